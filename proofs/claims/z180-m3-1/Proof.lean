import JvmDerived
import JvmDerived.Pilot.@@N@@Statement
import JvmDerived.Pilot.@@N@@Code
set_option linter.unusedVariables false
set_option linter.unusedSimpArgs false
namespace Jvm.RoadKit
open Sem ClassFile Op Lib Jvm.Stand Jvm.Free Jvm.LawKit
section New
variable {p : Program} {l : Launch} {e : Env} {R : Room} {s : State} {m : MethodId} {args : Array Value} {below : List Frame} {meth : Method} {c : Code} {T : State} {locs : List Loc} {cells slots : Nat}
theorem retI (X : Stand p l e R s m args below meth c T locs cells slots) (hx : p.tables.exec = Jvm.exec) {pc : Nat} {Ls : Array Slot} {z : Int32} {rest : List Value} (hret : meth.sig.returnType = some .int) (hd : decode c.code pc = .ok (.ireturn, 1)) {fs : List Frame}
    (hl : ∀ (f : JFrame) (acts : List Action), f.method = m → f.locked = none → f.entered = [] → (doReturn e (T.setTop f) acts (some (.int z))).1 = T.setFrames fs) : Steps p.tables e below (T.setTop (mkF m pc Ls (.int z :: rest))) (T.setFrames fs) := by
  have hm' : T.vm.method? m = some meth := X.method'
  have hn : narrow .int (.int z) = .int z := rfl
  show Steps p.tables e below (T.setTop { method := m, pc := pc, locals := Ls, stack := _ :: rest, locked := none }) _
  jvm_step X.here [X.here.top, hx, hd, hm', hret, hn]
  first | (intro acts; rw [hl _ acts rfl rfl rfl]) | rw [hl _ _ rfl rfl rfl]
  exact Steps.refl _
end New
end Jvm.RoadKit
namespace Jvm.Pilot.@@N@@
open Jvm Jvm.ClassFile Sem Op Lib Jvm.Free Jvm.Stand Jvm.LawKit Jvm.RoadKit Bundle Jvm.Pilot.@@N@@.Jvm.D
theorem pn_0 : plainName "java/util/Arrays" = true := by first | (simp [plainName, overriddenIn]; done) | decide +kernel
theorem pn_1 : plainName "com/example/queries_over_knowledge/queriesoverknowledge/reasoning/LongList" = true := by first | (simp [plainName, overriddenIn]; done) | decide +kernel
theorem pn_2 : plainName "com/example/queries_over_knowledge/queriesoverknowledge/reasoning/LongListRemoveLastPinLaw" = true := by first | (simp [plainName, overriddenIn]; done) | decide +kernel
theorem pd_0 : parseMethodDescriptor "(II)I" = some ⟨[.int, .int], some .int⟩ := by decide +kernel
theorem pd_1 : parseMethodDescriptor "([JI)[J" = some ⟨[(.array .long), .int], some (.array .long)⟩ := by decide +kernel
theorem pd_2 : parseMethodDescriptor "()V" = some ⟨[], none⟩ := by decide +kernel
theorem pd_3 : parseMethodDescriptor "(J)V" = some ⟨[.long], none⟩ := by decide +kernel
theorem pd_4 : parseMethodDescriptor "()J" = some ⟨[], some .long⟩ := by decide +kernel
theorem pd_5 : parseMethodDescriptor "()I" = some ⟨[], some .int⟩ := by decide +kernel
theorem pd_6 : parseMethodDescriptor "()[J" = some ⟨[], some (.array .long)⟩ := by decide +kernel
theorem d1_0 : decode prog_37_method_1_code 0 = .ok (.aload_n 0, 1) := by decide +kernel
theorem d1_1 : decode prog_37_method_1_code 1 = .ok (.invokespecial 1, 3) := by decide +kernel
theorem d1_4 : decode prog_37_method_1_code 4 = .ok (.aload_n 0, 1) := by decide +kernel
theorem d1_5 : decode prog_37_method_1_code 5 = .ok (.iconst 4, 1) := by decide +kernel
theorem d1_6 : decode prog_37_method_1_code 6 = .ok (.newarray .long, 2) := by decide +kernel
theorem d1_8 : decode prog_37_method_1_code 8 = .ok (.putfield 7, 3) := by decide +kernel
theorem d1_11 : decode prog_37_method_1_code 11 = .ok (.return_, 1) := by decide +kernel
theorem d3_0 : decode prog_37_method_2_code 0 = .ok (.aload_n 0, 1) := by decide +kernel
theorem d3_1 : decode prog_37_method_2_code 1 = .ok (.getfield 13, 3) := by decide +kernel
theorem d3_4 : decode prog_37_method_2_code 4 = .ok (.aload_n 0, 1) := by decide +kernel
theorem d3_5 : decode prog_37_method_2_code 5 = .ok (.getfield 7, 3) := by decide +kernel
theorem d3_8 : decode prog_37_method_2_code 8 = .ok (.arraylength, 1) := by decide +kernel
theorem d3_9 : decode prog_37_method_2_code 9 = .ok (.if_icmp .ne 20, 3) := by decide +kernel
theorem d3_12 : decode prog_37_method_2_code 12 = .ok (.aload_n 0, 1) := by decide +kernel
theorem d3_13 : decode prog_37_method_2_code 13 = .ok (.aload_n 0, 1) := by decide +kernel
theorem d3_14 : decode prog_37_method_2_code 14 = .ok (.getfield 7, 3) := by decide +kernel
theorem d3_17 : decode prog_37_method_2_code 17 = .ok (.aload_n 0, 1) := by decide +kernel
theorem d3_18 : decode prog_37_method_2_code 18 = .ok (.getfield 13, 3) := by decide +kernel
theorem d3_21 : decode prog_37_method_2_code 21 = .ok (.iconst 2, 1) := by decide +kernel
theorem d3_22 : decode prog_37_method_2_code 22 = .ok (.imul, 1) := by decide +kernel
theorem d3_23 : decode prog_37_method_2_code 23 = .ok (.invokestatic 17, 3) := by decide +kernel
theorem d3_26 : decode prog_37_method_2_code 26 = .ok (.putfield 7, 3) := by decide +kernel
theorem d3_29 : decode prog_37_method_2_code 29 = .ok (.aload_n 0, 1) := by decide +kernel
theorem d3_30 : decode prog_37_method_2_code 30 = .ok (.getfield 7, 3) := by decide +kernel
theorem d3_33 : decode prog_37_method_2_code 33 = .ok (.aload_n 0, 1) := by decide +kernel
theorem d3_34 : decode prog_37_method_2_code 34 = .ok (.dup, 1) := by decide +kernel
theorem d3_35 : decode prog_37_method_2_code 35 = .ok (.getfield 13, 3) := by decide +kernel
theorem d3_38 : decode prog_37_method_2_code 38 = .ok (.dup_x1, 1) := by decide +kernel
theorem d3_39 : decode prog_37_method_2_code 39 = .ok (.iconst 1, 1) := by decide +kernel
theorem d3_40 : decode prog_37_method_2_code 40 = .ok (.iadd, 1) := by decide +kernel
theorem d3_41 : decode prog_37_method_2_code 41 = .ok (.putfield 13, 3) := by decide +kernel
theorem d3_44 : decode prog_37_method_2_code 44 = .ok (.lload_n 1, 1) := by decide +kernel
theorem d3_45 : decode prog_37_method_2_code 45 = .ok (.lastore, 1) := by decide +kernel
theorem d3_46 : decode prog_37_method_2_code 46 = .ok (.return_, 1) := by decide +kernel
theorem d4_0 : decode prog_37_method_3_code 0 = .ok (.aload_n 0, 1) := by decide +kernel
theorem d4_1 : decode prog_37_method_3_code 1 = .ok (.getfield 7, 3) := by decide +kernel
theorem d4_4 : decode prog_37_method_3_code 4 = .ok (.aload_n 0, 1) := by decide +kernel
theorem d4_5 : decode prog_37_method_3_code 5 = .ok (.dup, 1) := by decide +kernel
theorem d4_6 : decode prog_37_method_3_code 6 = .ok (.getfield 13, 3) := by decide +kernel
theorem d4_9 : decode prog_37_method_3_code 9 = .ok (.iconst 1, 1) := by decide +kernel
theorem d4_10 : decode prog_37_method_3_code 10 = .ok (.isub, 1) := by decide +kernel
theorem d4_11 : decode prog_37_method_3_code 11 = .ok (.dup_x1, 1) := by decide +kernel
theorem d4_12 : decode prog_37_method_3_code 12 = .ok (.putfield 13, 3) := by decide +kernel
theorem d4_15 : decode prog_37_method_3_code 15 = .ok (.laload, 1) := by decide +kernel
theorem d4_16 : decode prog_37_method_3_code 16 = .ok (.lreturn, 1) := by decide +kernel
theorem d5_0 : decode prog_37_method_5_code 0 = .ok (.aload_n 0, 1) := by decide +kernel
theorem d5_1 : decode prog_37_method_5_code 1 = .ok (.getfield 13, 3) := by decide +kernel
theorem d5_4 : decode prog_37_method_5_code 4 = .ok (.ireturn, 1) := by decide +kernel
theorem d6_0 : decode prog_37_method_4_code 0 = .ok (.aload_n 0, 1) := by decide +kernel
theorem d6_1 : decode prog_37_method_4_code 1 = .ok (.getfield 7, 3) := by decide +kernel
theorem d6_4 : decode prog_37_method_4_code 4 = .ok (.aload_n 0, 1) := by decide +kernel
theorem d6_5 : decode prog_37_method_4_code 5 = .ok (.getfield 13, 3) := by decide +kernel
theorem d6_8 : decode prog_37_method_4_code 8 = .ok (.invokestatic 17, 3) := by decide +kernel
theorem d6_11 : decode prog_37_method_4_code 11 = .ok (.areturn, 1) := by decide +kernel
theorem d7_0 : decode jdk_65_method_124_code 0 = .ok (.iload_n 1, 1) := by decide +kernel
theorem d7_1 : decode jdk_65_method_124_code 1 = .ok (.aload_n 0, 1) := by decide +kernel
theorem d7_2 : decode jdk_65_method_124_code 2 = .ok (.arraylength, 1) := by decide +kernel
theorem d7_3 : decode jdk_65_method_124_code 3 = .ok (.if_icmp .ne 11, 3) := by decide +kernel
theorem d7_14 : decode jdk_65_method_124_code 14 = .ok (.iload_n 1, 1) := by decide +kernel
theorem d7_15 : decode jdk_65_method_124_code 15 = .ok (.newarray .long, 2) := by decide +kernel
theorem d7_17 : decode jdk_65_method_124_code 17 = .ok (.astore_n 2, 1) := by decide +kernel
theorem d7_18 : decode jdk_65_method_124_code 18 = .ok (.aload_n 0, 1) := by decide +kernel
theorem d7_19 : decode jdk_65_method_124_code 19 = .ok (.iconst 0, 1) := by decide +kernel
theorem d7_20 : decode jdk_65_method_124_code 20 = .ok (.aload_n 2, 1) := by decide +kernel
theorem d7_21 : decode jdk_65_method_124_code 21 = .ok (.iconst 0, 1) := by decide +kernel
theorem d7_22 : decode jdk_65_method_124_code 22 = .ok (.aload_n 0, 1) := by decide +kernel
theorem d7_23 : decode jdk_65_method_124_code 23 = .ok (.arraylength, 1) := by decide +kernel
theorem d7_24 : decode jdk_65_method_124_code 24 = .ok (.iload_n 1, 1) := by decide +kernel
theorem d7_25 : decode jdk_65_method_124_code 25 = .ok (.invokestatic 304, 3) := by decide +kernel
theorem d7_28 : decode jdk_65_method_124_code 28 = .ok (.invokestatic 150, 3) := by decide +kernel
theorem d7_31 : decode jdk_65_method_124_code 31 = .ok (.aload_n 2, 1) := by decide +kernel
theorem d7_32 : decode jdk_65_method_124_code 32 = .ok (.areturn, 1) := by decide +kernel
theorem d8_0 : decode jdk_29_method_69_code 0 = .ok (.iload_n 0, 1) := by decide +kernel
theorem d8_1 : decode jdk_29_method_69_code 1 = .ok (.iload_n 1, 1) := by decide +kernel
theorem d8_2 : decode jdk_29_method_69_code 2 = .ok (.if_icmp .gt 7, 3) := by decide +kernel
theorem d8_5 : decode jdk_29_method_69_code 5 = .ok (.iload_n 0, 1) := by decide +kernel
theorem d8_6 : decode jdk_29_method_69_code 6 = .ok (.goto 4, 3) := by decide +kernel
theorem d8_9 : decode jdk_29_method_69_code 9 = .ok (.iload_n 1, 1) := by decide +kernel
theorem d8_10 : decode jdk_29_method_69_code 10 = .ok (.ireturn, 1) := by decide +kernel
def g8_10 (p1 : Int32) (p2 : Int32)  (z10_0 : Int32) : Int32 := z10_0
def g8_9 (p1 : Int32) (p2 : Int32)   : Int32 := (g8_10 p1 p2  p2)
def g8_5 (p1 : Int32) (p2 : Int32)   : Int32 := (g8_10 p1 p2  p1)
def g8_0 (p1 : Int32) (p2 : Int32)   : Int32 := if p2 < p1 then (g8_9 p1 p2  ) else (g8_5 p1 p2  )
theorem own_k (x : Int32) {K : Int32} (h : K = ((x &&& (2147483647 : Int32)) - ((x &&& (2147483647 : Int32)) / (5 : Int32)) * (5 : Int32)) + (1 : Int32)) : K = 1 ∨ K = 2 ∨ K = 3 ∨ K = 4 ∨ K = 5 := by
  have m1 := (c_and x 2147483647 (by decide)).1
  have q : ((x &&& (2147483647 : Int32)) - ((x &&& (2147483647 : Int32)) / (5 : Int32)) * (5 : Int32)).toInt = (x &&& (2147483647 : Int32)).toInt % 5 := by
    rw [rem_toInt, Int.tmod_eq_emod_of_nonneg m1]; rfl
  generalize (x &&& (2147483647 : Int32)) - ((x &&& (2147483647 : Int32)) / (5 : Int32)) * (5 : Int32) = y at q h
  have a := c_iadd y 1
  have e1 : (1 : Int32).toInt = 1 := rfl
  rw [← h] at a
  have := rng32 K; have := rng32 y
  simp only [← Int32.toInt_inj, show (1 : Int32).toInt = 1 from rfl, show (2 : Int32).toInt = 2 from rfl, show (3 : Int32).toInt = 3 from rfl, show (4 : Int32).toInt = 4 from rfl, show (5 : Int32).toInt = 5 from rfl]
  omega
theorem ef_8 (m : MethodId) (p1 : Int32) (p2 : Int32) : entryFrame m #[(.int p1), (.int p2)] 2 = mkF m 0 #[.val (.int p1), .val (.int p2)] [] := by first | (simp [entryFrame, mkF, argsToLocals, Value.category]; done) | rfl
def Q8 (Z : State) (p1 : Int32) (p2 : Int32)  (h0 : Heap) (n0 : Nat) (v : Option Value) (h : Heap) (L : List Loc) : Prop := v = some (.int (g8_0 p1 p2 )) ∧ Fr n0 L ∧ h = h0
set_option maxRecDepth 65536 in
set_option maxHeartbeats 40000000 in
theorem rm8 (l : Launch) (Z : State) (a0 : Array Value) (hw : ∀ d ∈ tables_1, d.before a0 Z = true) (ws : List Jvm.Cond) (p1 : Int32) (p2 : Int32)  (h0 : Heap) (n0 : Nat) (Z0 : n0 ≤ h0.size) :
    MetFree l (⟨"java/lang/Math", "min", "(II)I"⟩ : MethodName) (head1 (Jvm.Cond.code (⟨"java/lang/Math", "min", "(II)I"⟩ : MethodName) jdk_29_method_69_code 2 (some .int) :: ws) ({ frames := 0, cells := 0, slots := 0, locals := 0 } : Room)) (fun a U => a = #[(.int p1), (.int p2)] ∧ Z.Warmed39 U.vm ∧ U.heap = h0) (fun _ _ _ _ _ => True) (fun _ U o U' => ∃ v L, o = .returned v ∧ Q8 Z p1 p2 h0 n0 v U'.heap L ∧ FrameEnd U o U' L ({ frames := 0, cells := 0, slots := 0, locals := 0 } : Room).cells ({ frames := 0, cells := 0, slots := 0, locals := 0 } : Room).slots) := by
  refine MetFree.of_bodySF (Jvm.Free.JP.mathPlain rfl (by decide +kernel)) hisR ?_
  intro p e s m args below meth c s₁ Bd hml0 hP hK
  obtain ⟨rfl, hZ, hh⟩ := hP
  have hx := Bd.exec
  have hby := Bd.bytes
  have hml : c.maxLocals = 2 := hml0
  have hown : s.vm.findClass "java/lang/Math" = some m.cls := findClass_of_methodNamed Bd.named
  have hnm := (name_of_methodNamed Bd.named Bd.method).1
  have X0 : Stand p l e ({ frames := 0, cells := 0, slots := 0, locals := 0 } : Room) s m #[(.int p1), (.int p2)] below meth c s₁ [] 0 0 := Stand.of_body Bd
  have e0 : s₁.heap = h0 := by rw [← hh, Bd.state]; rfl
  have N0 := Fr.nil n0
  have pre0 : ∀ t, Steps p.tables e below (s₁.setTop (mkF m 0 #[.val (.int p1), .val (.int p2)] [])) t → Steps p.tables e below (s₁.setTop (entryFrame m #[(.int p1), (.int p2)] 2)) t := fun t k => castTop (ef_8 m p1 p2) k
  obtain ⟨V, hV⟩ : ∃ V : Int32, V = g8_0 p1 p2  := ⟨_, rfl⟩
  obtain ⟨fs, hr, hrun, hended, hW, hsame⟩ := X0.leave (v := some (.int V)) (fun h => by rw [Bd.returns] at h; cases h)
  have b10 : ∀ (z10_0 : Int32), V = (g8_10 p1 p2  z10_0) → Steps p.tables e below (s₁.setTop (mkF m 10 #[.val (.int p1), .val (.int p2)] [(.int z10_0)])) (s₁.setFrames fs) := by
    intro z10_0 hv
    show Steps p.tables e below (s₁.setTop (mkF m 10 #[.val (.int p1), .val (.int p2)] [(.int z10_0)])) _
    have hv' : V = z10_0 := hv
    clear hv
    subst hv'
    exact retI X0 hx Bd.returns (hb hby d8_10) hr
  have b9 : V = (g8_9 p1 p2  ) → Steps p.tables e below (s₁.setTop (mkF m 9 #[.val (.int p1), .val (.int p2)] [])) (s₁.setFrames fs) := by
    intro  hv
    show Steps p.tables e below (s₁.setTop (mkF m 9 #[.val (.int p1), .val (.int p2)] [])) _
    refine XS.iloadN X0.here hx rfl (hb hby d8_9) rfl ?_
    show Steps p.tables e below (s₁.setTop (mkF m 10 #[.val (.int p1), .val (.int p2)] [(.int p2)])) _
    exact b10 p2 hv
  have b5 : V = (g8_5 p1 p2  ) → Steps p.tables e below (s₁.setTop (mkF m 5 #[.val (.int p1), .val (.int p2)] [])) (s₁.setFrames fs) := by
    intro  hv
    show Steps p.tables e below (s₁.setTop (mkF m 5 #[.val (.int p1), .val (.int p2)] [])) _
    refine XS.iloadN X0.here hx rfl (hb hby d8_5) rfl ?_
    show Steps p.tables e below (s₁.setTop (mkF m 6 #[.val (.int p1), .val (.int p2)] [(.int p1)])) _
    refine XS.goto X0.here hx rfl (pc0 := 6) (pc' := 10) rfl (hb hby d8_6) (by decide) (by decide) ?_
    show Steps p.tables e below (s₁.setTop (mkF m 10 #[.val (.int p1), .val (.int p2)] [(.int p1)])) _
    exact b10 p1 hv
  have b0 : V = (g8_0 p1 p2  ) → Steps p.tables e below (s₁.setTop (mkF m 0 #[.val (.int p1), .val (.int p2)] [])) (s₁.setFrames fs) := by
    intro  hv
    show Steps p.tables e below (s₁.setTop (mkF m 0 #[.val (.int p1), .val (.int p2)] [])) _
    refine XS.iloadN X0.here hx rfl (hb hby d8_0) rfl ?_
    show Steps p.tables e below (s₁.setTop (mkF m 1 #[.val (.int p1), .val (.int p2)] [(.int p1)])) _
    refine XS.iloadN X0.here hx rfl (hb hby d8_1) rfl ?_
    show Steps p.tables e below (s₁.setTop (mkF m 2 #[.val (.int p1), .val (.int p2)] [(.int p2), (.int p1)])) _
    by_cases hc : p2 < p1
    · refine XS.icmpYes X0.here hx rfl (pc0 := 2) (pc' := 9) rfl (hb hby d8_2) rfl (tlt hc).2.2.1 (by decide) (by decide) ?_
      show Steps p.tables e below (s₁.setTop (mkF m 9 #[.val (.int p1), .val (.int p2)] [])) _
      exact b9  (hv.trans (show (g8_0 p1 p2  ) = (g8_9 p1 p2  ) from if_pos hc))
    · refine XS.icmpNo X0.here hx rfl (hb hby d8_2) rfl (flt hc).2.2.1 ?_
      show Steps p.tables e below (s₁.setTop (mkF m 5 #[.val (.int p1), .val (.int p2)] [])) _
      exact b5  (hv.trans (show (g8_0 p1 p2  ) = (g8_5 p1 p2  ) from if_neg hc))
  refine ⟨_, _, pre0 _ (b0 hV), hrun, hended, _, _, rfl, ?_, ⟨_, rfl⟩, hW, hsame.mono (by decide) (by decide)⟩
  show Q8 Z p1 p2  h0 n0 _ s₁.heap _
  rw [e0, hV]
  exact ⟨rfl, N0, rfl⟩
theorem ef_7 (m : MethodId) (a1 : Addr) (p2 : Int32) : entryFrame m #[(.ref a1), (.int p2)] 3 = mkF m 0 #[.val (.ref a1), .val (.int p2), .unset] [] := by first | (simp [entryFrame, mkF, argsToLocals, Value.category]; done) | rfl
def Q7 (Z : State) (a1 : Addr) (p2 : Int32) (ka : ClassId) (n mm : Int32) (vs us ws' : List Value) (h0 : Heap) (n0 : Nat) (v : Option Value) (h : Heap) (L : List Loc) : Prop := ∃ (r : Addr) (kr : ClassId), v = some (.ref r) ∧ Fr n0 L ∧ Keep h0 h [] ∧ n0 ≤ r ∧ h0.size ≤ r ∧ Arv Z h r kr .long p2 ws' (.long (0 : Int64))
set_option maxRecDepth 65536 in
set_option maxHeartbeats 40000000 in
theorem rm7 (l : Launch) (Z : State) (a0 : Array Value) (hw : ∀ d ∈ tables_1, d.before a0 Z = true) (ws : List Jvm.Cond) (a1 : Addr) (p2 : Int32) (ka : ClassId) (n mm : Int32) (vs us ws' : List Value) (h0 : Heap) (n0 : Nat) (Z0 : n0 ≤ h0.size) (V_a1 : Arv Z h0 a1 ka .long n vs (.long (0 : Int64))) (hne : ¬ (p2 = n)) (hp1 : ¬ p2 < 0) (hp2 : p2.toNatClampNeg ≤ 8) (hmm : g8_0 n p2 = mm) (hp3 : ¬ mm < 0) (hp4 : mm.toNatClampNeg ≤ n.toNatClampNeg) (hp5 : mm.toNatClampNeg ≤ p2.toNatClampNeg) (hus : us = (List.range mm.toNatClampNeg).map fun i => vs.getD ((0 : Int32).toNatClampNeg + i) (.long (0 : Int64))) (hws : ((List.replicate p2.toNatClampNeg (.long (0 : Int64))).take (0 : Int32).toNatClampNeg ++ us ++ (List.replicate p2.toNatClampNeg (.long (0 : Int64))).drop ((0 : Int32).toNatClampNeg + mm.toNatClampNeg)) = ws') :
    MetFree l (⟨"java/util/Arrays", "copyOf", "([JI)[J"⟩ : MethodName) (head1 (Jvm.Cond.code (⟨"java/util/Arrays", "copyOf", "([JI)[J"⟩ : MethodName) jdk_65_method_124_code 3 (some (.array .long)) :: ws) ({ frames := 1, cells := 1, slots := 8, locals := 60 } : Room)) (fun a U => a = #[(.ref a1), (.int p2)] ∧ Z.Warmed39 U.vm ∧ U.heap = h0) (fun _ _ _ _ _ => True) (fun _ U o U' => ∃ v L, o = .returned v ∧ Q7 Z a1 p2 ka n mm vs us ws' h0 n0 v U'.heap L ∧ FrameEnd U o U' L ({ frames := 1, cells := 1, slots := 8, locals := 60 } : Room).cells ({ frames := 1, cells := 1, slots := 8, locals := 60 } : Room).slots) := by
  refine MetFree.of_bodySF (plainFor_of_name pn_0) hisR ?_
  intro p e s m args below meth c s₁ Bd hml0 hP hK
  obtain ⟨rfl, hZ, hh⟩ := hP
  have hx := Bd.exec
  have hby := Bd.bytes
  have hml : c.maxLocals = 3 := hml0
  have hown : s.vm.findClass "java/util/Arrays" = some m.cls := findClass_of_methodNamed Bd.named
  have hnm := (name_of_methodNamed Bd.named Bd.method).1
  have X0 : Stand p l e ({ frames := 1, cells := 1, slots := 8, locals := 60 } : Room) s m #[(.ref a1), (.int p2)] below meth c s₁ [] 0 0 := Stand.of_body Bd
  have e0 : s₁.heap = h0 := by rw [← hh, Bd.state]; rfl
  have N0 := Fr.nil n0
  have pre0 : ∀ t, Steps p.tables e below (s₁.setTop (mkF m 0 #[.val (.ref a1), .val (.int p2), .unset] [])) t → Steps p.tables e below (s₁.setTop (entryFrame m #[(.ref a1), (.int p2)] 3)) t := fun t k => castTop (ef_7 m a1 p2) k
  obtain ⟨cl, Ar, qA, SA, MA, HA, UA⟩ := id V_a1
  have G1 : ∀ t, Steps p.tables e below (s₁.setTop (mkF m 15 #[.val (.ref a1), .val (.int p2), .unset] [(.int p2)])) t → Steps p.tables e below (s₁.setTop (entryFrame m #[(.ref a1), (.int p2)] 3)) t := by
    intro t kt
    refine pre0 t ?_
    show Steps p.tables e below (s₁.setTop (mkF m 0 #[.val (.ref a1), .val (.int p2), .unset] [])) _
    refine XS.iloadN X0.here hx rfl (hb hby d7_0) rfl ?_
    show Steps p.tables e below (s₁.setTop (mkF m 1 #[.val (.ref a1), .val (.int p2), .unset] [(.int p2)])) _
    refine XS.aloadN X0.here hx rfl (hb hby d7_1) rfl rfl ?_
    show Steps p.tables e below (s₁.setTop (mkF m 2 #[.val (.ref a1), .val (.int p2), .unset] [(.ref a1), (.int p2)])) _
    refine X0.arraylength hx (cell := cl) (by rw [e0]; exact Ar.1) (State.isArrayOf_alike hZ.alike Ar.2.1) (g := (mkF m 2 #[.val (.ref a1), .val (.int p2), .unset] [(.ref a1), (.int p2)])) rfl rfl (hb hby d7_2) _ ?_
    rw [len_of SA MA]
    show Steps p.tables e below (s₁.setTop (mkF m 3 #[.val (.ref a1), .val (.int p2), .unset] [(.int n), (.int p2)])) _
    refine XS.icmpYes X0.here hx rfl (pc0 := 3) (pc' := 14) rfl (hb hby d7_3) rfl (feq hne).2 (by decide) (by decide) ?_
    show Steps p.tables e below (s₁.setTop (mkF m 14 #[.val (.ref a1), .val (.int p2), .unset] [])) _
    refine XS.iloadN X0.here hx rfl (hb hby d7_14) rfl ?_
    show Steps p.tables e below (s₁.setTop (mkF m 15 #[.val (.ref a1), .val (.int p2), .unset] [(.int p2)])) _
    exact kt
  obtain ⟨T2, h2, k2, X2, e2, E2, A2, st2⟩ := newP X0 hx hZ (hw _ (List.mem_of_getElem? (i := 0) rfl)) e0 (g := (mkF m 15 #[.val (.ref a1), .val (.int p2), .unset] [(.int p2)])) rfl (hb hby d7_15) rfl hp1 (cap := 8) hp2 (by decide) (by decide) (by decide)
  obtain ⟨b2, g2⟩ : ∃ z, z = h0.size := ⟨_, rfl⟩
  rw [← g2] at A2 st2
  have g_b2 : n0 ≤ b2 := Nat.le_trans Z0 (Nat.le_of_eq g2.symm)
  have sz_b2 : h0.size ≤ b2 := Nat.le_trans (Keep.refl h0 []).1 (Nat.le_of_eq g2.symm)
  have ne_a1_b2 : a1 ≠ b2 := Nat.ne_of_lt (Nat.lt_of_lt_of_le V_a1.lt (Nat.le_of_eq g2.symm))
  have V_a1_2 : Arv Z h2 a1 ka .long n vs (.long (0 : Int64)) := V_a1.ext E2
  have Z2 : n0 ≤ h2.size := Nat.le_trans Z0 E2.1
  have KK2 : Keep h0 h2 [] := (Keep.refl h0 []).ext E2
  have V_b2 : Arv Z h2 b2 k2 .long p2 [] (.long (0 : Int64)) := (Arv.new A2 hp1).pad (pad_rep [] (.long (0 : Int64)) 0)
  have G2 : ∀ t, Steps p.tables e below (T2.setTop (mkF m 17 #[.val (.ref a1), .val (.int p2), .unset] [(.ref b2)])) t → Steps p.tables e below (s₁.setTop (entryFrame m #[(.ref a1), (.int p2)] 3)) t := fun t kt => G1 t (st2 t kt)
  have VR : Arv Z h2 b2 k2 .long p2 (List.replicate p2.toNatClampNeg (.long (0 : Int64))) (.long (0 : Int64)) := V_b2.pad (fun i => pad_rep [] (.long (0 : Int64)) p2.toNatClampNeg i)
  obtain ⟨cl2, Ar2, qA2, SA2, MA2, HA2, UA2⟩ := id V_a1_2
  have G3 : ∀ t, Steps p.tables e below (T2.setTop (mkF m 25 #[.val (.ref a1), .val (.int p2), .val (.ref b2)] [(.int p2), (.int n), (.int (0 : Int32)), (.ref b2), (.int (0 : Int32)), (.ref a1)])) t → Steps p.tables e below (s₁.setTop (entryFrame m #[(.ref a1), (.int p2)] 3)) t := by
    intro t kt
    refine G2 t ?_
    show Steps p.tables e below (T2.setTop (mkF m 17 #[.val (.ref a1), .val (.int p2), .unset] [(.ref b2)])) _
    refine XS.astoreN X2.here hx rfl (hb hby d7_17) rfl rfl (l' := #[.val (.ref a1), .val (.int p2), .val (.ref b2)]) rfl ?_
    show Steps p.tables e below (T2.setTop (mkF m 18 #[.val (.ref a1), .val (.int p2), .val (.ref b2)] [])) _
    refine XS.aloadN X2.here hx rfl (hb hby d7_18) rfl rfl ?_
    show Steps p.tables e below (T2.setTop (mkF m 19 #[.val (.ref a1), .val (.int p2), .val (.ref b2)] [(.ref a1)])) _
    refine XS.iconst X2.here hx rfl (hb hby d7_19) ?_
    show Steps p.tables e below (T2.setTop (mkF m 20 #[.val (.ref a1), .val (.int p2), .val (.ref b2)] [(.int (0 : Int32)), (.ref a1)])) _
    refine XS.aloadN X2.here hx rfl (hb hby d7_20) rfl rfl ?_
    show Steps p.tables e below (T2.setTop (mkF m 21 #[.val (.ref a1), .val (.int p2), .val (.ref b2)] [(.ref b2), (.int (0 : Int32)), (.ref a1)])) _
    refine XS.iconst X2.here hx rfl (hb hby d7_21) ?_
    show Steps p.tables e below (T2.setTop (mkF m 22 #[.val (.ref a1), .val (.int p2), .val (.ref b2)] [(.int (0 : Int32)), (.ref b2), (.int (0 : Int32)), (.ref a1)])) _
    refine XS.aloadN X2.here hx rfl (hb hby d7_22) rfl rfl ?_
    show Steps p.tables e below (T2.setTop (mkF m 23 #[.val (.ref a1), .val (.int p2), .val (.ref b2)] [(.ref a1), (.int (0 : Int32)), (.ref b2), (.int (0 : Int32)), (.ref a1)])) _
    refine X2.arraylength hx (cell := cl2) (by rw [e2]; exact Ar2.1) (State.isArrayOf_alike hZ.alike Ar2.2.1) (g := (mkF m 23 #[.val (.ref a1), .val (.int p2), .val (.ref b2)] [(.ref a1), (.int (0 : Int32)), (.ref b2), (.int (0 : Int32)), (.ref a1)])) rfl rfl (hb hby d7_23) _ ?_
    rw [len_of SA2 MA2]
    show Steps p.tables e below (T2.setTop (mkF m 24 #[.val (.ref a1), .val (.int p2), .val (.ref b2)] [(.int n), (.int (0 : Int32)), (.ref b2), (.int (0 : Int32)), (.ref a1)])) _
    refine XS.iloadN X2.here hx rfl (hb hby d7_24) rfl ?_
    show Steps p.tables e below (T2.setTop (mkF m 25 #[.val (.ref a1), .val (.int p2), .val (.ref b2)] [(.int p2), (.int n), (.int (0 : Int32)), (.ref b2), (.int (0 : Int32)), (.ref a1)])) _
    exact kt
  obtain ⟨_, _, ⟨T4, L4, k4, n4⟩, -, X4, ⟨Lc4, hQ4, l4, y4, z4⟩, st4⟩ := Jvm.LawKit.callS X2 hx (y := (⟨"java/lang/Math", "min", "(II)I"⟩ : MethodName)) hown (mvT hZ (hw _ (List.mem_of_getElem? (i := 39) rfl))) (mvT hZ (hw _ (List.mem_of_getElem? (i := 40) rfl))) (mvT hZ (hw _ (List.mem_of_getElem? (i := 41) rfl))) (mvT hZ (hw _ (List.mem_of_getElem? (i := 42) rfl))) (by decide) (backOf (W := 4) (rm8 l Z a0 hw [] n p2  h2 n0 Z2 ) hZ (hw _ (List.mem_of_getElem? (i := 42) rfl)) (hw _ (List.mem_of_getElem? (i := 41) rfl)) (by decide) (by decide)) (g := (mkF m 25 #[.val (.ref a1), .val (.int p2), .val (.ref b2)] [(.int p2), (.int n), (.int (0 : Int32)), (.ref b2), (.int (0 : Int32)), (.ref a1)])) rfl (by rw [hml]; rfl) (argsL := [(.int n), (.int p2)]) (rest := [(.int (0 : Int32)), (.ref b2), (.int (0 : Int32)), (.ref a1)]) (lenOf pd_0 rfl) rfl (by show 2 * 0 + _ ≤ _; exact Nat.le_of_eq rfl) (hb hby d7_25) (fun _ _ => ⟨rfl, e2, (by decide : 1 + 0 ≤ _), (by decide : 8 + 0 ≤ _)⟩)
  dsimp only [Pt.U, Pt.locs, Pt.cells, Pt.slots] at X4 l4 y4 z4 st4 hQ4
  subst l4 y4 z4
  obtain ⟨rfl, N4q, e4⟩ := hQ4
  have N4 := Fr.app N0 N4q
  have G4 : ∀ t, Steps p.tables e below (T4.setTop (mkF m 28 #[.val (.ref a1), .val (.int p2), .val (.ref b2)] [(.int (g8_0 n p2)), (.int (0 : Int32)), (.ref b2), (.int (0 : Int32)), (.ref a1)])) t → Steps p.tables e below (s₁.setTop (entryFrame m #[(.ref a1), (.int p2)] 3)) t := fun t kt => G3 t (st4 t kt)
  have G5 : ∀ t, Steps p.tables e below (T4.setTop (mkF m 28 #[.val (.ref a1), .val (.int p2), .val (.ref b2)] [(.int mm), (.int (0 : Int32)), (.ref b2), (.int (0 : Int32)), (.ref a1)])) t → Steps p.tables e below (s₁.setTop (entryFrame m #[(.ref a1), (.int p2)] 3)) t := by
    intro t kt
    refine G4 t ?_
    rw [hmm]
    exact kt
  obtain ⟨T6, h6, L6, X6, e6, NC6, K6, VC6, st6⟩ := cpA X4 hx hZ hown (hw _ (List.mem_of_getElem? (i := 43) rfl)) (hw _ (List.mem_of_getElem? (i := 46) rfl)) (hw _ (List.mem_of_getElem? (i := 44) rfl)) (hw _ (List.mem_of_getElem? (i := 45) rfl)) e4 V_a1_2 VR (Or.inl ⟨rfl, rfl⟩) (sp := (0 : Int32)) (dp := (0 : Int32)) (nn := mm) (by decide) (by decide) hp3 (by show 0 + _ ≤ _; omega) (by show 0 + _ ≤ _; omega) hus (by rw [List.length_replicate]; show 0 + _ ≤ _; omega) N4 g_b2 (g := (mkF m 28 #[.val (.ref a1), .val (.int p2), .val (.ref b2)] [(.int mm), (.int (0 : Int32)), (.ref b2), (.int (0 : Int32)), (.ref a1)])) rfl (by rw [hml]; rfl) rfl (hb hby d7_28) (by decide) (W := 0) (by show 2 * 0 + _ ≤ _; exact Nat.le_of_eq rfl) (by decide)
  rw [hws] at VC6
  have KK6 : Keep h0 h6 [] := KK2.trans K6 (allS (Or.inr sz_b2) all0)
  have G6 : ∀ t, Steps p.tables e below (T6.setTop (mkF m 31 #[.val (.ref a1), .val (.int p2), .val (.ref b2)] [])) t → Steps p.tables e below (s₁.setTop (entryFrame m #[(.ref a1), (.int p2)] 3)) t := fun t kt => G5 t (st6 t kt)
  have G7 : ∀ t, Steps p.tables e below (T6.setTop (mkF m 32 #[.val (.ref a1), .val (.int p2), .val (.ref b2)] [(.ref b2)])) t → Steps p.tables e below (s₁.setTop (entryFrame m #[(.ref a1), (.int p2)] 3)) t := by
    intro t kt
    refine G6 t ?_
    show Steps p.tables e below (T6.setTop (mkF m 31 #[.val (.ref a1), .val (.int p2), .val (.ref b2)] [])) _
    refine XS.aloadN X6.here hx rfl (hb hby d7_31) rfl rfl ?_
    show Steps p.tables e below (T6.setTop (mkF m 32 #[.val (.ref a1), .val (.int p2), .val (.ref b2)] [(.ref b2)])) _
    exact kt
  obtain ⟨fs, hr, hrun, hended, hW, hsame⟩ := X6.leave (v := some (.ref b2)) (fun h => by rw [Bd.returns] at h; cases h)
  refine ⟨_, _, G7 _ ?_, hrun, hended, _, _, rfl, ?_, ⟨_, rfl⟩, hW, hsame.mono (by decide) (by decide)⟩
  · show Steps p.tables e below (T6.setTop (mkF m 32 #[.val (.ref a1), .val (.int p2), .val (.ref b2)] [(.ref b2)])) _
    jvm_step X6.here [X6.here.top, hx, (hb hby d7_32), X6.method', Bd.returns, Value.isRef, FieldType.isReference]
    first | (intro acts; rw [hr _ acts rfl rfl rfl]) | rw [hr _ _ rfl rfl rfl]
    exact Steps.refl _
  · show Q7 Z a1 p2 ka n mm vs us ws' h0 n0 _ T6.heap _
    rw [e6]
    exact ⟨_, _, rfl, NC6, KK6, g_b2, sz_b2, VC6⟩
theorem ef_1 (m : MethodId) (a1 : Addr) : entryFrame m #[(.ref a1)] 1 = mkF m 0 #[.val (.ref a1)] [] := by first | (simp [entryFrame, mkF, argsToLocals, Value.category]; done) | rfl
def Q1 (Z : State) (a1 : Addr)  (h0 : Heap) (n0 : Nat) (v : Option Value) (h : Heap) (L : List Loc) : Prop := v = none ∧ Fr n0 L ∧ Keep h0 h [a1] ∧ Exa Z h a1 "com/example/queries_over_knowledge/queriesoverknowledge/reasoning/LongList" ∧ Fld Z h a1 "com/example/queries_over_knowledge/queriesoverknowledge/reasoning/LongList" "size" "I" (.int (0 : Int32)) ∧ ∃ (r : Addr) (kr : ClassId), n0 ≤ r ∧ h0.size ≤ r ∧ Fld Z h a1 "com/example/queries_over_knowledge/queriesoverknowledge/reasoning/LongList" "values" "[J" (.ref r) ∧ Arv Z h r kr .long (4 : Int32) [(.long (0 : Int64)), (.long (0 : Int64)), (.long (0 : Int64)), (.long (0 : Int64))] (.long (0 : Int64))
set_option maxRecDepth 65536 in
set_option maxHeartbeats 40000000 in
theorem rm1 (l : Launch) (Z : State) (a0 : Array Value) (hw : ∀ d ∈ tables_1, d.before a0 Z = true) (ws : List Jvm.Cond) (a1 : Addr)  (h0 : Heap) (n0 : Nat) (Z0 : n0 ≤ h0.size) (E_a1 : Exa Z h0 a1 "com/example/queries_over_knowledge/queriesoverknowledge/reasoning/LongList") (F_v : Fld Z h0 a1 "com/example/queries_over_knowledge/queriesoverknowledge/reasoning/LongList" "values" "[J" .null) (F_z : Fld Z h0 a1 "com/example/queries_over_knowledge/queriesoverknowledge/reasoning/LongList" "size" "I" (.int (0 : Int32))) (g_a1 : n0 ≤ a1) :
    MetFree l (⟨"com/example/queries_over_knowledge/queriesoverknowledge/reasoning/LongList", "<init>", "()V"⟩ : MethodName) (head1 (Jvm.Cond.code (⟨"com/example/queries_over_knowledge/queriesoverknowledge/reasoning/LongList", "<init>", "()V"⟩ : MethodName) prog_37_method_1_code 1 none :: ws) ({ frames := 1, cells := 1, slots := 4, locals := 12 } : Room)) (fun a U => a = #[(.ref a1)] ∧ Z.Warmed39 U.vm ∧ U.heap = h0) (fun _ _ _ _ _ => True) (fun _ U o U' => ∃ v L, o = .returned v ∧ Q1 Z a1 h0 n0 v U'.heap L ∧ FrameEnd U o U' L ({ frames := 1, cells := 1, slots := 4, locals := 12 } : Room).cells ({ frames := 1, cells := 1, slots := 4, locals := 12 } : Room).slots) := by
  refine MetFree.of_bodySF (plainFor_of_name pn_1) hisR ?_
  intro p e s m args below meth c s₁ Bd hml0 hP hK
  obtain ⟨rfl, hZ, hh⟩ := hP
  have hx := Bd.exec
  have hby := Bd.bytes
  have hml : c.maxLocals = 1 := hml0
  have hown : s.vm.findClass "com/example/queries_over_knowledge/queriesoverknowledge/reasoning/LongList" = some m.cls := findClass_of_methodNamed Bd.named
  have hnm := (name_of_methodNamed Bd.named Bd.method).1
  have X0 : Stand p l e ({ frames := 1, cells := 1, slots := 4, locals := 12 } : Room) s m #[(.ref a1)] below meth c s₁ [] 0 0 := Stand.of_body Bd
  have e0 : s₁.heap = h0 := by rw [← hh, Bd.state]; rfl
  have N0 := Fr.nil n0
  have pre0 : ∀ t, Steps p.tables e below (s₁.setTop (mkF m 0 #[.val (.ref a1)] [])) t → Steps p.tables e below (s₁.setTop (entryFrame m #[(.ref a1)] 1)) t := fun t k => castTop (ef_1 m a1) k
  have G1 : ∀ t, Steps p.tables e below (s₁.setTop (mkF m 1 #[.val (.ref a1)] [(.ref a1)])) t → Steps p.tables e below (s₁.setTop (entryFrame m #[(.ref a1)] 1)) t := by
    intro t kt
    refine pre0 t ?_
    show Steps p.tables e below (s₁.setTop (mkF m 0 #[.val (.ref a1)] [])) _
    refine XS.aloadN X0.here hx rfl (hb hby d1_0) rfl rfl ?_
    show Steps p.tables e below (s₁.setTop (mkF m 1 #[.val (.ref a1)] [(.ref a1)])) _
    exact kt
  obtain ⟨T2, X2, e2, st2⟩ := initO X0 hx hZ hown (hw _ (List.mem_of_getElem? (i := 8) rfl)) (hw _ (List.mem_of_getElem? (i := 9) rfl)) (hw _ (List.mem_of_getElem? (i := 10) rfl)) e0 (g := (mkF m 1 #[.val (.ref a1)] [(.ref a1)])) rfl (by rw [hml]; rfl) rfl (hb hby d1_1) (by decide) (W := 0) (by show 2 * 0 + _ ≤ _; exact Nat.le_of_eq rfl) (by decide)
  have G2 : ∀ t, Steps p.tables e below (T2.setTop (mkF m 4 #[.val (.ref a1)] [])) t → Steps p.tables e below (s₁.setTop (entryFrame m #[(.ref a1)] 1)) t := fun t kt => G1 t (st2 t kt)
  have G3 : ∀ t, Steps p.tables e below (T2.setTop (mkF m 6 #[.val (.ref a1)] [(.int (4 : Int32)), (.ref a1)])) t → Steps p.tables e below (s₁.setTop (entryFrame m #[(.ref a1)] 1)) t := by
    intro t kt
    refine G2 t ?_
    show Steps p.tables e below (T2.setTop (mkF m 4 #[.val (.ref a1)] [])) _
    refine XS.aloadN X2.here hx rfl (hb hby d1_4) rfl rfl ?_
    show Steps p.tables e below (T2.setTop (mkF m 5 #[.val (.ref a1)] [(.ref a1)])) _
    refine XS.iconst X2.here hx rfl (hb hby d1_5) ?_
    show Steps p.tables e below (T2.setTop (mkF m 6 #[.val (.ref a1)] [(.int (4 : Int32)), (.ref a1)])) _
    exact kt
  obtain ⟨T4, h4, k4, X4, e4, E4, A4, st4⟩ := newP X2 hx hZ (hw _ (List.mem_of_getElem? (i := 0) rfl)) e2 (g := (mkF m 6 #[.val (.ref a1)] [(.int (4 : Int32)), (.ref a1)])) rfl (hb hby d1_6) rfl (by decide) (cap := 4) (by decide) (by decide) (by decide) (by decide)
  obtain ⟨b4, g4⟩ : ∃ z, z = h0.size := ⟨_, rfl⟩
  rw [← g4] at A4 st4
  have g_b4 : n0 ≤ b4 := Nat.le_trans Z0 (Nat.le_of_eq g4.symm)
  have sz_b4 : h0.size ≤ b4 := Nat.le_trans (Keep.refl h0 [a1]).1 (Nat.le_of_eq g4.symm)
  have ne_a1_b4 : a1 ≠ b4 := Nat.ne_of_lt (Nat.lt_of_lt_of_le E_a1.lt (Nat.le_of_eq g4.symm))
  have E_a1_4 : Exa Z h4 a1 "com/example/queries_over_knowledge/queriesoverknowledge/reasoning/LongList" := E_a1.ext E4
  have F_z_4 : Fld Z h4 a1 "com/example/queries_over_knowledge/queriesoverknowledge/reasoning/LongList" "size" "I" (.int (0 : Int32)) := F_z.ext E4
  have F_v_4 : Fld Z h4 a1 "com/example/queries_over_knowledge/queriesoverknowledge/reasoning/LongList" "values" "[J" .null := F_v.ext E4
  have Z4 : n0 ≤ h4.size := Nat.le_trans Z0 E4.1
  have KK4 : Keep h0 h4 [a1] := (Keep.refl h0 [a1]).ext E4
  have V_b4 : Arv Z h4 b4 k4 .long (4 : Int32) [(.long (0 : Int64)), (.long (0 : Int64)), (.long (0 : Int64)), (.long (0 : Int64))] (.long (0 : Int64)) := (Arv.new A4 (by decide)).pad (pad_rep [] (.long (0 : Int64)) 4)
  have G4 : ∀ t, Steps p.tables e below (T4.setTop (mkF m 8 #[.val (.ref a1)] [(.ref b4), (.ref a1)])) t → Steps p.tables e below (s₁.setTop (entryFrame m #[(.ref a1)] 1)) t := fun t kt => G3 t (st4 t kt)
  obtain ⟨T5, h5, X5, e5, W5, st5⟩ := putF X4 hx hZ hown (host := "") (Or.inl (hw _ (List.mem_of_getElem? (i := 11) rfl))) Via.refl e4 F_v_4 E_a1_4 (Or.inl (hw _ (List.mem_of_getElem? (i := 12) rfl))) (hw _ (List.mem_of_getElem? (i := 3) rfl)) (ty := (.array .long)) (by decide) rfl rfl (g := (mkF m 8 #[.val (.ref a1)] [(.ref b4), (.ref a1)])) rfl rfl (hb hby d1_8)
  have F_v_5 : Fld Z h5 a1 "com/example/queries_over_knowledge/queriesoverknowledge/reasoning/LongList" "values" "[J" (.ref b4) := F_v_4.same W5
  have E_a1_5 : Exa Z h5 a1 "com/example/queries_over_knowledge/queriesoverknowledge/reasoning/LongList" := E_a1_4.wr W5
  have F_z_5 : Fld Z h5 a1 "com/example/queries_over_knowledge/queriesoverknowledge/reasoning/LongList" "size" "I" (.int (0 : Int32)) := F_z_4.other W5 (Or.inr (slot_ne (Or.inl (hw _ (List.mem_of_getElem? (i := 19) rfl))) (Or.inl (hw _ (List.mem_of_getElem? (i := 12) rfl))) (by decide) (t := .int) (t' := (.array .long)) (by decide) (by decide)))
  have V_b4_5 : Arv Z h5 b4 k4 .long (4 : Int32) [(.long (0 : Int64)), (.long (0 : Int64)), (.long (0 : Int64)), (.long (0 : Int64))] (.long (0 : Int64)) := V_b4.other W5 (Ne.symm ne_a1_b4)
  have Z5 : n0 ≤ h5.size := Nat.le_trans Z4 (Keep.of_wr W5).1
  have KK5 : Keep h0 h5 [a1] := KK4.wr W5 (Or.inl (List.mem_of_getElem? (i := 0) rfl))
  have N5 := Fr.snoc X5 N0 g_a1
  have G5 : ∀ t, Steps p.tables e below (T5.setTop (mkF m 11 #[.val (.ref a1)] [])) t → Steps p.tables e below (s₁.setTop (entryFrame m #[(.ref a1)] 1)) t := fun t kt => G4 t (st5 t kt)
  obtain ⟨fs, hr, hrun, hended, hW, hsame⟩ := X5.leave (v := none) (fun _ => rfl)
  refine ⟨_, _, G5 _ ?_, hrun, hended, _, _, rfl, ?_, ⟨_, rfl⟩, hW, hsame.mono (by decide) (by decide)⟩
  · show Steps p.tables e below (T5.setTop (mkF m 11 #[.val (.ref a1)] [])) _
    exact X5.returnOut hx Bd.returns (hb hby d1_11) hr
  · show Q1 Z a1 h0 n0 _ T5.heap _
    rw [e5]
    exact ⟨rfl, N5, KK5, E_a1_5, F_z_5, _, _, g_b4, sz_b4, F_v_5, V_b4_5⟩
theorem ef_3 (m : MethodId) (a1 : Addr) (q2 : Int64) : entryFrame m #[(.ref a1), (.long q2)] 3 = mkF m 0 #[.val (.ref a1), .val (.long q2), .second] [] := by first | (simp [entryFrame, mkF, argsToLocals, Value.category]; done) | rfl
def Q3a (Z : State) (a1 : Addr) (q2 : Int64) (b : Addr) (kb : ClassId) (n j j' : Int32) (J : Nat) (vs : List Value) (h0 : Heap) (n0 : Nat) (v : Option Value) (h : Heap) (L : List Loc) : Prop := v = none ∧ Fr n0 L ∧ Keep h0 h [a1, b] ∧ Exa Z h a1 "com/example/queries_over_knowledge/queriesoverknowledge/reasoning/LongList" ∧ Fld Z h a1 "com/example/queries_over_knowledge/queriesoverknowledge/reasoning/LongList" "size" "I" (.int j') ∧ Fld Z h a1 "com/example/queries_over_knowledge/queriesoverknowledge/reasoning/LongList" "values" "[J" (.ref b) ∧ Arv Z h b kb .long n (vs.set J (.long q2)) (.long (0 : Int64))
set_option maxRecDepth 65536 in
set_option maxHeartbeats 40000000 in
theorem rm3a (l : Launch) (Z : State) (a0 : Array Value) (hw : ∀ d ∈ tables_1, d.before a0 Z = true) (ws : List Jvm.Cond) (a1 : Addr) (q2 : Int64) (b : Addr) (kb : ClassId) (n j j' : Int32) (J : Nat) (vs : List Value) (h0 : Heap) (n0 : Nat) (Z0 : n0 ≤ h0.size) (E_a1 : Exa Z h0 a1 "com/example/queries_over_knowledge/queriesoverknowledge/reasoning/LongList") (F_z : Fld Z h0 a1 "com/example/queries_over_knowledge/queriesoverknowledge/reasoning/LongList" "size" "I" (.int j)) (F_v : Fld Z h0 a1 "com/example/queries_over_knowledge/queriesoverknowledge/reasoning/LongList" "values" "[J" (.ref b)) (V_b : Arv Z h0 b kb .long n vs (.long (0 : Int64))) (hne : ¬ (j = n)) (hj1 : ¬ j < 0 ∧ j < n) (hJ : j.toNatClampNeg = J) (hl : J < vs.length) (hj' : j + (1 : Int32) = j') (g_a1 : n0 ≤ a1) (g_b : n0 ≤ b) (hab : a1 ≠ b) :
    MetFree l (⟨"com/example/queries_over_knowledge/queriesoverknowledge/reasoning/LongList", "add", "(J)V"⟩ : MethodName) (head1 (Jvm.Cond.code (⟨"com/example/queries_over_knowledge/queriesoverknowledge/reasoning/LongList", "add", "(J)V"⟩ : MethodName) prog_37_method_2_code 3 none :: ws) ({ frames := 0, cells := 0, slots := 0, locals := 0 } : Room)) (fun a U => a = #[(.ref a1), (.long q2)] ∧ Z.Warmed39 U.vm ∧ U.heap = h0) (fun _ _ _ _ _ => True) (fun _ U o U' => ∃ v L, o = .returned v ∧ Q3a Z a1 q2 b kb n j j' J vs h0 n0 v U'.heap L ∧ FrameEnd U o U' L ({ frames := 0, cells := 0, slots := 0, locals := 0 } : Room).cells ({ frames := 0, cells := 0, slots := 0, locals := 0 } : Room).slots) := by
  refine MetFree.of_bodySF (plainFor_of_name pn_1) hisR ?_
  intro p e s m args below meth c s₁ Bd hml0 hP hK
  obtain ⟨rfl, hZ, hh⟩ := hP
  have hx := Bd.exec
  have hby := Bd.bytes
  have hml : c.maxLocals = 3 := hml0
  have hown : s.vm.findClass "com/example/queries_over_knowledge/queriesoverknowledge/reasoning/LongList" = some m.cls := findClass_of_methodNamed Bd.named
  have hnm := (name_of_methodNamed Bd.named Bd.method).1
  have X0 : Stand p l e ({ frames := 0, cells := 0, slots := 0, locals := 0 } : Room) s m #[(.ref a1), (.long q2)] below meth c s₁ [] 0 0 := Stand.of_body Bd
  have e0 : s₁.heap = h0 := by rw [← hh, Bd.state]; rfl
  have N0 := Fr.nil n0
  have pre0 : ∀ t, Steps p.tables e below (s₁.setTop (mkF m 0 #[.val (.ref a1), .val (.long q2), .second] [])) t → Steps p.tables e below (s₁.setTop (entryFrame m #[(.ref a1), (.long q2)] 3)) t := fun t k => castTop (ef_3 m a1 q2) k
  obtain ⟨cl, Ar, qA, SA, MA, HA, UA⟩ := id V_b
  have G1 : ∀ t, Steps p.tables e below (s₁.setTop (mkF m 1 #[.val (.ref a1), .val (.long q2), .second] [(.ref a1)])) t → Steps p.tables e below (s₁.setTop (entryFrame m #[(.ref a1), (.long q2)] 3)) t := by
    intro t kt
    refine pre0 t ?_
    show Steps p.tables e below (s₁.setTop (mkF m 0 #[.val (.ref a1), .val (.long q2), .second] [])) _
    refine XS.aloadN X0.here hx rfl (hb hby d3_0) rfl rfl ?_
    show Steps p.tables e below (s₁.setTop (mkF m 1 #[.val (.ref a1), .val (.long q2), .second] [(.ref a1)])) _
    exact kt
  obtain ⟨T2, X2, e2, st2⟩ := getF X0 hx hZ hown (host := "") (Or.inl (hw _ (List.mem_of_getElem? (i := 18) rfl))) Via.refl e0 F_z (g := (mkF m 1 #[.val (.ref a1), .val (.long q2), .second] [(.ref a1)])) rfl rfl (hb hby d3_1)
  have G2 : ∀ t, Steps p.tables e below (T2.setTop (mkF m 4 #[.val (.ref a1), .val (.long q2), .second] [(.int j)])) t → Steps p.tables e below (s₁.setTop (entryFrame m #[(.ref a1), (.long q2)] 3)) t := fun t kt => G1 t (st2 t kt)
  have G3 : ∀ t, Steps p.tables e below (T2.setTop (mkF m 5 #[.val (.ref a1), .val (.long q2), .second] [(.ref a1), (.int j)])) t → Steps p.tables e below (s₁.setTop (entryFrame m #[(.ref a1), (.long q2)] 3)) t := by
    intro t kt
    refine G2 t ?_
    show Steps p.tables e below (T2.setTop (mkF m 4 #[.val (.ref a1), .val (.long q2), .second] [(.int j)])) _
    refine XS.aloadN X2.here hx rfl (hb hby d3_4) rfl rfl ?_
    show Steps p.tables e below (T2.setTop (mkF m 5 #[.val (.ref a1), .val (.long q2), .second] [(.ref a1), (.int j)])) _
    exact kt
  obtain ⟨T4, X4, e4, st4⟩ := getF X2 hx hZ hown (host := "") (Or.inl (hw _ (List.mem_of_getElem? (i := 11) rfl))) Via.refl e2 F_v (g := (mkF m 5 #[.val (.ref a1), .val (.long q2), .second] [(.ref a1), (.int j)])) rfl rfl (hb hby d3_5)
  have G4 : ∀ t, Steps p.tables e below (T4.setTop (mkF m 8 #[.val (.ref a1), .val (.long q2), .second] [(.ref b), (.int j)])) t → Steps p.tables e below (s₁.setTop (entryFrame m #[(.ref a1), (.long q2)] 3)) t := fun t kt => G3 t (st4 t kt)
  have G5 : ∀ t, Steps p.tables e below (T4.setTop (mkF m 30 #[.val (.ref a1), .val (.long q2), .second] [(.ref a1)])) t → Steps p.tables e below (s₁.setTop (entryFrame m #[(.ref a1), (.long q2)] 3)) t := by
    intro t kt
    refine G4 t ?_
    show Steps p.tables e below (T4.setTop (mkF m 8 #[.val (.ref a1), .val (.long q2), .second] [(.ref b), (.int j)])) _
    refine X4.arraylength hx (cell := cl) (by rw [e4]; exact Ar.1) (State.isArrayOf_alike hZ.alike Ar.2.1) (g := (mkF m 8 #[.val (.ref a1), .val (.long q2), .second] [(.ref b), (.int j)])) rfl rfl (hb hby d3_8) _ ?_
    rw [len_of SA MA]
    show Steps p.tables e below (T4.setTop (mkF m 9 #[.val (.ref a1), .val (.long q2), .second] [(.int n), (.int j)])) _
    refine XS.icmpYes X4.here hx rfl (pc0 := 9) (pc' := 29) rfl (hb hby d3_9) rfl (feq hne).2 (by decide) (by decide) ?_
    show Steps p.tables e below (T4.setTop (mkF m 29 #[.val (.ref a1), .val (.long q2), .second] [])) _
    refine XS.aloadN X4.here hx rfl (hb hby d3_29) rfl rfl ?_
    show Steps p.tables e below (T4.setTop (mkF m 30 #[.val (.ref a1), .val (.long q2), .second] [(.ref a1)])) _
    exact kt
  obtain ⟨T6, X6, e6, st6⟩ := getF X4 hx hZ hown (host := "") (Or.inl (hw _ (List.mem_of_getElem? (i := 11) rfl))) Via.refl e4 F_v (g := (mkF m 30 #[.val (.ref a1), .val (.long q2), .second] [(.ref a1)])) rfl rfl (hb hby d3_30)
  have G6 : ∀ t, Steps p.tables e below (T6.setTop (mkF m 33 #[.val (.ref a1), .val (.long q2), .second] [(.ref b)])) t → Steps p.tables e below (s₁.setTop (entryFrame m #[(.ref a1), (.long q2)] 3)) t := fun t kt => G5 t (st6 t kt)
  have G7 : ∀ t, Steps p.tables e below (T6.setTop (mkF m 35 #[.val (.ref a1), .val (.long q2), .second] [(.ref a1), (.ref a1), (.ref b)])) t → Steps p.tables e below (s₁.setTop (entryFrame m #[(.ref a1), (.long q2)] 3)) t := by
    intro t kt
    refine G6 t ?_
    show Steps p.tables e below (T6.setTop (mkF m 33 #[.val (.ref a1), .val (.long q2), .second] [(.ref b)])) _
    refine XS.aloadN X6.here hx rfl (hb hby d3_33) rfl rfl ?_
    show Steps p.tables e below (T6.setTop (mkF m 34 #[.val (.ref a1), .val (.long q2), .second] [(.ref a1), (.ref b)])) _
    refine XS.dup X6.here hx rfl (hb hby d3_34) rfl rfl ?_
    show Steps p.tables e below (T6.setTop (mkF m 35 #[.val (.ref a1), .val (.long q2), .second] [(.ref a1), (.ref a1), (.ref b)])) _
    exact kt
  obtain ⟨T8, X8, e8, st8⟩ := getF X6 hx hZ hown (host := "") (Or.inl (hw _ (List.mem_of_getElem? (i := 18) rfl))) Via.refl e6 F_z (g := (mkF m 35 #[.val (.ref a1), .val (.long q2), .second] [(.ref a1), (.ref a1), (.ref b)])) rfl rfl (hb hby d3_35)
  have G8 : ∀ t, Steps p.tables e below (T8.setTop (mkF m 38 #[.val (.ref a1), .val (.long q2), .second] [(.int j), (.ref a1), (.ref b)])) t → Steps p.tables e below (s₁.setTop (entryFrame m #[(.ref a1), (.long q2)] 3)) t := fun t kt => G7 t (st8 t kt)
  have G9 : ∀ t, Steps p.tables e below (T8.setTop (mkF m 41 #[.val (.ref a1), .val (.long q2), .second] [(.int (j + (1 : Int32))), (.ref a1), (.int j), (.ref b)])) t → Steps p.tables e below (s₁.setTop (entryFrame m #[(.ref a1), (.long q2)] 3)) t := by
    intro t kt
    refine G8 t ?_
    show Steps p.tables e below (T8.setTop (mkF m 38 #[.val (.ref a1), .val (.long q2), .second] [(.int j), (.ref a1), (.ref b)])) _
    refine XS.dupX1 X8.here hx rfl (hb hby d3_38) rfl rfl rfl ?_
    show Steps p.tables e below (T8.setTop (mkF m 39 #[.val (.ref a1), .val (.long q2), .second] [(.int j), (.ref a1), (.int j), (.ref b)])) _
    refine XS.iconst X8.here hx rfl (hb hby d3_39) ?_
    show Steps p.tables e below (T8.setTop (mkF m 40 #[.val (.ref a1), .val (.long q2), .second] [(.int (1 : Int32)), (.int j), (.ref a1), (.int j), (.ref b)])) _
    refine XS.iadd X8.here hx rfl (hb hby d3_40) rfl ?_
    show Steps p.tables e below (T8.setTop (mkF m 41 #[.val (.ref a1), .val (.long q2), .second] [(.int (j + (1 : Int32))), (.ref a1), (.int j), (.ref b)])) _
    exact kt
  have G10 : ∀ t, Steps p.tables e below (T8.setTop (mkF m 41 #[.val (.ref a1), .val (.long q2), .second] [(.int j'), (.ref a1), (.int j), (.ref b)])) t → Steps p.tables e below (s₁.setTop (entryFrame m #[(.ref a1), (.long q2)] 3)) t := by
    intro t kt
    refine G9 t ?_
    rw [hj']
    exact kt
  obtain ⟨T11, h11, X11, e11, W11, st11⟩ := putF X8 hx hZ hown (host := "") (Or.inl (hw _ (List.mem_of_getElem? (i := 18) rfl))) Via.refl e8 F_z E_a1 (Or.inl (hw _ (List.mem_of_getElem? (i := 19) rfl))) (hw _ (List.mem_of_getElem? (i := 3) rfl)) (ty := .int) (by decide) rfl rfl (g := (mkF m 41 #[.val (.ref a1), .val (.long q2), .second] [(.int j'), (.ref a1), (.int j), (.ref b)])) rfl rfl (hb hby d3_41)
  have F_z_11 : Fld Z h11 a1 "com/example/queries_over_knowledge/queriesoverknowledge/reasoning/LongList" "size" "I" (.int j') := F_z.same W11
  have E_a1_11 : Exa Z h11 a1 "com/example/queries_over_knowledge/queriesoverknowledge/reasoning/LongList" := E_a1.wr W11
  have F_v_11 : Fld Z h11 a1 "com/example/queries_over_knowledge/queriesoverknowledge/reasoning/LongList" "values" "[J" (.ref b) := F_v.other W11 (Or.inr (slot_ne (Or.inl (hw _ (List.mem_of_getElem? (i := 12) rfl))) (Or.inl (hw _ (List.mem_of_getElem? (i := 19) rfl))) (by decide) (t := (.array .long)) (t' := .int) (by decide) (by decide)))
  have V_b_11 : Arv Z h11 b kb .long n vs (.long (0 : Int64)) := V_b.other W11 (Ne.symm hab)
  have Z11 : n0 ≤ h11.size := Nat.le_trans Z0 (Keep.of_wr W11).1
  have KK11 : Keep h0 h11 [a1, b] := (Keep.refl h0 [a1, b]).wr W11 (Or.inl (List.mem_of_getElem? (i := 0) rfl))
  have N11 := Fr.snoc X11 N0 g_a1
  have G11 : ∀ t, Steps p.tables e below (T11.setTop (mkF m 44 #[.val (.ref a1), .val (.long q2), .second] [(.int j), (.ref b)])) t → Steps p.tables e below (s₁.setTop (entryFrame m #[(.ref a1), (.long q2)] 3)) t := fun t kt => G10 t (st11 t kt)
  have G12 : ∀ t, Steps p.tables e below (T11.setTop (mkF m 45 #[.val (.ref a1), .val (.long q2), .second] [(.long q2), (.int j), (.ref b)])) t → Steps p.tables e below (s₁.setTop (entryFrame m #[(.ref a1), (.long q2)] 3)) t := by
    intro t kt
    refine G11 t ?_
    show Steps p.tables e below (T11.setTop (mkF m 44 #[.val (.ref a1), .val (.long q2), .second] [(.int j), (.ref b)])) _
    refine XS.lloadN X11.here hx rfl (hb hby d3_44) rfl ?_
    show Steps p.tables e below (T11.setTop (mkF m 45 #[.val (.ref a1), .val (.long q2), .second] [(.long q2), (.int j), (.ref b)])) _
    exact kt
  obtain ⟨cl_13, Ar_13, q_13, S_13, M_13, H_13, U_13⟩ := id V_b_11
  obtain ⟨T13, h13, X13, e13, W13, st13⟩ := stJ X11 hx hZ e11 Ar_13 (j := j) (inb_of S_13 hj1) (g := (mkF m 45 #[.val (.ref a1), .val (.long q2), .second] [(.long q2), (.int j), (.ref b)])) rfl rfl (hb hby d3_45)
  have V_b_13 : Arv Z h13 b kb .long n (vs.set J (.long q2)) (.long (0 : Int64)) := Arv.set Ar_13 q_13 S_13 M_13 H_13 U_13 rfl W13 J hJ hl
  have E_a1_13 : Exa Z h13 a1 "com/example/queries_over_knowledge/queriesoverknowledge/reasoning/LongList" := E_a1_11.wr W13
  have F_z_13 : Fld Z h13 a1 "com/example/queries_over_knowledge/queriesoverknowledge/reasoning/LongList" "size" "I" (.int j') := F_z_11.other W13 (Or.inl hab)
  have F_v_13 : Fld Z h13 a1 "com/example/queries_over_knowledge/queriesoverknowledge/reasoning/LongList" "values" "[J" (.ref b) := F_v_11.other W13 (Or.inl hab)
  have Z13 : n0 ≤ h13.size := Nat.le_trans Z11 (Keep.of_wr W13).1
  have KK13 : Keep h0 h13 [a1, b] := KK11.wr W13 (Or.inl (List.mem_of_getElem? (i := 1) rfl))
  have N13 := Fr.snoc X13 N11 g_b
  have G13 : ∀ t, Steps p.tables e below (T13.setTop (mkF m 46 #[.val (.ref a1), .val (.long q2), .second] [])) t → Steps p.tables e below (s₁.setTop (entryFrame m #[(.ref a1), (.long q2)] 3)) t := fun t kt => G12 t (st13 t kt)
  obtain ⟨fs, hr, hrun, hended, hW, hsame⟩ := X13.leave (v := none) (fun _ => rfl)
  refine ⟨_, _, G13 _ ?_, hrun, hended, _, _, rfl, ?_, ⟨_, rfl⟩, hW, hsame.mono (by decide) (by decide)⟩
  · show Steps p.tables e below (T13.setTop (mkF m 46 #[.val (.ref a1), .val (.long q2), .second] [])) _
    exact X13.returnOut hx Bd.returns (hb hby d3_46) hr
  · show Q3a Z a1 q2 b kb n j j' J vs h0 n0 _ T13.heap _
    rw [e13]
    exact ⟨rfl, N13, KK13, E_a1_13, F_z_13, F_v_13, V_b_13⟩
def Q3b (Z : State) (a1 : Addr) (q2 : Int64) (b : Addr) (kb : ClassId) (x0 x1 x2 x3 : Int64) (h0 : Heap) (n0 : Nat) (v : Option Value) (h : Heap) (L : List Loc) : Prop := v = none ∧ Fr n0 L ∧ Keep h0 h [a1] ∧ Exa Z h a1 "com/example/queries_over_knowledge/queriesoverknowledge/reasoning/LongList" ∧ Fld Z h a1 "com/example/queries_over_knowledge/queriesoverknowledge/reasoning/LongList" "size" "I" (.int (5 : Int32)) ∧ ∃ (r : Addr) (kr : ClassId), n0 ≤ r ∧ h0.size ≤ r ∧ Fld Z h a1 "com/example/queries_over_knowledge/queriesoverknowledge/reasoning/LongList" "values" "[J" (.ref r) ∧ Arv Z h r kr .long (8 : Int32) [(.long x0), (.long x1), (.long x2), (.long x3), (.long q2), (.long (0 : Int64)), (.long (0 : Int64)), (.long (0 : Int64))] (.long (0 : Int64))
set_option maxRecDepth 65536 in
set_option maxHeartbeats 40000000 in
theorem rm3b (l : Launch) (Z : State) (a0 : Array Value) (hw : ∀ d ∈ tables_1, d.before a0 Z = true) (ws : List Jvm.Cond) (a1 : Addr) (q2 : Int64) (b : Addr) (kb : ClassId) (x0 x1 x2 x3 : Int64) (h0 : Heap) (n0 : Nat) (Z0 : n0 ≤ h0.size) (E_a1 : Exa Z h0 a1 "com/example/queries_over_knowledge/queriesoverknowledge/reasoning/LongList") (F_z : Fld Z h0 a1 "com/example/queries_over_knowledge/queriesoverknowledge/reasoning/LongList" "size" "I" (.int (4 : Int32))) (F_v : Fld Z h0 a1 "com/example/queries_over_knowledge/queriesoverknowledge/reasoning/LongList" "values" "[J" (.ref b)) (V_b : Arv Z h0 b kb .long (4 : Int32) [(.long x0), (.long x1), (.long x2), (.long x3)] (.long (0 : Int64))) (g_a1 : n0 ≤ a1) :
    MetFree l (⟨"com/example/queries_over_knowledge/queriesoverknowledge/reasoning/LongList", "add", "(J)V"⟩ : MethodName) (head1 (Jvm.Cond.code (⟨"com/example/queries_over_knowledge/queriesoverknowledge/reasoning/LongList", "add", "(J)V"⟩ : MethodName) prog_37_method_2_code 3 none :: ws) ({ frames := 2, cells := 1, slots := 8, locals := 80 } : Room)) (fun a U => a = #[(.ref a1), (.long q2)] ∧ Z.Warmed39 U.vm ∧ U.heap = h0) (fun _ _ _ _ _ => True) (fun _ U o U' => ∃ v L, o = .returned v ∧ Q3b Z a1 q2 b kb x0 x1 x2 x3 h0 n0 v U'.heap L ∧ FrameEnd U o U' L ({ frames := 2, cells := 1, slots := 8, locals := 80 } : Room).cells ({ frames := 2, cells := 1, slots := 8, locals := 80 } : Room).slots) := by
  refine MetFree.of_bodySF (plainFor_of_name pn_1) hisR ?_
  intro p e s m args below meth c s₁ Bd hml0 hP hK
  obtain ⟨rfl, hZ, hh⟩ := hP
  have hx := Bd.exec
  have hby := Bd.bytes
  have hml : c.maxLocals = 3 := hml0
  have hown : s.vm.findClass "com/example/queries_over_knowledge/queriesoverknowledge/reasoning/LongList" = some m.cls := findClass_of_methodNamed Bd.named
  have hnm := (name_of_methodNamed Bd.named Bd.method).1
  have X0 : Stand p l e ({ frames := 2, cells := 1, slots := 8, locals := 80 } : Room) s m #[(.ref a1), (.long q2)] below meth c s₁ [] 0 0 := Stand.of_body Bd
  have e0 : s₁.heap = h0 := by rw [← hh, Bd.state]; rfl
  have N0 := Fr.nil n0
  have pre0 : ∀ t, Steps p.tables e below (s₁.setTop (mkF m 0 #[.val (.ref a1), .val (.long q2), .second] [])) t → Steps p.tables e below (s₁.setTop (entryFrame m #[(.ref a1), (.long q2)] 3)) t := fun t k => castTop (ef_3 m a1 q2) k
  obtain ⟨cl, Ar, qA, SA, MA, HA, UA⟩ := id V_b
  have G1 : ∀ t, Steps p.tables e below (s₁.setTop (mkF m 1 #[.val (.ref a1), .val (.long q2), .second] [(.ref a1)])) t → Steps p.tables e below (s₁.setTop (entryFrame m #[(.ref a1), (.long q2)] 3)) t := by
    intro t kt
    refine pre0 t ?_
    show Steps p.tables e below (s₁.setTop (mkF m 0 #[.val (.ref a1), .val (.long q2), .second] [])) _
    refine XS.aloadN X0.here hx rfl (hb hby d3_0) rfl rfl ?_
    show Steps p.tables e below (s₁.setTop (mkF m 1 #[.val (.ref a1), .val (.long q2), .second] [(.ref a1)])) _
    exact kt
  obtain ⟨T2, X2, e2, st2⟩ := getF X0 hx hZ hown (host := "") (Or.inl (hw _ (List.mem_of_getElem? (i := 18) rfl))) Via.refl e0 F_z (g := (mkF m 1 #[.val (.ref a1), .val (.long q2), .second] [(.ref a1)])) rfl rfl (hb hby d3_1)
  have G2 : ∀ t, Steps p.tables e below (T2.setTop (mkF m 4 #[.val (.ref a1), .val (.long q2), .second] [(.int (4 : Int32))])) t → Steps p.tables e below (s₁.setTop (entryFrame m #[(.ref a1), (.long q2)] 3)) t := fun t kt => G1 t (st2 t kt)
  have G3 : ∀ t, Steps p.tables e below (T2.setTop (mkF m 5 #[.val (.ref a1), .val (.long q2), .second] [(.ref a1), (.int (4 : Int32))])) t → Steps p.tables e below (s₁.setTop (entryFrame m #[(.ref a1), (.long q2)] 3)) t := by
    intro t kt
    refine G2 t ?_
    show Steps p.tables e below (T2.setTop (mkF m 4 #[.val (.ref a1), .val (.long q2), .second] [(.int (4 : Int32))])) _
    refine XS.aloadN X2.here hx rfl (hb hby d3_4) rfl rfl ?_
    show Steps p.tables e below (T2.setTop (mkF m 5 #[.val (.ref a1), .val (.long q2), .second] [(.ref a1), (.int (4 : Int32))])) _
    exact kt
  obtain ⟨T4, X4, e4, st4⟩ := getF X2 hx hZ hown (host := "") (Or.inl (hw _ (List.mem_of_getElem? (i := 11) rfl))) Via.refl e2 F_v (g := (mkF m 5 #[.val (.ref a1), .val (.long q2), .second] [(.ref a1), (.int (4 : Int32))])) rfl rfl (hb hby d3_5)
  have G4 : ∀ t, Steps p.tables e below (T4.setTop (mkF m 8 #[.val (.ref a1), .val (.long q2), .second] [(.ref b), (.int (4 : Int32))])) t → Steps p.tables e below (s₁.setTop (entryFrame m #[(.ref a1), (.long q2)] 3)) t := fun t kt => G3 t (st4 t kt)
  have G5 : ∀ t, Steps p.tables e below (T4.setTop (mkF m 14 #[.val (.ref a1), .val (.long q2), .second] [(.ref a1), (.ref a1)])) t → Steps p.tables e below (s₁.setTop (entryFrame m #[(.ref a1), (.long q2)] 3)) t := by
    intro t kt
    refine G4 t ?_
    show Steps p.tables e below (T4.setTop (mkF m 8 #[.val (.ref a1), .val (.long q2), .second] [(.ref b), (.int (4 : Int32))])) _
    refine X4.arraylength hx (cell := cl) (by rw [e4]; exact Ar.1) (State.isArrayOf_alike hZ.alike Ar.2.1) (g := (mkF m 8 #[.val (.ref a1), .val (.long q2), .second] [(.ref b), (.int (4 : Int32))])) rfl rfl (hb hby d3_8) _ ?_
    rw [len_of SA MA]
    show Steps p.tables e below (T4.setTop (mkF m 9 #[.val (.ref a1), .val (.long q2), .second] [(.int (4 : Int32)), (.int (4 : Int32))])) _
    refine XS.icmpNo X4.here hx rfl (hb hby d3_9) rfl (teq (by decide : (4 : Int32) = (4 : Int32))).2 ?_
    show Steps p.tables e below (T4.setTop (mkF m 12 #[.val (.ref a1), .val (.long q2), .second] [])) _
    refine XS.aloadN X4.here hx rfl (hb hby d3_12) rfl rfl ?_
    show Steps p.tables e below (T4.setTop (mkF m 13 #[.val (.ref a1), .val (.long q2), .second] [(.ref a1)])) _
    refine XS.aloadN X4.here hx rfl (hb hby d3_13) rfl rfl ?_
    show Steps p.tables e below (T4.setTop (mkF m 14 #[.val (.ref a1), .val (.long q2), .second] [(.ref a1), (.ref a1)])) _
    exact kt
  obtain ⟨T6, X6, e6, st6⟩ := getF X4 hx hZ hown (host := "") (Or.inl (hw _ (List.mem_of_getElem? (i := 11) rfl))) Via.refl e4 F_v (g := (mkF m 14 #[.val (.ref a1), .val (.long q2), .second] [(.ref a1), (.ref a1)])) rfl rfl (hb hby d3_14)
  have G6 : ∀ t, Steps p.tables e below (T6.setTop (mkF m 17 #[.val (.ref a1), .val (.long q2), .second] [(.ref b), (.ref a1)])) t → Steps p.tables e below (s₁.setTop (entryFrame m #[(.ref a1), (.long q2)] 3)) t := fun t kt => G5 t (st6 t kt)
  have G7 : ∀ t, Steps p.tables e below (T6.setTop (mkF m 18 #[.val (.ref a1), .val (.long q2), .second] [(.ref a1), (.ref b), (.ref a1)])) t → Steps p.tables e below (s₁.setTop (entryFrame m #[(.ref a1), (.long q2)] 3)) t := by
    intro t kt
    refine G6 t ?_
    show Steps p.tables e below (T6.setTop (mkF m 17 #[.val (.ref a1), .val (.long q2), .second] [(.ref b), (.ref a1)])) _
    refine XS.aloadN X6.here hx rfl (hb hby d3_17) rfl rfl ?_
    show Steps p.tables e below (T6.setTop (mkF m 18 #[.val (.ref a1), .val (.long q2), .second] [(.ref a1), (.ref b), (.ref a1)])) _
    exact kt
  obtain ⟨T8, X8, e8, st8⟩ := getF X6 hx hZ hown (host := "") (Or.inl (hw _ (List.mem_of_getElem? (i := 18) rfl))) Via.refl e6 F_z (g := (mkF m 18 #[.val (.ref a1), .val (.long q2), .second] [(.ref a1), (.ref b), (.ref a1)])) rfl rfl (hb hby d3_18)
  have G8 : ∀ t, Steps p.tables e below (T8.setTop (mkF m 21 #[.val (.ref a1), .val (.long q2), .second] [(.int (4 : Int32)), (.ref b), (.ref a1)])) t → Steps p.tables e below (s₁.setTop (entryFrame m #[(.ref a1), (.long q2)] 3)) t := fun t kt => G7 t (st8 t kt)
  have G9 : ∀ t, Steps p.tables e below (T8.setTop (mkF m 23 #[.val (.ref a1), .val (.long q2), .second] [(.int ((4 : Int32) * (2 : Int32))), (.ref b), (.ref a1)])) t → Steps p.tables e below (s₁.setTop (entryFrame m #[(.ref a1), (.long q2)] 3)) t := by
    intro t kt
    refine G8 t ?_
    show Steps p.tables e below (T8.setTop (mkF m 21 #[.val (.ref a1), .val (.long q2), .second] [(.int (4 : Int32)), (.ref b), (.ref a1)])) _
    refine XS.iconst X8.here hx rfl (hb hby d3_21) ?_
    show Steps p.tables e below (T8.setTop (mkF m 22 #[.val (.ref a1), .val (.long q2), .second] [(.int (2 : Int32)), (.int (4 : Int32)), (.ref b), (.ref a1)])) _
    refine XS.imul X8.here hx rfl (hb hby d3_22) rfl ?_
    show Steps p.tables e below (T8.setTop (mkF m 23 #[.val (.ref a1), .val (.long q2), .second] [(.int ((4 : Int32) * (2 : Int32))), (.ref b), (.ref a1)])) _
    exact kt
  have G10 : ∀ t, Steps p.tables e below (T8.setTop (mkF m 23 #[.val (.ref a1), .val (.long q2), .second] [(.int (8 : Int32)), (.ref b), (.ref a1)])) t → Steps p.tables e below (s₁.setTop (entryFrame m #[(.ref a1), (.long q2)] 3)) t := by
    intro t kt
    refine G9 t ?_
    show Steps p.tables e below (T8.setTop (mkF m 23 #[.val (.ref a1), .val (.long q2), .second] [(.int (8 : Int32)), (.ref b), (.ref a1)])) _
    exact kt
  obtain ⟨_, _, ⟨T11, L11, k11, n11⟩, -, X11, ⟨Lc11, hQ11, l11, y11, z11⟩, st11⟩ := Jvm.LawKit.callS X8 hx (y := (⟨"java/util/Arrays", "copyOf", "([JI)[J"⟩ : MethodName)) hown (mvT hZ (hw _ (List.mem_of_getElem? (i := 35) rfl))) (mvT hZ (hw _ (List.mem_of_getElem? (i := 36) rfl))) (mvT hZ (hw _ (List.mem_of_getElem? (i := 37) rfl))) (mvT hZ (hw _ (List.mem_of_getElem? (i := 38) rfl))) (by decide) (backOf (W := 1) (rm7 l Z a0 hw [] b (8 : Int32) kb (4 : Int32) (4 : Int32) [(.long x0), (.long x1), (.long x2), (.long x3)] [(.long x0), (.long x1), (.long x2), (.long x3)] [(.long x0), (.long x1), (.long x2), (.long x3), (.long (0 : Int64)), (.long (0 : Int64)), (.long (0 : Int64)), (.long (0 : Int64))] h0 n0 Z0 V_b (by decide) (by decide) (by decide) (by decide) (by decide) (by decide) (by decide) rfl rfl) hZ (hw _ (List.mem_of_getElem? (i := 38) rfl)) (hw _ (List.mem_of_getElem? (i := 37) rfl)) (by decide) (by decide)) (g := (mkF m 23 #[.val (.ref a1), .val (.long q2), .second] [(.int (8 : Int32)), (.ref b), (.ref a1)])) rfl (by rw [hml]; rfl) (argsL := [(.ref b), (.int (8 : Int32))]) (rest := [(.ref a1)]) (lenOf pd_1 rfl) rfl (by show 2 * 0 + _ ≤ _; exact Nat.le_of_eq rfl) (hb hby d3_23) (fun _ _ => ⟨rfl, e8, (by decide : 0 + 1 ≤ _), (by decide : 0 + 8 ≤ _)⟩)
  dsimp only [Pt.U, Pt.locs, Pt.cells, Pt.slots] at X11 l11 y11 z11 st11 hQ11
  subst l11 y11 z11
  obtain ⟨r11, kr11, rfl, N11q, K11, g_r11, szq11, V_r11⟩ := hQ11
  have N11 := Fr.app N0 N11q
  have ne_a1_r11 : a1 ≠ r11 := Nat.ne_of_lt (Nat.lt_of_lt_of_le E_a1.lt szq11)
  have sz_r11 : h0.size ≤ r11 := Nat.le_trans (Keep.refl h0 [a1]).1 szq11
  have E_a1_11 : Exa Z T11.heap a1 "com/example/queries_over_knowledge/queriesoverknowledge/reasoning/LongList" := E_a1.keep K11
  have F_z_11 : Fld Z T11.heap a1 "com/example/queries_over_knowledge/queriesoverknowledge/reasoning/LongList" "size" "I" (.int (4 : Int32)) := F_z.keep K11 nin0
  have F_v_11 : Fld Z T11.heap a1 "com/example/queries_over_knowledge/queriesoverknowledge/reasoning/LongList" "values" "[J" (.ref b) := F_v.keep K11 nin0
  have Z11 : n0 ≤ T11.heap.size := Nat.le_trans Z0 K11.1
  have KK11 : Keep h0 T11.heap [a1] := (Keep.refl h0 [a1]).trans K11 all0
  have G11 : ∀ t, Steps p.tables e below (T11.setTop (mkF m 26 #[.val (.ref a1), .val (.long q2), .second] [(.ref r11), (.ref a1)])) t → Steps p.tables e below (s₁.setTop (entryFrame m #[(.ref a1), (.long q2)] 3)) t := fun t kt => G10 t (st11 t kt)
  obtain ⟨T12, h12, X12, e12, W12, st12⟩ := putF X11 hx hZ hown (host := "") (Or.inl (hw _ (List.mem_of_getElem? (i := 11) rfl))) Via.refl rfl F_v_11 E_a1_11 (Or.inl (hw _ (List.mem_of_getElem? (i := 12) rfl))) (hw _ (List.mem_of_getElem? (i := 3) rfl)) (ty := (.array .long)) (by decide) rfl rfl (g := (mkF m 26 #[.val (.ref a1), .val (.long q2), .second] [(.ref r11), (.ref a1)])) rfl rfl (hb hby d3_26)
  have F_v_12 : Fld Z h12 a1 "com/example/queries_over_knowledge/queriesoverknowledge/reasoning/LongList" "values" "[J" (.ref r11) := F_v_11.same W12
  have E_a1_12 : Exa Z h12 a1 "com/example/queries_over_knowledge/queriesoverknowledge/reasoning/LongList" := E_a1_11.wr W12
  have F_z_12 : Fld Z h12 a1 "com/example/queries_over_knowledge/queriesoverknowledge/reasoning/LongList" "size" "I" (.int (4 : Int32)) := F_z_11.other W12 (Or.inr (slot_ne (Or.inl (hw _ (List.mem_of_getElem? (i := 19) rfl))) (Or.inl (hw _ (List.mem_of_getElem? (i := 12) rfl))) (by decide) (t := .int) (t' := (.array .long)) (by decide) (by decide)))
  have V_r11_12 : Arv Z h12 r11 kr11 .long (8 : Int32) [(.long x0), (.long x1), (.long x2), (.long x3), (.long (0 : Int64)), (.long (0 : Int64)), (.long (0 : Int64)), (.long (0 : Int64))] (.long (0 : Int64)) := V_r11.other W12 (Ne.symm ne_a1_r11)
  have Z12 : n0 ≤ h12.size := Nat.le_trans Z11 (Keep.of_wr W12).1
  have KK12 : Keep h0 h12 [a1] := KK11.wr W12 (Or.inl (List.mem_of_getElem? (i := 0) rfl))
  have N12 := Fr.snoc X12 N11 g_a1
  have G12 : ∀ t, Steps p.tables e below (T12.setTop (mkF m 29 #[.val (.ref a1), .val (.long q2), .second] [])) t → Steps p.tables e below (s₁.setTop (entryFrame m #[(.ref a1), (.long q2)] 3)) t := fun t kt => G11 t (st12 t kt)
  have G13 : ∀ t, Steps p.tables e below (T12.setTop (mkF m 30 #[.val (.ref a1), .val (.long q2), .second] [(.ref a1)])) t → Steps p.tables e below (s₁.setTop (entryFrame m #[(.ref a1), (.long q2)] 3)) t := by
    intro t kt
    refine G12 t ?_
    show Steps p.tables e below (T12.setTop (mkF m 29 #[.val (.ref a1), .val (.long q2), .second] [])) _
    refine XS.aloadN X12.here hx rfl (hb hby d3_29) rfl rfl ?_
    show Steps p.tables e below (T12.setTop (mkF m 30 #[.val (.ref a1), .val (.long q2), .second] [(.ref a1)])) _
    exact kt
  obtain ⟨T14, X14, e14, st14⟩ := getF X12 hx hZ hown (host := "") (Or.inl (hw _ (List.mem_of_getElem? (i := 11) rfl))) Via.refl e12 F_v_12 (g := (mkF m 30 #[.val (.ref a1), .val (.long q2), .second] [(.ref a1)])) rfl rfl (hb hby d3_30)
  have G14 : ∀ t, Steps p.tables e below (T14.setTop (mkF m 33 #[.val (.ref a1), .val (.long q2), .second] [(.ref r11)])) t → Steps p.tables e below (s₁.setTop (entryFrame m #[(.ref a1), (.long q2)] 3)) t := fun t kt => G13 t (st14 t kt)
  have G15 : ∀ t, Steps p.tables e below (T14.setTop (mkF m 35 #[.val (.ref a1), .val (.long q2), .second] [(.ref a1), (.ref a1), (.ref r11)])) t → Steps p.tables e below (s₁.setTop (entryFrame m #[(.ref a1), (.long q2)] 3)) t := by
    intro t kt
    refine G14 t ?_
    show Steps p.tables e below (T14.setTop (mkF m 33 #[.val (.ref a1), .val (.long q2), .second] [(.ref r11)])) _
    refine XS.aloadN X14.here hx rfl (hb hby d3_33) rfl rfl ?_
    show Steps p.tables e below (T14.setTop (mkF m 34 #[.val (.ref a1), .val (.long q2), .second] [(.ref a1), (.ref r11)])) _
    refine XS.dup X14.here hx rfl (hb hby d3_34) rfl rfl ?_
    show Steps p.tables e below (T14.setTop (mkF m 35 #[.val (.ref a1), .val (.long q2), .second] [(.ref a1), (.ref a1), (.ref r11)])) _
    exact kt
  obtain ⟨T16, X16, e16, st16⟩ := getF X14 hx hZ hown (host := "") (Or.inl (hw _ (List.mem_of_getElem? (i := 18) rfl))) Via.refl e14 F_z_12 (g := (mkF m 35 #[.val (.ref a1), .val (.long q2), .second] [(.ref a1), (.ref a1), (.ref r11)])) rfl rfl (hb hby d3_35)
  have G16 : ∀ t, Steps p.tables e below (T16.setTop (mkF m 38 #[.val (.ref a1), .val (.long q2), .second] [(.int (4 : Int32)), (.ref a1), (.ref r11)])) t → Steps p.tables e below (s₁.setTop (entryFrame m #[(.ref a1), (.long q2)] 3)) t := fun t kt => G15 t (st16 t kt)
  have G17 : ∀ t, Steps p.tables e below (T16.setTop (mkF m 41 #[.val (.ref a1), .val (.long q2), .second] [(.int ((4 : Int32) + (1 : Int32))), (.ref a1), (.int (4 : Int32)), (.ref r11)])) t → Steps p.tables e below (s₁.setTop (entryFrame m #[(.ref a1), (.long q2)] 3)) t := by
    intro t kt
    refine G16 t ?_
    show Steps p.tables e below (T16.setTop (mkF m 38 #[.val (.ref a1), .val (.long q2), .second] [(.int (4 : Int32)), (.ref a1), (.ref r11)])) _
    refine XS.dupX1 X16.here hx rfl (hb hby d3_38) rfl rfl rfl ?_
    show Steps p.tables e below (T16.setTop (mkF m 39 #[.val (.ref a1), .val (.long q2), .second] [(.int (4 : Int32)), (.ref a1), (.int (4 : Int32)), (.ref r11)])) _
    refine XS.iconst X16.here hx rfl (hb hby d3_39) ?_
    show Steps p.tables e below (T16.setTop (mkF m 40 #[.val (.ref a1), .val (.long q2), .second] [(.int (1 : Int32)), (.int (4 : Int32)), (.ref a1), (.int (4 : Int32)), (.ref r11)])) _
    refine XS.iadd X16.here hx rfl (hb hby d3_40) rfl ?_
    show Steps p.tables e below (T16.setTop (mkF m 41 #[.val (.ref a1), .val (.long q2), .second] [(.int ((4 : Int32) + (1 : Int32))), (.ref a1), (.int (4 : Int32)), (.ref r11)])) _
    exact kt
  have G18 : ∀ t, Steps p.tables e below (T16.setTop (mkF m 41 #[.val (.ref a1), .val (.long q2), .second] [(.int (5 : Int32)), (.ref a1), (.int (4 : Int32)), (.ref r11)])) t → Steps p.tables e below (s₁.setTop (entryFrame m #[(.ref a1), (.long q2)] 3)) t := by
    intro t kt
    refine G17 t ?_
    show Steps p.tables e below (T16.setTop (mkF m 41 #[.val (.ref a1), .val (.long q2), .second] [(.int (5 : Int32)), (.ref a1), (.int (4 : Int32)), (.ref r11)])) _
    exact kt
  obtain ⟨T19, h19, X19, e19, W19, st19⟩ := putF X16 hx hZ hown (host := "") (Or.inl (hw _ (List.mem_of_getElem? (i := 18) rfl))) Via.refl e16 F_z_12 E_a1_12 (Or.inl (hw _ (List.mem_of_getElem? (i := 19) rfl))) (hw _ (List.mem_of_getElem? (i := 3) rfl)) (ty := .int) (by decide) rfl rfl (g := (mkF m 41 #[.val (.ref a1), .val (.long q2), .second] [(.int (5 : Int32)), (.ref a1), (.int (4 : Int32)), (.ref r11)])) rfl rfl (hb hby d3_41)
  have F_z_19 : Fld Z h19 a1 "com/example/queries_over_knowledge/queriesoverknowledge/reasoning/LongList" "size" "I" (.int (5 : Int32)) := F_z_12.same W19
  have E_a1_19 : Exa Z h19 a1 "com/example/queries_over_knowledge/queriesoverknowledge/reasoning/LongList" := E_a1_12.wr W19
  have F_v_19 : Fld Z h19 a1 "com/example/queries_over_knowledge/queriesoverknowledge/reasoning/LongList" "values" "[J" (.ref r11) := F_v_12.other W19 (Or.inr (slot_ne (Or.inl (hw _ (List.mem_of_getElem? (i := 12) rfl))) (Or.inl (hw _ (List.mem_of_getElem? (i := 19) rfl))) (by decide) (t := (.array .long)) (t' := .int) (by decide) (by decide)))
  have V_r11_19 : Arv Z h19 r11 kr11 .long (8 : Int32) [(.long x0), (.long x1), (.long x2), (.long x3), (.long (0 : Int64)), (.long (0 : Int64)), (.long (0 : Int64)), (.long (0 : Int64))] (.long (0 : Int64)) := V_r11_12.other W19 (Ne.symm ne_a1_r11)
  have Z19 : n0 ≤ h19.size := Nat.le_trans Z12 (Keep.of_wr W19).1
  have KK19 : Keep h0 h19 [a1] := KK12.wr W19 (Or.inl (List.mem_of_getElem? (i := 0) rfl))
  have N19 := Fr.snoc X19 N12 g_a1
  have G19 : ∀ t, Steps p.tables e below (T19.setTop (mkF m 44 #[.val (.ref a1), .val (.long q2), .second] [(.int (4 : Int32)), (.ref r11)])) t → Steps p.tables e below (s₁.setTop (entryFrame m #[(.ref a1), (.long q2)] 3)) t := fun t kt => G18 t (st19 t kt)
  have G20 : ∀ t, Steps p.tables e below (T19.setTop (mkF m 45 #[.val (.ref a1), .val (.long q2), .second] [(.long q2), (.int (4 : Int32)), (.ref r11)])) t → Steps p.tables e below (s₁.setTop (entryFrame m #[(.ref a1), (.long q2)] 3)) t := by
    intro t kt
    refine G19 t ?_
    show Steps p.tables e below (T19.setTop (mkF m 44 #[.val (.ref a1), .val (.long q2), .second] [(.int (4 : Int32)), (.ref r11)])) _
    refine XS.lloadN X19.here hx rfl (hb hby d3_44) rfl ?_
    show Steps p.tables e below (T19.setTop (mkF m 45 #[.val (.ref a1), .val (.long q2), .second] [(.long q2), (.int (4 : Int32)), (.ref r11)])) _
    exact kt
  obtain ⟨cl_21, Ar_21, q_21, S_21, M_21, H_21, U_21⟩ := id V_r11_19
  obtain ⟨T21, h21, X21, e21, W21, st21⟩ := stJ X19 hx hZ e19 Ar_21 (j := (4 : Int32)) (inb_of S_21 ⟨(by decide : ¬ ((4 : Int32) < (0 : Int32))), (by decide : (4 : Int32) < (8 : Int32))⟩) (g := (mkF m 45 #[.val (.ref a1), .val (.long q2), .second] [(.long q2), (.int (4 : Int32)), (.ref r11)])) rfl rfl (hb hby d3_45)
  have V_r11_21 : Arv Z h21 r11 kr11 .long (8 : Int32) [(.long x0), (.long x1), (.long x2), (.long x3), (.long q2), (.long (0 : Int64)), (.long (0 : Int64)), (.long (0 : Int64))] (.long (0 : Int64)) := Arv.set Ar_21 q_21 S_21 M_21 H_21 U_21 rfl W21 4 rfl (Nat.le_of_ble_eq_true rfl)
  have E_a1_21 : Exa Z h21 a1 "com/example/queries_over_knowledge/queriesoverknowledge/reasoning/LongList" := E_a1_19.wr W21
  have F_z_21 : Fld Z h21 a1 "com/example/queries_over_knowledge/queriesoverknowledge/reasoning/LongList" "size" "I" (.int (5 : Int32)) := F_z_19.other W21 (Or.inl ne_a1_r11)
  have F_v_21 : Fld Z h21 a1 "com/example/queries_over_knowledge/queriesoverknowledge/reasoning/LongList" "values" "[J" (.ref r11) := F_v_19.other W21 (Or.inl ne_a1_r11)
  have Z21 : n0 ≤ h21.size := Nat.le_trans Z19 (Keep.of_wr W21).1
  have KK21 : Keep h0 h21 [a1] := KK19.wr W21 (Or.inr sz_r11)
  have N21 := Fr.snoc X21 N19 g_r11
  have G21 : ∀ t, Steps p.tables e below (T21.setTop (mkF m 46 #[.val (.ref a1), .val (.long q2), .second] [])) t → Steps p.tables e below (s₁.setTop (entryFrame m #[(.ref a1), (.long q2)] 3)) t := fun t kt => G20 t (st21 t kt)
  obtain ⟨fs, hr, hrun, hended, hW, hsame⟩ := X21.leave (v := none) (fun _ => rfl)
  refine ⟨_, _, G21 _ ?_, hrun, hended, _, _, rfl, ?_, ⟨_, rfl⟩, hW, hsame.mono (by decide) (by decide)⟩
  · show Steps p.tables e below (T21.setTop (mkF m 46 #[.val (.ref a1), .val (.long q2), .second] [])) _
    exact X21.returnOut hx Bd.returns (hb hby d3_46) hr
  · show Q3b Z a1 q2 b kb x0 x1 x2 x3 h0 n0 _ T21.heap _
    rw [e21]
    exact ⟨rfl, N21, KK21, E_a1_21, F_z_21, _, _, g_r11, sz_r11, F_v_21, V_r11_21⟩
theorem ef_4 (m : MethodId) (a1 : Addr) : entryFrame m #[(.ref a1)] 1 = mkF m 0 #[.val (.ref a1)] [] := by first | (simp [entryFrame, mkF, argsToLocals, Value.category]; done) | rfl
def Q4 (Z : State) (a1 : Addr) (b : Addr) (kb : ClassId) (n j j' : Int32) (vs : List Value) (x : Int64) (h0 : Heap) (n0 : Nat) (v : Option Value) (h : Heap) (L : List Loc) : Prop := v = some (.long x) ∧ Fr n0 L ∧ Keep h0 h [a1] ∧ Exa Z h a1 "com/example/queries_over_knowledge/queriesoverknowledge/reasoning/LongList" ∧ Fld Z h a1 "com/example/queries_over_knowledge/queriesoverknowledge/reasoning/LongList" "size" "I" (.int j') ∧ Fld Z h a1 "com/example/queries_over_knowledge/queriesoverknowledge/reasoning/LongList" "values" "[J" (.ref b)
set_option maxRecDepth 65536 in
set_option maxHeartbeats 40000000 in
theorem rm4 (l : Launch) (Z : State) (a0 : Array Value) (hw : ∀ d ∈ tables_1, d.before a0 Z = true) (ws : List Jvm.Cond) (a1 : Addr) (b : Addr) (kb : ClassId) (n j j' : Int32) (vs : List Value) (x : Int64) (h0 : Heap) (n0 : Nat) (Z0 : n0 ≤ h0.size) (E_a1 : Exa Z h0 a1 "com/example/queries_over_knowledge/queriesoverknowledge/reasoning/LongList") (F_z : Fld Z h0 a1 "com/example/queries_over_knowledge/queriesoverknowledge/reasoning/LongList" "size" "I" (.int j)) (F_v : Fld Z h0 a1 "com/example/queries_over_knowledge/queriesoverknowledge/reasoning/LongList" "values" "[J" (.ref b)) (V_b : Arv Z h0 b kb .long n vs (.long (0 : Int64))) (hj' : j - (1 : Int32) = j') (hj1 : ¬ j' < 0 ∧ j' < n) (hx' : vs.getD j'.toNatClampNeg (.long (0 : Int64)) = .long x) (g_a1 : n0 ≤ a1) (hab : a1 ≠ b) :
    MetFree l (⟨"com/example/queries_over_knowledge/queriesoverknowledge/reasoning/LongList", "removeLast", "()J"⟩ : MethodName) (head1 (Jvm.Cond.code (⟨"com/example/queries_over_knowledge/queriesoverknowledge/reasoning/LongList", "removeLast", "()J"⟩ : MethodName) prog_37_method_3_code 1 (some .long) :: ws) ({ frames := 0, cells := 0, slots := 0, locals := 0 } : Room)) (fun a U => a = #[(.ref a1)] ∧ Z.Warmed39 U.vm ∧ U.heap = h0) (fun _ _ _ _ _ => True) (fun _ U o U' => ∃ v L, o = .returned v ∧ Q4 Z a1 b kb n j j' vs x h0 n0 v U'.heap L ∧ FrameEnd U o U' L ({ frames := 0, cells := 0, slots := 0, locals := 0 } : Room).cells ({ frames := 0, cells := 0, slots := 0, locals := 0 } : Room).slots) := by
  refine MetFree.of_bodySF (plainFor_of_name pn_1) hisR ?_
  intro p e s m args below meth c s₁ Bd hml0 hP hK
  obtain ⟨rfl, hZ, hh⟩ := hP
  have hx := Bd.exec
  have hby := Bd.bytes
  have hml : c.maxLocals = 1 := hml0
  have hown : s.vm.findClass "com/example/queries_over_knowledge/queriesoverknowledge/reasoning/LongList" = some m.cls := findClass_of_methodNamed Bd.named
  have hnm := (name_of_methodNamed Bd.named Bd.method).1
  have X0 : Stand p l e ({ frames := 0, cells := 0, slots := 0, locals := 0 } : Room) s m #[(.ref a1)] below meth c s₁ [] 0 0 := Stand.of_body Bd
  have e0 : s₁.heap = h0 := by rw [← hh, Bd.state]; rfl
  have N0 := Fr.nil n0
  have pre0 : ∀ t, Steps p.tables e below (s₁.setTop (mkF m 0 #[.val (.ref a1)] [])) t → Steps p.tables e below (s₁.setTop (entryFrame m #[(.ref a1)] 1)) t := fun t k => castTop (ef_4 m a1) k
  have G1 : ∀ t, Steps p.tables e below (s₁.setTop (mkF m 1 #[.val (.ref a1)] [(.ref a1)])) t → Steps p.tables e below (s₁.setTop (entryFrame m #[(.ref a1)] 1)) t := by
    intro t kt
    refine pre0 t ?_
    show Steps p.tables e below (s₁.setTop (mkF m 0 #[.val (.ref a1)] [])) _
    refine XS.aloadN X0.here hx rfl (hb hby d4_0) rfl rfl ?_
    show Steps p.tables e below (s₁.setTop (mkF m 1 #[.val (.ref a1)] [(.ref a1)])) _
    exact kt
  obtain ⟨T2, X2, e2, st2⟩ := getF X0 hx hZ hown (host := "") (Or.inl (hw _ (List.mem_of_getElem? (i := 11) rfl))) Via.refl e0 F_v (g := (mkF m 1 #[.val (.ref a1)] [(.ref a1)])) rfl rfl (hb hby d4_1)
  have G2 : ∀ t, Steps p.tables e below (T2.setTop (mkF m 4 #[.val (.ref a1)] [(.ref b)])) t → Steps p.tables e below (s₁.setTop (entryFrame m #[(.ref a1)] 1)) t := fun t kt => G1 t (st2 t kt)
  have G3 : ∀ t, Steps p.tables e below (T2.setTop (mkF m 6 #[.val (.ref a1)] [(.ref a1), (.ref a1), (.ref b)])) t → Steps p.tables e below (s₁.setTop (entryFrame m #[(.ref a1)] 1)) t := by
    intro t kt
    refine G2 t ?_
    show Steps p.tables e below (T2.setTop (mkF m 4 #[.val (.ref a1)] [(.ref b)])) _
    refine XS.aloadN X2.here hx rfl (hb hby d4_4) rfl rfl ?_
    show Steps p.tables e below (T2.setTop (mkF m 5 #[.val (.ref a1)] [(.ref a1), (.ref b)])) _
    refine XS.dup X2.here hx rfl (hb hby d4_5) rfl rfl ?_
    show Steps p.tables e below (T2.setTop (mkF m 6 #[.val (.ref a1)] [(.ref a1), (.ref a1), (.ref b)])) _
    exact kt
  obtain ⟨T4, X4, e4, st4⟩ := getF X2 hx hZ hown (host := "") (Or.inl (hw _ (List.mem_of_getElem? (i := 18) rfl))) Via.refl e2 F_z (g := (mkF m 6 #[.val (.ref a1)] [(.ref a1), (.ref a1), (.ref b)])) rfl rfl (hb hby d4_6)
  have G4 : ∀ t, Steps p.tables e below (T4.setTop (mkF m 9 #[.val (.ref a1)] [(.int j), (.ref a1), (.ref b)])) t → Steps p.tables e below (s₁.setTop (entryFrame m #[(.ref a1)] 1)) t := fun t kt => G3 t (st4 t kt)
  have G5 : ∀ t, Steps p.tables e below (T4.setTop (mkF m 11 #[.val (.ref a1)] [(.int (j - (1 : Int32))), (.ref a1), (.ref b)])) t → Steps p.tables e below (s₁.setTop (entryFrame m #[(.ref a1)] 1)) t := by
    intro t kt
    refine G4 t ?_
    show Steps p.tables e below (T4.setTop (mkF m 9 #[.val (.ref a1)] [(.int j), (.ref a1), (.ref b)])) _
    refine XS.iconst X4.here hx rfl (hb hby d4_9) ?_
    show Steps p.tables e below (T4.setTop (mkF m 10 #[.val (.ref a1)] [(.int (1 : Int32)), (.int j), (.ref a1), (.ref b)])) _
    refine XS.isub X4.here hx rfl (hb hby d4_10) rfl ?_
    show Steps p.tables e below (T4.setTop (mkF m 11 #[.val (.ref a1)] [(.int (j - (1 : Int32))), (.ref a1), (.ref b)])) _
    exact kt
  have G6 : ∀ t, Steps p.tables e below (T4.setTop (mkF m 11 #[.val (.ref a1)] [(.int j'), (.ref a1), (.ref b)])) t → Steps p.tables e below (s₁.setTop (entryFrame m #[(.ref a1)] 1)) t := by
    intro t kt
    refine G5 t ?_
    rw [hj']
    exact kt
  have G7 : ∀ t, Steps p.tables e below (T4.setTop (mkF m 12 #[.val (.ref a1)] [(.int j'), (.ref a1), (.int j'), (.ref b)])) t → Steps p.tables e below (s₁.setTop (entryFrame m #[(.ref a1)] 1)) t := by
    intro t kt
    refine G6 t ?_
    show Steps p.tables e below (T4.setTop (mkF m 11 #[.val (.ref a1)] [(.int j'), (.ref a1), (.ref b)])) _
    refine XS.dupX1 X4.here hx rfl (hb hby d4_11) rfl rfl rfl ?_
    show Steps p.tables e below (T4.setTop (mkF m 12 #[.val (.ref a1)] [(.int j'), (.ref a1), (.int j'), (.ref b)])) _
    exact kt
  obtain ⟨T8, h8, X8, e8, W8, st8⟩ := putF X4 hx hZ hown (host := "") (Or.inl (hw _ (List.mem_of_getElem? (i := 18) rfl))) Via.refl e4 F_z E_a1 (Or.inl (hw _ (List.mem_of_getElem? (i := 19) rfl))) (hw _ (List.mem_of_getElem? (i := 3) rfl)) (ty := .int) (by decide) rfl rfl (g := (mkF m 12 #[.val (.ref a1)] [(.int j'), (.ref a1), (.int j'), (.ref b)])) rfl rfl (hb hby d4_12)
  have F_z_8 : Fld Z h8 a1 "com/example/queries_over_knowledge/queriesoverknowledge/reasoning/LongList" "size" "I" (.int j') := F_z.same W8
  have E_a1_8 : Exa Z h8 a1 "com/example/queries_over_knowledge/queriesoverknowledge/reasoning/LongList" := E_a1.wr W8
  have F_v_8 : Fld Z h8 a1 "com/example/queries_over_knowledge/queriesoverknowledge/reasoning/LongList" "values" "[J" (.ref b) := F_v.other W8 (Or.inr (slot_ne (Or.inl (hw _ (List.mem_of_getElem? (i := 12) rfl))) (Or.inl (hw _ (List.mem_of_getElem? (i := 19) rfl))) (by decide) (t := (.array .long)) (t' := .int) (by decide) (by decide)))
  have V_b_8 : Arv Z h8 b kb .long n vs (.long (0 : Int64)) := V_b.other W8 (Ne.symm hab)
  have Z8 : n0 ≤ h8.size := Nat.le_trans Z0 (Keep.of_wr W8).1
  have KK8 : Keep h0 h8 [a1] := (Keep.refl h0 [a1]).wr W8 (Or.inl (List.mem_of_getElem? (i := 0) rfl))
  have N8 := Fr.snoc X8 N0 g_a1
  have G8 : ∀ t, Steps p.tables e below (T8.setTop (mkF m 15 #[.val (.ref a1)] [(.int j'), (.ref b)])) t → Steps p.tables e below (s₁.setTop (entryFrame m #[(.ref a1)] 1)) t := fun t kt => G7 t (st8 t kt)
  obtain ⟨cl, Ar, qA, SA, MA, HA, UA⟩ := id V_b_8
  have hin := inb_of SA hj1
  have hat : cl.slots[j'.toNatClampNeg]? = some (.long x) := HA.at hin hx'
  have G9 : ∀ t, Steps p.tables e below (T8.setTop (mkF m 16 #[.val (.ref a1)] [(.long x)])) t → Steps p.tables e below (s₁.setTop (entryFrame m #[(.ref a1)] 1)) t := by
    intro t kt
    refine G8 t ?_
    show Steps p.tables e below (T8.setTop (mkF m 15 #[.val (.ref a1)] [(.int j'), (.ref b)])) _
    refine X8.laload hx (j := j') (v := (.long x)) (by rw [e8]; exact Ar.1) (State.isArrayOf_alike hZ.alike Ar.2.1) Ar.2.2 hin hat (g := (mkF m 15 #[.val (.ref a1)] [(.int j'), (.ref b)])) rfl rfl (hb hby d4_15) _ ?_
    show Steps p.tables e below (T8.setTop (mkF m 16 #[.val (.ref a1)] [(.long x)])) _
    exact kt
  obtain ⟨fs, hr, hrun, hended, hW, hsame⟩ := X8.leave (v := some (.long x)) (fun h => by rw [Bd.returns] at h; cases h)
  refine ⟨_, _, G9 _ ?_, hrun, hended, _, _, rfl, ?_, ⟨_, rfl⟩, hW, hsame.mono (by decide) (by decide)⟩
  · show Steps p.tables e below (T8.setTop (mkF m 16 #[.val (.ref a1)] [(.long x)])) _
    exact X8.lreturnOut hx Bd.returns (hb hby d4_16) hr
  · show Q4 Z a1 b kb n j j' vs x h0 n0 _ T8.heap _
    rw [e8]
    exact ⟨rfl, N8, KK8, E_a1_8, F_z_8, F_v_8⟩
theorem ef_5 (m : MethodId) (a1 : Addr) : entryFrame m #[(.ref a1)] 1 = mkF m 0 #[.val (.ref a1)] [] := by first | (simp [entryFrame, mkF, argsToLocals, Value.category]; done) | rfl
def Q5 (Z : State) (a1 : Addr) (j : Int32) (h0 : Heap) (n0 : Nat) (v : Option Value) (h : Heap) (L : List Loc) : Prop := v = some (.int j) ∧ Fr n0 L ∧ h = h0
set_option maxRecDepth 65536 in
set_option maxHeartbeats 40000000 in
theorem rm5 (l : Launch) (Z : State) (a0 : Array Value) (hw : ∀ d ∈ tables_1, d.before a0 Z = true) (ws : List Jvm.Cond) (a1 : Addr) (j : Int32) (h0 : Heap) (n0 : Nat) (Z0 : n0 ≤ h0.size) (F_z : Fld Z h0 a1 "com/example/queries_over_knowledge/queriesoverknowledge/reasoning/LongList" "size" "I" (.int j)) :
    MetFree l (⟨"com/example/queries_over_knowledge/queriesoverknowledge/reasoning/LongList", "size", "()I"⟩ : MethodName) (head1 (Jvm.Cond.code (⟨"com/example/queries_over_knowledge/queriesoverknowledge/reasoning/LongList", "size", "()I"⟩ : MethodName) prog_37_method_5_code 1 (some .int) :: ws) ({ frames := 0, cells := 0, slots := 0, locals := 0 } : Room)) (fun a U => a = #[(.ref a1)] ∧ Z.Warmed39 U.vm ∧ U.heap = h0) (fun _ _ _ _ _ => True) (fun _ U o U' => ∃ v L, o = .returned v ∧ Q5 Z a1 j h0 n0 v U'.heap L ∧ FrameEnd U o U' L ({ frames := 0, cells := 0, slots := 0, locals := 0 } : Room).cells ({ frames := 0, cells := 0, slots := 0, locals := 0 } : Room).slots) := by
  refine MetFree.of_bodySF (plainFor_of_name pn_1) hisR ?_
  intro p e s m args below meth c s₁ Bd hml0 hP hK
  obtain ⟨rfl, hZ, hh⟩ := hP
  have hx := Bd.exec
  have hby := Bd.bytes
  have hml : c.maxLocals = 1 := hml0
  have hown : s.vm.findClass "com/example/queries_over_knowledge/queriesoverknowledge/reasoning/LongList" = some m.cls := findClass_of_methodNamed Bd.named
  have hnm := (name_of_methodNamed Bd.named Bd.method).1
  have X0 : Stand p l e ({ frames := 0, cells := 0, slots := 0, locals := 0 } : Room) s m #[(.ref a1)] below meth c s₁ [] 0 0 := Stand.of_body Bd
  have e0 : s₁.heap = h0 := by rw [← hh, Bd.state]; rfl
  have N0 := Fr.nil n0
  have pre0 : ∀ t, Steps p.tables e below (s₁.setTop (mkF m 0 #[.val (.ref a1)] [])) t → Steps p.tables e below (s₁.setTop (entryFrame m #[(.ref a1)] 1)) t := fun t k => castTop (ef_5 m a1) k
  have G1 : ∀ t, Steps p.tables e below (s₁.setTop (mkF m 1 #[.val (.ref a1)] [(.ref a1)])) t → Steps p.tables e below (s₁.setTop (entryFrame m #[(.ref a1)] 1)) t := by
    intro t kt
    refine pre0 t ?_
    show Steps p.tables e below (s₁.setTop (mkF m 0 #[.val (.ref a1)] [])) _
    refine XS.aloadN X0.here hx rfl (hb hby d5_0) rfl rfl ?_
    show Steps p.tables e below (s₁.setTop (mkF m 1 #[.val (.ref a1)] [(.ref a1)])) _
    exact kt
  obtain ⟨T2, X2, e2, st2⟩ := getF X0 hx hZ hown (host := "") (Or.inl (hw _ (List.mem_of_getElem? (i := 18) rfl))) Via.refl e0 F_z (g := (mkF m 1 #[.val (.ref a1)] [(.ref a1)])) rfl rfl (hb hby d5_1)
  have G2 : ∀ t, Steps p.tables e below (T2.setTop (mkF m 4 #[.val (.ref a1)] [(.int j)])) t → Steps p.tables e below (s₁.setTop (entryFrame m #[(.ref a1)] 1)) t := fun t kt => G1 t (st2 t kt)
  obtain ⟨fs, hr, hrun, hended, hW, hsame⟩ := X2.leave (v := some (.int j)) (fun h => by rw [Bd.returns] at h; cases h)
  refine ⟨_, _, G2 _ ?_, hrun, hended, _, _, rfl, ?_, ⟨_, rfl⟩, hW, hsame.mono (by decide) (by decide)⟩
  · show Steps p.tables e below (T2.setTop (mkF m 4 #[.val (.ref a1)] [(.int j)])) _
    exact retI X2 hx Bd.returns (hb hby d5_4) hr
  · show Q5 Z a1 j h0 n0 _ T2.heap _
    rw [e2]
    exact ⟨rfl, N0, rfl⟩
theorem ef_6 (m : MethodId) (a1 : Addr) : entryFrame m #[(.ref a1)] 1 = mkF m 0 #[.val (.ref a1)] [] := by first | (simp [entryFrame, mkF, argsToLocals, Value.category]; done) | rfl
def Q6 (Z : State) (a1 : Addr) (b : Addr) (kb : ClassId) (n j mm : Int32) (vs us ws' : List Value) (h0 : Heap) (n0 : Nat) (v : Option Value) (h : Heap) (L : List Loc) : Prop := ∃ (r : Addr) (kr : ClassId), v = some (.ref r) ∧ Fr n0 L ∧ Keep h0 h [] ∧ n0 ≤ r ∧ h0.size ≤ r ∧ Arv Z h r kr .long j ws' (.long (0 : Int64))
set_option maxRecDepth 65536 in
set_option maxHeartbeats 40000000 in
theorem rm6 (l : Launch) (Z : State) (a0 : Array Value) (hw : ∀ d ∈ tables_1, d.before a0 Z = true) (ws : List Jvm.Cond) (a1 : Addr) (b : Addr) (kb : ClassId) (n j mm : Int32) (vs us ws' : List Value) (h0 : Heap) (n0 : Nat) (Z0 : n0 ≤ h0.size) (F_z : Fld Z h0 a1 "com/example/queries_over_knowledge/queriesoverknowledge/reasoning/LongList" "size" "I" (.int j)) (F_v : Fld Z h0 a1 "com/example/queries_over_knowledge/queriesoverknowledge/reasoning/LongList" "values" "[J" (.ref b)) (V_b : Arv Z h0 b kb .long n vs (.long (0 : Int64))) (hne : ¬ (j = n)) (hp1 : ¬ j < 0) (hp2 : j.toNatClampNeg ≤ 8) (hmm : g8_0 n j = mm) (hp3 : ¬ mm < 0) (hp4 : mm.toNatClampNeg ≤ n.toNatClampNeg) (hp5 : mm.toNatClampNeg ≤ j.toNatClampNeg) (hus : us = (List.range mm.toNatClampNeg).map fun i => vs.getD ((0 : Int32).toNatClampNeg + i) (.long (0 : Int64))) (hws : ((List.replicate j.toNatClampNeg (.long (0 : Int64))).take (0 : Int32).toNatClampNeg ++ us ++ (List.replicate j.toNatClampNeg (.long (0 : Int64))).drop ((0 : Int32).toNatClampNeg + mm.toNatClampNeg)) = ws') :
    MetFree l (⟨"com/example/queries_over_knowledge/queriesoverknowledge/reasoning/LongList", "toArray", "()[J"⟩ : MethodName) (head1 (Jvm.Cond.code (⟨"com/example/queries_over_knowledge/queriesoverknowledge/reasoning/LongList", "toArray", "()[J"⟩ : MethodName) prog_37_method_4_code 1 (some (.array .long)) :: ws) ({ frames := 2, cells := 1, slots := 8, locals := 80 } : Room)) (fun a U => a = #[(.ref a1)] ∧ Z.Warmed39 U.vm ∧ U.heap = h0) (fun _ _ _ _ _ => True) (fun _ U o U' => ∃ v L, o = .returned v ∧ Q6 Z a1 b kb n j mm vs us ws' h0 n0 v U'.heap L ∧ FrameEnd U o U' L ({ frames := 2, cells := 1, slots := 8, locals := 80 } : Room).cells ({ frames := 2, cells := 1, slots := 8, locals := 80 } : Room).slots) := by
  refine MetFree.of_bodySF (plainFor_of_name pn_1) hisR ?_
  intro p e s m args below meth c s₁ Bd hml0 hP hK
  obtain ⟨rfl, hZ, hh⟩ := hP
  have hx := Bd.exec
  have hby := Bd.bytes
  have hml : c.maxLocals = 1 := hml0
  have hown : s.vm.findClass "com/example/queries_over_knowledge/queriesoverknowledge/reasoning/LongList" = some m.cls := findClass_of_methodNamed Bd.named
  have hnm := (name_of_methodNamed Bd.named Bd.method).1
  have X0 : Stand p l e ({ frames := 2, cells := 1, slots := 8, locals := 80 } : Room) s m #[(.ref a1)] below meth c s₁ [] 0 0 := Stand.of_body Bd
  have e0 : s₁.heap = h0 := by rw [← hh, Bd.state]; rfl
  have N0 := Fr.nil n0
  have pre0 : ∀ t, Steps p.tables e below (s₁.setTop (mkF m 0 #[.val (.ref a1)] [])) t → Steps p.tables e below (s₁.setTop (entryFrame m #[(.ref a1)] 1)) t := fun t k => castTop (ef_6 m a1) k
  have G1 : ∀ t, Steps p.tables e below (s₁.setTop (mkF m 1 #[.val (.ref a1)] [(.ref a1)])) t → Steps p.tables e below (s₁.setTop (entryFrame m #[(.ref a1)] 1)) t := by
    intro t kt
    refine pre0 t ?_
    show Steps p.tables e below (s₁.setTop (mkF m 0 #[.val (.ref a1)] [])) _
    refine XS.aloadN X0.here hx rfl (hb hby d6_0) rfl rfl ?_
    show Steps p.tables e below (s₁.setTop (mkF m 1 #[.val (.ref a1)] [(.ref a1)])) _
    exact kt
  obtain ⟨T2, X2, e2, st2⟩ := getF X0 hx hZ hown (host := "") (Or.inl (hw _ (List.mem_of_getElem? (i := 11) rfl))) Via.refl e0 F_v (g := (mkF m 1 #[.val (.ref a1)] [(.ref a1)])) rfl rfl (hb hby d6_1)
  have G2 : ∀ t, Steps p.tables e below (T2.setTop (mkF m 4 #[.val (.ref a1)] [(.ref b)])) t → Steps p.tables e below (s₁.setTop (entryFrame m #[(.ref a1)] 1)) t := fun t kt => G1 t (st2 t kt)
  have G3 : ∀ t, Steps p.tables e below (T2.setTop (mkF m 5 #[.val (.ref a1)] [(.ref a1), (.ref b)])) t → Steps p.tables e below (s₁.setTop (entryFrame m #[(.ref a1)] 1)) t := by
    intro t kt
    refine G2 t ?_
    show Steps p.tables e below (T2.setTop (mkF m 4 #[.val (.ref a1)] [(.ref b)])) _
    refine XS.aloadN X2.here hx rfl (hb hby d6_4) rfl rfl ?_
    show Steps p.tables e below (T2.setTop (mkF m 5 #[.val (.ref a1)] [(.ref a1), (.ref b)])) _
    exact kt
  obtain ⟨T4, X4, e4, st4⟩ := getF X2 hx hZ hown (host := "") (Or.inl (hw _ (List.mem_of_getElem? (i := 18) rfl))) Via.refl e2 F_z (g := (mkF m 5 #[.val (.ref a1)] [(.ref a1), (.ref b)])) rfl rfl (hb hby d6_5)
  have G4 : ∀ t, Steps p.tables e below (T4.setTop (mkF m 8 #[.val (.ref a1)] [(.int j), (.ref b)])) t → Steps p.tables e below (s₁.setTop (entryFrame m #[(.ref a1)] 1)) t := fun t kt => G3 t (st4 t kt)
  obtain ⟨_, _, ⟨T5, L5, k5, n5⟩, -, X5, ⟨Lc5, hQ5, l5, y5, z5⟩, st5⟩ := Jvm.LawKit.callS X4 hx (y := (⟨"java/util/Arrays", "copyOf", "([JI)[J"⟩ : MethodName)) hown (mvT hZ (hw _ (List.mem_of_getElem? (i := 35) rfl))) (mvT hZ (hw _ (List.mem_of_getElem? (i := 36) rfl))) (mvT hZ (hw _ (List.mem_of_getElem? (i := 37) rfl))) (mvT hZ (hw _ (List.mem_of_getElem? (i := 38) rfl))) (by decide) (backOf (W := 0) (rm7 l Z a0 hw [] b j kb n mm vs us ws' h0 n0 Z0 V_b hne hp1 hp2 hmm hp3 hp4 hp5 hus hws) hZ (hw _ (List.mem_of_getElem? (i := 38) rfl)) (hw _ (List.mem_of_getElem? (i := 37) rfl)) (by decide) (by decide)) (g := (mkF m 8 #[.val (.ref a1)] [(.int j), (.ref b)])) rfl (by rw [hml]; rfl) (argsL := [(.ref b), (.int j)]) (rest := []) (lenOf pd_1 rfl) rfl (by show 2 * 0 + _ ≤ _; exact Nat.le_of_eq rfl) (hb hby d6_8) (fun _ _ => ⟨rfl, e4, (by decide : 0 + 1 ≤ _), (by decide : 0 + 8 ≤ _)⟩)
  dsimp only [Pt.U, Pt.locs, Pt.cells, Pt.slots] at X5 l5 y5 z5 st5 hQ5
  subst l5 y5 z5
  obtain ⟨r5, kr5, rfl, N5q, K5, g_r5, szq5, V_r5⟩ := hQ5
  have N5 := Fr.app N0 N5q
  have ne_a1_r5 : a1 ≠ r5 := Nat.ne_of_lt (Nat.lt_of_lt_of_le F_z.lt szq5)
  have sz_r5 : h0.size ≤ r5 := Nat.le_trans (Keep.refl h0 []).1 szq5
  have F_z_5 : Fld Z T5.heap a1 "com/example/queries_over_knowledge/queriesoverknowledge/reasoning/LongList" "size" "I" (.int j) := F_z.keep K5 nin0
  have F_v_5 : Fld Z T5.heap a1 "com/example/queries_over_knowledge/queriesoverknowledge/reasoning/LongList" "values" "[J" (.ref b) := F_v.keep K5 nin0
  have Z5 : n0 ≤ T5.heap.size := Nat.le_trans Z0 K5.1
  have KK5 : Keep h0 T5.heap [] := (Keep.refl h0 []).trans K5 all0
  have G5 : ∀ t, Steps p.tables e below (T5.setTop (mkF m 11 #[.val (.ref a1)] [(.ref r5)])) t → Steps p.tables e below (s₁.setTop (entryFrame m #[(.ref a1)] 1)) t := fun t kt => G4 t (st5 t kt)
  obtain ⟨fs, hr, hrun, hended, hW, hsame⟩ := X5.leave (v := some (.ref r5)) (fun h => by rw [Bd.returns] at h; cases h)
  refine ⟨_, _, G5 _ ?_, hrun, hended, _, _, rfl, ?_, ⟨_, rfl⟩, hW, hsame.mono (by decide) (by decide)⟩
  · show Steps p.tables e below (T5.setTop (mkF m 11 #[.val (.ref a1)] [(.ref r5)])) _
    jvm_step X5.here [X5.here.top, hx, (hb hby d6_11), X5.method', Bd.returns, Value.isRef, FieldType.isReference]
    first | (intro acts; rw [hr _ acts rfl rfl rfl]) | rw [hr _ _ rfl rfl rfl]
    exact Steps.refl _
  · show Q6 Z a1 b kb n j mm vs us ws' h0 n0 _ T5.heap _
    exact ⟨_, _, rfl, N5, KK5, g_r5, sz_r5, V_r5⟩
theorem ef_0 (m : MethodId) (p1 : Int32) (q2 : Int64) (q3 : Int64) (q4 : Int64) (q5 : Int64) (q6 : Int64) : entryFrame m #[(.int p1), (.long q2), (.long q3), (.long q4), (.long q5), (.long q6)] maxLocals = mkF m 0 #[.val (.int p1), .val (.long q2), .second, .val (.long q3), .second, .val (.long q4), .second, .val (.long q5), .second, .val (.long q6), .second, .unset, .unset, .unset, .unset, .unset, .unset, .unset, .unset] [] := by first | (simp [entryFrame, mkF, argsToLocals, Value.category, maxLocals]; done) | rfl
def Q0 (Z : State) (p1 : Int32) (q2 : Int64) (q3 : Int64) (q4 : Int64) (q5 : Int64) (q6 : Int64)  (h0 : Heap) (n0 : Nat) (v : Option Value) (h : Heap) (L : List Loc) : Prop := v = some (.int (1 : Int32)) ∧ Fr n0 L
set_option maxRecDepth 65536 in
set_option maxHeartbeats 40000000 in
theorem rm0 (l : Launch) (Z : State) (a0 : Array Value) (hw : ∀ d ∈ tables_1, d.before a0 Z = true) (ws : List Jvm.Cond) (p1 : Int32) (q2 : Int64) (q3 : Int64) (q4 : Int64) (q5 : Int64) (q6 : Int64)  (h0 : Heap) (n0 : Nat) (Z0 : n0 ≤ h0.size) :
    MetFree l x (head1 (Jvm.Cond.code x code maxLocals ret :: ws) room_1) (fun a U => a = #[(.int p1), (.long q2), (.long q3), (.long q4), (.long q5), (.long q6)] ∧ Z.Warmed39 U.vm ∧ U.heap = h0) (fun _ _ _ _ _ => True) (fun _ U o U' => ∃ v L, o = .returned v ∧ Q0 Z p1 q2 q3 q4 q5 q6 h0 n0 v U'.heap L ∧ FrameEnd U o U' L room_1.cells room_1.slots) := by
  refine MetFree.of_bodySF (plainFor_of_name pn_2) hisR ?_
  intro p e s m args below meth c s₁ Bd hml0 hP hK
  obtain ⟨rfl, hZ, hh⟩ := hP
  have hx := Bd.exec
  have hby := Bd.bytes
  have hml : c.maxLocals = 19 := hml0
  have hown : s.vm.findClass "com/example/queries_over_knowledge/queriesoverknowledge/reasoning/LongListRemoveLastPinLaw" = some m.cls := findClass_of_methodNamed Bd.named
  have hnm := (name_of_methodNamed Bd.named Bd.method).1
  have X0 : Stand p l e room_1 s m #[(.int p1), (.long q2), (.long q3), (.long q4), (.long q5), (.long q6)] below meth c s₁ [] 0 0 := Stand.of_body Bd
  have e0 : s₁.heap = h0 := by rw [← hh, Bd.state]; rfl
  have N0 := Fr.nil n0
  have pre0 : ∀ t, Steps p.tables e below (s₁.setTop (mkF m 0 #[.val (.int p1), .val (.long q2), .second, .val (.long q3), .second, .val (.long q4), .second, .val (.long q5), .second, .val (.long q6), .second, .unset, .unset, .unset, .unset, .unset, .unset, .unset, .unset] [])) t → Steps p.tables e below (s₁.setTop (entryFrame m #[(.int p1), (.long q2), (.long q3), (.long q4), (.long q5), (.long q6)] maxLocals)) t := fun t k => castTop (ef_0 m p1 q2 q3 q4 q5 q6) k
  have G1 : ∀ t, Steps p.tables e below (s₁.setTop (mkF m 1 #[.val (.int p1), .val (.long q2), .second, .val (.long q3), .second, .val (.long q4), .second, .val (.long q5), .second, .val (.long q6), .second, .unset, .unset, .unset, .unset, .unset, .unset, .unset, .unset] [(.int (5 : Int32))])) t → Steps p.tables e below (s₁.setTop (entryFrame m #[(.int p1), (.long q2), (.long q3), (.long q4), (.long q5), (.long q6)] maxLocals)) t := by
    intro t kt
    refine pre0 t ?_
    show Steps p.tables e below (s₁.setTop (mkF m 0 #[.val (.int p1), .val (.long q2), .second, .val (.long q3), .second, .val (.long q4), .second, .val (.long q5), .second, .val (.long q6), .second, .unset, .unset, .unset, .unset, .unset, .unset, .unset, .unset] [])) _
    refine XS.iconst X0.here hx rfl (hb hby at_0) ?_
    show Steps p.tables e below (s₁.setTop (mkF m 1 #[.val (.int p1), .val (.long q2), .second, .val (.long q3), .second, .val (.long q4), .second, .val (.long q5), .second, .val (.long q6), .second, .unset, .unset, .unset, .unset, .unset, .unset, .unset, .unset] [(.int (5 : Int32))])) _
    exact kt
  obtain ⟨T2, h2, k2, X2, e2, E2, A2, st2⟩ := newP X0 hx hZ (hw _ (List.mem_of_getElem? (i := 0) rfl)) e0 (g := (mkF m 1 #[.val (.int p1), .val (.long q2), .second, .val (.long q3), .second, .val (.long q4), .second, .val (.long q5), .second, .val (.long q6), .second, .unset, .unset, .unset, .unset, .unset, .unset, .unset, .unset] [(.int (5 : Int32))])) rfl (hb hby at_1) rfl (by decide) (cap := 5) (by decide) (by decide) (by decide) (by decide)
  obtain ⟨b2, g2⟩ : ∃ z, z = h0.size := ⟨_, rfl⟩
  rw [← g2] at A2 st2
  have g_b2 : n0 ≤ b2 := Nat.le_trans Z0 (Nat.le_of_eq g2.symm)
  have Z2 : n0 ≤ h2.size := Nat.le_trans Z0 E2.1
  have V_b2 : Arv Z h2 b2 k2 .long (5 : Int32) [(.long (0 : Int64)), (.long (0 : Int64)), (.long (0 : Int64)), (.long (0 : Int64)), (.long (0 : Int64))] (.long (0 : Int64)) := (Arv.new A2 (by decide)).pad (pad_rep [] (.long (0 : Int64)) 5)
  have G2 : ∀ t, Steps p.tables e below (T2.setTop (mkF m 3 #[.val (.int p1), .val (.long q2), .second, .val (.long q3), .second, .val (.long q4), .second, .val (.long q5), .second, .val (.long q6), .second, .unset, .unset, .unset, .unset, .unset, .unset, .unset, .unset] [(.ref b2)])) t → Steps p.tables e below (s₁.setTop (entryFrame m #[(.int p1), (.long q2), (.long q3), (.long q4), (.long q5), (.long q6)] maxLocals)) t := fun t kt => G1 t (st2 t kt)
  have G3 : ∀ t, Steps p.tables e below (T2.setTop (mkF m 6 #[.val (.int p1), .val (.long q2), .second, .val (.long q3), .second, .val (.long q4), .second, .val (.long q5), .second, .val (.long q6), .second, .unset, .unset, .unset, .unset, .unset, .unset, .unset, .unset] [(.long q2), (.int (0 : Int32)), (.ref b2), (.ref b2)])) t → Steps p.tables e below (s₁.setTop (entryFrame m #[(.int p1), (.long q2), (.long q3), (.long q4), (.long q5), (.long q6)] maxLocals)) t := by
    intro t kt
    refine G2 t ?_
    show Steps p.tables e below (T2.setTop (mkF m 3 #[.val (.int p1), .val (.long q2), .second, .val (.long q3), .second, .val (.long q4), .second, .val (.long q5), .second, .val (.long q6), .second, .unset, .unset, .unset, .unset, .unset, .unset, .unset, .unset] [(.ref b2)])) _
    refine XS.dup X2.here hx rfl (hb hby at_3) rfl rfl ?_
    show Steps p.tables e below (T2.setTop (mkF m 4 #[.val (.int p1), .val (.long q2), .second, .val (.long q3), .second, .val (.long q4), .second, .val (.long q5), .second, .val (.long q6), .second, .unset, .unset, .unset, .unset, .unset, .unset, .unset, .unset] [(.ref b2), (.ref b2)])) _
    refine XS.iconst X2.here hx rfl (hb hby at_4) ?_
    show Steps p.tables e below (T2.setTop (mkF m 5 #[.val (.int p1), .val (.long q2), .second, .val (.long q3), .second, .val (.long q4), .second, .val (.long q5), .second, .val (.long q6), .second, .unset, .unset, .unset, .unset, .unset, .unset, .unset, .unset] [(.int (0 : Int32)), (.ref b2), (.ref b2)])) _
    refine XS.lloadN X2.here hx rfl (hb hby at_5) rfl ?_
    show Steps p.tables e below (T2.setTop (mkF m 6 #[.val (.int p1), .val (.long q2), .second, .val (.long q3), .second, .val (.long q4), .second, .val (.long q5), .second, .val (.long q6), .second, .unset, .unset, .unset, .unset, .unset, .unset, .unset, .unset] [(.long q2), (.int (0 : Int32)), (.ref b2), (.ref b2)])) _
    exact kt
  obtain ⟨cl_4, Ar_4, q_4, S_4, M_4, H_4, U_4⟩ := id V_b2
  obtain ⟨T4, h4, X4, e4, W4, st4⟩ := stJ X2 hx hZ e2 Ar_4 (j := (0 : Int32)) (inb_of S_4 ⟨(by decide : ¬ ((0 : Int32) < (0 : Int32))), (by decide : (0 : Int32) < (5 : Int32))⟩) (g := (mkF m 6 #[.val (.int p1), .val (.long q2), .second, .val (.long q3), .second, .val (.long q4), .second, .val (.long q5), .second, .val (.long q6), .second, .unset, .unset, .unset, .unset, .unset, .unset, .unset, .unset] [(.long q2), (.int (0 : Int32)), (.ref b2), (.ref b2)])) rfl rfl (hb hby at_6)
  have V_b2_4 : Arv Z h4 b2 k2 .long (5 : Int32) [(.long q2), (.long (0 : Int64)), (.long (0 : Int64)), (.long (0 : Int64)), (.long (0 : Int64))] (.long (0 : Int64)) := Arv.set Ar_4 q_4 S_4 M_4 H_4 U_4 rfl W4 0 rfl (Nat.le_of_ble_eq_true rfl)
  have Z4 : n0 ≤ h4.size := Nat.le_trans Z2 (Keep.of_wr W4).1
  have N4 := Fr.snoc X4 N0 g_b2
  have G4 : ∀ t, Steps p.tables e below (T4.setTop (mkF m 7 #[.val (.int p1), .val (.long q2), .second, .val (.long q3), .second, .val (.long q4), .second, .val (.long q5), .second, .val (.long q6), .second, .unset, .unset, .unset, .unset, .unset, .unset, .unset, .unset] [(.ref b2)])) t → Steps p.tables e below (s₁.setTop (entryFrame m #[(.int p1), (.long q2), (.long q3), (.long q4), (.long q5), (.long q6)] maxLocals)) t := fun t kt => G3 t (st4 t kt)
  have G5 : ∀ t, Steps p.tables e below (T4.setTop (mkF m 10 #[.val (.int p1), .val (.long q2), .second, .val (.long q3), .second, .val (.long q4), .second, .val (.long q5), .second, .val (.long q6), .second, .unset, .unset, .unset, .unset, .unset, .unset, .unset, .unset] [(.long q3), (.int (1 : Int32)), (.ref b2), (.ref b2)])) t → Steps p.tables e below (s₁.setTop (entryFrame m #[(.int p1), (.long q2), (.long q3), (.long q4), (.long q5), (.long q6)] maxLocals)) t := by
    intro t kt
    refine G4 t ?_
    show Steps p.tables e below (T4.setTop (mkF m 7 #[.val (.int p1), .val (.long q2), .second, .val (.long q3), .second, .val (.long q4), .second, .val (.long q5), .second, .val (.long q6), .second, .unset, .unset, .unset, .unset, .unset, .unset, .unset, .unset] [(.ref b2)])) _
    refine XS.dup X4.here hx rfl (hb hby at_7) rfl rfl ?_
    show Steps p.tables e below (T4.setTop (mkF m 8 #[.val (.int p1), .val (.long q2), .second, .val (.long q3), .second, .val (.long q4), .second, .val (.long q5), .second, .val (.long q6), .second, .unset, .unset, .unset, .unset, .unset, .unset, .unset, .unset] [(.ref b2), (.ref b2)])) _
    refine XS.iconst X4.here hx rfl (hb hby at_8) ?_
    show Steps p.tables e below (T4.setTop (mkF m 9 #[.val (.int p1), .val (.long q2), .second, .val (.long q3), .second, .val (.long q4), .second, .val (.long q5), .second, .val (.long q6), .second, .unset, .unset, .unset, .unset, .unset, .unset, .unset, .unset] [(.int (1 : Int32)), (.ref b2), (.ref b2)])) _
    refine XS.lloadN X4.here hx rfl (hb hby at_9) rfl ?_
    show Steps p.tables e below (T4.setTop (mkF m 10 #[.val (.int p1), .val (.long q2), .second, .val (.long q3), .second, .val (.long q4), .second, .val (.long q5), .second, .val (.long q6), .second, .unset, .unset, .unset, .unset, .unset, .unset, .unset, .unset] [(.long q3), (.int (1 : Int32)), (.ref b2), (.ref b2)])) _
    exact kt
  obtain ⟨cl_6, Ar_6, q_6, S_6, M_6, H_6, U_6⟩ := id V_b2_4
  obtain ⟨T6, h6, X6, e6, W6, st6⟩ := stJ X4 hx hZ e4 Ar_6 (j := (1 : Int32)) (inb_of S_6 ⟨(by decide : ¬ ((1 : Int32) < (0 : Int32))), (by decide : (1 : Int32) < (5 : Int32))⟩) (g := (mkF m 10 #[.val (.int p1), .val (.long q2), .second, .val (.long q3), .second, .val (.long q4), .second, .val (.long q5), .second, .val (.long q6), .second, .unset, .unset, .unset, .unset, .unset, .unset, .unset, .unset] [(.long q3), (.int (1 : Int32)), (.ref b2), (.ref b2)])) rfl rfl (hb hby at_10)
  have V_b2_6 : Arv Z h6 b2 k2 .long (5 : Int32) [(.long q2), (.long q3), (.long (0 : Int64)), (.long (0 : Int64)), (.long (0 : Int64))] (.long (0 : Int64)) := Arv.set Ar_6 q_6 S_6 M_6 H_6 U_6 rfl W6 1 rfl (Nat.le_of_ble_eq_true rfl)
  have Z6 : n0 ≤ h6.size := Nat.le_trans Z4 (Keep.of_wr W6).1
  have N6 := Fr.snoc X6 N4 g_b2
  have G6 : ∀ t, Steps p.tables e below (T6.setTop (mkF m 11 #[.val (.int p1), .val (.long q2), .second, .val (.long q3), .second, .val (.long q4), .second, .val (.long q5), .second, .val (.long q6), .second, .unset, .unset, .unset, .unset, .unset, .unset, .unset, .unset] [(.ref b2)])) t → Steps p.tables e below (s₁.setTop (entryFrame m #[(.int p1), (.long q2), (.long q3), (.long q4), (.long q5), (.long q6)] maxLocals)) t := fun t kt => G5 t (st6 t kt)
  have G7 : ∀ t, Steps p.tables e below (T6.setTop (mkF m 15 #[.val (.int p1), .val (.long q2), .second, .val (.long q3), .second, .val (.long q4), .second, .val (.long q5), .second, .val (.long q6), .second, .unset, .unset, .unset, .unset, .unset, .unset, .unset, .unset] [(.long q4), (.int (2 : Int32)), (.ref b2), (.ref b2)])) t → Steps p.tables e below (s₁.setTop (entryFrame m #[(.int p1), (.long q2), (.long q3), (.long q4), (.long q5), (.long q6)] maxLocals)) t := by
    intro t kt
    refine G6 t ?_
    show Steps p.tables e below (T6.setTop (mkF m 11 #[.val (.int p1), .val (.long q2), .second, .val (.long q3), .second, .val (.long q4), .second, .val (.long q5), .second, .val (.long q6), .second, .unset, .unset, .unset, .unset, .unset, .unset, .unset, .unset] [(.ref b2)])) _
    refine XS.dup X6.here hx rfl (hb hby at_11) rfl rfl ?_
    show Steps p.tables e below (T6.setTop (mkF m 12 #[.val (.int p1), .val (.long q2), .second, .val (.long q3), .second, .val (.long q4), .second, .val (.long q5), .second, .val (.long q6), .second, .unset, .unset, .unset, .unset, .unset, .unset, .unset, .unset] [(.ref b2), (.ref b2)])) _
    refine XS.iconst X6.here hx rfl (hb hby at_12) ?_
    show Steps p.tables e below (T6.setTop (mkF m 13 #[.val (.int p1), .val (.long q2), .second, .val (.long q3), .second, .val (.long q4), .second, .val (.long q5), .second, .val (.long q6), .second, .unset, .unset, .unset, .unset, .unset, .unset, .unset, .unset] [(.int (2 : Int32)), (.ref b2), (.ref b2)])) _
    refine XS.lload X6.here hx rfl (hb hby at_13) rfl ?_
    show Steps p.tables e below (T6.setTop (mkF m 15 #[.val (.int p1), .val (.long q2), .second, .val (.long q3), .second, .val (.long q4), .second, .val (.long q5), .second, .val (.long q6), .second, .unset, .unset, .unset, .unset, .unset, .unset, .unset, .unset] [(.long q4), (.int (2 : Int32)), (.ref b2), (.ref b2)])) _
    exact kt
  obtain ⟨cl_8, Ar_8, q_8, S_8, M_8, H_8, U_8⟩ := id V_b2_6
  obtain ⟨T8, h8, X8, e8, W8, st8⟩ := stJ X6 hx hZ e6 Ar_8 (j := (2 : Int32)) (inb_of S_8 ⟨(by decide : ¬ ((2 : Int32) < (0 : Int32))), (by decide : (2 : Int32) < (5 : Int32))⟩) (g := (mkF m 15 #[.val (.int p1), .val (.long q2), .second, .val (.long q3), .second, .val (.long q4), .second, .val (.long q5), .second, .val (.long q6), .second, .unset, .unset, .unset, .unset, .unset, .unset, .unset, .unset] [(.long q4), (.int (2 : Int32)), (.ref b2), (.ref b2)])) rfl rfl (hb hby at_15)
  have V_b2_8 : Arv Z h8 b2 k2 .long (5 : Int32) [(.long q2), (.long q3), (.long q4), (.long (0 : Int64)), (.long (0 : Int64))] (.long (0 : Int64)) := Arv.set Ar_8 q_8 S_8 M_8 H_8 U_8 rfl W8 2 rfl (Nat.le_of_ble_eq_true rfl)
  have Z8 : n0 ≤ h8.size := Nat.le_trans Z6 (Keep.of_wr W8).1
  have N8 := Fr.snoc X8 N6 g_b2
  have G8 : ∀ t, Steps p.tables e below (T8.setTop (mkF m 16 #[.val (.int p1), .val (.long q2), .second, .val (.long q3), .second, .val (.long q4), .second, .val (.long q5), .second, .val (.long q6), .second, .unset, .unset, .unset, .unset, .unset, .unset, .unset, .unset] [(.ref b2)])) t → Steps p.tables e below (s₁.setTop (entryFrame m #[(.int p1), (.long q2), (.long q3), (.long q4), (.long q5), (.long q6)] maxLocals)) t := fun t kt => G7 t (st8 t kt)
  have G9 : ∀ t, Steps p.tables e below (T8.setTop (mkF m 20 #[.val (.int p1), .val (.long q2), .second, .val (.long q3), .second, .val (.long q4), .second, .val (.long q5), .second, .val (.long q6), .second, .unset, .unset, .unset, .unset, .unset, .unset, .unset, .unset] [(.long q5), (.int (3 : Int32)), (.ref b2), (.ref b2)])) t → Steps p.tables e below (s₁.setTop (entryFrame m #[(.int p1), (.long q2), (.long q3), (.long q4), (.long q5), (.long q6)] maxLocals)) t := by
    intro t kt
    refine G8 t ?_
    show Steps p.tables e below (T8.setTop (mkF m 16 #[.val (.int p1), .val (.long q2), .second, .val (.long q3), .second, .val (.long q4), .second, .val (.long q5), .second, .val (.long q6), .second, .unset, .unset, .unset, .unset, .unset, .unset, .unset, .unset] [(.ref b2)])) _
    refine XS.dup X8.here hx rfl (hb hby at_16) rfl rfl ?_
    show Steps p.tables e below (T8.setTop (mkF m 17 #[.val (.int p1), .val (.long q2), .second, .val (.long q3), .second, .val (.long q4), .second, .val (.long q5), .second, .val (.long q6), .second, .unset, .unset, .unset, .unset, .unset, .unset, .unset, .unset] [(.ref b2), (.ref b2)])) _
    refine XS.iconst X8.here hx rfl (hb hby at_17) ?_
    show Steps p.tables e below (T8.setTop (mkF m 18 #[.val (.int p1), .val (.long q2), .second, .val (.long q3), .second, .val (.long q4), .second, .val (.long q5), .second, .val (.long q6), .second, .unset, .unset, .unset, .unset, .unset, .unset, .unset, .unset] [(.int (3 : Int32)), (.ref b2), (.ref b2)])) _
    refine XS.lload X8.here hx rfl (hb hby at_18) rfl ?_
    show Steps p.tables e below (T8.setTop (mkF m 20 #[.val (.int p1), .val (.long q2), .second, .val (.long q3), .second, .val (.long q4), .second, .val (.long q5), .second, .val (.long q6), .second, .unset, .unset, .unset, .unset, .unset, .unset, .unset, .unset] [(.long q5), (.int (3 : Int32)), (.ref b2), (.ref b2)])) _
    exact kt
  obtain ⟨cl_10, Ar_10, q_10, S_10, M_10, H_10, U_10⟩ := id V_b2_8
  obtain ⟨T10, h10, X10, e10, W10, st10⟩ := stJ X8 hx hZ e8 Ar_10 (j := (3 : Int32)) (inb_of S_10 ⟨(by decide : ¬ ((3 : Int32) < (0 : Int32))), (by decide : (3 : Int32) < (5 : Int32))⟩) (g := (mkF m 20 #[.val (.int p1), .val (.long q2), .second, .val (.long q3), .second, .val (.long q4), .second, .val (.long q5), .second, .val (.long q6), .second, .unset, .unset, .unset, .unset, .unset, .unset, .unset, .unset] [(.long q5), (.int (3 : Int32)), (.ref b2), (.ref b2)])) rfl rfl (hb hby at_20)
  have V_b2_10 : Arv Z h10 b2 k2 .long (5 : Int32) [(.long q2), (.long q3), (.long q4), (.long q5), (.long (0 : Int64))] (.long (0 : Int64)) := Arv.set Ar_10 q_10 S_10 M_10 H_10 U_10 rfl W10 3 rfl (Nat.le_of_ble_eq_true rfl)
  have Z10 : n0 ≤ h10.size := Nat.le_trans Z8 (Keep.of_wr W10).1
  have N10 := Fr.snoc X10 N8 g_b2
  have G10 : ∀ t, Steps p.tables e below (T10.setTop (mkF m 21 #[.val (.int p1), .val (.long q2), .second, .val (.long q3), .second, .val (.long q4), .second, .val (.long q5), .second, .val (.long q6), .second, .unset, .unset, .unset, .unset, .unset, .unset, .unset, .unset] [(.ref b2)])) t → Steps p.tables e below (s₁.setTop (entryFrame m #[(.int p1), (.long q2), (.long q3), (.long q4), (.long q5), (.long q6)] maxLocals)) t := fun t kt => G9 t (st10 t kt)
  have G11 : ∀ t, Steps p.tables e below (T10.setTop (mkF m 25 #[.val (.int p1), .val (.long q2), .second, .val (.long q3), .second, .val (.long q4), .second, .val (.long q5), .second, .val (.long q6), .second, .unset, .unset, .unset, .unset, .unset, .unset, .unset, .unset] [(.long q6), (.int (4 : Int32)), (.ref b2), (.ref b2)])) t → Steps p.tables e below (s₁.setTop (entryFrame m #[(.int p1), (.long q2), (.long q3), (.long q4), (.long q5), (.long q6)] maxLocals)) t := by
    intro t kt
    refine G10 t ?_
    show Steps p.tables e below (T10.setTop (mkF m 21 #[.val (.int p1), .val (.long q2), .second, .val (.long q3), .second, .val (.long q4), .second, .val (.long q5), .second, .val (.long q6), .second, .unset, .unset, .unset, .unset, .unset, .unset, .unset, .unset] [(.ref b2)])) _
    refine XS.dup X10.here hx rfl (hb hby at_21) rfl rfl ?_
    show Steps p.tables e below (T10.setTop (mkF m 22 #[.val (.int p1), .val (.long q2), .second, .val (.long q3), .second, .val (.long q4), .second, .val (.long q5), .second, .val (.long q6), .second, .unset, .unset, .unset, .unset, .unset, .unset, .unset, .unset] [(.ref b2), (.ref b2)])) _
    refine XS.iconst X10.here hx rfl (hb hby at_22) ?_
    show Steps p.tables e below (T10.setTop (mkF m 23 #[.val (.int p1), .val (.long q2), .second, .val (.long q3), .second, .val (.long q4), .second, .val (.long q5), .second, .val (.long q6), .second, .unset, .unset, .unset, .unset, .unset, .unset, .unset, .unset] [(.int (4 : Int32)), (.ref b2), (.ref b2)])) _
    refine XS.lload X10.here hx rfl (hb hby at_23) rfl ?_
    show Steps p.tables e below (T10.setTop (mkF m 25 #[.val (.int p1), .val (.long q2), .second, .val (.long q3), .second, .val (.long q4), .second, .val (.long q5), .second, .val (.long q6), .second, .unset, .unset, .unset, .unset, .unset, .unset, .unset, .unset] [(.long q6), (.int (4 : Int32)), (.ref b2), (.ref b2)])) _
    exact kt
  obtain ⟨cl_12, Ar_12, q_12, S_12, M_12, H_12, U_12⟩ := id V_b2_10
  obtain ⟨T12, h12, X12, e12, W12, st12⟩ := stJ X10 hx hZ e10 Ar_12 (j := (4 : Int32)) (inb_of S_12 ⟨(by decide : ¬ ((4 : Int32) < (0 : Int32))), (by decide : (4 : Int32) < (5 : Int32))⟩) (g := (mkF m 25 #[.val (.int p1), .val (.long q2), .second, .val (.long q3), .second, .val (.long q4), .second, .val (.long q5), .second, .val (.long q6), .second, .unset, .unset, .unset, .unset, .unset, .unset, .unset, .unset] [(.long q6), (.int (4 : Int32)), (.ref b2), (.ref b2)])) rfl rfl (hb hby at_25)
  have V_b2_12 : Arv Z h12 b2 k2 .long (5 : Int32) [(.long q2), (.long q3), (.long q4), (.long q5), (.long q6)] (.long (0 : Int64)) := Arv.set Ar_12 q_12 S_12 M_12 H_12 U_12 rfl W12 4 rfl (Nat.le_of_ble_eq_true rfl)
  have Z12 : n0 ≤ h12.size := Nat.le_trans Z10 (Keep.of_wr W12).1
  have N12 := Fr.snoc X12 N10 g_b2
  have G12 : ∀ t, Steps p.tables e below (T12.setTop (mkF m 26 #[.val (.int p1), .val (.long q2), .second, .val (.long q3), .second, .val (.long q4), .second, .val (.long q5), .second, .val (.long q6), .second, .unset, .unset, .unset, .unset, .unset, .unset, .unset, .unset] [(.ref b2)])) t → Steps p.tables e below (s₁.setTop (entryFrame m #[(.int p1), (.long q2), (.long q3), (.long q4), (.long q5), (.long q6)] maxLocals)) t := fun t kt => G11 t (st12 t kt)
  have G13 : ∀ t, Steps p.tables e below (T12.setTop (mkF m 38 #[.val (.int p1), .val (.long q2), .second, .val (.long q3), .second, .val (.long q4), .second, .val (.long q5), .second, .val (.long q6), .second, .val (.ref b2), .val (.int (((p1 &&& (2147483647 : Int32)) - ((p1 &&& (2147483647 : Int32)) / (5 : Int32)) * (5 : Int32)) + (1 : Int32))), .unset, .unset, .unset, .unset, .unset, .unset] [])) t → Steps p.tables e below (s₁.setTop (entryFrame m #[(.int p1), (.long q2), (.long q3), (.long q4), (.long q5), (.long q6)] maxLocals)) t := by
    intro t kt
    refine G12 t ?_
    show Steps p.tables e below (T12.setTop (mkF m 26 #[.val (.int p1), .val (.long q2), .second, .val (.long q3), .second, .val (.long q4), .second, .val (.long q5), .second, .val (.long q6), .second, .unset, .unset, .unset, .unset, .unset, .unset, .unset, .unset] [(.ref b2)])) _
    refine XS.astore X12.here hx rfl (hb hby at_26) rfl rfl (l' := #[.val (.int p1), .val (.long q2), .second, .val (.long q3), .second, .val (.long q4), .second, .val (.long q5), .second, .val (.long q6), .second, .val (.ref b2), .unset, .unset, .unset, .unset, .unset, .unset, .unset]) rfl ?_
    show Steps p.tables e below (T12.setTop (mkF m 28 #[.val (.int p1), .val (.long q2), .second, .val (.long q3), .second, .val (.long q4), .second, .val (.long q5), .second, .val (.long q6), .second, .val (.ref b2), .unset, .unset, .unset, .unset, .unset, .unset, .unset] [])) _
    refine XS.iloadN X12.here hx rfl (hb hby at_28) rfl ?_
    show Steps p.tables e below (T12.setTop (mkF m 29 #[.val (.int p1), .val (.long q2), .second, .val (.long q3), .second, .val (.long q4), .second, .val (.long q5), .second, .val (.long q6), .second, .val (.ref b2), .unset, .unset, .unset, .unset, .unset, .unset, .unset] [(.int p1)])) _
    refine X12.ldcInt hx hown (mvT hZ (hw _ (List.mem_of_getElem? (i := 1) rfl))) (g := (mkF m 29 #[.val (.int p1), .val (.long q2), .second, .val (.long q3), .second, .val (.long q4), .second, .val (.long q5), .second, .val (.long q6), .second, .val (.ref b2), .unset, .unset, .unset, .unset, .unset, .unset, .unset] [(.int p1)])) rfl (hb hby at_29) _ ?_
    show Steps p.tables e below (T12.setTop (mkF m 31 #[.val (.int p1), .val (.long q2), .second, .val (.long q3), .second, .val (.long q4), .second, .val (.long q5), .second, .val (.long q6), .second, .val (.ref b2), .unset, .unset, .unset, .unset, .unset, .unset, .unset] [(.int (2147483647 : Int32)), (.int p1)])) _
    refine XS.iand X12.here hx rfl (hb hby at_31) rfl ?_
    show Steps p.tables e below (T12.setTop (mkF m 32 #[.val (.int p1), .val (.long q2), .second, .val (.long q3), .second, .val (.long q4), .second, .val (.long q5), .second, .val (.long q6), .second, .val (.ref b2), .unset, .unset, .unset, .unset, .unset, .unset, .unset] [(.int (p1 &&& (2147483647 : Int32)))])) _
    refine XS.iconst X12.here hx rfl (hb hby at_32) ?_
    show Steps p.tables e below (T12.setTop (mkF m 33 #[.val (.int p1), .val (.long q2), .second, .val (.long q3), .second, .val (.long q4), .second, .val (.long q5), .second, .val (.long q6), .second, .val (.ref b2), .unset, .unset, .unset, .unset, .unset, .unset, .unset] [(.int (5 : Int32)), (.int (p1 &&& (2147483647 : Int32)))])) _
    refine XS.irem X12.here hx rfl (hb hby at_33) rfl (by decide) ?_
    show Steps p.tables e below (T12.setTop (mkF m 34 #[.val (.int p1), .val (.long q2), .second, .val (.long q3), .second, .val (.long q4), .second, .val (.long q5), .second, .val (.long q6), .second, .val (.ref b2), .unset, .unset, .unset, .unset, .unset, .unset, .unset] [(.int ((p1 &&& (2147483647 : Int32)) - ((p1 &&& (2147483647 : Int32)) / (5 : Int32)) * (5 : Int32)))])) _
    refine XS.iconst X12.here hx rfl (hb hby at_34) ?_
    show Steps p.tables e below (T12.setTop (mkF m 35 #[.val (.int p1), .val (.long q2), .second, .val (.long q3), .second, .val (.long q4), .second, .val (.long q5), .second, .val (.long q6), .second, .val (.ref b2), .unset, .unset, .unset, .unset, .unset, .unset, .unset] [(.int (1 : Int32)), (.int ((p1 &&& (2147483647 : Int32)) - ((p1 &&& (2147483647 : Int32)) / (5 : Int32)) * (5 : Int32)))])) _
    refine XS.iadd X12.here hx rfl (hb hby at_35) rfl ?_
    show Steps p.tables e below (T12.setTop (mkF m 36 #[.val (.int p1), .val (.long q2), .second, .val (.long q3), .second, .val (.long q4), .second, .val (.long q5), .second, .val (.long q6), .second, .val (.ref b2), .unset, .unset, .unset, .unset, .unset, .unset, .unset] [(.int (((p1 &&& (2147483647 : Int32)) - ((p1 &&& (2147483647 : Int32)) / (5 : Int32)) * (5 : Int32)) + (1 : Int32)))])) _
    refine XS.istore X12.here hx rfl (hb hby at_36) rfl (l' := #[.val (.int p1), .val (.long q2), .second, .val (.long q3), .second, .val (.long q4), .second, .val (.long q5), .second, .val (.long q6), .second, .val (.ref b2), .val (.int (((p1 &&& (2147483647 : Int32)) - ((p1 &&& (2147483647 : Int32)) / (5 : Int32)) * (5 : Int32)) + (1 : Int32))), .unset, .unset, .unset, .unset, .unset, .unset]) rfl ?_
    show Steps p.tables e below (T12.setTop (mkF m 38 #[.val (.int p1), .val (.long q2), .second, .val (.long q3), .second, .val (.long q4), .second, .val (.long q5), .second, .val (.long q6), .second, .val (.ref b2), .val (.int (((p1 &&& (2147483647 : Int32)) - ((p1 &&& (2147483647 : Int32)) / (5 : Int32)) * (5 : Int32)) + (1 : Int32))), .unset, .unset, .unset, .unset, .unset, .unset] [])) _
    exact kt
  obtain ⟨K, hK⟩ : ∃ z : Int32, z = (((p1 &&& (2147483647 : Int32)) - ((p1 &&& (2147483647 : Int32)) / (5 : Int32)) * (5 : Int32)) + (1 : Int32)) := ⟨_, rfl⟩
  have G14 : ∀ t, Steps p.tables e below (T12.setTop (mkF m 38 #[.val (.int p1), .val (.long q2), .second, .val (.long q3), .second, .val (.long q4), .second, .val (.long q5), .second, .val (.long q6), .second, .val (.ref b2), .val (.int K), .unset, .unset, .unset, .unset, .unset, .unset] [])) t → Steps p.tables e below (s₁.setTop (entryFrame m #[(.int p1), (.long q2), (.long q3), (.long q4), (.long q5), (.long q6)] maxLocals)) t := by
    intro t kt
    refine G13 t ?_
    subst hK
    exact kt
  obtain ⟨T15, h15, X15, e15, E15, A15, D15, -, st15⟩ := newO X12 hx hZ hown (hw _ (List.mem_of_getElem? (i := 2) rfl)) (hw _ (List.mem_of_getElem? (i := 3) rfl)) (hw _ (List.mem_of_getElem? (i := 4) rfl)) e12 (g := (mkF m 38 #[.val (.int p1), .val (.long q2), .second, .val (.long q3), .second, .val (.long q4), .second, .val (.long q5), .second, .val (.long q6), .second, .val (.ref b2), .val (.int K), .unset, .unset, .unset, .unset, .unset, .unset] [])) rfl (hb hby at_38) (by decide) (by decide)
  obtain ⟨b15, g15⟩ : ∃ z, z = h12.size := ⟨_, rfl⟩
  rw [← g15] at A15 D15 st15
  have g_b15 : n0 ≤ b15 := Nat.le_trans Z12 (Nat.le_of_eq g15.symm)
  have ne_b2_b15 : b2 ≠ b15 := Nat.ne_of_lt (Nat.lt_of_lt_of_le V_b2_12.lt (Nat.le_of_eq g15.symm))
  have V_b2_12_15 : Arv Z h15 b2 k2 .long (5 : Int32) [(.long q2), (.long q3), (.long q4), (.long q5), (.long q6)] (.long (0 : Int64)) := V_b2_12.ext E15
  have Z15 : n0 ≤ h15.size := Nat.le_trans Z12 E15.1
  have E_b15 : Exa Z h15 b15 "com/example/queries_over_knowledge/queriesoverknowledge/reasoning/LongList" := A15
  have F_values_b15 : Fld Z h15 b15 "com/example/queries_over_knowledge/queriesoverknowledge/reasoning/LongList" "values" "[J" .null := D15 (Or.inl (hw _ (List.mem_of_getElem? (i := 12) rfl))) (ty := (.array .long)) (by decide)
  have F_size_b15 : Fld Z h15 b15 "com/example/queries_over_knowledge/queriesoverknowledge/reasoning/LongList" "size" "I" (.int (0 : Int32)) := D15 (Or.inl (hw _ (List.mem_of_getElem? (i := 19) rfl))) (ty := .int) (by decide)
  have G15 : ∀ t, Steps p.tables e below (T15.setTop (mkF m 41 #[.val (.int p1), .val (.long q2), .second, .val (.long q3), .second, .val (.long q4), .second, .val (.long q5), .second, .val (.long q6), .second, .val (.ref b2), .val (.int K), .unset, .unset, .unset, .unset, .unset, .unset] [(.ref b15)])) t → Steps p.tables e below (s₁.setTop (entryFrame m #[(.int p1), (.long q2), (.long q3), (.long q4), (.long q5), (.long q6)] maxLocals)) t := fun t kt => G14 t (st15 t kt)
  have G16 : ∀ t, Steps p.tables e below (T15.setTop (mkF m 42 #[.val (.int p1), .val (.long q2), .second, .val (.long q3), .second, .val (.long q4), .second, .val (.long q5), .second, .val (.long q6), .second, .val (.ref b2), .val (.int K), .unset, .unset, .unset, .unset, .unset, .unset] [(.ref b15), (.ref b15)])) t → Steps p.tables e below (s₁.setTop (entryFrame m #[(.int p1), (.long q2), (.long q3), (.long q4), (.long q5), (.long q6)] maxLocals)) t := by
    intro t kt
    refine G15 t ?_
    show Steps p.tables e below (T15.setTop (mkF m 41 #[.val (.int p1), .val (.long q2), .second, .val (.long q3), .second, .val (.long q4), .second, .val (.long q5), .second, .val (.long q6), .second, .val (.ref b2), .val (.int K), .unset, .unset, .unset, .unset, .unset, .unset] [(.ref b15)])) _
    refine XS.dup X15.here hx rfl (hb hby at_41) rfl rfl ?_
    show Steps p.tables e below (T15.setTop (mkF m 42 #[.val (.int p1), .val (.long q2), .second, .val (.long q3), .second, .val (.long q4), .second, .val (.long q5), .second, .val (.long q6), .second, .val (.ref b2), .val (.int K), .unset, .unset, .unset, .unset, .unset, .unset] [(.ref b15), (.ref b15)])) _
    exact kt
  obtain ⟨_, _, ⟨T17, L17, k17, n17⟩, -, X17, ⟨Lc17, hQ17, l17, y17, z17⟩, st17⟩ := X15.specialBack hx (y := (⟨"com/example/queries_over_knowledge/queriesoverknowledge/reasoning/LongList", "<init>", "()V"⟩ : MethodName)) rfl hown (mvT hZ (hw _ (List.mem_of_getElem? (i := 5) rfl))) (mvT hZ (hw _ (List.mem_of_getElem? (i := 6) rfl))) (mvT hZ (hw _ (List.mem_of_getElem? (i := 7) rfl))) (by decide) (backOf (W := 1) (rm1 l Z a0 hw [] b15  h15 n0 Z15 E_b15 F_values_b15 F_size_b15 g_b15) hZ (hw _ (List.mem_of_getElem? (i := 7) rfl)) (hw _ (List.mem_of_getElem? (i := 4) rfl)) (by decide) (by decide)) (g := (mkF m 42 #[.val (.int p1), .val (.long q2), .second, .val (.long q3), .second, .val (.long q4), .second, .val (.long q5), .second, .val (.long q6), .second, .val (.ref b2), .val (.int K), .unset, .unset, .unset, .unset, .unset, .unset] [(.ref b15), (.ref b15)])) rfl (by rw [hml]; rfl) (Steps.refl _) (a := b15) (argsL := []) (rest := [(.ref b15)]) (lenOf pd_2 rfl) rfl (by show 2 * 0 + _ ≤ _; exact Nat.le_of_eq rfl) (hb hby at_42) (fun _ _ => ⟨rfl, e15, (by decide : 2 + 1 ≤ _), (by decide : 7 + 4 ≤ _)⟩)
  dsimp only [Pt.U, Pt.locs, Pt.cells, Pt.slots] at X17 l17 y17 z17 st17 hQ17
  subst l17 y17 z17
  obtain ⟨rfl, N17q, K17, Eq17, Fz17, r17, kr17, g_r17, szq17, Fv17, V_r17⟩ := hQ17
  have N17 := Fr.app N12 N17q
  have ne_b2_r17 : b2 ≠ r17 := Nat.ne_of_lt (Nat.lt_of_lt_of_le V_b2_12_15.lt szq17)
  have ne_b15_r17 : b15 ≠ r17 := Nat.ne_of_lt (Nat.lt_of_lt_of_le E_b15.lt szq17)
  have V_b2_12_17 : Arv Z T17.heap b2 k2 .long (5 : Int32) [(.long q2), (.long q3), (.long q4), (.long q5), (.long q6)] (.long (0 : Int64)) := V_b2_12_15.keep K17 (ninS ne_b2_b15 nin0)
  have E_b15_17 : Exa Z T17.heap b15 "com/example/queries_over_knowledge/queriesoverknowledge/reasoning/LongList" := E_b15.keep K17
  have Z17 : n0 ≤ T17.heap.size := Nat.le_trans Z15 K17.1
  have G17 : ∀ t, Steps p.tables e below (T17.setTop (mkF m 45 #[.val (.int p1), .val (.long q2), .second, .val (.long q3), .second, .val (.long q4), .second, .val (.long q5), .second, .val (.long q6), .second, .val (.ref b2), .val (.int K), .unset, .unset, .unset, .unset, .unset, .unset] [(.ref b15)])) t → Steps p.tables e below (s₁.setTop (entryFrame m #[(.int p1), (.long q2), (.long q3), (.long q4), (.long q5), (.long q6)] maxLocals)) t := fun t kt => G16 t (st17.trans kt)
  rcases own_k p1 hK with q | q | q | q | q
  · clear hK
    have G18 : ∀ t, Steps p.tables e below (T17.setTop (mkF m 45 #[.val (.int p1), .val (.long q2), .second, .val (.long q3), .second, .val (.long q4), .second, .val (.long q5), .second, .val (.long q6), .second, .val (.ref b2), .val (.int (1 : Int32)), .unset, .unset, .unset, .unset, .unset, .unset] [(.ref b15)])) t → Steps p.tables e below (s₁.setTop (entryFrame m #[(.int p1), (.long q2), (.long q3), (.long q4), (.long q5), (.long q6)] maxLocals)) t := by
      intro t kt
      refine G17 t ?_
      rw [q]
      exact kt
    have G19 : ∀ t, Steps p.tables e below (T17.setTop (mkF m 50 #[.val (.int p1), .val (.long q2), .second, .val (.long q3), .second, .val (.long q4), .second, .val (.long q5), .second, .val (.long q6), .second, .val (.ref b2), .val (.int (1 : Int32)), .val (.ref b15), .unset, .unset, .unset, .unset, .unset] [(.long q2), (.ref b15)])) t → Steps p.tables e below (s₁.setTop (entryFrame m #[(.int p1), (.long q2), (.long q3), (.long q4), (.long q5), (.long q6)] maxLocals)) t := by
      intro t kt
      refine G18 t ?_
      show Steps p.tables e below (T17.setTop (mkF m 45 #[.val (.int p1), .val (.long q2), .second, .val (.long q3), .second, .val (.long q4), .second, .val (.long q5), .second, .val (.long q6), .second, .val (.ref b2), .val (.int (1 : Int32)), .unset, .unset, .unset, .unset, .unset, .unset] [(.ref b15)])) _
      refine XS.astore X17.here hx rfl (hb hby at_45) rfl rfl (l' := #[.val (.int p1), .val (.long q2), .second, .val (.long q3), .second, .val (.long q4), .second, .val (.long q5), .second, .val (.long q6), .second, .val (.ref b2), .val (.int (1 : Int32)), .val (.ref b15), .unset, .unset, .unset, .unset, .unset]) rfl ?_
      show Steps p.tables e below (T17.setTop (mkF m 47 #[.val (.int p1), .val (.long q2), .second, .val (.long q3), .second, .val (.long q4), .second, .val (.long q5), .second, .val (.long q6), .second, .val (.ref b2), .val (.int (1 : Int32)), .val (.ref b15), .unset, .unset, .unset, .unset, .unset] [])) _
      refine XS.aload X17.here hx rfl (hb hby at_47) rfl rfl ?_
      show Steps p.tables e below (T17.setTop (mkF m 49 #[.val (.int p1), .val (.long q2), .second, .val (.long q3), .second, .val (.long q4), .second, .val (.long q5), .second, .val (.long q6), .second, .val (.ref b2), .val (.int (1 : Int32)), .val (.ref b15), .unset, .unset, .unset, .unset, .unset] [(.ref b15)])) _
      refine XS.lloadN X17.here hx rfl (hb hby at_49) rfl ?_
      show Steps p.tables e below (T17.setTop (mkF m 50 #[.val (.int p1), .val (.long q2), .second, .val (.long q3), .second, .val (.long q4), .second, .val (.long q5), .second, .val (.long q6), .second, .val (.ref b2), .val (.int (1 : Int32)), .val (.ref b15), .unset, .unset, .unset, .unset, .unset] [(.long q2), (.ref b15)])) _
      exact kt
    obtain ⟨cq20, kq20, q20a, q20b, q20c⟩ := isOf hZ rfl E_b15_17
    obtain ⟨_, _, ⟨T20, L20, k20, n20⟩, -, X20, ⟨Lc20, hQ20, l20, y20, z20⟩, st20⟩ := X17.virtualBack hx (y := (⟨"com/example/queries_over_knowledge/queriesoverknowledge/reasoning/LongList", "add", "(J)V"⟩ : MethodName)) (z := (⟨"com/example/queries_over_knowledge/queriesoverknowledge/reasoning/LongList", "add", "(J)V"⟩ : MethodName)) hown (mvT hZ (hw _ (List.mem_of_getElem? (i := 13) rfl))) (mvT hZ (hw _ (List.mem_of_getElem? (i := 14) rfl))) (notFace_of_selects (args := #[]) (mvT hZ (hw _ (List.mem_of_getElem? (i := 16) rfl)))) (mvT hZ (hw _ (List.mem_of_getElem? (i := 16) rfl))) (mvT hZ (hw _ (List.mem_of_getElem? (i := 15) rfl))) (by decide) (backOf (W := 0) (rm3a l Z a0 hw [] b15 q2 r17 kr17 (4 : Int32) (0 : Int32) (1 : Int32) 0 [(.long (0 : Int64)), (.long (0 : Int64)), (.long (0 : Int64)), (.long (0 : Int64))] T17.heap n0 Z17 E_b15_17 Fz17 Fv17 V_r17 (by decide) (by decide) (by decide) (Nat.le_of_ble_eq_true rfl) (by decide) g_b15 g_r17 ne_b15_r17) hZ (hw _ (List.mem_of_getElem? (i := 17) rfl)) (hw _ (List.mem_of_getElem? (i := 4) rfl)) (by decide) (by decide)) q20a q20c (g := (mkF m 50 #[.val (.int p1), .val (.long q2), .second, .val (.long q3), .second, .val (.long q4), .second, .val (.long q5), .second, .val (.long q6), .second, .val (.ref b2), .val (.int (1 : Int32)), .val (.ref b15), .unset, .unset, .unset, .unset, .unset] [(.long q2), (.ref b15)])) rfl (by rw [hml]; rfl) (Steps.refl _) (argsL := [(.long q2)]) (rest := []) (lenOf pd_3 rfl) rfl (by show 2 * 0 + _ ≤ _; exact Nat.le_of_eq rfl) (hb hby at_50) (fun _ _ => ⟨rfl, rfl, (by decide : 3 + 0 ≤ _), (by decide : 11 + 0 ≤ _)⟩)
    dsimp only [Pt.U, Pt.locs, Pt.cells, Pt.slots] at X20 l20 y20 z20 st20 hQ20
    subst l20 y20 z20
    obtain ⟨rfl, N20q, K20, Eq20, Fz20, Fv20, V20'⟩ := hQ20
    have N20 := Fr.app N17 N20q
    have V_b2_12_20 : Arv Z T20.heap b2 k2 .long (5 : Int32) [(.long q2), (.long q3), (.long q4), (.long q5), (.long q6)] (.long (0 : Int64)) := V_b2_12_17.keep K20 (ninS ne_b2_b15 (ninS ne_b2_r17 nin0))
    have E_b15_20 : Exa Z T20.heap b15 "com/example/queries_over_knowledge/queriesoverknowledge/reasoning/LongList" := E_b15_17.keep K20
    have Z20 : n0 ≤ T20.heap.size := Nat.le_trans Z17 K20.1
    have G20 : ∀ t, Steps p.tables e below (T20.setTop (mkF m 53 #[.val (.int p1), .val (.long q2), .second, .val (.long q3), .second, .val (.long q4), .second, .val (.long q5), .second, .val (.long q6), .second, .val (.ref b2), .val (.int (1 : Int32)), .val (.ref b15), .unset, .unset, .unset, .unset, .unset] [])) t → Steps p.tables e below (s₁.setTop (entryFrame m #[(.int p1), (.long q2), (.long q3), (.long q4), (.long q5), (.long q6)] maxLocals)) t := fun t kt => G19 t (st20.trans kt)
    have V20 : Arv Z T20.heap r17 kr17 .long (4 : Int32) [(.long q2), (.long (0 : Int64)), (.long (0 : Int64)), (.long (0 : Int64))] (.long (0 : Int64)) := V20'
    have G21 : ∀ t, Steps p.tables e below (T20.setTop (mkF m 106 #[.val (.int p1), .val (.long q2), .second, .val (.long q3), .second, .val (.long q4), .second, .val (.long q5), .second, .val (.long q6), .second, .val (.ref b2), .val (.int (1 : Int32)), .val (.ref b15), .unset, .unset, .unset, .unset, .unset] [(.ref b15)])) t → Steps p.tables e below (s₁.setTop (entryFrame m #[(.int p1), (.long q2), (.long q3), (.long q4), (.long q5), (.long q6)] maxLocals)) t := by
      intro t kt
      refine G20 t ?_
      show Steps p.tables e below (T20.setTop (mkF m 53 #[.val (.int p1), .val (.long q2), .second, .val (.long q3), .second, .val (.long q4), .second, .val (.long q5), .second, .val (.long q6), .second, .val (.ref b2), .val (.int (1 : Int32)), .val (.ref b15), .unset, .unset, .unset, .unset, .unset] [])) _
      refine XS.iload X20.here hx rfl (hb hby at_53) rfl ?_
      show Steps p.tables e below (T20.setTop (mkF m 55 #[.val (.int p1), .val (.long q2), .second, .val (.long q3), .second, .val (.long q4), .second, .val (.long q5), .second, .val (.long q6), .second, .val (.ref b2), .val (.int (1 : Int32)), .val (.ref b15), .unset, .unset, .unset, .unset, .unset] [(.int (1 : Int32))])) _
      refine XS.iconst X20.here hx rfl (hb hby at_55) ?_
      show Steps p.tables e below (T20.setTop (mkF m 56 #[.val (.int p1), .val (.long q2), .second, .val (.long q3), .second, .val (.long q4), .second, .val (.long q5), .second, .val (.long q6), .second, .val (.ref b2), .val (.int (1 : Int32)), .val (.ref b15), .unset, .unset, .unset, .unset, .unset] [(.int (2 : Int32)), (.int (1 : Int32))])) _
      refine XS.icmpYes X20.here hx rfl (pc0 := 56) (pc' := 65) rfl (hb hby at_56) rfl (tlt (by decide : (1 : Int32) < (2 : Int32))).1 (by decide) (by decide) ?_
      show Steps p.tables e below (T20.setTop (mkF m 65 #[.val (.int p1), .val (.long q2), .second, .val (.long q3), .second, .val (.long q4), .second, .val (.long q5), .second, .val (.long q6), .second, .val (.ref b2), .val (.int (1 : Int32)), .val (.ref b15), .unset, .unset, .unset, .unset, .unset] [])) _
      refine XS.iload X20.here hx rfl (hb hby at_65) rfl ?_
      show Steps p.tables e below (T20.setTop (mkF m 67 #[.val (.int p1), .val (.long q2), .second, .val (.long q3), .second, .val (.long q4), .second, .val (.long q5), .second, .val (.long q6), .second, .val (.ref b2), .val (.int (1 : Int32)), .val (.ref b15), .unset, .unset, .unset, .unset, .unset] [(.int (1 : Int32))])) _
      refine XS.iconst X20.here hx rfl (hb hby at_67) ?_
      show Steps p.tables e below (T20.setTop (mkF m 68 #[.val (.int p1), .val (.long q2), .second, .val (.long q3), .second, .val (.long q4), .second, .val (.long q5), .second, .val (.long q6), .second, .val (.ref b2), .val (.int (1 : Int32)), .val (.ref b15), .unset, .unset, .unset, .unset, .unset] [(.int (3 : Int32)), (.int (1 : Int32))])) _
      refine XS.icmpYes X20.here hx rfl (pc0 := 68) (pc' := 78) rfl (hb hby at_68) rfl (tlt (by decide : (1 : Int32) < (3 : Int32))).1 (by decide) (by decide) ?_
      show Steps p.tables e below (T20.setTop (mkF m 78 #[.val (.int p1), .val (.long q2), .second, .val (.long q3), .second, .val (.long q4), .second, .val (.long q5), .second, .val (.long q6), .second, .val (.ref b2), .val (.int (1 : Int32)), .val (.ref b15), .unset, .unset, .unset, .unset, .unset] [])) _
      refine XS.iload X20.here hx rfl (hb hby at_78) rfl ?_
      show Steps p.tables e below (T20.setTop (mkF m 80 #[.val (.int p1), .val (.long q2), .second, .val (.long q3), .second, .val (.long q4), .second, .val (.long q5), .second, .val (.long q6), .second, .val (.ref b2), .val (.int (1 : Int32)), .val (.ref b15), .unset, .unset, .unset, .unset, .unset] [(.int (1 : Int32))])) _
      refine XS.iconst X20.here hx rfl (hb hby at_80) ?_
      show Steps p.tables e below (T20.setTop (mkF m 81 #[.val (.int p1), .val (.long q2), .second, .val (.long q3), .second, .val (.long q4), .second, .val (.long q5), .second, .val (.long q6), .second, .val (.ref b2), .val (.int (1 : Int32)), .val (.ref b15), .unset, .unset, .unset, .unset, .unset] [(.int (4 : Int32)), (.int (1 : Int32))])) _
      refine XS.icmpYes X20.here hx rfl (pc0 := 81) (pc' := 91) rfl (hb hby at_81) rfl (tlt (by decide : (1 : Int32) < (4 : Int32))).1 (by decide) (by decide) ?_
      show Steps p.tables e below (T20.setTop (mkF m 91 #[.val (.int p1), .val (.long q2), .second, .val (.long q3), .second, .val (.long q4), .second, .val (.long q5), .second, .val (.long q6), .second, .val (.ref b2), .val (.int (1 : Int32)), .val (.ref b15), .unset, .unset, .unset, .unset, .unset] [])) _
      refine XS.iload X20.here hx rfl (hb hby at_91) rfl ?_
      show Steps p.tables e below (T20.setTop (mkF m 93 #[.val (.int p1), .val (.long q2), .second, .val (.long q3), .second, .val (.long q4), .second, .val (.long q5), .second, .val (.long q6), .second, .val (.ref b2), .val (.int (1 : Int32)), .val (.ref b15), .unset, .unset, .unset, .unset, .unset] [(.int (1 : Int32))])) _
      refine XS.iconst X20.here hx rfl (hb hby at_93) ?_
      show Steps p.tables e below (T20.setTop (mkF m 94 #[.val (.int p1), .val (.long q2), .second, .val (.long q3), .second, .val (.long q4), .second, .val (.long q5), .second, .val (.long q6), .second, .val (.ref b2), .val (.int (1 : Int32)), .val (.ref b15), .unset, .unset, .unset, .unset, .unset] [(.int (5 : Int32)), (.int (1 : Int32))])) _
      refine XS.icmpYes X20.here hx rfl (pc0 := 94) (pc' := 104) rfl (hb hby at_94) rfl (tlt (by decide : (1 : Int32) < (5 : Int32))).1 (by decide) (by decide) ?_
      show Steps p.tables e below (T20.setTop (mkF m 104 #[.val (.int p1), .val (.long q2), .second, .val (.long q3), .second, .val (.long q4), .second, .val (.long q5), .second, .val (.long q6), .second, .val (.ref b2), .val (.int (1 : Int32)), .val (.ref b15), .unset, .unset, .unset, .unset, .unset] [])) _
      refine XS.aload X20.here hx rfl (hb hby at_104) rfl rfl ?_
      show Steps p.tables e below (T20.setTop (mkF m 106 #[.val (.int p1), .val (.long q2), .second, .val (.long q3), .second, .val (.long q4), .second, .val (.long q5), .second, .val (.long q6), .second, .val (.ref b2), .val (.int (1 : Int32)), .val (.ref b15), .unset, .unset, .unset, .unset, .unset] [(.ref b15)])) _
      exact kt
    obtain ⟨cq22, kq22, q22a, q22b, q22c⟩ := isOf hZ rfl E_b15_20
    obtain ⟨_, _, ⟨T22, L22, k22, n22⟩, -, X22, ⟨Lc22, hQ22, l22, y22, z22⟩, st22⟩ := X20.virtualBack hx (y := (⟨"com/example/queries_over_knowledge/queriesoverknowledge/reasoning/LongList", "removeLast", "()J"⟩ : MethodName)) (z := (⟨"com/example/queries_over_knowledge/queriesoverknowledge/reasoning/LongList", "removeLast", "()J"⟩ : MethodName)) hown (mvT hZ (hw _ (List.mem_of_getElem? (i := 20) rfl))) (mvT hZ (hw _ (List.mem_of_getElem? (i := 21) rfl))) (notFace_of_selects (args := #[]) (mvT hZ (hw _ (List.mem_of_getElem? (i := 23) rfl)))) (mvT hZ (hw _ (List.mem_of_getElem? (i := 23) rfl))) (mvT hZ (hw _ (List.mem_of_getElem? (i := 22) rfl))) (by decide) (backOf (W := 0) (rm4 l Z a0 hw [] b15 r17 kr17 (4 : Int32) (1 : Int32) (0 : Int32) [(.long q2), (.long (0 : Int64)), (.long (0 : Int64)), (.long (0 : Int64))] q2 T20.heap n0 Z20 E_b15_20 Fz20 Fv20 V20 (by decide) (by decide) rfl g_b15 ne_b15_r17) hZ (hw _ (List.mem_of_getElem? (i := 24) rfl)) (hw _ (List.mem_of_getElem? (i := 4) rfl)) (by decide) (by decide)) q22a q22c (g := (mkF m 106 #[.val (.int p1), .val (.long q2), .second, .val (.long q3), .second, .val (.long q4), .second, .val (.long q5), .second, .val (.long q6), .second, .val (.ref b2), .val (.int (1 : Int32)), .val (.ref b15), .unset, .unset, .unset, .unset, .unset] [(.ref b15)])) rfl (by rw [hml]; rfl) (Steps.refl _) (argsL := []) (rest := []) (lenOf pd_4 rfl) rfl (by show 2 * 0 + _ ≤ _; exact Nat.le_of_eq rfl) (hb hby at_106) (fun _ _ => ⟨rfl, rfl, (by decide : 3 + 0 ≤ _), (by decide : 11 + 0 ≤ _)⟩)
    dsimp only [Pt.U, Pt.locs, Pt.cells, Pt.slots] at X22 l22 y22 z22 st22 hQ22
    subst l22 y22 z22
    obtain ⟨rfl, N22q, K22, Eq22, Fz22, Fv22⟩ := hQ22
    have N22 := Fr.app N20 N22q
    have V_b2_12_22 : Arv Z T22.heap b2 k2 .long (5 : Int32) [(.long q2), (.long q3), (.long q4), (.long q5), (.long q6)] (.long (0 : Int64)) := V_b2_12_20.keep K22 (ninS ne_b2_b15 nin0)
    have E_b15_22 : Exa Z T22.heap b15 "com/example/queries_over_knowledge/queriesoverknowledge/reasoning/LongList" := E_b15_20.keep K22
    have V20_22 : Arv Z T22.heap r17 kr17 .long (4 : Int32) [(.long q2), (.long (0 : Int64)), (.long (0 : Int64)), (.long (0 : Int64))] (.long (0 : Int64)) := V20.keep K22 (ninS (Ne.symm ne_b15_r17) nin0)
    have Z22 : n0 ≤ T22.heap.size := Nat.le_trans Z20 K22.1
    have G22 : ∀ t, Steps p.tables e below (T22.setTop (mkF m 109 #[.val (.int p1), .val (.long q2), .second, .val (.long q3), .second, .val (.long q4), .second, .val (.long q5), .second, .val (.long q6), .second, .val (.ref b2), .val (.int (1 : Int32)), .val (.ref b15), .unset, .unset, .unset, .unset, .unset] [(.long q2)])) t → Steps p.tables e below (s₁.setTop (entryFrame m #[(.int p1), (.long q2), (.long q3), (.long q4), (.long q5), (.long q6)] maxLocals)) t := fun t kt => G21 t (st22.trans kt)
    obtain ⟨cl_v1, Ar_v1, qq_v1, SS_v1, MM_v1, HH_v1, UU_v1⟩ := id V_b2_12_22
    have hin_v1_119 := inb_of SS_v1 (j := ((1 : Int32) - (1 : Int32))) (by decide)
    have hat_v1_119 : cl_v1.slots[(((1 : Int32) - (1 : Int32))).toNatClampNeg]? = some (.long q2) := HH_v1.at hin_v1_119 rfl
    have G23 : ∀ t, Steps p.tables e below (T22.setTop (mkF m 128 #[.val (.int p1), .val (.long q2), .second, .val (.long q3), .second, .val (.long q4), .second, .val (.long q5), .second, .val (.long q6), .second, .val (.ref b2), .val (.int (1 : Int32)), .val (.ref b15), .val (.long q2), .second, .unset, .unset, .unset] [(.ref b15)])) t → Steps p.tables e below (s₁.setTop (entryFrame m #[(.int p1), (.long q2), (.long q3), (.long q4), (.long q5), (.long q6)] maxLocals)) t := by
      intro t kt
      refine G22 t ?_
      show Steps p.tables e below (T22.setTop (mkF m 109 #[.val (.int p1), .val (.long q2), .second, .val (.long q3), .second, .val (.long q4), .second, .val (.long q5), .second, .val (.long q6), .second, .val (.ref b2), .val (.int (1 : Int32)), .val (.ref b15), .unset, .unset, .unset, .unset, .unset] [(.long q2)])) _
      refine XS.lstore X22.here hx rfl (hb hby at_109) rfl (l' := #[.val (.int p1), .val (.long q2), .second, .val (.long q3), .second, .val (.long q4), .second, .val (.long q5), .second, .val (.long q6), .second, .val (.ref b2), .val (.int (1 : Int32)), .val (.ref b15), .val (.long q2), .second, .unset, .unset, .unset]) rfl ?_
      show Steps p.tables e below (T22.setTop (mkF m 111 #[.val (.int p1), .val (.long q2), .second, .val (.long q3), .second, .val (.long q4), .second, .val (.long q5), .second, .val (.long q6), .second, .val (.ref b2), .val (.int (1 : Int32)), .val (.ref b15), .val (.long q2), .second, .unset, .unset, .unset] [])) _
      refine XS.lload X22.here hx rfl (hb hby at_111) rfl ?_
      show Steps p.tables e below (T22.setTop (mkF m 113 #[.val (.int p1), .val (.long q2), .second, .val (.long q3), .second, .val (.long q4), .second, .val (.long q5), .second, .val (.long q6), .second, .val (.ref b2), .val (.int (1 : Int32)), .val (.ref b15), .val (.long q2), .second, .unset, .unset, .unset] [(.long q2)])) _
      refine XS.aload X22.here hx rfl (hb hby at_113) rfl rfl ?_
      show Steps p.tables e below (T22.setTop (mkF m 115 #[.val (.int p1), .val (.long q2), .second, .val (.long q3), .second, .val (.long q4), .second, .val (.long q5), .second, .val (.long q6), .second, .val (.ref b2), .val (.int (1 : Int32)), .val (.ref b15), .val (.long q2), .second, .unset, .unset, .unset] [(.ref b2), (.long q2)])) _
      refine XS.iload X22.here hx rfl (hb hby at_115) rfl ?_
      show Steps p.tables e below (T22.setTop (mkF m 117 #[.val (.int p1), .val (.long q2), .second, .val (.long q3), .second, .val (.long q4), .second, .val (.long q5), .second, .val (.long q6), .second, .val (.ref b2), .val (.int (1 : Int32)), .val (.ref b15), .val (.long q2), .second, .unset, .unset, .unset] [(.int (1 : Int32)), (.ref b2), (.long q2)])) _
      refine XS.iconst X22.here hx rfl (hb hby at_117) ?_
      show Steps p.tables e below (T22.setTop (mkF m 118 #[.val (.int p1), .val (.long q2), .second, .val (.long q3), .second, .val (.long q4), .second, .val (.long q5), .second, .val (.long q6), .second, .val (.ref b2), .val (.int (1 : Int32)), .val (.ref b15), .val (.long q2), .second, .unset, .unset, .unset] [(.int (1 : Int32)), (.int (1 : Int32)), (.ref b2), (.long q2)])) _
      refine XS.isub X22.here hx rfl (hb hby at_118) rfl ?_
      show Steps p.tables e below (T22.setTop (mkF m 119 #[.val (.int p1), .val (.long q2), .second, .val (.long q3), .second, .val (.long q4), .second, .val (.long q5), .second, .val (.long q6), .second, .val (.ref b2), .val (.int (1 : Int32)), .val (.ref b15), .val (.long q2), .second, .unset, .unset, .unset] [(.int ((1 : Int32) - (1 : Int32))), (.ref b2), (.long q2)])) _
      refine X22.laload hx (j := ((1 : Int32) - (1 : Int32))) (v := (.long q2)) Ar_v1.1 (State.isArrayOf_alike hZ.alike Ar_v1.2.1) Ar_v1.2.2 hin_v1_119 hat_v1_119 (g := (mkF m 119 #[.val (.int p1), .val (.long q2), .second, .val (.long q3), .second, .val (.long q4), .second, .val (.long q5), .second, .val (.long q6), .second, .val (.ref b2), .val (.int (1 : Int32)), .val (.ref b15), .val (.long q2), .second, .unset, .unset, .unset] [(.int ((1 : Int32) - (1 : Int32))), (.ref b2), (.long q2)])) rfl rfl (hb hby at_119) _ ?_
      show Steps p.tables e below (T22.setTop (mkF m 120 #[.val (.int p1), .val (.long q2), .second, .val (.long q3), .second, .val (.long q4), .second, .val (.long q5), .second, .val (.long q6), .second, .val (.ref b2), .val (.int (1 : Int32)), .val (.ref b15), .val (.long q2), .second, .unset, .unset, .unset] [(.long q2), (.long q2)])) _
      refine XS.lcmp X22.here hx rfl (hb hby at_120) rfl ?_
      show Steps p.tables e below (T22.setTop (mkF m 121 #[.val (.int p1), .val (.long q2), .second, .val (.long q3), .second, .val (.long q4), .second, .val (.long q5), .second, .val (.long q6), .second, .val (.ref b2), .val (.int (1 : Int32)), .val (.ref b15), .val (.long q2), .second, .unset, .unset, .unset] [(.int (lcmpW q2 q2))])) _
      refine XS.ifYes X22.here hx rfl (pc0 := 121) (pc' := 126) rfl (hb hby at_121) rfl ((if0 _ _).trans (teq ((lw_eq _ _).mpr rfl)).1) (by decide) (by decide) ?_
      show Steps p.tables e below (T22.setTop (mkF m 126 #[.val (.int p1), .val (.long q2), .second, .val (.long q3), .second, .val (.long q4), .second, .val (.long q5), .second, .val (.long q6), .second, .val (.ref b2), .val (.int (1 : Int32)), .val (.ref b15), .val (.long q2), .second, .unset, .unset, .unset] [])) _
      refine XS.aload X22.here hx rfl (hb hby at_126) rfl rfl ?_
      show Steps p.tables e below (T22.setTop (mkF m 128 #[.val (.int p1), .val (.long q2), .second, .val (.long q3), .second, .val (.long q4), .second, .val (.long q5), .second, .val (.long q6), .second, .val (.ref b2), .val (.int (1 : Int32)), .val (.ref b15), .val (.long q2), .second, .unset, .unset, .unset] [(.ref b15)])) _
      exact kt
    obtain ⟨cq24, kq24, q24a, q24b, q24c⟩ := isOf hZ rfl E_b15_22
    obtain ⟨_, _, ⟨T24, L24, k24, n24⟩, -, X24, ⟨Lc24, hQ24, l24, y24, z24⟩, st24⟩ := X22.virtualBack hx (y := (⟨"com/example/queries_over_knowledge/queriesoverknowledge/reasoning/LongList", "size", "()I"⟩ : MethodName)) (z := (⟨"com/example/queries_over_knowledge/queriesoverknowledge/reasoning/LongList", "size", "()I"⟩ : MethodName)) hown (mvT hZ (hw _ (List.mem_of_getElem? (i := 25) rfl))) (mvT hZ (hw _ (List.mem_of_getElem? (i := 26) rfl))) (notFace_of_selects (args := #[]) (mvT hZ (hw _ (List.mem_of_getElem? (i := 28) rfl)))) (mvT hZ (hw _ (List.mem_of_getElem? (i := 28) rfl))) (mvT hZ (hw _ (List.mem_of_getElem? (i := 27) rfl))) (by decide) (backOf (W := 0) (rm5 l Z a0 hw [] b15 (0 : Int32) T22.heap n0 Z22 Fz22) hZ (hw _ (List.mem_of_getElem? (i := 29) rfl)) (hw _ (List.mem_of_getElem? (i := 4) rfl)) (by decide) (by decide)) q24a q24c (g := (mkF m 128 #[.val (.int p1), .val (.long q2), .second, .val (.long q3), .second, .val (.long q4), .second, .val (.long q5), .second, .val (.long q6), .second, .val (.ref b2), .val (.int (1 : Int32)), .val (.ref b15), .val (.long q2), .second, .unset, .unset, .unset] [(.ref b15)])) rfl (by rw [hml]; rfl) (Steps.refl _) (argsL := []) (rest := []) (lenOf pd_5 rfl) rfl (by show 2 * 0 + _ ≤ _; exact Nat.le_of_eq rfl) (hb hby at_128) (fun _ _ => ⟨rfl, rfl, (by decide : 3 + 0 ≤ _), (by decide : 11 + 0 ≤ _)⟩)
    dsimp only [Pt.U, Pt.locs, Pt.cells, Pt.slots] at X24 l24 y24 z24 st24 hQ24
    subst l24 y24 z24
    obtain ⟨rfl, N24q, e24⟩ := hQ24
    have N24 := Fr.app N22 N24q
    have G24 : ∀ t, Steps p.tables e below (T24.setTop (mkF m 131 #[.val (.int p1), .val (.long q2), .second, .val (.long q3), .second, .val (.long q4), .second, .val (.long q5), .second, .val (.long q6), .second, .val (.ref b2), .val (.int (1 : Int32)), .val (.ref b15), .val (.long q2), .second, .unset, .unset, .unset] [(.int (0 : Int32))])) t → Steps p.tables e below (s₁.setTop (entryFrame m #[(.int p1), (.long q2), (.long q3), (.long q4), (.long q5), (.long q6)] maxLocals)) t := fun t kt => G23 t (st24.trans kt)
    have G25 : ∀ t, Steps p.tables e below (T24.setTop (mkF m 142 #[.val (.int p1), .val (.long q2), .second, .val (.long q3), .second, .val (.long q4), .second, .val (.long q5), .second, .val (.long q6), .second, .val (.ref b2), .val (.int (1 : Int32)), .val (.ref b15), .val (.long q2), .second, .unset, .unset, .unset] [(.ref b15)])) t → Steps p.tables e below (s₁.setTop (entryFrame m #[(.int p1), (.long q2), (.long q3), (.long q4), (.long q5), (.long q6)] maxLocals)) t := by
      intro t kt
      refine G24 t ?_
      show Steps p.tables e below (T24.setTop (mkF m 131 #[.val (.int p1), .val (.long q2), .second, .val (.long q3), .second, .val (.long q4), .second, .val (.long q5), .second, .val (.long q6), .second, .val (.ref b2), .val (.int (1 : Int32)), .val (.ref b15), .val (.long q2), .second, .unset, .unset, .unset] [(.int (0 : Int32))])) _
      refine XS.iload X24.here hx rfl (hb hby at_131) rfl ?_
      show Steps p.tables e below (T24.setTop (mkF m 133 #[.val (.int p1), .val (.long q2), .second, .val (.long q3), .second, .val (.long q4), .second, .val (.long q5), .second, .val (.long q6), .second, .val (.ref b2), .val (.int (1 : Int32)), .val (.ref b15), .val (.long q2), .second, .unset, .unset, .unset] [(.int (1 : Int32)), (.int (0 : Int32))])) _
      refine XS.iconst X24.here hx rfl (hb hby at_133) ?_
      show Steps p.tables e below (T24.setTop (mkF m 134 #[.val (.int p1), .val (.long q2), .second, .val (.long q3), .second, .val (.long q4), .second, .val (.long q5), .second, .val (.long q6), .second, .val (.ref b2), .val (.int (1 : Int32)), .val (.ref b15), .val (.long q2), .second, .unset, .unset, .unset] [(.int (1 : Int32)), (.int (1 : Int32)), (.int (0 : Int32))])) _
      refine XS.isub X24.here hx rfl (hb hby at_134) rfl ?_
      show Steps p.tables e below (T24.setTop (mkF m 135 #[.val (.int p1), .val (.long q2), .second, .val (.long q3), .second, .val (.long q4), .second, .val (.long q5), .second, .val (.long q6), .second, .val (.ref b2), .val (.int (1 : Int32)), .val (.ref b15), .val (.long q2), .second, .unset, .unset, .unset] [(.int ((1 : Int32) - (1 : Int32))), (.int (0 : Int32))])) _
      refine XS.icmpYes X24.here hx rfl (pc0 := 135) (pc' := 140) rfl (hb hby at_135) rfl (teq (by decide : (0 : Int32) = ((1 : Int32) - (1 : Int32)))).1 (by decide) (by decide) ?_
      show Steps p.tables e below (T24.setTop (mkF m 140 #[.val (.int p1), .val (.long q2), .second, .val (.long q3), .second, .val (.long q4), .second, .val (.long q5), .second, .val (.long q6), .second, .val (.ref b2), .val (.int (1 : Int32)), .val (.ref b15), .val (.long q2), .second, .unset, .unset, .unset] [])) _
      refine XS.aload X24.here hx rfl (hb hby at_140) rfl rfl ?_
      show Steps p.tables e below (T24.setTop (mkF m 142 #[.val (.int p1), .val (.long q2), .second, .val (.long q3), .second, .val (.long q4), .second, .val (.long q5), .second, .val (.long q6), .second, .val (.ref b2), .val (.int (1 : Int32)), .val (.ref b15), .val (.long q2), .second, .unset, .unset, .unset] [(.ref b15)])) _
      exact kt
    obtain ⟨cq26, kq26, q26a, q26b, q26c⟩ := isOf hZ e24 E_b15_22
    obtain ⟨_, _, ⟨T26, L26, k26, n26⟩, -, X26, ⟨Lc26, hQ26, l26, y26, z26⟩, st26⟩ := X24.virtualBack hx (y := (⟨"com/example/queries_over_knowledge/queriesoverknowledge/reasoning/LongList", "toArray", "()[J"⟩ : MethodName)) (z := (⟨"com/example/queries_over_knowledge/queriesoverknowledge/reasoning/LongList", "toArray", "()[J"⟩ : MethodName)) hown (mvT hZ (hw _ (List.mem_of_getElem? (i := 30) rfl))) (mvT hZ (hw _ (List.mem_of_getElem? (i := 31) rfl))) (notFace_of_selects (args := #[]) (mvT hZ (hw _ (List.mem_of_getElem? (i := 33) rfl)))) (mvT hZ (hw _ (List.mem_of_getElem? (i := 33) rfl))) (mvT hZ (hw _ (List.mem_of_getElem? (i := 32) rfl))) (by decide) (backOf (W := 0) (rm6 l Z a0 hw [] b15 r17 kr17 (4 : Int32) (0 : Int32) (0 : Int32) [(.long q2), (.long (0 : Int64)), (.long (0 : Int64)), (.long (0 : Int64))] [] [] T22.heap n0 Z22 Fz22 Fv22 V20_22 (by decide) (by decide) (by decide) (by decide) (by decide) (by decide) (by decide) rfl rfl) hZ (hw _ (List.mem_of_getElem? (i := 34) rfl)) (hw _ (List.mem_of_getElem? (i := 4) rfl)) (by decide) (by decide)) q26a q26c (g := (mkF m 142 #[.val (.int p1), .val (.long q2), .second, .val (.long q3), .second, .val (.long q4), .second, .val (.long q5), .second, .val (.long q6), .second, .val (.ref b2), .val (.int (1 : Int32)), .val (.ref b15), .val (.long q2), .second, .unset, .unset, .unset] [(.ref b15)])) rfl (by rw [hml]; rfl) (Steps.refl _) (argsL := []) (rest := []) (lenOf pd_6 rfl) rfl (by show 2 * 0 + _ ≤ _; exact Nat.le_of_eq rfl) (hb hby at_142) (fun _ _ => ⟨rfl, e24, (by decide : 3 + 1 ≤ _), (by decide : 11 + 8 ≤ _)⟩)
    dsimp only [Pt.U, Pt.locs, Pt.cells, Pt.slots] at X26 l26 y26 z26 st26 hQ26
    subst l26 y26 z26
    obtain ⟨t_26, kt26, rfl, N26q, K26, g_t_26, szq26, V_t_26⟩ := hQ26
    have N26 := Fr.app N24 N26q
    have ne_b2_t_26 : b2 ≠ t_26 := Nat.ne_of_lt (Nat.lt_of_lt_of_le V_b2_12_22.lt szq26)
    have ne_b15_t_26 : b15 ≠ t_26 := Nat.ne_of_lt (Nat.lt_of_lt_of_le E_b15_22.lt szq26)
    have ne_r17_t_26 : r17 ≠ t_26 := Nat.ne_of_lt (Nat.lt_of_lt_of_le V20_22.lt szq26)
    have V_b2_12_26 : Arv Z T26.heap b2 k2 .long (5 : Int32) [(.long q2), (.long q3), (.long q4), (.long q5), (.long q6)] (.long (0 : Int64)) := V_b2_12_22.keep K26 nin0
    have E_b15_26 : Exa Z T26.heap b15 "com/example/queries_over_knowledge/queriesoverknowledge/reasoning/LongList" := E_b15_22.keep K26
    have V20_26 : Arv Z T26.heap r17 kr17 .long (4 : Int32) [(.long q2), (.long (0 : Int64)), (.long (0 : Int64)), (.long (0 : Int64))] (.long (0 : Int64)) := V20_22.keep K26 nin0
    have Fz22_26 : Fld Z T26.heap b15 "com/example/queries_over_knowledge/queriesoverknowledge/reasoning/LongList" "size" "I" (.int (0 : Int32)) := Fz22.keep K26 nin0
    have Fv22_26 : Fld Z T26.heap b15 "com/example/queries_over_knowledge/queriesoverknowledge/reasoning/LongList" "values" "[J" (.ref r17) := Fv22.keep K26 nin0
    have Z26 : n0 ≤ T26.heap.size := Nat.le_trans Z22 K26.1
    have G26 : ∀ t, Steps p.tables e below (T26.setTop (mkF m 145 #[.val (.int p1), .val (.long q2), .second, .val (.long q3), .second, .val (.long q4), .second, .val (.long q5), .second, .val (.long q6), .second, .val (.ref b2), .val (.int (1 : Int32)), .val (.ref b15), .val (.long q2), .second, .unset, .unset, .unset] [(.ref t_26)])) t → Steps p.tables e below (s₁.setTop (entryFrame m #[(.int p1), (.long q2), (.long q3), (.long q4), (.long q5), (.long q6)] maxLocals)) t := fun t kt => G25 t (st26.trans kt)
    obtain ⟨cl_t1, Ar_t1, qq_t1, SS_t1, MM_t1, HH_t1, UU_t1⟩ := id V_t_26
    have G27 : ∀ t, Steps p.tables e below (T26.setTop (mkF m 266 #[.val (.int p1), .val (.long q2), .second, .val (.long q3), .second, .val (.long q4), .second, .val (.long q5), .second, .val (.long q6), .second, .val (.ref b2), .val (.int (1 : Int32)), .val (.ref b15), .val (.long q2), .second, .val (.ref t_26), .unset, .unset] [(.int (1 : Int32))])) t → Steps p.tables e below (s₁.setTop (entryFrame m #[(.int p1), (.long q2), (.long q3), (.long q4), (.long q5), (.long q6)] maxLocals)) t := by
      intro t kt
      refine G26 t ?_
      show Steps p.tables e below (T26.setTop (mkF m 145 #[.val (.int p1), .val (.long q2), .second, .val (.long q3), .second, .val (.long q4), .second, .val (.long q5), .second, .val (.long q6), .second, .val (.ref b2), .val (.int (1 : Int32)), .val (.ref b15), .val (.long q2), .second, .unset, .unset, .unset] [(.ref t_26)])) _
      refine XS.astore X26.here hx rfl (hb hby at_145) rfl rfl (l' := #[.val (.int p1), .val (.long q2), .second, .val (.long q3), .second, .val (.long q4), .second, .val (.long q5), .second, .val (.long q6), .second, .val (.ref b2), .val (.int (1 : Int32)), .val (.ref b15), .val (.long q2), .second, .val (.ref t_26), .unset, .unset]) rfl ?_
      show Steps p.tables e below (T26.setTop (mkF m 147 #[.val (.int p1), .val (.long q2), .second, .val (.long q3), .second, .val (.long q4), .second, .val (.long q5), .second, .val (.long q6), .second, .val (.ref b2), .val (.int (1 : Int32)), .val (.ref b15), .val (.long q2), .second, .val (.ref t_26), .unset, .unset] [])) _
      refine XS.aload X26.here hx rfl (hb hby at_147) rfl rfl ?_
      show Steps p.tables e below (T26.setTop (mkF m 149 #[.val (.int p1), .val (.long q2), .second, .val (.long q3), .second, .val (.long q4), .second, .val (.long q5), .second, .val (.long q6), .second, .val (.ref b2), .val (.int (1 : Int32)), .val (.ref b15), .val (.long q2), .second, .val (.ref t_26), .unset, .unset] [(.ref t_26)])) _
      refine X26.arraylength hx (cell := cl_t1) Ar_t1.1 (State.isArrayOf_alike hZ.alike Ar_t1.2.1) (g := (mkF m 149 #[.val (.int p1), .val (.long q2), .second, .val (.long q3), .second, .val (.long q4), .second, .val (.long q5), .second, .val (.long q6), .second, .val (.ref b2), .val (.int (1 : Int32)), .val (.ref b15), .val (.long q2), .second, .val (.ref t_26), .unset, .unset] [(.ref t_26)])) rfl rfl (hb hby at_149) _ ?_
      rw [len_of SS_t1 MM_t1]
      show Steps p.tables e below (T26.setTop (mkF m 150 #[.val (.int p1), .val (.long q2), .second, .val (.long q3), .second, .val (.long q4), .second, .val (.long q5), .second, .val (.long q6), .second, .val (.ref b2), .val (.int (1 : Int32)), .val (.ref b15), .val (.long q2), .second, .val (.ref t_26), .unset, .unset] [(.int (0 : Int32))])) _
      refine XS.iload X26.here hx rfl (hb hby at_150) rfl ?_
      show Steps p.tables e below (T26.setTop (mkF m 152 #[.val (.int p1), .val (.long q2), .second, .val (.long q3), .second, .val (.long q4), .second, .val (.long q5), .second, .val (.long q6), .second, .val (.ref b2), .val (.int (1 : Int32)), .val (.ref b15), .val (.long q2), .second, .val (.ref t_26), .unset, .unset] [(.int (1 : Int32)), (.int (0 : Int32))])) _
      refine XS.iconst X26.here hx rfl (hb hby at_152) ?_
      show Steps p.tables e below (T26.setTop (mkF m 153 #[.val (.int p1), .val (.long q2), .second, .val (.long q3), .second, .val (.long q4), .second, .val (.long q5), .second, .val (.long q6), .second, .val (.ref b2), .val (.int (1 : Int32)), .val (.ref b15), .val (.long q2), .second, .val (.ref t_26), .unset, .unset] [(.int (1 : Int32)), (.int (1 : Int32)), (.int (0 : Int32))])) _
      refine XS.isub X26.here hx rfl (hb hby at_153) rfl ?_
      show Steps p.tables e below (T26.setTop (mkF m 154 #[.val (.int p1), .val (.long q2), .second, .val (.long q3), .second, .val (.long q4), .second, .val (.long q5), .second, .val (.long q6), .second, .val (.ref b2), .val (.int (1 : Int32)), .val (.ref b15), .val (.long q2), .second, .val (.ref t_26), .unset, .unset] [(.int ((1 : Int32) - (1 : Int32))), (.int (0 : Int32))])) _
      refine XS.icmpYes X26.here hx rfl (pc0 := 154) (pc' := 159) rfl (hb hby at_154) rfl (teq (by decide : (0 : Int32) = ((1 : Int32) - (1 : Int32)))).1 (by decide) (by decide) ?_
      show Steps p.tables e below (T26.setTop (mkF m 159 #[.val (.int p1), .val (.long q2), .second, .val (.long q3), .second, .val (.long q4), .second, .val (.long q5), .second, .val (.long q6), .second, .val (.ref b2), .val (.int (1 : Int32)), .val (.ref b15), .val (.long q2), .second, .val (.ref t_26), .unset, .unset] [])) _
      refine XS.iload X26.here hx rfl (hb hby at_159) rfl ?_
      show Steps p.tables e below (T26.setTop (mkF m 161 #[.val (.int p1), .val (.long q2), .second, .val (.long q3), .second, .val (.long q4), .second, .val (.long q5), .second, .val (.long q6), .second, .val (.ref b2), .val (.int (1 : Int32)), .val (.ref b15), .val (.long q2), .second, .val (.ref t_26), .unset, .unset] [(.int (1 : Int32))])) _
      refine XS.iconst X26.here hx rfl (hb hby at_161) ?_
      show Steps p.tables e below (T26.setTop (mkF m 162 #[.val (.int p1), .val (.long q2), .second, .val (.long q3), .second, .val (.long q4), .second, .val (.long q5), .second, .val (.long q6), .second, .val (.ref b2), .val (.int (1 : Int32)), .val (.ref b15), .val (.long q2), .second, .val (.ref t_26), .unset, .unset] [(.int (1 : Int32)), (.int (1 : Int32))])) _
      refine XS.isub X26.here hx rfl (hb hby at_162) rfl ?_
      show Steps p.tables e below (T26.setTop (mkF m 163 #[.val (.int p1), .val (.long q2), .second, .val (.long q3), .second, .val (.long q4), .second, .val (.long q5), .second, .val (.long q6), .second, .val (.ref b2), .val (.int (1 : Int32)), .val (.ref b15), .val (.long q2), .second, .val (.ref t_26), .unset, .unset] [(.int ((1 : Int32) - (1 : Int32)))])) _
      refine XS.iconst X26.here hx rfl (hb hby at_163) ?_
      show Steps p.tables e below (T26.setTop (mkF m 164 #[.val (.int p1), .val (.long q2), .second, .val (.long q3), .second, .val (.long q4), .second, .val (.long q5), .second, .val (.long q6), .second, .val (.ref b2), .val (.int (1 : Int32)), .val (.ref b15), .val (.long q2), .second, .val (.ref t_26), .unset, .unset] [(.int (1 : Int32)), (.int ((1 : Int32) - (1 : Int32)))])) _
      refine XS.icmpYes X26.here hx rfl (pc0 := 164) (pc' := 178) rfl (hb hby at_164) rfl (tlt (by decide : ((1 : Int32) - (1 : Int32)) < (1 : Int32))).1 (by decide) (by decide) ?_
      show Steps p.tables e below (T26.setTop (mkF m 178 #[.val (.int p1), .val (.long q2), .second, .val (.long q3), .second, .val (.long q4), .second, .val (.long q5), .second, .val (.long q6), .second, .val (.ref b2), .val (.int (1 : Int32)), .val (.ref b15), .val (.long q2), .second, .val (.ref t_26), .unset, .unset] [])) _
      refine XS.iload X26.here hx rfl (hb hby at_178) rfl ?_
      show Steps p.tables e below (T26.setTop (mkF m 180 #[.val (.int p1), .val (.long q2), .second, .val (.long q3), .second, .val (.long q4), .second, .val (.long q5), .second, .val (.long q6), .second, .val (.ref b2), .val (.int (1 : Int32)), .val (.ref b15), .val (.long q2), .second, .val (.ref t_26), .unset, .unset] [(.int (1 : Int32))])) _
      refine XS.iconst X26.here hx rfl (hb hby at_180) ?_
      show Steps p.tables e below (T26.setTop (mkF m 181 #[.val (.int p1), .val (.long q2), .second, .val (.long q3), .second, .val (.long q4), .second, .val (.long q5), .second, .val (.long q6), .second, .val (.ref b2), .val (.int (1 : Int32)), .val (.ref b15), .val (.long q2), .second, .val (.ref t_26), .unset, .unset] [(.int (1 : Int32)), (.int (1 : Int32))])) _
      refine XS.isub X26.here hx rfl (hb hby at_181) rfl ?_
      show Steps p.tables e below (T26.setTop (mkF m 182 #[.val (.int p1), .val (.long q2), .second, .val (.long q3), .second, .val (.long q4), .second, .val (.long q5), .second, .val (.long q6), .second, .val (.ref b2), .val (.int (1 : Int32)), .val (.ref b15), .val (.long q2), .second, .val (.ref t_26), .unset, .unset] [(.int ((1 : Int32) - (1 : Int32)))])) _
      refine XS.iconst X26.here hx rfl (hb hby at_182) ?_
      show Steps p.tables e below (T26.setTop (mkF m 183 #[.val (.int p1), .val (.long q2), .second, .val (.long q3), .second, .val (.long q4), .second, .val (.long q5), .second, .val (.long q6), .second, .val (.ref b2), .val (.int (1 : Int32)), .val (.ref b15), .val (.long q2), .second, .val (.ref t_26), .unset, .unset] [(.int (2 : Int32)), (.int ((1 : Int32) - (1 : Int32)))])) _
      refine XS.icmpYes X26.here hx rfl (pc0 := 183) (pc' := 197) rfl (hb hby at_183) rfl (tlt (by decide : ((1 : Int32) - (1 : Int32)) < (2 : Int32))).1 (by decide) (by decide) ?_
      show Steps p.tables e below (T26.setTop (mkF m 197 #[.val (.int p1), .val (.long q2), .second, .val (.long q3), .second, .val (.long q4), .second, .val (.long q5), .second, .val (.long q6), .second, .val (.ref b2), .val (.int (1 : Int32)), .val (.ref b15), .val (.long q2), .second, .val (.ref t_26), .unset, .unset] [])) _
      refine XS.iload X26.here hx rfl (hb hby at_197) rfl ?_
      show Steps p.tables e below (T26.setTop (mkF m 199 #[.val (.int p1), .val (.long q2), .second, .val (.long q3), .second, .val (.long q4), .second, .val (.long q5), .second, .val (.long q6), .second, .val (.ref b2), .val (.int (1 : Int32)), .val (.ref b15), .val (.long q2), .second, .val (.ref t_26), .unset, .unset] [(.int (1 : Int32))])) _
      refine XS.iconst X26.here hx rfl (hb hby at_199) ?_
      show Steps p.tables e below (T26.setTop (mkF m 200 #[.val (.int p1), .val (.long q2), .second, .val (.long q3), .second, .val (.long q4), .second, .val (.long q5), .second, .val (.long q6), .second, .val (.ref b2), .val (.int (1 : Int32)), .val (.ref b15), .val (.long q2), .second, .val (.ref t_26), .unset, .unset] [(.int (1 : Int32)), (.int (1 : Int32))])) _
      refine XS.isub X26.here hx rfl (hb hby at_200) rfl ?_
      show Steps p.tables e below (T26.setTop (mkF m 201 #[.val (.int p1), .val (.long q2), .second, .val (.long q3), .second, .val (.long q4), .second, .val (.long q5), .second, .val (.long q6), .second, .val (.ref b2), .val (.int (1 : Int32)), .val (.ref b15), .val (.long q2), .second, .val (.ref t_26), .unset, .unset] [(.int ((1 : Int32) - (1 : Int32)))])) _
      refine XS.iconst X26.here hx rfl (hb hby at_201) ?_
      show Steps p.tables e below (T26.setTop (mkF m 202 #[.val (.int p1), .val (.long q2), .second, .val (.long q3), .second, .val (.long q4), .second, .val (.long q5), .second, .val (.long q6), .second, .val (.ref b2), .val (.int (1 : Int32)), .val (.ref b15), .val (.long q2), .second, .val (.ref t_26), .unset, .unset] [(.int (3 : Int32)), (.int ((1 : Int32) - (1 : Int32)))])) _
      refine XS.icmpYes X26.here hx rfl (pc0 := 202) (pc' := 217) rfl (hb hby at_202) rfl (tlt (by decide : ((1 : Int32) - (1 : Int32)) < (3 : Int32))).1 (by decide) (by decide) ?_
      show Steps p.tables e below (T26.setTop (mkF m 217 #[.val (.int p1), .val (.long q2), .second, .val (.long q3), .second, .val (.long q4), .second, .val (.long q5), .second, .val (.long q6), .second, .val (.ref b2), .val (.int (1 : Int32)), .val (.ref b15), .val (.long q2), .second, .val (.ref t_26), .unset, .unset] [])) _
      refine XS.iload X26.here hx rfl (hb hby at_217) rfl ?_
      show Steps p.tables e below (T26.setTop (mkF m 219 #[.val (.int p1), .val (.long q2), .second, .val (.long q3), .second, .val (.long q4), .second, .val (.long q5), .second, .val (.long q6), .second, .val (.ref b2), .val (.int (1 : Int32)), .val (.ref b15), .val (.long q2), .second, .val (.ref t_26), .unset, .unset] [(.int (1 : Int32))])) _
      refine XS.iconst X26.here hx rfl (hb hby at_219) ?_
      show Steps p.tables e below (T26.setTop (mkF m 220 #[.val (.int p1), .val (.long q2), .second, .val (.long q3), .second, .val (.long q4), .second, .val (.long q5), .second, .val (.long q6), .second, .val (.ref b2), .val (.int (1 : Int32)), .val (.ref b15), .val (.long q2), .second, .val (.ref t_26), .unset, .unset] [(.int (1 : Int32)), (.int (1 : Int32))])) _
      refine XS.isub X26.here hx rfl (hb hby at_220) rfl ?_
      show Steps p.tables e below (T26.setTop (mkF m 221 #[.val (.int p1), .val (.long q2), .second, .val (.long q3), .second, .val (.long q4), .second, .val (.long q5), .second, .val (.long q6), .second, .val (.ref b2), .val (.int (1 : Int32)), .val (.ref b15), .val (.long q2), .second, .val (.ref t_26), .unset, .unset] [(.int ((1 : Int32) - (1 : Int32)))])) _
      refine XS.iconst X26.here hx rfl (hb hby at_221) ?_
      show Steps p.tables e below (T26.setTop (mkF m 222 #[.val (.int p1), .val (.long q2), .second, .val (.long q3), .second, .val (.long q4), .second, .val (.long q5), .second, .val (.long q6), .second, .val (.ref b2), .val (.int (1 : Int32)), .val (.ref b15), .val (.long q2), .second, .val (.ref t_26), .unset, .unset] [(.int (4 : Int32)), (.int ((1 : Int32) - (1 : Int32)))])) _
      refine XS.icmpYes X26.here hx rfl (pc0 := 222) (pc' := 237) rfl (hb hby at_222) rfl (tlt (by decide : ((1 : Int32) - (1 : Int32)) < (4 : Int32))).1 (by decide) (by decide) ?_
      show Steps p.tables e below (T26.setTop (mkF m 237 #[.val (.int p1), .val (.long q2), .second, .val (.long q3), .second, .val (.long q4), .second, .val (.long q5), .second, .val (.long q6), .second, .val (.ref b2), .val (.int (1 : Int32)), .val (.ref b15), .val (.long q2), .second, .val (.ref t_26), .unset, .unset] [])) _
      refine XS.iload X26.here hx rfl (hb hby at_237) rfl ?_
      show Steps p.tables e below (T26.setTop (mkF m 239 #[.val (.int p1), .val (.long q2), .second, .val (.long q3), .second, .val (.long q4), .second, .val (.long q5), .second, .val (.long q6), .second, .val (.ref b2), .val (.int (1 : Int32)), .val (.ref b15), .val (.long q2), .second, .val (.ref t_26), .unset, .unset] [(.int (1 : Int32))])) _
      refine XS.iconst X26.here hx rfl (hb hby at_239) ?_
      show Steps p.tables e below (T26.setTop (mkF m 240 #[.val (.int p1), .val (.long q2), .second, .val (.long q3), .second, .val (.long q4), .second, .val (.long q5), .second, .val (.long q6), .second, .val (.ref b2), .val (.int (1 : Int32)), .val (.ref b15), .val (.long q2), .second, .val (.ref t_26), .unset, .unset] [(.int (2 : Int32)), (.int (1 : Int32))])) _
      refine XS.icmpYes X26.here hx rfl (pc0 := 240) (pc' := 265) rfl (hb hby at_240) rfl (tlt (by decide : (1 : Int32) < (2 : Int32))).1 (by decide) (by decide) ?_
      show Steps p.tables e below (T26.setTop (mkF m 265 #[.val (.int p1), .val (.long q2), .second, .val (.long q3), .second, .val (.long q4), .second, .val (.long q5), .second, .val (.long q6), .second, .val (.ref b2), .val (.int (1 : Int32)), .val (.ref b15), .val (.long q2), .second, .val (.ref t_26), .unset, .unset] [])) _
      refine XS.iconst X26.here hx rfl (hb hby at_265) ?_
      show Steps p.tables e below (T26.setTop (mkF m 266 #[.val (.int p1), .val (.long q2), .second, .val (.long q3), .second, .val (.long q4), .second, .val (.long q5), .second, .val (.long q6), .second, .val (.ref b2), .val (.int (1 : Int32)), .val (.ref b15), .val (.long q2), .second, .val (.ref t_26), .unset, .unset] [(.int (1 : Int32))])) _
      exact kt
    obtain ⟨fs, hr, hrun, hended, hW, hsame⟩ := X26.leave (v := some (.int (1 : Int32))) (fun h => by rw [Bd.returns] at h; cases h)
    refine ⟨_, _, G27 _ ?_, hrun, hended, _, _, rfl, ?_, ⟨_, rfl⟩, hW, hsame.mono (by decide) (by decide)⟩
    · show Steps p.tables e below (T26.setTop (mkF m 266 #[.val (.int p1), .val (.long q2), .second, .val (.long q3), .second, .val (.long q4), .second, .val (.long q5), .second, .val (.long q6), .second, .val (.ref b2), .val (.int (1 : Int32)), .val (.ref b15), .val (.long q2), .second, .val (.ref t_26), .unset, .unset] [(.int (1 : Int32))])) _
      exact retN X26 hx (t := .boolean) Bd.returns (by simp) (hb hby at_266) hr
    · show Q0 Z p1 q2 q3 q4 q5 q6 h0 n0 _ T26.heap _
      exact ⟨rfl, N26⟩
  · clear hK
    have G28 : ∀ t, Steps p.tables e below (T17.setTop (mkF m 45 #[.val (.int p1), .val (.long q2), .second, .val (.long q3), .second, .val (.long q4), .second, .val (.long q5), .second, .val (.long q6), .second, .val (.ref b2), .val (.int (2 : Int32)), .unset, .unset, .unset, .unset, .unset, .unset] [(.ref b15)])) t → Steps p.tables e below (s₁.setTop (entryFrame m #[(.int p1), (.long q2), (.long q3), (.long q4), (.long q5), (.long q6)] maxLocals)) t := by
      intro t kt
      refine G17 t ?_
      rw [q]
      exact kt
    have G29 : ∀ t, Steps p.tables e below (T17.setTop (mkF m 50 #[.val (.int p1), .val (.long q2), .second, .val (.long q3), .second, .val (.long q4), .second, .val (.long q5), .second, .val (.long q6), .second, .val (.ref b2), .val (.int (2 : Int32)), .val (.ref b15), .unset, .unset, .unset, .unset, .unset] [(.long q2), (.ref b15)])) t → Steps p.tables e below (s₁.setTop (entryFrame m #[(.int p1), (.long q2), (.long q3), (.long q4), (.long q5), (.long q6)] maxLocals)) t := by
      intro t kt
      refine G28 t ?_
      show Steps p.tables e below (T17.setTop (mkF m 45 #[.val (.int p1), .val (.long q2), .second, .val (.long q3), .second, .val (.long q4), .second, .val (.long q5), .second, .val (.long q6), .second, .val (.ref b2), .val (.int (2 : Int32)), .unset, .unset, .unset, .unset, .unset, .unset] [(.ref b15)])) _
      refine XS.astore X17.here hx rfl (hb hby at_45) rfl rfl (l' := #[.val (.int p1), .val (.long q2), .second, .val (.long q3), .second, .val (.long q4), .second, .val (.long q5), .second, .val (.long q6), .second, .val (.ref b2), .val (.int (2 : Int32)), .val (.ref b15), .unset, .unset, .unset, .unset, .unset]) rfl ?_
      show Steps p.tables e below (T17.setTop (mkF m 47 #[.val (.int p1), .val (.long q2), .second, .val (.long q3), .second, .val (.long q4), .second, .val (.long q5), .second, .val (.long q6), .second, .val (.ref b2), .val (.int (2 : Int32)), .val (.ref b15), .unset, .unset, .unset, .unset, .unset] [])) _
      refine XS.aload X17.here hx rfl (hb hby at_47) rfl rfl ?_
      show Steps p.tables e below (T17.setTop (mkF m 49 #[.val (.int p1), .val (.long q2), .second, .val (.long q3), .second, .val (.long q4), .second, .val (.long q5), .second, .val (.long q6), .second, .val (.ref b2), .val (.int (2 : Int32)), .val (.ref b15), .unset, .unset, .unset, .unset, .unset] [(.ref b15)])) _
      refine XS.lloadN X17.here hx rfl (hb hby at_49) rfl ?_
      show Steps p.tables e below (T17.setTop (mkF m 50 #[.val (.int p1), .val (.long q2), .second, .val (.long q3), .second, .val (.long q4), .second, .val (.long q5), .second, .val (.long q6), .second, .val (.ref b2), .val (.int (2 : Int32)), .val (.ref b15), .unset, .unset, .unset, .unset, .unset] [(.long q2), (.ref b15)])) _
      exact kt
    obtain ⟨cq30, kq30, q30a, q30b, q30c⟩ := isOf hZ rfl E_b15_17
    obtain ⟨_, _, ⟨T30, L30, k30, n30⟩, -, X30, ⟨Lc30, hQ30, l30, y30, z30⟩, st30⟩ := X17.virtualBack hx (y := (⟨"com/example/queries_over_knowledge/queriesoverknowledge/reasoning/LongList", "add", "(J)V"⟩ : MethodName)) (z := (⟨"com/example/queries_over_knowledge/queriesoverknowledge/reasoning/LongList", "add", "(J)V"⟩ : MethodName)) hown (mvT hZ (hw _ (List.mem_of_getElem? (i := 13) rfl))) (mvT hZ (hw _ (List.mem_of_getElem? (i := 14) rfl))) (notFace_of_selects (args := #[]) (mvT hZ (hw _ (List.mem_of_getElem? (i := 16) rfl)))) (mvT hZ (hw _ (List.mem_of_getElem? (i := 16) rfl))) (mvT hZ (hw _ (List.mem_of_getElem? (i := 15) rfl))) (by decide) (backOf (W := 0) (rm3a l Z a0 hw [] b15 q2 r17 kr17 (4 : Int32) (0 : Int32) (1 : Int32) 0 [(.long (0 : Int64)), (.long (0 : Int64)), (.long (0 : Int64)), (.long (0 : Int64))] T17.heap n0 Z17 E_b15_17 Fz17 Fv17 V_r17 (by decide) (by decide) (by decide) (Nat.le_of_ble_eq_true rfl) (by decide) g_b15 g_r17 ne_b15_r17) hZ (hw _ (List.mem_of_getElem? (i := 17) rfl)) (hw _ (List.mem_of_getElem? (i := 4) rfl)) (by decide) (by decide)) q30a q30c (g := (mkF m 50 #[.val (.int p1), .val (.long q2), .second, .val (.long q3), .second, .val (.long q4), .second, .val (.long q5), .second, .val (.long q6), .second, .val (.ref b2), .val (.int (2 : Int32)), .val (.ref b15), .unset, .unset, .unset, .unset, .unset] [(.long q2), (.ref b15)])) rfl (by rw [hml]; rfl) (Steps.refl _) (argsL := [(.long q2)]) (rest := []) (lenOf pd_3 rfl) rfl (by show 2 * 0 + _ ≤ _; exact Nat.le_of_eq rfl) (hb hby at_50) (fun _ _ => ⟨rfl, rfl, (by decide : 3 + 0 ≤ _), (by decide : 11 + 0 ≤ _)⟩)
    dsimp only [Pt.U, Pt.locs, Pt.cells, Pt.slots] at X30 l30 y30 z30 st30 hQ30
    subst l30 y30 z30
    obtain ⟨rfl, N30q, K30, Eq30, Fz30, Fv30, V30'⟩ := hQ30
    have N30 := Fr.app N17 N30q
    have V_b2_12_30 : Arv Z T30.heap b2 k2 .long (5 : Int32) [(.long q2), (.long q3), (.long q4), (.long q5), (.long q6)] (.long (0 : Int64)) := V_b2_12_17.keep K30 (ninS ne_b2_b15 (ninS ne_b2_r17 nin0))
    have E_b15_30 : Exa Z T30.heap b15 "com/example/queries_over_knowledge/queriesoverknowledge/reasoning/LongList" := E_b15_17.keep K30
    have Z30 : n0 ≤ T30.heap.size := Nat.le_trans Z17 K30.1
    have G30 : ∀ t, Steps p.tables e below (T30.setTop (mkF m 53 #[.val (.int p1), .val (.long q2), .second, .val (.long q3), .second, .val (.long q4), .second, .val (.long q5), .second, .val (.long q6), .second, .val (.ref b2), .val (.int (2 : Int32)), .val (.ref b15), .unset, .unset, .unset, .unset, .unset] [])) t → Steps p.tables e below (s₁.setTop (entryFrame m #[(.int p1), (.long q2), (.long q3), (.long q4), (.long q5), (.long q6)] maxLocals)) t := fun t kt => G29 t (st30.trans kt)
    have V30 : Arv Z T30.heap r17 kr17 .long (4 : Int32) [(.long q2), (.long (0 : Int64)), (.long (0 : Int64)), (.long (0 : Int64))] (.long (0 : Int64)) := V30'
    have G31 : ∀ t, Steps p.tables e below (T30.setTop (mkF m 62 #[.val (.int p1), .val (.long q2), .second, .val (.long q3), .second, .val (.long q4), .second, .val (.long q5), .second, .val (.long q6), .second, .val (.ref b2), .val (.int (2 : Int32)), .val (.ref b15), .unset, .unset, .unset, .unset, .unset] [(.long q3), (.ref b15)])) t → Steps p.tables e below (s₁.setTop (entryFrame m #[(.int p1), (.long q2), (.long q3), (.long q4), (.long q5), (.long q6)] maxLocals)) t := by
      intro t kt
      refine G30 t ?_
      show Steps p.tables e below (T30.setTop (mkF m 53 #[.val (.int p1), .val (.long q2), .second, .val (.long q3), .second, .val (.long q4), .second, .val (.long q5), .second, .val (.long q6), .second, .val (.ref b2), .val (.int (2 : Int32)), .val (.ref b15), .unset, .unset, .unset, .unset, .unset] [])) _
      refine XS.iload X30.here hx rfl (hb hby at_53) rfl ?_
      show Steps p.tables e below (T30.setTop (mkF m 55 #[.val (.int p1), .val (.long q2), .second, .val (.long q3), .second, .val (.long q4), .second, .val (.long q5), .second, .val (.long q6), .second, .val (.ref b2), .val (.int (2 : Int32)), .val (.ref b15), .unset, .unset, .unset, .unset, .unset] [(.int (2 : Int32))])) _
      refine XS.iconst X30.here hx rfl (hb hby at_55) ?_
      show Steps p.tables e below (T30.setTop (mkF m 56 #[.val (.int p1), .val (.long q2), .second, .val (.long q3), .second, .val (.long q4), .second, .val (.long q5), .second, .val (.long q6), .second, .val (.ref b2), .val (.int (2 : Int32)), .val (.ref b15), .unset, .unset, .unset, .unset, .unset] [(.int (2 : Int32)), (.int (2 : Int32))])) _
      refine XS.icmpNo X30.here hx rfl (hb hby at_56) rfl (flt (by decide : ¬ ((2 : Int32) < (2 : Int32)))).1 ?_
      show Steps p.tables e below (T30.setTop (mkF m 59 #[.val (.int p1), .val (.long q2), .second, .val (.long q3), .second, .val (.long q4), .second, .val (.long q5), .second, .val (.long q6), .second, .val (.ref b2), .val (.int (2 : Int32)), .val (.ref b15), .unset, .unset, .unset, .unset, .unset] [])) _
      refine XS.aload X30.here hx rfl (hb hby at_59) rfl rfl ?_
      show Steps p.tables e below (T30.setTop (mkF m 61 #[.val (.int p1), .val (.long q2), .second, .val (.long q3), .second, .val (.long q4), .second, .val (.long q5), .second, .val (.long q6), .second, .val (.ref b2), .val (.int (2 : Int32)), .val (.ref b15), .unset, .unset, .unset, .unset, .unset] [(.ref b15)])) _
      refine XS.lloadN X30.here hx rfl (hb hby at_61) rfl ?_
      show Steps p.tables e below (T30.setTop (mkF m 62 #[.val (.int p1), .val (.long q2), .second, .val (.long q3), .second, .val (.long q4), .second, .val (.long q5), .second, .val (.long q6), .second, .val (.ref b2), .val (.int (2 : Int32)), .val (.ref b15), .unset, .unset, .unset, .unset, .unset] [(.long q3), (.ref b15)])) _
      exact kt
    obtain ⟨cq32, kq32, q32a, q32b, q32c⟩ := isOf hZ rfl E_b15_30
    obtain ⟨_, _, ⟨T32, L32, k32, n32⟩, -, X32, ⟨Lc32, hQ32, l32, y32, z32⟩, st32⟩ := X30.virtualBack hx (y := (⟨"com/example/queries_over_knowledge/queriesoverknowledge/reasoning/LongList", "add", "(J)V"⟩ : MethodName)) (z := (⟨"com/example/queries_over_knowledge/queriesoverknowledge/reasoning/LongList", "add", "(J)V"⟩ : MethodName)) hown (mvT hZ (hw _ (List.mem_of_getElem? (i := 13) rfl))) (mvT hZ (hw _ (List.mem_of_getElem? (i := 14) rfl))) (notFace_of_selects (args := #[]) (mvT hZ (hw _ (List.mem_of_getElem? (i := 16) rfl)))) (mvT hZ (hw _ (List.mem_of_getElem? (i := 16) rfl))) (mvT hZ (hw _ (List.mem_of_getElem? (i := 15) rfl))) (by decide) (backOf (W := 0) (rm3a l Z a0 hw [] b15 q3 r17 kr17 (4 : Int32) (1 : Int32) (2 : Int32) 1 [(.long q2), (.long (0 : Int64)), (.long (0 : Int64)), (.long (0 : Int64))] T30.heap n0 Z30 E_b15_30 Fz30 Fv30 V30 (by decide) (by decide) (by decide) (Nat.le_of_ble_eq_true rfl) (by decide) g_b15 g_r17 ne_b15_r17) hZ (hw _ (List.mem_of_getElem? (i := 17) rfl)) (hw _ (List.mem_of_getElem? (i := 4) rfl)) (by decide) (by decide)) q32a q32c (g := (mkF m 62 #[.val (.int p1), .val (.long q2), .second, .val (.long q3), .second, .val (.long q4), .second, .val (.long q5), .second, .val (.long q6), .second, .val (.ref b2), .val (.int (2 : Int32)), .val (.ref b15), .unset, .unset, .unset, .unset, .unset] [(.long q3), (.ref b15)])) rfl (by rw [hml]; rfl) (Steps.refl _) (argsL := [(.long q3)]) (rest := []) (lenOf pd_3 rfl) rfl (by show 2 * 0 + _ ≤ _; exact Nat.le_of_eq rfl) (hb hby at_62) (fun _ _ => ⟨rfl, rfl, (by decide : 3 + 0 ≤ _), (by decide : 11 + 0 ≤ _)⟩)
    dsimp only [Pt.U, Pt.locs, Pt.cells, Pt.slots] at X32 l32 y32 z32 st32 hQ32
    subst l32 y32 z32
    obtain ⟨rfl, N32q, K32, Eq32, Fz32, Fv32, V32'⟩ := hQ32
    have N32 := Fr.app N30 N32q
    have V_b2_12_32 : Arv Z T32.heap b2 k2 .long (5 : Int32) [(.long q2), (.long q3), (.long q4), (.long q5), (.long q6)] (.long (0 : Int64)) := V_b2_12_30.keep K32 (ninS ne_b2_b15 (ninS ne_b2_r17 nin0))
    have E_b15_32 : Exa Z T32.heap b15 "com/example/queries_over_knowledge/queriesoverknowledge/reasoning/LongList" := E_b15_30.keep K32
    have Z32 : n0 ≤ T32.heap.size := Nat.le_trans Z30 K32.1
    have G32 : ∀ t, Steps p.tables e below (T32.setTop (mkF m 65 #[.val (.int p1), .val (.long q2), .second, .val (.long q3), .second, .val (.long q4), .second, .val (.long q5), .second, .val (.long q6), .second, .val (.ref b2), .val (.int (2 : Int32)), .val (.ref b15), .unset, .unset, .unset, .unset, .unset] [])) t → Steps p.tables e below (s₁.setTop (entryFrame m #[(.int p1), (.long q2), (.long q3), (.long q4), (.long q5), (.long q6)] maxLocals)) t := fun t kt => G31 t (st32.trans kt)
    have V32 : Arv Z T32.heap r17 kr17 .long (4 : Int32) [(.long q2), (.long q3), (.long (0 : Int64)), (.long (0 : Int64))] (.long (0 : Int64)) := V32'
    have G33 : ∀ t, Steps p.tables e below (T32.setTop (mkF m 106 #[.val (.int p1), .val (.long q2), .second, .val (.long q3), .second, .val (.long q4), .second, .val (.long q5), .second, .val (.long q6), .second, .val (.ref b2), .val (.int (2 : Int32)), .val (.ref b15), .unset, .unset, .unset, .unset, .unset] [(.ref b15)])) t → Steps p.tables e below (s₁.setTop (entryFrame m #[(.int p1), (.long q2), (.long q3), (.long q4), (.long q5), (.long q6)] maxLocals)) t := by
      intro t kt
      refine G32 t ?_
      show Steps p.tables e below (T32.setTop (mkF m 65 #[.val (.int p1), .val (.long q2), .second, .val (.long q3), .second, .val (.long q4), .second, .val (.long q5), .second, .val (.long q6), .second, .val (.ref b2), .val (.int (2 : Int32)), .val (.ref b15), .unset, .unset, .unset, .unset, .unset] [])) _
      refine XS.iload X32.here hx rfl (hb hby at_65) rfl ?_
      show Steps p.tables e below (T32.setTop (mkF m 67 #[.val (.int p1), .val (.long q2), .second, .val (.long q3), .second, .val (.long q4), .second, .val (.long q5), .second, .val (.long q6), .second, .val (.ref b2), .val (.int (2 : Int32)), .val (.ref b15), .unset, .unset, .unset, .unset, .unset] [(.int (2 : Int32))])) _
      refine XS.iconst X32.here hx rfl (hb hby at_67) ?_
      show Steps p.tables e below (T32.setTop (mkF m 68 #[.val (.int p1), .val (.long q2), .second, .val (.long q3), .second, .val (.long q4), .second, .val (.long q5), .second, .val (.long q6), .second, .val (.ref b2), .val (.int (2 : Int32)), .val (.ref b15), .unset, .unset, .unset, .unset, .unset] [(.int (3 : Int32)), (.int (2 : Int32))])) _
      refine XS.icmpYes X32.here hx rfl (pc0 := 68) (pc' := 78) rfl (hb hby at_68) rfl (tlt (by decide : (2 : Int32) < (3 : Int32))).1 (by decide) (by decide) ?_
      show Steps p.tables e below (T32.setTop (mkF m 78 #[.val (.int p1), .val (.long q2), .second, .val (.long q3), .second, .val (.long q4), .second, .val (.long q5), .second, .val (.long q6), .second, .val (.ref b2), .val (.int (2 : Int32)), .val (.ref b15), .unset, .unset, .unset, .unset, .unset] [])) _
      refine XS.iload X32.here hx rfl (hb hby at_78) rfl ?_
      show Steps p.tables e below (T32.setTop (mkF m 80 #[.val (.int p1), .val (.long q2), .second, .val (.long q3), .second, .val (.long q4), .second, .val (.long q5), .second, .val (.long q6), .second, .val (.ref b2), .val (.int (2 : Int32)), .val (.ref b15), .unset, .unset, .unset, .unset, .unset] [(.int (2 : Int32))])) _
      refine XS.iconst X32.here hx rfl (hb hby at_80) ?_
      show Steps p.tables e below (T32.setTop (mkF m 81 #[.val (.int p1), .val (.long q2), .second, .val (.long q3), .second, .val (.long q4), .second, .val (.long q5), .second, .val (.long q6), .second, .val (.ref b2), .val (.int (2 : Int32)), .val (.ref b15), .unset, .unset, .unset, .unset, .unset] [(.int (4 : Int32)), (.int (2 : Int32))])) _
      refine XS.icmpYes X32.here hx rfl (pc0 := 81) (pc' := 91) rfl (hb hby at_81) rfl (tlt (by decide : (2 : Int32) < (4 : Int32))).1 (by decide) (by decide) ?_
      show Steps p.tables e below (T32.setTop (mkF m 91 #[.val (.int p1), .val (.long q2), .second, .val (.long q3), .second, .val (.long q4), .second, .val (.long q5), .second, .val (.long q6), .second, .val (.ref b2), .val (.int (2 : Int32)), .val (.ref b15), .unset, .unset, .unset, .unset, .unset] [])) _
      refine XS.iload X32.here hx rfl (hb hby at_91) rfl ?_
      show Steps p.tables e below (T32.setTop (mkF m 93 #[.val (.int p1), .val (.long q2), .second, .val (.long q3), .second, .val (.long q4), .second, .val (.long q5), .second, .val (.long q6), .second, .val (.ref b2), .val (.int (2 : Int32)), .val (.ref b15), .unset, .unset, .unset, .unset, .unset] [(.int (2 : Int32))])) _
      refine XS.iconst X32.here hx rfl (hb hby at_93) ?_
      show Steps p.tables e below (T32.setTop (mkF m 94 #[.val (.int p1), .val (.long q2), .second, .val (.long q3), .second, .val (.long q4), .second, .val (.long q5), .second, .val (.long q6), .second, .val (.ref b2), .val (.int (2 : Int32)), .val (.ref b15), .unset, .unset, .unset, .unset, .unset] [(.int (5 : Int32)), (.int (2 : Int32))])) _
      refine XS.icmpYes X32.here hx rfl (pc0 := 94) (pc' := 104) rfl (hb hby at_94) rfl (tlt (by decide : (2 : Int32) < (5 : Int32))).1 (by decide) (by decide) ?_
      show Steps p.tables e below (T32.setTop (mkF m 104 #[.val (.int p1), .val (.long q2), .second, .val (.long q3), .second, .val (.long q4), .second, .val (.long q5), .second, .val (.long q6), .second, .val (.ref b2), .val (.int (2 : Int32)), .val (.ref b15), .unset, .unset, .unset, .unset, .unset] [])) _
      refine XS.aload X32.here hx rfl (hb hby at_104) rfl rfl ?_
      show Steps p.tables e below (T32.setTop (mkF m 106 #[.val (.int p1), .val (.long q2), .second, .val (.long q3), .second, .val (.long q4), .second, .val (.long q5), .second, .val (.long q6), .second, .val (.ref b2), .val (.int (2 : Int32)), .val (.ref b15), .unset, .unset, .unset, .unset, .unset] [(.ref b15)])) _
      exact kt
    obtain ⟨cq34, kq34, q34a, q34b, q34c⟩ := isOf hZ rfl E_b15_32
    obtain ⟨_, _, ⟨T34, L34, k34, n34⟩, -, X34, ⟨Lc34, hQ34, l34, y34, z34⟩, st34⟩ := X32.virtualBack hx (y := (⟨"com/example/queries_over_knowledge/queriesoverknowledge/reasoning/LongList", "removeLast", "()J"⟩ : MethodName)) (z := (⟨"com/example/queries_over_knowledge/queriesoverknowledge/reasoning/LongList", "removeLast", "()J"⟩ : MethodName)) hown (mvT hZ (hw _ (List.mem_of_getElem? (i := 20) rfl))) (mvT hZ (hw _ (List.mem_of_getElem? (i := 21) rfl))) (notFace_of_selects (args := #[]) (mvT hZ (hw _ (List.mem_of_getElem? (i := 23) rfl)))) (mvT hZ (hw _ (List.mem_of_getElem? (i := 23) rfl))) (mvT hZ (hw _ (List.mem_of_getElem? (i := 22) rfl))) (by decide) (backOf (W := 0) (rm4 l Z a0 hw [] b15 r17 kr17 (4 : Int32) (2 : Int32) (1 : Int32) [(.long q2), (.long q3), (.long (0 : Int64)), (.long (0 : Int64))] q3 T32.heap n0 Z32 E_b15_32 Fz32 Fv32 V32 (by decide) (by decide) rfl g_b15 ne_b15_r17) hZ (hw _ (List.mem_of_getElem? (i := 24) rfl)) (hw _ (List.mem_of_getElem? (i := 4) rfl)) (by decide) (by decide)) q34a q34c (g := (mkF m 106 #[.val (.int p1), .val (.long q2), .second, .val (.long q3), .second, .val (.long q4), .second, .val (.long q5), .second, .val (.long q6), .second, .val (.ref b2), .val (.int (2 : Int32)), .val (.ref b15), .unset, .unset, .unset, .unset, .unset] [(.ref b15)])) rfl (by rw [hml]; rfl) (Steps.refl _) (argsL := []) (rest := []) (lenOf pd_4 rfl) rfl (by show 2 * 0 + _ ≤ _; exact Nat.le_of_eq rfl) (hb hby at_106) (fun _ _ => ⟨rfl, rfl, (by decide : 3 + 0 ≤ _), (by decide : 11 + 0 ≤ _)⟩)
    dsimp only [Pt.U, Pt.locs, Pt.cells, Pt.slots] at X34 l34 y34 z34 st34 hQ34
    subst l34 y34 z34
    obtain ⟨rfl, N34q, K34, Eq34, Fz34, Fv34⟩ := hQ34
    have N34 := Fr.app N32 N34q
    have V_b2_12_34 : Arv Z T34.heap b2 k2 .long (5 : Int32) [(.long q2), (.long q3), (.long q4), (.long q5), (.long q6)] (.long (0 : Int64)) := V_b2_12_32.keep K34 (ninS ne_b2_b15 nin0)
    have E_b15_34 : Exa Z T34.heap b15 "com/example/queries_over_knowledge/queriesoverknowledge/reasoning/LongList" := E_b15_32.keep K34
    have V32_34 : Arv Z T34.heap r17 kr17 .long (4 : Int32) [(.long q2), (.long q3), (.long (0 : Int64)), (.long (0 : Int64))] (.long (0 : Int64)) := V32.keep K34 (ninS (Ne.symm ne_b15_r17) nin0)
    have Z34 : n0 ≤ T34.heap.size := Nat.le_trans Z32 K34.1
    have G34 : ∀ t, Steps p.tables e below (T34.setTop (mkF m 109 #[.val (.int p1), .val (.long q2), .second, .val (.long q3), .second, .val (.long q4), .second, .val (.long q5), .second, .val (.long q6), .second, .val (.ref b2), .val (.int (2 : Int32)), .val (.ref b15), .unset, .unset, .unset, .unset, .unset] [(.long q3)])) t → Steps p.tables e below (s₁.setTop (entryFrame m #[(.int p1), (.long q2), (.long q3), (.long q4), (.long q5), (.long q6)] maxLocals)) t := fun t kt => G33 t (st34.trans kt)
    obtain ⟨cl_v1, Ar_v1, qq_v1, SS_v1, MM_v1, HH_v1, UU_v1⟩ := id V_b2_12_34
    have hin_v1_119 := inb_of SS_v1 (j := ((2 : Int32) - (1 : Int32))) (by decide)
    have hat_v1_119 : cl_v1.slots[(((2 : Int32) - (1 : Int32))).toNatClampNeg]? = some (.long q3) := HH_v1.at hin_v1_119 rfl
    have G35 : ∀ t, Steps p.tables e below (T34.setTop (mkF m 128 #[.val (.int p1), .val (.long q2), .second, .val (.long q3), .second, .val (.long q4), .second, .val (.long q5), .second, .val (.long q6), .second, .val (.ref b2), .val (.int (2 : Int32)), .val (.ref b15), .val (.long q3), .second, .unset, .unset, .unset] [(.ref b15)])) t → Steps p.tables e below (s₁.setTop (entryFrame m #[(.int p1), (.long q2), (.long q3), (.long q4), (.long q5), (.long q6)] maxLocals)) t := by
      intro t kt
      refine G34 t ?_
      show Steps p.tables e below (T34.setTop (mkF m 109 #[.val (.int p1), .val (.long q2), .second, .val (.long q3), .second, .val (.long q4), .second, .val (.long q5), .second, .val (.long q6), .second, .val (.ref b2), .val (.int (2 : Int32)), .val (.ref b15), .unset, .unset, .unset, .unset, .unset] [(.long q3)])) _
      refine XS.lstore X34.here hx rfl (hb hby at_109) rfl (l' := #[.val (.int p1), .val (.long q2), .second, .val (.long q3), .second, .val (.long q4), .second, .val (.long q5), .second, .val (.long q6), .second, .val (.ref b2), .val (.int (2 : Int32)), .val (.ref b15), .val (.long q3), .second, .unset, .unset, .unset]) rfl ?_
      show Steps p.tables e below (T34.setTop (mkF m 111 #[.val (.int p1), .val (.long q2), .second, .val (.long q3), .second, .val (.long q4), .second, .val (.long q5), .second, .val (.long q6), .second, .val (.ref b2), .val (.int (2 : Int32)), .val (.ref b15), .val (.long q3), .second, .unset, .unset, .unset] [])) _
      refine XS.lload X34.here hx rfl (hb hby at_111) rfl ?_
      show Steps p.tables e below (T34.setTop (mkF m 113 #[.val (.int p1), .val (.long q2), .second, .val (.long q3), .second, .val (.long q4), .second, .val (.long q5), .second, .val (.long q6), .second, .val (.ref b2), .val (.int (2 : Int32)), .val (.ref b15), .val (.long q3), .second, .unset, .unset, .unset] [(.long q3)])) _
      refine XS.aload X34.here hx rfl (hb hby at_113) rfl rfl ?_
      show Steps p.tables e below (T34.setTop (mkF m 115 #[.val (.int p1), .val (.long q2), .second, .val (.long q3), .second, .val (.long q4), .second, .val (.long q5), .second, .val (.long q6), .second, .val (.ref b2), .val (.int (2 : Int32)), .val (.ref b15), .val (.long q3), .second, .unset, .unset, .unset] [(.ref b2), (.long q3)])) _
      refine XS.iload X34.here hx rfl (hb hby at_115) rfl ?_
      show Steps p.tables e below (T34.setTop (mkF m 117 #[.val (.int p1), .val (.long q2), .second, .val (.long q3), .second, .val (.long q4), .second, .val (.long q5), .second, .val (.long q6), .second, .val (.ref b2), .val (.int (2 : Int32)), .val (.ref b15), .val (.long q3), .second, .unset, .unset, .unset] [(.int (2 : Int32)), (.ref b2), (.long q3)])) _
      refine XS.iconst X34.here hx rfl (hb hby at_117) ?_
      show Steps p.tables e below (T34.setTop (mkF m 118 #[.val (.int p1), .val (.long q2), .second, .val (.long q3), .second, .val (.long q4), .second, .val (.long q5), .second, .val (.long q6), .second, .val (.ref b2), .val (.int (2 : Int32)), .val (.ref b15), .val (.long q3), .second, .unset, .unset, .unset] [(.int (1 : Int32)), (.int (2 : Int32)), (.ref b2), (.long q3)])) _
      refine XS.isub X34.here hx rfl (hb hby at_118) rfl ?_
      show Steps p.tables e below (T34.setTop (mkF m 119 #[.val (.int p1), .val (.long q2), .second, .val (.long q3), .second, .val (.long q4), .second, .val (.long q5), .second, .val (.long q6), .second, .val (.ref b2), .val (.int (2 : Int32)), .val (.ref b15), .val (.long q3), .second, .unset, .unset, .unset] [(.int ((2 : Int32) - (1 : Int32))), (.ref b2), (.long q3)])) _
      refine X34.laload hx (j := ((2 : Int32) - (1 : Int32))) (v := (.long q3)) Ar_v1.1 (State.isArrayOf_alike hZ.alike Ar_v1.2.1) Ar_v1.2.2 hin_v1_119 hat_v1_119 (g := (mkF m 119 #[.val (.int p1), .val (.long q2), .second, .val (.long q3), .second, .val (.long q4), .second, .val (.long q5), .second, .val (.long q6), .second, .val (.ref b2), .val (.int (2 : Int32)), .val (.ref b15), .val (.long q3), .second, .unset, .unset, .unset] [(.int ((2 : Int32) - (1 : Int32))), (.ref b2), (.long q3)])) rfl rfl (hb hby at_119) _ ?_
      show Steps p.tables e below (T34.setTop (mkF m 120 #[.val (.int p1), .val (.long q2), .second, .val (.long q3), .second, .val (.long q4), .second, .val (.long q5), .second, .val (.long q6), .second, .val (.ref b2), .val (.int (2 : Int32)), .val (.ref b15), .val (.long q3), .second, .unset, .unset, .unset] [(.long q3), (.long q3)])) _
      refine XS.lcmp X34.here hx rfl (hb hby at_120) rfl ?_
      show Steps p.tables e below (T34.setTop (mkF m 121 #[.val (.int p1), .val (.long q2), .second, .val (.long q3), .second, .val (.long q4), .second, .val (.long q5), .second, .val (.long q6), .second, .val (.ref b2), .val (.int (2 : Int32)), .val (.ref b15), .val (.long q3), .second, .unset, .unset, .unset] [(.int (lcmpW q3 q3))])) _
      refine XS.ifYes X34.here hx rfl (pc0 := 121) (pc' := 126) rfl (hb hby at_121) rfl ((if0 _ _).trans (teq ((lw_eq _ _).mpr rfl)).1) (by decide) (by decide) ?_
      show Steps p.tables e below (T34.setTop (mkF m 126 #[.val (.int p1), .val (.long q2), .second, .val (.long q3), .second, .val (.long q4), .second, .val (.long q5), .second, .val (.long q6), .second, .val (.ref b2), .val (.int (2 : Int32)), .val (.ref b15), .val (.long q3), .second, .unset, .unset, .unset] [])) _
      refine XS.aload X34.here hx rfl (hb hby at_126) rfl rfl ?_
      show Steps p.tables e below (T34.setTop (mkF m 128 #[.val (.int p1), .val (.long q2), .second, .val (.long q3), .second, .val (.long q4), .second, .val (.long q5), .second, .val (.long q6), .second, .val (.ref b2), .val (.int (2 : Int32)), .val (.ref b15), .val (.long q3), .second, .unset, .unset, .unset] [(.ref b15)])) _
      exact kt
    obtain ⟨cq36, kq36, q36a, q36b, q36c⟩ := isOf hZ rfl E_b15_34
    obtain ⟨_, _, ⟨T36, L36, k36, n36⟩, -, X36, ⟨Lc36, hQ36, l36, y36, z36⟩, st36⟩ := X34.virtualBack hx (y := (⟨"com/example/queries_over_knowledge/queriesoverknowledge/reasoning/LongList", "size", "()I"⟩ : MethodName)) (z := (⟨"com/example/queries_over_knowledge/queriesoverknowledge/reasoning/LongList", "size", "()I"⟩ : MethodName)) hown (mvT hZ (hw _ (List.mem_of_getElem? (i := 25) rfl))) (mvT hZ (hw _ (List.mem_of_getElem? (i := 26) rfl))) (notFace_of_selects (args := #[]) (mvT hZ (hw _ (List.mem_of_getElem? (i := 28) rfl)))) (mvT hZ (hw _ (List.mem_of_getElem? (i := 28) rfl))) (mvT hZ (hw _ (List.mem_of_getElem? (i := 27) rfl))) (by decide) (backOf (W := 0) (rm5 l Z a0 hw [] b15 (1 : Int32) T34.heap n0 Z34 Fz34) hZ (hw _ (List.mem_of_getElem? (i := 29) rfl)) (hw _ (List.mem_of_getElem? (i := 4) rfl)) (by decide) (by decide)) q36a q36c (g := (mkF m 128 #[.val (.int p1), .val (.long q2), .second, .val (.long q3), .second, .val (.long q4), .second, .val (.long q5), .second, .val (.long q6), .second, .val (.ref b2), .val (.int (2 : Int32)), .val (.ref b15), .val (.long q3), .second, .unset, .unset, .unset] [(.ref b15)])) rfl (by rw [hml]; rfl) (Steps.refl _) (argsL := []) (rest := []) (lenOf pd_5 rfl) rfl (by show 2 * 0 + _ ≤ _; exact Nat.le_of_eq rfl) (hb hby at_128) (fun _ _ => ⟨rfl, rfl, (by decide : 3 + 0 ≤ _), (by decide : 11 + 0 ≤ _)⟩)
    dsimp only [Pt.U, Pt.locs, Pt.cells, Pt.slots] at X36 l36 y36 z36 st36 hQ36
    subst l36 y36 z36
    obtain ⟨rfl, N36q, e36⟩ := hQ36
    have N36 := Fr.app N34 N36q
    have G36 : ∀ t, Steps p.tables e below (T36.setTop (mkF m 131 #[.val (.int p1), .val (.long q2), .second, .val (.long q3), .second, .val (.long q4), .second, .val (.long q5), .second, .val (.long q6), .second, .val (.ref b2), .val (.int (2 : Int32)), .val (.ref b15), .val (.long q3), .second, .unset, .unset, .unset] [(.int (1 : Int32))])) t → Steps p.tables e below (s₁.setTop (entryFrame m #[(.int p1), (.long q2), (.long q3), (.long q4), (.long q5), (.long q6)] maxLocals)) t := fun t kt => G35 t (st36.trans kt)
    have G37 : ∀ t, Steps p.tables e below (T36.setTop (mkF m 142 #[.val (.int p1), .val (.long q2), .second, .val (.long q3), .second, .val (.long q4), .second, .val (.long q5), .second, .val (.long q6), .second, .val (.ref b2), .val (.int (2 : Int32)), .val (.ref b15), .val (.long q3), .second, .unset, .unset, .unset] [(.ref b15)])) t → Steps p.tables e below (s₁.setTop (entryFrame m #[(.int p1), (.long q2), (.long q3), (.long q4), (.long q5), (.long q6)] maxLocals)) t := by
      intro t kt
      refine G36 t ?_
      show Steps p.tables e below (T36.setTop (mkF m 131 #[.val (.int p1), .val (.long q2), .second, .val (.long q3), .second, .val (.long q4), .second, .val (.long q5), .second, .val (.long q6), .second, .val (.ref b2), .val (.int (2 : Int32)), .val (.ref b15), .val (.long q3), .second, .unset, .unset, .unset] [(.int (1 : Int32))])) _
      refine XS.iload X36.here hx rfl (hb hby at_131) rfl ?_
      show Steps p.tables e below (T36.setTop (mkF m 133 #[.val (.int p1), .val (.long q2), .second, .val (.long q3), .second, .val (.long q4), .second, .val (.long q5), .second, .val (.long q6), .second, .val (.ref b2), .val (.int (2 : Int32)), .val (.ref b15), .val (.long q3), .second, .unset, .unset, .unset] [(.int (2 : Int32)), (.int (1 : Int32))])) _
      refine XS.iconst X36.here hx rfl (hb hby at_133) ?_
      show Steps p.tables e below (T36.setTop (mkF m 134 #[.val (.int p1), .val (.long q2), .second, .val (.long q3), .second, .val (.long q4), .second, .val (.long q5), .second, .val (.long q6), .second, .val (.ref b2), .val (.int (2 : Int32)), .val (.ref b15), .val (.long q3), .second, .unset, .unset, .unset] [(.int (1 : Int32)), (.int (2 : Int32)), (.int (1 : Int32))])) _
      refine XS.isub X36.here hx rfl (hb hby at_134) rfl ?_
      show Steps p.tables e below (T36.setTop (mkF m 135 #[.val (.int p1), .val (.long q2), .second, .val (.long q3), .second, .val (.long q4), .second, .val (.long q5), .second, .val (.long q6), .second, .val (.ref b2), .val (.int (2 : Int32)), .val (.ref b15), .val (.long q3), .second, .unset, .unset, .unset] [(.int ((2 : Int32) - (1 : Int32))), (.int (1 : Int32))])) _
      refine XS.icmpYes X36.here hx rfl (pc0 := 135) (pc' := 140) rfl (hb hby at_135) rfl (teq (by decide : (1 : Int32) = ((2 : Int32) - (1 : Int32)))).1 (by decide) (by decide) ?_
      show Steps p.tables e below (T36.setTop (mkF m 140 #[.val (.int p1), .val (.long q2), .second, .val (.long q3), .second, .val (.long q4), .second, .val (.long q5), .second, .val (.long q6), .second, .val (.ref b2), .val (.int (2 : Int32)), .val (.ref b15), .val (.long q3), .second, .unset, .unset, .unset] [])) _
      refine XS.aload X36.here hx rfl (hb hby at_140) rfl rfl ?_
      show Steps p.tables e below (T36.setTop (mkF m 142 #[.val (.int p1), .val (.long q2), .second, .val (.long q3), .second, .val (.long q4), .second, .val (.long q5), .second, .val (.long q6), .second, .val (.ref b2), .val (.int (2 : Int32)), .val (.ref b15), .val (.long q3), .second, .unset, .unset, .unset] [(.ref b15)])) _
      exact kt
    obtain ⟨cq38, kq38, q38a, q38b, q38c⟩ := isOf hZ e36 E_b15_34
    obtain ⟨_, _, ⟨T38, L38, k38, n38⟩, -, X38, ⟨Lc38, hQ38, l38, y38, z38⟩, st38⟩ := X36.virtualBack hx (y := (⟨"com/example/queries_over_knowledge/queriesoverknowledge/reasoning/LongList", "toArray", "()[J"⟩ : MethodName)) (z := (⟨"com/example/queries_over_knowledge/queriesoverknowledge/reasoning/LongList", "toArray", "()[J"⟩ : MethodName)) hown (mvT hZ (hw _ (List.mem_of_getElem? (i := 30) rfl))) (mvT hZ (hw _ (List.mem_of_getElem? (i := 31) rfl))) (notFace_of_selects (args := #[]) (mvT hZ (hw _ (List.mem_of_getElem? (i := 33) rfl)))) (mvT hZ (hw _ (List.mem_of_getElem? (i := 33) rfl))) (mvT hZ (hw _ (List.mem_of_getElem? (i := 32) rfl))) (by decide) (backOf (W := 0) (rm6 l Z a0 hw [] b15 r17 kr17 (4 : Int32) (1 : Int32) (1 : Int32) [(.long q2), (.long q3), (.long (0 : Int64)), (.long (0 : Int64))] [(.long q2)] [(.long q2)] T34.heap n0 Z34 Fz34 Fv34 V32_34 (by decide) (by decide) (by decide) (by decide) (by decide) (by decide) (by decide) rfl rfl) hZ (hw _ (List.mem_of_getElem? (i := 34) rfl)) (hw _ (List.mem_of_getElem? (i := 4) rfl)) (by decide) (by decide)) q38a q38c (g := (mkF m 142 #[.val (.int p1), .val (.long q2), .second, .val (.long q3), .second, .val (.long q4), .second, .val (.long q5), .second, .val (.long q6), .second, .val (.ref b2), .val (.int (2 : Int32)), .val (.ref b15), .val (.long q3), .second, .unset, .unset, .unset] [(.ref b15)])) rfl (by rw [hml]; rfl) (Steps.refl _) (argsL := []) (rest := []) (lenOf pd_6 rfl) rfl (by show 2 * 0 + _ ≤ _; exact Nat.le_of_eq rfl) (hb hby at_142) (fun _ _ => ⟨rfl, e36, (by decide : 3 + 1 ≤ _), (by decide : 11 + 8 ≤ _)⟩)
    dsimp only [Pt.U, Pt.locs, Pt.cells, Pt.slots] at X38 l38 y38 z38 st38 hQ38
    subst l38 y38 z38
    obtain ⟨t_38, kt38, rfl, N38q, K38, g_t_38, szq38, V_t_38⟩ := hQ38
    have N38 := Fr.app N36 N38q
    have ne_b2_t_38 : b2 ≠ t_38 := Nat.ne_of_lt (Nat.lt_of_lt_of_le V_b2_12_34.lt szq38)
    have ne_b15_t_38 : b15 ≠ t_38 := Nat.ne_of_lt (Nat.lt_of_lt_of_le E_b15_34.lt szq38)
    have ne_r17_t_38 : r17 ≠ t_38 := Nat.ne_of_lt (Nat.lt_of_lt_of_le V32_34.lt szq38)
    have V_b2_12_38 : Arv Z T38.heap b2 k2 .long (5 : Int32) [(.long q2), (.long q3), (.long q4), (.long q5), (.long q6)] (.long (0 : Int64)) := V_b2_12_34.keep K38 nin0
    have E_b15_38 : Exa Z T38.heap b15 "com/example/queries_over_knowledge/queriesoverknowledge/reasoning/LongList" := E_b15_34.keep K38
    have V32_38 : Arv Z T38.heap r17 kr17 .long (4 : Int32) [(.long q2), (.long q3), (.long (0 : Int64)), (.long (0 : Int64))] (.long (0 : Int64)) := V32_34.keep K38 nin0
    have Fz34_38 : Fld Z T38.heap b15 "com/example/queries_over_knowledge/queriesoverknowledge/reasoning/LongList" "size" "I" (.int (1 : Int32)) := Fz34.keep K38 nin0
    have Fv34_38 : Fld Z T38.heap b15 "com/example/queries_over_knowledge/queriesoverknowledge/reasoning/LongList" "values" "[J" (.ref r17) := Fv34.keep K38 nin0
    have Z38 : n0 ≤ T38.heap.size := Nat.le_trans Z34 K38.1
    have G38 : ∀ t, Steps p.tables e below (T38.setTop (mkF m 145 #[.val (.int p1), .val (.long q2), .second, .val (.long q3), .second, .val (.long q4), .second, .val (.long q5), .second, .val (.long q6), .second, .val (.ref b2), .val (.int (2 : Int32)), .val (.ref b15), .val (.long q3), .second, .unset, .unset, .unset] [(.ref t_38)])) t → Steps p.tables e below (s₁.setTop (entryFrame m #[(.int p1), (.long q2), (.long q3), (.long q4), (.long q5), (.long q6)] maxLocals)) t := fun t kt => G37 t (st38.trans kt)
    obtain ⟨cl_t1, Ar_t1, qq_t1, SS_t1, MM_t1, HH_t1, UU_t1⟩ := id V_t_38
    have hin_t1_170 := inb_of SS_t1 (j := (0 : Int32)) (by decide)
    have hat_t1_170 : cl_t1.slots[((0 : Int32)).toNatClampNeg]? = some (.long q2) := HH_t1.at hin_t1_170 rfl
    have G39 : ∀ t, Steps p.tables e below (T38.setTop (mkF m 245 #[.val (.int p1), .val (.long q2), .second, .val (.long q3), .second, .val (.long q4), .second, .val (.long q5), .second, .val (.long q6), .second, .val (.ref b2), .val (.int (2 : Int32)), .val (.ref b15), .val (.long q3), .second, .val (.ref t_38), .unset, .unset] [(.ref b15)])) t → Steps p.tables e below (s₁.setTop (entryFrame m #[(.int p1), (.long q2), (.long q3), (.long q4), (.long q5), (.long q6)] maxLocals)) t := by
      intro t kt
      refine G38 t ?_
      show Steps p.tables e below (T38.setTop (mkF m 145 #[.val (.int p1), .val (.long q2), .second, .val (.long q3), .second, .val (.long q4), .second, .val (.long q5), .second, .val (.long q6), .second, .val (.ref b2), .val (.int (2 : Int32)), .val (.ref b15), .val (.long q3), .second, .unset, .unset, .unset] [(.ref t_38)])) _
      refine XS.astore X38.here hx rfl (hb hby at_145) rfl rfl (l' := #[.val (.int p1), .val (.long q2), .second, .val (.long q3), .second, .val (.long q4), .second, .val (.long q5), .second, .val (.long q6), .second, .val (.ref b2), .val (.int (2 : Int32)), .val (.ref b15), .val (.long q3), .second, .val (.ref t_38), .unset, .unset]) rfl ?_
      show Steps p.tables e below (T38.setTop (mkF m 147 #[.val (.int p1), .val (.long q2), .second, .val (.long q3), .second, .val (.long q4), .second, .val (.long q5), .second, .val (.long q6), .second, .val (.ref b2), .val (.int (2 : Int32)), .val (.ref b15), .val (.long q3), .second, .val (.ref t_38), .unset, .unset] [])) _
      refine XS.aload X38.here hx rfl (hb hby at_147) rfl rfl ?_
      show Steps p.tables e below (T38.setTop (mkF m 149 #[.val (.int p1), .val (.long q2), .second, .val (.long q3), .second, .val (.long q4), .second, .val (.long q5), .second, .val (.long q6), .second, .val (.ref b2), .val (.int (2 : Int32)), .val (.ref b15), .val (.long q3), .second, .val (.ref t_38), .unset, .unset] [(.ref t_38)])) _
      refine X38.arraylength hx (cell := cl_t1) Ar_t1.1 (State.isArrayOf_alike hZ.alike Ar_t1.2.1) (g := (mkF m 149 #[.val (.int p1), .val (.long q2), .second, .val (.long q3), .second, .val (.long q4), .second, .val (.long q5), .second, .val (.long q6), .second, .val (.ref b2), .val (.int (2 : Int32)), .val (.ref b15), .val (.long q3), .second, .val (.ref t_38), .unset, .unset] [(.ref t_38)])) rfl rfl (hb hby at_149) _ ?_
      rw [len_of SS_t1 MM_t1]
      show Steps p.tables e below (T38.setTop (mkF m 150 #[.val (.int p1), .val (.long q2), .second, .val (.long q3), .second, .val (.long q4), .second, .val (.long q5), .second, .val (.long q6), .second, .val (.ref b2), .val (.int (2 : Int32)), .val (.ref b15), .val (.long q3), .second, .val (.ref t_38), .unset, .unset] [(.int (1 : Int32))])) _
      refine XS.iload X38.here hx rfl (hb hby at_150) rfl ?_
      show Steps p.tables e below (T38.setTop (mkF m 152 #[.val (.int p1), .val (.long q2), .second, .val (.long q3), .second, .val (.long q4), .second, .val (.long q5), .second, .val (.long q6), .second, .val (.ref b2), .val (.int (2 : Int32)), .val (.ref b15), .val (.long q3), .second, .val (.ref t_38), .unset, .unset] [(.int (2 : Int32)), (.int (1 : Int32))])) _
      refine XS.iconst X38.here hx rfl (hb hby at_152) ?_
      show Steps p.tables e below (T38.setTop (mkF m 153 #[.val (.int p1), .val (.long q2), .second, .val (.long q3), .second, .val (.long q4), .second, .val (.long q5), .second, .val (.long q6), .second, .val (.ref b2), .val (.int (2 : Int32)), .val (.ref b15), .val (.long q3), .second, .val (.ref t_38), .unset, .unset] [(.int (1 : Int32)), (.int (2 : Int32)), (.int (1 : Int32))])) _
      refine XS.isub X38.here hx rfl (hb hby at_153) rfl ?_
      show Steps p.tables e below (T38.setTop (mkF m 154 #[.val (.int p1), .val (.long q2), .second, .val (.long q3), .second, .val (.long q4), .second, .val (.long q5), .second, .val (.long q6), .second, .val (.ref b2), .val (.int (2 : Int32)), .val (.ref b15), .val (.long q3), .second, .val (.ref t_38), .unset, .unset] [(.int ((2 : Int32) - (1 : Int32))), (.int (1 : Int32))])) _
      refine XS.icmpYes X38.here hx rfl (pc0 := 154) (pc' := 159) rfl (hb hby at_154) rfl (teq (by decide : (1 : Int32) = ((2 : Int32) - (1 : Int32)))).1 (by decide) (by decide) ?_
      show Steps p.tables e below (T38.setTop (mkF m 159 #[.val (.int p1), .val (.long q2), .second, .val (.long q3), .second, .val (.long q4), .second, .val (.long q5), .second, .val (.long q6), .second, .val (.ref b2), .val (.int (2 : Int32)), .val (.ref b15), .val (.long q3), .second, .val (.ref t_38), .unset, .unset] [])) _
      refine XS.iload X38.here hx rfl (hb hby at_159) rfl ?_
      show Steps p.tables e below (T38.setTop (mkF m 161 #[.val (.int p1), .val (.long q2), .second, .val (.long q3), .second, .val (.long q4), .second, .val (.long q5), .second, .val (.long q6), .second, .val (.ref b2), .val (.int (2 : Int32)), .val (.ref b15), .val (.long q3), .second, .val (.ref t_38), .unset, .unset] [(.int (2 : Int32))])) _
      refine XS.iconst X38.here hx rfl (hb hby at_161) ?_
      show Steps p.tables e below (T38.setTop (mkF m 162 #[.val (.int p1), .val (.long q2), .second, .val (.long q3), .second, .val (.long q4), .second, .val (.long q5), .second, .val (.long q6), .second, .val (.ref b2), .val (.int (2 : Int32)), .val (.ref b15), .val (.long q3), .second, .val (.ref t_38), .unset, .unset] [(.int (1 : Int32)), (.int (2 : Int32))])) _
      refine XS.isub X38.here hx rfl (hb hby at_162) rfl ?_
      show Steps p.tables e below (T38.setTop (mkF m 163 #[.val (.int p1), .val (.long q2), .second, .val (.long q3), .second, .val (.long q4), .second, .val (.long q5), .second, .val (.long q6), .second, .val (.ref b2), .val (.int (2 : Int32)), .val (.ref b15), .val (.long q3), .second, .val (.ref t_38), .unset, .unset] [(.int ((2 : Int32) - (1 : Int32)))])) _
      refine XS.iconst X38.here hx rfl (hb hby at_163) ?_
      show Steps p.tables e below (T38.setTop (mkF m 164 #[.val (.int p1), .val (.long q2), .second, .val (.long q3), .second, .val (.long q4), .second, .val (.long q5), .second, .val (.long q6), .second, .val (.ref b2), .val (.int (2 : Int32)), .val (.ref b15), .val (.long q3), .second, .val (.ref t_38), .unset, .unset] [(.int (1 : Int32)), (.int ((2 : Int32) - (1 : Int32)))])) _
      refine XS.icmpNo X38.here hx rfl (hb hby at_164) rfl (flt (by decide : ¬ (((2 : Int32) - (1 : Int32)) < (1 : Int32)))).1 ?_
      show Steps p.tables e below (T38.setTop (mkF m 167 #[.val (.int p1), .val (.long q2), .second, .val (.long q3), .second, .val (.long q4), .second, .val (.long q5), .second, .val (.long q6), .second, .val (.ref b2), .val (.int (2 : Int32)), .val (.ref b15), .val (.long q3), .second, .val (.ref t_38), .unset, .unset] [])) _
      refine XS.aload X38.here hx rfl (hb hby at_167) rfl rfl ?_
      show Steps p.tables e below (T38.setTop (mkF m 169 #[.val (.int p1), .val (.long q2), .second, .val (.long q3), .second, .val (.long q4), .second, .val (.long q5), .second, .val (.long q6), .second, .val (.ref b2), .val (.int (2 : Int32)), .val (.ref b15), .val (.long q3), .second, .val (.ref t_38), .unset, .unset] [(.ref t_38)])) _
      refine XS.iconst X38.here hx rfl (hb hby at_169) ?_
      show Steps p.tables e below (T38.setTop (mkF m 170 #[.val (.int p1), .val (.long q2), .second, .val (.long q3), .second, .val (.long q4), .second, .val (.long q5), .second, .val (.long q6), .second, .val (.ref b2), .val (.int (2 : Int32)), .val (.ref b15), .val (.long q3), .second, .val (.ref t_38), .unset, .unset] [(.int (0 : Int32)), (.ref t_38)])) _
      refine X38.laload hx (j := (0 : Int32)) (v := (.long q2)) Ar_t1.1 (State.isArrayOf_alike hZ.alike Ar_t1.2.1) Ar_t1.2.2 hin_t1_170 hat_t1_170 (g := (mkF m 170 #[.val (.int p1), .val (.long q2), .second, .val (.long q3), .second, .val (.long q4), .second, .val (.long q5), .second, .val (.long q6), .second, .val (.ref b2), .val (.int (2 : Int32)), .val (.ref b15), .val (.long q3), .second, .val (.ref t_38), .unset, .unset] [(.int (0 : Int32)), (.ref t_38)])) rfl rfl (hb hby at_170) _ ?_
      show Steps p.tables e below (T38.setTop (mkF m 171 #[.val (.int p1), .val (.long q2), .second, .val (.long q3), .second, .val (.long q4), .second, .val (.long q5), .second, .val (.long q6), .second, .val (.ref b2), .val (.int (2 : Int32)), .val (.ref b15), .val (.long q3), .second, .val (.ref t_38), .unset, .unset] [(.long q2)])) _
      refine XS.lloadN X38.here hx rfl (hb hby at_171) rfl ?_
      show Steps p.tables e below (T38.setTop (mkF m 172 #[.val (.int p1), .val (.long q2), .second, .val (.long q3), .second, .val (.long q4), .second, .val (.long q5), .second, .val (.long q6), .second, .val (.ref b2), .val (.int (2 : Int32)), .val (.ref b15), .val (.long q3), .second, .val (.ref t_38), .unset, .unset] [(.long q2), (.long q2)])) _
      refine XS.lcmp X38.here hx rfl (hb hby at_172) rfl ?_
      show Steps p.tables e below (T38.setTop (mkF m 173 #[.val (.int p1), .val (.long q2), .second, .val (.long q3), .second, .val (.long q4), .second, .val (.long q5), .second, .val (.long q6), .second, .val (.ref b2), .val (.int (2 : Int32)), .val (.ref b15), .val (.long q3), .second, .val (.ref t_38), .unset, .unset] [(.int (lcmpW q2 q2))])) _
      refine XS.ifYes X38.here hx rfl (pc0 := 173) (pc' := 178) rfl (hb hby at_173) rfl ((if0 _ _).trans (teq ((lw_eq _ _).mpr rfl)).1) (by decide) (by decide) ?_
      show Steps p.tables e below (T38.setTop (mkF m 178 #[.val (.int p1), .val (.long q2), .second, .val (.long q3), .second, .val (.long q4), .second, .val (.long q5), .second, .val (.long q6), .second, .val (.ref b2), .val (.int (2 : Int32)), .val (.ref b15), .val (.long q3), .second, .val (.ref t_38), .unset, .unset] [])) _
      refine XS.iload X38.here hx rfl (hb hby at_178) rfl ?_
      show Steps p.tables e below (T38.setTop (mkF m 180 #[.val (.int p1), .val (.long q2), .second, .val (.long q3), .second, .val (.long q4), .second, .val (.long q5), .second, .val (.long q6), .second, .val (.ref b2), .val (.int (2 : Int32)), .val (.ref b15), .val (.long q3), .second, .val (.ref t_38), .unset, .unset] [(.int (2 : Int32))])) _
      refine XS.iconst X38.here hx rfl (hb hby at_180) ?_
      show Steps p.tables e below (T38.setTop (mkF m 181 #[.val (.int p1), .val (.long q2), .second, .val (.long q3), .second, .val (.long q4), .second, .val (.long q5), .second, .val (.long q6), .second, .val (.ref b2), .val (.int (2 : Int32)), .val (.ref b15), .val (.long q3), .second, .val (.ref t_38), .unset, .unset] [(.int (1 : Int32)), (.int (2 : Int32))])) _
      refine XS.isub X38.here hx rfl (hb hby at_181) rfl ?_
      show Steps p.tables e below (T38.setTop (mkF m 182 #[.val (.int p1), .val (.long q2), .second, .val (.long q3), .second, .val (.long q4), .second, .val (.long q5), .second, .val (.long q6), .second, .val (.ref b2), .val (.int (2 : Int32)), .val (.ref b15), .val (.long q3), .second, .val (.ref t_38), .unset, .unset] [(.int ((2 : Int32) - (1 : Int32)))])) _
      refine XS.iconst X38.here hx rfl (hb hby at_182) ?_
      show Steps p.tables e below (T38.setTop (mkF m 183 #[.val (.int p1), .val (.long q2), .second, .val (.long q3), .second, .val (.long q4), .second, .val (.long q5), .second, .val (.long q6), .second, .val (.ref b2), .val (.int (2 : Int32)), .val (.ref b15), .val (.long q3), .second, .val (.ref t_38), .unset, .unset] [(.int (2 : Int32)), (.int ((2 : Int32) - (1 : Int32)))])) _
      refine XS.icmpYes X38.here hx rfl (pc0 := 183) (pc' := 197) rfl (hb hby at_183) rfl (tlt (by decide : ((2 : Int32) - (1 : Int32)) < (2 : Int32))).1 (by decide) (by decide) ?_
      show Steps p.tables e below (T38.setTop (mkF m 197 #[.val (.int p1), .val (.long q2), .second, .val (.long q3), .second, .val (.long q4), .second, .val (.long q5), .second, .val (.long q6), .second, .val (.ref b2), .val (.int (2 : Int32)), .val (.ref b15), .val (.long q3), .second, .val (.ref t_38), .unset, .unset] [])) _
      refine XS.iload X38.here hx rfl (hb hby at_197) rfl ?_
      show Steps p.tables e below (T38.setTop (mkF m 199 #[.val (.int p1), .val (.long q2), .second, .val (.long q3), .second, .val (.long q4), .second, .val (.long q5), .second, .val (.long q6), .second, .val (.ref b2), .val (.int (2 : Int32)), .val (.ref b15), .val (.long q3), .second, .val (.ref t_38), .unset, .unset] [(.int (2 : Int32))])) _
      refine XS.iconst X38.here hx rfl (hb hby at_199) ?_
      show Steps p.tables e below (T38.setTop (mkF m 200 #[.val (.int p1), .val (.long q2), .second, .val (.long q3), .second, .val (.long q4), .second, .val (.long q5), .second, .val (.long q6), .second, .val (.ref b2), .val (.int (2 : Int32)), .val (.ref b15), .val (.long q3), .second, .val (.ref t_38), .unset, .unset] [(.int (1 : Int32)), (.int (2 : Int32))])) _
      refine XS.isub X38.here hx rfl (hb hby at_200) rfl ?_
      show Steps p.tables e below (T38.setTop (mkF m 201 #[.val (.int p1), .val (.long q2), .second, .val (.long q3), .second, .val (.long q4), .second, .val (.long q5), .second, .val (.long q6), .second, .val (.ref b2), .val (.int (2 : Int32)), .val (.ref b15), .val (.long q3), .second, .val (.ref t_38), .unset, .unset] [(.int ((2 : Int32) - (1 : Int32)))])) _
      refine XS.iconst X38.here hx rfl (hb hby at_201) ?_
      show Steps p.tables e below (T38.setTop (mkF m 202 #[.val (.int p1), .val (.long q2), .second, .val (.long q3), .second, .val (.long q4), .second, .val (.long q5), .second, .val (.long q6), .second, .val (.ref b2), .val (.int (2 : Int32)), .val (.ref b15), .val (.long q3), .second, .val (.ref t_38), .unset, .unset] [(.int (3 : Int32)), (.int ((2 : Int32) - (1 : Int32)))])) _
      refine XS.icmpYes X38.here hx rfl (pc0 := 202) (pc' := 217) rfl (hb hby at_202) rfl (tlt (by decide : ((2 : Int32) - (1 : Int32)) < (3 : Int32))).1 (by decide) (by decide) ?_
      show Steps p.tables e below (T38.setTop (mkF m 217 #[.val (.int p1), .val (.long q2), .second, .val (.long q3), .second, .val (.long q4), .second, .val (.long q5), .second, .val (.long q6), .second, .val (.ref b2), .val (.int (2 : Int32)), .val (.ref b15), .val (.long q3), .second, .val (.ref t_38), .unset, .unset] [])) _
      refine XS.iload X38.here hx rfl (hb hby at_217) rfl ?_
      show Steps p.tables e below (T38.setTop (mkF m 219 #[.val (.int p1), .val (.long q2), .second, .val (.long q3), .second, .val (.long q4), .second, .val (.long q5), .second, .val (.long q6), .second, .val (.ref b2), .val (.int (2 : Int32)), .val (.ref b15), .val (.long q3), .second, .val (.ref t_38), .unset, .unset] [(.int (2 : Int32))])) _
      refine XS.iconst X38.here hx rfl (hb hby at_219) ?_
      show Steps p.tables e below (T38.setTop (mkF m 220 #[.val (.int p1), .val (.long q2), .second, .val (.long q3), .second, .val (.long q4), .second, .val (.long q5), .second, .val (.long q6), .second, .val (.ref b2), .val (.int (2 : Int32)), .val (.ref b15), .val (.long q3), .second, .val (.ref t_38), .unset, .unset] [(.int (1 : Int32)), (.int (2 : Int32))])) _
      refine XS.isub X38.here hx rfl (hb hby at_220) rfl ?_
      show Steps p.tables e below (T38.setTop (mkF m 221 #[.val (.int p1), .val (.long q2), .second, .val (.long q3), .second, .val (.long q4), .second, .val (.long q5), .second, .val (.long q6), .second, .val (.ref b2), .val (.int (2 : Int32)), .val (.ref b15), .val (.long q3), .second, .val (.ref t_38), .unset, .unset] [(.int ((2 : Int32) - (1 : Int32)))])) _
      refine XS.iconst X38.here hx rfl (hb hby at_221) ?_
      show Steps p.tables e below (T38.setTop (mkF m 222 #[.val (.int p1), .val (.long q2), .second, .val (.long q3), .second, .val (.long q4), .second, .val (.long q5), .second, .val (.long q6), .second, .val (.ref b2), .val (.int (2 : Int32)), .val (.ref b15), .val (.long q3), .second, .val (.ref t_38), .unset, .unset] [(.int (4 : Int32)), (.int ((2 : Int32) - (1 : Int32)))])) _
      refine XS.icmpYes X38.here hx rfl (pc0 := 222) (pc' := 237) rfl (hb hby at_222) rfl (tlt (by decide : ((2 : Int32) - (1 : Int32)) < (4 : Int32))).1 (by decide) (by decide) ?_
      show Steps p.tables e below (T38.setTop (mkF m 237 #[.val (.int p1), .val (.long q2), .second, .val (.long q3), .second, .val (.long q4), .second, .val (.long q5), .second, .val (.long q6), .second, .val (.ref b2), .val (.int (2 : Int32)), .val (.ref b15), .val (.long q3), .second, .val (.ref t_38), .unset, .unset] [])) _
      refine XS.iload X38.here hx rfl (hb hby at_237) rfl ?_
      show Steps p.tables e below (T38.setTop (mkF m 239 #[.val (.int p1), .val (.long q2), .second, .val (.long q3), .second, .val (.long q4), .second, .val (.long q5), .second, .val (.long q6), .second, .val (.ref b2), .val (.int (2 : Int32)), .val (.ref b15), .val (.long q3), .second, .val (.ref t_38), .unset, .unset] [(.int (2 : Int32))])) _
      refine XS.iconst X38.here hx rfl (hb hby at_239) ?_
      show Steps p.tables e below (T38.setTop (mkF m 240 #[.val (.int p1), .val (.long q2), .second, .val (.long q3), .second, .val (.long q4), .second, .val (.long q5), .second, .val (.long q6), .second, .val (.ref b2), .val (.int (2 : Int32)), .val (.ref b15), .val (.long q3), .second, .val (.ref t_38), .unset, .unset] [(.int (2 : Int32)), (.int (2 : Int32))])) _
      refine XS.icmpNo X38.here hx rfl (hb hby at_240) rfl (flt (by decide : ¬ ((2 : Int32) < (2 : Int32)))).1 ?_
      show Steps p.tables e below (T38.setTop (mkF m 243 #[.val (.int p1), .val (.long q2), .second, .val (.long q3), .second, .val (.long q4), .second, .val (.long q5), .second, .val (.long q6), .second, .val (.ref b2), .val (.int (2 : Int32)), .val (.ref b15), .val (.long q3), .second, .val (.ref t_38), .unset, .unset] [])) _
      refine XS.aload X38.here hx rfl (hb hby at_243) rfl rfl ?_
      show Steps p.tables e below (T38.setTop (mkF m 245 #[.val (.int p1), .val (.long q2), .second, .val (.long q3), .second, .val (.long q4), .second, .val (.long q5), .second, .val (.long q6), .second, .val (.ref b2), .val (.int (2 : Int32)), .val (.ref b15), .val (.long q3), .second, .val (.ref t_38), .unset, .unset] [(.ref b15)])) _
      exact kt
    obtain ⟨cq40, kq40, q40a, q40b, q40c⟩ := isOf hZ rfl E_b15_38
    obtain ⟨_, _, ⟨T40, L40, k40, n40⟩, -, X40, ⟨Lc40, hQ40, l40, y40, z40⟩, st40⟩ := X38.virtualBack hx (y := (⟨"com/example/queries_over_knowledge/queriesoverknowledge/reasoning/LongList", "removeLast", "()J"⟩ : MethodName)) (z := (⟨"com/example/queries_over_knowledge/queriesoverknowledge/reasoning/LongList", "removeLast", "()J"⟩ : MethodName)) hown (mvT hZ (hw _ (List.mem_of_getElem? (i := 20) rfl))) (mvT hZ (hw _ (List.mem_of_getElem? (i := 21) rfl))) (notFace_of_selects (args := #[]) (mvT hZ (hw _ (List.mem_of_getElem? (i := 23) rfl)))) (mvT hZ (hw _ (List.mem_of_getElem? (i := 23) rfl))) (mvT hZ (hw _ (List.mem_of_getElem? (i := 22) rfl))) (by decide) (backOf (W := 0) (rm4 l Z a0 hw [] b15 r17 kr17 (4 : Int32) (1 : Int32) (0 : Int32) [(.long q2), (.long q3), (.long (0 : Int64)), (.long (0 : Int64))] q2 T38.heap n0 Z38 E_b15_38 Fz34_38 Fv34_38 V32_38 (by decide) (by decide) rfl g_b15 ne_b15_r17) hZ (hw _ (List.mem_of_getElem? (i := 24) rfl)) (hw _ (List.mem_of_getElem? (i := 4) rfl)) (by decide) (by decide)) q40a q40c (g := (mkF m 245 #[.val (.int p1), .val (.long q2), .second, .val (.long q3), .second, .val (.long q4), .second, .val (.long q5), .second, .val (.long q6), .second, .val (.ref b2), .val (.int (2 : Int32)), .val (.ref b15), .val (.long q3), .second, .val (.ref t_38), .unset, .unset] [(.ref b15)])) rfl (by rw [hml]; rfl) (Steps.refl _) (argsL := []) (rest := []) (lenOf pd_4 rfl) rfl (by show 2 * 0 + _ ≤ _; exact Nat.le_of_eq rfl) (hb hby at_245) (fun _ _ => ⟨rfl, rfl, (by decide : 4 + 0 ≤ _), (by decide : 19 + 0 ≤ _)⟩)
    dsimp only [Pt.U, Pt.locs, Pt.cells, Pt.slots] at X40 l40 y40 z40 st40 hQ40
    subst l40 y40 z40
    obtain ⟨rfl, N40q, K40, Eq40, Fz40, Fv40⟩ := hQ40
    have N40 := Fr.app N38 N40q
    have V_b2_12_40 : Arv Z T40.heap b2 k2 .long (5 : Int32) [(.long q2), (.long q3), (.long q4), (.long q5), (.long q6)] (.long (0 : Int64)) := V_b2_12_38.keep K40 (ninS ne_b2_b15 nin0)
    have E_b15_40 : Exa Z T40.heap b15 "com/example/queries_over_knowledge/queriesoverknowledge/reasoning/LongList" := E_b15_38.keep K40
    have V32_40 : Arv Z T40.heap r17 kr17 .long (4 : Int32) [(.long q2), (.long q3), (.long (0 : Int64)), (.long (0 : Int64))] (.long (0 : Int64)) := V32_38.keep K40 (ninS (Ne.symm ne_b15_r17) nin0)
    have V_t_38_40 : Arv Z T40.heap t_38 kt38 .long (1 : Int32) [(.long q2)] (.long (0 : Int64)) := V_t_38.keep K40 (ninS (Ne.symm ne_b15_t_38) nin0)
    have Z40 : n0 ≤ T40.heap.size := Nat.le_trans Z38 K40.1
    have G40 : ∀ t, Steps p.tables e below (T40.setTop (mkF m 248 #[.val (.int p1), .val (.long q2), .second, .val (.long q3), .second, .val (.long q4), .second, .val (.long q5), .second, .val (.long q6), .second, .val (.ref b2), .val (.int (2 : Int32)), .val (.ref b15), .val (.long q3), .second, .val (.ref t_38), .unset, .unset] [(.long q2)])) t → Steps p.tables e below (s₁.setTop (entryFrame m #[(.int p1), (.long q2), (.long q3), (.long q4), (.long q5), (.long q6)] maxLocals)) t := fun t kt => G39 t (st40.trans kt)
    obtain ⟨cl_v2, Ar_v2, qq_v2, SS_v2, MM_v2, HH_v2, UU_v2⟩ := id V_b2_12_40
    have hin_v2_258 := inb_of SS_v2 (j := ((2 : Int32) - (2 : Int32))) (by decide)
    have hat_v2_258 : cl_v2.slots[(((2 : Int32) - (2 : Int32))).toNatClampNeg]? = some (.long q2) := HH_v2.at hin_v2_258 rfl
    have G41 : ∀ t, Steps p.tables e below (T40.setTop (mkF m 266 #[.val (.int p1), .val (.long q2), .second, .val (.long q3), .second, .val (.long q4), .second, .val (.long q5), .second, .val (.long q6), .second, .val (.ref b2), .val (.int (2 : Int32)), .val (.ref b15), .val (.long q3), .second, .val (.ref t_38), .val (.long q2), .second] [(.int (1 : Int32))])) t → Steps p.tables e below (s₁.setTop (entryFrame m #[(.int p1), (.long q2), (.long q3), (.long q4), (.long q5), (.long q6)] maxLocals)) t := by
      intro t kt
      refine G40 t ?_
      show Steps p.tables e below (T40.setTop (mkF m 248 #[.val (.int p1), .val (.long q2), .second, .val (.long q3), .second, .val (.long q4), .second, .val (.long q5), .second, .val (.long q6), .second, .val (.ref b2), .val (.int (2 : Int32)), .val (.ref b15), .val (.long q3), .second, .val (.ref t_38), .unset, .unset] [(.long q2)])) _
      refine XS.lstore X40.here hx rfl (hb hby at_248) rfl (l' := #[.val (.int p1), .val (.long q2), .second, .val (.long q3), .second, .val (.long q4), .second, .val (.long q5), .second, .val (.long q6), .second, .val (.ref b2), .val (.int (2 : Int32)), .val (.ref b15), .val (.long q3), .second, .val (.ref t_38), .val (.long q2), .second]) rfl ?_
      show Steps p.tables e below (T40.setTop (mkF m 250 #[.val (.int p1), .val (.long q2), .second, .val (.long q3), .second, .val (.long q4), .second, .val (.long q5), .second, .val (.long q6), .second, .val (.ref b2), .val (.int (2 : Int32)), .val (.ref b15), .val (.long q3), .second, .val (.ref t_38), .val (.long q2), .second] [])) _
      refine XS.lload X40.here hx rfl (hb hby at_250) rfl ?_
      show Steps p.tables e below (T40.setTop (mkF m 252 #[.val (.int p1), .val (.long q2), .second, .val (.long q3), .second, .val (.long q4), .second, .val (.long q5), .second, .val (.long q6), .second, .val (.ref b2), .val (.int (2 : Int32)), .val (.ref b15), .val (.long q3), .second, .val (.ref t_38), .val (.long q2), .second] [(.long q2)])) _
      refine XS.aload X40.here hx rfl (hb hby at_252) rfl rfl ?_
      show Steps p.tables e below (T40.setTop (mkF m 254 #[.val (.int p1), .val (.long q2), .second, .val (.long q3), .second, .val (.long q4), .second, .val (.long q5), .second, .val (.long q6), .second, .val (.ref b2), .val (.int (2 : Int32)), .val (.ref b15), .val (.long q3), .second, .val (.ref t_38), .val (.long q2), .second] [(.ref b2), (.long q2)])) _
      refine XS.iload X40.here hx rfl (hb hby at_254) rfl ?_
      show Steps p.tables e below (T40.setTop (mkF m 256 #[.val (.int p1), .val (.long q2), .second, .val (.long q3), .second, .val (.long q4), .second, .val (.long q5), .second, .val (.long q6), .second, .val (.ref b2), .val (.int (2 : Int32)), .val (.ref b15), .val (.long q3), .second, .val (.ref t_38), .val (.long q2), .second] [(.int (2 : Int32)), (.ref b2), (.long q2)])) _
      refine XS.iconst X40.here hx rfl (hb hby at_256) ?_
      show Steps p.tables e below (T40.setTop (mkF m 257 #[.val (.int p1), .val (.long q2), .second, .val (.long q3), .second, .val (.long q4), .second, .val (.long q5), .second, .val (.long q6), .second, .val (.ref b2), .val (.int (2 : Int32)), .val (.ref b15), .val (.long q3), .second, .val (.ref t_38), .val (.long q2), .second] [(.int (2 : Int32)), (.int (2 : Int32)), (.ref b2), (.long q2)])) _
      refine XS.isub X40.here hx rfl (hb hby at_257) rfl ?_
      show Steps p.tables e below (T40.setTop (mkF m 258 #[.val (.int p1), .val (.long q2), .second, .val (.long q3), .second, .val (.long q4), .second, .val (.long q5), .second, .val (.long q6), .second, .val (.ref b2), .val (.int (2 : Int32)), .val (.ref b15), .val (.long q3), .second, .val (.ref t_38), .val (.long q2), .second] [(.int ((2 : Int32) - (2 : Int32))), (.ref b2), (.long q2)])) _
      refine X40.laload hx (j := ((2 : Int32) - (2 : Int32))) (v := (.long q2)) Ar_v2.1 (State.isArrayOf_alike hZ.alike Ar_v2.2.1) Ar_v2.2.2 hin_v2_258 hat_v2_258 (g := (mkF m 258 #[.val (.int p1), .val (.long q2), .second, .val (.long q3), .second, .val (.long q4), .second, .val (.long q5), .second, .val (.long q6), .second, .val (.ref b2), .val (.int (2 : Int32)), .val (.ref b15), .val (.long q3), .second, .val (.ref t_38), .val (.long q2), .second] [(.int ((2 : Int32) - (2 : Int32))), (.ref b2), (.long q2)])) rfl rfl (hb hby at_258) _ ?_
      show Steps p.tables e below (T40.setTop (mkF m 259 #[.val (.int p1), .val (.long q2), .second, .val (.long q3), .second, .val (.long q4), .second, .val (.long q5), .second, .val (.long q6), .second, .val (.ref b2), .val (.int (2 : Int32)), .val (.ref b15), .val (.long q3), .second, .val (.ref t_38), .val (.long q2), .second] [(.long q2), (.long q2)])) _
      refine XS.lcmp X40.here hx rfl (hb hby at_259) rfl ?_
      show Steps p.tables e below (T40.setTop (mkF m 260 #[.val (.int p1), .val (.long q2), .second, .val (.long q3), .second, .val (.long q4), .second, .val (.long q5), .second, .val (.long q6), .second, .val (.ref b2), .val (.int (2 : Int32)), .val (.ref b15), .val (.long q3), .second, .val (.ref t_38), .val (.long q2), .second] [(.int (lcmpW q2 q2))])) _
      refine XS.ifYes X40.here hx rfl (pc0 := 260) (pc' := 265) rfl (hb hby at_260) rfl ((if0 _ _).trans (teq ((lw_eq _ _).mpr rfl)).1) (by decide) (by decide) ?_
      show Steps p.tables e below (T40.setTop (mkF m 265 #[.val (.int p1), .val (.long q2), .second, .val (.long q3), .second, .val (.long q4), .second, .val (.long q5), .second, .val (.long q6), .second, .val (.ref b2), .val (.int (2 : Int32)), .val (.ref b15), .val (.long q3), .second, .val (.ref t_38), .val (.long q2), .second] [])) _
      refine XS.iconst X40.here hx rfl (hb hby at_265) ?_
      show Steps p.tables e below (T40.setTop (mkF m 266 #[.val (.int p1), .val (.long q2), .second, .val (.long q3), .second, .val (.long q4), .second, .val (.long q5), .second, .val (.long q6), .second, .val (.ref b2), .val (.int (2 : Int32)), .val (.ref b15), .val (.long q3), .second, .val (.ref t_38), .val (.long q2), .second] [(.int (1 : Int32))])) _
      exact kt
    obtain ⟨fs, hr, hrun, hended, hW, hsame⟩ := X40.leave (v := some (.int (1 : Int32))) (fun h => by rw [Bd.returns] at h; cases h)
    refine ⟨_, _, G41 _ ?_, hrun, hended, _, _, rfl, ?_, ⟨_, rfl⟩, hW, hsame.mono (by decide) (by decide)⟩
    · show Steps p.tables e below (T40.setTop (mkF m 266 #[.val (.int p1), .val (.long q2), .second, .val (.long q3), .second, .val (.long q4), .second, .val (.long q5), .second, .val (.long q6), .second, .val (.ref b2), .val (.int (2 : Int32)), .val (.ref b15), .val (.long q3), .second, .val (.ref t_38), .val (.long q2), .second] [(.int (1 : Int32))])) _
      exact retN X40 hx (t := .boolean) Bd.returns (by simp) (hb hby at_266) hr
    · show Q0 Z p1 q2 q3 q4 q5 q6 h0 n0 _ T40.heap _
      exact ⟨rfl, N40⟩
  · clear hK
    have G42 : ∀ t, Steps p.tables e below (T17.setTop (mkF m 45 #[.val (.int p1), .val (.long q2), .second, .val (.long q3), .second, .val (.long q4), .second, .val (.long q5), .second, .val (.long q6), .second, .val (.ref b2), .val (.int (3 : Int32)), .unset, .unset, .unset, .unset, .unset, .unset] [(.ref b15)])) t → Steps p.tables e below (s₁.setTop (entryFrame m #[(.int p1), (.long q2), (.long q3), (.long q4), (.long q5), (.long q6)] maxLocals)) t := by
      intro t kt
      refine G17 t ?_
      rw [q]
      exact kt
    have G43 : ∀ t, Steps p.tables e below (T17.setTop (mkF m 50 #[.val (.int p1), .val (.long q2), .second, .val (.long q3), .second, .val (.long q4), .second, .val (.long q5), .second, .val (.long q6), .second, .val (.ref b2), .val (.int (3 : Int32)), .val (.ref b15), .unset, .unset, .unset, .unset, .unset] [(.long q2), (.ref b15)])) t → Steps p.tables e below (s₁.setTop (entryFrame m #[(.int p1), (.long q2), (.long q3), (.long q4), (.long q5), (.long q6)] maxLocals)) t := by
      intro t kt
      refine G42 t ?_
      show Steps p.tables e below (T17.setTop (mkF m 45 #[.val (.int p1), .val (.long q2), .second, .val (.long q3), .second, .val (.long q4), .second, .val (.long q5), .second, .val (.long q6), .second, .val (.ref b2), .val (.int (3 : Int32)), .unset, .unset, .unset, .unset, .unset, .unset] [(.ref b15)])) _
      refine XS.astore X17.here hx rfl (hb hby at_45) rfl rfl (l' := #[.val (.int p1), .val (.long q2), .second, .val (.long q3), .second, .val (.long q4), .second, .val (.long q5), .second, .val (.long q6), .second, .val (.ref b2), .val (.int (3 : Int32)), .val (.ref b15), .unset, .unset, .unset, .unset, .unset]) rfl ?_
      show Steps p.tables e below (T17.setTop (mkF m 47 #[.val (.int p1), .val (.long q2), .second, .val (.long q3), .second, .val (.long q4), .second, .val (.long q5), .second, .val (.long q6), .second, .val (.ref b2), .val (.int (3 : Int32)), .val (.ref b15), .unset, .unset, .unset, .unset, .unset] [])) _
      refine XS.aload X17.here hx rfl (hb hby at_47) rfl rfl ?_
      show Steps p.tables e below (T17.setTop (mkF m 49 #[.val (.int p1), .val (.long q2), .second, .val (.long q3), .second, .val (.long q4), .second, .val (.long q5), .second, .val (.long q6), .second, .val (.ref b2), .val (.int (3 : Int32)), .val (.ref b15), .unset, .unset, .unset, .unset, .unset] [(.ref b15)])) _
      refine XS.lloadN X17.here hx rfl (hb hby at_49) rfl ?_
      show Steps p.tables e below (T17.setTop (mkF m 50 #[.val (.int p1), .val (.long q2), .second, .val (.long q3), .second, .val (.long q4), .second, .val (.long q5), .second, .val (.long q6), .second, .val (.ref b2), .val (.int (3 : Int32)), .val (.ref b15), .unset, .unset, .unset, .unset, .unset] [(.long q2), (.ref b15)])) _
      exact kt
    obtain ⟨cq44, kq44, q44a, q44b, q44c⟩ := isOf hZ rfl E_b15_17
    obtain ⟨_, _, ⟨T44, L44, k44, n44⟩, -, X44, ⟨Lc44, hQ44, l44, y44, z44⟩, st44⟩ := X17.virtualBack hx (y := (⟨"com/example/queries_over_knowledge/queriesoverknowledge/reasoning/LongList", "add", "(J)V"⟩ : MethodName)) (z := (⟨"com/example/queries_over_knowledge/queriesoverknowledge/reasoning/LongList", "add", "(J)V"⟩ : MethodName)) hown (mvT hZ (hw _ (List.mem_of_getElem? (i := 13) rfl))) (mvT hZ (hw _ (List.mem_of_getElem? (i := 14) rfl))) (notFace_of_selects (args := #[]) (mvT hZ (hw _ (List.mem_of_getElem? (i := 16) rfl)))) (mvT hZ (hw _ (List.mem_of_getElem? (i := 16) rfl))) (mvT hZ (hw _ (List.mem_of_getElem? (i := 15) rfl))) (by decide) (backOf (W := 0) (rm3a l Z a0 hw [] b15 q2 r17 kr17 (4 : Int32) (0 : Int32) (1 : Int32) 0 [(.long (0 : Int64)), (.long (0 : Int64)), (.long (0 : Int64)), (.long (0 : Int64))] T17.heap n0 Z17 E_b15_17 Fz17 Fv17 V_r17 (by decide) (by decide) (by decide) (Nat.le_of_ble_eq_true rfl) (by decide) g_b15 g_r17 ne_b15_r17) hZ (hw _ (List.mem_of_getElem? (i := 17) rfl)) (hw _ (List.mem_of_getElem? (i := 4) rfl)) (by decide) (by decide)) q44a q44c (g := (mkF m 50 #[.val (.int p1), .val (.long q2), .second, .val (.long q3), .second, .val (.long q4), .second, .val (.long q5), .second, .val (.long q6), .second, .val (.ref b2), .val (.int (3 : Int32)), .val (.ref b15), .unset, .unset, .unset, .unset, .unset] [(.long q2), (.ref b15)])) rfl (by rw [hml]; rfl) (Steps.refl _) (argsL := [(.long q2)]) (rest := []) (lenOf pd_3 rfl) rfl (by show 2 * 0 + _ ≤ _; exact Nat.le_of_eq rfl) (hb hby at_50) (fun _ _ => ⟨rfl, rfl, (by decide : 3 + 0 ≤ _), (by decide : 11 + 0 ≤ _)⟩)
    dsimp only [Pt.U, Pt.locs, Pt.cells, Pt.slots] at X44 l44 y44 z44 st44 hQ44
    subst l44 y44 z44
    obtain ⟨rfl, N44q, K44, Eq44, Fz44, Fv44, V44'⟩ := hQ44
    have N44 := Fr.app N17 N44q
    have V_b2_12_44 : Arv Z T44.heap b2 k2 .long (5 : Int32) [(.long q2), (.long q3), (.long q4), (.long q5), (.long q6)] (.long (0 : Int64)) := V_b2_12_17.keep K44 (ninS ne_b2_b15 (ninS ne_b2_r17 nin0))
    have E_b15_44 : Exa Z T44.heap b15 "com/example/queries_over_knowledge/queriesoverknowledge/reasoning/LongList" := E_b15_17.keep K44
    have Z44 : n0 ≤ T44.heap.size := Nat.le_trans Z17 K44.1
    have G44 : ∀ t, Steps p.tables e below (T44.setTop (mkF m 53 #[.val (.int p1), .val (.long q2), .second, .val (.long q3), .second, .val (.long q4), .second, .val (.long q5), .second, .val (.long q6), .second, .val (.ref b2), .val (.int (3 : Int32)), .val (.ref b15), .unset, .unset, .unset, .unset, .unset] [])) t → Steps p.tables e below (s₁.setTop (entryFrame m #[(.int p1), (.long q2), (.long q3), (.long q4), (.long q5), (.long q6)] maxLocals)) t := fun t kt => G43 t (st44.trans kt)
    have V44 : Arv Z T44.heap r17 kr17 .long (4 : Int32) [(.long q2), (.long (0 : Int64)), (.long (0 : Int64)), (.long (0 : Int64))] (.long (0 : Int64)) := V44'
    have G45 : ∀ t, Steps p.tables e below (T44.setTop (mkF m 62 #[.val (.int p1), .val (.long q2), .second, .val (.long q3), .second, .val (.long q4), .second, .val (.long q5), .second, .val (.long q6), .second, .val (.ref b2), .val (.int (3 : Int32)), .val (.ref b15), .unset, .unset, .unset, .unset, .unset] [(.long q3), (.ref b15)])) t → Steps p.tables e below (s₁.setTop (entryFrame m #[(.int p1), (.long q2), (.long q3), (.long q4), (.long q5), (.long q6)] maxLocals)) t := by
      intro t kt
      refine G44 t ?_
      show Steps p.tables e below (T44.setTop (mkF m 53 #[.val (.int p1), .val (.long q2), .second, .val (.long q3), .second, .val (.long q4), .second, .val (.long q5), .second, .val (.long q6), .second, .val (.ref b2), .val (.int (3 : Int32)), .val (.ref b15), .unset, .unset, .unset, .unset, .unset] [])) _
      refine XS.iload X44.here hx rfl (hb hby at_53) rfl ?_
      show Steps p.tables e below (T44.setTop (mkF m 55 #[.val (.int p1), .val (.long q2), .second, .val (.long q3), .second, .val (.long q4), .second, .val (.long q5), .second, .val (.long q6), .second, .val (.ref b2), .val (.int (3 : Int32)), .val (.ref b15), .unset, .unset, .unset, .unset, .unset] [(.int (3 : Int32))])) _
      refine XS.iconst X44.here hx rfl (hb hby at_55) ?_
      show Steps p.tables e below (T44.setTop (mkF m 56 #[.val (.int p1), .val (.long q2), .second, .val (.long q3), .second, .val (.long q4), .second, .val (.long q5), .second, .val (.long q6), .second, .val (.ref b2), .val (.int (3 : Int32)), .val (.ref b15), .unset, .unset, .unset, .unset, .unset] [(.int (2 : Int32)), (.int (3 : Int32))])) _
      refine XS.icmpNo X44.here hx rfl (hb hby at_56) rfl (flt (by decide : ¬ ((3 : Int32) < (2 : Int32)))).1 ?_
      show Steps p.tables e below (T44.setTop (mkF m 59 #[.val (.int p1), .val (.long q2), .second, .val (.long q3), .second, .val (.long q4), .second, .val (.long q5), .second, .val (.long q6), .second, .val (.ref b2), .val (.int (3 : Int32)), .val (.ref b15), .unset, .unset, .unset, .unset, .unset] [])) _
      refine XS.aload X44.here hx rfl (hb hby at_59) rfl rfl ?_
      show Steps p.tables e below (T44.setTop (mkF m 61 #[.val (.int p1), .val (.long q2), .second, .val (.long q3), .second, .val (.long q4), .second, .val (.long q5), .second, .val (.long q6), .second, .val (.ref b2), .val (.int (3 : Int32)), .val (.ref b15), .unset, .unset, .unset, .unset, .unset] [(.ref b15)])) _
      refine XS.lloadN X44.here hx rfl (hb hby at_61) rfl ?_
      show Steps p.tables e below (T44.setTop (mkF m 62 #[.val (.int p1), .val (.long q2), .second, .val (.long q3), .second, .val (.long q4), .second, .val (.long q5), .second, .val (.long q6), .second, .val (.ref b2), .val (.int (3 : Int32)), .val (.ref b15), .unset, .unset, .unset, .unset, .unset] [(.long q3), (.ref b15)])) _
      exact kt
    obtain ⟨cq46, kq46, q46a, q46b, q46c⟩ := isOf hZ rfl E_b15_44
    obtain ⟨_, _, ⟨T46, L46, k46, n46⟩, -, X46, ⟨Lc46, hQ46, l46, y46, z46⟩, st46⟩ := X44.virtualBack hx (y := (⟨"com/example/queries_over_knowledge/queriesoverknowledge/reasoning/LongList", "add", "(J)V"⟩ : MethodName)) (z := (⟨"com/example/queries_over_knowledge/queriesoverknowledge/reasoning/LongList", "add", "(J)V"⟩ : MethodName)) hown (mvT hZ (hw _ (List.mem_of_getElem? (i := 13) rfl))) (mvT hZ (hw _ (List.mem_of_getElem? (i := 14) rfl))) (notFace_of_selects (args := #[]) (mvT hZ (hw _ (List.mem_of_getElem? (i := 16) rfl)))) (mvT hZ (hw _ (List.mem_of_getElem? (i := 16) rfl))) (mvT hZ (hw _ (List.mem_of_getElem? (i := 15) rfl))) (by decide) (backOf (W := 0) (rm3a l Z a0 hw [] b15 q3 r17 kr17 (4 : Int32) (1 : Int32) (2 : Int32) 1 [(.long q2), (.long (0 : Int64)), (.long (0 : Int64)), (.long (0 : Int64))] T44.heap n0 Z44 E_b15_44 Fz44 Fv44 V44 (by decide) (by decide) (by decide) (Nat.le_of_ble_eq_true rfl) (by decide) g_b15 g_r17 ne_b15_r17) hZ (hw _ (List.mem_of_getElem? (i := 17) rfl)) (hw _ (List.mem_of_getElem? (i := 4) rfl)) (by decide) (by decide)) q46a q46c (g := (mkF m 62 #[.val (.int p1), .val (.long q2), .second, .val (.long q3), .second, .val (.long q4), .second, .val (.long q5), .second, .val (.long q6), .second, .val (.ref b2), .val (.int (3 : Int32)), .val (.ref b15), .unset, .unset, .unset, .unset, .unset] [(.long q3), (.ref b15)])) rfl (by rw [hml]; rfl) (Steps.refl _) (argsL := [(.long q3)]) (rest := []) (lenOf pd_3 rfl) rfl (by show 2 * 0 + _ ≤ _; exact Nat.le_of_eq rfl) (hb hby at_62) (fun _ _ => ⟨rfl, rfl, (by decide : 3 + 0 ≤ _), (by decide : 11 + 0 ≤ _)⟩)
    dsimp only [Pt.U, Pt.locs, Pt.cells, Pt.slots] at X46 l46 y46 z46 st46 hQ46
    subst l46 y46 z46
    obtain ⟨rfl, N46q, K46, Eq46, Fz46, Fv46, V46'⟩ := hQ46
    have N46 := Fr.app N44 N46q
    have V_b2_12_46 : Arv Z T46.heap b2 k2 .long (5 : Int32) [(.long q2), (.long q3), (.long q4), (.long q5), (.long q6)] (.long (0 : Int64)) := V_b2_12_44.keep K46 (ninS ne_b2_b15 (ninS ne_b2_r17 nin0))
    have E_b15_46 : Exa Z T46.heap b15 "com/example/queries_over_knowledge/queriesoverknowledge/reasoning/LongList" := E_b15_44.keep K46
    have Z46 : n0 ≤ T46.heap.size := Nat.le_trans Z44 K46.1
    have G46 : ∀ t, Steps p.tables e below (T46.setTop (mkF m 65 #[.val (.int p1), .val (.long q2), .second, .val (.long q3), .second, .val (.long q4), .second, .val (.long q5), .second, .val (.long q6), .second, .val (.ref b2), .val (.int (3 : Int32)), .val (.ref b15), .unset, .unset, .unset, .unset, .unset] [])) t → Steps p.tables e below (s₁.setTop (entryFrame m #[(.int p1), (.long q2), (.long q3), (.long q4), (.long q5), (.long q6)] maxLocals)) t := fun t kt => G45 t (st46.trans kt)
    have V46 : Arv Z T46.heap r17 kr17 .long (4 : Int32) [(.long q2), (.long q3), (.long (0 : Int64)), (.long (0 : Int64))] (.long (0 : Int64)) := V46'
    have G47 : ∀ t, Steps p.tables e below (T46.setTop (mkF m 75 #[.val (.int p1), .val (.long q2), .second, .val (.long q3), .second, .val (.long q4), .second, .val (.long q5), .second, .val (.long q6), .second, .val (.ref b2), .val (.int (3 : Int32)), .val (.ref b15), .unset, .unset, .unset, .unset, .unset] [(.long q4), (.ref b15)])) t → Steps p.tables e below (s₁.setTop (entryFrame m #[(.int p1), (.long q2), (.long q3), (.long q4), (.long q5), (.long q6)] maxLocals)) t := by
      intro t kt
      refine G46 t ?_
      show Steps p.tables e below (T46.setTop (mkF m 65 #[.val (.int p1), .val (.long q2), .second, .val (.long q3), .second, .val (.long q4), .second, .val (.long q5), .second, .val (.long q6), .second, .val (.ref b2), .val (.int (3 : Int32)), .val (.ref b15), .unset, .unset, .unset, .unset, .unset] [])) _
      refine XS.iload X46.here hx rfl (hb hby at_65) rfl ?_
      show Steps p.tables e below (T46.setTop (mkF m 67 #[.val (.int p1), .val (.long q2), .second, .val (.long q3), .second, .val (.long q4), .second, .val (.long q5), .second, .val (.long q6), .second, .val (.ref b2), .val (.int (3 : Int32)), .val (.ref b15), .unset, .unset, .unset, .unset, .unset] [(.int (3 : Int32))])) _
      refine XS.iconst X46.here hx rfl (hb hby at_67) ?_
      show Steps p.tables e below (T46.setTop (mkF m 68 #[.val (.int p1), .val (.long q2), .second, .val (.long q3), .second, .val (.long q4), .second, .val (.long q5), .second, .val (.long q6), .second, .val (.ref b2), .val (.int (3 : Int32)), .val (.ref b15), .unset, .unset, .unset, .unset, .unset] [(.int (3 : Int32)), (.int (3 : Int32))])) _
      refine XS.icmpNo X46.here hx rfl (hb hby at_68) rfl (flt (by decide : ¬ ((3 : Int32) < (3 : Int32)))).1 ?_
      show Steps p.tables e below (T46.setTop (mkF m 71 #[.val (.int p1), .val (.long q2), .second, .val (.long q3), .second, .val (.long q4), .second, .val (.long q5), .second, .val (.long q6), .second, .val (.ref b2), .val (.int (3 : Int32)), .val (.ref b15), .unset, .unset, .unset, .unset, .unset] [])) _
      refine XS.aload X46.here hx rfl (hb hby at_71) rfl rfl ?_
      show Steps p.tables e below (T46.setTop (mkF m 73 #[.val (.int p1), .val (.long q2), .second, .val (.long q3), .second, .val (.long q4), .second, .val (.long q5), .second, .val (.long q6), .second, .val (.ref b2), .val (.int (3 : Int32)), .val (.ref b15), .unset, .unset, .unset, .unset, .unset] [(.ref b15)])) _
      refine XS.lload X46.here hx rfl (hb hby at_73) rfl ?_
      show Steps p.tables e below (T46.setTop (mkF m 75 #[.val (.int p1), .val (.long q2), .second, .val (.long q3), .second, .val (.long q4), .second, .val (.long q5), .second, .val (.long q6), .second, .val (.ref b2), .val (.int (3 : Int32)), .val (.ref b15), .unset, .unset, .unset, .unset, .unset] [(.long q4), (.ref b15)])) _
      exact kt
    obtain ⟨cq48, kq48, q48a, q48b, q48c⟩ := isOf hZ rfl E_b15_46
    obtain ⟨_, _, ⟨T48, L48, k48, n48⟩, -, X48, ⟨Lc48, hQ48, l48, y48, z48⟩, st48⟩ := X46.virtualBack hx (y := (⟨"com/example/queries_over_knowledge/queriesoverknowledge/reasoning/LongList", "add", "(J)V"⟩ : MethodName)) (z := (⟨"com/example/queries_over_knowledge/queriesoverknowledge/reasoning/LongList", "add", "(J)V"⟩ : MethodName)) hown (mvT hZ (hw _ (List.mem_of_getElem? (i := 13) rfl))) (mvT hZ (hw _ (List.mem_of_getElem? (i := 14) rfl))) (notFace_of_selects (args := #[]) (mvT hZ (hw _ (List.mem_of_getElem? (i := 16) rfl)))) (mvT hZ (hw _ (List.mem_of_getElem? (i := 16) rfl))) (mvT hZ (hw _ (List.mem_of_getElem? (i := 15) rfl))) (by decide) (backOf (W := 0) (rm3a l Z a0 hw [] b15 q4 r17 kr17 (4 : Int32) (2 : Int32) (3 : Int32) 2 [(.long q2), (.long q3), (.long (0 : Int64)), (.long (0 : Int64))] T46.heap n0 Z46 E_b15_46 Fz46 Fv46 V46 (by decide) (by decide) (by decide) (Nat.le_of_ble_eq_true rfl) (by decide) g_b15 g_r17 ne_b15_r17) hZ (hw _ (List.mem_of_getElem? (i := 17) rfl)) (hw _ (List.mem_of_getElem? (i := 4) rfl)) (by decide) (by decide)) q48a q48c (g := (mkF m 75 #[.val (.int p1), .val (.long q2), .second, .val (.long q3), .second, .val (.long q4), .second, .val (.long q5), .second, .val (.long q6), .second, .val (.ref b2), .val (.int (3 : Int32)), .val (.ref b15), .unset, .unset, .unset, .unset, .unset] [(.long q4), (.ref b15)])) rfl (by rw [hml]; rfl) (Steps.refl _) (argsL := [(.long q4)]) (rest := []) (lenOf pd_3 rfl) rfl (by show 2 * 0 + _ ≤ _; exact Nat.le_of_eq rfl) (hb hby at_75) (fun _ _ => ⟨rfl, rfl, (by decide : 3 + 0 ≤ _), (by decide : 11 + 0 ≤ _)⟩)
    dsimp only [Pt.U, Pt.locs, Pt.cells, Pt.slots] at X48 l48 y48 z48 st48 hQ48
    subst l48 y48 z48
    obtain ⟨rfl, N48q, K48, Eq48, Fz48, Fv48, V48'⟩ := hQ48
    have N48 := Fr.app N46 N48q
    have V_b2_12_48 : Arv Z T48.heap b2 k2 .long (5 : Int32) [(.long q2), (.long q3), (.long q4), (.long q5), (.long q6)] (.long (0 : Int64)) := V_b2_12_46.keep K48 (ninS ne_b2_b15 (ninS ne_b2_r17 nin0))
    have E_b15_48 : Exa Z T48.heap b15 "com/example/queries_over_knowledge/queriesoverknowledge/reasoning/LongList" := E_b15_46.keep K48
    have Z48 : n0 ≤ T48.heap.size := Nat.le_trans Z46 K48.1
    have G48 : ∀ t, Steps p.tables e below (T48.setTop (mkF m 78 #[.val (.int p1), .val (.long q2), .second, .val (.long q3), .second, .val (.long q4), .second, .val (.long q5), .second, .val (.long q6), .second, .val (.ref b2), .val (.int (3 : Int32)), .val (.ref b15), .unset, .unset, .unset, .unset, .unset] [])) t → Steps p.tables e below (s₁.setTop (entryFrame m #[(.int p1), (.long q2), (.long q3), (.long q4), (.long q5), (.long q6)] maxLocals)) t := fun t kt => G47 t (st48.trans kt)
    have V48 : Arv Z T48.heap r17 kr17 .long (4 : Int32) [(.long q2), (.long q3), (.long q4), (.long (0 : Int64))] (.long (0 : Int64)) := V48'
    have G49 : ∀ t, Steps p.tables e below (T48.setTop (mkF m 106 #[.val (.int p1), .val (.long q2), .second, .val (.long q3), .second, .val (.long q4), .second, .val (.long q5), .second, .val (.long q6), .second, .val (.ref b2), .val (.int (3 : Int32)), .val (.ref b15), .unset, .unset, .unset, .unset, .unset] [(.ref b15)])) t → Steps p.tables e below (s₁.setTop (entryFrame m #[(.int p1), (.long q2), (.long q3), (.long q4), (.long q5), (.long q6)] maxLocals)) t := by
      intro t kt
      refine G48 t ?_
      show Steps p.tables e below (T48.setTop (mkF m 78 #[.val (.int p1), .val (.long q2), .second, .val (.long q3), .second, .val (.long q4), .second, .val (.long q5), .second, .val (.long q6), .second, .val (.ref b2), .val (.int (3 : Int32)), .val (.ref b15), .unset, .unset, .unset, .unset, .unset] [])) _
      refine XS.iload X48.here hx rfl (hb hby at_78) rfl ?_
      show Steps p.tables e below (T48.setTop (mkF m 80 #[.val (.int p1), .val (.long q2), .second, .val (.long q3), .second, .val (.long q4), .second, .val (.long q5), .second, .val (.long q6), .second, .val (.ref b2), .val (.int (3 : Int32)), .val (.ref b15), .unset, .unset, .unset, .unset, .unset] [(.int (3 : Int32))])) _
      refine XS.iconst X48.here hx rfl (hb hby at_80) ?_
      show Steps p.tables e below (T48.setTop (mkF m 81 #[.val (.int p1), .val (.long q2), .second, .val (.long q3), .second, .val (.long q4), .second, .val (.long q5), .second, .val (.long q6), .second, .val (.ref b2), .val (.int (3 : Int32)), .val (.ref b15), .unset, .unset, .unset, .unset, .unset] [(.int (4 : Int32)), (.int (3 : Int32))])) _
      refine XS.icmpYes X48.here hx rfl (pc0 := 81) (pc' := 91) rfl (hb hby at_81) rfl (tlt (by decide : (3 : Int32) < (4 : Int32))).1 (by decide) (by decide) ?_
      show Steps p.tables e below (T48.setTop (mkF m 91 #[.val (.int p1), .val (.long q2), .second, .val (.long q3), .second, .val (.long q4), .second, .val (.long q5), .second, .val (.long q6), .second, .val (.ref b2), .val (.int (3 : Int32)), .val (.ref b15), .unset, .unset, .unset, .unset, .unset] [])) _
      refine XS.iload X48.here hx rfl (hb hby at_91) rfl ?_
      show Steps p.tables e below (T48.setTop (mkF m 93 #[.val (.int p1), .val (.long q2), .second, .val (.long q3), .second, .val (.long q4), .second, .val (.long q5), .second, .val (.long q6), .second, .val (.ref b2), .val (.int (3 : Int32)), .val (.ref b15), .unset, .unset, .unset, .unset, .unset] [(.int (3 : Int32))])) _
      refine XS.iconst X48.here hx rfl (hb hby at_93) ?_
      show Steps p.tables e below (T48.setTop (mkF m 94 #[.val (.int p1), .val (.long q2), .second, .val (.long q3), .second, .val (.long q4), .second, .val (.long q5), .second, .val (.long q6), .second, .val (.ref b2), .val (.int (3 : Int32)), .val (.ref b15), .unset, .unset, .unset, .unset, .unset] [(.int (5 : Int32)), (.int (3 : Int32))])) _
      refine XS.icmpYes X48.here hx rfl (pc0 := 94) (pc' := 104) rfl (hb hby at_94) rfl (tlt (by decide : (3 : Int32) < (5 : Int32))).1 (by decide) (by decide) ?_
      show Steps p.tables e below (T48.setTop (mkF m 104 #[.val (.int p1), .val (.long q2), .second, .val (.long q3), .second, .val (.long q4), .second, .val (.long q5), .second, .val (.long q6), .second, .val (.ref b2), .val (.int (3 : Int32)), .val (.ref b15), .unset, .unset, .unset, .unset, .unset] [])) _
      refine XS.aload X48.here hx rfl (hb hby at_104) rfl rfl ?_
      show Steps p.tables e below (T48.setTop (mkF m 106 #[.val (.int p1), .val (.long q2), .second, .val (.long q3), .second, .val (.long q4), .second, .val (.long q5), .second, .val (.long q6), .second, .val (.ref b2), .val (.int (3 : Int32)), .val (.ref b15), .unset, .unset, .unset, .unset, .unset] [(.ref b15)])) _
      exact kt
    obtain ⟨cq50, kq50, q50a, q50b, q50c⟩ := isOf hZ rfl E_b15_48
    obtain ⟨_, _, ⟨T50, L50, k50, n50⟩, -, X50, ⟨Lc50, hQ50, l50, y50, z50⟩, st50⟩ := X48.virtualBack hx (y := (⟨"com/example/queries_over_knowledge/queriesoverknowledge/reasoning/LongList", "removeLast", "()J"⟩ : MethodName)) (z := (⟨"com/example/queries_over_knowledge/queriesoverknowledge/reasoning/LongList", "removeLast", "()J"⟩ : MethodName)) hown (mvT hZ (hw _ (List.mem_of_getElem? (i := 20) rfl))) (mvT hZ (hw _ (List.mem_of_getElem? (i := 21) rfl))) (notFace_of_selects (args := #[]) (mvT hZ (hw _ (List.mem_of_getElem? (i := 23) rfl)))) (mvT hZ (hw _ (List.mem_of_getElem? (i := 23) rfl))) (mvT hZ (hw _ (List.mem_of_getElem? (i := 22) rfl))) (by decide) (backOf (W := 0) (rm4 l Z a0 hw [] b15 r17 kr17 (4 : Int32) (3 : Int32) (2 : Int32) [(.long q2), (.long q3), (.long q4), (.long (0 : Int64))] q4 T48.heap n0 Z48 E_b15_48 Fz48 Fv48 V48 (by decide) (by decide) rfl g_b15 ne_b15_r17) hZ (hw _ (List.mem_of_getElem? (i := 24) rfl)) (hw _ (List.mem_of_getElem? (i := 4) rfl)) (by decide) (by decide)) q50a q50c (g := (mkF m 106 #[.val (.int p1), .val (.long q2), .second, .val (.long q3), .second, .val (.long q4), .second, .val (.long q5), .second, .val (.long q6), .second, .val (.ref b2), .val (.int (3 : Int32)), .val (.ref b15), .unset, .unset, .unset, .unset, .unset] [(.ref b15)])) rfl (by rw [hml]; rfl) (Steps.refl _) (argsL := []) (rest := []) (lenOf pd_4 rfl) rfl (by show 2 * 0 + _ ≤ _; exact Nat.le_of_eq rfl) (hb hby at_106) (fun _ _ => ⟨rfl, rfl, (by decide : 3 + 0 ≤ _), (by decide : 11 + 0 ≤ _)⟩)
    dsimp only [Pt.U, Pt.locs, Pt.cells, Pt.slots] at X50 l50 y50 z50 st50 hQ50
    subst l50 y50 z50
    obtain ⟨rfl, N50q, K50, Eq50, Fz50, Fv50⟩ := hQ50
    have N50 := Fr.app N48 N50q
    have V_b2_12_50 : Arv Z T50.heap b2 k2 .long (5 : Int32) [(.long q2), (.long q3), (.long q4), (.long q5), (.long q6)] (.long (0 : Int64)) := V_b2_12_48.keep K50 (ninS ne_b2_b15 nin0)
    have E_b15_50 : Exa Z T50.heap b15 "com/example/queries_over_knowledge/queriesoverknowledge/reasoning/LongList" := E_b15_48.keep K50
    have V48_50 : Arv Z T50.heap r17 kr17 .long (4 : Int32) [(.long q2), (.long q3), (.long q4), (.long (0 : Int64))] (.long (0 : Int64)) := V48.keep K50 (ninS (Ne.symm ne_b15_r17) nin0)
    have Z50 : n0 ≤ T50.heap.size := Nat.le_trans Z48 K50.1
    have G50 : ∀ t, Steps p.tables e below (T50.setTop (mkF m 109 #[.val (.int p1), .val (.long q2), .second, .val (.long q3), .second, .val (.long q4), .second, .val (.long q5), .second, .val (.long q6), .second, .val (.ref b2), .val (.int (3 : Int32)), .val (.ref b15), .unset, .unset, .unset, .unset, .unset] [(.long q4)])) t → Steps p.tables e below (s₁.setTop (entryFrame m #[(.int p1), (.long q2), (.long q3), (.long q4), (.long q5), (.long q6)] maxLocals)) t := fun t kt => G49 t (st50.trans kt)
    obtain ⟨cl_v1, Ar_v1, qq_v1, SS_v1, MM_v1, HH_v1, UU_v1⟩ := id V_b2_12_50
    have hin_v1_119 := inb_of SS_v1 (j := ((3 : Int32) - (1 : Int32))) (by decide)
    have hat_v1_119 : cl_v1.slots[(((3 : Int32) - (1 : Int32))).toNatClampNeg]? = some (.long q4) := HH_v1.at hin_v1_119 rfl
    have G51 : ∀ t, Steps p.tables e below (T50.setTop (mkF m 128 #[.val (.int p1), .val (.long q2), .second, .val (.long q3), .second, .val (.long q4), .second, .val (.long q5), .second, .val (.long q6), .second, .val (.ref b2), .val (.int (3 : Int32)), .val (.ref b15), .val (.long q4), .second, .unset, .unset, .unset] [(.ref b15)])) t → Steps p.tables e below (s₁.setTop (entryFrame m #[(.int p1), (.long q2), (.long q3), (.long q4), (.long q5), (.long q6)] maxLocals)) t := by
      intro t kt
      refine G50 t ?_
      show Steps p.tables e below (T50.setTop (mkF m 109 #[.val (.int p1), .val (.long q2), .second, .val (.long q3), .second, .val (.long q4), .second, .val (.long q5), .second, .val (.long q6), .second, .val (.ref b2), .val (.int (3 : Int32)), .val (.ref b15), .unset, .unset, .unset, .unset, .unset] [(.long q4)])) _
      refine XS.lstore X50.here hx rfl (hb hby at_109) rfl (l' := #[.val (.int p1), .val (.long q2), .second, .val (.long q3), .second, .val (.long q4), .second, .val (.long q5), .second, .val (.long q6), .second, .val (.ref b2), .val (.int (3 : Int32)), .val (.ref b15), .val (.long q4), .second, .unset, .unset, .unset]) rfl ?_
      show Steps p.tables e below (T50.setTop (mkF m 111 #[.val (.int p1), .val (.long q2), .second, .val (.long q3), .second, .val (.long q4), .second, .val (.long q5), .second, .val (.long q6), .second, .val (.ref b2), .val (.int (3 : Int32)), .val (.ref b15), .val (.long q4), .second, .unset, .unset, .unset] [])) _
      refine XS.lload X50.here hx rfl (hb hby at_111) rfl ?_
      show Steps p.tables e below (T50.setTop (mkF m 113 #[.val (.int p1), .val (.long q2), .second, .val (.long q3), .second, .val (.long q4), .second, .val (.long q5), .second, .val (.long q6), .second, .val (.ref b2), .val (.int (3 : Int32)), .val (.ref b15), .val (.long q4), .second, .unset, .unset, .unset] [(.long q4)])) _
      refine XS.aload X50.here hx rfl (hb hby at_113) rfl rfl ?_
      show Steps p.tables e below (T50.setTop (mkF m 115 #[.val (.int p1), .val (.long q2), .second, .val (.long q3), .second, .val (.long q4), .second, .val (.long q5), .second, .val (.long q6), .second, .val (.ref b2), .val (.int (3 : Int32)), .val (.ref b15), .val (.long q4), .second, .unset, .unset, .unset] [(.ref b2), (.long q4)])) _
      refine XS.iload X50.here hx rfl (hb hby at_115) rfl ?_
      show Steps p.tables e below (T50.setTop (mkF m 117 #[.val (.int p1), .val (.long q2), .second, .val (.long q3), .second, .val (.long q4), .second, .val (.long q5), .second, .val (.long q6), .second, .val (.ref b2), .val (.int (3 : Int32)), .val (.ref b15), .val (.long q4), .second, .unset, .unset, .unset] [(.int (3 : Int32)), (.ref b2), (.long q4)])) _
      refine XS.iconst X50.here hx rfl (hb hby at_117) ?_
      show Steps p.tables e below (T50.setTop (mkF m 118 #[.val (.int p1), .val (.long q2), .second, .val (.long q3), .second, .val (.long q4), .second, .val (.long q5), .second, .val (.long q6), .second, .val (.ref b2), .val (.int (3 : Int32)), .val (.ref b15), .val (.long q4), .second, .unset, .unset, .unset] [(.int (1 : Int32)), (.int (3 : Int32)), (.ref b2), (.long q4)])) _
      refine XS.isub X50.here hx rfl (hb hby at_118) rfl ?_
      show Steps p.tables e below (T50.setTop (mkF m 119 #[.val (.int p1), .val (.long q2), .second, .val (.long q3), .second, .val (.long q4), .second, .val (.long q5), .second, .val (.long q6), .second, .val (.ref b2), .val (.int (3 : Int32)), .val (.ref b15), .val (.long q4), .second, .unset, .unset, .unset] [(.int ((3 : Int32) - (1 : Int32))), (.ref b2), (.long q4)])) _
      refine X50.laload hx (j := ((3 : Int32) - (1 : Int32))) (v := (.long q4)) Ar_v1.1 (State.isArrayOf_alike hZ.alike Ar_v1.2.1) Ar_v1.2.2 hin_v1_119 hat_v1_119 (g := (mkF m 119 #[.val (.int p1), .val (.long q2), .second, .val (.long q3), .second, .val (.long q4), .second, .val (.long q5), .second, .val (.long q6), .second, .val (.ref b2), .val (.int (3 : Int32)), .val (.ref b15), .val (.long q4), .second, .unset, .unset, .unset] [(.int ((3 : Int32) - (1 : Int32))), (.ref b2), (.long q4)])) rfl rfl (hb hby at_119) _ ?_
      show Steps p.tables e below (T50.setTop (mkF m 120 #[.val (.int p1), .val (.long q2), .second, .val (.long q3), .second, .val (.long q4), .second, .val (.long q5), .second, .val (.long q6), .second, .val (.ref b2), .val (.int (3 : Int32)), .val (.ref b15), .val (.long q4), .second, .unset, .unset, .unset] [(.long q4), (.long q4)])) _
      refine XS.lcmp X50.here hx rfl (hb hby at_120) rfl ?_
      show Steps p.tables e below (T50.setTop (mkF m 121 #[.val (.int p1), .val (.long q2), .second, .val (.long q3), .second, .val (.long q4), .second, .val (.long q5), .second, .val (.long q6), .second, .val (.ref b2), .val (.int (3 : Int32)), .val (.ref b15), .val (.long q4), .second, .unset, .unset, .unset] [(.int (lcmpW q4 q4))])) _
      refine XS.ifYes X50.here hx rfl (pc0 := 121) (pc' := 126) rfl (hb hby at_121) rfl ((if0 _ _).trans (teq ((lw_eq _ _).mpr rfl)).1) (by decide) (by decide) ?_
      show Steps p.tables e below (T50.setTop (mkF m 126 #[.val (.int p1), .val (.long q2), .second, .val (.long q3), .second, .val (.long q4), .second, .val (.long q5), .second, .val (.long q6), .second, .val (.ref b2), .val (.int (3 : Int32)), .val (.ref b15), .val (.long q4), .second, .unset, .unset, .unset] [])) _
      refine XS.aload X50.here hx rfl (hb hby at_126) rfl rfl ?_
      show Steps p.tables e below (T50.setTop (mkF m 128 #[.val (.int p1), .val (.long q2), .second, .val (.long q3), .second, .val (.long q4), .second, .val (.long q5), .second, .val (.long q6), .second, .val (.ref b2), .val (.int (3 : Int32)), .val (.ref b15), .val (.long q4), .second, .unset, .unset, .unset] [(.ref b15)])) _
      exact kt
    obtain ⟨cq52, kq52, q52a, q52b, q52c⟩ := isOf hZ rfl E_b15_50
    obtain ⟨_, _, ⟨T52, L52, k52, n52⟩, -, X52, ⟨Lc52, hQ52, l52, y52, z52⟩, st52⟩ := X50.virtualBack hx (y := (⟨"com/example/queries_over_knowledge/queriesoverknowledge/reasoning/LongList", "size", "()I"⟩ : MethodName)) (z := (⟨"com/example/queries_over_knowledge/queriesoverknowledge/reasoning/LongList", "size", "()I"⟩ : MethodName)) hown (mvT hZ (hw _ (List.mem_of_getElem? (i := 25) rfl))) (mvT hZ (hw _ (List.mem_of_getElem? (i := 26) rfl))) (notFace_of_selects (args := #[]) (mvT hZ (hw _ (List.mem_of_getElem? (i := 28) rfl)))) (mvT hZ (hw _ (List.mem_of_getElem? (i := 28) rfl))) (mvT hZ (hw _ (List.mem_of_getElem? (i := 27) rfl))) (by decide) (backOf (W := 0) (rm5 l Z a0 hw [] b15 (2 : Int32) T50.heap n0 Z50 Fz50) hZ (hw _ (List.mem_of_getElem? (i := 29) rfl)) (hw _ (List.mem_of_getElem? (i := 4) rfl)) (by decide) (by decide)) q52a q52c (g := (mkF m 128 #[.val (.int p1), .val (.long q2), .second, .val (.long q3), .second, .val (.long q4), .second, .val (.long q5), .second, .val (.long q6), .second, .val (.ref b2), .val (.int (3 : Int32)), .val (.ref b15), .val (.long q4), .second, .unset, .unset, .unset] [(.ref b15)])) rfl (by rw [hml]; rfl) (Steps.refl _) (argsL := []) (rest := []) (lenOf pd_5 rfl) rfl (by show 2 * 0 + _ ≤ _; exact Nat.le_of_eq rfl) (hb hby at_128) (fun _ _ => ⟨rfl, rfl, (by decide : 3 + 0 ≤ _), (by decide : 11 + 0 ≤ _)⟩)
    dsimp only [Pt.U, Pt.locs, Pt.cells, Pt.slots] at X52 l52 y52 z52 st52 hQ52
    subst l52 y52 z52
    obtain ⟨rfl, N52q, e52⟩ := hQ52
    have N52 := Fr.app N50 N52q
    have G52 : ∀ t, Steps p.tables e below (T52.setTop (mkF m 131 #[.val (.int p1), .val (.long q2), .second, .val (.long q3), .second, .val (.long q4), .second, .val (.long q5), .second, .val (.long q6), .second, .val (.ref b2), .val (.int (3 : Int32)), .val (.ref b15), .val (.long q4), .second, .unset, .unset, .unset] [(.int (2 : Int32))])) t → Steps p.tables e below (s₁.setTop (entryFrame m #[(.int p1), (.long q2), (.long q3), (.long q4), (.long q5), (.long q6)] maxLocals)) t := fun t kt => G51 t (st52.trans kt)
    have G53 : ∀ t, Steps p.tables e below (T52.setTop (mkF m 142 #[.val (.int p1), .val (.long q2), .second, .val (.long q3), .second, .val (.long q4), .second, .val (.long q5), .second, .val (.long q6), .second, .val (.ref b2), .val (.int (3 : Int32)), .val (.ref b15), .val (.long q4), .second, .unset, .unset, .unset] [(.ref b15)])) t → Steps p.tables e below (s₁.setTop (entryFrame m #[(.int p1), (.long q2), (.long q3), (.long q4), (.long q5), (.long q6)] maxLocals)) t := by
      intro t kt
      refine G52 t ?_
      show Steps p.tables e below (T52.setTop (mkF m 131 #[.val (.int p1), .val (.long q2), .second, .val (.long q3), .second, .val (.long q4), .second, .val (.long q5), .second, .val (.long q6), .second, .val (.ref b2), .val (.int (3 : Int32)), .val (.ref b15), .val (.long q4), .second, .unset, .unset, .unset] [(.int (2 : Int32))])) _
      refine XS.iload X52.here hx rfl (hb hby at_131) rfl ?_
      show Steps p.tables e below (T52.setTop (mkF m 133 #[.val (.int p1), .val (.long q2), .second, .val (.long q3), .second, .val (.long q4), .second, .val (.long q5), .second, .val (.long q6), .second, .val (.ref b2), .val (.int (3 : Int32)), .val (.ref b15), .val (.long q4), .second, .unset, .unset, .unset] [(.int (3 : Int32)), (.int (2 : Int32))])) _
      refine XS.iconst X52.here hx rfl (hb hby at_133) ?_
      show Steps p.tables e below (T52.setTop (mkF m 134 #[.val (.int p1), .val (.long q2), .second, .val (.long q3), .second, .val (.long q4), .second, .val (.long q5), .second, .val (.long q6), .second, .val (.ref b2), .val (.int (3 : Int32)), .val (.ref b15), .val (.long q4), .second, .unset, .unset, .unset] [(.int (1 : Int32)), (.int (3 : Int32)), (.int (2 : Int32))])) _
      refine XS.isub X52.here hx rfl (hb hby at_134) rfl ?_
      show Steps p.tables e below (T52.setTop (mkF m 135 #[.val (.int p1), .val (.long q2), .second, .val (.long q3), .second, .val (.long q4), .second, .val (.long q5), .second, .val (.long q6), .second, .val (.ref b2), .val (.int (3 : Int32)), .val (.ref b15), .val (.long q4), .second, .unset, .unset, .unset] [(.int ((3 : Int32) - (1 : Int32))), (.int (2 : Int32))])) _
      refine XS.icmpYes X52.here hx rfl (pc0 := 135) (pc' := 140) rfl (hb hby at_135) rfl (teq (by decide : (2 : Int32) = ((3 : Int32) - (1 : Int32)))).1 (by decide) (by decide) ?_
      show Steps p.tables e below (T52.setTop (mkF m 140 #[.val (.int p1), .val (.long q2), .second, .val (.long q3), .second, .val (.long q4), .second, .val (.long q5), .second, .val (.long q6), .second, .val (.ref b2), .val (.int (3 : Int32)), .val (.ref b15), .val (.long q4), .second, .unset, .unset, .unset] [])) _
      refine XS.aload X52.here hx rfl (hb hby at_140) rfl rfl ?_
      show Steps p.tables e below (T52.setTop (mkF m 142 #[.val (.int p1), .val (.long q2), .second, .val (.long q3), .second, .val (.long q4), .second, .val (.long q5), .second, .val (.long q6), .second, .val (.ref b2), .val (.int (3 : Int32)), .val (.ref b15), .val (.long q4), .second, .unset, .unset, .unset] [(.ref b15)])) _
      exact kt
    obtain ⟨cq54, kq54, q54a, q54b, q54c⟩ := isOf hZ e52 E_b15_50
    obtain ⟨_, _, ⟨T54, L54, k54, n54⟩, -, X54, ⟨Lc54, hQ54, l54, y54, z54⟩, st54⟩ := X52.virtualBack hx (y := (⟨"com/example/queries_over_knowledge/queriesoverknowledge/reasoning/LongList", "toArray", "()[J"⟩ : MethodName)) (z := (⟨"com/example/queries_over_knowledge/queriesoverknowledge/reasoning/LongList", "toArray", "()[J"⟩ : MethodName)) hown (mvT hZ (hw _ (List.mem_of_getElem? (i := 30) rfl))) (mvT hZ (hw _ (List.mem_of_getElem? (i := 31) rfl))) (notFace_of_selects (args := #[]) (mvT hZ (hw _ (List.mem_of_getElem? (i := 33) rfl)))) (mvT hZ (hw _ (List.mem_of_getElem? (i := 33) rfl))) (mvT hZ (hw _ (List.mem_of_getElem? (i := 32) rfl))) (by decide) (backOf (W := 0) (rm6 l Z a0 hw [] b15 r17 kr17 (4 : Int32) (2 : Int32) (2 : Int32) [(.long q2), (.long q3), (.long q4), (.long (0 : Int64))] [(.long q2), (.long q3)] [(.long q2), (.long q3)] T50.heap n0 Z50 Fz50 Fv50 V48_50 (by decide) (by decide) (by decide) (by decide) (by decide) (by decide) (by decide) rfl rfl) hZ (hw _ (List.mem_of_getElem? (i := 34) rfl)) (hw _ (List.mem_of_getElem? (i := 4) rfl)) (by decide) (by decide)) q54a q54c (g := (mkF m 142 #[.val (.int p1), .val (.long q2), .second, .val (.long q3), .second, .val (.long q4), .second, .val (.long q5), .second, .val (.long q6), .second, .val (.ref b2), .val (.int (3 : Int32)), .val (.ref b15), .val (.long q4), .second, .unset, .unset, .unset] [(.ref b15)])) rfl (by rw [hml]; rfl) (Steps.refl _) (argsL := []) (rest := []) (lenOf pd_6 rfl) rfl (by show 2 * 0 + _ ≤ _; exact Nat.le_of_eq rfl) (hb hby at_142) (fun _ _ => ⟨rfl, e52, (by decide : 3 + 1 ≤ _), (by decide : 11 + 8 ≤ _)⟩)
    dsimp only [Pt.U, Pt.locs, Pt.cells, Pt.slots] at X54 l54 y54 z54 st54 hQ54
    subst l54 y54 z54
    obtain ⟨t_54, kt54, rfl, N54q, K54, g_t_54, szq54, V_t_54⟩ := hQ54
    have N54 := Fr.app N52 N54q
    have ne_b2_t_54 : b2 ≠ t_54 := Nat.ne_of_lt (Nat.lt_of_lt_of_le V_b2_12_50.lt szq54)
    have ne_b15_t_54 : b15 ≠ t_54 := Nat.ne_of_lt (Nat.lt_of_lt_of_le E_b15_50.lt szq54)
    have ne_r17_t_54 : r17 ≠ t_54 := Nat.ne_of_lt (Nat.lt_of_lt_of_le V48_50.lt szq54)
    have V_b2_12_54 : Arv Z T54.heap b2 k2 .long (5 : Int32) [(.long q2), (.long q3), (.long q4), (.long q5), (.long q6)] (.long (0 : Int64)) := V_b2_12_50.keep K54 nin0
    have E_b15_54 : Exa Z T54.heap b15 "com/example/queries_over_knowledge/queriesoverknowledge/reasoning/LongList" := E_b15_50.keep K54
    have V48_54 : Arv Z T54.heap r17 kr17 .long (4 : Int32) [(.long q2), (.long q3), (.long q4), (.long (0 : Int64))] (.long (0 : Int64)) := V48_50.keep K54 nin0
    have Fz50_54 : Fld Z T54.heap b15 "com/example/queries_over_knowledge/queriesoverknowledge/reasoning/LongList" "size" "I" (.int (2 : Int32)) := Fz50.keep K54 nin0
    have Fv50_54 : Fld Z T54.heap b15 "com/example/queries_over_knowledge/queriesoverknowledge/reasoning/LongList" "values" "[J" (.ref r17) := Fv50.keep K54 nin0
    have Z54 : n0 ≤ T54.heap.size := Nat.le_trans Z50 K54.1
    have G54 : ∀ t, Steps p.tables e below (T54.setTop (mkF m 145 #[.val (.int p1), .val (.long q2), .second, .val (.long q3), .second, .val (.long q4), .second, .val (.long q5), .second, .val (.long q6), .second, .val (.ref b2), .val (.int (3 : Int32)), .val (.ref b15), .val (.long q4), .second, .unset, .unset, .unset] [(.ref t_54)])) t → Steps p.tables e below (s₁.setTop (entryFrame m #[(.int p1), (.long q2), (.long q3), (.long q4), (.long q5), (.long q6)] maxLocals)) t := fun t kt => G53 t (st54.trans kt)
    obtain ⟨cl_t1, Ar_t1, qq_t1, SS_t1, MM_t1, HH_t1, UU_t1⟩ := id V_t_54
    have hin_t1_170 := inb_of SS_t1 (j := (0 : Int32)) (by decide)
    have hat_t1_170 : cl_t1.slots[((0 : Int32)).toNatClampNeg]? = some (.long q2) := HH_t1.at hin_t1_170 rfl
    have hin_t1_189 := inb_of SS_t1 (j := (1 : Int32)) (by decide)
    have hat_t1_189 : cl_t1.slots[((1 : Int32)).toNatClampNeg]? = some (.long q3) := HH_t1.at hin_t1_189 rfl
    have G55 : ∀ t, Steps p.tables e below (T54.setTop (mkF m 245 #[.val (.int p1), .val (.long q2), .second, .val (.long q3), .second, .val (.long q4), .second, .val (.long q5), .second, .val (.long q6), .second, .val (.ref b2), .val (.int (3 : Int32)), .val (.ref b15), .val (.long q4), .second, .val (.ref t_54), .unset, .unset] [(.ref b15)])) t → Steps p.tables e below (s₁.setTop (entryFrame m #[(.int p1), (.long q2), (.long q3), (.long q4), (.long q5), (.long q6)] maxLocals)) t := by
      intro t kt
      refine G54 t ?_
      show Steps p.tables e below (T54.setTop (mkF m 145 #[.val (.int p1), .val (.long q2), .second, .val (.long q3), .second, .val (.long q4), .second, .val (.long q5), .second, .val (.long q6), .second, .val (.ref b2), .val (.int (3 : Int32)), .val (.ref b15), .val (.long q4), .second, .unset, .unset, .unset] [(.ref t_54)])) _
      refine XS.astore X54.here hx rfl (hb hby at_145) rfl rfl (l' := #[.val (.int p1), .val (.long q2), .second, .val (.long q3), .second, .val (.long q4), .second, .val (.long q5), .second, .val (.long q6), .second, .val (.ref b2), .val (.int (3 : Int32)), .val (.ref b15), .val (.long q4), .second, .val (.ref t_54), .unset, .unset]) rfl ?_
      show Steps p.tables e below (T54.setTop (mkF m 147 #[.val (.int p1), .val (.long q2), .second, .val (.long q3), .second, .val (.long q4), .second, .val (.long q5), .second, .val (.long q6), .second, .val (.ref b2), .val (.int (3 : Int32)), .val (.ref b15), .val (.long q4), .second, .val (.ref t_54), .unset, .unset] [])) _
      refine XS.aload X54.here hx rfl (hb hby at_147) rfl rfl ?_
      show Steps p.tables e below (T54.setTop (mkF m 149 #[.val (.int p1), .val (.long q2), .second, .val (.long q3), .second, .val (.long q4), .second, .val (.long q5), .second, .val (.long q6), .second, .val (.ref b2), .val (.int (3 : Int32)), .val (.ref b15), .val (.long q4), .second, .val (.ref t_54), .unset, .unset] [(.ref t_54)])) _
      refine X54.arraylength hx (cell := cl_t1) Ar_t1.1 (State.isArrayOf_alike hZ.alike Ar_t1.2.1) (g := (mkF m 149 #[.val (.int p1), .val (.long q2), .second, .val (.long q3), .second, .val (.long q4), .second, .val (.long q5), .second, .val (.long q6), .second, .val (.ref b2), .val (.int (3 : Int32)), .val (.ref b15), .val (.long q4), .second, .val (.ref t_54), .unset, .unset] [(.ref t_54)])) rfl rfl (hb hby at_149) _ ?_
      rw [len_of SS_t1 MM_t1]
      show Steps p.tables e below (T54.setTop (mkF m 150 #[.val (.int p1), .val (.long q2), .second, .val (.long q3), .second, .val (.long q4), .second, .val (.long q5), .second, .val (.long q6), .second, .val (.ref b2), .val (.int (3 : Int32)), .val (.ref b15), .val (.long q4), .second, .val (.ref t_54), .unset, .unset] [(.int (2 : Int32))])) _
      refine XS.iload X54.here hx rfl (hb hby at_150) rfl ?_
      show Steps p.tables e below (T54.setTop (mkF m 152 #[.val (.int p1), .val (.long q2), .second, .val (.long q3), .second, .val (.long q4), .second, .val (.long q5), .second, .val (.long q6), .second, .val (.ref b2), .val (.int (3 : Int32)), .val (.ref b15), .val (.long q4), .second, .val (.ref t_54), .unset, .unset] [(.int (3 : Int32)), (.int (2 : Int32))])) _
      refine XS.iconst X54.here hx rfl (hb hby at_152) ?_
      show Steps p.tables e below (T54.setTop (mkF m 153 #[.val (.int p1), .val (.long q2), .second, .val (.long q3), .second, .val (.long q4), .second, .val (.long q5), .second, .val (.long q6), .second, .val (.ref b2), .val (.int (3 : Int32)), .val (.ref b15), .val (.long q4), .second, .val (.ref t_54), .unset, .unset] [(.int (1 : Int32)), (.int (3 : Int32)), (.int (2 : Int32))])) _
      refine XS.isub X54.here hx rfl (hb hby at_153) rfl ?_
      show Steps p.tables e below (T54.setTop (mkF m 154 #[.val (.int p1), .val (.long q2), .second, .val (.long q3), .second, .val (.long q4), .second, .val (.long q5), .second, .val (.long q6), .second, .val (.ref b2), .val (.int (3 : Int32)), .val (.ref b15), .val (.long q4), .second, .val (.ref t_54), .unset, .unset] [(.int ((3 : Int32) - (1 : Int32))), (.int (2 : Int32))])) _
      refine XS.icmpYes X54.here hx rfl (pc0 := 154) (pc' := 159) rfl (hb hby at_154) rfl (teq (by decide : (2 : Int32) = ((3 : Int32) - (1 : Int32)))).1 (by decide) (by decide) ?_
      show Steps p.tables e below (T54.setTop (mkF m 159 #[.val (.int p1), .val (.long q2), .second, .val (.long q3), .second, .val (.long q4), .second, .val (.long q5), .second, .val (.long q6), .second, .val (.ref b2), .val (.int (3 : Int32)), .val (.ref b15), .val (.long q4), .second, .val (.ref t_54), .unset, .unset] [])) _
      refine XS.iload X54.here hx rfl (hb hby at_159) rfl ?_
      show Steps p.tables e below (T54.setTop (mkF m 161 #[.val (.int p1), .val (.long q2), .second, .val (.long q3), .second, .val (.long q4), .second, .val (.long q5), .second, .val (.long q6), .second, .val (.ref b2), .val (.int (3 : Int32)), .val (.ref b15), .val (.long q4), .second, .val (.ref t_54), .unset, .unset] [(.int (3 : Int32))])) _
      refine XS.iconst X54.here hx rfl (hb hby at_161) ?_
      show Steps p.tables e below (T54.setTop (mkF m 162 #[.val (.int p1), .val (.long q2), .second, .val (.long q3), .second, .val (.long q4), .second, .val (.long q5), .second, .val (.long q6), .second, .val (.ref b2), .val (.int (3 : Int32)), .val (.ref b15), .val (.long q4), .second, .val (.ref t_54), .unset, .unset] [(.int (1 : Int32)), (.int (3 : Int32))])) _
      refine XS.isub X54.here hx rfl (hb hby at_162) rfl ?_
      show Steps p.tables e below (T54.setTop (mkF m 163 #[.val (.int p1), .val (.long q2), .second, .val (.long q3), .second, .val (.long q4), .second, .val (.long q5), .second, .val (.long q6), .second, .val (.ref b2), .val (.int (3 : Int32)), .val (.ref b15), .val (.long q4), .second, .val (.ref t_54), .unset, .unset] [(.int ((3 : Int32) - (1 : Int32)))])) _
      refine XS.iconst X54.here hx rfl (hb hby at_163) ?_
      show Steps p.tables e below (T54.setTop (mkF m 164 #[.val (.int p1), .val (.long q2), .second, .val (.long q3), .second, .val (.long q4), .second, .val (.long q5), .second, .val (.long q6), .second, .val (.ref b2), .val (.int (3 : Int32)), .val (.ref b15), .val (.long q4), .second, .val (.ref t_54), .unset, .unset] [(.int (1 : Int32)), (.int ((3 : Int32) - (1 : Int32)))])) _
      refine XS.icmpNo X54.here hx rfl (hb hby at_164) rfl (flt (by decide : ¬ (((3 : Int32) - (1 : Int32)) < (1 : Int32)))).1 ?_
      show Steps p.tables e below (T54.setTop (mkF m 167 #[.val (.int p1), .val (.long q2), .second, .val (.long q3), .second, .val (.long q4), .second, .val (.long q5), .second, .val (.long q6), .second, .val (.ref b2), .val (.int (3 : Int32)), .val (.ref b15), .val (.long q4), .second, .val (.ref t_54), .unset, .unset] [])) _
      refine XS.aload X54.here hx rfl (hb hby at_167) rfl rfl ?_
      show Steps p.tables e below (T54.setTop (mkF m 169 #[.val (.int p1), .val (.long q2), .second, .val (.long q3), .second, .val (.long q4), .second, .val (.long q5), .second, .val (.long q6), .second, .val (.ref b2), .val (.int (3 : Int32)), .val (.ref b15), .val (.long q4), .second, .val (.ref t_54), .unset, .unset] [(.ref t_54)])) _
      refine XS.iconst X54.here hx rfl (hb hby at_169) ?_
      show Steps p.tables e below (T54.setTop (mkF m 170 #[.val (.int p1), .val (.long q2), .second, .val (.long q3), .second, .val (.long q4), .second, .val (.long q5), .second, .val (.long q6), .second, .val (.ref b2), .val (.int (3 : Int32)), .val (.ref b15), .val (.long q4), .second, .val (.ref t_54), .unset, .unset] [(.int (0 : Int32)), (.ref t_54)])) _
      refine X54.laload hx (j := (0 : Int32)) (v := (.long q2)) Ar_t1.1 (State.isArrayOf_alike hZ.alike Ar_t1.2.1) Ar_t1.2.2 hin_t1_170 hat_t1_170 (g := (mkF m 170 #[.val (.int p1), .val (.long q2), .second, .val (.long q3), .second, .val (.long q4), .second, .val (.long q5), .second, .val (.long q6), .second, .val (.ref b2), .val (.int (3 : Int32)), .val (.ref b15), .val (.long q4), .second, .val (.ref t_54), .unset, .unset] [(.int (0 : Int32)), (.ref t_54)])) rfl rfl (hb hby at_170) _ ?_
      show Steps p.tables e below (T54.setTop (mkF m 171 #[.val (.int p1), .val (.long q2), .second, .val (.long q3), .second, .val (.long q4), .second, .val (.long q5), .second, .val (.long q6), .second, .val (.ref b2), .val (.int (3 : Int32)), .val (.ref b15), .val (.long q4), .second, .val (.ref t_54), .unset, .unset] [(.long q2)])) _
      refine XS.lloadN X54.here hx rfl (hb hby at_171) rfl ?_
      show Steps p.tables e below (T54.setTop (mkF m 172 #[.val (.int p1), .val (.long q2), .second, .val (.long q3), .second, .val (.long q4), .second, .val (.long q5), .second, .val (.long q6), .second, .val (.ref b2), .val (.int (3 : Int32)), .val (.ref b15), .val (.long q4), .second, .val (.ref t_54), .unset, .unset] [(.long q2), (.long q2)])) _
      refine XS.lcmp X54.here hx rfl (hb hby at_172) rfl ?_
      show Steps p.tables e below (T54.setTop (mkF m 173 #[.val (.int p1), .val (.long q2), .second, .val (.long q3), .second, .val (.long q4), .second, .val (.long q5), .second, .val (.long q6), .second, .val (.ref b2), .val (.int (3 : Int32)), .val (.ref b15), .val (.long q4), .second, .val (.ref t_54), .unset, .unset] [(.int (lcmpW q2 q2))])) _
      refine XS.ifYes X54.here hx rfl (pc0 := 173) (pc' := 178) rfl (hb hby at_173) rfl ((if0 _ _).trans (teq ((lw_eq _ _).mpr rfl)).1) (by decide) (by decide) ?_
      show Steps p.tables e below (T54.setTop (mkF m 178 #[.val (.int p1), .val (.long q2), .second, .val (.long q3), .second, .val (.long q4), .second, .val (.long q5), .second, .val (.long q6), .second, .val (.ref b2), .val (.int (3 : Int32)), .val (.ref b15), .val (.long q4), .second, .val (.ref t_54), .unset, .unset] [])) _
      refine XS.iload X54.here hx rfl (hb hby at_178) rfl ?_
      show Steps p.tables e below (T54.setTop (mkF m 180 #[.val (.int p1), .val (.long q2), .second, .val (.long q3), .second, .val (.long q4), .second, .val (.long q5), .second, .val (.long q6), .second, .val (.ref b2), .val (.int (3 : Int32)), .val (.ref b15), .val (.long q4), .second, .val (.ref t_54), .unset, .unset] [(.int (3 : Int32))])) _
      refine XS.iconst X54.here hx rfl (hb hby at_180) ?_
      show Steps p.tables e below (T54.setTop (mkF m 181 #[.val (.int p1), .val (.long q2), .second, .val (.long q3), .second, .val (.long q4), .second, .val (.long q5), .second, .val (.long q6), .second, .val (.ref b2), .val (.int (3 : Int32)), .val (.ref b15), .val (.long q4), .second, .val (.ref t_54), .unset, .unset] [(.int (1 : Int32)), (.int (3 : Int32))])) _
      refine XS.isub X54.here hx rfl (hb hby at_181) rfl ?_
      show Steps p.tables e below (T54.setTop (mkF m 182 #[.val (.int p1), .val (.long q2), .second, .val (.long q3), .second, .val (.long q4), .second, .val (.long q5), .second, .val (.long q6), .second, .val (.ref b2), .val (.int (3 : Int32)), .val (.ref b15), .val (.long q4), .second, .val (.ref t_54), .unset, .unset] [(.int ((3 : Int32) - (1 : Int32)))])) _
      refine XS.iconst X54.here hx rfl (hb hby at_182) ?_
      show Steps p.tables e below (T54.setTop (mkF m 183 #[.val (.int p1), .val (.long q2), .second, .val (.long q3), .second, .val (.long q4), .second, .val (.long q5), .second, .val (.long q6), .second, .val (.ref b2), .val (.int (3 : Int32)), .val (.ref b15), .val (.long q4), .second, .val (.ref t_54), .unset, .unset] [(.int (2 : Int32)), (.int ((3 : Int32) - (1 : Int32)))])) _
      refine XS.icmpNo X54.here hx rfl (hb hby at_183) rfl (flt (by decide : ¬ (((3 : Int32) - (1 : Int32)) < (2 : Int32)))).1 ?_
      show Steps p.tables e below (T54.setTop (mkF m 186 #[.val (.int p1), .val (.long q2), .second, .val (.long q3), .second, .val (.long q4), .second, .val (.long q5), .second, .val (.long q6), .second, .val (.ref b2), .val (.int (3 : Int32)), .val (.ref b15), .val (.long q4), .second, .val (.ref t_54), .unset, .unset] [])) _
      refine XS.aload X54.here hx rfl (hb hby at_186) rfl rfl ?_
      show Steps p.tables e below (T54.setTop (mkF m 188 #[.val (.int p1), .val (.long q2), .second, .val (.long q3), .second, .val (.long q4), .second, .val (.long q5), .second, .val (.long q6), .second, .val (.ref b2), .val (.int (3 : Int32)), .val (.ref b15), .val (.long q4), .second, .val (.ref t_54), .unset, .unset] [(.ref t_54)])) _
      refine XS.iconst X54.here hx rfl (hb hby at_188) ?_
      show Steps p.tables e below (T54.setTop (mkF m 189 #[.val (.int p1), .val (.long q2), .second, .val (.long q3), .second, .val (.long q4), .second, .val (.long q5), .second, .val (.long q6), .second, .val (.ref b2), .val (.int (3 : Int32)), .val (.ref b15), .val (.long q4), .second, .val (.ref t_54), .unset, .unset] [(.int (1 : Int32)), (.ref t_54)])) _
      refine X54.laload hx (j := (1 : Int32)) (v := (.long q3)) Ar_t1.1 (State.isArrayOf_alike hZ.alike Ar_t1.2.1) Ar_t1.2.2 hin_t1_189 hat_t1_189 (g := (mkF m 189 #[.val (.int p1), .val (.long q2), .second, .val (.long q3), .second, .val (.long q4), .second, .val (.long q5), .second, .val (.long q6), .second, .val (.ref b2), .val (.int (3 : Int32)), .val (.ref b15), .val (.long q4), .second, .val (.ref t_54), .unset, .unset] [(.int (1 : Int32)), (.ref t_54)])) rfl rfl (hb hby at_189) _ ?_
      show Steps p.tables e below (T54.setTop (mkF m 190 #[.val (.int p1), .val (.long q2), .second, .val (.long q3), .second, .val (.long q4), .second, .val (.long q5), .second, .val (.long q6), .second, .val (.ref b2), .val (.int (3 : Int32)), .val (.ref b15), .val (.long q4), .second, .val (.ref t_54), .unset, .unset] [(.long q3)])) _
      refine XS.lloadN X54.here hx rfl (hb hby at_190) rfl ?_
      show Steps p.tables e below (T54.setTop (mkF m 191 #[.val (.int p1), .val (.long q2), .second, .val (.long q3), .second, .val (.long q4), .second, .val (.long q5), .second, .val (.long q6), .second, .val (.ref b2), .val (.int (3 : Int32)), .val (.ref b15), .val (.long q4), .second, .val (.ref t_54), .unset, .unset] [(.long q3), (.long q3)])) _
      refine XS.lcmp X54.here hx rfl (hb hby at_191) rfl ?_
      show Steps p.tables e below (T54.setTop (mkF m 192 #[.val (.int p1), .val (.long q2), .second, .val (.long q3), .second, .val (.long q4), .second, .val (.long q5), .second, .val (.long q6), .second, .val (.ref b2), .val (.int (3 : Int32)), .val (.ref b15), .val (.long q4), .second, .val (.ref t_54), .unset, .unset] [(.int (lcmpW q3 q3))])) _
      refine XS.ifYes X54.here hx rfl (pc0 := 192) (pc' := 197) rfl (hb hby at_192) rfl ((if0 _ _).trans (teq ((lw_eq _ _).mpr rfl)).1) (by decide) (by decide) ?_
      show Steps p.tables e below (T54.setTop (mkF m 197 #[.val (.int p1), .val (.long q2), .second, .val (.long q3), .second, .val (.long q4), .second, .val (.long q5), .second, .val (.long q6), .second, .val (.ref b2), .val (.int (3 : Int32)), .val (.ref b15), .val (.long q4), .second, .val (.ref t_54), .unset, .unset] [])) _
      refine XS.iload X54.here hx rfl (hb hby at_197) rfl ?_
      show Steps p.tables e below (T54.setTop (mkF m 199 #[.val (.int p1), .val (.long q2), .second, .val (.long q3), .second, .val (.long q4), .second, .val (.long q5), .second, .val (.long q6), .second, .val (.ref b2), .val (.int (3 : Int32)), .val (.ref b15), .val (.long q4), .second, .val (.ref t_54), .unset, .unset] [(.int (3 : Int32))])) _
      refine XS.iconst X54.here hx rfl (hb hby at_199) ?_
      show Steps p.tables e below (T54.setTop (mkF m 200 #[.val (.int p1), .val (.long q2), .second, .val (.long q3), .second, .val (.long q4), .second, .val (.long q5), .second, .val (.long q6), .second, .val (.ref b2), .val (.int (3 : Int32)), .val (.ref b15), .val (.long q4), .second, .val (.ref t_54), .unset, .unset] [(.int (1 : Int32)), (.int (3 : Int32))])) _
      refine XS.isub X54.here hx rfl (hb hby at_200) rfl ?_
      show Steps p.tables e below (T54.setTop (mkF m 201 #[.val (.int p1), .val (.long q2), .second, .val (.long q3), .second, .val (.long q4), .second, .val (.long q5), .second, .val (.long q6), .second, .val (.ref b2), .val (.int (3 : Int32)), .val (.ref b15), .val (.long q4), .second, .val (.ref t_54), .unset, .unset] [(.int ((3 : Int32) - (1 : Int32)))])) _
      refine XS.iconst X54.here hx rfl (hb hby at_201) ?_
      show Steps p.tables e below (T54.setTop (mkF m 202 #[.val (.int p1), .val (.long q2), .second, .val (.long q3), .second, .val (.long q4), .second, .val (.long q5), .second, .val (.long q6), .second, .val (.ref b2), .val (.int (3 : Int32)), .val (.ref b15), .val (.long q4), .second, .val (.ref t_54), .unset, .unset] [(.int (3 : Int32)), (.int ((3 : Int32) - (1 : Int32)))])) _
      refine XS.icmpYes X54.here hx rfl (pc0 := 202) (pc' := 217) rfl (hb hby at_202) rfl (tlt (by decide : ((3 : Int32) - (1 : Int32)) < (3 : Int32))).1 (by decide) (by decide) ?_
      show Steps p.tables e below (T54.setTop (mkF m 217 #[.val (.int p1), .val (.long q2), .second, .val (.long q3), .second, .val (.long q4), .second, .val (.long q5), .second, .val (.long q6), .second, .val (.ref b2), .val (.int (3 : Int32)), .val (.ref b15), .val (.long q4), .second, .val (.ref t_54), .unset, .unset] [])) _
      refine XS.iload X54.here hx rfl (hb hby at_217) rfl ?_
      show Steps p.tables e below (T54.setTop (mkF m 219 #[.val (.int p1), .val (.long q2), .second, .val (.long q3), .second, .val (.long q4), .second, .val (.long q5), .second, .val (.long q6), .second, .val (.ref b2), .val (.int (3 : Int32)), .val (.ref b15), .val (.long q4), .second, .val (.ref t_54), .unset, .unset] [(.int (3 : Int32))])) _
      refine XS.iconst X54.here hx rfl (hb hby at_219) ?_
      show Steps p.tables e below (T54.setTop (mkF m 220 #[.val (.int p1), .val (.long q2), .second, .val (.long q3), .second, .val (.long q4), .second, .val (.long q5), .second, .val (.long q6), .second, .val (.ref b2), .val (.int (3 : Int32)), .val (.ref b15), .val (.long q4), .second, .val (.ref t_54), .unset, .unset] [(.int (1 : Int32)), (.int (3 : Int32))])) _
      refine XS.isub X54.here hx rfl (hb hby at_220) rfl ?_
      show Steps p.tables e below (T54.setTop (mkF m 221 #[.val (.int p1), .val (.long q2), .second, .val (.long q3), .second, .val (.long q4), .second, .val (.long q5), .second, .val (.long q6), .second, .val (.ref b2), .val (.int (3 : Int32)), .val (.ref b15), .val (.long q4), .second, .val (.ref t_54), .unset, .unset] [(.int ((3 : Int32) - (1 : Int32)))])) _
      refine XS.iconst X54.here hx rfl (hb hby at_221) ?_
      show Steps p.tables e below (T54.setTop (mkF m 222 #[.val (.int p1), .val (.long q2), .second, .val (.long q3), .second, .val (.long q4), .second, .val (.long q5), .second, .val (.long q6), .second, .val (.ref b2), .val (.int (3 : Int32)), .val (.ref b15), .val (.long q4), .second, .val (.ref t_54), .unset, .unset] [(.int (4 : Int32)), (.int ((3 : Int32) - (1 : Int32)))])) _
      refine XS.icmpYes X54.here hx rfl (pc0 := 222) (pc' := 237) rfl (hb hby at_222) rfl (tlt (by decide : ((3 : Int32) - (1 : Int32)) < (4 : Int32))).1 (by decide) (by decide) ?_
      show Steps p.tables e below (T54.setTop (mkF m 237 #[.val (.int p1), .val (.long q2), .second, .val (.long q3), .second, .val (.long q4), .second, .val (.long q5), .second, .val (.long q6), .second, .val (.ref b2), .val (.int (3 : Int32)), .val (.ref b15), .val (.long q4), .second, .val (.ref t_54), .unset, .unset] [])) _
      refine XS.iload X54.here hx rfl (hb hby at_237) rfl ?_
      show Steps p.tables e below (T54.setTop (mkF m 239 #[.val (.int p1), .val (.long q2), .second, .val (.long q3), .second, .val (.long q4), .second, .val (.long q5), .second, .val (.long q6), .second, .val (.ref b2), .val (.int (3 : Int32)), .val (.ref b15), .val (.long q4), .second, .val (.ref t_54), .unset, .unset] [(.int (3 : Int32))])) _
      refine XS.iconst X54.here hx rfl (hb hby at_239) ?_
      show Steps p.tables e below (T54.setTop (mkF m 240 #[.val (.int p1), .val (.long q2), .second, .val (.long q3), .second, .val (.long q4), .second, .val (.long q5), .second, .val (.long q6), .second, .val (.ref b2), .val (.int (3 : Int32)), .val (.ref b15), .val (.long q4), .second, .val (.ref t_54), .unset, .unset] [(.int (2 : Int32)), (.int (3 : Int32))])) _
      refine XS.icmpNo X54.here hx rfl (hb hby at_240) rfl (flt (by decide : ¬ ((3 : Int32) < (2 : Int32)))).1 ?_
      show Steps p.tables e below (T54.setTop (mkF m 243 #[.val (.int p1), .val (.long q2), .second, .val (.long q3), .second, .val (.long q4), .second, .val (.long q5), .second, .val (.long q6), .second, .val (.ref b2), .val (.int (3 : Int32)), .val (.ref b15), .val (.long q4), .second, .val (.ref t_54), .unset, .unset] [])) _
      refine XS.aload X54.here hx rfl (hb hby at_243) rfl rfl ?_
      show Steps p.tables e below (T54.setTop (mkF m 245 #[.val (.int p1), .val (.long q2), .second, .val (.long q3), .second, .val (.long q4), .second, .val (.long q5), .second, .val (.long q6), .second, .val (.ref b2), .val (.int (3 : Int32)), .val (.ref b15), .val (.long q4), .second, .val (.ref t_54), .unset, .unset] [(.ref b15)])) _
      exact kt
    obtain ⟨cq56, kq56, q56a, q56b, q56c⟩ := isOf hZ rfl E_b15_54
    obtain ⟨_, _, ⟨T56, L56, k56, n56⟩, -, X56, ⟨Lc56, hQ56, l56, y56, z56⟩, st56⟩ := X54.virtualBack hx (y := (⟨"com/example/queries_over_knowledge/queriesoverknowledge/reasoning/LongList", "removeLast", "()J"⟩ : MethodName)) (z := (⟨"com/example/queries_over_knowledge/queriesoverknowledge/reasoning/LongList", "removeLast", "()J"⟩ : MethodName)) hown (mvT hZ (hw _ (List.mem_of_getElem? (i := 20) rfl))) (mvT hZ (hw _ (List.mem_of_getElem? (i := 21) rfl))) (notFace_of_selects (args := #[]) (mvT hZ (hw _ (List.mem_of_getElem? (i := 23) rfl)))) (mvT hZ (hw _ (List.mem_of_getElem? (i := 23) rfl))) (mvT hZ (hw _ (List.mem_of_getElem? (i := 22) rfl))) (by decide) (backOf (W := 0) (rm4 l Z a0 hw [] b15 r17 kr17 (4 : Int32) (2 : Int32) (1 : Int32) [(.long q2), (.long q3), (.long q4), (.long (0 : Int64))] q3 T54.heap n0 Z54 E_b15_54 Fz50_54 Fv50_54 V48_54 (by decide) (by decide) rfl g_b15 ne_b15_r17) hZ (hw _ (List.mem_of_getElem? (i := 24) rfl)) (hw _ (List.mem_of_getElem? (i := 4) rfl)) (by decide) (by decide)) q56a q56c (g := (mkF m 245 #[.val (.int p1), .val (.long q2), .second, .val (.long q3), .second, .val (.long q4), .second, .val (.long q5), .second, .val (.long q6), .second, .val (.ref b2), .val (.int (3 : Int32)), .val (.ref b15), .val (.long q4), .second, .val (.ref t_54), .unset, .unset] [(.ref b15)])) rfl (by rw [hml]; rfl) (Steps.refl _) (argsL := []) (rest := []) (lenOf pd_4 rfl) rfl (by show 2 * 0 + _ ≤ _; exact Nat.le_of_eq rfl) (hb hby at_245) (fun _ _ => ⟨rfl, rfl, (by decide : 4 + 0 ≤ _), (by decide : 19 + 0 ≤ _)⟩)
    dsimp only [Pt.U, Pt.locs, Pt.cells, Pt.slots] at X56 l56 y56 z56 st56 hQ56
    subst l56 y56 z56
    obtain ⟨rfl, N56q, K56, Eq56, Fz56, Fv56⟩ := hQ56
    have N56 := Fr.app N54 N56q
    have V_b2_12_56 : Arv Z T56.heap b2 k2 .long (5 : Int32) [(.long q2), (.long q3), (.long q4), (.long q5), (.long q6)] (.long (0 : Int64)) := V_b2_12_54.keep K56 (ninS ne_b2_b15 nin0)
    have E_b15_56 : Exa Z T56.heap b15 "com/example/queries_over_knowledge/queriesoverknowledge/reasoning/LongList" := E_b15_54.keep K56
    have V48_56 : Arv Z T56.heap r17 kr17 .long (4 : Int32) [(.long q2), (.long q3), (.long q4), (.long (0 : Int64))] (.long (0 : Int64)) := V48_54.keep K56 (ninS (Ne.symm ne_b15_r17) nin0)
    have V_t_54_56 : Arv Z T56.heap t_54 kt54 .long (2 : Int32) [(.long q2), (.long q3)] (.long (0 : Int64)) := V_t_54.keep K56 (ninS (Ne.symm ne_b15_t_54) nin0)
    have Z56 : n0 ≤ T56.heap.size := Nat.le_trans Z54 K56.1
    have G56 : ∀ t, Steps p.tables e below (T56.setTop (mkF m 248 #[.val (.int p1), .val (.long q2), .second, .val (.long q3), .second, .val (.long q4), .second, .val (.long q5), .second, .val (.long q6), .second, .val (.ref b2), .val (.int (3 : Int32)), .val (.ref b15), .val (.long q4), .second, .val (.ref t_54), .unset, .unset] [(.long q3)])) t → Steps p.tables e below (s₁.setTop (entryFrame m #[(.int p1), (.long q2), (.long q3), (.long q4), (.long q5), (.long q6)] maxLocals)) t := fun t kt => G55 t (st56.trans kt)
    obtain ⟨cl_v2, Ar_v2, qq_v2, SS_v2, MM_v2, HH_v2, UU_v2⟩ := id V_b2_12_56
    have hin_v2_258 := inb_of SS_v2 (j := ((3 : Int32) - (2 : Int32))) (by decide)
    have hat_v2_258 : cl_v2.slots[(((3 : Int32) - (2 : Int32))).toNatClampNeg]? = some (.long q3) := HH_v2.at hin_v2_258 rfl
    have G57 : ∀ t, Steps p.tables e below (T56.setTop (mkF m 266 #[.val (.int p1), .val (.long q2), .second, .val (.long q3), .second, .val (.long q4), .second, .val (.long q5), .second, .val (.long q6), .second, .val (.ref b2), .val (.int (3 : Int32)), .val (.ref b15), .val (.long q4), .second, .val (.ref t_54), .val (.long q3), .second] [(.int (1 : Int32))])) t → Steps p.tables e below (s₁.setTop (entryFrame m #[(.int p1), (.long q2), (.long q3), (.long q4), (.long q5), (.long q6)] maxLocals)) t := by
      intro t kt
      refine G56 t ?_
      show Steps p.tables e below (T56.setTop (mkF m 248 #[.val (.int p1), .val (.long q2), .second, .val (.long q3), .second, .val (.long q4), .second, .val (.long q5), .second, .val (.long q6), .second, .val (.ref b2), .val (.int (3 : Int32)), .val (.ref b15), .val (.long q4), .second, .val (.ref t_54), .unset, .unset] [(.long q3)])) _
      refine XS.lstore X56.here hx rfl (hb hby at_248) rfl (l' := #[.val (.int p1), .val (.long q2), .second, .val (.long q3), .second, .val (.long q4), .second, .val (.long q5), .second, .val (.long q6), .second, .val (.ref b2), .val (.int (3 : Int32)), .val (.ref b15), .val (.long q4), .second, .val (.ref t_54), .val (.long q3), .second]) rfl ?_
      show Steps p.tables e below (T56.setTop (mkF m 250 #[.val (.int p1), .val (.long q2), .second, .val (.long q3), .second, .val (.long q4), .second, .val (.long q5), .second, .val (.long q6), .second, .val (.ref b2), .val (.int (3 : Int32)), .val (.ref b15), .val (.long q4), .second, .val (.ref t_54), .val (.long q3), .second] [])) _
      refine XS.lload X56.here hx rfl (hb hby at_250) rfl ?_
      show Steps p.tables e below (T56.setTop (mkF m 252 #[.val (.int p1), .val (.long q2), .second, .val (.long q3), .second, .val (.long q4), .second, .val (.long q5), .second, .val (.long q6), .second, .val (.ref b2), .val (.int (3 : Int32)), .val (.ref b15), .val (.long q4), .second, .val (.ref t_54), .val (.long q3), .second] [(.long q3)])) _
      refine XS.aload X56.here hx rfl (hb hby at_252) rfl rfl ?_
      show Steps p.tables e below (T56.setTop (mkF m 254 #[.val (.int p1), .val (.long q2), .second, .val (.long q3), .second, .val (.long q4), .second, .val (.long q5), .second, .val (.long q6), .second, .val (.ref b2), .val (.int (3 : Int32)), .val (.ref b15), .val (.long q4), .second, .val (.ref t_54), .val (.long q3), .second] [(.ref b2), (.long q3)])) _
      refine XS.iload X56.here hx rfl (hb hby at_254) rfl ?_
      show Steps p.tables e below (T56.setTop (mkF m 256 #[.val (.int p1), .val (.long q2), .second, .val (.long q3), .second, .val (.long q4), .second, .val (.long q5), .second, .val (.long q6), .second, .val (.ref b2), .val (.int (3 : Int32)), .val (.ref b15), .val (.long q4), .second, .val (.ref t_54), .val (.long q3), .second] [(.int (3 : Int32)), (.ref b2), (.long q3)])) _
      refine XS.iconst X56.here hx rfl (hb hby at_256) ?_
      show Steps p.tables e below (T56.setTop (mkF m 257 #[.val (.int p1), .val (.long q2), .second, .val (.long q3), .second, .val (.long q4), .second, .val (.long q5), .second, .val (.long q6), .second, .val (.ref b2), .val (.int (3 : Int32)), .val (.ref b15), .val (.long q4), .second, .val (.ref t_54), .val (.long q3), .second] [(.int (2 : Int32)), (.int (3 : Int32)), (.ref b2), (.long q3)])) _
      refine XS.isub X56.here hx rfl (hb hby at_257) rfl ?_
      show Steps p.tables e below (T56.setTop (mkF m 258 #[.val (.int p1), .val (.long q2), .second, .val (.long q3), .second, .val (.long q4), .second, .val (.long q5), .second, .val (.long q6), .second, .val (.ref b2), .val (.int (3 : Int32)), .val (.ref b15), .val (.long q4), .second, .val (.ref t_54), .val (.long q3), .second] [(.int ((3 : Int32) - (2 : Int32))), (.ref b2), (.long q3)])) _
      refine X56.laload hx (j := ((3 : Int32) - (2 : Int32))) (v := (.long q3)) Ar_v2.1 (State.isArrayOf_alike hZ.alike Ar_v2.2.1) Ar_v2.2.2 hin_v2_258 hat_v2_258 (g := (mkF m 258 #[.val (.int p1), .val (.long q2), .second, .val (.long q3), .second, .val (.long q4), .second, .val (.long q5), .second, .val (.long q6), .second, .val (.ref b2), .val (.int (3 : Int32)), .val (.ref b15), .val (.long q4), .second, .val (.ref t_54), .val (.long q3), .second] [(.int ((3 : Int32) - (2 : Int32))), (.ref b2), (.long q3)])) rfl rfl (hb hby at_258) _ ?_
      show Steps p.tables e below (T56.setTop (mkF m 259 #[.val (.int p1), .val (.long q2), .second, .val (.long q3), .second, .val (.long q4), .second, .val (.long q5), .second, .val (.long q6), .second, .val (.ref b2), .val (.int (3 : Int32)), .val (.ref b15), .val (.long q4), .second, .val (.ref t_54), .val (.long q3), .second] [(.long q3), (.long q3)])) _
      refine XS.lcmp X56.here hx rfl (hb hby at_259) rfl ?_
      show Steps p.tables e below (T56.setTop (mkF m 260 #[.val (.int p1), .val (.long q2), .second, .val (.long q3), .second, .val (.long q4), .second, .val (.long q5), .second, .val (.long q6), .second, .val (.ref b2), .val (.int (3 : Int32)), .val (.ref b15), .val (.long q4), .second, .val (.ref t_54), .val (.long q3), .second] [(.int (lcmpW q3 q3))])) _
      refine XS.ifYes X56.here hx rfl (pc0 := 260) (pc' := 265) rfl (hb hby at_260) rfl ((if0 _ _).trans (teq ((lw_eq _ _).mpr rfl)).1) (by decide) (by decide) ?_
      show Steps p.tables e below (T56.setTop (mkF m 265 #[.val (.int p1), .val (.long q2), .second, .val (.long q3), .second, .val (.long q4), .second, .val (.long q5), .second, .val (.long q6), .second, .val (.ref b2), .val (.int (3 : Int32)), .val (.ref b15), .val (.long q4), .second, .val (.ref t_54), .val (.long q3), .second] [])) _
      refine XS.iconst X56.here hx rfl (hb hby at_265) ?_
      show Steps p.tables e below (T56.setTop (mkF m 266 #[.val (.int p1), .val (.long q2), .second, .val (.long q3), .second, .val (.long q4), .second, .val (.long q5), .second, .val (.long q6), .second, .val (.ref b2), .val (.int (3 : Int32)), .val (.ref b15), .val (.long q4), .second, .val (.ref t_54), .val (.long q3), .second] [(.int (1 : Int32))])) _
      exact kt
    obtain ⟨fs, hr, hrun, hended, hW, hsame⟩ := X56.leave (v := some (.int (1 : Int32))) (fun h => by rw [Bd.returns] at h; cases h)
    refine ⟨_, _, G57 _ ?_, hrun, hended, _, _, rfl, ?_, ⟨_, rfl⟩, hW, hsame.mono (by decide) (by decide)⟩
    · show Steps p.tables e below (T56.setTop (mkF m 266 #[.val (.int p1), .val (.long q2), .second, .val (.long q3), .second, .val (.long q4), .second, .val (.long q5), .second, .val (.long q6), .second, .val (.ref b2), .val (.int (3 : Int32)), .val (.ref b15), .val (.long q4), .second, .val (.ref t_54), .val (.long q3), .second] [(.int (1 : Int32))])) _
      exact retN X56 hx (t := .boolean) Bd.returns (by simp) (hb hby at_266) hr
    · show Q0 Z p1 q2 q3 q4 q5 q6 h0 n0 _ T56.heap _
      exact ⟨rfl, N56⟩
  · clear hK
    have G58 : ∀ t, Steps p.tables e below (T17.setTop (mkF m 45 #[.val (.int p1), .val (.long q2), .second, .val (.long q3), .second, .val (.long q4), .second, .val (.long q5), .second, .val (.long q6), .second, .val (.ref b2), .val (.int (4 : Int32)), .unset, .unset, .unset, .unset, .unset, .unset] [(.ref b15)])) t → Steps p.tables e below (s₁.setTop (entryFrame m #[(.int p1), (.long q2), (.long q3), (.long q4), (.long q5), (.long q6)] maxLocals)) t := by
      intro t kt
      refine G17 t ?_
      rw [q]
      exact kt
    have G59 : ∀ t, Steps p.tables e below (T17.setTop (mkF m 50 #[.val (.int p1), .val (.long q2), .second, .val (.long q3), .second, .val (.long q4), .second, .val (.long q5), .second, .val (.long q6), .second, .val (.ref b2), .val (.int (4 : Int32)), .val (.ref b15), .unset, .unset, .unset, .unset, .unset] [(.long q2), (.ref b15)])) t → Steps p.tables e below (s₁.setTop (entryFrame m #[(.int p1), (.long q2), (.long q3), (.long q4), (.long q5), (.long q6)] maxLocals)) t := by
      intro t kt
      refine G58 t ?_
      show Steps p.tables e below (T17.setTop (mkF m 45 #[.val (.int p1), .val (.long q2), .second, .val (.long q3), .second, .val (.long q4), .second, .val (.long q5), .second, .val (.long q6), .second, .val (.ref b2), .val (.int (4 : Int32)), .unset, .unset, .unset, .unset, .unset, .unset] [(.ref b15)])) _
      refine XS.astore X17.here hx rfl (hb hby at_45) rfl rfl (l' := #[.val (.int p1), .val (.long q2), .second, .val (.long q3), .second, .val (.long q4), .second, .val (.long q5), .second, .val (.long q6), .second, .val (.ref b2), .val (.int (4 : Int32)), .val (.ref b15), .unset, .unset, .unset, .unset, .unset]) rfl ?_
      show Steps p.tables e below (T17.setTop (mkF m 47 #[.val (.int p1), .val (.long q2), .second, .val (.long q3), .second, .val (.long q4), .second, .val (.long q5), .second, .val (.long q6), .second, .val (.ref b2), .val (.int (4 : Int32)), .val (.ref b15), .unset, .unset, .unset, .unset, .unset] [])) _
      refine XS.aload X17.here hx rfl (hb hby at_47) rfl rfl ?_
      show Steps p.tables e below (T17.setTop (mkF m 49 #[.val (.int p1), .val (.long q2), .second, .val (.long q3), .second, .val (.long q4), .second, .val (.long q5), .second, .val (.long q6), .second, .val (.ref b2), .val (.int (4 : Int32)), .val (.ref b15), .unset, .unset, .unset, .unset, .unset] [(.ref b15)])) _
      refine XS.lloadN X17.here hx rfl (hb hby at_49) rfl ?_
      show Steps p.tables e below (T17.setTop (mkF m 50 #[.val (.int p1), .val (.long q2), .second, .val (.long q3), .second, .val (.long q4), .second, .val (.long q5), .second, .val (.long q6), .second, .val (.ref b2), .val (.int (4 : Int32)), .val (.ref b15), .unset, .unset, .unset, .unset, .unset] [(.long q2), (.ref b15)])) _
      exact kt
    obtain ⟨cq60, kq60, q60a, q60b, q60c⟩ := isOf hZ rfl E_b15_17
    obtain ⟨_, _, ⟨T60, L60, k60, n60⟩, -, X60, ⟨Lc60, hQ60, l60, y60, z60⟩, st60⟩ := X17.virtualBack hx (y := (⟨"com/example/queries_over_knowledge/queriesoverknowledge/reasoning/LongList", "add", "(J)V"⟩ : MethodName)) (z := (⟨"com/example/queries_over_knowledge/queriesoverknowledge/reasoning/LongList", "add", "(J)V"⟩ : MethodName)) hown (mvT hZ (hw _ (List.mem_of_getElem? (i := 13) rfl))) (mvT hZ (hw _ (List.mem_of_getElem? (i := 14) rfl))) (notFace_of_selects (args := #[]) (mvT hZ (hw _ (List.mem_of_getElem? (i := 16) rfl)))) (mvT hZ (hw _ (List.mem_of_getElem? (i := 16) rfl))) (mvT hZ (hw _ (List.mem_of_getElem? (i := 15) rfl))) (by decide) (backOf (W := 0) (rm3a l Z a0 hw [] b15 q2 r17 kr17 (4 : Int32) (0 : Int32) (1 : Int32) 0 [(.long (0 : Int64)), (.long (0 : Int64)), (.long (0 : Int64)), (.long (0 : Int64))] T17.heap n0 Z17 E_b15_17 Fz17 Fv17 V_r17 (by decide) (by decide) (by decide) (Nat.le_of_ble_eq_true rfl) (by decide) g_b15 g_r17 ne_b15_r17) hZ (hw _ (List.mem_of_getElem? (i := 17) rfl)) (hw _ (List.mem_of_getElem? (i := 4) rfl)) (by decide) (by decide)) q60a q60c (g := (mkF m 50 #[.val (.int p1), .val (.long q2), .second, .val (.long q3), .second, .val (.long q4), .second, .val (.long q5), .second, .val (.long q6), .second, .val (.ref b2), .val (.int (4 : Int32)), .val (.ref b15), .unset, .unset, .unset, .unset, .unset] [(.long q2), (.ref b15)])) rfl (by rw [hml]; rfl) (Steps.refl _) (argsL := [(.long q2)]) (rest := []) (lenOf pd_3 rfl) rfl (by show 2 * 0 + _ ≤ _; exact Nat.le_of_eq rfl) (hb hby at_50) (fun _ _ => ⟨rfl, rfl, (by decide : 3 + 0 ≤ _), (by decide : 11 + 0 ≤ _)⟩)
    dsimp only [Pt.U, Pt.locs, Pt.cells, Pt.slots] at X60 l60 y60 z60 st60 hQ60
    subst l60 y60 z60
    obtain ⟨rfl, N60q, K60, Eq60, Fz60, Fv60, V60'⟩ := hQ60
    have N60 := Fr.app N17 N60q
    have V_b2_12_60 : Arv Z T60.heap b2 k2 .long (5 : Int32) [(.long q2), (.long q3), (.long q4), (.long q5), (.long q6)] (.long (0 : Int64)) := V_b2_12_17.keep K60 (ninS ne_b2_b15 (ninS ne_b2_r17 nin0))
    have E_b15_60 : Exa Z T60.heap b15 "com/example/queries_over_knowledge/queriesoverknowledge/reasoning/LongList" := E_b15_17.keep K60
    have Z60 : n0 ≤ T60.heap.size := Nat.le_trans Z17 K60.1
    have G60 : ∀ t, Steps p.tables e below (T60.setTop (mkF m 53 #[.val (.int p1), .val (.long q2), .second, .val (.long q3), .second, .val (.long q4), .second, .val (.long q5), .second, .val (.long q6), .second, .val (.ref b2), .val (.int (4 : Int32)), .val (.ref b15), .unset, .unset, .unset, .unset, .unset] [])) t → Steps p.tables e below (s₁.setTop (entryFrame m #[(.int p1), (.long q2), (.long q3), (.long q4), (.long q5), (.long q6)] maxLocals)) t := fun t kt => G59 t (st60.trans kt)
    have V60 : Arv Z T60.heap r17 kr17 .long (4 : Int32) [(.long q2), (.long (0 : Int64)), (.long (0 : Int64)), (.long (0 : Int64))] (.long (0 : Int64)) := V60'
    have G61 : ∀ t, Steps p.tables e below (T60.setTop (mkF m 62 #[.val (.int p1), .val (.long q2), .second, .val (.long q3), .second, .val (.long q4), .second, .val (.long q5), .second, .val (.long q6), .second, .val (.ref b2), .val (.int (4 : Int32)), .val (.ref b15), .unset, .unset, .unset, .unset, .unset] [(.long q3), (.ref b15)])) t → Steps p.tables e below (s₁.setTop (entryFrame m #[(.int p1), (.long q2), (.long q3), (.long q4), (.long q5), (.long q6)] maxLocals)) t := by
      intro t kt
      refine G60 t ?_
      show Steps p.tables e below (T60.setTop (mkF m 53 #[.val (.int p1), .val (.long q2), .second, .val (.long q3), .second, .val (.long q4), .second, .val (.long q5), .second, .val (.long q6), .second, .val (.ref b2), .val (.int (4 : Int32)), .val (.ref b15), .unset, .unset, .unset, .unset, .unset] [])) _
      refine XS.iload X60.here hx rfl (hb hby at_53) rfl ?_
      show Steps p.tables e below (T60.setTop (mkF m 55 #[.val (.int p1), .val (.long q2), .second, .val (.long q3), .second, .val (.long q4), .second, .val (.long q5), .second, .val (.long q6), .second, .val (.ref b2), .val (.int (4 : Int32)), .val (.ref b15), .unset, .unset, .unset, .unset, .unset] [(.int (4 : Int32))])) _
      refine XS.iconst X60.here hx rfl (hb hby at_55) ?_
      show Steps p.tables e below (T60.setTop (mkF m 56 #[.val (.int p1), .val (.long q2), .second, .val (.long q3), .second, .val (.long q4), .second, .val (.long q5), .second, .val (.long q6), .second, .val (.ref b2), .val (.int (4 : Int32)), .val (.ref b15), .unset, .unset, .unset, .unset, .unset] [(.int (2 : Int32)), (.int (4 : Int32))])) _
      refine XS.icmpNo X60.here hx rfl (hb hby at_56) rfl (flt (by decide : ¬ ((4 : Int32) < (2 : Int32)))).1 ?_
      show Steps p.tables e below (T60.setTop (mkF m 59 #[.val (.int p1), .val (.long q2), .second, .val (.long q3), .second, .val (.long q4), .second, .val (.long q5), .second, .val (.long q6), .second, .val (.ref b2), .val (.int (4 : Int32)), .val (.ref b15), .unset, .unset, .unset, .unset, .unset] [])) _
      refine XS.aload X60.here hx rfl (hb hby at_59) rfl rfl ?_
      show Steps p.tables e below (T60.setTop (mkF m 61 #[.val (.int p1), .val (.long q2), .second, .val (.long q3), .second, .val (.long q4), .second, .val (.long q5), .second, .val (.long q6), .second, .val (.ref b2), .val (.int (4 : Int32)), .val (.ref b15), .unset, .unset, .unset, .unset, .unset] [(.ref b15)])) _
      refine XS.lloadN X60.here hx rfl (hb hby at_61) rfl ?_
      show Steps p.tables e below (T60.setTop (mkF m 62 #[.val (.int p1), .val (.long q2), .second, .val (.long q3), .second, .val (.long q4), .second, .val (.long q5), .second, .val (.long q6), .second, .val (.ref b2), .val (.int (4 : Int32)), .val (.ref b15), .unset, .unset, .unset, .unset, .unset] [(.long q3), (.ref b15)])) _
      exact kt
    obtain ⟨cq62, kq62, q62a, q62b, q62c⟩ := isOf hZ rfl E_b15_60
    obtain ⟨_, _, ⟨T62, L62, k62, n62⟩, -, X62, ⟨Lc62, hQ62, l62, y62, z62⟩, st62⟩ := X60.virtualBack hx (y := (⟨"com/example/queries_over_knowledge/queriesoverknowledge/reasoning/LongList", "add", "(J)V"⟩ : MethodName)) (z := (⟨"com/example/queries_over_knowledge/queriesoverknowledge/reasoning/LongList", "add", "(J)V"⟩ : MethodName)) hown (mvT hZ (hw _ (List.mem_of_getElem? (i := 13) rfl))) (mvT hZ (hw _ (List.mem_of_getElem? (i := 14) rfl))) (notFace_of_selects (args := #[]) (mvT hZ (hw _ (List.mem_of_getElem? (i := 16) rfl)))) (mvT hZ (hw _ (List.mem_of_getElem? (i := 16) rfl))) (mvT hZ (hw _ (List.mem_of_getElem? (i := 15) rfl))) (by decide) (backOf (W := 0) (rm3a l Z a0 hw [] b15 q3 r17 kr17 (4 : Int32) (1 : Int32) (2 : Int32) 1 [(.long q2), (.long (0 : Int64)), (.long (0 : Int64)), (.long (0 : Int64))] T60.heap n0 Z60 E_b15_60 Fz60 Fv60 V60 (by decide) (by decide) (by decide) (Nat.le_of_ble_eq_true rfl) (by decide) g_b15 g_r17 ne_b15_r17) hZ (hw _ (List.mem_of_getElem? (i := 17) rfl)) (hw _ (List.mem_of_getElem? (i := 4) rfl)) (by decide) (by decide)) q62a q62c (g := (mkF m 62 #[.val (.int p1), .val (.long q2), .second, .val (.long q3), .second, .val (.long q4), .second, .val (.long q5), .second, .val (.long q6), .second, .val (.ref b2), .val (.int (4 : Int32)), .val (.ref b15), .unset, .unset, .unset, .unset, .unset] [(.long q3), (.ref b15)])) rfl (by rw [hml]; rfl) (Steps.refl _) (argsL := [(.long q3)]) (rest := []) (lenOf pd_3 rfl) rfl (by show 2 * 0 + _ ≤ _; exact Nat.le_of_eq rfl) (hb hby at_62) (fun _ _ => ⟨rfl, rfl, (by decide : 3 + 0 ≤ _), (by decide : 11 + 0 ≤ _)⟩)
    dsimp only [Pt.U, Pt.locs, Pt.cells, Pt.slots] at X62 l62 y62 z62 st62 hQ62
    subst l62 y62 z62
    obtain ⟨rfl, N62q, K62, Eq62, Fz62, Fv62, V62'⟩ := hQ62
    have N62 := Fr.app N60 N62q
    have V_b2_12_62 : Arv Z T62.heap b2 k2 .long (5 : Int32) [(.long q2), (.long q3), (.long q4), (.long q5), (.long q6)] (.long (0 : Int64)) := V_b2_12_60.keep K62 (ninS ne_b2_b15 (ninS ne_b2_r17 nin0))
    have E_b15_62 : Exa Z T62.heap b15 "com/example/queries_over_knowledge/queriesoverknowledge/reasoning/LongList" := E_b15_60.keep K62
    have Z62 : n0 ≤ T62.heap.size := Nat.le_trans Z60 K62.1
    have G62 : ∀ t, Steps p.tables e below (T62.setTop (mkF m 65 #[.val (.int p1), .val (.long q2), .second, .val (.long q3), .second, .val (.long q4), .second, .val (.long q5), .second, .val (.long q6), .second, .val (.ref b2), .val (.int (4 : Int32)), .val (.ref b15), .unset, .unset, .unset, .unset, .unset] [])) t → Steps p.tables e below (s₁.setTop (entryFrame m #[(.int p1), (.long q2), (.long q3), (.long q4), (.long q5), (.long q6)] maxLocals)) t := fun t kt => G61 t (st62.trans kt)
    have V62 : Arv Z T62.heap r17 kr17 .long (4 : Int32) [(.long q2), (.long q3), (.long (0 : Int64)), (.long (0 : Int64))] (.long (0 : Int64)) := V62'
    have G63 : ∀ t, Steps p.tables e below (T62.setTop (mkF m 75 #[.val (.int p1), .val (.long q2), .second, .val (.long q3), .second, .val (.long q4), .second, .val (.long q5), .second, .val (.long q6), .second, .val (.ref b2), .val (.int (4 : Int32)), .val (.ref b15), .unset, .unset, .unset, .unset, .unset] [(.long q4), (.ref b15)])) t → Steps p.tables e below (s₁.setTop (entryFrame m #[(.int p1), (.long q2), (.long q3), (.long q4), (.long q5), (.long q6)] maxLocals)) t := by
      intro t kt
      refine G62 t ?_
      show Steps p.tables e below (T62.setTop (mkF m 65 #[.val (.int p1), .val (.long q2), .second, .val (.long q3), .second, .val (.long q4), .second, .val (.long q5), .second, .val (.long q6), .second, .val (.ref b2), .val (.int (4 : Int32)), .val (.ref b15), .unset, .unset, .unset, .unset, .unset] [])) _
      refine XS.iload X62.here hx rfl (hb hby at_65) rfl ?_
      show Steps p.tables e below (T62.setTop (mkF m 67 #[.val (.int p1), .val (.long q2), .second, .val (.long q3), .second, .val (.long q4), .second, .val (.long q5), .second, .val (.long q6), .second, .val (.ref b2), .val (.int (4 : Int32)), .val (.ref b15), .unset, .unset, .unset, .unset, .unset] [(.int (4 : Int32))])) _
      refine XS.iconst X62.here hx rfl (hb hby at_67) ?_
      show Steps p.tables e below (T62.setTop (mkF m 68 #[.val (.int p1), .val (.long q2), .second, .val (.long q3), .second, .val (.long q4), .second, .val (.long q5), .second, .val (.long q6), .second, .val (.ref b2), .val (.int (4 : Int32)), .val (.ref b15), .unset, .unset, .unset, .unset, .unset] [(.int (3 : Int32)), (.int (4 : Int32))])) _
      refine XS.icmpNo X62.here hx rfl (hb hby at_68) rfl (flt (by decide : ¬ ((4 : Int32) < (3 : Int32)))).1 ?_
      show Steps p.tables e below (T62.setTop (mkF m 71 #[.val (.int p1), .val (.long q2), .second, .val (.long q3), .second, .val (.long q4), .second, .val (.long q5), .second, .val (.long q6), .second, .val (.ref b2), .val (.int (4 : Int32)), .val (.ref b15), .unset, .unset, .unset, .unset, .unset] [])) _
      refine XS.aload X62.here hx rfl (hb hby at_71) rfl rfl ?_
      show Steps p.tables e below (T62.setTop (mkF m 73 #[.val (.int p1), .val (.long q2), .second, .val (.long q3), .second, .val (.long q4), .second, .val (.long q5), .second, .val (.long q6), .second, .val (.ref b2), .val (.int (4 : Int32)), .val (.ref b15), .unset, .unset, .unset, .unset, .unset] [(.ref b15)])) _
      refine XS.lload X62.here hx rfl (hb hby at_73) rfl ?_
      show Steps p.tables e below (T62.setTop (mkF m 75 #[.val (.int p1), .val (.long q2), .second, .val (.long q3), .second, .val (.long q4), .second, .val (.long q5), .second, .val (.long q6), .second, .val (.ref b2), .val (.int (4 : Int32)), .val (.ref b15), .unset, .unset, .unset, .unset, .unset] [(.long q4), (.ref b15)])) _
      exact kt
    obtain ⟨cq64, kq64, q64a, q64b, q64c⟩ := isOf hZ rfl E_b15_62
    obtain ⟨_, _, ⟨T64, L64, k64, n64⟩, -, X64, ⟨Lc64, hQ64, l64, y64, z64⟩, st64⟩ := X62.virtualBack hx (y := (⟨"com/example/queries_over_knowledge/queriesoverknowledge/reasoning/LongList", "add", "(J)V"⟩ : MethodName)) (z := (⟨"com/example/queries_over_knowledge/queriesoverknowledge/reasoning/LongList", "add", "(J)V"⟩ : MethodName)) hown (mvT hZ (hw _ (List.mem_of_getElem? (i := 13) rfl))) (mvT hZ (hw _ (List.mem_of_getElem? (i := 14) rfl))) (notFace_of_selects (args := #[]) (mvT hZ (hw _ (List.mem_of_getElem? (i := 16) rfl)))) (mvT hZ (hw _ (List.mem_of_getElem? (i := 16) rfl))) (mvT hZ (hw _ (List.mem_of_getElem? (i := 15) rfl))) (by decide) (backOf (W := 0) (rm3a l Z a0 hw [] b15 q4 r17 kr17 (4 : Int32) (2 : Int32) (3 : Int32) 2 [(.long q2), (.long q3), (.long (0 : Int64)), (.long (0 : Int64))] T62.heap n0 Z62 E_b15_62 Fz62 Fv62 V62 (by decide) (by decide) (by decide) (Nat.le_of_ble_eq_true rfl) (by decide) g_b15 g_r17 ne_b15_r17) hZ (hw _ (List.mem_of_getElem? (i := 17) rfl)) (hw _ (List.mem_of_getElem? (i := 4) rfl)) (by decide) (by decide)) q64a q64c (g := (mkF m 75 #[.val (.int p1), .val (.long q2), .second, .val (.long q3), .second, .val (.long q4), .second, .val (.long q5), .second, .val (.long q6), .second, .val (.ref b2), .val (.int (4 : Int32)), .val (.ref b15), .unset, .unset, .unset, .unset, .unset] [(.long q4), (.ref b15)])) rfl (by rw [hml]; rfl) (Steps.refl _) (argsL := [(.long q4)]) (rest := []) (lenOf pd_3 rfl) rfl (by show 2 * 0 + _ ≤ _; exact Nat.le_of_eq rfl) (hb hby at_75) (fun _ _ => ⟨rfl, rfl, (by decide : 3 + 0 ≤ _), (by decide : 11 + 0 ≤ _)⟩)
    dsimp only [Pt.U, Pt.locs, Pt.cells, Pt.slots] at X64 l64 y64 z64 st64 hQ64
    subst l64 y64 z64
    obtain ⟨rfl, N64q, K64, Eq64, Fz64, Fv64, V64'⟩ := hQ64
    have N64 := Fr.app N62 N64q
    have V_b2_12_64 : Arv Z T64.heap b2 k2 .long (5 : Int32) [(.long q2), (.long q3), (.long q4), (.long q5), (.long q6)] (.long (0 : Int64)) := V_b2_12_62.keep K64 (ninS ne_b2_b15 (ninS ne_b2_r17 nin0))
    have E_b15_64 : Exa Z T64.heap b15 "com/example/queries_over_knowledge/queriesoverknowledge/reasoning/LongList" := E_b15_62.keep K64
    have Z64 : n0 ≤ T64.heap.size := Nat.le_trans Z62 K64.1
    have G64 : ∀ t, Steps p.tables e below (T64.setTop (mkF m 78 #[.val (.int p1), .val (.long q2), .second, .val (.long q3), .second, .val (.long q4), .second, .val (.long q5), .second, .val (.long q6), .second, .val (.ref b2), .val (.int (4 : Int32)), .val (.ref b15), .unset, .unset, .unset, .unset, .unset] [])) t → Steps p.tables e below (s₁.setTop (entryFrame m #[(.int p1), (.long q2), (.long q3), (.long q4), (.long q5), (.long q6)] maxLocals)) t := fun t kt => G63 t (st64.trans kt)
    have V64 : Arv Z T64.heap r17 kr17 .long (4 : Int32) [(.long q2), (.long q3), (.long q4), (.long (0 : Int64))] (.long (0 : Int64)) := V64'
    have G65 : ∀ t, Steps p.tables e below (T64.setTop (mkF m 88 #[.val (.int p1), .val (.long q2), .second, .val (.long q3), .second, .val (.long q4), .second, .val (.long q5), .second, .val (.long q6), .second, .val (.ref b2), .val (.int (4 : Int32)), .val (.ref b15), .unset, .unset, .unset, .unset, .unset] [(.long q5), (.ref b15)])) t → Steps p.tables e below (s₁.setTop (entryFrame m #[(.int p1), (.long q2), (.long q3), (.long q4), (.long q5), (.long q6)] maxLocals)) t := by
      intro t kt
      refine G64 t ?_
      show Steps p.tables e below (T64.setTop (mkF m 78 #[.val (.int p1), .val (.long q2), .second, .val (.long q3), .second, .val (.long q4), .second, .val (.long q5), .second, .val (.long q6), .second, .val (.ref b2), .val (.int (4 : Int32)), .val (.ref b15), .unset, .unset, .unset, .unset, .unset] [])) _
      refine XS.iload X64.here hx rfl (hb hby at_78) rfl ?_
      show Steps p.tables e below (T64.setTop (mkF m 80 #[.val (.int p1), .val (.long q2), .second, .val (.long q3), .second, .val (.long q4), .second, .val (.long q5), .second, .val (.long q6), .second, .val (.ref b2), .val (.int (4 : Int32)), .val (.ref b15), .unset, .unset, .unset, .unset, .unset] [(.int (4 : Int32))])) _
      refine XS.iconst X64.here hx rfl (hb hby at_80) ?_
      show Steps p.tables e below (T64.setTop (mkF m 81 #[.val (.int p1), .val (.long q2), .second, .val (.long q3), .second, .val (.long q4), .second, .val (.long q5), .second, .val (.long q6), .second, .val (.ref b2), .val (.int (4 : Int32)), .val (.ref b15), .unset, .unset, .unset, .unset, .unset] [(.int (4 : Int32)), (.int (4 : Int32))])) _
      refine XS.icmpNo X64.here hx rfl (hb hby at_81) rfl (flt (by decide : ¬ ((4 : Int32) < (4 : Int32)))).1 ?_
      show Steps p.tables e below (T64.setTop (mkF m 84 #[.val (.int p1), .val (.long q2), .second, .val (.long q3), .second, .val (.long q4), .second, .val (.long q5), .second, .val (.long q6), .second, .val (.ref b2), .val (.int (4 : Int32)), .val (.ref b15), .unset, .unset, .unset, .unset, .unset] [])) _
      refine XS.aload X64.here hx rfl (hb hby at_84) rfl rfl ?_
      show Steps p.tables e below (T64.setTop (mkF m 86 #[.val (.int p1), .val (.long q2), .second, .val (.long q3), .second, .val (.long q4), .second, .val (.long q5), .second, .val (.long q6), .second, .val (.ref b2), .val (.int (4 : Int32)), .val (.ref b15), .unset, .unset, .unset, .unset, .unset] [(.ref b15)])) _
      refine XS.lload X64.here hx rfl (hb hby at_86) rfl ?_
      show Steps p.tables e below (T64.setTop (mkF m 88 #[.val (.int p1), .val (.long q2), .second, .val (.long q3), .second, .val (.long q4), .second, .val (.long q5), .second, .val (.long q6), .second, .val (.ref b2), .val (.int (4 : Int32)), .val (.ref b15), .unset, .unset, .unset, .unset, .unset] [(.long q5), (.ref b15)])) _
      exact kt
    obtain ⟨cq66, kq66, q66a, q66b, q66c⟩ := isOf hZ rfl E_b15_64
    obtain ⟨_, _, ⟨T66, L66, k66, n66⟩, -, X66, ⟨Lc66, hQ66, l66, y66, z66⟩, st66⟩ := X64.virtualBack hx (y := (⟨"com/example/queries_over_knowledge/queriesoverknowledge/reasoning/LongList", "add", "(J)V"⟩ : MethodName)) (z := (⟨"com/example/queries_over_knowledge/queriesoverknowledge/reasoning/LongList", "add", "(J)V"⟩ : MethodName)) hown (mvT hZ (hw _ (List.mem_of_getElem? (i := 13) rfl))) (mvT hZ (hw _ (List.mem_of_getElem? (i := 14) rfl))) (notFace_of_selects (args := #[]) (mvT hZ (hw _ (List.mem_of_getElem? (i := 16) rfl)))) (mvT hZ (hw _ (List.mem_of_getElem? (i := 16) rfl))) (mvT hZ (hw _ (List.mem_of_getElem? (i := 15) rfl))) (by decide) (backOf (W := 0) (rm3a l Z a0 hw [] b15 q5 r17 kr17 (4 : Int32) (3 : Int32) (4 : Int32) 3 [(.long q2), (.long q3), (.long q4), (.long (0 : Int64))] T64.heap n0 Z64 E_b15_64 Fz64 Fv64 V64 (by decide) (by decide) (by decide) (Nat.le_of_ble_eq_true rfl) (by decide) g_b15 g_r17 ne_b15_r17) hZ (hw _ (List.mem_of_getElem? (i := 17) rfl)) (hw _ (List.mem_of_getElem? (i := 4) rfl)) (by decide) (by decide)) q66a q66c (g := (mkF m 88 #[.val (.int p1), .val (.long q2), .second, .val (.long q3), .second, .val (.long q4), .second, .val (.long q5), .second, .val (.long q6), .second, .val (.ref b2), .val (.int (4 : Int32)), .val (.ref b15), .unset, .unset, .unset, .unset, .unset] [(.long q5), (.ref b15)])) rfl (by rw [hml]; rfl) (Steps.refl _) (argsL := [(.long q5)]) (rest := []) (lenOf pd_3 rfl) rfl (by show 2 * 0 + _ ≤ _; exact Nat.le_of_eq rfl) (hb hby at_88) (fun _ _ => ⟨rfl, rfl, (by decide : 3 + 0 ≤ _), (by decide : 11 + 0 ≤ _)⟩)
    dsimp only [Pt.U, Pt.locs, Pt.cells, Pt.slots] at X66 l66 y66 z66 st66 hQ66
    subst l66 y66 z66
    obtain ⟨rfl, N66q, K66, Eq66, Fz66, Fv66, V66'⟩ := hQ66
    have N66 := Fr.app N64 N66q
    have V_b2_12_66 : Arv Z T66.heap b2 k2 .long (5 : Int32) [(.long q2), (.long q3), (.long q4), (.long q5), (.long q6)] (.long (0 : Int64)) := V_b2_12_64.keep K66 (ninS ne_b2_b15 (ninS ne_b2_r17 nin0))
    have E_b15_66 : Exa Z T66.heap b15 "com/example/queries_over_knowledge/queriesoverknowledge/reasoning/LongList" := E_b15_64.keep K66
    have Z66 : n0 ≤ T66.heap.size := Nat.le_trans Z64 K66.1
    have G66 : ∀ t, Steps p.tables e below (T66.setTop (mkF m 91 #[.val (.int p1), .val (.long q2), .second, .val (.long q3), .second, .val (.long q4), .second, .val (.long q5), .second, .val (.long q6), .second, .val (.ref b2), .val (.int (4 : Int32)), .val (.ref b15), .unset, .unset, .unset, .unset, .unset] [])) t → Steps p.tables e below (s₁.setTop (entryFrame m #[(.int p1), (.long q2), (.long q3), (.long q4), (.long q5), (.long q6)] maxLocals)) t := fun t kt => G65 t (st66.trans kt)
    have V66 : Arv Z T66.heap r17 kr17 .long (4 : Int32) [(.long q2), (.long q3), (.long q4), (.long q5)] (.long (0 : Int64)) := V66'
    have G67 : ∀ t, Steps p.tables e below (T66.setTop (mkF m 106 #[.val (.int p1), .val (.long q2), .second, .val (.long q3), .second, .val (.long q4), .second, .val (.long q5), .second, .val (.long q6), .second, .val (.ref b2), .val (.int (4 : Int32)), .val (.ref b15), .unset, .unset, .unset, .unset, .unset] [(.ref b15)])) t → Steps p.tables e below (s₁.setTop (entryFrame m #[(.int p1), (.long q2), (.long q3), (.long q4), (.long q5), (.long q6)] maxLocals)) t := by
      intro t kt
      refine G66 t ?_
      show Steps p.tables e below (T66.setTop (mkF m 91 #[.val (.int p1), .val (.long q2), .second, .val (.long q3), .second, .val (.long q4), .second, .val (.long q5), .second, .val (.long q6), .second, .val (.ref b2), .val (.int (4 : Int32)), .val (.ref b15), .unset, .unset, .unset, .unset, .unset] [])) _
      refine XS.iload X66.here hx rfl (hb hby at_91) rfl ?_
      show Steps p.tables e below (T66.setTop (mkF m 93 #[.val (.int p1), .val (.long q2), .second, .val (.long q3), .second, .val (.long q4), .second, .val (.long q5), .second, .val (.long q6), .second, .val (.ref b2), .val (.int (4 : Int32)), .val (.ref b15), .unset, .unset, .unset, .unset, .unset] [(.int (4 : Int32))])) _
      refine XS.iconst X66.here hx rfl (hb hby at_93) ?_
      show Steps p.tables e below (T66.setTop (mkF m 94 #[.val (.int p1), .val (.long q2), .second, .val (.long q3), .second, .val (.long q4), .second, .val (.long q5), .second, .val (.long q6), .second, .val (.ref b2), .val (.int (4 : Int32)), .val (.ref b15), .unset, .unset, .unset, .unset, .unset] [(.int (5 : Int32)), (.int (4 : Int32))])) _
      refine XS.icmpYes X66.here hx rfl (pc0 := 94) (pc' := 104) rfl (hb hby at_94) rfl (tlt (by decide : (4 : Int32) < (5 : Int32))).1 (by decide) (by decide) ?_
      show Steps p.tables e below (T66.setTop (mkF m 104 #[.val (.int p1), .val (.long q2), .second, .val (.long q3), .second, .val (.long q4), .second, .val (.long q5), .second, .val (.long q6), .second, .val (.ref b2), .val (.int (4 : Int32)), .val (.ref b15), .unset, .unset, .unset, .unset, .unset] [])) _
      refine XS.aload X66.here hx rfl (hb hby at_104) rfl rfl ?_
      show Steps p.tables e below (T66.setTop (mkF m 106 #[.val (.int p1), .val (.long q2), .second, .val (.long q3), .second, .val (.long q4), .second, .val (.long q5), .second, .val (.long q6), .second, .val (.ref b2), .val (.int (4 : Int32)), .val (.ref b15), .unset, .unset, .unset, .unset, .unset] [(.ref b15)])) _
      exact kt
    obtain ⟨cq68, kq68, q68a, q68b, q68c⟩ := isOf hZ rfl E_b15_66
    obtain ⟨_, _, ⟨T68, L68, k68, n68⟩, -, X68, ⟨Lc68, hQ68, l68, y68, z68⟩, st68⟩ := X66.virtualBack hx (y := (⟨"com/example/queries_over_knowledge/queriesoverknowledge/reasoning/LongList", "removeLast", "()J"⟩ : MethodName)) (z := (⟨"com/example/queries_over_knowledge/queriesoverknowledge/reasoning/LongList", "removeLast", "()J"⟩ : MethodName)) hown (mvT hZ (hw _ (List.mem_of_getElem? (i := 20) rfl))) (mvT hZ (hw _ (List.mem_of_getElem? (i := 21) rfl))) (notFace_of_selects (args := #[]) (mvT hZ (hw _ (List.mem_of_getElem? (i := 23) rfl)))) (mvT hZ (hw _ (List.mem_of_getElem? (i := 23) rfl))) (mvT hZ (hw _ (List.mem_of_getElem? (i := 22) rfl))) (by decide) (backOf (W := 0) (rm4 l Z a0 hw [] b15 r17 kr17 (4 : Int32) (4 : Int32) (3 : Int32) [(.long q2), (.long q3), (.long q4), (.long q5)] q5 T66.heap n0 Z66 E_b15_66 Fz66 Fv66 V66 (by decide) (by decide) rfl g_b15 ne_b15_r17) hZ (hw _ (List.mem_of_getElem? (i := 24) rfl)) (hw _ (List.mem_of_getElem? (i := 4) rfl)) (by decide) (by decide)) q68a q68c (g := (mkF m 106 #[.val (.int p1), .val (.long q2), .second, .val (.long q3), .second, .val (.long q4), .second, .val (.long q5), .second, .val (.long q6), .second, .val (.ref b2), .val (.int (4 : Int32)), .val (.ref b15), .unset, .unset, .unset, .unset, .unset] [(.ref b15)])) rfl (by rw [hml]; rfl) (Steps.refl _) (argsL := []) (rest := []) (lenOf pd_4 rfl) rfl (by show 2 * 0 + _ ≤ _; exact Nat.le_of_eq rfl) (hb hby at_106) (fun _ _ => ⟨rfl, rfl, (by decide : 3 + 0 ≤ _), (by decide : 11 + 0 ≤ _)⟩)
    dsimp only [Pt.U, Pt.locs, Pt.cells, Pt.slots] at X68 l68 y68 z68 st68 hQ68
    subst l68 y68 z68
    obtain ⟨rfl, N68q, K68, Eq68, Fz68, Fv68⟩ := hQ68
    have N68 := Fr.app N66 N68q
    have V_b2_12_68 : Arv Z T68.heap b2 k2 .long (5 : Int32) [(.long q2), (.long q3), (.long q4), (.long q5), (.long q6)] (.long (0 : Int64)) := V_b2_12_66.keep K68 (ninS ne_b2_b15 nin0)
    have E_b15_68 : Exa Z T68.heap b15 "com/example/queries_over_knowledge/queriesoverknowledge/reasoning/LongList" := E_b15_66.keep K68
    have V66_68 : Arv Z T68.heap r17 kr17 .long (4 : Int32) [(.long q2), (.long q3), (.long q4), (.long q5)] (.long (0 : Int64)) := V66.keep K68 (ninS (Ne.symm ne_b15_r17) nin0)
    have Z68 : n0 ≤ T68.heap.size := Nat.le_trans Z66 K68.1
    have G68 : ∀ t, Steps p.tables e below (T68.setTop (mkF m 109 #[.val (.int p1), .val (.long q2), .second, .val (.long q3), .second, .val (.long q4), .second, .val (.long q5), .second, .val (.long q6), .second, .val (.ref b2), .val (.int (4 : Int32)), .val (.ref b15), .unset, .unset, .unset, .unset, .unset] [(.long q5)])) t → Steps p.tables e below (s₁.setTop (entryFrame m #[(.int p1), (.long q2), (.long q3), (.long q4), (.long q5), (.long q6)] maxLocals)) t := fun t kt => G67 t (st68.trans kt)
    obtain ⟨cl_v1, Ar_v1, qq_v1, SS_v1, MM_v1, HH_v1, UU_v1⟩ := id V_b2_12_68
    have hin_v1_119 := inb_of SS_v1 (j := ((4 : Int32) - (1 : Int32))) (by decide)
    have hat_v1_119 : cl_v1.slots[(((4 : Int32) - (1 : Int32))).toNatClampNeg]? = some (.long q5) := HH_v1.at hin_v1_119 rfl
    have G69 : ∀ t, Steps p.tables e below (T68.setTop (mkF m 128 #[.val (.int p1), .val (.long q2), .second, .val (.long q3), .second, .val (.long q4), .second, .val (.long q5), .second, .val (.long q6), .second, .val (.ref b2), .val (.int (4 : Int32)), .val (.ref b15), .val (.long q5), .second, .unset, .unset, .unset] [(.ref b15)])) t → Steps p.tables e below (s₁.setTop (entryFrame m #[(.int p1), (.long q2), (.long q3), (.long q4), (.long q5), (.long q6)] maxLocals)) t := by
      intro t kt
      refine G68 t ?_
      show Steps p.tables e below (T68.setTop (mkF m 109 #[.val (.int p1), .val (.long q2), .second, .val (.long q3), .second, .val (.long q4), .second, .val (.long q5), .second, .val (.long q6), .second, .val (.ref b2), .val (.int (4 : Int32)), .val (.ref b15), .unset, .unset, .unset, .unset, .unset] [(.long q5)])) _
      refine XS.lstore X68.here hx rfl (hb hby at_109) rfl (l' := #[.val (.int p1), .val (.long q2), .second, .val (.long q3), .second, .val (.long q4), .second, .val (.long q5), .second, .val (.long q6), .second, .val (.ref b2), .val (.int (4 : Int32)), .val (.ref b15), .val (.long q5), .second, .unset, .unset, .unset]) rfl ?_
      show Steps p.tables e below (T68.setTop (mkF m 111 #[.val (.int p1), .val (.long q2), .second, .val (.long q3), .second, .val (.long q4), .second, .val (.long q5), .second, .val (.long q6), .second, .val (.ref b2), .val (.int (4 : Int32)), .val (.ref b15), .val (.long q5), .second, .unset, .unset, .unset] [])) _
      refine XS.lload X68.here hx rfl (hb hby at_111) rfl ?_
      show Steps p.tables e below (T68.setTop (mkF m 113 #[.val (.int p1), .val (.long q2), .second, .val (.long q3), .second, .val (.long q4), .second, .val (.long q5), .second, .val (.long q6), .second, .val (.ref b2), .val (.int (4 : Int32)), .val (.ref b15), .val (.long q5), .second, .unset, .unset, .unset] [(.long q5)])) _
      refine XS.aload X68.here hx rfl (hb hby at_113) rfl rfl ?_
      show Steps p.tables e below (T68.setTop (mkF m 115 #[.val (.int p1), .val (.long q2), .second, .val (.long q3), .second, .val (.long q4), .second, .val (.long q5), .second, .val (.long q6), .second, .val (.ref b2), .val (.int (4 : Int32)), .val (.ref b15), .val (.long q5), .second, .unset, .unset, .unset] [(.ref b2), (.long q5)])) _
      refine XS.iload X68.here hx rfl (hb hby at_115) rfl ?_
      show Steps p.tables e below (T68.setTop (mkF m 117 #[.val (.int p1), .val (.long q2), .second, .val (.long q3), .second, .val (.long q4), .second, .val (.long q5), .second, .val (.long q6), .second, .val (.ref b2), .val (.int (4 : Int32)), .val (.ref b15), .val (.long q5), .second, .unset, .unset, .unset] [(.int (4 : Int32)), (.ref b2), (.long q5)])) _
      refine XS.iconst X68.here hx rfl (hb hby at_117) ?_
      show Steps p.tables e below (T68.setTop (mkF m 118 #[.val (.int p1), .val (.long q2), .second, .val (.long q3), .second, .val (.long q4), .second, .val (.long q5), .second, .val (.long q6), .second, .val (.ref b2), .val (.int (4 : Int32)), .val (.ref b15), .val (.long q5), .second, .unset, .unset, .unset] [(.int (1 : Int32)), (.int (4 : Int32)), (.ref b2), (.long q5)])) _
      refine XS.isub X68.here hx rfl (hb hby at_118) rfl ?_
      show Steps p.tables e below (T68.setTop (mkF m 119 #[.val (.int p1), .val (.long q2), .second, .val (.long q3), .second, .val (.long q4), .second, .val (.long q5), .second, .val (.long q6), .second, .val (.ref b2), .val (.int (4 : Int32)), .val (.ref b15), .val (.long q5), .second, .unset, .unset, .unset] [(.int ((4 : Int32) - (1 : Int32))), (.ref b2), (.long q5)])) _
      refine X68.laload hx (j := ((4 : Int32) - (1 : Int32))) (v := (.long q5)) Ar_v1.1 (State.isArrayOf_alike hZ.alike Ar_v1.2.1) Ar_v1.2.2 hin_v1_119 hat_v1_119 (g := (mkF m 119 #[.val (.int p1), .val (.long q2), .second, .val (.long q3), .second, .val (.long q4), .second, .val (.long q5), .second, .val (.long q6), .second, .val (.ref b2), .val (.int (4 : Int32)), .val (.ref b15), .val (.long q5), .second, .unset, .unset, .unset] [(.int ((4 : Int32) - (1 : Int32))), (.ref b2), (.long q5)])) rfl rfl (hb hby at_119) _ ?_
      show Steps p.tables e below (T68.setTop (mkF m 120 #[.val (.int p1), .val (.long q2), .second, .val (.long q3), .second, .val (.long q4), .second, .val (.long q5), .second, .val (.long q6), .second, .val (.ref b2), .val (.int (4 : Int32)), .val (.ref b15), .val (.long q5), .second, .unset, .unset, .unset] [(.long q5), (.long q5)])) _
      refine XS.lcmp X68.here hx rfl (hb hby at_120) rfl ?_
      show Steps p.tables e below (T68.setTop (mkF m 121 #[.val (.int p1), .val (.long q2), .second, .val (.long q3), .second, .val (.long q4), .second, .val (.long q5), .second, .val (.long q6), .second, .val (.ref b2), .val (.int (4 : Int32)), .val (.ref b15), .val (.long q5), .second, .unset, .unset, .unset] [(.int (lcmpW q5 q5))])) _
      refine XS.ifYes X68.here hx rfl (pc0 := 121) (pc' := 126) rfl (hb hby at_121) rfl ((if0 _ _).trans (teq ((lw_eq _ _).mpr rfl)).1) (by decide) (by decide) ?_
      show Steps p.tables e below (T68.setTop (mkF m 126 #[.val (.int p1), .val (.long q2), .second, .val (.long q3), .second, .val (.long q4), .second, .val (.long q5), .second, .val (.long q6), .second, .val (.ref b2), .val (.int (4 : Int32)), .val (.ref b15), .val (.long q5), .second, .unset, .unset, .unset] [])) _
      refine XS.aload X68.here hx rfl (hb hby at_126) rfl rfl ?_
      show Steps p.tables e below (T68.setTop (mkF m 128 #[.val (.int p1), .val (.long q2), .second, .val (.long q3), .second, .val (.long q4), .second, .val (.long q5), .second, .val (.long q6), .second, .val (.ref b2), .val (.int (4 : Int32)), .val (.ref b15), .val (.long q5), .second, .unset, .unset, .unset] [(.ref b15)])) _
      exact kt
    obtain ⟨cq70, kq70, q70a, q70b, q70c⟩ := isOf hZ rfl E_b15_68
    obtain ⟨_, _, ⟨T70, L70, k70, n70⟩, -, X70, ⟨Lc70, hQ70, l70, y70, z70⟩, st70⟩ := X68.virtualBack hx (y := (⟨"com/example/queries_over_knowledge/queriesoverknowledge/reasoning/LongList", "size", "()I"⟩ : MethodName)) (z := (⟨"com/example/queries_over_knowledge/queriesoverknowledge/reasoning/LongList", "size", "()I"⟩ : MethodName)) hown (mvT hZ (hw _ (List.mem_of_getElem? (i := 25) rfl))) (mvT hZ (hw _ (List.mem_of_getElem? (i := 26) rfl))) (notFace_of_selects (args := #[]) (mvT hZ (hw _ (List.mem_of_getElem? (i := 28) rfl)))) (mvT hZ (hw _ (List.mem_of_getElem? (i := 28) rfl))) (mvT hZ (hw _ (List.mem_of_getElem? (i := 27) rfl))) (by decide) (backOf (W := 0) (rm5 l Z a0 hw [] b15 (3 : Int32) T68.heap n0 Z68 Fz68) hZ (hw _ (List.mem_of_getElem? (i := 29) rfl)) (hw _ (List.mem_of_getElem? (i := 4) rfl)) (by decide) (by decide)) q70a q70c (g := (mkF m 128 #[.val (.int p1), .val (.long q2), .second, .val (.long q3), .second, .val (.long q4), .second, .val (.long q5), .second, .val (.long q6), .second, .val (.ref b2), .val (.int (4 : Int32)), .val (.ref b15), .val (.long q5), .second, .unset, .unset, .unset] [(.ref b15)])) rfl (by rw [hml]; rfl) (Steps.refl _) (argsL := []) (rest := []) (lenOf pd_5 rfl) rfl (by show 2 * 0 + _ ≤ _; exact Nat.le_of_eq rfl) (hb hby at_128) (fun _ _ => ⟨rfl, rfl, (by decide : 3 + 0 ≤ _), (by decide : 11 + 0 ≤ _)⟩)
    dsimp only [Pt.U, Pt.locs, Pt.cells, Pt.slots] at X70 l70 y70 z70 st70 hQ70
    subst l70 y70 z70
    obtain ⟨rfl, N70q, e70⟩ := hQ70
    have N70 := Fr.app N68 N70q
    have G70 : ∀ t, Steps p.tables e below (T70.setTop (mkF m 131 #[.val (.int p1), .val (.long q2), .second, .val (.long q3), .second, .val (.long q4), .second, .val (.long q5), .second, .val (.long q6), .second, .val (.ref b2), .val (.int (4 : Int32)), .val (.ref b15), .val (.long q5), .second, .unset, .unset, .unset] [(.int (3 : Int32))])) t → Steps p.tables e below (s₁.setTop (entryFrame m #[(.int p1), (.long q2), (.long q3), (.long q4), (.long q5), (.long q6)] maxLocals)) t := fun t kt => G69 t (st70.trans kt)
    have G71 : ∀ t, Steps p.tables e below (T70.setTop (mkF m 142 #[.val (.int p1), .val (.long q2), .second, .val (.long q3), .second, .val (.long q4), .second, .val (.long q5), .second, .val (.long q6), .second, .val (.ref b2), .val (.int (4 : Int32)), .val (.ref b15), .val (.long q5), .second, .unset, .unset, .unset] [(.ref b15)])) t → Steps p.tables e below (s₁.setTop (entryFrame m #[(.int p1), (.long q2), (.long q3), (.long q4), (.long q5), (.long q6)] maxLocals)) t := by
      intro t kt
      refine G70 t ?_
      show Steps p.tables e below (T70.setTop (mkF m 131 #[.val (.int p1), .val (.long q2), .second, .val (.long q3), .second, .val (.long q4), .second, .val (.long q5), .second, .val (.long q6), .second, .val (.ref b2), .val (.int (4 : Int32)), .val (.ref b15), .val (.long q5), .second, .unset, .unset, .unset] [(.int (3 : Int32))])) _
      refine XS.iload X70.here hx rfl (hb hby at_131) rfl ?_
      show Steps p.tables e below (T70.setTop (mkF m 133 #[.val (.int p1), .val (.long q2), .second, .val (.long q3), .second, .val (.long q4), .second, .val (.long q5), .second, .val (.long q6), .second, .val (.ref b2), .val (.int (4 : Int32)), .val (.ref b15), .val (.long q5), .second, .unset, .unset, .unset] [(.int (4 : Int32)), (.int (3 : Int32))])) _
      refine XS.iconst X70.here hx rfl (hb hby at_133) ?_
      show Steps p.tables e below (T70.setTop (mkF m 134 #[.val (.int p1), .val (.long q2), .second, .val (.long q3), .second, .val (.long q4), .second, .val (.long q5), .second, .val (.long q6), .second, .val (.ref b2), .val (.int (4 : Int32)), .val (.ref b15), .val (.long q5), .second, .unset, .unset, .unset] [(.int (1 : Int32)), (.int (4 : Int32)), (.int (3 : Int32))])) _
      refine XS.isub X70.here hx rfl (hb hby at_134) rfl ?_
      show Steps p.tables e below (T70.setTop (mkF m 135 #[.val (.int p1), .val (.long q2), .second, .val (.long q3), .second, .val (.long q4), .second, .val (.long q5), .second, .val (.long q6), .second, .val (.ref b2), .val (.int (4 : Int32)), .val (.ref b15), .val (.long q5), .second, .unset, .unset, .unset] [(.int ((4 : Int32) - (1 : Int32))), (.int (3 : Int32))])) _
      refine XS.icmpYes X70.here hx rfl (pc0 := 135) (pc' := 140) rfl (hb hby at_135) rfl (teq (by decide : (3 : Int32) = ((4 : Int32) - (1 : Int32)))).1 (by decide) (by decide) ?_
      show Steps p.tables e below (T70.setTop (mkF m 140 #[.val (.int p1), .val (.long q2), .second, .val (.long q3), .second, .val (.long q4), .second, .val (.long q5), .second, .val (.long q6), .second, .val (.ref b2), .val (.int (4 : Int32)), .val (.ref b15), .val (.long q5), .second, .unset, .unset, .unset] [])) _
      refine XS.aload X70.here hx rfl (hb hby at_140) rfl rfl ?_
      show Steps p.tables e below (T70.setTop (mkF m 142 #[.val (.int p1), .val (.long q2), .second, .val (.long q3), .second, .val (.long q4), .second, .val (.long q5), .second, .val (.long q6), .second, .val (.ref b2), .val (.int (4 : Int32)), .val (.ref b15), .val (.long q5), .second, .unset, .unset, .unset] [(.ref b15)])) _
      exact kt
    obtain ⟨cq72, kq72, q72a, q72b, q72c⟩ := isOf hZ e70 E_b15_68
    obtain ⟨_, _, ⟨T72, L72, k72, n72⟩, -, X72, ⟨Lc72, hQ72, l72, y72, z72⟩, st72⟩ := X70.virtualBack hx (y := (⟨"com/example/queries_over_knowledge/queriesoverknowledge/reasoning/LongList", "toArray", "()[J"⟩ : MethodName)) (z := (⟨"com/example/queries_over_knowledge/queriesoverknowledge/reasoning/LongList", "toArray", "()[J"⟩ : MethodName)) hown (mvT hZ (hw _ (List.mem_of_getElem? (i := 30) rfl))) (mvT hZ (hw _ (List.mem_of_getElem? (i := 31) rfl))) (notFace_of_selects (args := #[]) (mvT hZ (hw _ (List.mem_of_getElem? (i := 33) rfl)))) (mvT hZ (hw _ (List.mem_of_getElem? (i := 33) rfl))) (mvT hZ (hw _ (List.mem_of_getElem? (i := 32) rfl))) (by decide) (backOf (W := 0) (rm6 l Z a0 hw [] b15 r17 kr17 (4 : Int32) (3 : Int32) (3 : Int32) [(.long q2), (.long q3), (.long q4), (.long q5)] [(.long q2), (.long q3), (.long q4)] [(.long q2), (.long q3), (.long q4)] T68.heap n0 Z68 Fz68 Fv68 V66_68 (by decide) (by decide) (by decide) (by decide) (by decide) (by decide) (by decide) rfl rfl) hZ (hw _ (List.mem_of_getElem? (i := 34) rfl)) (hw _ (List.mem_of_getElem? (i := 4) rfl)) (by decide) (by decide)) q72a q72c (g := (mkF m 142 #[.val (.int p1), .val (.long q2), .second, .val (.long q3), .second, .val (.long q4), .second, .val (.long q5), .second, .val (.long q6), .second, .val (.ref b2), .val (.int (4 : Int32)), .val (.ref b15), .val (.long q5), .second, .unset, .unset, .unset] [(.ref b15)])) rfl (by rw [hml]; rfl) (Steps.refl _) (argsL := []) (rest := []) (lenOf pd_6 rfl) rfl (by show 2 * 0 + _ ≤ _; exact Nat.le_of_eq rfl) (hb hby at_142) (fun _ _ => ⟨rfl, e70, (by decide : 3 + 1 ≤ _), (by decide : 11 + 8 ≤ _)⟩)
    dsimp only [Pt.U, Pt.locs, Pt.cells, Pt.slots] at X72 l72 y72 z72 st72 hQ72
    subst l72 y72 z72
    obtain ⟨t_72, kt72, rfl, N72q, K72, g_t_72, szq72, V_t_72⟩ := hQ72
    have N72 := Fr.app N70 N72q
    have ne_b2_t_72 : b2 ≠ t_72 := Nat.ne_of_lt (Nat.lt_of_lt_of_le V_b2_12_68.lt szq72)
    have ne_b15_t_72 : b15 ≠ t_72 := Nat.ne_of_lt (Nat.lt_of_lt_of_le E_b15_68.lt szq72)
    have ne_r17_t_72 : r17 ≠ t_72 := Nat.ne_of_lt (Nat.lt_of_lt_of_le V66_68.lt szq72)
    have V_b2_12_72 : Arv Z T72.heap b2 k2 .long (5 : Int32) [(.long q2), (.long q3), (.long q4), (.long q5), (.long q6)] (.long (0 : Int64)) := V_b2_12_68.keep K72 nin0
    have E_b15_72 : Exa Z T72.heap b15 "com/example/queries_over_knowledge/queriesoverknowledge/reasoning/LongList" := E_b15_68.keep K72
    have V66_72 : Arv Z T72.heap r17 kr17 .long (4 : Int32) [(.long q2), (.long q3), (.long q4), (.long q5)] (.long (0 : Int64)) := V66_68.keep K72 nin0
    have Fz68_72 : Fld Z T72.heap b15 "com/example/queries_over_knowledge/queriesoverknowledge/reasoning/LongList" "size" "I" (.int (3 : Int32)) := Fz68.keep K72 nin0
    have Fv68_72 : Fld Z T72.heap b15 "com/example/queries_over_knowledge/queriesoverknowledge/reasoning/LongList" "values" "[J" (.ref r17) := Fv68.keep K72 nin0
    have Z72 : n0 ≤ T72.heap.size := Nat.le_trans Z68 K72.1
    have G72 : ∀ t, Steps p.tables e below (T72.setTop (mkF m 145 #[.val (.int p1), .val (.long q2), .second, .val (.long q3), .second, .val (.long q4), .second, .val (.long q5), .second, .val (.long q6), .second, .val (.ref b2), .val (.int (4 : Int32)), .val (.ref b15), .val (.long q5), .second, .unset, .unset, .unset] [(.ref t_72)])) t → Steps p.tables e below (s₁.setTop (entryFrame m #[(.int p1), (.long q2), (.long q3), (.long q4), (.long q5), (.long q6)] maxLocals)) t := fun t kt => G71 t (st72.trans kt)
    obtain ⟨cl_t1, Ar_t1, qq_t1, SS_t1, MM_t1, HH_t1, UU_t1⟩ := id V_t_72
    have hin_t1_170 := inb_of SS_t1 (j := (0 : Int32)) (by decide)
    have hat_t1_170 : cl_t1.slots[((0 : Int32)).toNatClampNeg]? = some (.long q2) := HH_t1.at hin_t1_170 rfl
    have hin_t1_189 := inb_of SS_t1 (j := (1 : Int32)) (by decide)
    have hat_t1_189 : cl_t1.slots[((1 : Int32)).toNatClampNeg]? = some (.long q3) := HH_t1.at hin_t1_189 rfl
    have hin_t1_208 := inb_of SS_t1 (j := (2 : Int32)) (by decide)
    have hat_t1_208 : cl_t1.slots[((2 : Int32)).toNatClampNeg]? = some (.long q4) := HH_t1.at hin_t1_208 rfl
    have G73 : ∀ t, Steps p.tables e below (T72.setTop (mkF m 245 #[.val (.int p1), .val (.long q2), .second, .val (.long q3), .second, .val (.long q4), .second, .val (.long q5), .second, .val (.long q6), .second, .val (.ref b2), .val (.int (4 : Int32)), .val (.ref b15), .val (.long q5), .second, .val (.ref t_72), .unset, .unset] [(.ref b15)])) t → Steps p.tables e below (s₁.setTop (entryFrame m #[(.int p1), (.long q2), (.long q3), (.long q4), (.long q5), (.long q6)] maxLocals)) t := by
      intro t kt
      refine G72 t ?_
      show Steps p.tables e below (T72.setTop (mkF m 145 #[.val (.int p1), .val (.long q2), .second, .val (.long q3), .second, .val (.long q4), .second, .val (.long q5), .second, .val (.long q6), .second, .val (.ref b2), .val (.int (4 : Int32)), .val (.ref b15), .val (.long q5), .second, .unset, .unset, .unset] [(.ref t_72)])) _
      refine XS.astore X72.here hx rfl (hb hby at_145) rfl rfl (l' := #[.val (.int p1), .val (.long q2), .second, .val (.long q3), .second, .val (.long q4), .second, .val (.long q5), .second, .val (.long q6), .second, .val (.ref b2), .val (.int (4 : Int32)), .val (.ref b15), .val (.long q5), .second, .val (.ref t_72), .unset, .unset]) rfl ?_
      show Steps p.tables e below (T72.setTop (mkF m 147 #[.val (.int p1), .val (.long q2), .second, .val (.long q3), .second, .val (.long q4), .second, .val (.long q5), .second, .val (.long q6), .second, .val (.ref b2), .val (.int (4 : Int32)), .val (.ref b15), .val (.long q5), .second, .val (.ref t_72), .unset, .unset] [])) _
      refine XS.aload X72.here hx rfl (hb hby at_147) rfl rfl ?_
      show Steps p.tables e below (T72.setTop (mkF m 149 #[.val (.int p1), .val (.long q2), .second, .val (.long q3), .second, .val (.long q4), .second, .val (.long q5), .second, .val (.long q6), .second, .val (.ref b2), .val (.int (4 : Int32)), .val (.ref b15), .val (.long q5), .second, .val (.ref t_72), .unset, .unset] [(.ref t_72)])) _
      refine X72.arraylength hx (cell := cl_t1) Ar_t1.1 (State.isArrayOf_alike hZ.alike Ar_t1.2.1) (g := (mkF m 149 #[.val (.int p1), .val (.long q2), .second, .val (.long q3), .second, .val (.long q4), .second, .val (.long q5), .second, .val (.long q6), .second, .val (.ref b2), .val (.int (4 : Int32)), .val (.ref b15), .val (.long q5), .second, .val (.ref t_72), .unset, .unset] [(.ref t_72)])) rfl rfl (hb hby at_149) _ ?_
      rw [len_of SS_t1 MM_t1]
      show Steps p.tables e below (T72.setTop (mkF m 150 #[.val (.int p1), .val (.long q2), .second, .val (.long q3), .second, .val (.long q4), .second, .val (.long q5), .second, .val (.long q6), .second, .val (.ref b2), .val (.int (4 : Int32)), .val (.ref b15), .val (.long q5), .second, .val (.ref t_72), .unset, .unset] [(.int (3 : Int32))])) _
      refine XS.iload X72.here hx rfl (hb hby at_150) rfl ?_
      show Steps p.tables e below (T72.setTop (mkF m 152 #[.val (.int p1), .val (.long q2), .second, .val (.long q3), .second, .val (.long q4), .second, .val (.long q5), .second, .val (.long q6), .second, .val (.ref b2), .val (.int (4 : Int32)), .val (.ref b15), .val (.long q5), .second, .val (.ref t_72), .unset, .unset] [(.int (4 : Int32)), (.int (3 : Int32))])) _
      refine XS.iconst X72.here hx rfl (hb hby at_152) ?_
      show Steps p.tables e below (T72.setTop (mkF m 153 #[.val (.int p1), .val (.long q2), .second, .val (.long q3), .second, .val (.long q4), .second, .val (.long q5), .second, .val (.long q6), .second, .val (.ref b2), .val (.int (4 : Int32)), .val (.ref b15), .val (.long q5), .second, .val (.ref t_72), .unset, .unset] [(.int (1 : Int32)), (.int (4 : Int32)), (.int (3 : Int32))])) _
      refine XS.isub X72.here hx rfl (hb hby at_153) rfl ?_
      show Steps p.tables e below (T72.setTop (mkF m 154 #[.val (.int p1), .val (.long q2), .second, .val (.long q3), .second, .val (.long q4), .second, .val (.long q5), .second, .val (.long q6), .second, .val (.ref b2), .val (.int (4 : Int32)), .val (.ref b15), .val (.long q5), .second, .val (.ref t_72), .unset, .unset] [(.int ((4 : Int32) - (1 : Int32))), (.int (3 : Int32))])) _
      refine XS.icmpYes X72.here hx rfl (pc0 := 154) (pc' := 159) rfl (hb hby at_154) rfl (teq (by decide : (3 : Int32) = ((4 : Int32) - (1 : Int32)))).1 (by decide) (by decide) ?_
      show Steps p.tables e below (T72.setTop (mkF m 159 #[.val (.int p1), .val (.long q2), .second, .val (.long q3), .second, .val (.long q4), .second, .val (.long q5), .second, .val (.long q6), .second, .val (.ref b2), .val (.int (4 : Int32)), .val (.ref b15), .val (.long q5), .second, .val (.ref t_72), .unset, .unset] [])) _
      refine XS.iload X72.here hx rfl (hb hby at_159) rfl ?_
      show Steps p.tables e below (T72.setTop (mkF m 161 #[.val (.int p1), .val (.long q2), .second, .val (.long q3), .second, .val (.long q4), .second, .val (.long q5), .second, .val (.long q6), .second, .val (.ref b2), .val (.int (4 : Int32)), .val (.ref b15), .val (.long q5), .second, .val (.ref t_72), .unset, .unset] [(.int (4 : Int32))])) _
      refine XS.iconst X72.here hx rfl (hb hby at_161) ?_
      show Steps p.tables e below (T72.setTop (mkF m 162 #[.val (.int p1), .val (.long q2), .second, .val (.long q3), .second, .val (.long q4), .second, .val (.long q5), .second, .val (.long q6), .second, .val (.ref b2), .val (.int (4 : Int32)), .val (.ref b15), .val (.long q5), .second, .val (.ref t_72), .unset, .unset] [(.int (1 : Int32)), (.int (4 : Int32))])) _
      refine XS.isub X72.here hx rfl (hb hby at_162) rfl ?_
      show Steps p.tables e below (T72.setTop (mkF m 163 #[.val (.int p1), .val (.long q2), .second, .val (.long q3), .second, .val (.long q4), .second, .val (.long q5), .second, .val (.long q6), .second, .val (.ref b2), .val (.int (4 : Int32)), .val (.ref b15), .val (.long q5), .second, .val (.ref t_72), .unset, .unset] [(.int ((4 : Int32) - (1 : Int32)))])) _
      refine XS.iconst X72.here hx rfl (hb hby at_163) ?_
      show Steps p.tables e below (T72.setTop (mkF m 164 #[.val (.int p1), .val (.long q2), .second, .val (.long q3), .second, .val (.long q4), .second, .val (.long q5), .second, .val (.long q6), .second, .val (.ref b2), .val (.int (4 : Int32)), .val (.ref b15), .val (.long q5), .second, .val (.ref t_72), .unset, .unset] [(.int (1 : Int32)), (.int ((4 : Int32) - (1 : Int32)))])) _
      refine XS.icmpNo X72.here hx rfl (hb hby at_164) rfl (flt (by decide : ¬ (((4 : Int32) - (1 : Int32)) < (1 : Int32)))).1 ?_
      show Steps p.tables e below (T72.setTop (mkF m 167 #[.val (.int p1), .val (.long q2), .second, .val (.long q3), .second, .val (.long q4), .second, .val (.long q5), .second, .val (.long q6), .second, .val (.ref b2), .val (.int (4 : Int32)), .val (.ref b15), .val (.long q5), .second, .val (.ref t_72), .unset, .unset] [])) _
      refine XS.aload X72.here hx rfl (hb hby at_167) rfl rfl ?_
      show Steps p.tables e below (T72.setTop (mkF m 169 #[.val (.int p1), .val (.long q2), .second, .val (.long q3), .second, .val (.long q4), .second, .val (.long q5), .second, .val (.long q6), .second, .val (.ref b2), .val (.int (4 : Int32)), .val (.ref b15), .val (.long q5), .second, .val (.ref t_72), .unset, .unset] [(.ref t_72)])) _
      refine XS.iconst X72.here hx rfl (hb hby at_169) ?_
      show Steps p.tables e below (T72.setTop (mkF m 170 #[.val (.int p1), .val (.long q2), .second, .val (.long q3), .second, .val (.long q4), .second, .val (.long q5), .second, .val (.long q6), .second, .val (.ref b2), .val (.int (4 : Int32)), .val (.ref b15), .val (.long q5), .second, .val (.ref t_72), .unset, .unset] [(.int (0 : Int32)), (.ref t_72)])) _
      refine X72.laload hx (j := (0 : Int32)) (v := (.long q2)) Ar_t1.1 (State.isArrayOf_alike hZ.alike Ar_t1.2.1) Ar_t1.2.2 hin_t1_170 hat_t1_170 (g := (mkF m 170 #[.val (.int p1), .val (.long q2), .second, .val (.long q3), .second, .val (.long q4), .second, .val (.long q5), .second, .val (.long q6), .second, .val (.ref b2), .val (.int (4 : Int32)), .val (.ref b15), .val (.long q5), .second, .val (.ref t_72), .unset, .unset] [(.int (0 : Int32)), (.ref t_72)])) rfl rfl (hb hby at_170) _ ?_
      show Steps p.tables e below (T72.setTop (mkF m 171 #[.val (.int p1), .val (.long q2), .second, .val (.long q3), .second, .val (.long q4), .second, .val (.long q5), .second, .val (.long q6), .second, .val (.ref b2), .val (.int (4 : Int32)), .val (.ref b15), .val (.long q5), .second, .val (.ref t_72), .unset, .unset] [(.long q2)])) _
      refine XS.lloadN X72.here hx rfl (hb hby at_171) rfl ?_
      show Steps p.tables e below (T72.setTop (mkF m 172 #[.val (.int p1), .val (.long q2), .second, .val (.long q3), .second, .val (.long q4), .second, .val (.long q5), .second, .val (.long q6), .second, .val (.ref b2), .val (.int (4 : Int32)), .val (.ref b15), .val (.long q5), .second, .val (.ref t_72), .unset, .unset] [(.long q2), (.long q2)])) _
      refine XS.lcmp X72.here hx rfl (hb hby at_172) rfl ?_
      show Steps p.tables e below (T72.setTop (mkF m 173 #[.val (.int p1), .val (.long q2), .second, .val (.long q3), .second, .val (.long q4), .second, .val (.long q5), .second, .val (.long q6), .second, .val (.ref b2), .val (.int (4 : Int32)), .val (.ref b15), .val (.long q5), .second, .val (.ref t_72), .unset, .unset] [(.int (lcmpW q2 q2))])) _
      refine XS.ifYes X72.here hx rfl (pc0 := 173) (pc' := 178) rfl (hb hby at_173) rfl ((if0 _ _).trans (teq ((lw_eq _ _).mpr rfl)).1) (by decide) (by decide) ?_
      show Steps p.tables e below (T72.setTop (mkF m 178 #[.val (.int p1), .val (.long q2), .second, .val (.long q3), .second, .val (.long q4), .second, .val (.long q5), .second, .val (.long q6), .second, .val (.ref b2), .val (.int (4 : Int32)), .val (.ref b15), .val (.long q5), .second, .val (.ref t_72), .unset, .unset] [])) _
      refine XS.iload X72.here hx rfl (hb hby at_178) rfl ?_
      show Steps p.tables e below (T72.setTop (mkF m 180 #[.val (.int p1), .val (.long q2), .second, .val (.long q3), .second, .val (.long q4), .second, .val (.long q5), .second, .val (.long q6), .second, .val (.ref b2), .val (.int (4 : Int32)), .val (.ref b15), .val (.long q5), .second, .val (.ref t_72), .unset, .unset] [(.int (4 : Int32))])) _
      refine XS.iconst X72.here hx rfl (hb hby at_180) ?_
      show Steps p.tables e below (T72.setTop (mkF m 181 #[.val (.int p1), .val (.long q2), .second, .val (.long q3), .second, .val (.long q4), .second, .val (.long q5), .second, .val (.long q6), .second, .val (.ref b2), .val (.int (4 : Int32)), .val (.ref b15), .val (.long q5), .second, .val (.ref t_72), .unset, .unset] [(.int (1 : Int32)), (.int (4 : Int32))])) _
      refine XS.isub X72.here hx rfl (hb hby at_181) rfl ?_
      show Steps p.tables e below (T72.setTop (mkF m 182 #[.val (.int p1), .val (.long q2), .second, .val (.long q3), .second, .val (.long q4), .second, .val (.long q5), .second, .val (.long q6), .second, .val (.ref b2), .val (.int (4 : Int32)), .val (.ref b15), .val (.long q5), .second, .val (.ref t_72), .unset, .unset] [(.int ((4 : Int32) - (1 : Int32)))])) _
      refine XS.iconst X72.here hx rfl (hb hby at_182) ?_
      show Steps p.tables e below (T72.setTop (mkF m 183 #[.val (.int p1), .val (.long q2), .second, .val (.long q3), .second, .val (.long q4), .second, .val (.long q5), .second, .val (.long q6), .second, .val (.ref b2), .val (.int (4 : Int32)), .val (.ref b15), .val (.long q5), .second, .val (.ref t_72), .unset, .unset] [(.int (2 : Int32)), (.int ((4 : Int32) - (1 : Int32)))])) _
      refine XS.icmpNo X72.here hx rfl (hb hby at_183) rfl (flt (by decide : ¬ (((4 : Int32) - (1 : Int32)) < (2 : Int32)))).1 ?_
      show Steps p.tables e below (T72.setTop (mkF m 186 #[.val (.int p1), .val (.long q2), .second, .val (.long q3), .second, .val (.long q4), .second, .val (.long q5), .second, .val (.long q6), .second, .val (.ref b2), .val (.int (4 : Int32)), .val (.ref b15), .val (.long q5), .second, .val (.ref t_72), .unset, .unset] [])) _
      refine XS.aload X72.here hx rfl (hb hby at_186) rfl rfl ?_
      show Steps p.tables e below (T72.setTop (mkF m 188 #[.val (.int p1), .val (.long q2), .second, .val (.long q3), .second, .val (.long q4), .second, .val (.long q5), .second, .val (.long q6), .second, .val (.ref b2), .val (.int (4 : Int32)), .val (.ref b15), .val (.long q5), .second, .val (.ref t_72), .unset, .unset] [(.ref t_72)])) _
      refine XS.iconst X72.here hx rfl (hb hby at_188) ?_
      show Steps p.tables e below (T72.setTop (mkF m 189 #[.val (.int p1), .val (.long q2), .second, .val (.long q3), .second, .val (.long q4), .second, .val (.long q5), .second, .val (.long q6), .second, .val (.ref b2), .val (.int (4 : Int32)), .val (.ref b15), .val (.long q5), .second, .val (.ref t_72), .unset, .unset] [(.int (1 : Int32)), (.ref t_72)])) _
      refine X72.laload hx (j := (1 : Int32)) (v := (.long q3)) Ar_t1.1 (State.isArrayOf_alike hZ.alike Ar_t1.2.1) Ar_t1.2.2 hin_t1_189 hat_t1_189 (g := (mkF m 189 #[.val (.int p1), .val (.long q2), .second, .val (.long q3), .second, .val (.long q4), .second, .val (.long q5), .second, .val (.long q6), .second, .val (.ref b2), .val (.int (4 : Int32)), .val (.ref b15), .val (.long q5), .second, .val (.ref t_72), .unset, .unset] [(.int (1 : Int32)), (.ref t_72)])) rfl rfl (hb hby at_189) _ ?_
      show Steps p.tables e below (T72.setTop (mkF m 190 #[.val (.int p1), .val (.long q2), .second, .val (.long q3), .second, .val (.long q4), .second, .val (.long q5), .second, .val (.long q6), .second, .val (.ref b2), .val (.int (4 : Int32)), .val (.ref b15), .val (.long q5), .second, .val (.ref t_72), .unset, .unset] [(.long q3)])) _
      refine XS.lloadN X72.here hx rfl (hb hby at_190) rfl ?_
      show Steps p.tables e below (T72.setTop (mkF m 191 #[.val (.int p1), .val (.long q2), .second, .val (.long q3), .second, .val (.long q4), .second, .val (.long q5), .second, .val (.long q6), .second, .val (.ref b2), .val (.int (4 : Int32)), .val (.ref b15), .val (.long q5), .second, .val (.ref t_72), .unset, .unset] [(.long q3), (.long q3)])) _
      refine XS.lcmp X72.here hx rfl (hb hby at_191) rfl ?_
      show Steps p.tables e below (T72.setTop (mkF m 192 #[.val (.int p1), .val (.long q2), .second, .val (.long q3), .second, .val (.long q4), .second, .val (.long q5), .second, .val (.long q6), .second, .val (.ref b2), .val (.int (4 : Int32)), .val (.ref b15), .val (.long q5), .second, .val (.ref t_72), .unset, .unset] [(.int (lcmpW q3 q3))])) _
      refine XS.ifYes X72.here hx rfl (pc0 := 192) (pc' := 197) rfl (hb hby at_192) rfl ((if0 _ _).trans (teq ((lw_eq _ _).mpr rfl)).1) (by decide) (by decide) ?_
      show Steps p.tables e below (T72.setTop (mkF m 197 #[.val (.int p1), .val (.long q2), .second, .val (.long q3), .second, .val (.long q4), .second, .val (.long q5), .second, .val (.long q6), .second, .val (.ref b2), .val (.int (4 : Int32)), .val (.ref b15), .val (.long q5), .second, .val (.ref t_72), .unset, .unset] [])) _
      refine XS.iload X72.here hx rfl (hb hby at_197) rfl ?_
      show Steps p.tables e below (T72.setTop (mkF m 199 #[.val (.int p1), .val (.long q2), .second, .val (.long q3), .second, .val (.long q4), .second, .val (.long q5), .second, .val (.long q6), .second, .val (.ref b2), .val (.int (4 : Int32)), .val (.ref b15), .val (.long q5), .second, .val (.ref t_72), .unset, .unset] [(.int (4 : Int32))])) _
      refine XS.iconst X72.here hx rfl (hb hby at_199) ?_
      show Steps p.tables e below (T72.setTop (mkF m 200 #[.val (.int p1), .val (.long q2), .second, .val (.long q3), .second, .val (.long q4), .second, .val (.long q5), .second, .val (.long q6), .second, .val (.ref b2), .val (.int (4 : Int32)), .val (.ref b15), .val (.long q5), .second, .val (.ref t_72), .unset, .unset] [(.int (1 : Int32)), (.int (4 : Int32))])) _
      refine XS.isub X72.here hx rfl (hb hby at_200) rfl ?_
      show Steps p.tables e below (T72.setTop (mkF m 201 #[.val (.int p1), .val (.long q2), .second, .val (.long q3), .second, .val (.long q4), .second, .val (.long q5), .second, .val (.long q6), .second, .val (.ref b2), .val (.int (4 : Int32)), .val (.ref b15), .val (.long q5), .second, .val (.ref t_72), .unset, .unset] [(.int ((4 : Int32) - (1 : Int32)))])) _
      refine XS.iconst X72.here hx rfl (hb hby at_201) ?_
      show Steps p.tables e below (T72.setTop (mkF m 202 #[.val (.int p1), .val (.long q2), .second, .val (.long q3), .second, .val (.long q4), .second, .val (.long q5), .second, .val (.long q6), .second, .val (.ref b2), .val (.int (4 : Int32)), .val (.ref b15), .val (.long q5), .second, .val (.ref t_72), .unset, .unset] [(.int (3 : Int32)), (.int ((4 : Int32) - (1 : Int32)))])) _
      refine XS.icmpNo X72.here hx rfl (hb hby at_202) rfl (flt (by decide : ¬ (((4 : Int32) - (1 : Int32)) < (3 : Int32)))).1 ?_
      show Steps p.tables e below (T72.setTop (mkF m 205 #[.val (.int p1), .val (.long q2), .second, .val (.long q3), .second, .val (.long q4), .second, .val (.long q5), .second, .val (.long q6), .second, .val (.ref b2), .val (.int (4 : Int32)), .val (.ref b15), .val (.long q5), .second, .val (.ref t_72), .unset, .unset] [])) _
      refine XS.aload X72.here hx rfl (hb hby at_205) rfl rfl ?_
      show Steps p.tables e below (T72.setTop (mkF m 207 #[.val (.int p1), .val (.long q2), .second, .val (.long q3), .second, .val (.long q4), .second, .val (.long q5), .second, .val (.long q6), .second, .val (.ref b2), .val (.int (4 : Int32)), .val (.ref b15), .val (.long q5), .second, .val (.ref t_72), .unset, .unset] [(.ref t_72)])) _
      refine XS.iconst X72.here hx rfl (hb hby at_207) ?_
      show Steps p.tables e below (T72.setTop (mkF m 208 #[.val (.int p1), .val (.long q2), .second, .val (.long q3), .second, .val (.long q4), .second, .val (.long q5), .second, .val (.long q6), .second, .val (.ref b2), .val (.int (4 : Int32)), .val (.ref b15), .val (.long q5), .second, .val (.ref t_72), .unset, .unset] [(.int (2 : Int32)), (.ref t_72)])) _
      refine X72.laload hx (j := (2 : Int32)) (v := (.long q4)) Ar_t1.1 (State.isArrayOf_alike hZ.alike Ar_t1.2.1) Ar_t1.2.2 hin_t1_208 hat_t1_208 (g := (mkF m 208 #[.val (.int p1), .val (.long q2), .second, .val (.long q3), .second, .val (.long q4), .second, .val (.long q5), .second, .val (.long q6), .second, .val (.ref b2), .val (.int (4 : Int32)), .val (.ref b15), .val (.long q5), .second, .val (.ref t_72), .unset, .unset] [(.int (2 : Int32)), (.ref t_72)])) rfl rfl (hb hby at_208) _ ?_
      show Steps p.tables e below (T72.setTop (mkF m 209 #[.val (.int p1), .val (.long q2), .second, .val (.long q3), .second, .val (.long q4), .second, .val (.long q5), .second, .val (.long q6), .second, .val (.ref b2), .val (.int (4 : Int32)), .val (.ref b15), .val (.long q5), .second, .val (.ref t_72), .unset, .unset] [(.long q4)])) _
      refine XS.lload X72.here hx rfl (hb hby at_209) rfl ?_
      show Steps p.tables e below (T72.setTop (mkF m 211 #[.val (.int p1), .val (.long q2), .second, .val (.long q3), .second, .val (.long q4), .second, .val (.long q5), .second, .val (.long q6), .second, .val (.ref b2), .val (.int (4 : Int32)), .val (.ref b15), .val (.long q5), .second, .val (.ref t_72), .unset, .unset] [(.long q4), (.long q4)])) _
      refine XS.lcmp X72.here hx rfl (hb hby at_211) rfl ?_
      show Steps p.tables e below (T72.setTop (mkF m 212 #[.val (.int p1), .val (.long q2), .second, .val (.long q3), .second, .val (.long q4), .second, .val (.long q5), .second, .val (.long q6), .second, .val (.ref b2), .val (.int (4 : Int32)), .val (.ref b15), .val (.long q5), .second, .val (.ref t_72), .unset, .unset] [(.int (lcmpW q4 q4))])) _
      refine XS.ifYes X72.here hx rfl (pc0 := 212) (pc' := 217) rfl (hb hby at_212) rfl ((if0 _ _).trans (teq ((lw_eq _ _).mpr rfl)).1) (by decide) (by decide) ?_
      show Steps p.tables e below (T72.setTop (mkF m 217 #[.val (.int p1), .val (.long q2), .second, .val (.long q3), .second, .val (.long q4), .second, .val (.long q5), .second, .val (.long q6), .second, .val (.ref b2), .val (.int (4 : Int32)), .val (.ref b15), .val (.long q5), .second, .val (.ref t_72), .unset, .unset] [])) _
      refine XS.iload X72.here hx rfl (hb hby at_217) rfl ?_
      show Steps p.tables e below (T72.setTop (mkF m 219 #[.val (.int p1), .val (.long q2), .second, .val (.long q3), .second, .val (.long q4), .second, .val (.long q5), .second, .val (.long q6), .second, .val (.ref b2), .val (.int (4 : Int32)), .val (.ref b15), .val (.long q5), .second, .val (.ref t_72), .unset, .unset] [(.int (4 : Int32))])) _
      refine XS.iconst X72.here hx rfl (hb hby at_219) ?_
      show Steps p.tables e below (T72.setTop (mkF m 220 #[.val (.int p1), .val (.long q2), .second, .val (.long q3), .second, .val (.long q4), .second, .val (.long q5), .second, .val (.long q6), .second, .val (.ref b2), .val (.int (4 : Int32)), .val (.ref b15), .val (.long q5), .second, .val (.ref t_72), .unset, .unset] [(.int (1 : Int32)), (.int (4 : Int32))])) _
      refine XS.isub X72.here hx rfl (hb hby at_220) rfl ?_
      show Steps p.tables e below (T72.setTop (mkF m 221 #[.val (.int p1), .val (.long q2), .second, .val (.long q3), .second, .val (.long q4), .second, .val (.long q5), .second, .val (.long q6), .second, .val (.ref b2), .val (.int (4 : Int32)), .val (.ref b15), .val (.long q5), .second, .val (.ref t_72), .unset, .unset] [(.int ((4 : Int32) - (1 : Int32)))])) _
      refine XS.iconst X72.here hx rfl (hb hby at_221) ?_
      show Steps p.tables e below (T72.setTop (mkF m 222 #[.val (.int p1), .val (.long q2), .second, .val (.long q3), .second, .val (.long q4), .second, .val (.long q5), .second, .val (.long q6), .second, .val (.ref b2), .val (.int (4 : Int32)), .val (.ref b15), .val (.long q5), .second, .val (.ref t_72), .unset, .unset] [(.int (4 : Int32)), (.int ((4 : Int32) - (1 : Int32)))])) _
      refine XS.icmpYes X72.here hx rfl (pc0 := 222) (pc' := 237) rfl (hb hby at_222) rfl (tlt (by decide : ((4 : Int32) - (1 : Int32)) < (4 : Int32))).1 (by decide) (by decide) ?_
      show Steps p.tables e below (T72.setTop (mkF m 237 #[.val (.int p1), .val (.long q2), .second, .val (.long q3), .second, .val (.long q4), .second, .val (.long q5), .second, .val (.long q6), .second, .val (.ref b2), .val (.int (4 : Int32)), .val (.ref b15), .val (.long q5), .second, .val (.ref t_72), .unset, .unset] [])) _
      refine XS.iload X72.here hx rfl (hb hby at_237) rfl ?_
      show Steps p.tables e below (T72.setTop (mkF m 239 #[.val (.int p1), .val (.long q2), .second, .val (.long q3), .second, .val (.long q4), .second, .val (.long q5), .second, .val (.long q6), .second, .val (.ref b2), .val (.int (4 : Int32)), .val (.ref b15), .val (.long q5), .second, .val (.ref t_72), .unset, .unset] [(.int (4 : Int32))])) _
      refine XS.iconst X72.here hx rfl (hb hby at_239) ?_
      show Steps p.tables e below (T72.setTop (mkF m 240 #[.val (.int p1), .val (.long q2), .second, .val (.long q3), .second, .val (.long q4), .second, .val (.long q5), .second, .val (.long q6), .second, .val (.ref b2), .val (.int (4 : Int32)), .val (.ref b15), .val (.long q5), .second, .val (.ref t_72), .unset, .unset] [(.int (2 : Int32)), (.int (4 : Int32))])) _
      refine XS.icmpNo X72.here hx rfl (hb hby at_240) rfl (flt (by decide : ¬ ((4 : Int32) < (2 : Int32)))).1 ?_
      show Steps p.tables e below (T72.setTop (mkF m 243 #[.val (.int p1), .val (.long q2), .second, .val (.long q3), .second, .val (.long q4), .second, .val (.long q5), .second, .val (.long q6), .second, .val (.ref b2), .val (.int (4 : Int32)), .val (.ref b15), .val (.long q5), .second, .val (.ref t_72), .unset, .unset] [])) _
      refine XS.aload X72.here hx rfl (hb hby at_243) rfl rfl ?_
      show Steps p.tables e below (T72.setTop (mkF m 245 #[.val (.int p1), .val (.long q2), .second, .val (.long q3), .second, .val (.long q4), .second, .val (.long q5), .second, .val (.long q6), .second, .val (.ref b2), .val (.int (4 : Int32)), .val (.ref b15), .val (.long q5), .second, .val (.ref t_72), .unset, .unset] [(.ref b15)])) _
      exact kt
    obtain ⟨cq74, kq74, q74a, q74b, q74c⟩ := isOf hZ rfl E_b15_72
    obtain ⟨_, _, ⟨T74, L74, k74, n74⟩, -, X74, ⟨Lc74, hQ74, l74, y74, z74⟩, st74⟩ := X72.virtualBack hx (y := (⟨"com/example/queries_over_knowledge/queriesoverknowledge/reasoning/LongList", "removeLast", "()J"⟩ : MethodName)) (z := (⟨"com/example/queries_over_knowledge/queriesoverknowledge/reasoning/LongList", "removeLast", "()J"⟩ : MethodName)) hown (mvT hZ (hw _ (List.mem_of_getElem? (i := 20) rfl))) (mvT hZ (hw _ (List.mem_of_getElem? (i := 21) rfl))) (notFace_of_selects (args := #[]) (mvT hZ (hw _ (List.mem_of_getElem? (i := 23) rfl)))) (mvT hZ (hw _ (List.mem_of_getElem? (i := 23) rfl))) (mvT hZ (hw _ (List.mem_of_getElem? (i := 22) rfl))) (by decide) (backOf (W := 0) (rm4 l Z a0 hw [] b15 r17 kr17 (4 : Int32) (3 : Int32) (2 : Int32) [(.long q2), (.long q3), (.long q4), (.long q5)] q4 T72.heap n0 Z72 E_b15_72 Fz68_72 Fv68_72 V66_72 (by decide) (by decide) rfl g_b15 ne_b15_r17) hZ (hw _ (List.mem_of_getElem? (i := 24) rfl)) (hw _ (List.mem_of_getElem? (i := 4) rfl)) (by decide) (by decide)) q74a q74c (g := (mkF m 245 #[.val (.int p1), .val (.long q2), .second, .val (.long q3), .second, .val (.long q4), .second, .val (.long q5), .second, .val (.long q6), .second, .val (.ref b2), .val (.int (4 : Int32)), .val (.ref b15), .val (.long q5), .second, .val (.ref t_72), .unset, .unset] [(.ref b15)])) rfl (by rw [hml]; rfl) (Steps.refl _) (argsL := []) (rest := []) (lenOf pd_4 rfl) rfl (by show 2 * 0 + _ ≤ _; exact Nat.le_of_eq rfl) (hb hby at_245) (fun _ _ => ⟨rfl, rfl, (by decide : 4 + 0 ≤ _), (by decide : 19 + 0 ≤ _)⟩)
    dsimp only [Pt.U, Pt.locs, Pt.cells, Pt.slots] at X74 l74 y74 z74 st74 hQ74
    subst l74 y74 z74
    obtain ⟨rfl, N74q, K74, Eq74, Fz74, Fv74⟩ := hQ74
    have N74 := Fr.app N72 N74q
    have V_b2_12_74 : Arv Z T74.heap b2 k2 .long (5 : Int32) [(.long q2), (.long q3), (.long q4), (.long q5), (.long q6)] (.long (0 : Int64)) := V_b2_12_72.keep K74 (ninS ne_b2_b15 nin0)
    have E_b15_74 : Exa Z T74.heap b15 "com/example/queries_over_knowledge/queriesoverknowledge/reasoning/LongList" := E_b15_72.keep K74
    have V66_74 : Arv Z T74.heap r17 kr17 .long (4 : Int32) [(.long q2), (.long q3), (.long q4), (.long q5)] (.long (0 : Int64)) := V66_72.keep K74 (ninS (Ne.symm ne_b15_r17) nin0)
    have V_t_72_74 : Arv Z T74.heap t_72 kt72 .long (3 : Int32) [(.long q2), (.long q3), (.long q4)] (.long (0 : Int64)) := V_t_72.keep K74 (ninS (Ne.symm ne_b15_t_72) nin0)
    have Z74 : n0 ≤ T74.heap.size := Nat.le_trans Z72 K74.1
    have G74 : ∀ t, Steps p.tables e below (T74.setTop (mkF m 248 #[.val (.int p1), .val (.long q2), .second, .val (.long q3), .second, .val (.long q4), .second, .val (.long q5), .second, .val (.long q6), .second, .val (.ref b2), .val (.int (4 : Int32)), .val (.ref b15), .val (.long q5), .second, .val (.ref t_72), .unset, .unset] [(.long q4)])) t → Steps p.tables e below (s₁.setTop (entryFrame m #[(.int p1), (.long q2), (.long q3), (.long q4), (.long q5), (.long q6)] maxLocals)) t := fun t kt => G73 t (st74.trans kt)
    obtain ⟨cl_v2, Ar_v2, qq_v2, SS_v2, MM_v2, HH_v2, UU_v2⟩ := id V_b2_12_74
    have hin_v2_258 := inb_of SS_v2 (j := ((4 : Int32) - (2 : Int32))) (by decide)
    have hat_v2_258 : cl_v2.slots[(((4 : Int32) - (2 : Int32))).toNatClampNeg]? = some (.long q4) := HH_v2.at hin_v2_258 rfl
    have G75 : ∀ t, Steps p.tables e below (T74.setTop (mkF m 266 #[.val (.int p1), .val (.long q2), .second, .val (.long q3), .second, .val (.long q4), .second, .val (.long q5), .second, .val (.long q6), .second, .val (.ref b2), .val (.int (4 : Int32)), .val (.ref b15), .val (.long q5), .second, .val (.ref t_72), .val (.long q4), .second] [(.int (1 : Int32))])) t → Steps p.tables e below (s₁.setTop (entryFrame m #[(.int p1), (.long q2), (.long q3), (.long q4), (.long q5), (.long q6)] maxLocals)) t := by
      intro t kt
      refine G74 t ?_
      show Steps p.tables e below (T74.setTop (mkF m 248 #[.val (.int p1), .val (.long q2), .second, .val (.long q3), .second, .val (.long q4), .second, .val (.long q5), .second, .val (.long q6), .second, .val (.ref b2), .val (.int (4 : Int32)), .val (.ref b15), .val (.long q5), .second, .val (.ref t_72), .unset, .unset] [(.long q4)])) _
      refine XS.lstore X74.here hx rfl (hb hby at_248) rfl (l' := #[.val (.int p1), .val (.long q2), .second, .val (.long q3), .second, .val (.long q4), .second, .val (.long q5), .second, .val (.long q6), .second, .val (.ref b2), .val (.int (4 : Int32)), .val (.ref b15), .val (.long q5), .second, .val (.ref t_72), .val (.long q4), .second]) rfl ?_
      show Steps p.tables e below (T74.setTop (mkF m 250 #[.val (.int p1), .val (.long q2), .second, .val (.long q3), .second, .val (.long q4), .second, .val (.long q5), .second, .val (.long q6), .second, .val (.ref b2), .val (.int (4 : Int32)), .val (.ref b15), .val (.long q5), .second, .val (.ref t_72), .val (.long q4), .second] [])) _
      refine XS.lload X74.here hx rfl (hb hby at_250) rfl ?_
      show Steps p.tables e below (T74.setTop (mkF m 252 #[.val (.int p1), .val (.long q2), .second, .val (.long q3), .second, .val (.long q4), .second, .val (.long q5), .second, .val (.long q6), .second, .val (.ref b2), .val (.int (4 : Int32)), .val (.ref b15), .val (.long q5), .second, .val (.ref t_72), .val (.long q4), .second] [(.long q4)])) _
      refine XS.aload X74.here hx rfl (hb hby at_252) rfl rfl ?_
      show Steps p.tables e below (T74.setTop (mkF m 254 #[.val (.int p1), .val (.long q2), .second, .val (.long q3), .second, .val (.long q4), .second, .val (.long q5), .second, .val (.long q6), .second, .val (.ref b2), .val (.int (4 : Int32)), .val (.ref b15), .val (.long q5), .second, .val (.ref t_72), .val (.long q4), .second] [(.ref b2), (.long q4)])) _
      refine XS.iload X74.here hx rfl (hb hby at_254) rfl ?_
      show Steps p.tables e below (T74.setTop (mkF m 256 #[.val (.int p1), .val (.long q2), .second, .val (.long q3), .second, .val (.long q4), .second, .val (.long q5), .second, .val (.long q6), .second, .val (.ref b2), .val (.int (4 : Int32)), .val (.ref b15), .val (.long q5), .second, .val (.ref t_72), .val (.long q4), .second] [(.int (4 : Int32)), (.ref b2), (.long q4)])) _
      refine XS.iconst X74.here hx rfl (hb hby at_256) ?_
      show Steps p.tables e below (T74.setTop (mkF m 257 #[.val (.int p1), .val (.long q2), .second, .val (.long q3), .second, .val (.long q4), .second, .val (.long q5), .second, .val (.long q6), .second, .val (.ref b2), .val (.int (4 : Int32)), .val (.ref b15), .val (.long q5), .second, .val (.ref t_72), .val (.long q4), .second] [(.int (2 : Int32)), (.int (4 : Int32)), (.ref b2), (.long q4)])) _
      refine XS.isub X74.here hx rfl (hb hby at_257) rfl ?_
      show Steps p.tables e below (T74.setTop (mkF m 258 #[.val (.int p1), .val (.long q2), .second, .val (.long q3), .second, .val (.long q4), .second, .val (.long q5), .second, .val (.long q6), .second, .val (.ref b2), .val (.int (4 : Int32)), .val (.ref b15), .val (.long q5), .second, .val (.ref t_72), .val (.long q4), .second] [(.int ((4 : Int32) - (2 : Int32))), (.ref b2), (.long q4)])) _
      refine X74.laload hx (j := ((4 : Int32) - (2 : Int32))) (v := (.long q4)) Ar_v2.1 (State.isArrayOf_alike hZ.alike Ar_v2.2.1) Ar_v2.2.2 hin_v2_258 hat_v2_258 (g := (mkF m 258 #[.val (.int p1), .val (.long q2), .second, .val (.long q3), .second, .val (.long q4), .second, .val (.long q5), .second, .val (.long q6), .second, .val (.ref b2), .val (.int (4 : Int32)), .val (.ref b15), .val (.long q5), .second, .val (.ref t_72), .val (.long q4), .second] [(.int ((4 : Int32) - (2 : Int32))), (.ref b2), (.long q4)])) rfl rfl (hb hby at_258) _ ?_
      show Steps p.tables e below (T74.setTop (mkF m 259 #[.val (.int p1), .val (.long q2), .second, .val (.long q3), .second, .val (.long q4), .second, .val (.long q5), .second, .val (.long q6), .second, .val (.ref b2), .val (.int (4 : Int32)), .val (.ref b15), .val (.long q5), .second, .val (.ref t_72), .val (.long q4), .second] [(.long q4), (.long q4)])) _
      refine XS.lcmp X74.here hx rfl (hb hby at_259) rfl ?_
      show Steps p.tables e below (T74.setTop (mkF m 260 #[.val (.int p1), .val (.long q2), .second, .val (.long q3), .second, .val (.long q4), .second, .val (.long q5), .second, .val (.long q6), .second, .val (.ref b2), .val (.int (4 : Int32)), .val (.ref b15), .val (.long q5), .second, .val (.ref t_72), .val (.long q4), .second] [(.int (lcmpW q4 q4))])) _
      refine XS.ifYes X74.here hx rfl (pc0 := 260) (pc' := 265) rfl (hb hby at_260) rfl ((if0 _ _).trans (teq ((lw_eq _ _).mpr rfl)).1) (by decide) (by decide) ?_
      show Steps p.tables e below (T74.setTop (mkF m 265 #[.val (.int p1), .val (.long q2), .second, .val (.long q3), .second, .val (.long q4), .second, .val (.long q5), .second, .val (.long q6), .second, .val (.ref b2), .val (.int (4 : Int32)), .val (.ref b15), .val (.long q5), .second, .val (.ref t_72), .val (.long q4), .second] [])) _
      refine XS.iconst X74.here hx rfl (hb hby at_265) ?_
      show Steps p.tables e below (T74.setTop (mkF m 266 #[.val (.int p1), .val (.long q2), .second, .val (.long q3), .second, .val (.long q4), .second, .val (.long q5), .second, .val (.long q6), .second, .val (.ref b2), .val (.int (4 : Int32)), .val (.ref b15), .val (.long q5), .second, .val (.ref t_72), .val (.long q4), .second] [(.int (1 : Int32))])) _
      exact kt
    obtain ⟨fs, hr, hrun, hended, hW, hsame⟩ := X74.leave (v := some (.int (1 : Int32))) (fun h => by rw [Bd.returns] at h; cases h)
    refine ⟨_, _, G75 _ ?_, hrun, hended, _, _, rfl, ?_, ⟨_, rfl⟩, hW, hsame.mono (by decide) (by decide)⟩
    · show Steps p.tables e below (T74.setTop (mkF m 266 #[.val (.int p1), .val (.long q2), .second, .val (.long q3), .second, .val (.long q4), .second, .val (.long q5), .second, .val (.long q6), .second, .val (.ref b2), .val (.int (4 : Int32)), .val (.ref b15), .val (.long q5), .second, .val (.ref t_72), .val (.long q4), .second] [(.int (1 : Int32))])) _
      exact retN X74 hx (t := .boolean) Bd.returns (by simp) (hb hby at_266) hr
    · show Q0 Z p1 q2 q3 q4 q5 q6 h0 n0 _ T74.heap _
      exact ⟨rfl, N74⟩
  · clear hK
    have G76 : ∀ t, Steps p.tables e below (T17.setTop (mkF m 45 #[.val (.int p1), .val (.long q2), .second, .val (.long q3), .second, .val (.long q4), .second, .val (.long q5), .second, .val (.long q6), .second, .val (.ref b2), .val (.int (5 : Int32)), .unset, .unset, .unset, .unset, .unset, .unset] [(.ref b15)])) t → Steps p.tables e below (s₁.setTop (entryFrame m #[(.int p1), (.long q2), (.long q3), (.long q4), (.long q5), (.long q6)] maxLocals)) t := by
      intro t kt
      refine G17 t ?_
      rw [q]
      exact kt
    have G77 : ∀ t, Steps p.tables e below (T17.setTop (mkF m 50 #[.val (.int p1), .val (.long q2), .second, .val (.long q3), .second, .val (.long q4), .second, .val (.long q5), .second, .val (.long q6), .second, .val (.ref b2), .val (.int (5 : Int32)), .val (.ref b15), .unset, .unset, .unset, .unset, .unset] [(.long q2), (.ref b15)])) t → Steps p.tables e below (s₁.setTop (entryFrame m #[(.int p1), (.long q2), (.long q3), (.long q4), (.long q5), (.long q6)] maxLocals)) t := by
      intro t kt
      refine G76 t ?_
      show Steps p.tables e below (T17.setTop (mkF m 45 #[.val (.int p1), .val (.long q2), .second, .val (.long q3), .second, .val (.long q4), .second, .val (.long q5), .second, .val (.long q6), .second, .val (.ref b2), .val (.int (5 : Int32)), .unset, .unset, .unset, .unset, .unset, .unset] [(.ref b15)])) _
      refine XS.astore X17.here hx rfl (hb hby at_45) rfl rfl (l' := #[.val (.int p1), .val (.long q2), .second, .val (.long q3), .second, .val (.long q4), .second, .val (.long q5), .second, .val (.long q6), .second, .val (.ref b2), .val (.int (5 : Int32)), .val (.ref b15), .unset, .unset, .unset, .unset, .unset]) rfl ?_
      show Steps p.tables e below (T17.setTop (mkF m 47 #[.val (.int p1), .val (.long q2), .second, .val (.long q3), .second, .val (.long q4), .second, .val (.long q5), .second, .val (.long q6), .second, .val (.ref b2), .val (.int (5 : Int32)), .val (.ref b15), .unset, .unset, .unset, .unset, .unset] [])) _
      refine XS.aload X17.here hx rfl (hb hby at_47) rfl rfl ?_
      show Steps p.tables e below (T17.setTop (mkF m 49 #[.val (.int p1), .val (.long q2), .second, .val (.long q3), .second, .val (.long q4), .second, .val (.long q5), .second, .val (.long q6), .second, .val (.ref b2), .val (.int (5 : Int32)), .val (.ref b15), .unset, .unset, .unset, .unset, .unset] [(.ref b15)])) _
      refine XS.lloadN X17.here hx rfl (hb hby at_49) rfl ?_
      show Steps p.tables e below (T17.setTop (mkF m 50 #[.val (.int p1), .val (.long q2), .second, .val (.long q3), .second, .val (.long q4), .second, .val (.long q5), .second, .val (.long q6), .second, .val (.ref b2), .val (.int (5 : Int32)), .val (.ref b15), .unset, .unset, .unset, .unset, .unset] [(.long q2), (.ref b15)])) _
      exact kt
    obtain ⟨cq78, kq78, q78a, q78b, q78c⟩ := isOf hZ rfl E_b15_17
    obtain ⟨_, _, ⟨T78, L78, k78, n78⟩, -, X78, ⟨Lc78, hQ78, l78, y78, z78⟩, st78⟩ := X17.virtualBack hx (y := (⟨"com/example/queries_over_knowledge/queriesoverknowledge/reasoning/LongList", "add", "(J)V"⟩ : MethodName)) (z := (⟨"com/example/queries_over_knowledge/queriesoverknowledge/reasoning/LongList", "add", "(J)V"⟩ : MethodName)) hown (mvT hZ (hw _ (List.mem_of_getElem? (i := 13) rfl))) (mvT hZ (hw _ (List.mem_of_getElem? (i := 14) rfl))) (notFace_of_selects (args := #[]) (mvT hZ (hw _ (List.mem_of_getElem? (i := 16) rfl)))) (mvT hZ (hw _ (List.mem_of_getElem? (i := 16) rfl))) (mvT hZ (hw _ (List.mem_of_getElem? (i := 15) rfl))) (by decide) (backOf (W := 0) (rm3a l Z a0 hw [] b15 q2 r17 kr17 (4 : Int32) (0 : Int32) (1 : Int32) 0 [(.long (0 : Int64)), (.long (0 : Int64)), (.long (0 : Int64)), (.long (0 : Int64))] T17.heap n0 Z17 E_b15_17 Fz17 Fv17 V_r17 (by decide) (by decide) (by decide) (Nat.le_of_ble_eq_true rfl) (by decide) g_b15 g_r17 ne_b15_r17) hZ (hw _ (List.mem_of_getElem? (i := 17) rfl)) (hw _ (List.mem_of_getElem? (i := 4) rfl)) (by decide) (by decide)) q78a q78c (g := (mkF m 50 #[.val (.int p1), .val (.long q2), .second, .val (.long q3), .second, .val (.long q4), .second, .val (.long q5), .second, .val (.long q6), .second, .val (.ref b2), .val (.int (5 : Int32)), .val (.ref b15), .unset, .unset, .unset, .unset, .unset] [(.long q2), (.ref b15)])) rfl (by rw [hml]; rfl) (Steps.refl _) (argsL := [(.long q2)]) (rest := []) (lenOf pd_3 rfl) rfl (by show 2 * 0 + _ ≤ _; exact Nat.le_of_eq rfl) (hb hby at_50) (fun _ _ => ⟨rfl, rfl, (by decide : 3 + 0 ≤ _), (by decide : 11 + 0 ≤ _)⟩)
    dsimp only [Pt.U, Pt.locs, Pt.cells, Pt.slots] at X78 l78 y78 z78 st78 hQ78
    subst l78 y78 z78
    obtain ⟨rfl, N78q, K78, Eq78, Fz78, Fv78, V78'⟩ := hQ78
    have N78 := Fr.app N17 N78q
    have V_b2_12_78 : Arv Z T78.heap b2 k2 .long (5 : Int32) [(.long q2), (.long q3), (.long q4), (.long q5), (.long q6)] (.long (0 : Int64)) := V_b2_12_17.keep K78 (ninS ne_b2_b15 (ninS ne_b2_r17 nin0))
    have E_b15_78 : Exa Z T78.heap b15 "com/example/queries_over_knowledge/queriesoverknowledge/reasoning/LongList" := E_b15_17.keep K78
    have Z78 : n0 ≤ T78.heap.size := Nat.le_trans Z17 K78.1
    have G78 : ∀ t, Steps p.tables e below (T78.setTop (mkF m 53 #[.val (.int p1), .val (.long q2), .second, .val (.long q3), .second, .val (.long q4), .second, .val (.long q5), .second, .val (.long q6), .second, .val (.ref b2), .val (.int (5 : Int32)), .val (.ref b15), .unset, .unset, .unset, .unset, .unset] [])) t → Steps p.tables e below (s₁.setTop (entryFrame m #[(.int p1), (.long q2), (.long q3), (.long q4), (.long q5), (.long q6)] maxLocals)) t := fun t kt => G77 t (st78.trans kt)
    have V78 : Arv Z T78.heap r17 kr17 .long (4 : Int32) [(.long q2), (.long (0 : Int64)), (.long (0 : Int64)), (.long (0 : Int64))] (.long (0 : Int64)) := V78'
    have G79 : ∀ t, Steps p.tables e below (T78.setTop (mkF m 62 #[.val (.int p1), .val (.long q2), .second, .val (.long q3), .second, .val (.long q4), .second, .val (.long q5), .second, .val (.long q6), .second, .val (.ref b2), .val (.int (5 : Int32)), .val (.ref b15), .unset, .unset, .unset, .unset, .unset] [(.long q3), (.ref b15)])) t → Steps p.tables e below (s₁.setTop (entryFrame m #[(.int p1), (.long q2), (.long q3), (.long q4), (.long q5), (.long q6)] maxLocals)) t := by
      intro t kt
      refine G78 t ?_
      show Steps p.tables e below (T78.setTop (mkF m 53 #[.val (.int p1), .val (.long q2), .second, .val (.long q3), .second, .val (.long q4), .second, .val (.long q5), .second, .val (.long q6), .second, .val (.ref b2), .val (.int (5 : Int32)), .val (.ref b15), .unset, .unset, .unset, .unset, .unset] [])) _
      refine XS.iload X78.here hx rfl (hb hby at_53) rfl ?_
      show Steps p.tables e below (T78.setTop (mkF m 55 #[.val (.int p1), .val (.long q2), .second, .val (.long q3), .second, .val (.long q4), .second, .val (.long q5), .second, .val (.long q6), .second, .val (.ref b2), .val (.int (5 : Int32)), .val (.ref b15), .unset, .unset, .unset, .unset, .unset] [(.int (5 : Int32))])) _
      refine XS.iconst X78.here hx rfl (hb hby at_55) ?_
      show Steps p.tables e below (T78.setTop (mkF m 56 #[.val (.int p1), .val (.long q2), .second, .val (.long q3), .second, .val (.long q4), .second, .val (.long q5), .second, .val (.long q6), .second, .val (.ref b2), .val (.int (5 : Int32)), .val (.ref b15), .unset, .unset, .unset, .unset, .unset] [(.int (2 : Int32)), (.int (5 : Int32))])) _
      refine XS.icmpNo X78.here hx rfl (hb hby at_56) rfl (flt (by decide : ¬ ((5 : Int32) < (2 : Int32)))).1 ?_
      show Steps p.tables e below (T78.setTop (mkF m 59 #[.val (.int p1), .val (.long q2), .second, .val (.long q3), .second, .val (.long q4), .second, .val (.long q5), .second, .val (.long q6), .second, .val (.ref b2), .val (.int (5 : Int32)), .val (.ref b15), .unset, .unset, .unset, .unset, .unset] [])) _
      refine XS.aload X78.here hx rfl (hb hby at_59) rfl rfl ?_
      show Steps p.tables e below (T78.setTop (mkF m 61 #[.val (.int p1), .val (.long q2), .second, .val (.long q3), .second, .val (.long q4), .second, .val (.long q5), .second, .val (.long q6), .second, .val (.ref b2), .val (.int (5 : Int32)), .val (.ref b15), .unset, .unset, .unset, .unset, .unset] [(.ref b15)])) _
      refine XS.lloadN X78.here hx rfl (hb hby at_61) rfl ?_
      show Steps p.tables e below (T78.setTop (mkF m 62 #[.val (.int p1), .val (.long q2), .second, .val (.long q3), .second, .val (.long q4), .second, .val (.long q5), .second, .val (.long q6), .second, .val (.ref b2), .val (.int (5 : Int32)), .val (.ref b15), .unset, .unset, .unset, .unset, .unset] [(.long q3), (.ref b15)])) _
      exact kt
    obtain ⟨cq80, kq80, q80a, q80b, q80c⟩ := isOf hZ rfl E_b15_78
    obtain ⟨_, _, ⟨T80, L80, k80, n80⟩, -, X80, ⟨Lc80, hQ80, l80, y80, z80⟩, st80⟩ := X78.virtualBack hx (y := (⟨"com/example/queries_over_knowledge/queriesoverknowledge/reasoning/LongList", "add", "(J)V"⟩ : MethodName)) (z := (⟨"com/example/queries_over_knowledge/queriesoverknowledge/reasoning/LongList", "add", "(J)V"⟩ : MethodName)) hown (mvT hZ (hw _ (List.mem_of_getElem? (i := 13) rfl))) (mvT hZ (hw _ (List.mem_of_getElem? (i := 14) rfl))) (notFace_of_selects (args := #[]) (mvT hZ (hw _ (List.mem_of_getElem? (i := 16) rfl)))) (mvT hZ (hw _ (List.mem_of_getElem? (i := 16) rfl))) (mvT hZ (hw _ (List.mem_of_getElem? (i := 15) rfl))) (by decide) (backOf (W := 0) (rm3a l Z a0 hw [] b15 q3 r17 kr17 (4 : Int32) (1 : Int32) (2 : Int32) 1 [(.long q2), (.long (0 : Int64)), (.long (0 : Int64)), (.long (0 : Int64))] T78.heap n0 Z78 E_b15_78 Fz78 Fv78 V78 (by decide) (by decide) (by decide) (Nat.le_of_ble_eq_true rfl) (by decide) g_b15 g_r17 ne_b15_r17) hZ (hw _ (List.mem_of_getElem? (i := 17) rfl)) (hw _ (List.mem_of_getElem? (i := 4) rfl)) (by decide) (by decide)) q80a q80c (g := (mkF m 62 #[.val (.int p1), .val (.long q2), .second, .val (.long q3), .second, .val (.long q4), .second, .val (.long q5), .second, .val (.long q6), .second, .val (.ref b2), .val (.int (5 : Int32)), .val (.ref b15), .unset, .unset, .unset, .unset, .unset] [(.long q3), (.ref b15)])) rfl (by rw [hml]; rfl) (Steps.refl _) (argsL := [(.long q3)]) (rest := []) (lenOf pd_3 rfl) rfl (by show 2 * 0 + _ ≤ _; exact Nat.le_of_eq rfl) (hb hby at_62) (fun _ _ => ⟨rfl, rfl, (by decide : 3 + 0 ≤ _), (by decide : 11 + 0 ≤ _)⟩)
    dsimp only [Pt.U, Pt.locs, Pt.cells, Pt.slots] at X80 l80 y80 z80 st80 hQ80
    subst l80 y80 z80
    obtain ⟨rfl, N80q, K80, Eq80, Fz80, Fv80, V80'⟩ := hQ80
    have N80 := Fr.app N78 N80q
    have V_b2_12_80 : Arv Z T80.heap b2 k2 .long (5 : Int32) [(.long q2), (.long q3), (.long q4), (.long q5), (.long q6)] (.long (0 : Int64)) := V_b2_12_78.keep K80 (ninS ne_b2_b15 (ninS ne_b2_r17 nin0))
    have E_b15_80 : Exa Z T80.heap b15 "com/example/queries_over_knowledge/queriesoverknowledge/reasoning/LongList" := E_b15_78.keep K80
    have Z80 : n0 ≤ T80.heap.size := Nat.le_trans Z78 K80.1
    have G80 : ∀ t, Steps p.tables e below (T80.setTop (mkF m 65 #[.val (.int p1), .val (.long q2), .second, .val (.long q3), .second, .val (.long q4), .second, .val (.long q5), .second, .val (.long q6), .second, .val (.ref b2), .val (.int (5 : Int32)), .val (.ref b15), .unset, .unset, .unset, .unset, .unset] [])) t → Steps p.tables e below (s₁.setTop (entryFrame m #[(.int p1), (.long q2), (.long q3), (.long q4), (.long q5), (.long q6)] maxLocals)) t := fun t kt => G79 t (st80.trans kt)
    have V80 : Arv Z T80.heap r17 kr17 .long (4 : Int32) [(.long q2), (.long q3), (.long (0 : Int64)), (.long (0 : Int64))] (.long (0 : Int64)) := V80'
    have G81 : ∀ t, Steps p.tables e below (T80.setTop (mkF m 75 #[.val (.int p1), .val (.long q2), .second, .val (.long q3), .second, .val (.long q4), .second, .val (.long q5), .second, .val (.long q6), .second, .val (.ref b2), .val (.int (5 : Int32)), .val (.ref b15), .unset, .unset, .unset, .unset, .unset] [(.long q4), (.ref b15)])) t → Steps p.tables e below (s₁.setTop (entryFrame m #[(.int p1), (.long q2), (.long q3), (.long q4), (.long q5), (.long q6)] maxLocals)) t := by
      intro t kt
      refine G80 t ?_
      show Steps p.tables e below (T80.setTop (mkF m 65 #[.val (.int p1), .val (.long q2), .second, .val (.long q3), .second, .val (.long q4), .second, .val (.long q5), .second, .val (.long q6), .second, .val (.ref b2), .val (.int (5 : Int32)), .val (.ref b15), .unset, .unset, .unset, .unset, .unset] [])) _
      refine XS.iload X80.here hx rfl (hb hby at_65) rfl ?_
      show Steps p.tables e below (T80.setTop (mkF m 67 #[.val (.int p1), .val (.long q2), .second, .val (.long q3), .second, .val (.long q4), .second, .val (.long q5), .second, .val (.long q6), .second, .val (.ref b2), .val (.int (5 : Int32)), .val (.ref b15), .unset, .unset, .unset, .unset, .unset] [(.int (5 : Int32))])) _
      refine XS.iconst X80.here hx rfl (hb hby at_67) ?_
      show Steps p.tables e below (T80.setTop (mkF m 68 #[.val (.int p1), .val (.long q2), .second, .val (.long q3), .second, .val (.long q4), .second, .val (.long q5), .second, .val (.long q6), .second, .val (.ref b2), .val (.int (5 : Int32)), .val (.ref b15), .unset, .unset, .unset, .unset, .unset] [(.int (3 : Int32)), (.int (5 : Int32))])) _
      refine XS.icmpNo X80.here hx rfl (hb hby at_68) rfl (flt (by decide : ¬ ((5 : Int32) < (3 : Int32)))).1 ?_
      show Steps p.tables e below (T80.setTop (mkF m 71 #[.val (.int p1), .val (.long q2), .second, .val (.long q3), .second, .val (.long q4), .second, .val (.long q5), .second, .val (.long q6), .second, .val (.ref b2), .val (.int (5 : Int32)), .val (.ref b15), .unset, .unset, .unset, .unset, .unset] [])) _
      refine XS.aload X80.here hx rfl (hb hby at_71) rfl rfl ?_
      show Steps p.tables e below (T80.setTop (mkF m 73 #[.val (.int p1), .val (.long q2), .second, .val (.long q3), .second, .val (.long q4), .second, .val (.long q5), .second, .val (.long q6), .second, .val (.ref b2), .val (.int (5 : Int32)), .val (.ref b15), .unset, .unset, .unset, .unset, .unset] [(.ref b15)])) _
      refine XS.lload X80.here hx rfl (hb hby at_73) rfl ?_
      show Steps p.tables e below (T80.setTop (mkF m 75 #[.val (.int p1), .val (.long q2), .second, .val (.long q3), .second, .val (.long q4), .second, .val (.long q5), .second, .val (.long q6), .second, .val (.ref b2), .val (.int (5 : Int32)), .val (.ref b15), .unset, .unset, .unset, .unset, .unset] [(.long q4), (.ref b15)])) _
      exact kt
    obtain ⟨cq82, kq82, q82a, q82b, q82c⟩ := isOf hZ rfl E_b15_80
    obtain ⟨_, _, ⟨T82, L82, k82, n82⟩, -, X82, ⟨Lc82, hQ82, l82, y82, z82⟩, st82⟩ := X80.virtualBack hx (y := (⟨"com/example/queries_over_knowledge/queriesoverknowledge/reasoning/LongList", "add", "(J)V"⟩ : MethodName)) (z := (⟨"com/example/queries_over_knowledge/queriesoverknowledge/reasoning/LongList", "add", "(J)V"⟩ : MethodName)) hown (mvT hZ (hw _ (List.mem_of_getElem? (i := 13) rfl))) (mvT hZ (hw _ (List.mem_of_getElem? (i := 14) rfl))) (notFace_of_selects (args := #[]) (mvT hZ (hw _ (List.mem_of_getElem? (i := 16) rfl)))) (mvT hZ (hw _ (List.mem_of_getElem? (i := 16) rfl))) (mvT hZ (hw _ (List.mem_of_getElem? (i := 15) rfl))) (by decide) (backOf (W := 0) (rm3a l Z a0 hw [] b15 q4 r17 kr17 (4 : Int32) (2 : Int32) (3 : Int32) 2 [(.long q2), (.long q3), (.long (0 : Int64)), (.long (0 : Int64))] T80.heap n0 Z80 E_b15_80 Fz80 Fv80 V80 (by decide) (by decide) (by decide) (Nat.le_of_ble_eq_true rfl) (by decide) g_b15 g_r17 ne_b15_r17) hZ (hw _ (List.mem_of_getElem? (i := 17) rfl)) (hw _ (List.mem_of_getElem? (i := 4) rfl)) (by decide) (by decide)) q82a q82c (g := (mkF m 75 #[.val (.int p1), .val (.long q2), .second, .val (.long q3), .second, .val (.long q4), .second, .val (.long q5), .second, .val (.long q6), .second, .val (.ref b2), .val (.int (5 : Int32)), .val (.ref b15), .unset, .unset, .unset, .unset, .unset] [(.long q4), (.ref b15)])) rfl (by rw [hml]; rfl) (Steps.refl _) (argsL := [(.long q4)]) (rest := []) (lenOf pd_3 rfl) rfl (by show 2 * 0 + _ ≤ _; exact Nat.le_of_eq rfl) (hb hby at_75) (fun _ _ => ⟨rfl, rfl, (by decide : 3 + 0 ≤ _), (by decide : 11 + 0 ≤ _)⟩)
    dsimp only [Pt.U, Pt.locs, Pt.cells, Pt.slots] at X82 l82 y82 z82 st82 hQ82
    subst l82 y82 z82
    obtain ⟨rfl, N82q, K82, Eq82, Fz82, Fv82, V82'⟩ := hQ82
    have N82 := Fr.app N80 N82q
    have V_b2_12_82 : Arv Z T82.heap b2 k2 .long (5 : Int32) [(.long q2), (.long q3), (.long q4), (.long q5), (.long q6)] (.long (0 : Int64)) := V_b2_12_80.keep K82 (ninS ne_b2_b15 (ninS ne_b2_r17 nin0))
    have E_b15_82 : Exa Z T82.heap b15 "com/example/queries_over_knowledge/queriesoverknowledge/reasoning/LongList" := E_b15_80.keep K82
    have Z82 : n0 ≤ T82.heap.size := Nat.le_trans Z80 K82.1
    have G82 : ∀ t, Steps p.tables e below (T82.setTop (mkF m 78 #[.val (.int p1), .val (.long q2), .second, .val (.long q3), .second, .val (.long q4), .second, .val (.long q5), .second, .val (.long q6), .second, .val (.ref b2), .val (.int (5 : Int32)), .val (.ref b15), .unset, .unset, .unset, .unset, .unset] [])) t → Steps p.tables e below (s₁.setTop (entryFrame m #[(.int p1), (.long q2), (.long q3), (.long q4), (.long q5), (.long q6)] maxLocals)) t := fun t kt => G81 t (st82.trans kt)
    have V82 : Arv Z T82.heap r17 kr17 .long (4 : Int32) [(.long q2), (.long q3), (.long q4), (.long (0 : Int64))] (.long (0 : Int64)) := V82'
    have G83 : ∀ t, Steps p.tables e below (T82.setTop (mkF m 88 #[.val (.int p1), .val (.long q2), .second, .val (.long q3), .second, .val (.long q4), .second, .val (.long q5), .second, .val (.long q6), .second, .val (.ref b2), .val (.int (5 : Int32)), .val (.ref b15), .unset, .unset, .unset, .unset, .unset] [(.long q5), (.ref b15)])) t → Steps p.tables e below (s₁.setTop (entryFrame m #[(.int p1), (.long q2), (.long q3), (.long q4), (.long q5), (.long q6)] maxLocals)) t := by
      intro t kt
      refine G82 t ?_
      show Steps p.tables e below (T82.setTop (mkF m 78 #[.val (.int p1), .val (.long q2), .second, .val (.long q3), .second, .val (.long q4), .second, .val (.long q5), .second, .val (.long q6), .second, .val (.ref b2), .val (.int (5 : Int32)), .val (.ref b15), .unset, .unset, .unset, .unset, .unset] [])) _
      refine XS.iload X82.here hx rfl (hb hby at_78) rfl ?_
      show Steps p.tables e below (T82.setTop (mkF m 80 #[.val (.int p1), .val (.long q2), .second, .val (.long q3), .second, .val (.long q4), .second, .val (.long q5), .second, .val (.long q6), .second, .val (.ref b2), .val (.int (5 : Int32)), .val (.ref b15), .unset, .unset, .unset, .unset, .unset] [(.int (5 : Int32))])) _
      refine XS.iconst X82.here hx rfl (hb hby at_80) ?_
      show Steps p.tables e below (T82.setTop (mkF m 81 #[.val (.int p1), .val (.long q2), .second, .val (.long q3), .second, .val (.long q4), .second, .val (.long q5), .second, .val (.long q6), .second, .val (.ref b2), .val (.int (5 : Int32)), .val (.ref b15), .unset, .unset, .unset, .unset, .unset] [(.int (4 : Int32)), (.int (5 : Int32))])) _
      refine XS.icmpNo X82.here hx rfl (hb hby at_81) rfl (flt (by decide : ¬ ((5 : Int32) < (4 : Int32)))).1 ?_
      show Steps p.tables e below (T82.setTop (mkF m 84 #[.val (.int p1), .val (.long q2), .second, .val (.long q3), .second, .val (.long q4), .second, .val (.long q5), .second, .val (.long q6), .second, .val (.ref b2), .val (.int (5 : Int32)), .val (.ref b15), .unset, .unset, .unset, .unset, .unset] [])) _
      refine XS.aload X82.here hx rfl (hb hby at_84) rfl rfl ?_
      show Steps p.tables e below (T82.setTop (mkF m 86 #[.val (.int p1), .val (.long q2), .second, .val (.long q3), .second, .val (.long q4), .second, .val (.long q5), .second, .val (.long q6), .second, .val (.ref b2), .val (.int (5 : Int32)), .val (.ref b15), .unset, .unset, .unset, .unset, .unset] [(.ref b15)])) _
      refine XS.lload X82.here hx rfl (hb hby at_86) rfl ?_
      show Steps p.tables e below (T82.setTop (mkF m 88 #[.val (.int p1), .val (.long q2), .second, .val (.long q3), .second, .val (.long q4), .second, .val (.long q5), .second, .val (.long q6), .second, .val (.ref b2), .val (.int (5 : Int32)), .val (.ref b15), .unset, .unset, .unset, .unset, .unset] [(.long q5), (.ref b15)])) _
      exact kt
    obtain ⟨cq84, kq84, q84a, q84b, q84c⟩ := isOf hZ rfl E_b15_82
    obtain ⟨_, _, ⟨T84, L84, k84, n84⟩, -, X84, ⟨Lc84, hQ84, l84, y84, z84⟩, st84⟩ := X82.virtualBack hx (y := (⟨"com/example/queries_over_knowledge/queriesoverknowledge/reasoning/LongList", "add", "(J)V"⟩ : MethodName)) (z := (⟨"com/example/queries_over_knowledge/queriesoverknowledge/reasoning/LongList", "add", "(J)V"⟩ : MethodName)) hown (mvT hZ (hw _ (List.mem_of_getElem? (i := 13) rfl))) (mvT hZ (hw _ (List.mem_of_getElem? (i := 14) rfl))) (notFace_of_selects (args := #[]) (mvT hZ (hw _ (List.mem_of_getElem? (i := 16) rfl)))) (mvT hZ (hw _ (List.mem_of_getElem? (i := 16) rfl))) (mvT hZ (hw _ (List.mem_of_getElem? (i := 15) rfl))) (by decide) (backOf (W := 0) (rm3a l Z a0 hw [] b15 q5 r17 kr17 (4 : Int32) (3 : Int32) (4 : Int32) 3 [(.long q2), (.long q3), (.long q4), (.long (0 : Int64))] T82.heap n0 Z82 E_b15_82 Fz82 Fv82 V82 (by decide) (by decide) (by decide) (Nat.le_of_ble_eq_true rfl) (by decide) g_b15 g_r17 ne_b15_r17) hZ (hw _ (List.mem_of_getElem? (i := 17) rfl)) (hw _ (List.mem_of_getElem? (i := 4) rfl)) (by decide) (by decide)) q84a q84c (g := (mkF m 88 #[.val (.int p1), .val (.long q2), .second, .val (.long q3), .second, .val (.long q4), .second, .val (.long q5), .second, .val (.long q6), .second, .val (.ref b2), .val (.int (5 : Int32)), .val (.ref b15), .unset, .unset, .unset, .unset, .unset] [(.long q5), (.ref b15)])) rfl (by rw [hml]; rfl) (Steps.refl _) (argsL := [(.long q5)]) (rest := []) (lenOf pd_3 rfl) rfl (by show 2 * 0 + _ ≤ _; exact Nat.le_of_eq rfl) (hb hby at_88) (fun _ _ => ⟨rfl, rfl, (by decide : 3 + 0 ≤ _), (by decide : 11 + 0 ≤ _)⟩)
    dsimp only [Pt.U, Pt.locs, Pt.cells, Pt.slots] at X84 l84 y84 z84 st84 hQ84
    subst l84 y84 z84
    obtain ⟨rfl, N84q, K84, Eq84, Fz84, Fv84, V84'⟩ := hQ84
    have N84 := Fr.app N82 N84q
    have V_b2_12_84 : Arv Z T84.heap b2 k2 .long (5 : Int32) [(.long q2), (.long q3), (.long q4), (.long q5), (.long q6)] (.long (0 : Int64)) := V_b2_12_82.keep K84 (ninS ne_b2_b15 (ninS ne_b2_r17 nin0))
    have E_b15_84 : Exa Z T84.heap b15 "com/example/queries_over_knowledge/queriesoverknowledge/reasoning/LongList" := E_b15_82.keep K84
    have Z84 : n0 ≤ T84.heap.size := Nat.le_trans Z82 K84.1
    have G84 : ∀ t, Steps p.tables e below (T84.setTop (mkF m 91 #[.val (.int p1), .val (.long q2), .second, .val (.long q3), .second, .val (.long q4), .second, .val (.long q5), .second, .val (.long q6), .second, .val (.ref b2), .val (.int (5 : Int32)), .val (.ref b15), .unset, .unset, .unset, .unset, .unset] [])) t → Steps p.tables e below (s₁.setTop (entryFrame m #[(.int p1), (.long q2), (.long q3), (.long q4), (.long q5), (.long q6)] maxLocals)) t := fun t kt => G83 t (st84.trans kt)
    have V84 : Arv Z T84.heap r17 kr17 .long (4 : Int32) [(.long q2), (.long q3), (.long q4), (.long q5)] (.long (0 : Int64)) := V84'
    have G85 : ∀ t, Steps p.tables e below (T84.setTop (mkF m 101 #[.val (.int p1), .val (.long q2), .second, .val (.long q3), .second, .val (.long q4), .second, .val (.long q5), .second, .val (.long q6), .second, .val (.ref b2), .val (.int (5 : Int32)), .val (.ref b15), .unset, .unset, .unset, .unset, .unset] [(.long q6), (.ref b15)])) t → Steps p.tables e below (s₁.setTop (entryFrame m #[(.int p1), (.long q2), (.long q3), (.long q4), (.long q5), (.long q6)] maxLocals)) t := by
      intro t kt
      refine G84 t ?_
      show Steps p.tables e below (T84.setTop (mkF m 91 #[.val (.int p1), .val (.long q2), .second, .val (.long q3), .second, .val (.long q4), .second, .val (.long q5), .second, .val (.long q6), .second, .val (.ref b2), .val (.int (5 : Int32)), .val (.ref b15), .unset, .unset, .unset, .unset, .unset] [])) _
      refine XS.iload X84.here hx rfl (hb hby at_91) rfl ?_
      show Steps p.tables e below (T84.setTop (mkF m 93 #[.val (.int p1), .val (.long q2), .second, .val (.long q3), .second, .val (.long q4), .second, .val (.long q5), .second, .val (.long q6), .second, .val (.ref b2), .val (.int (5 : Int32)), .val (.ref b15), .unset, .unset, .unset, .unset, .unset] [(.int (5 : Int32))])) _
      refine XS.iconst X84.here hx rfl (hb hby at_93) ?_
      show Steps p.tables e below (T84.setTop (mkF m 94 #[.val (.int p1), .val (.long q2), .second, .val (.long q3), .second, .val (.long q4), .second, .val (.long q5), .second, .val (.long q6), .second, .val (.ref b2), .val (.int (5 : Int32)), .val (.ref b15), .unset, .unset, .unset, .unset, .unset] [(.int (5 : Int32)), (.int (5 : Int32))])) _
      refine XS.icmpNo X84.here hx rfl (hb hby at_94) rfl (flt (by decide : ¬ ((5 : Int32) < (5 : Int32)))).1 ?_
      show Steps p.tables e below (T84.setTop (mkF m 97 #[.val (.int p1), .val (.long q2), .second, .val (.long q3), .second, .val (.long q4), .second, .val (.long q5), .second, .val (.long q6), .second, .val (.ref b2), .val (.int (5 : Int32)), .val (.ref b15), .unset, .unset, .unset, .unset, .unset] [])) _
      refine XS.aload X84.here hx rfl (hb hby at_97) rfl rfl ?_
      show Steps p.tables e below (T84.setTop (mkF m 99 #[.val (.int p1), .val (.long q2), .second, .val (.long q3), .second, .val (.long q4), .second, .val (.long q5), .second, .val (.long q6), .second, .val (.ref b2), .val (.int (5 : Int32)), .val (.ref b15), .unset, .unset, .unset, .unset, .unset] [(.ref b15)])) _
      refine XS.lload X84.here hx rfl (hb hby at_99) rfl ?_
      show Steps p.tables e below (T84.setTop (mkF m 101 #[.val (.int p1), .val (.long q2), .second, .val (.long q3), .second, .val (.long q4), .second, .val (.long q5), .second, .val (.long q6), .second, .val (.ref b2), .val (.int (5 : Int32)), .val (.ref b15), .unset, .unset, .unset, .unset, .unset] [(.long q6), (.ref b15)])) _
      exact kt
    obtain ⟨cq86, kq86, q86a, q86b, q86c⟩ := isOf hZ rfl E_b15_84
    obtain ⟨_, _, ⟨T86, L86, k86, n86⟩, -, X86, ⟨Lc86, hQ86, l86, y86, z86⟩, st86⟩ := X84.virtualBack hx (y := (⟨"com/example/queries_over_knowledge/queriesoverknowledge/reasoning/LongList", "add", "(J)V"⟩ : MethodName)) (z := (⟨"com/example/queries_over_knowledge/queriesoverknowledge/reasoning/LongList", "add", "(J)V"⟩ : MethodName)) hown (mvT hZ (hw _ (List.mem_of_getElem? (i := 13) rfl))) (mvT hZ (hw _ (List.mem_of_getElem? (i := 14) rfl))) (notFace_of_selects (args := #[]) (mvT hZ (hw _ (List.mem_of_getElem? (i := 16) rfl)))) (mvT hZ (hw _ (List.mem_of_getElem? (i := 16) rfl))) (mvT hZ (hw _ (List.mem_of_getElem? (i := 15) rfl))) (by decide) (backOf (W := 0) (rm3b l Z a0 hw [] b15 q6 r17 kr17 q2 q3 q4 q5 T84.heap n0 Z84 E_b15_84 Fz84 Fv84 V84 g_b15) hZ (hw _ (List.mem_of_getElem? (i := 17) rfl)) (hw _ (List.mem_of_getElem? (i := 4) rfl)) (by decide) (by decide)) q86a q86c (g := (mkF m 101 #[.val (.int p1), .val (.long q2), .second, .val (.long q3), .second, .val (.long q4), .second, .val (.long q5), .second, .val (.long q6), .second, .val (.ref b2), .val (.int (5 : Int32)), .val (.ref b15), .unset, .unset, .unset, .unset, .unset] [(.long q6), (.ref b15)])) rfl (by rw [hml]; rfl) (Steps.refl _) (argsL := [(.long q6)]) (rest := []) (lenOf pd_3 rfl) rfl (by show 2 * 0 + _ ≤ _; exact Nat.le_of_eq rfl) (hb hby at_101) (fun _ _ => ⟨rfl, rfl, (by decide : 3 + 1 ≤ _), (by decide : 11 + 8 ≤ _)⟩)
    dsimp only [Pt.U, Pt.locs, Pt.cells, Pt.slots] at X86 l86 y86 z86 st86 hQ86
    subst l86 y86 z86
    obtain ⟨rfl, N86q, K86, Eq86, Fz86, r86, kr86, g_r86, szq86, Fv86, V_r86⟩ := hQ86
    have N86 := Fr.app N84 N86q
    have ne_b2_r86 : b2 ≠ r86 := Nat.ne_of_lt (Nat.lt_of_lt_of_le V_b2_12_84.lt szq86)
    have ne_b15_r86 : b15 ≠ r86 := Nat.ne_of_lt (Nat.lt_of_lt_of_le E_b15_84.lt szq86)
    have ne_r17_r86 : r17 ≠ r86 := Nat.ne_of_lt (Nat.lt_of_lt_of_le V84.lt szq86)
    have V_b2_12_86 : Arv Z T86.heap b2 k2 .long (5 : Int32) [(.long q2), (.long q3), (.long q4), (.long q5), (.long q6)] (.long (0 : Int64)) := V_b2_12_84.keep K86 (ninS ne_b2_b15 nin0)
    have E_b15_86 : Exa Z T86.heap b15 "com/example/queries_over_knowledge/queriesoverknowledge/reasoning/LongList" := E_b15_84.keep K86
    have V84_86 : Arv Z T86.heap r17 kr17 .long (4 : Int32) [(.long q2), (.long q3), (.long q4), (.long q5)] (.long (0 : Int64)) := V84.keep K86 (ninS (Ne.symm ne_b15_r17) nin0)
    have Z86 : n0 ≤ T86.heap.size := Nat.le_trans Z84 K86.1
    have G86 : ∀ t, Steps p.tables e below (T86.setTop (mkF m 104 #[.val (.int p1), .val (.long q2), .second, .val (.long q3), .second, .val (.long q4), .second, .val (.long q5), .second, .val (.long q6), .second, .val (.ref b2), .val (.int (5 : Int32)), .val (.ref b15), .unset, .unset, .unset, .unset, .unset] [])) t → Steps p.tables e below (s₁.setTop (entryFrame m #[(.int p1), (.long q2), (.long q3), (.long q4), (.long q5), (.long q6)] maxLocals)) t := fun t kt => G85 t (st86.trans kt)
    have G87 : ∀ t, Steps p.tables e below (T86.setTop (mkF m 106 #[.val (.int p1), .val (.long q2), .second, .val (.long q3), .second, .val (.long q4), .second, .val (.long q5), .second, .val (.long q6), .second, .val (.ref b2), .val (.int (5 : Int32)), .val (.ref b15), .unset, .unset, .unset, .unset, .unset] [(.ref b15)])) t → Steps p.tables e below (s₁.setTop (entryFrame m #[(.int p1), (.long q2), (.long q3), (.long q4), (.long q5), (.long q6)] maxLocals)) t := by
      intro t kt
      refine G86 t ?_
      show Steps p.tables e below (T86.setTop (mkF m 104 #[.val (.int p1), .val (.long q2), .second, .val (.long q3), .second, .val (.long q4), .second, .val (.long q5), .second, .val (.long q6), .second, .val (.ref b2), .val (.int (5 : Int32)), .val (.ref b15), .unset, .unset, .unset, .unset, .unset] [])) _
      refine XS.aload X86.here hx rfl (hb hby at_104) rfl rfl ?_
      show Steps p.tables e below (T86.setTop (mkF m 106 #[.val (.int p1), .val (.long q2), .second, .val (.long q3), .second, .val (.long q4), .second, .val (.long q5), .second, .val (.long q6), .second, .val (.ref b2), .val (.int (5 : Int32)), .val (.ref b15), .unset, .unset, .unset, .unset, .unset] [(.ref b15)])) _
      exact kt
    obtain ⟨cq88, kq88, q88a, q88b, q88c⟩ := isOf hZ rfl E_b15_86
    obtain ⟨_, _, ⟨T88, L88, k88, n88⟩, -, X88, ⟨Lc88, hQ88, l88, y88, z88⟩, st88⟩ := X86.virtualBack hx (y := (⟨"com/example/queries_over_knowledge/queriesoverknowledge/reasoning/LongList", "removeLast", "()J"⟩ : MethodName)) (z := (⟨"com/example/queries_over_knowledge/queriesoverknowledge/reasoning/LongList", "removeLast", "()J"⟩ : MethodName)) hown (mvT hZ (hw _ (List.mem_of_getElem? (i := 20) rfl))) (mvT hZ (hw _ (List.mem_of_getElem? (i := 21) rfl))) (notFace_of_selects (args := #[]) (mvT hZ (hw _ (List.mem_of_getElem? (i := 23) rfl)))) (mvT hZ (hw _ (List.mem_of_getElem? (i := 23) rfl))) (mvT hZ (hw _ (List.mem_of_getElem? (i := 22) rfl))) (by decide) (backOf (W := 0) (rm4 l Z a0 hw [] b15 r86 kr86 (8 : Int32) (5 : Int32) (4 : Int32) [(.long q2), (.long q3), (.long q4), (.long q5), (.long q6), (.long (0 : Int64)), (.long (0 : Int64)), (.long (0 : Int64))] q6 T86.heap n0 Z86 E_b15_86 Fz86 Fv86 V_r86 (by decide) (by decide) rfl g_b15 ne_b15_r86) hZ (hw _ (List.mem_of_getElem? (i := 24) rfl)) (hw _ (List.mem_of_getElem? (i := 4) rfl)) (by decide) (by decide)) q88a q88c (g := (mkF m 106 #[.val (.int p1), .val (.long q2), .second, .val (.long q3), .second, .val (.long q4), .second, .val (.long q5), .second, .val (.long q6), .second, .val (.ref b2), .val (.int (5 : Int32)), .val (.ref b15), .unset, .unset, .unset, .unset, .unset] [(.ref b15)])) rfl (by rw [hml]; rfl) (Steps.refl _) (argsL := []) (rest := []) (lenOf pd_4 rfl) rfl (by show 2 * 0 + _ ≤ _; exact Nat.le_of_eq rfl) (hb hby at_106) (fun _ _ => ⟨rfl, rfl, (by decide : 4 + 0 ≤ _), (by decide : 19 + 0 ≤ _)⟩)
    dsimp only [Pt.U, Pt.locs, Pt.cells, Pt.slots] at X88 l88 y88 z88 st88 hQ88
    subst l88 y88 z88
    obtain ⟨rfl, N88q, K88, Eq88, Fz88, Fv88⟩ := hQ88
    have N88 := Fr.app N86 N88q
    have V_b2_12_88 : Arv Z T88.heap b2 k2 .long (5 : Int32) [(.long q2), (.long q3), (.long q4), (.long q5), (.long q6)] (.long (0 : Int64)) := V_b2_12_86.keep K88 (ninS ne_b2_b15 nin0)
    have E_b15_88 : Exa Z T88.heap b15 "com/example/queries_over_knowledge/queriesoverknowledge/reasoning/LongList" := E_b15_86.keep K88
    have V_r86_88 : Arv Z T88.heap r86 kr86 .long (8 : Int32) [(.long q2), (.long q3), (.long q4), (.long q5), (.long q6), (.long (0 : Int64)), (.long (0 : Int64)), (.long (0 : Int64))] (.long (0 : Int64)) := V_r86.keep K88 (ninS (Ne.symm ne_b15_r86) nin0)
    have Z88 : n0 ≤ T88.heap.size := Nat.le_trans Z86 K88.1
    have G88 : ∀ t, Steps p.tables e below (T88.setTop (mkF m 109 #[.val (.int p1), .val (.long q2), .second, .val (.long q3), .second, .val (.long q4), .second, .val (.long q5), .second, .val (.long q6), .second, .val (.ref b2), .val (.int (5 : Int32)), .val (.ref b15), .unset, .unset, .unset, .unset, .unset] [(.long q6)])) t → Steps p.tables e below (s₁.setTop (entryFrame m #[(.int p1), (.long q2), (.long q3), (.long q4), (.long q5), (.long q6)] maxLocals)) t := fun t kt => G87 t (st88.trans kt)
    obtain ⟨cl_v1, Ar_v1, qq_v1, SS_v1, MM_v1, HH_v1, UU_v1⟩ := id V_b2_12_88
    have hin_v1_119 := inb_of SS_v1 (j := ((5 : Int32) - (1 : Int32))) (by decide)
    have hat_v1_119 : cl_v1.slots[(((5 : Int32) - (1 : Int32))).toNatClampNeg]? = some (.long q6) := HH_v1.at hin_v1_119 rfl
    have G89 : ∀ t, Steps p.tables e below (T88.setTop (mkF m 128 #[.val (.int p1), .val (.long q2), .second, .val (.long q3), .second, .val (.long q4), .second, .val (.long q5), .second, .val (.long q6), .second, .val (.ref b2), .val (.int (5 : Int32)), .val (.ref b15), .val (.long q6), .second, .unset, .unset, .unset] [(.ref b15)])) t → Steps p.tables e below (s₁.setTop (entryFrame m #[(.int p1), (.long q2), (.long q3), (.long q4), (.long q5), (.long q6)] maxLocals)) t := by
      intro t kt
      refine G88 t ?_
      show Steps p.tables e below (T88.setTop (mkF m 109 #[.val (.int p1), .val (.long q2), .second, .val (.long q3), .second, .val (.long q4), .second, .val (.long q5), .second, .val (.long q6), .second, .val (.ref b2), .val (.int (5 : Int32)), .val (.ref b15), .unset, .unset, .unset, .unset, .unset] [(.long q6)])) _
      refine XS.lstore X88.here hx rfl (hb hby at_109) rfl (l' := #[.val (.int p1), .val (.long q2), .second, .val (.long q3), .second, .val (.long q4), .second, .val (.long q5), .second, .val (.long q6), .second, .val (.ref b2), .val (.int (5 : Int32)), .val (.ref b15), .val (.long q6), .second, .unset, .unset, .unset]) rfl ?_
      show Steps p.tables e below (T88.setTop (mkF m 111 #[.val (.int p1), .val (.long q2), .second, .val (.long q3), .second, .val (.long q4), .second, .val (.long q5), .second, .val (.long q6), .second, .val (.ref b2), .val (.int (5 : Int32)), .val (.ref b15), .val (.long q6), .second, .unset, .unset, .unset] [])) _
      refine XS.lload X88.here hx rfl (hb hby at_111) rfl ?_
      show Steps p.tables e below (T88.setTop (mkF m 113 #[.val (.int p1), .val (.long q2), .second, .val (.long q3), .second, .val (.long q4), .second, .val (.long q5), .second, .val (.long q6), .second, .val (.ref b2), .val (.int (5 : Int32)), .val (.ref b15), .val (.long q6), .second, .unset, .unset, .unset] [(.long q6)])) _
      refine XS.aload X88.here hx rfl (hb hby at_113) rfl rfl ?_
      show Steps p.tables e below (T88.setTop (mkF m 115 #[.val (.int p1), .val (.long q2), .second, .val (.long q3), .second, .val (.long q4), .second, .val (.long q5), .second, .val (.long q6), .second, .val (.ref b2), .val (.int (5 : Int32)), .val (.ref b15), .val (.long q6), .second, .unset, .unset, .unset] [(.ref b2), (.long q6)])) _
      refine XS.iload X88.here hx rfl (hb hby at_115) rfl ?_
      show Steps p.tables e below (T88.setTop (mkF m 117 #[.val (.int p1), .val (.long q2), .second, .val (.long q3), .second, .val (.long q4), .second, .val (.long q5), .second, .val (.long q6), .second, .val (.ref b2), .val (.int (5 : Int32)), .val (.ref b15), .val (.long q6), .second, .unset, .unset, .unset] [(.int (5 : Int32)), (.ref b2), (.long q6)])) _
      refine XS.iconst X88.here hx rfl (hb hby at_117) ?_
      show Steps p.tables e below (T88.setTop (mkF m 118 #[.val (.int p1), .val (.long q2), .second, .val (.long q3), .second, .val (.long q4), .second, .val (.long q5), .second, .val (.long q6), .second, .val (.ref b2), .val (.int (5 : Int32)), .val (.ref b15), .val (.long q6), .second, .unset, .unset, .unset] [(.int (1 : Int32)), (.int (5 : Int32)), (.ref b2), (.long q6)])) _
      refine XS.isub X88.here hx rfl (hb hby at_118) rfl ?_
      show Steps p.tables e below (T88.setTop (mkF m 119 #[.val (.int p1), .val (.long q2), .second, .val (.long q3), .second, .val (.long q4), .second, .val (.long q5), .second, .val (.long q6), .second, .val (.ref b2), .val (.int (5 : Int32)), .val (.ref b15), .val (.long q6), .second, .unset, .unset, .unset] [(.int ((5 : Int32) - (1 : Int32))), (.ref b2), (.long q6)])) _
      refine X88.laload hx (j := ((5 : Int32) - (1 : Int32))) (v := (.long q6)) Ar_v1.1 (State.isArrayOf_alike hZ.alike Ar_v1.2.1) Ar_v1.2.2 hin_v1_119 hat_v1_119 (g := (mkF m 119 #[.val (.int p1), .val (.long q2), .second, .val (.long q3), .second, .val (.long q4), .second, .val (.long q5), .second, .val (.long q6), .second, .val (.ref b2), .val (.int (5 : Int32)), .val (.ref b15), .val (.long q6), .second, .unset, .unset, .unset] [(.int ((5 : Int32) - (1 : Int32))), (.ref b2), (.long q6)])) rfl rfl (hb hby at_119) _ ?_
      show Steps p.tables e below (T88.setTop (mkF m 120 #[.val (.int p1), .val (.long q2), .second, .val (.long q3), .second, .val (.long q4), .second, .val (.long q5), .second, .val (.long q6), .second, .val (.ref b2), .val (.int (5 : Int32)), .val (.ref b15), .val (.long q6), .second, .unset, .unset, .unset] [(.long q6), (.long q6)])) _
      refine XS.lcmp X88.here hx rfl (hb hby at_120) rfl ?_
      show Steps p.tables e below (T88.setTop (mkF m 121 #[.val (.int p1), .val (.long q2), .second, .val (.long q3), .second, .val (.long q4), .second, .val (.long q5), .second, .val (.long q6), .second, .val (.ref b2), .val (.int (5 : Int32)), .val (.ref b15), .val (.long q6), .second, .unset, .unset, .unset] [(.int (lcmpW q6 q6))])) _
      refine XS.ifYes X88.here hx rfl (pc0 := 121) (pc' := 126) rfl (hb hby at_121) rfl ((if0 _ _).trans (teq ((lw_eq _ _).mpr rfl)).1) (by decide) (by decide) ?_
      show Steps p.tables e below (T88.setTop (mkF m 126 #[.val (.int p1), .val (.long q2), .second, .val (.long q3), .second, .val (.long q4), .second, .val (.long q5), .second, .val (.long q6), .second, .val (.ref b2), .val (.int (5 : Int32)), .val (.ref b15), .val (.long q6), .second, .unset, .unset, .unset] [])) _
      refine XS.aload X88.here hx rfl (hb hby at_126) rfl rfl ?_
      show Steps p.tables e below (T88.setTop (mkF m 128 #[.val (.int p1), .val (.long q2), .second, .val (.long q3), .second, .val (.long q4), .second, .val (.long q5), .second, .val (.long q6), .second, .val (.ref b2), .val (.int (5 : Int32)), .val (.ref b15), .val (.long q6), .second, .unset, .unset, .unset] [(.ref b15)])) _
      exact kt
    obtain ⟨cq90, kq90, q90a, q90b, q90c⟩ := isOf hZ rfl E_b15_88
    obtain ⟨_, _, ⟨T90, L90, k90, n90⟩, -, X90, ⟨Lc90, hQ90, l90, y90, z90⟩, st90⟩ := X88.virtualBack hx (y := (⟨"com/example/queries_over_knowledge/queriesoverknowledge/reasoning/LongList", "size", "()I"⟩ : MethodName)) (z := (⟨"com/example/queries_over_knowledge/queriesoverknowledge/reasoning/LongList", "size", "()I"⟩ : MethodName)) hown (mvT hZ (hw _ (List.mem_of_getElem? (i := 25) rfl))) (mvT hZ (hw _ (List.mem_of_getElem? (i := 26) rfl))) (notFace_of_selects (args := #[]) (mvT hZ (hw _ (List.mem_of_getElem? (i := 28) rfl)))) (mvT hZ (hw _ (List.mem_of_getElem? (i := 28) rfl))) (mvT hZ (hw _ (List.mem_of_getElem? (i := 27) rfl))) (by decide) (backOf (W := 0) (rm5 l Z a0 hw [] b15 (4 : Int32) T88.heap n0 Z88 Fz88) hZ (hw _ (List.mem_of_getElem? (i := 29) rfl)) (hw _ (List.mem_of_getElem? (i := 4) rfl)) (by decide) (by decide)) q90a q90c (g := (mkF m 128 #[.val (.int p1), .val (.long q2), .second, .val (.long q3), .second, .val (.long q4), .second, .val (.long q5), .second, .val (.long q6), .second, .val (.ref b2), .val (.int (5 : Int32)), .val (.ref b15), .val (.long q6), .second, .unset, .unset, .unset] [(.ref b15)])) rfl (by rw [hml]; rfl) (Steps.refl _) (argsL := []) (rest := []) (lenOf pd_5 rfl) rfl (by show 2 * 0 + _ ≤ _; exact Nat.le_of_eq rfl) (hb hby at_128) (fun _ _ => ⟨rfl, rfl, (by decide : 4 + 0 ≤ _), (by decide : 19 + 0 ≤ _)⟩)
    dsimp only [Pt.U, Pt.locs, Pt.cells, Pt.slots] at X90 l90 y90 z90 st90 hQ90
    subst l90 y90 z90
    obtain ⟨rfl, N90q, e90⟩ := hQ90
    have N90 := Fr.app N88 N90q
    have G90 : ∀ t, Steps p.tables e below (T90.setTop (mkF m 131 #[.val (.int p1), .val (.long q2), .second, .val (.long q3), .second, .val (.long q4), .second, .val (.long q5), .second, .val (.long q6), .second, .val (.ref b2), .val (.int (5 : Int32)), .val (.ref b15), .val (.long q6), .second, .unset, .unset, .unset] [(.int (4 : Int32))])) t → Steps p.tables e below (s₁.setTop (entryFrame m #[(.int p1), (.long q2), (.long q3), (.long q4), (.long q5), (.long q6)] maxLocals)) t := fun t kt => G89 t (st90.trans kt)
    have G91 : ∀ t, Steps p.tables e below (T90.setTop (mkF m 142 #[.val (.int p1), .val (.long q2), .second, .val (.long q3), .second, .val (.long q4), .second, .val (.long q5), .second, .val (.long q6), .second, .val (.ref b2), .val (.int (5 : Int32)), .val (.ref b15), .val (.long q6), .second, .unset, .unset, .unset] [(.ref b15)])) t → Steps p.tables e below (s₁.setTop (entryFrame m #[(.int p1), (.long q2), (.long q3), (.long q4), (.long q5), (.long q6)] maxLocals)) t := by
      intro t kt
      refine G90 t ?_
      show Steps p.tables e below (T90.setTop (mkF m 131 #[.val (.int p1), .val (.long q2), .second, .val (.long q3), .second, .val (.long q4), .second, .val (.long q5), .second, .val (.long q6), .second, .val (.ref b2), .val (.int (5 : Int32)), .val (.ref b15), .val (.long q6), .second, .unset, .unset, .unset] [(.int (4 : Int32))])) _
      refine XS.iload X90.here hx rfl (hb hby at_131) rfl ?_
      show Steps p.tables e below (T90.setTop (mkF m 133 #[.val (.int p1), .val (.long q2), .second, .val (.long q3), .second, .val (.long q4), .second, .val (.long q5), .second, .val (.long q6), .second, .val (.ref b2), .val (.int (5 : Int32)), .val (.ref b15), .val (.long q6), .second, .unset, .unset, .unset] [(.int (5 : Int32)), (.int (4 : Int32))])) _
      refine XS.iconst X90.here hx rfl (hb hby at_133) ?_
      show Steps p.tables e below (T90.setTop (mkF m 134 #[.val (.int p1), .val (.long q2), .second, .val (.long q3), .second, .val (.long q4), .second, .val (.long q5), .second, .val (.long q6), .second, .val (.ref b2), .val (.int (5 : Int32)), .val (.ref b15), .val (.long q6), .second, .unset, .unset, .unset] [(.int (1 : Int32)), (.int (5 : Int32)), (.int (4 : Int32))])) _
      refine XS.isub X90.here hx rfl (hb hby at_134) rfl ?_
      show Steps p.tables e below (T90.setTop (mkF m 135 #[.val (.int p1), .val (.long q2), .second, .val (.long q3), .second, .val (.long q4), .second, .val (.long q5), .second, .val (.long q6), .second, .val (.ref b2), .val (.int (5 : Int32)), .val (.ref b15), .val (.long q6), .second, .unset, .unset, .unset] [(.int ((5 : Int32) - (1 : Int32))), (.int (4 : Int32))])) _
      refine XS.icmpYes X90.here hx rfl (pc0 := 135) (pc' := 140) rfl (hb hby at_135) rfl (teq (by decide : (4 : Int32) = ((5 : Int32) - (1 : Int32)))).1 (by decide) (by decide) ?_
      show Steps p.tables e below (T90.setTop (mkF m 140 #[.val (.int p1), .val (.long q2), .second, .val (.long q3), .second, .val (.long q4), .second, .val (.long q5), .second, .val (.long q6), .second, .val (.ref b2), .val (.int (5 : Int32)), .val (.ref b15), .val (.long q6), .second, .unset, .unset, .unset] [])) _
      refine XS.aload X90.here hx rfl (hb hby at_140) rfl rfl ?_
      show Steps p.tables e below (T90.setTop (mkF m 142 #[.val (.int p1), .val (.long q2), .second, .val (.long q3), .second, .val (.long q4), .second, .val (.long q5), .second, .val (.long q6), .second, .val (.ref b2), .val (.int (5 : Int32)), .val (.ref b15), .val (.long q6), .second, .unset, .unset, .unset] [(.ref b15)])) _
      exact kt
    obtain ⟨cq92, kq92, q92a, q92b, q92c⟩ := isOf hZ e90 E_b15_88
    obtain ⟨_, _, ⟨T92, L92, k92, n92⟩, -, X92, ⟨Lc92, hQ92, l92, y92, z92⟩, st92⟩ := X90.virtualBack hx (y := (⟨"com/example/queries_over_knowledge/queriesoverknowledge/reasoning/LongList", "toArray", "()[J"⟩ : MethodName)) (z := (⟨"com/example/queries_over_knowledge/queriesoverknowledge/reasoning/LongList", "toArray", "()[J"⟩ : MethodName)) hown (mvT hZ (hw _ (List.mem_of_getElem? (i := 30) rfl))) (mvT hZ (hw _ (List.mem_of_getElem? (i := 31) rfl))) (notFace_of_selects (args := #[]) (mvT hZ (hw _ (List.mem_of_getElem? (i := 33) rfl)))) (mvT hZ (hw _ (List.mem_of_getElem? (i := 33) rfl))) (mvT hZ (hw _ (List.mem_of_getElem? (i := 32) rfl))) (by decide) (backOf (W := 0) (rm6 l Z a0 hw [] b15 r86 kr86 (8 : Int32) (4 : Int32) (4 : Int32) [(.long q2), (.long q3), (.long q4), (.long q5), (.long q6), (.long (0 : Int64)), (.long (0 : Int64)), (.long (0 : Int64))] [(.long q2), (.long q3), (.long q4), (.long q5)] [(.long q2), (.long q3), (.long q4), (.long q5)] T88.heap n0 Z88 Fz88 Fv88 V_r86_88 (by decide) (by decide) (by decide) (by decide) (by decide) (by decide) (by decide) rfl rfl) hZ (hw _ (List.mem_of_getElem? (i := 34) rfl)) (hw _ (List.mem_of_getElem? (i := 4) rfl)) (by decide) (by decide)) q92a q92c (g := (mkF m 142 #[.val (.int p1), .val (.long q2), .second, .val (.long q3), .second, .val (.long q4), .second, .val (.long q5), .second, .val (.long q6), .second, .val (.ref b2), .val (.int (5 : Int32)), .val (.ref b15), .val (.long q6), .second, .unset, .unset, .unset] [(.ref b15)])) rfl (by rw [hml]; rfl) (Steps.refl _) (argsL := []) (rest := []) (lenOf pd_6 rfl) rfl (by show 2 * 0 + _ ≤ _; exact Nat.le_of_eq rfl) (hb hby at_142) (fun _ _ => ⟨rfl, e90, (by decide : 4 + 1 ≤ _), (by decide : 19 + 8 ≤ _)⟩)
    dsimp only [Pt.U, Pt.locs, Pt.cells, Pt.slots] at X92 l92 y92 z92 st92 hQ92
    subst l92 y92 z92
    obtain ⟨t_92, kt92, rfl, N92q, K92, g_t_92, szq92, V_t_92⟩ := hQ92
    have N92 := Fr.app N90 N92q
    have ne_b2_t_92 : b2 ≠ t_92 := Nat.ne_of_lt (Nat.lt_of_lt_of_le V_b2_12_88.lt szq92)
    have ne_b15_t_92 : b15 ≠ t_92 := Nat.ne_of_lt (Nat.lt_of_lt_of_le E_b15_88.lt szq92)
    have ne_r86_t_92 : r86 ≠ t_92 := Nat.ne_of_lt (Nat.lt_of_lt_of_le V_r86_88.lt szq92)
    have V_b2_12_92 : Arv Z T92.heap b2 k2 .long (5 : Int32) [(.long q2), (.long q3), (.long q4), (.long q5), (.long q6)] (.long (0 : Int64)) := V_b2_12_88.keep K92 nin0
    have E_b15_92 : Exa Z T92.heap b15 "com/example/queries_over_knowledge/queriesoverknowledge/reasoning/LongList" := E_b15_88.keep K92
    have V_r86_92 : Arv Z T92.heap r86 kr86 .long (8 : Int32) [(.long q2), (.long q3), (.long q4), (.long q5), (.long q6), (.long (0 : Int64)), (.long (0 : Int64)), (.long (0 : Int64))] (.long (0 : Int64)) := V_r86_88.keep K92 nin0
    have Fz88_92 : Fld Z T92.heap b15 "com/example/queries_over_knowledge/queriesoverknowledge/reasoning/LongList" "size" "I" (.int (4 : Int32)) := Fz88.keep K92 nin0
    have Fv88_92 : Fld Z T92.heap b15 "com/example/queries_over_knowledge/queriesoverknowledge/reasoning/LongList" "values" "[J" (.ref r86) := Fv88.keep K92 nin0
    have Z92 : n0 ≤ T92.heap.size := Nat.le_trans Z88 K92.1
    have G92 : ∀ t, Steps p.tables e below (T92.setTop (mkF m 145 #[.val (.int p1), .val (.long q2), .second, .val (.long q3), .second, .val (.long q4), .second, .val (.long q5), .second, .val (.long q6), .second, .val (.ref b2), .val (.int (5 : Int32)), .val (.ref b15), .val (.long q6), .second, .unset, .unset, .unset] [(.ref t_92)])) t → Steps p.tables e below (s₁.setTop (entryFrame m #[(.int p1), (.long q2), (.long q3), (.long q4), (.long q5), (.long q6)] maxLocals)) t := fun t kt => G91 t (st92.trans kt)
    obtain ⟨cl_t1, Ar_t1, qq_t1, SS_t1, MM_t1, HH_t1, UU_t1⟩ := id V_t_92
    have hin_t1_170 := inb_of SS_t1 (j := (0 : Int32)) (by decide)
    have hat_t1_170 : cl_t1.slots[((0 : Int32)).toNatClampNeg]? = some (.long q2) := HH_t1.at hin_t1_170 rfl
    have hin_t1_189 := inb_of SS_t1 (j := (1 : Int32)) (by decide)
    have hat_t1_189 : cl_t1.slots[((1 : Int32)).toNatClampNeg]? = some (.long q3) := HH_t1.at hin_t1_189 rfl
    have hin_t1_208 := inb_of SS_t1 (j := (2 : Int32)) (by decide)
    have hat_t1_208 : cl_t1.slots[((2 : Int32)).toNatClampNeg]? = some (.long q4) := HH_t1.at hin_t1_208 rfl
    have hin_t1_228 := inb_of SS_t1 (j := (3 : Int32)) (by decide)
    have hat_t1_228 : cl_t1.slots[((3 : Int32)).toNatClampNeg]? = some (.long q5) := HH_t1.at hin_t1_228 rfl
    have G93 : ∀ t, Steps p.tables e below (T92.setTop (mkF m 245 #[.val (.int p1), .val (.long q2), .second, .val (.long q3), .second, .val (.long q4), .second, .val (.long q5), .second, .val (.long q6), .second, .val (.ref b2), .val (.int (5 : Int32)), .val (.ref b15), .val (.long q6), .second, .val (.ref t_92), .unset, .unset] [(.ref b15)])) t → Steps p.tables e below (s₁.setTop (entryFrame m #[(.int p1), (.long q2), (.long q3), (.long q4), (.long q5), (.long q6)] maxLocals)) t := by
      intro t kt
      refine G92 t ?_
      show Steps p.tables e below (T92.setTop (mkF m 145 #[.val (.int p1), .val (.long q2), .second, .val (.long q3), .second, .val (.long q4), .second, .val (.long q5), .second, .val (.long q6), .second, .val (.ref b2), .val (.int (5 : Int32)), .val (.ref b15), .val (.long q6), .second, .unset, .unset, .unset] [(.ref t_92)])) _
      refine XS.astore X92.here hx rfl (hb hby at_145) rfl rfl (l' := #[.val (.int p1), .val (.long q2), .second, .val (.long q3), .second, .val (.long q4), .second, .val (.long q5), .second, .val (.long q6), .second, .val (.ref b2), .val (.int (5 : Int32)), .val (.ref b15), .val (.long q6), .second, .val (.ref t_92), .unset, .unset]) rfl ?_
      show Steps p.tables e below (T92.setTop (mkF m 147 #[.val (.int p1), .val (.long q2), .second, .val (.long q3), .second, .val (.long q4), .second, .val (.long q5), .second, .val (.long q6), .second, .val (.ref b2), .val (.int (5 : Int32)), .val (.ref b15), .val (.long q6), .second, .val (.ref t_92), .unset, .unset] [])) _
      refine XS.aload X92.here hx rfl (hb hby at_147) rfl rfl ?_
      show Steps p.tables e below (T92.setTop (mkF m 149 #[.val (.int p1), .val (.long q2), .second, .val (.long q3), .second, .val (.long q4), .second, .val (.long q5), .second, .val (.long q6), .second, .val (.ref b2), .val (.int (5 : Int32)), .val (.ref b15), .val (.long q6), .second, .val (.ref t_92), .unset, .unset] [(.ref t_92)])) _
      refine X92.arraylength hx (cell := cl_t1) Ar_t1.1 (State.isArrayOf_alike hZ.alike Ar_t1.2.1) (g := (mkF m 149 #[.val (.int p1), .val (.long q2), .second, .val (.long q3), .second, .val (.long q4), .second, .val (.long q5), .second, .val (.long q6), .second, .val (.ref b2), .val (.int (5 : Int32)), .val (.ref b15), .val (.long q6), .second, .val (.ref t_92), .unset, .unset] [(.ref t_92)])) rfl rfl (hb hby at_149) _ ?_
      rw [len_of SS_t1 MM_t1]
      show Steps p.tables e below (T92.setTop (mkF m 150 #[.val (.int p1), .val (.long q2), .second, .val (.long q3), .second, .val (.long q4), .second, .val (.long q5), .second, .val (.long q6), .second, .val (.ref b2), .val (.int (5 : Int32)), .val (.ref b15), .val (.long q6), .second, .val (.ref t_92), .unset, .unset] [(.int (4 : Int32))])) _
      refine XS.iload X92.here hx rfl (hb hby at_150) rfl ?_
      show Steps p.tables e below (T92.setTop (mkF m 152 #[.val (.int p1), .val (.long q2), .second, .val (.long q3), .second, .val (.long q4), .second, .val (.long q5), .second, .val (.long q6), .second, .val (.ref b2), .val (.int (5 : Int32)), .val (.ref b15), .val (.long q6), .second, .val (.ref t_92), .unset, .unset] [(.int (5 : Int32)), (.int (4 : Int32))])) _
      refine XS.iconst X92.here hx rfl (hb hby at_152) ?_
      show Steps p.tables e below (T92.setTop (mkF m 153 #[.val (.int p1), .val (.long q2), .second, .val (.long q3), .second, .val (.long q4), .second, .val (.long q5), .second, .val (.long q6), .second, .val (.ref b2), .val (.int (5 : Int32)), .val (.ref b15), .val (.long q6), .second, .val (.ref t_92), .unset, .unset] [(.int (1 : Int32)), (.int (5 : Int32)), (.int (4 : Int32))])) _
      refine XS.isub X92.here hx rfl (hb hby at_153) rfl ?_
      show Steps p.tables e below (T92.setTop (mkF m 154 #[.val (.int p1), .val (.long q2), .second, .val (.long q3), .second, .val (.long q4), .second, .val (.long q5), .second, .val (.long q6), .second, .val (.ref b2), .val (.int (5 : Int32)), .val (.ref b15), .val (.long q6), .second, .val (.ref t_92), .unset, .unset] [(.int ((5 : Int32) - (1 : Int32))), (.int (4 : Int32))])) _
      refine XS.icmpYes X92.here hx rfl (pc0 := 154) (pc' := 159) rfl (hb hby at_154) rfl (teq (by decide : (4 : Int32) = ((5 : Int32) - (1 : Int32)))).1 (by decide) (by decide) ?_
      show Steps p.tables e below (T92.setTop (mkF m 159 #[.val (.int p1), .val (.long q2), .second, .val (.long q3), .second, .val (.long q4), .second, .val (.long q5), .second, .val (.long q6), .second, .val (.ref b2), .val (.int (5 : Int32)), .val (.ref b15), .val (.long q6), .second, .val (.ref t_92), .unset, .unset] [])) _
      refine XS.iload X92.here hx rfl (hb hby at_159) rfl ?_
      show Steps p.tables e below (T92.setTop (mkF m 161 #[.val (.int p1), .val (.long q2), .second, .val (.long q3), .second, .val (.long q4), .second, .val (.long q5), .second, .val (.long q6), .second, .val (.ref b2), .val (.int (5 : Int32)), .val (.ref b15), .val (.long q6), .second, .val (.ref t_92), .unset, .unset] [(.int (5 : Int32))])) _
      refine XS.iconst X92.here hx rfl (hb hby at_161) ?_
      show Steps p.tables e below (T92.setTop (mkF m 162 #[.val (.int p1), .val (.long q2), .second, .val (.long q3), .second, .val (.long q4), .second, .val (.long q5), .second, .val (.long q6), .second, .val (.ref b2), .val (.int (5 : Int32)), .val (.ref b15), .val (.long q6), .second, .val (.ref t_92), .unset, .unset] [(.int (1 : Int32)), (.int (5 : Int32))])) _
      refine XS.isub X92.here hx rfl (hb hby at_162) rfl ?_
      show Steps p.tables e below (T92.setTop (mkF m 163 #[.val (.int p1), .val (.long q2), .second, .val (.long q3), .second, .val (.long q4), .second, .val (.long q5), .second, .val (.long q6), .second, .val (.ref b2), .val (.int (5 : Int32)), .val (.ref b15), .val (.long q6), .second, .val (.ref t_92), .unset, .unset] [(.int ((5 : Int32) - (1 : Int32)))])) _
      refine XS.iconst X92.here hx rfl (hb hby at_163) ?_
      show Steps p.tables e below (T92.setTop (mkF m 164 #[.val (.int p1), .val (.long q2), .second, .val (.long q3), .second, .val (.long q4), .second, .val (.long q5), .second, .val (.long q6), .second, .val (.ref b2), .val (.int (5 : Int32)), .val (.ref b15), .val (.long q6), .second, .val (.ref t_92), .unset, .unset] [(.int (1 : Int32)), (.int ((5 : Int32) - (1 : Int32)))])) _
      refine XS.icmpNo X92.here hx rfl (hb hby at_164) rfl (flt (by decide : ¬ (((5 : Int32) - (1 : Int32)) < (1 : Int32)))).1 ?_
      show Steps p.tables e below (T92.setTop (mkF m 167 #[.val (.int p1), .val (.long q2), .second, .val (.long q3), .second, .val (.long q4), .second, .val (.long q5), .second, .val (.long q6), .second, .val (.ref b2), .val (.int (5 : Int32)), .val (.ref b15), .val (.long q6), .second, .val (.ref t_92), .unset, .unset] [])) _
      refine XS.aload X92.here hx rfl (hb hby at_167) rfl rfl ?_
      show Steps p.tables e below (T92.setTop (mkF m 169 #[.val (.int p1), .val (.long q2), .second, .val (.long q3), .second, .val (.long q4), .second, .val (.long q5), .second, .val (.long q6), .second, .val (.ref b2), .val (.int (5 : Int32)), .val (.ref b15), .val (.long q6), .second, .val (.ref t_92), .unset, .unset] [(.ref t_92)])) _
      refine XS.iconst X92.here hx rfl (hb hby at_169) ?_
      show Steps p.tables e below (T92.setTop (mkF m 170 #[.val (.int p1), .val (.long q2), .second, .val (.long q3), .second, .val (.long q4), .second, .val (.long q5), .second, .val (.long q6), .second, .val (.ref b2), .val (.int (5 : Int32)), .val (.ref b15), .val (.long q6), .second, .val (.ref t_92), .unset, .unset] [(.int (0 : Int32)), (.ref t_92)])) _
      refine X92.laload hx (j := (0 : Int32)) (v := (.long q2)) Ar_t1.1 (State.isArrayOf_alike hZ.alike Ar_t1.2.1) Ar_t1.2.2 hin_t1_170 hat_t1_170 (g := (mkF m 170 #[.val (.int p1), .val (.long q2), .second, .val (.long q3), .second, .val (.long q4), .second, .val (.long q5), .second, .val (.long q6), .second, .val (.ref b2), .val (.int (5 : Int32)), .val (.ref b15), .val (.long q6), .second, .val (.ref t_92), .unset, .unset] [(.int (0 : Int32)), (.ref t_92)])) rfl rfl (hb hby at_170) _ ?_
      show Steps p.tables e below (T92.setTop (mkF m 171 #[.val (.int p1), .val (.long q2), .second, .val (.long q3), .second, .val (.long q4), .second, .val (.long q5), .second, .val (.long q6), .second, .val (.ref b2), .val (.int (5 : Int32)), .val (.ref b15), .val (.long q6), .second, .val (.ref t_92), .unset, .unset] [(.long q2)])) _
      refine XS.lloadN X92.here hx rfl (hb hby at_171) rfl ?_
      show Steps p.tables e below (T92.setTop (mkF m 172 #[.val (.int p1), .val (.long q2), .second, .val (.long q3), .second, .val (.long q4), .second, .val (.long q5), .second, .val (.long q6), .second, .val (.ref b2), .val (.int (5 : Int32)), .val (.ref b15), .val (.long q6), .second, .val (.ref t_92), .unset, .unset] [(.long q2), (.long q2)])) _
      refine XS.lcmp X92.here hx rfl (hb hby at_172) rfl ?_
      show Steps p.tables e below (T92.setTop (mkF m 173 #[.val (.int p1), .val (.long q2), .second, .val (.long q3), .second, .val (.long q4), .second, .val (.long q5), .second, .val (.long q6), .second, .val (.ref b2), .val (.int (5 : Int32)), .val (.ref b15), .val (.long q6), .second, .val (.ref t_92), .unset, .unset] [(.int (lcmpW q2 q2))])) _
      refine XS.ifYes X92.here hx rfl (pc0 := 173) (pc' := 178) rfl (hb hby at_173) rfl ((if0 _ _).trans (teq ((lw_eq _ _).mpr rfl)).1) (by decide) (by decide) ?_
      show Steps p.tables e below (T92.setTop (mkF m 178 #[.val (.int p1), .val (.long q2), .second, .val (.long q3), .second, .val (.long q4), .second, .val (.long q5), .second, .val (.long q6), .second, .val (.ref b2), .val (.int (5 : Int32)), .val (.ref b15), .val (.long q6), .second, .val (.ref t_92), .unset, .unset] [])) _
      refine XS.iload X92.here hx rfl (hb hby at_178) rfl ?_
      show Steps p.tables e below (T92.setTop (mkF m 180 #[.val (.int p1), .val (.long q2), .second, .val (.long q3), .second, .val (.long q4), .second, .val (.long q5), .second, .val (.long q6), .second, .val (.ref b2), .val (.int (5 : Int32)), .val (.ref b15), .val (.long q6), .second, .val (.ref t_92), .unset, .unset] [(.int (5 : Int32))])) _
      refine XS.iconst X92.here hx rfl (hb hby at_180) ?_
      show Steps p.tables e below (T92.setTop (mkF m 181 #[.val (.int p1), .val (.long q2), .second, .val (.long q3), .second, .val (.long q4), .second, .val (.long q5), .second, .val (.long q6), .second, .val (.ref b2), .val (.int (5 : Int32)), .val (.ref b15), .val (.long q6), .second, .val (.ref t_92), .unset, .unset] [(.int (1 : Int32)), (.int (5 : Int32))])) _
      refine XS.isub X92.here hx rfl (hb hby at_181) rfl ?_
      show Steps p.tables e below (T92.setTop (mkF m 182 #[.val (.int p1), .val (.long q2), .second, .val (.long q3), .second, .val (.long q4), .second, .val (.long q5), .second, .val (.long q6), .second, .val (.ref b2), .val (.int (5 : Int32)), .val (.ref b15), .val (.long q6), .second, .val (.ref t_92), .unset, .unset] [(.int ((5 : Int32) - (1 : Int32)))])) _
      refine XS.iconst X92.here hx rfl (hb hby at_182) ?_
      show Steps p.tables e below (T92.setTop (mkF m 183 #[.val (.int p1), .val (.long q2), .second, .val (.long q3), .second, .val (.long q4), .second, .val (.long q5), .second, .val (.long q6), .second, .val (.ref b2), .val (.int (5 : Int32)), .val (.ref b15), .val (.long q6), .second, .val (.ref t_92), .unset, .unset] [(.int (2 : Int32)), (.int ((5 : Int32) - (1 : Int32)))])) _
      refine XS.icmpNo X92.here hx rfl (hb hby at_183) rfl (flt (by decide : ¬ (((5 : Int32) - (1 : Int32)) < (2 : Int32)))).1 ?_
      show Steps p.tables e below (T92.setTop (mkF m 186 #[.val (.int p1), .val (.long q2), .second, .val (.long q3), .second, .val (.long q4), .second, .val (.long q5), .second, .val (.long q6), .second, .val (.ref b2), .val (.int (5 : Int32)), .val (.ref b15), .val (.long q6), .second, .val (.ref t_92), .unset, .unset] [])) _
      refine XS.aload X92.here hx rfl (hb hby at_186) rfl rfl ?_
      show Steps p.tables e below (T92.setTop (mkF m 188 #[.val (.int p1), .val (.long q2), .second, .val (.long q3), .second, .val (.long q4), .second, .val (.long q5), .second, .val (.long q6), .second, .val (.ref b2), .val (.int (5 : Int32)), .val (.ref b15), .val (.long q6), .second, .val (.ref t_92), .unset, .unset] [(.ref t_92)])) _
      refine XS.iconst X92.here hx rfl (hb hby at_188) ?_
      show Steps p.tables e below (T92.setTop (mkF m 189 #[.val (.int p1), .val (.long q2), .second, .val (.long q3), .second, .val (.long q4), .second, .val (.long q5), .second, .val (.long q6), .second, .val (.ref b2), .val (.int (5 : Int32)), .val (.ref b15), .val (.long q6), .second, .val (.ref t_92), .unset, .unset] [(.int (1 : Int32)), (.ref t_92)])) _
      refine X92.laload hx (j := (1 : Int32)) (v := (.long q3)) Ar_t1.1 (State.isArrayOf_alike hZ.alike Ar_t1.2.1) Ar_t1.2.2 hin_t1_189 hat_t1_189 (g := (mkF m 189 #[.val (.int p1), .val (.long q2), .second, .val (.long q3), .second, .val (.long q4), .second, .val (.long q5), .second, .val (.long q6), .second, .val (.ref b2), .val (.int (5 : Int32)), .val (.ref b15), .val (.long q6), .second, .val (.ref t_92), .unset, .unset] [(.int (1 : Int32)), (.ref t_92)])) rfl rfl (hb hby at_189) _ ?_
      show Steps p.tables e below (T92.setTop (mkF m 190 #[.val (.int p1), .val (.long q2), .second, .val (.long q3), .second, .val (.long q4), .second, .val (.long q5), .second, .val (.long q6), .second, .val (.ref b2), .val (.int (5 : Int32)), .val (.ref b15), .val (.long q6), .second, .val (.ref t_92), .unset, .unset] [(.long q3)])) _
      refine XS.lloadN X92.here hx rfl (hb hby at_190) rfl ?_
      show Steps p.tables e below (T92.setTop (mkF m 191 #[.val (.int p1), .val (.long q2), .second, .val (.long q3), .second, .val (.long q4), .second, .val (.long q5), .second, .val (.long q6), .second, .val (.ref b2), .val (.int (5 : Int32)), .val (.ref b15), .val (.long q6), .second, .val (.ref t_92), .unset, .unset] [(.long q3), (.long q3)])) _
      refine XS.lcmp X92.here hx rfl (hb hby at_191) rfl ?_
      show Steps p.tables e below (T92.setTop (mkF m 192 #[.val (.int p1), .val (.long q2), .second, .val (.long q3), .second, .val (.long q4), .second, .val (.long q5), .second, .val (.long q6), .second, .val (.ref b2), .val (.int (5 : Int32)), .val (.ref b15), .val (.long q6), .second, .val (.ref t_92), .unset, .unset] [(.int (lcmpW q3 q3))])) _
      refine XS.ifYes X92.here hx rfl (pc0 := 192) (pc' := 197) rfl (hb hby at_192) rfl ((if0 _ _).trans (teq ((lw_eq _ _).mpr rfl)).1) (by decide) (by decide) ?_
      show Steps p.tables e below (T92.setTop (mkF m 197 #[.val (.int p1), .val (.long q2), .second, .val (.long q3), .second, .val (.long q4), .second, .val (.long q5), .second, .val (.long q6), .second, .val (.ref b2), .val (.int (5 : Int32)), .val (.ref b15), .val (.long q6), .second, .val (.ref t_92), .unset, .unset] [])) _
      refine XS.iload X92.here hx rfl (hb hby at_197) rfl ?_
      show Steps p.tables e below (T92.setTop (mkF m 199 #[.val (.int p1), .val (.long q2), .second, .val (.long q3), .second, .val (.long q4), .second, .val (.long q5), .second, .val (.long q6), .second, .val (.ref b2), .val (.int (5 : Int32)), .val (.ref b15), .val (.long q6), .second, .val (.ref t_92), .unset, .unset] [(.int (5 : Int32))])) _
      refine XS.iconst X92.here hx rfl (hb hby at_199) ?_
      show Steps p.tables e below (T92.setTop (mkF m 200 #[.val (.int p1), .val (.long q2), .second, .val (.long q3), .second, .val (.long q4), .second, .val (.long q5), .second, .val (.long q6), .second, .val (.ref b2), .val (.int (5 : Int32)), .val (.ref b15), .val (.long q6), .second, .val (.ref t_92), .unset, .unset] [(.int (1 : Int32)), (.int (5 : Int32))])) _
      refine XS.isub X92.here hx rfl (hb hby at_200) rfl ?_
      show Steps p.tables e below (T92.setTop (mkF m 201 #[.val (.int p1), .val (.long q2), .second, .val (.long q3), .second, .val (.long q4), .second, .val (.long q5), .second, .val (.long q6), .second, .val (.ref b2), .val (.int (5 : Int32)), .val (.ref b15), .val (.long q6), .second, .val (.ref t_92), .unset, .unset] [(.int ((5 : Int32) - (1 : Int32)))])) _
      refine XS.iconst X92.here hx rfl (hb hby at_201) ?_
      show Steps p.tables e below (T92.setTop (mkF m 202 #[.val (.int p1), .val (.long q2), .second, .val (.long q3), .second, .val (.long q4), .second, .val (.long q5), .second, .val (.long q6), .second, .val (.ref b2), .val (.int (5 : Int32)), .val (.ref b15), .val (.long q6), .second, .val (.ref t_92), .unset, .unset] [(.int (3 : Int32)), (.int ((5 : Int32) - (1 : Int32)))])) _
      refine XS.icmpNo X92.here hx rfl (hb hby at_202) rfl (flt (by decide : ¬ (((5 : Int32) - (1 : Int32)) < (3 : Int32)))).1 ?_
      show Steps p.tables e below (T92.setTop (mkF m 205 #[.val (.int p1), .val (.long q2), .second, .val (.long q3), .second, .val (.long q4), .second, .val (.long q5), .second, .val (.long q6), .second, .val (.ref b2), .val (.int (5 : Int32)), .val (.ref b15), .val (.long q6), .second, .val (.ref t_92), .unset, .unset] [])) _
      refine XS.aload X92.here hx rfl (hb hby at_205) rfl rfl ?_
      show Steps p.tables e below (T92.setTop (mkF m 207 #[.val (.int p1), .val (.long q2), .second, .val (.long q3), .second, .val (.long q4), .second, .val (.long q5), .second, .val (.long q6), .second, .val (.ref b2), .val (.int (5 : Int32)), .val (.ref b15), .val (.long q6), .second, .val (.ref t_92), .unset, .unset] [(.ref t_92)])) _
      refine XS.iconst X92.here hx rfl (hb hby at_207) ?_
      show Steps p.tables e below (T92.setTop (mkF m 208 #[.val (.int p1), .val (.long q2), .second, .val (.long q3), .second, .val (.long q4), .second, .val (.long q5), .second, .val (.long q6), .second, .val (.ref b2), .val (.int (5 : Int32)), .val (.ref b15), .val (.long q6), .second, .val (.ref t_92), .unset, .unset] [(.int (2 : Int32)), (.ref t_92)])) _
      refine X92.laload hx (j := (2 : Int32)) (v := (.long q4)) Ar_t1.1 (State.isArrayOf_alike hZ.alike Ar_t1.2.1) Ar_t1.2.2 hin_t1_208 hat_t1_208 (g := (mkF m 208 #[.val (.int p1), .val (.long q2), .second, .val (.long q3), .second, .val (.long q4), .second, .val (.long q5), .second, .val (.long q6), .second, .val (.ref b2), .val (.int (5 : Int32)), .val (.ref b15), .val (.long q6), .second, .val (.ref t_92), .unset, .unset] [(.int (2 : Int32)), (.ref t_92)])) rfl rfl (hb hby at_208) _ ?_
      show Steps p.tables e below (T92.setTop (mkF m 209 #[.val (.int p1), .val (.long q2), .second, .val (.long q3), .second, .val (.long q4), .second, .val (.long q5), .second, .val (.long q6), .second, .val (.ref b2), .val (.int (5 : Int32)), .val (.ref b15), .val (.long q6), .second, .val (.ref t_92), .unset, .unset] [(.long q4)])) _
      refine XS.lload X92.here hx rfl (hb hby at_209) rfl ?_
      show Steps p.tables e below (T92.setTop (mkF m 211 #[.val (.int p1), .val (.long q2), .second, .val (.long q3), .second, .val (.long q4), .second, .val (.long q5), .second, .val (.long q6), .second, .val (.ref b2), .val (.int (5 : Int32)), .val (.ref b15), .val (.long q6), .second, .val (.ref t_92), .unset, .unset] [(.long q4), (.long q4)])) _
      refine XS.lcmp X92.here hx rfl (hb hby at_211) rfl ?_
      show Steps p.tables e below (T92.setTop (mkF m 212 #[.val (.int p1), .val (.long q2), .second, .val (.long q3), .second, .val (.long q4), .second, .val (.long q5), .second, .val (.long q6), .second, .val (.ref b2), .val (.int (5 : Int32)), .val (.ref b15), .val (.long q6), .second, .val (.ref t_92), .unset, .unset] [(.int (lcmpW q4 q4))])) _
      refine XS.ifYes X92.here hx rfl (pc0 := 212) (pc' := 217) rfl (hb hby at_212) rfl ((if0 _ _).trans (teq ((lw_eq _ _).mpr rfl)).1) (by decide) (by decide) ?_
      show Steps p.tables e below (T92.setTop (mkF m 217 #[.val (.int p1), .val (.long q2), .second, .val (.long q3), .second, .val (.long q4), .second, .val (.long q5), .second, .val (.long q6), .second, .val (.ref b2), .val (.int (5 : Int32)), .val (.ref b15), .val (.long q6), .second, .val (.ref t_92), .unset, .unset] [])) _
      refine XS.iload X92.here hx rfl (hb hby at_217) rfl ?_
      show Steps p.tables e below (T92.setTop (mkF m 219 #[.val (.int p1), .val (.long q2), .second, .val (.long q3), .second, .val (.long q4), .second, .val (.long q5), .second, .val (.long q6), .second, .val (.ref b2), .val (.int (5 : Int32)), .val (.ref b15), .val (.long q6), .second, .val (.ref t_92), .unset, .unset] [(.int (5 : Int32))])) _
      refine XS.iconst X92.here hx rfl (hb hby at_219) ?_
      show Steps p.tables e below (T92.setTop (mkF m 220 #[.val (.int p1), .val (.long q2), .second, .val (.long q3), .second, .val (.long q4), .second, .val (.long q5), .second, .val (.long q6), .second, .val (.ref b2), .val (.int (5 : Int32)), .val (.ref b15), .val (.long q6), .second, .val (.ref t_92), .unset, .unset] [(.int (1 : Int32)), (.int (5 : Int32))])) _
      refine XS.isub X92.here hx rfl (hb hby at_220) rfl ?_
      show Steps p.tables e below (T92.setTop (mkF m 221 #[.val (.int p1), .val (.long q2), .second, .val (.long q3), .second, .val (.long q4), .second, .val (.long q5), .second, .val (.long q6), .second, .val (.ref b2), .val (.int (5 : Int32)), .val (.ref b15), .val (.long q6), .second, .val (.ref t_92), .unset, .unset] [(.int ((5 : Int32) - (1 : Int32)))])) _
      refine XS.iconst X92.here hx rfl (hb hby at_221) ?_
      show Steps p.tables e below (T92.setTop (mkF m 222 #[.val (.int p1), .val (.long q2), .second, .val (.long q3), .second, .val (.long q4), .second, .val (.long q5), .second, .val (.long q6), .second, .val (.ref b2), .val (.int (5 : Int32)), .val (.ref b15), .val (.long q6), .second, .val (.ref t_92), .unset, .unset] [(.int (4 : Int32)), (.int ((5 : Int32) - (1 : Int32)))])) _
      refine XS.icmpNo X92.here hx rfl (hb hby at_222) rfl (flt (by decide : ¬ (((5 : Int32) - (1 : Int32)) < (4 : Int32)))).1 ?_
      show Steps p.tables e below (T92.setTop (mkF m 225 #[.val (.int p1), .val (.long q2), .second, .val (.long q3), .second, .val (.long q4), .second, .val (.long q5), .second, .val (.long q6), .second, .val (.ref b2), .val (.int (5 : Int32)), .val (.ref b15), .val (.long q6), .second, .val (.ref t_92), .unset, .unset] [])) _
      refine XS.aload X92.here hx rfl (hb hby at_225) rfl rfl ?_
      show Steps p.tables e below (T92.setTop (mkF m 227 #[.val (.int p1), .val (.long q2), .second, .val (.long q3), .second, .val (.long q4), .second, .val (.long q5), .second, .val (.long q6), .second, .val (.ref b2), .val (.int (5 : Int32)), .val (.ref b15), .val (.long q6), .second, .val (.ref t_92), .unset, .unset] [(.ref t_92)])) _
      refine XS.iconst X92.here hx rfl (hb hby at_227) ?_
      show Steps p.tables e below (T92.setTop (mkF m 228 #[.val (.int p1), .val (.long q2), .second, .val (.long q3), .second, .val (.long q4), .second, .val (.long q5), .second, .val (.long q6), .second, .val (.ref b2), .val (.int (5 : Int32)), .val (.ref b15), .val (.long q6), .second, .val (.ref t_92), .unset, .unset] [(.int (3 : Int32)), (.ref t_92)])) _
      refine X92.laload hx (j := (3 : Int32)) (v := (.long q5)) Ar_t1.1 (State.isArrayOf_alike hZ.alike Ar_t1.2.1) Ar_t1.2.2 hin_t1_228 hat_t1_228 (g := (mkF m 228 #[.val (.int p1), .val (.long q2), .second, .val (.long q3), .second, .val (.long q4), .second, .val (.long q5), .second, .val (.long q6), .second, .val (.ref b2), .val (.int (5 : Int32)), .val (.ref b15), .val (.long q6), .second, .val (.ref t_92), .unset, .unset] [(.int (3 : Int32)), (.ref t_92)])) rfl rfl (hb hby at_228) _ ?_
      show Steps p.tables e below (T92.setTop (mkF m 229 #[.val (.int p1), .val (.long q2), .second, .val (.long q3), .second, .val (.long q4), .second, .val (.long q5), .second, .val (.long q6), .second, .val (.ref b2), .val (.int (5 : Int32)), .val (.ref b15), .val (.long q6), .second, .val (.ref t_92), .unset, .unset] [(.long q5)])) _
      refine XS.lload X92.here hx rfl (hb hby at_229) rfl ?_
      show Steps p.tables e below (T92.setTop (mkF m 231 #[.val (.int p1), .val (.long q2), .second, .val (.long q3), .second, .val (.long q4), .second, .val (.long q5), .second, .val (.long q6), .second, .val (.ref b2), .val (.int (5 : Int32)), .val (.ref b15), .val (.long q6), .second, .val (.ref t_92), .unset, .unset] [(.long q5), (.long q5)])) _
      refine XS.lcmp X92.here hx rfl (hb hby at_231) rfl ?_
      show Steps p.tables e below (T92.setTop (mkF m 232 #[.val (.int p1), .val (.long q2), .second, .val (.long q3), .second, .val (.long q4), .second, .val (.long q5), .second, .val (.long q6), .second, .val (.ref b2), .val (.int (5 : Int32)), .val (.ref b15), .val (.long q6), .second, .val (.ref t_92), .unset, .unset] [(.int (lcmpW q5 q5))])) _
      refine XS.ifYes X92.here hx rfl (pc0 := 232) (pc' := 237) rfl (hb hby at_232) rfl ((if0 _ _).trans (teq ((lw_eq _ _).mpr rfl)).1) (by decide) (by decide) ?_
      show Steps p.tables e below (T92.setTop (mkF m 237 #[.val (.int p1), .val (.long q2), .second, .val (.long q3), .second, .val (.long q4), .second, .val (.long q5), .second, .val (.long q6), .second, .val (.ref b2), .val (.int (5 : Int32)), .val (.ref b15), .val (.long q6), .second, .val (.ref t_92), .unset, .unset] [])) _
      refine XS.iload X92.here hx rfl (hb hby at_237) rfl ?_
      show Steps p.tables e below (T92.setTop (mkF m 239 #[.val (.int p1), .val (.long q2), .second, .val (.long q3), .second, .val (.long q4), .second, .val (.long q5), .second, .val (.long q6), .second, .val (.ref b2), .val (.int (5 : Int32)), .val (.ref b15), .val (.long q6), .second, .val (.ref t_92), .unset, .unset] [(.int (5 : Int32))])) _
      refine XS.iconst X92.here hx rfl (hb hby at_239) ?_
      show Steps p.tables e below (T92.setTop (mkF m 240 #[.val (.int p1), .val (.long q2), .second, .val (.long q3), .second, .val (.long q4), .second, .val (.long q5), .second, .val (.long q6), .second, .val (.ref b2), .val (.int (5 : Int32)), .val (.ref b15), .val (.long q6), .second, .val (.ref t_92), .unset, .unset] [(.int (2 : Int32)), (.int (5 : Int32))])) _
      refine XS.icmpNo X92.here hx rfl (hb hby at_240) rfl (flt (by decide : ¬ ((5 : Int32) < (2 : Int32)))).1 ?_
      show Steps p.tables e below (T92.setTop (mkF m 243 #[.val (.int p1), .val (.long q2), .second, .val (.long q3), .second, .val (.long q4), .second, .val (.long q5), .second, .val (.long q6), .second, .val (.ref b2), .val (.int (5 : Int32)), .val (.ref b15), .val (.long q6), .second, .val (.ref t_92), .unset, .unset] [])) _
      refine XS.aload X92.here hx rfl (hb hby at_243) rfl rfl ?_
      show Steps p.tables e below (T92.setTop (mkF m 245 #[.val (.int p1), .val (.long q2), .second, .val (.long q3), .second, .val (.long q4), .second, .val (.long q5), .second, .val (.long q6), .second, .val (.ref b2), .val (.int (5 : Int32)), .val (.ref b15), .val (.long q6), .second, .val (.ref t_92), .unset, .unset] [(.ref b15)])) _
      exact kt
    obtain ⟨cq94, kq94, q94a, q94b, q94c⟩ := isOf hZ rfl E_b15_92
    obtain ⟨_, _, ⟨T94, L94, k94, n94⟩, -, X94, ⟨Lc94, hQ94, l94, y94, z94⟩, st94⟩ := X92.virtualBack hx (y := (⟨"com/example/queries_over_knowledge/queriesoverknowledge/reasoning/LongList", "removeLast", "()J"⟩ : MethodName)) (z := (⟨"com/example/queries_over_knowledge/queriesoverknowledge/reasoning/LongList", "removeLast", "()J"⟩ : MethodName)) hown (mvT hZ (hw _ (List.mem_of_getElem? (i := 20) rfl))) (mvT hZ (hw _ (List.mem_of_getElem? (i := 21) rfl))) (notFace_of_selects (args := #[]) (mvT hZ (hw _ (List.mem_of_getElem? (i := 23) rfl)))) (mvT hZ (hw _ (List.mem_of_getElem? (i := 23) rfl))) (mvT hZ (hw _ (List.mem_of_getElem? (i := 22) rfl))) (by decide) (backOf (W := 0) (rm4 l Z a0 hw [] b15 r86 kr86 (8 : Int32) (4 : Int32) (3 : Int32) [(.long q2), (.long q3), (.long q4), (.long q5), (.long q6), (.long (0 : Int64)), (.long (0 : Int64)), (.long (0 : Int64))] q5 T92.heap n0 Z92 E_b15_92 Fz88_92 Fv88_92 V_r86_92 (by decide) (by decide) rfl g_b15 ne_b15_r86) hZ (hw _ (List.mem_of_getElem? (i := 24) rfl)) (hw _ (List.mem_of_getElem? (i := 4) rfl)) (by decide) (by decide)) q94a q94c (g := (mkF m 245 #[.val (.int p1), .val (.long q2), .second, .val (.long q3), .second, .val (.long q4), .second, .val (.long q5), .second, .val (.long q6), .second, .val (.ref b2), .val (.int (5 : Int32)), .val (.ref b15), .val (.long q6), .second, .val (.ref t_92), .unset, .unset] [(.ref b15)])) rfl (by rw [hml]; rfl) (Steps.refl _) (argsL := []) (rest := []) (lenOf pd_4 rfl) rfl (by show 2 * 0 + _ ≤ _; exact Nat.le_of_eq rfl) (hb hby at_245) (fun _ _ => ⟨rfl, rfl, (by decide : 5 + 0 ≤ _), (by decide : 27 + 0 ≤ _)⟩)
    dsimp only [Pt.U, Pt.locs, Pt.cells, Pt.slots] at X94 l94 y94 z94 st94 hQ94
    subst l94 y94 z94
    obtain ⟨rfl, N94q, K94, Eq94, Fz94, Fv94⟩ := hQ94
    have N94 := Fr.app N92 N94q
    have V_b2_12_94 : Arv Z T94.heap b2 k2 .long (5 : Int32) [(.long q2), (.long q3), (.long q4), (.long q5), (.long q6)] (.long (0 : Int64)) := V_b2_12_92.keep K94 (ninS ne_b2_b15 nin0)
    have E_b15_94 : Exa Z T94.heap b15 "com/example/queries_over_knowledge/queriesoverknowledge/reasoning/LongList" := E_b15_92.keep K94
    have V_r86_94 : Arv Z T94.heap r86 kr86 .long (8 : Int32) [(.long q2), (.long q3), (.long q4), (.long q5), (.long q6), (.long (0 : Int64)), (.long (0 : Int64)), (.long (0 : Int64))] (.long (0 : Int64)) := V_r86_92.keep K94 (ninS (Ne.symm ne_b15_r86) nin0)
    have V_t_92_94 : Arv Z T94.heap t_92 kt92 .long (4 : Int32) [(.long q2), (.long q3), (.long q4), (.long q5)] (.long (0 : Int64)) := V_t_92.keep K94 (ninS (Ne.symm ne_b15_t_92) nin0)
    have Z94 : n0 ≤ T94.heap.size := Nat.le_trans Z92 K94.1
    have G94 : ∀ t, Steps p.tables e below (T94.setTop (mkF m 248 #[.val (.int p1), .val (.long q2), .second, .val (.long q3), .second, .val (.long q4), .second, .val (.long q5), .second, .val (.long q6), .second, .val (.ref b2), .val (.int (5 : Int32)), .val (.ref b15), .val (.long q6), .second, .val (.ref t_92), .unset, .unset] [(.long q5)])) t → Steps p.tables e below (s₁.setTop (entryFrame m #[(.int p1), (.long q2), (.long q3), (.long q4), (.long q5), (.long q6)] maxLocals)) t := fun t kt => G93 t (st94.trans kt)
    obtain ⟨cl_v2, Ar_v2, qq_v2, SS_v2, MM_v2, HH_v2, UU_v2⟩ := id V_b2_12_94
    have hin_v2_258 := inb_of SS_v2 (j := ((5 : Int32) - (2 : Int32))) (by decide)
    have hat_v2_258 : cl_v2.slots[(((5 : Int32) - (2 : Int32))).toNatClampNeg]? = some (.long q5) := HH_v2.at hin_v2_258 rfl
    have G95 : ∀ t, Steps p.tables e below (T94.setTop (mkF m 266 #[.val (.int p1), .val (.long q2), .second, .val (.long q3), .second, .val (.long q4), .second, .val (.long q5), .second, .val (.long q6), .second, .val (.ref b2), .val (.int (5 : Int32)), .val (.ref b15), .val (.long q6), .second, .val (.ref t_92), .val (.long q5), .second] [(.int (1 : Int32))])) t → Steps p.tables e below (s₁.setTop (entryFrame m #[(.int p1), (.long q2), (.long q3), (.long q4), (.long q5), (.long q6)] maxLocals)) t := by
      intro t kt
      refine G94 t ?_
      show Steps p.tables e below (T94.setTop (mkF m 248 #[.val (.int p1), .val (.long q2), .second, .val (.long q3), .second, .val (.long q4), .second, .val (.long q5), .second, .val (.long q6), .second, .val (.ref b2), .val (.int (5 : Int32)), .val (.ref b15), .val (.long q6), .second, .val (.ref t_92), .unset, .unset] [(.long q5)])) _
      refine XS.lstore X94.here hx rfl (hb hby at_248) rfl (l' := #[.val (.int p1), .val (.long q2), .second, .val (.long q3), .second, .val (.long q4), .second, .val (.long q5), .second, .val (.long q6), .second, .val (.ref b2), .val (.int (5 : Int32)), .val (.ref b15), .val (.long q6), .second, .val (.ref t_92), .val (.long q5), .second]) rfl ?_
      show Steps p.tables e below (T94.setTop (mkF m 250 #[.val (.int p1), .val (.long q2), .second, .val (.long q3), .second, .val (.long q4), .second, .val (.long q5), .second, .val (.long q6), .second, .val (.ref b2), .val (.int (5 : Int32)), .val (.ref b15), .val (.long q6), .second, .val (.ref t_92), .val (.long q5), .second] [])) _
      refine XS.lload X94.here hx rfl (hb hby at_250) rfl ?_
      show Steps p.tables e below (T94.setTop (mkF m 252 #[.val (.int p1), .val (.long q2), .second, .val (.long q3), .second, .val (.long q4), .second, .val (.long q5), .second, .val (.long q6), .second, .val (.ref b2), .val (.int (5 : Int32)), .val (.ref b15), .val (.long q6), .second, .val (.ref t_92), .val (.long q5), .second] [(.long q5)])) _
      refine XS.aload X94.here hx rfl (hb hby at_252) rfl rfl ?_
      show Steps p.tables e below (T94.setTop (mkF m 254 #[.val (.int p1), .val (.long q2), .second, .val (.long q3), .second, .val (.long q4), .second, .val (.long q5), .second, .val (.long q6), .second, .val (.ref b2), .val (.int (5 : Int32)), .val (.ref b15), .val (.long q6), .second, .val (.ref t_92), .val (.long q5), .second] [(.ref b2), (.long q5)])) _
      refine XS.iload X94.here hx rfl (hb hby at_254) rfl ?_
      show Steps p.tables e below (T94.setTop (mkF m 256 #[.val (.int p1), .val (.long q2), .second, .val (.long q3), .second, .val (.long q4), .second, .val (.long q5), .second, .val (.long q6), .second, .val (.ref b2), .val (.int (5 : Int32)), .val (.ref b15), .val (.long q6), .second, .val (.ref t_92), .val (.long q5), .second] [(.int (5 : Int32)), (.ref b2), (.long q5)])) _
      refine XS.iconst X94.here hx rfl (hb hby at_256) ?_
      show Steps p.tables e below (T94.setTop (mkF m 257 #[.val (.int p1), .val (.long q2), .second, .val (.long q3), .second, .val (.long q4), .second, .val (.long q5), .second, .val (.long q6), .second, .val (.ref b2), .val (.int (5 : Int32)), .val (.ref b15), .val (.long q6), .second, .val (.ref t_92), .val (.long q5), .second] [(.int (2 : Int32)), (.int (5 : Int32)), (.ref b2), (.long q5)])) _
      refine XS.isub X94.here hx rfl (hb hby at_257) rfl ?_
      show Steps p.tables e below (T94.setTop (mkF m 258 #[.val (.int p1), .val (.long q2), .second, .val (.long q3), .second, .val (.long q4), .second, .val (.long q5), .second, .val (.long q6), .second, .val (.ref b2), .val (.int (5 : Int32)), .val (.ref b15), .val (.long q6), .second, .val (.ref t_92), .val (.long q5), .second] [(.int ((5 : Int32) - (2 : Int32))), (.ref b2), (.long q5)])) _
      refine X94.laload hx (j := ((5 : Int32) - (2 : Int32))) (v := (.long q5)) Ar_v2.1 (State.isArrayOf_alike hZ.alike Ar_v2.2.1) Ar_v2.2.2 hin_v2_258 hat_v2_258 (g := (mkF m 258 #[.val (.int p1), .val (.long q2), .second, .val (.long q3), .second, .val (.long q4), .second, .val (.long q5), .second, .val (.long q6), .second, .val (.ref b2), .val (.int (5 : Int32)), .val (.ref b15), .val (.long q6), .second, .val (.ref t_92), .val (.long q5), .second] [(.int ((5 : Int32) - (2 : Int32))), (.ref b2), (.long q5)])) rfl rfl (hb hby at_258) _ ?_
      show Steps p.tables e below (T94.setTop (mkF m 259 #[.val (.int p1), .val (.long q2), .second, .val (.long q3), .second, .val (.long q4), .second, .val (.long q5), .second, .val (.long q6), .second, .val (.ref b2), .val (.int (5 : Int32)), .val (.ref b15), .val (.long q6), .second, .val (.ref t_92), .val (.long q5), .second] [(.long q5), (.long q5)])) _
      refine XS.lcmp X94.here hx rfl (hb hby at_259) rfl ?_
      show Steps p.tables e below (T94.setTop (mkF m 260 #[.val (.int p1), .val (.long q2), .second, .val (.long q3), .second, .val (.long q4), .second, .val (.long q5), .second, .val (.long q6), .second, .val (.ref b2), .val (.int (5 : Int32)), .val (.ref b15), .val (.long q6), .second, .val (.ref t_92), .val (.long q5), .second] [(.int (lcmpW q5 q5))])) _
      refine XS.ifYes X94.here hx rfl (pc0 := 260) (pc' := 265) rfl (hb hby at_260) rfl ((if0 _ _).trans (teq ((lw_eq _ _).mpr rfl)).1) (by decide) (by decide) ?_
      show Steps p.tables e below (T94.setTop (mkF m 265 #[.val (.int p1), .val (.long q2), .second, .val (.long q3), .second, .val (.long q4), .second, .val (.long q5), .second, .val (.long q6), .second, .val (.ref b2), .val (.int (5 : Int32)), .val (.ref b15), .val (.long q6), .second, .val (.ref t_92), .val (.long q5), .second] [])) _
      refine XS.iconst X94.here hx rfl (hb hby at_265) ?_
      show Steps p.tables e below (T94.setTop (mkF m 266 #[.val (.int p1), .val (.long q2), .second, .val (.long q3), .second, .val (.long q4), .second, .val (.long q5), .second, .val (.long q6), .second, .val (.ref b2), .val (.int (5 : Int32)), .val (.ref b15), .val (.long q6), .second, .val (.ref t_92), .val (.long q5), .second] [(.int (1 : Int32))])) _
      exact kt
    obtain ⟨fs, hr, hrun, hended, hW, hsame⟩ := X94.leave (v := some (.int (1 : Int32))) (fun h => by rw [Bd.returns] at h; cases h)
    refine ⟨_, _, G95 _ ?_, hrun, hended, _, _, rfl, ?_, ⟨_, rfl⟩, hW, hsame.mono (by decide) (by decide)⟩
    · show Steps p.tables e below (T94.setTop (mkF m 266 #[.val (.int p1), .val (.long q2), .second, .val (.long q3), .second, .val (.long q4), .second, .val (.long q5), .second, .val (.long q6), .second, .val (.ref b2), .val (.int (5 : Int32)), .val (.ref b15), .val (.long q6), .second, .val (.ref t_92), .val (.long q5), .second] [(.int (1 : Int32))])) _
      exact retN X94 hx (t := .boolean) Bd.returns (by simp) (hb hby at_266) hr
    · show Q0 Z p1 q2 q3 q4 q5 q6 h0 n0 _ T94.heap _
      exact ⟨rfl, N94⟩
set_option maxRecDepth 65536 in
set_option maxHeartbeats 40000000 in
theorem comes_1 {Post : Tables → Env → Array Value → State → Outcome → State → Prop} (hpost : ∀ tb e args s v u, (limb_1_1.after args s (.returned v) u = true ∧ limb_1_2.after args s (.returned v) u = true ∧ True) → FrameEnd s (.returned v) u (Jvm.fieldLocs frame_1_writes args s ++ Jvm.arrayLocs frame_1_arrays args s ++ Jvm.staticLocs frame_1_statics s) 24 128 → Post tb e args s (.returned v) u) :
    ArmFor flags0 classFile x code maxLocals ret World_1 tables_1 room_1 Calls_1 rest_1 Pre_1 Post := by
  intro l hfl _ _ p e ha hc hk s m args below hf hA hF happ hP
  obtain ⟨hcalls, hrest, hpre⟩ := hP
  obtain ⟨-, -, -, hnamed, -, -, -, hat⟩ := (Spec.applies_iff hf).mp happ
  obtain ⟨hg, hn⟩ := and_e (Cond.before_iff.mp (show (Jvm.Cond.and given_1 narrow_1).before args s = true from hpre))
  obtain ⟨hcnt, r0⟩ := and_e hg
  obtain ⟨c0, r1⟩ := and_e r0
  obtain ⟨c1, r2⟩ := and_e r1
  obtain ⟨c2, r3⟩ := and_e r2
  obtain ⟨c3, r4⟩ := and_e r3
  obtain ⟨c4, r5⟩ := and_e r4
  obtain ⟨w0, w1, w2, w3, w4, w5, rfl⟩ : ∃ w0 w1 w2 w3 w4 w5 : Value, args = #[w0, w1, w2, w3, w4, w5] := by
    have hs : args.size = 6 := by simpa [Cond.value, given_1] using hcnt
    obtain ⟨L⟩ := args
    match L, hs with
    | [w0, w1, w2, w3, w4, w5], _ => exact ⟨w0, w1, w2, w3, w4, w5, rfl⟩
  have hw := fun d (hd : d ∈ tables_1) => atoms_spec (ws := Jvm.Cond.code x code maxLocals ret :: tables_1) hat d (List.mem_cons_of_mem _ hd)
  obtain ⟨i0, j0⟩ := is_v c0
  obtain rfl : w0 = (.int i0) := Option.some.inj j0
  obtain ⟨i1, j1⟩ := isL_v c1
  obtain rfl : w1 = (.long i1) := Option.some.inj j1
  obtain ⟨i2, j2⟩ := isL_v c2
  obtain rfl : w2 = (.long i2) := Option.some.inj j2
  obtain ⟨i3, j3⟩ := isL_v c3
  obtain rfl : w3 = (.long i3) := Option.some.inj j3
  obtain ⟨i4, j4⟩ := isL_v c4
  obtain rfl : w4 = (.long i4) := Option.some.inj j4
  obtain ⟨i5, j5⟩ := isL_v r5
  obtain rfl : w5 = (.long i5) := Option.some.inj j5
  obtain ⟨n, o, h1, h2, h3, _, L, rfl, ⟨rfl, N⟩, hq⟩ := rm0 l s _ hw tables_1 i0 i1 i2 i3 i4 i5 s.heap s.heap.size (Nat.le_refl _) p e ha hc hk s m _ below hf ((Spec.applies_iff_loose hf).mp happ).1 ⟨rfl, State.Warmed39.refl s, rfl⟩ trivial
  refine ⟨n, _, h1, h2, h3, hpost _ _ _ _ _ _ ⟨Cond.after_iff.mpr rfl, Cond.after_iff.mpr (eq_i res_at (Term.int_eval (1)) rfl), trivial⟩ ⟨hq.1, hq.2.1, (hq.2.2.sift fun y hy => Or.inr (N y hy)).mono (by decide) (by decide)⟩⟩
theorem main_1_1 : Claimed_1_1 := comes_1 fun _ _ _ _ _ _ h hF => ⟨h.1, hF⟩
theorem main_1_2 : Claimed_1_2 := comes_1 fun _ _ _ _ _ _ h hF => ⟨h.2.1, hF⟩
end Jvm.Pilot.@@N@@
namespace Jvm.Pilot.@@N@@
open Jvm Jvm.ClassFile Sem Op Lib Jvm.Free Jvm.Stand Jvm.Pilot.@@N@@.Jvm.D
/-! MADE BY PROGRAM (witnessworld.py) out of the Statement's table words and the real class files: 14 classes; the members and pool entries that the words name. The judged class is class 1, her method 1. -/
namespace start1
open Jvm.ClassFile
def u (s : String) : CpInfo := .utf8 (stringToUtf16 s)
/-- a pool by its gaps: so many unusable entries, then the entry; so many at the end -/
def gap : Nat → List CpInfo → List CpInfo
  | 0, r => r
  | n + 1, r => .unusable :: gap n r
def poolList (es : List (Nat × CpInfo)) (last : Nat) : List CpInfo := es.foldr (fun e r => gap e.1 (e.2 :: r)) (gap last [])
def pool (es : List (Nat × CpInfo)) (last : Nat) : Array CpInfo := ⟨poolList es last⟩
def fileOf (pool : Array CpInfo) (this : Nat) (attrs : Array Attribute := #[]) (ms : Array MethodInfo := #[]) (fl : Nat := 33) (sup : Nat := 0) (ifs : Array Nat := #[]) (fds : Array FieldInfo := #[]) : ClassFile where
  minorVersion := 0
  majorVersion := 65
  constantPool := pool
  accessFlags := fl
  thisClass := this
  superClass := sup
  interfaces := ifs
  fields := fds
  methods := ms
  attributes := attrs
def plain (name : String) (sup : Option ClassId) : Class where
  name := name
  kind := .ordinary
  loader := none
  accessFlags := 33
  super := sup
  interfaces := #[]
  cf := none
  fields := #[]
  methods := #[]
  instanceTypes := #[]
  staticTypes := #[]
  resolved := #[]
  callSites := []
  init := .initialized
  statics := none
  mirror := none

def pool0 : Array CpInfo := pool [(5, u "<init>"), (0, u "()V"), (1, .class_ 10), (1, u "java/lang/Object")] 113

def k0c0 : Code := { maxStack := 0, maxLocals := 1, code := object_method_1_code, exceptionTable := #[], attributes := #[] }
def k0m0 : Method := { name := "<init>", desc := "()V", sig := { parameters := [], returnType := none }, accessFlags := 1, code := some k0c0 }
/-- java/lang/Object -/
def k0 : Class := { plain "java/lang/Object" none with
  accessFlags := 33
  interfaces := #[]
  cf := some (fileOf pool0 8 #[] #[{ accessFlags := 1, nameIndex := 5, descriptorIndex := 6, attributes := #[] }] 33 0 #[] #[])
  fields := #[]
  methods := #[k0m0]
  instanceTypes := #[]
  staticTypes := #[]
  resolved := Array.replicate 124 none
  statics := none }

def pool1 : Array CpInfo := pool [(2, .class_ 4), (0, .nameAndType 5 6), (0, u "java/lang/Object"), (0, u "<init>"), (0, u "()V"), (0, .integer 2147483647), (0, .class_ 9), (0, u "com/example/queries_over_knowledge/queriesoverknowledge/reasoning/LongList"), (0, .methodref 8 3), (0, .methodref 8 12), (0, .nameAndType 13 14), (0, u "add"), (0, u "(J)V"), (0, .methodref 8 16), (0, .nameAndType 17 18), (0, u "removeLast"), (0, u "()J"), (0, .methodref 8 20), (0, .nameAndType 21 22), (0, u "size"), (0, u "()I"), (0, .methodref 8 24), (0, .nameAndType 25 26), (0, u "toArray"), (0, u "()[J"), (0, .class_ 28), (0, u "com/example/queries_over_knowledge/queriesoverknowledge/reasoning/LongListRemoveLastPinLaw"), (2, u "law"), (0, u "(IJJJJJ)Z")] 5

def k1m0 : Method := { name := "<init>", desc := "()V", sig := { parameters := [], returnType := none }, accessFlags := 1, code := none }
def k1c1 : Code := { maxStack := 5, maxLocals := 19, code := code, exceptionTable := #[], attributes := #[] }
def k1m1 : Method := { name := "law", desc := "(IJJJJJ)Z", sig := { parameters := [.int, .long, .long, .long, .long, .long], returnType := some .boolean }, accessFlags := 9, code := some k1c1 }
/-- com/example/queries_over_knowledge/queriesoverknowledge/reasoning/LongListRemoveLastPinLaw -/
def k1 : Class := { plain "com/example/queries_over_knowledge/queriesoverknowledge/reasoning/LongListRemoveLastPinLaw" (some 0) with
  accessFlags := 49
  interfaces := #[]
  cf := some (fileOf pool1 27 #[] #[{ accessFlags := 1, nameIndex := 5, descriptorIndex := 6, attributes := #[] }, { accessFlags := 9, nameIndex := 31, descriptorIndex := 32, attributes := #[] }] 49 2 #[] #[])
  fields := #[]
  methods := #[k1m0, k1m1]
  instanceTypes := #[]
  staticTypes := #[]
  resolved := Array.replicate 38 none
  statics := none }

def pool2 : Array CpInfo := pool [(1, .methodref 2 3), (0, .class_ 4), (0, .nameAndType 5 6), (0, u "java/lang/Object"), (0, u "<init>"), (0, u "()V"), (0, .fieldref 8 9), (0, .class_ 10), (0, .nameAndType 11 12), (0, u "com/example/queries_over_knowledge/queriesoverknowledge/reasoning/LongList"), (0, u "values"), (0, u "[J"), (0, .fieldref 8 14), (0, .nameAndType 15 16), (0, u "size"), (0, u "I"), (0, .methodref 18 19), (0, .class_ 20), (0, .nameAndType 21 22), (0, u "java/util/Arrays"), (0, u "copyOf"), (0, u "([JI)[J"), (2, u "add"), (0, u "(J)V"), (1, u "removeLast"), (0, u "()J"), (0, u "toArray"), (0, u "()[J"), (0, u "()I")] 2

def k2c0 : Code := { maxStack := 2, maxLocals := 1, code := prog_37_method_1_code, exceptionTable := #[], attributes := #[] }
def k2m0 : Method := { name := "<init>", desc := "()V", sig := { parameters := [], returnType := none }, accessFlags := 0, code := some k2c0 }
def k2c1 : Code := { maxStack := 5, maxLocals := 3, code := prog_37_method_2_code, exceptionTable := #[], attributes := #[] }
def k2m1 : Method := { name := "add", desc := "(J)V", sig := { parameters := [.long], returnType := none }, accessFlags := 0, code := some k2c1 }
def k2c2 : Code := { maxStack := 4, maxLocals := 1, code := prog_37_method_3_code, exceptionTable := #[], attributes := #[] }
def k2m2 : Method := { name := "removeLast", desc := "()J", sig := { parameters := [], returnType := some .long }, accessFlags := 0, code := some k2c2 }
def k2c3 : Code := { maxStack := 2, maxLocals := 1, code := prog_37_method_4_code, exceptionTable := #[], attributes := #[] }
def k2m3 : Method := { name := "toArray", desc := "()[J", sig := { parameters := [], returnType := some (.array .long) }, accessFlags := 0, code := some k2c3 }
def k2c4 : Code := { maxStack := 1, maxLocals := 1, code := prog_37_method_5_code, exceptionTable := #[], attributes := #[] }
def k2m4 : Method := { name := "size", desc := "()I", sig := { parameters := [], returnType := some .int }, accessFlags := 0, code := some k2c4 }
/-- com/example/queries_over_knowledge/queriesoverknowledge/reasoning/LongList -/
def k2 : Class := { plain "com/example/queries_over_knowledge/queriesoverknowledge/reasoning/LongList" (some 0) with
  accessFlags := 48
  interfaces := #[]
  cf := some (fileOf pool2 8 #[] #[{ accessFlags := 0, nameIndex := 5, descriptorIndex := 6, attributes := #[] }, { accessFlags := 0, nameIndex := 25, descriptorIndex := 26, attributes := #[] }, { accessFlags := 0, nameIndex := 28, descriptorIndex := 29, attributes := #[] }, { accessFlags := 0, nameIndex := 30, descriptorIndex := 31, attributes := #[] }, { accessFlags := 0, nameIndex := 15, descriptorIndex := 32, attributes := #[] }] 48 2 #[] #[{ accessFlags := 2, nameIndex := 11, descriptorIndex := 12, attributes := #[] }, { accessFlags := 2, nameIndex := 15, descriptorIndex := 16, attributes := #[] }])
  fields := #[{ name := "values", type := (.array .long), accessFlags := 2, slot := 0, constantValue := 0 }, { name := "size", type := .int, accessFlags := 2, slot := 1, constantValue := 0 }]
  methods := #[k2m0, k2m1, k2m2, k2m3, k2m4]
  instanceTypes := #[(.array .long), .int]
  staticTypes := #[]
  resolved := Array.replicate 35 none
  statics := none }

def pool3 : Array CpInfo := pool [(2, .class_ 4), (1, u "java/lang/Object"), (0, u "<init>"), (0, u "()V"), (7, .class_ 16), (1, u "java/util/Arrays"), (57, .class_ 76), (1, u "java/util/Arrays$NaturalOrder"), (36, .class_ 115), (1, u "java/util/Arrays$LegacyMergeSort"), (1, u "Z"), (32, .methodref 151 152), (0, .class_ 153), (0, .nameAndType 154 155), (0, u "java/lang/System"), (0, u "arraycopy"), (0, u "(Ljava/lang/Object;ILjava/lang/Object;II)V"), (146, u "copyOf"), (1, .methodref 305 306), (0, .class_ 307), (0, .nameAndType 308 309), (0, u "java/lang/Math"), (0, u "min"), (0, u "(II)I"), (65, .class_ 376), (0, u "java/util/Arrays$ArrayList"), (68, u "$assertionsDisabled"), (269, u "MIN_ARRAY_SORT_GRAN"), (0, u "I"), (2, u "INSERTIONSORT_THRESHOLD"), (152, u "([JI)[J"), (102, .class_ 976), (0, u "java/util/Arrays$ArrayItr")] 52

def k3m0 : Method := { name := "<init>", desc := "()V", sig := { parameters := [], returnType := none }, accessFlags := 2, code := none }
def k3c1 : Code := { maxStack := 6, maxLocals := 3, code := jdk_65_method_124_code, exceptionTable := #[], attributes := #[] }
def k3m1 : Method := { name := "copyOf", desc := "([JI)[J", sig := { parameters := [(.array .long), .int], returnType := some (.array .long) }, accessFlags := 9, code := some k3c1 }
/-- java/util/Arrays -/
def k3 : Class := { plain "java/util/Arrays" (some 0) with
  accessFlags := 49
  interfaces := #[]
  cf := some (fileOf pool3 14 #[.nestMembers #[975, 375, 113, 74]] #[{ accessFlags := 2, nameIndex := 5, descriptorIndex := 6, attributes := #[] }, { accessFlags := 9, nameIndex := 302, descriptorIndex := 872, attributes := #[] }] 49 2 #[] #[{ accessFlags := 26, nameIndex := 715, descriptorIndex := 716, attributes := #[] }, { accessFlags := 26, nameIndex := 719, descriptorIndex := 716, attributes := #[] }, { accessFlags := 4120, nameIndex := 445, descriptorIndex := 117, attributes := #[] }])
  fields := #[{ name := "MIN_ARRAY_SORT_GRAN", type := .int, accessFlags := 26, slot := 0, constantValue := 0 }, { name := "INSERTIONSORT_THRESHOLD", type := .int, accessFlags := 26, slot := 1, constantValue := 0 }, { name := "$assertionsDisabled", type := .boolean, accessFlags := 4120, slot := 2, constantValue := 0 }]
  methods := #[k3m0, k3m1]
  instanceTypes := #[]
  staticTypes := #[.int, .int, .boolean]
  resolved := Array.replicate 1029 none
  statics := none }

def pool4 : Array CpInfo := pool [(1, .class_ 2), (0, u "java/lang/Math"), (1, .class_ 6), (1, u "java/lang/Object"), (0, u "<init>"), (0, u "()V"), (89, .class_ 100), (1, u "java/lang/Math$RandomNumberGeneratorHolder"), (71, u "negativeZeroFloatBits"), (0, u "J"), (2, u "negativeZeroDoubleBits"), (24, u "min"), (43, u "$assertionsDisabled"), (0, u "Z"), (88, u "(II)I"), (2, u "twoToTheDoubleScaleDown"), (0, u "D"), (4, u "twoToTheDoubleScaleUp"), (9, u "E"), (3, u "PI"), (2, u "TAU"), (2, u "DEGREES_TO_RADIANS"), (0, u "RADIANS_TO_DEGREES")] 94

def k4m0 : Method := { name := "<init>", desc := "()V", sig := { parameters := [], returnType := none }, accessFlags := 2, code := none }
def k4c1 : Code := { maxStack := 2, maxLocals := 2, code := jdk_29_method_69_code, exceptionTable := #[], attributes := #[] }
def k4m1 : Method := { name := "min", desc := "(II)I", sig := { parameters := [.int, .int], returnType := some .int }, accessFlags := 9, code := some k4c1 }
/-- java/lang/Math -/
def k4 : Class := { plain "java/lang/Math" (some 0) with
  accessFlags := 49
  interfaces := #[]
  cf := some (fileOf pool4 1 #[.nestMembers #[98]] #[{ accessFlags := 2, nameIndex := 7, descriptorIndex := 8, attributes := #[] }, { accessFlags := 9, nameIndex := 201, descriptorIndex := 335, attributes := #[] }] 49 4 #[] #[{ accessFlags := 25, nameIndex := 354, descriptorIndex := 339, attributes := #[] }, { accessFlags := 25, nameIndex := 358, descriptorIndex := 339, attributes := #[] }, { accessFlags := 25, nameIndex := 361, descriptorIndex := 339, attributes := #[] }, { accessFlags := 26, nameIndex := 364, descriptorIndex := 339, attributes := #[] }, { accessFlags := 26, nameIndex := 365, descriptorIndex := 339, attributes := #[] }, { accessFlags := 26, nameIndex := 172, descriptorIndex := 173, attributes := #[] }, { accessFlags := 26, nameIndex := 176, descriptorIndex := 173, attributes := #[] }, { accessFlags := 8, nameIndex := 344, descriptorIndex := 339, attributes := #[] }, { accessFlags := 8, nameIndex := 338, descriptorIndex := 339, attributes := #[] }, { accessFlags := 4120, nameIndex := 245, descriptorIndex := 246, attributes := #[] }])
  fields := #[{ name := "E", type := .double, accessFlags := 25, slot := 0, constantValue := 0 }, { name := "PI", type := .double, accessFlags := 25, slot := 1, constantValue := 0 }, { name := "TAU", type := .double, accessFlags := 25, slot := 2, constantValue := 0 }, { name := "DEGREES_TO_RADIANS", type := .double, accessFlags := 26, slot := 3, constantValue := 0 }, { name := "RADIANS_TO_DEGREES", type := .double, accessFlags := 26, slot := 4, constantValue := 0 }, { name := "negativeZeroFloatBits", type := .long, accessFlags := 26, slot := 5, constantValue := 0 }, { name := "negativeZeroDoubleBits", type := .long, accessFlags := 26, slot := 6, constantValue := 0 }, { name := "twoToTheDoubleScaleUp", type := .double, accessFlags := 8, slot := 7, constantValue := 0 }, { name := "twoToTheDoubleScaleDown", type := .double, accessFlags := 8, slot := 8, constantValue := 0 }, { name := "$assertionsDisabled", type := .boolean, accessFlags := 4120, slot := 9, constantValue := 0 }]
  methods := #[k4m0, k4m1]
  instanceTypes := #[]
  staticTypes := #[.double, .double, .double, .double, .double, .long, .long, .double, .double, .boolean]
  resolved := Array.replicate 460 none
  statics := none }

def pool5 : Array CpInfo := pool [(2, .class_ 4), (1, u "java/lang/Object"), (0, u "<init>"), (0, u "()V"), (1, .class_ 10), (1, u "java/lang/System"), (0, u "allowSecurityManager"), (0, u "I"), (16, u "cons"), (0, u "Ljava/io/Console;"), (77, .class_ 110), (1, u "java/lang/System$CallersHolder"), (43, u "initialErrStream"), (0, u "Ljava/io/PrintStream;"), (19, u "security"), (0, u "Ljava/lang/SecurityManager;"), (31, .class_ 209), (0, u "java/lang/System$1"), (7, u "props"), (0, u "Ljava/util/Properties;"), (2, u "lineSeparator"), (0, u "Ljava/lang/String;"), (96, .class_ 321), (1, u "java/lang/System$LoggerFinder"), (5, .class_ 328), (0, u "java/lang/System$Logger"), (67, u "err"), (2, u "out"), (91, u "notSupportedJnuEncoding"), (15, u "in"), (17, u "initialIn"), (0, u "Ljava/io/InputStream;"), (35, u "bootLayer"), (0, u "Ljava/lang/ModuleLayer;"), (99, .class_ 664), (0, u "java/lang/System$2"), (9, u "NEVER"), (2, u "MAYBE"), (49, u "arraycopy"), (0, u "(Ljava/lang/Object;ILjava/lang/Object;II)V"), (72, .class_ 802), (0, u "java/lang/System$Logger$Level")] 31

def k5m0 : Method := { name := "<init>", desc := "()V", sig := { parameters := [], returnType := none }, accessFlags := 2, code := none }
def k5m1 : Method := { name := "arraycopy", desc := "(Ljava/lang/Object;ILjava/lang/Object;II)V", sig := { parameters := [(.object "java/lang/Object"), .int, (.object "java/lang/Object"), .int, .int], returnType := none }, accessFlags := 265, code := none }
/-- java/lang/System -/
def k5 : Class := { plain "java/lang/System" (some 0) with
  accessFlags := 49
  interfaces := #[]
  cf := some (fileOf pool5 8 #[.nestMembers #[319, 327, 801, 108, 663, 208]] #[{ accessFlags := 2, nameIndex := 5, descriptorIndex := 6, attributes := #[] }, { accessFlags := 265, nameIndex := 727, descriptorIndex := 728, attributes := #[] }] 49 2 #[] #[{ accessFlags := 25, nameIndex := 507, descriptorIndex := 526, attributes := #[] }, { accessFlags := 25, nameIndex := 399, descriptorIndex := 155, attributes := #[] }, { accessFlags := 25, nameIndex := 396, descriptorIndex := 155, attributes := #[] }, { accessFlags := 10, nameIndex := 525, descriptorIndex := 526, attributes := #[] }, { accessFlags := 26, nameIndex := 674, descriptorIndex := 12, attributes := #[] }, { accessFlags := 26, nameIndex := 677, descriptorIndex := 12, attributes := #[] }, { accessFlags := 10, nameIndex := 11, descriptorIndex := 12, attributes := #[] }, { accessFlags := 74, nameIndex := 175, descriptorIndex := 176, attributes := #[] }, { accessFlags := 10, nameIndex := 491, descriptorIndex := 222, attributes := #[] }, { accessFlags := 74, nameIndex := 29, descriptorIndex := 30, attributes := #[] }, { accessFlags := 74, nameIndex := 154, descriptorIndex := 155, attributes := #[] }, { accessFlags := 10, nameIndex := 217, descriptorIndex := 218, attributes := #[] }, { accessFlags := 10, nameIndex := 221, descriptorIndex := 222, attributes := #[] }, { accessFlags := 8, nameIndex := 562, descriptorIndex := 563, attributes := #[] }])
  fields := #[{ name := "in", type := (.object "java/io/InputStream"), accessFlags := 25, slot := 0, constantValue := 0 }, { name := "out", type := (.object "java/io/PrintStream"), accessFlags := 25, slot := 1, constantValue := 0 }, { name := "err", type := (.object "java/io/PrintStream"), accessFlags := 25, slot := 2, constantValue := 0 }, { name := "initialIn", type := (.object "java/io/InputStream"), accessFlags := 10, slot := 3, constantValue := 0 }, { name := "NEVER", type := .int, accessFlags := 26, slot := 4, constantValue := 0 }, { name := "MAYBE", type := .int, accessFlags := 26, slot := 5, constantValue := 0 }, { name := "allowSecurityManager", type := .int, accessFlags := 10, slot := 6, constantValue := 0 }, { name := "security", type := (.object "java/lang/SecurityManager"), accessFlags := 74, slot := 7, constantValue := 0 }, { name := "notSupportedJnuEncoding", type := (.object "java/lang/String"), accessFlags := 10, slot := 8, constantValue := 0 }, { name := "cons", type := (.object "java/io/Console"), accessFlags := 74, slot := 9, constantValue := 0 }, { name := "initialErrStream", type := (.object "java/io/PrintStream"), accessFlags := 74, slot := 10, constantValue := 0 }, { name := "props", type := (.object "java/util/Properties"), accessFlags := 10, slot := 11, constantValue := 0 }, { name := "lineSeparator", type := (.object "java/lang/String"), accessFlags := 10, slot := 12, constantValue := 0 }, { name := "bootLayer", type := (.object "java/lang/ModuleLayer"), accessFlags := 8, slot := 13, constantValue := 0 }]
  methods := #[k5m0, k5m1]
  instanceTypes := #[]
  staticTypes := #[(.object "java/io/InputStream"), (.object "java/io/PrintStream"), (.object "java/io/PrintStream"), (.object "java/io/InputStream"), .int, .int, .int, (.object "java/lang/SecurityManager"), (.object "java/lang/String"), (.object "java/io/Console"), (.object "java/io/PrintStream"), (.object "java/util/Properties"), (.object "java/lang/String"), (.object "java/lang/ModuleLayer")]
  resolved := Array.replicate 834 none
  statics := none }

def pool6 : Array CpInfo := pool [(1, u "java/lang/Cloneable"), (0, .class_ 1), (0, u "java/lang/Object"), (0, .class_ 3)] 3

/-- java/lang/Cloneable -/
def k6 : Class := { plain "java/lang/Cloneable" (some 0) with
  accessFlags := 1537
  interfaces := #[]
  cf := some (fileOf pool6 2 #[] #[] 1537 4 #[] #[])
  fields := #[]
  methods := #[]
  instanceTypes := #[]
  staticTypes := #[]
  resolved := Array.replicate 8 none
  statics := none }

def pool7 : Array CpInfo := pool [(1, u "java/io/Serializable"), (0, .class_ 1), (0, u "java/lang/Object"), (0, .class_ 3)] 3

/-- java/io/Serializable -/
def k7 : Class := { plain "java/io/Serializable" (some 0) with
  accessFlags := 1537
  interfaces := #[]
  cf := some (fileOf pool7 2 #[] #[] 1537 4 #[] #[])
  fields := #[]
  methods := #[]
  instanceTypes := #[]
  staticTypes := #[]
  resolved := Array.replicate 8 none
  statics := none }

/-- the primitive byte -/
def k8 : Class := { plain "byte" none with kind := .primitive 'B', accessFlags := 0x411 }
/-- [B -/
def k9 : Class := { plain "[B" (some 0) with kind := .array 8 .byte, interfaces := #[6, 7], accessFlags := 1041 }

/-- the primitive int -/
def k10 : Class := { plain "int" none with kind := .primitive 'I', accessFlags := 0x411 }
/-- [I -/
def k11 : Class := { plain "[I" (some 0) with kind := .array 10 .int, interfaces := #[6, 7], accessFlags := 1041 }

/-- the primitive long -/
def k12 : Class := { plain "long" none with kind := .primitive 'J', accessFlags := 0x411 }
/-- [J -/
def k13 : Class := { plain "[J" (some 0) with kind := .array 12 .long, interfaces := #[6, 7], accessFlags := 1041 }

def heap : Heap := #[]
def classes : Array Class := #[k0, k1, k2, k3, k4, k5, k6, k7, k8, k9, k10, k11, k12, k13]
def interned : List (Array UInt16 × Addr) := []
def slotsUsed : Nat := 0
def theMethod : MethodId := ⟨1, 1⟩
def args0 : Array Value := #[.int 3, .long 5, .long 6, .long 7, .long 8, .long 9]
def aboutOver (below : List Frame) : State where
  vm := { classes := classes, interned := interned.toArray }
  heap := heap
  slotsUsed := slotsUsed
  threads := #[{ frames := .invoking theMethod args0 :: below }]
def below0 : List Frame := [.native { method := ⟨0, 0⟩, args := #[] }]
def about1 : State := aboutOver below0
def p0 : Program := .bare "" "" ""
def e0 : Env := launch0.env 0 0 0
theorem w_frames : about1.frames = Frame.invoking theMethod args0 :: below0 := rfl
set_option maxRecDepth 65536 in
theorem w_args : argsFit about1.vm theMethod args0 = true := by decide +kernel
set_option maxRecDepth 65536 in
theorem w_heap : heapFits about1 = true := by decide +kernel
set_option maxRecDepth 65536 in
theorem w_runnable : about1.curStatus? = some .runnable := by decide +kernel
set_option maxRecDepth 65536 in
theorem w_alone : about1.alone = true := by decide +kernel
set_option maxRecDepth 65536 in
theorem w_named : about1.methodNamed? x = some theMethod := by decide +kernel
set_option maxRecDepth 65536 in
theorem w_hears : about1.hears theMethod below0 = true := by decide +kernel
set_option maxRecDepth 65536 in
theorem w_ripe : about1.ripe theMethod args0 below0 = true := by decide +kernel
theorem w_running : about1.status = .running := rfl
set_option maxRecDepth 65536 in
theorem w_room : about1.hasRoom e0.platform room_1 = true :=
  launch0.hasRoom_least _ room_1 (by decide +kernel) (by decide +kernel) (by decide +kernel) (by decide +kernel) (by decide +kernel) (by decide +kernel)
theorem allAtoms_all (ts : List Jvm.Cond) (a : Array Jvm.Value) (st : Jvm.State) : (allAtoms ts).before a st = ts.all (fun c => c.before a st) := by
  induction ts with
  | nil => rfl
  | cons c t ih =>
    show (Jvm.Cond.and c (allAtoms t)).before a st = _
    rw [Jvm.Cond.before_and, ih, List.all_cons]
def words1 : List Jvm.Cond := Jvm.Cond.code x code maxLocals ret :: tables_1
/-- a 'code' word, met by the world's own term for the bytes: nothing is compared byte by byte -/
theorem code_word {y : MethodName} {bytes : ByteArray} {mx : Nat} {rt : Option FieldType} {a : Array Value} {s : State} {m : MethodId} {meth : Method} {c : Code} (h1 : s.methodNamed? y = some m) (h2 : s.vm.method? m = some meth) (h3 : meth.code = some c) (h4 : c.code = bytes)
    (h5 : (c.maxLocals == mx && c.exceptionTable.isEmpty && decide (c.maxStack ≤ mostOperands) && decide (meth.sig.returnType = rt) && !meth.locks && decide (parseMethodDescriptor y.desc = some meth.sig)) = true) : (Jvm.Cond.code y bytes mx rt).before a s = true := by
  simp only [Bool.and_eq_true, beq_iff_eq, Bool.not_eq_true', decide_eq_true_eq] at h5
  obtain ⟨⟨⟨⟨⟨g1, g2⟩, g3⟩, g4⟩, g5⟩, g6⟩ := h5
  simp [Cond.before, Cond.holds, Cond.value, h1, h2, h3, h4, g1, g2, g3, g4, g5, g6]
def isCode : Jvm.Cond → Bool
  | .code _ _ _ _ => true
  | _ => false
theorem all_split {L : List Jvm.Cond} {P : Jvm.Cond → Bool} (h1 : L.all (fun c => isCode c || P c) = true) (h2 : ∀ c ∈ L.filter isCode, P c = true) : L.all P = true := by
  refine List.all_eq_true.mpr fun c hc => ?_
  have h := List.all_eq_true.mp h1 c hc
  rcases Bool.eq_false_or_eq_true (isCode c) with hi | hi
  · exact h2 c (List.mem_filter.mpr ⟨hc, hi⟩)
  · simpa [hi] using h
set_option maxRecDepth 65536 in
theorem w_c0 : (Jvm.Cond.code x code maxLocals ret).before args0 about1 = true := code_word (m := ⟨1, 1⟩) (meth := k1m1) (c := k1c1) (by decide +kernel) rfl rfl rfl (by decide +kernel)
set_option maxRecDepth 65536 in
theorem w_c1 : (Jvm.Cond.code ({ cls := "com/example/queries_over_knowledge/queriesoverknowledge/reasoning/LongList", name := "<init>", desc := "()V" } : Jvm.MethodName) prog_37_method_1_code (1 : Nat) (Option.none : Option Jvm.ClassFile.FieldType)).before args0 about1 = true := code_word (m := ⟨2, 0⟩) (meth := k2m0) (c := k2c0) (by decide +kernel) rfl rfl rfl (by decide +kernel)
set_option maxRecDepth 65536 in
theorem w_c2 : (Jvm.Cond.code ({ cls := "java/lang/Object", name := "<init>", desc := "()V" } : Jvm.MethodName) object_method_1_code (1 : Nat) (Option.none : Option Jvm.ClassFile.FieldType)).before args0 about1 = true := code_word (m := ⟨0, 0⟩) (meth := k0m0) (c := k0c0) (by decide +kernel) rfl rfl rfl (by decide +kernel)
set_option maxRecDepth 65536 in
theorem w_c3 : (Jvm.Cond.code ({ cls := "com/example/queries_over_knowledge/queriesoverknowledge/reasoning/LongList", name := "add", desc := "(J)V" } : Jvm.MethodName) prog_37_method_2_code (3 : Nat) (Option.none : Option Jvm.ClassFile.FieldType)).before args0 about1 = true := code_word (m := ⟨2, 1⟩) (meth := k2m1) (c := k2c1) (by decide +kernel) rfl rfl rfl (by decide +kernel)
set_option maxRecDepth 65536 in
theorem w_c4 : (Jvm.Cond.code ({ cls := "com/example/queries_over_knowledge/queriesoverknowledge/reasoning/LongList", name := "removeLast", desc := "()J" } : Jvm.MethodName) prog_37_method_3_code (1 : Nat) (Option.some Jvm.ClassFile.FieldType.long)).before args0 about1 = true := code_word (m := ⟨2, 2⟩) (meth := k2m2) (c := k2c2) (by decide +kernel) rfl rfl rfl (by decide +kernel)
set_option maxRecDepth 65536 in
theorem w_c5 : (Jvm.Cond.code ({ cls := "com/example/queries_over_knowledge/queriesoverknowledge/reasoning/LongList", name := "size", desc := "()I" } : Jvm.MethodName) prog_37_method_5_code (1 : Nat) (Option.some Jvm.ClassFile.FieldType.int)).before args0 about1 = true := code_word (m := ⟨2, 4⟩) (meth := k2m4) (c := k2c4) (by decide +kernel) rfl rfl rfl (by decide +kernel)
set_option maxRecDepth 65536 in
theorem w_c6 : (Jvm.Cond.code ({ cls := "com/example/queries_over_knowledge/queriesoverknowledge/reasoning/LongList", name := "toArray", desc := "()[J" } : Jvm.MethodName) prog_37_method_4_code (1 : Nat) (Option.some (Jvm.ClassFile.FieldType.array Jvm.ClassFile.FieldType.long))).before args0 about1 = true := code_word (m := ⟨2, 3⟩) (meth := k2m3) (c := k2c3) (by decide +kernel) rfl rfl rfl (by decide +kernel)
set_option maxRecDepth 65536 in
theorem w_c7 : (Jvm.Cond.code ({ cls := "java/util/Arrays", name := "copyOf", desc := "([JI)[J" } : Jvm.MethodName) jdk_65_method_124_code (3 : Nat) (Option.some (Jvm.ClassFile.FieldType.array Jvm.ClassFile.FieldType.long))).before args0 about1 = true := code_word (m := ⟨3, 1⟩) (meth := k3m1) (c := k3c1) (by decide +kernel) rfl rfl rfl (by decide +kernel)
set_option maxRecDepth 65536 in
theorem w_c8 : (Jvm.Cond.code ({ cls := "java/lang/Math", name := "min", desc := "(II)I" } : Jvm.MethodName) jdk_29_method_69_code (2 : Nat) (Option.some Jvm.ClassFile.FieldType.int)).before args0 about1 = true := code_word (m := ⟨4, 1⟩) (meth := k4m1) (c := k4c1) (by decide +kernel) rfl rfl rfl (by decide +kernel)
def codes1 : List Jvm.Cond := [Jvm.Cond.code x code maxLocals ret, Jvm.Cond.code ({ cls := "com/example/queries_over_knowledge/queriesoverknowledge/reasoning/LongList", name := "<init>", desc := "()V" } : Jvm.MethodName) prog_37_method_1_code (1 : Nat) (Option.none : Option Jvm.ClassFile.FieldType), Jvm.Cond.code ({ cls := "java/lang/Object", name := "<init>", desc := "()V" } : Jvm.MethodName) object_method_1_code (1 : Nat) (Option.none : Option Jvm.ClassFile.FieldType), Jvm.Cond.code ({ cls := "com/example/queries_over_knowledge/queriesoverknowledge/reasoning/LongList", name := "add", desc := "(J)V" } : Jvm.MethodName) prog_37_method_2_code (3 : Nat) (Option.none : Option Jvm.ClassFile.FieldType), Jvm.Cond.code ({ cls := "com/example/queries_over_knowledge/queriesoverknowledge/reasoning/LongList", name := "removeLast", desc := "()J" } : Jvm.MethodName) prog_37_method_3_code (1 : Nat) (Option.some Jvm.ClassFile.FieldType.long), Jvm.Cond.code ({ cls := "com/example/queries_over_knowledge/queriesoverknowledge/reasoning/LongList", name := "size", desc := "()I" } : Jvm.MethodName) prog_37_method_5_code (1 : Nat) (Option.some Jvm.ClassFile.FieldType.int), Jvm.Cond.code ({ cls := "com/example/queries_over_knowledge/queriesoverknowledge/reasoning/LongList", name := "toArray", desc := "()[J" } : Jvm.MethodName) prog_37_method_4_code (1 : Nat) (Option.some (Jvm.ClassFile.FieldType.array Jvm.ClassFile.FieldType.long)), Jvm.Cond.code ({ cls := "java/util/Arrays", name := "copyOf", desc := "([JI)[J" } : Jvm.MethodName) jdk_65_method_124_code (3 : Nat) (Option.some (Jvm.ClassFile.FieldType.array Jvm.ClassFile.FieldType.long)), Jvm.Cond.code ({ cls := "java/lang/Math", name := "min", desc := "(II)I" } : Jvm.MethodName) jdk_29_method_69_code (2 : Nat) (Option.some Jvm.ClassFile.FieldType.int)]
set_option maxRecDepth 65536 in
theorem codes_eq : words1.filter isCode = codes1 := rfl
theorem w_codes : ∀ c ∈ words1.filter isCode, c.before args0 about1 = true := by
  rw [codes_eq]
  intro c hc
  simp only [codes1, List.mem_cons, List.not_mem_nil, or_false] at hc
  rcases hc with rfl | rfl | rfl | rfl | rfl | rfl | rfl | rfl | rfl
  · exact w_c0
  · exact w_c1
  · exact w_c2
  · exact w_c3
  · exact w_c4
  · exact w_c5
  · exact w_c6
  · exact w_c7
  · exact w_c8
set_option maxRecDepth 65536 in
theorem w_t1 : (words1.take 24).all (fun c => isCode c || c.before args0 about1) = true := by decide +kernel
set_option maxRecDepth 65536 in
theorem w_t2 : (words1.drop 24).all (fun c => isCode c || c.before args0 about1) = true := by decide +kernel
theorem w_tables : (allAtoms (Jvm.Cond.code x code maxLocals ret :: tables_1)).before args0 about1 = true := by
  rw [allAtoms_all]
  show words1.all (fun c => c.before args0 about1) = true
  refine all_split ?_ w_codes
  rw [← List.take_append_drop 24 words1, List.all_append, w_t1, w_t2]
  rfl
set_option maxRecDepth 65536 in
theorem w_case : (Jvm.Cond.and given_1 narrow_1).before args0 about1 = true := by decide +kernel
theorem w_applies : (headSpec (Jvm.Cond.code x code maxLocals ret :: tables_1) room_1).applies x e0.platform about1 = true :=
  (Spec.applies_iff w_frames).mpr ⟨w_running, w_runnable, w_alone, w_named, w_hears, w_ripe, w_room, w_tables⟩
theorem atStart : AtStart classFile x code maxLocals ret World_1 tables_1 room_1 Calls_1 rest_1 Pre_1 launch0 p0 e0 about1 theMethod args0 below0 :=
  ⟨lists_1, trivial, launch0.admits_env _ _ _, launch0.least_env, fairChoices_fair.cas, fairChoices_fair.clock, w_frames, w_args, w_heap, w_applies, trivial, trivial, w_case⟩
end start1
theorem witness_1 : WitnessClaimed_1 := ⟨start1.p0, start1.e0, start1.about1, start1.theMethod, start1.args0, start1.below0, start1.atStart⟩
end Jvm.Pilot.@@N@@
