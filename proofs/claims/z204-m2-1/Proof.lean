import JvmDerived
import JvmDerived.Pilot.@@N@@Statement
import JvmDerived.Pilot.@@N@@Code
set_option linter.unusedVariables false
set_option linter.unusedSimpArgs false
namespace Jvm.RoadKit
open Sem ClassFile Op Lib Jvm.Stand Jvm.Free Jvm.LawKit
section New
variable {p : Program} {l : Launch} {e : Env} {R : Room} {s : State} {m : MethodId} {args : Array Value} {below : List Frame} {meth : Method} {c : Code} {T : State} {locs : List Loc} {cells slots : Nat}
theorem retI (X : Stand p l e R s m args below meth c T locs cells slots) (hx : p.tables.exec = Jvm.exec) {pc : Nat} {Ls : Array Slot} {z : Int32} {rest : List Value} (hret : meth.sig.returnType = some .int) (hd : decode c.code pc = .ok (.ireturn, 1)) {fs : List Frame}
    (hl : ∀ (f : JFrame) (acts : List Action), f.method = m → f.locked = none → f.entered = [] → (doReturn e (T.setTop f) acts (some (.int z))).1 = T.setFrames fs) : Steps p.tables e below (T.setTop (mkF m pc Ls (.int z :: rest))) (T.setFrames fs) := by
  have hm' : T.vm.method? m = some meth := X.method'
  have hn : narrow .int (.int z) = .int z := rfl
  show Steps p.tables e below (T.setTop { method := m, pc := pc, locals := Ls, stack := _ :: rest, locked := none }) _
  jvm_step X.here [X.here.top, hx, hd, hm', hret, hn]
  first | (intro acts; rw [hl _ acts rfl rfl rfl]) | rw [hl _ _ rfl rfl rfl]
  exact Steps.refl _
end New
end Jvm.RoadKit
namespace Jvm.Pilot.@@N@@
open Jvm Jvm.ClassFile Sem Op Lib Jvm.Free Jvm.Stand Jvm.LawKit Jvm.RoadKit Bundle Jvm.Pilot.@@N@@.Jvm.D
theorem pn_0 : plainName "java/lang/Record" = true := by first | (simp [plainName, overriddenIn]; done) | decide +kernel
theorem pn_1 : plainName "tracewarden/check/Limits" = true := by first | (simp [plainName, overriddenIn]; done) | decide +kernel
theorem pn_2 : plainName "tracewarden/check/LimitsLongestRunPinLaw" = true := by first | (simp [plainName, overriddenIn]; done) | decide +kernel
theorem pd_0 : parseMethodDescriptor "()V" = some ⟨[], none⟩ := by decide +kernel
theorem pd_1 : parseMethodDescriptor "(JJ)J" = some ⟨[.long, .long], some .long⟩ := by decide +kernel
theorem pd_2 : parseMethodDescriptor "(JJJJ)V" = some ⟨[.long, .long, .long, .long], none⟩ := by decide +kernel
theorem pd_3 : parseMethodDescriptor "()J" = some ⟨[], some .long⟩ := by decide +kernel
theorem d1_0 : decode jdk_29_method_66_code 0 = .ok (.lload_n 0, 1) := by decide +kernel
theorem d1_1 : decode jdk_29_method_66_code 1 = .ok (.lload_n 2, 1) := by decide +kernel
theorem d1_2 : decode jdk_29_method_66_code 2 = .ok (.lcmp, 1) := by decide +kernel
theorem d1_3 : decode jdk_29_method_66_code 3 = .ok (.ifCond .lt 7, 3) := by decide +kernel
theorem d1_6 : decode jdk_29_method_66_code 6 = .ok (.lload_n 0, 1) := by decide +kernel
theorem d1_7 : decode jdk_29_method_66_code 7 = .ok (.goto 4, 3) := by decide +kernel
theorem d1_10 : decode jdk_29_method_66_code 10 = .ok (.lload_n 2, 1) := by decide +kernel
theorem d1_11 : decode jdk_29_method_66_code 11 = .ok (.lreturn, 1) := by decide +kernel
theorem d3_0 : decode jdk_30_method_1_code 0 = .ok (.aload_n 0, 1) := by decide +kernel
theorem d3_1 : decode jdk_30_method_1_code 1 = .ok (.invokespecial 1, 3) := by decide +kernel
theorem d3_4 : decode jdk_30_method_1_code 4 = .ok (.return_, 1) := by decide +kernel
theorem d2_0 : decode prog_29_method_1_code 0 = .ok (.aload_n 0, 1) := by decide +kernel
theorem d2_1 : decode prog_29_method_1_code 1 = .ok (.invokespecial 3, 3) := by decide +kernel
theorem d2_4 : decode prog_29_method_1_code 4 = .ok (.lload_n 1, 1) := by decide +kernel
theorem d2_5 : decode prog_29_method_1_code 5 = .ok (.lconst 1, 1) := by decide +kernel
theorem d2_6 : decode prog_29_method_1_code 6 = .ok (.lcmp, 1) := by decide +kernel
theorem d2_7 : decode prog_29_method_1_code 7 = .ok (.ifCond .lt 23, 3) := by decide +kernel
theorem d2_10 : decode prog_29_method_1_code 10 = .ok (.lload_n 3, 1) := by decide +kernel
theorem d2_11 : decode prog_29_method_1_code 11 = .ok (.lconst 0, 1) := by decide +kernel
theorem d2_12 : decode prog_29_method_1_code 12 = .ok (.lcmp, 1) := by decide +kernel
theorem d2_13 : decode prog_29_method_1_code 13 = .ok (.ifCond .lt 17, 3) := by decide +kernel
theorem d2_16 : decode prog_29_method_1_code 16 = .ok (.lload 5, 2) := by decide +kernel
theorem d2_18 : decode prog_29_method_1_code 18 = .ok (.lconst 0, 1) := by decide +kernel
theorem d2_19 : decode prog_29_method_1_code 19 = .ok (.lcmp, 1) := by decide +kernel
theorem d2_20 : decode prog_29_method_1_code 20 = .ok (.ifCond .lt 10, 3) := by decide +kernel
theorem d2_23 : decode prog_29_method_1_code 23 = .ok (.lload 7, 2) := by decide +kernel
theorem d2_25 : decode prog_29_method_1_code 25 = .ok (.lconst 0, 1) := by decide +kernel
theorem d2_26 : decode prog_29_method_1_code 26 = .ok (.lcmp, 1) := by decide +kernel
theorem d2_27 : decode prog_29_method_1_code 27 = .ok (.ifCond .ge 22, 3) := by decide +kernel
theorem d2_49 : decode prog_29_method_1_code 49 = .ok (.aload_n 0, 1) := by decide +kernel
theorem d2_50 : decode prog_29_method_1_code 50 = .ok (.lload_n 1, 1) := by decide +kernel
theorem d2_51 : decode prog_29_method_1_code 51 = .ok (.putfield 18, 3) := by decide +kernel
theorem d2_54 : decode prog_29_method_1_code 54 = .ok (.aload_n 0, 1) := by decide +kernel
theorem d2_55 : decode prog_29_method_1_code 55 = .ok (.lload_n 3, 1) := by decide +kernel
theorem d2_56 : decode prog_29_method_1_code 56 = .ok (.putfield 24, 3) := by decide +kernel
theorem d2_59 : decode prog_29_method_1_code 59 = .ok (.aload_n 0, 1) := by decide +kernel
theorem d2_60 : decode prog_29_method_1_code 60 = .ok (.lload 5, 2) := by decide +kernel
theorem d2_62 : decode prog_29_method_1_code 62 = .ok (.putfield 27, 3) := by decide +kernel
theorem d2_65 : decode prog_29_method_1_code 65 = .ok (.aload_n 0, 1) := by decide +kernel
theorem d2_66 : decode prog_29_method_1_code 66 = .ok (.lload 7, 2) := by decide +kernel
theorem d2_68 : decode prog_29_method_1_code 68 = .ok (.putfield 30, 3) := by decide +kernel
theorem d2_71 : decode prog_29_method_1_code 71 = .ok (.return_, 1) := by decide +kernel
theorem d5_0 : decode prog_29_method_3_code 0 = .ok (.aload_n 0, 1) := by decide +kernel
theorem d5_1 : decode prog_29_method_3_code 1 = .ok (.getfield 27, 3) := by decide +kernel
theorem d5_4 : decode prog_29_method_3_code 4 = .ok (.aload_n 0, 1) := by decide +kernel
theorem d5_5 : decode prog_29_method_3_code 5 = .ok (.getfield 18, 3) := by decide +kernel
theorem d5_8 : decode prog_29_method_3_code 8 = .ok (.lcmp, 1) := by decide +kernel
theorem d5_9 : decode prog_29_method_3_code 9 = .ok (.ifCond .ge 32, 3) := by decide +kernel
theorem d5_12 : decode prog_29_method_3_code 12 = .ok (.aload_n 0, 1) := by decide +kernel
theorem d5_13 : decode prog_29_method_3_code 13 = .ok (.getfield 24, 3) := by decide +kernel
theorem d5_16 : decode prog_29_method_3_code 16 = .ok (.aload_n 0, 1) := by decide +kernel
theorem d5_17 : decode prog_29_method_3_code 17 = .ok (.getfield 18, 3) := by decide +kernel
theorem d5_20 : decode prog_29_method_3_code 20 = .ok (.aload_n 0, 1) := by decide +kernel
theorem d5_21 : decode prog_29_method_3_code 21 = .ok (.getfield 27, 3) := by decide +kernel
theorem d5_24 : decode prog_29_method_3_code 24 = .ok (.lsub, 1) := by decide +kernel
theorem d5_25 : decode prog_29_method_3_code 25 = .ok (.lcmp, 1) := by decide +kernel
theorem d5_26 : decode prog_29_method_3_code 26 = .ok (.ifCond .ge 15, 3) := by decide +kernel
theorem d5_29 : decode prog_29_method_3_code 29 = .ok (.aload_n 0, 1) := by decide +kernel
theorem d5_30 : decode prog_29_method_3_code 30 = .ok (.getfield 24, 3) := by decide +kernel
theorem d5_33 : decode prog_29_method_3_code 33 = .ok (.aload_n 0, 1) := by decide +kernel
theorem d5_34 : decode prog_29_method_3_code 34 = .ok (.getfield 27, 3) := by decide +kernel
theorem d5_37 : decode prog_29_method_3_code 37 = .ok (.ladd, 1) := by decide +kernel
theorem d5_38 : decode prog_29_method_3_code 38 = .ok (.goto 6, 3) := by decide +kernel
theorem d5_41 : decode prog_29_method_3_code 41 = .ok (.ldc2_w 33, 3) := by decide +kernel
theorem d5_44 : decode prog_29_method_3_code 44 = .ok (.lreturn, 1) := by decide +kernel
def g1_11 (q1 : Int64) (q2 : Int64)  (z11_0 : Int64) : Int64 := z11_0
def g1_10 (q1 : Int64) (q2 : Int64)   : Int64 := (g1_11 q1 q2  q2)
def g1_6 (q1 : Int64) (q2 : Int64)   : Int64 := (g1_11 q1 q2  q1)
def g1_0 (q1 : Int64) (q2 : Int64)   : Int64 := if (lcmpW q1 q2) < (0 : Int32) then (g1_10 q1 q2  ) else (g1_6 q1 q2  )
def own_run (w s r : Int64) : Int64 := if lcmpW r w < (0 : Int32) then (if lcmpW s (w - r) < (0 : Int32) then s + r else 9223372036854775807) else 9223372036854775807
theorem own_r1 {w s r : Int64} (h : lcmpW r w < (0 : Int32)) (k : lcmpW s (w - r) < (0 : Int32)) : own_run w s r = s + r := by unfold own_run; rw [if_pos h, if_pos k]
theorem own_r2 {w s r : Int64} (h : lcmpW r w < (0 : Int32)) (k : ¬ (lcmpW s (w - r) < (0 : Int32))) : own_run w s r = 9223372036854775807 := by unfold own_run; rw [if_pos h, if_neg k]
theorem own_r3 {w s r : Int64} (h : ¬ (lcmpW r w < (0 : Int32))) : own_run w s r = 9223372036854775807 := by unfold own_run; rw [if_neg h]
theorem own_msk (x : Int64) : 0 ≤ (x &&& (9223372036854775807 : Int64)).toInt := by
  have m1 : (x &&& (9223372036854775807 : Int64)).toInt = x.toInt % (2 ^ 63 : Nat) := c_maskL x _ 63 (by decide) (by decide)
  omega
theorem own_max (x : Int64) : 1 ≤ (g1_0 (1 : Int64) x).toInt := by
  have e1 : (1 : Int64).toInt = 1 := rfl
  show 1 ≤ (if lcmpW (1 : Int64) x < (0 : Int32) then x else (1 : Int64)).toInt
  split
  · rename_i h
    rw [lw_lt, Int64.lt_iff_toInt_lt] at h
    omega
  · omega
theorem own_g1 {P : Int64} (h : 1 ≤ P.toInt) : ¬ (lcmpW P (1 : Int64) < (0 : Int32)) := by
  rw [lw_lt, Int64.lt_iff_toInt_lt]
  have e1 : (1 : Int64).toInt = 1 := rfl
  omega
theorem own_g0 {P : Int64} (h : 0 ≤ P.toInt) : ¬ (lcmpW P (0 : Int64) < (0 : Int32)) := by
  rw [lw_lt, Int64.lt_iff_toInt_lt]
  have e1 : (0 : Int64).toInt = 0 := rfl
  omega
theorem own_neg {w s r : Int64} (hw1 : 1 ≤ w.toInt) (hs0 : 0 ≤ s.toInt) (hr0 : 0 ≤ r.toInt) (h : lcmpW (s + r) (0 : Int64) < (0 : Int32)) : own_run w s r = 9223372036854775807 := by
  rw [lw_lt, Int64.lt_iff_toInt_lt, show (0 : Int64).toInt = 0 from rfl] at h
  have a := c_ladd s r
  have b := c_lsub w r
  have := rng64 s; have := rng64 r; have := rng64 w; have := rng64 (s + r); have := rng64 (w - r)
  by_cases k : lcmpW r w < (0 : Int32)
  · refine own_r2 k fun q => ?_
    rw [lw_lt, Int64.lt_iff_toInt_lt] at k q
    omega
  · exact own_r3 k
theorem own_sum {w s r : Int64} (hw1 : 1 ≤ w.toInt) (hs0 : 0 ≤ s.toInt) (hr0 : 0 ≤ r.toInt) (h : ¬ (lcmpW (s + r) (0 : Int64) < (0 : Int32))) (h2 : lcmpW (s + r) w < (0 : Int32)) : own_run w s r = s + r := by
  rw [lw_lt, Int64.lt_iff_toInt_lt, show (0 : Int64).toInt = 0 from rfl] at h
  rw [lw_lt, Int64.lt_iff_toInt_lt] at h2
  have a := c_ladd s r
  have b := c_lsub w r
  have := rng64 s; have := rng64 r; have := rng64 w; have := rng64 (s + r); have := rng64 (w - r)
  refine own_r1 ?_ ?_
  · rw [lw_lt, Int64.lt_iff_toInt_lt]; omega
  · rw [lw_lt, Int64.lt_iff_toInt_lt]; omega
theorem own_big {w s r : Int64} (hw1 : 1 ≤ w.toInt) (hs0 : 0 ≤ s.toInt) (hr0 : 0 ≤ r.toInt) (h : ¬ (lcmpW (s + r) (0 : Int64) < (0 : Int32))) (h2 : ¬ (lcmpW (s + r) w < (0 : Int32))) : own_run w s r = 9223372036854775807 := by
  rw [lw_lt, Int64.lt_iff_toInt_lt, show (0 : Int64).toInt = 0 from rfl] at h
  rw [lw_lt, Int64.lt_iff_toInt_lt] at h2
  have a := c_ladd s r
  have b := c_lsub w r
  have := rng64 s; have := rng64 r; have := rng64 w; have := rng64 (s + r); have := rng64 (w - r)
  by_cases k : lcmpW r w < (0 : Int32)
  · refine own_r2 k fun q => ?_
    rw [lw_lt, Int64.lt_iff_toInt_lt] at k q
    omega
  · exact own_r3 k
theorem ef_1 (m : MethodId) (q1 : Int64) (q2 : Int64) : entryFrame m #[(.long q1), (.long q2)] 4 = mkF m 0 #[.val (.long q1), .second, .val (.long q2), .second] [] := by first | (simp [entryFrame, mkF, argsToLocals, Value.category]; done) | rfl
def Q1 (Z : State) (q1 : Int64) (q2 : Int64)  (h0 : Heap) (n0 : Nat) (v : Option Value) (h : Heap) (L : List Loc) : Prop := v = some (.long (g1_0 q1 q2 )) ∧ Fr n0 L ∧ h = h0
set_option maxRecDepth 65536 in
set_option maxHeartbeats 40000000 in
theorem rm1 (l : Launch) (Z : State) (a0 : Array Value) (hw : ∀ d ∈ tables_1, d.before a0 Z = true) (ws : List Jvm.Cond) (q1 : Int64) (q2 : Int64)  (h0 : Heap) (n0 : Nat) (Z0 : n0 ≤ h0.size) :
    MetFree l (⟨"java/lang/Math", "max", "(JJ)J"⟩ : MethodName) (head1 (Jvm.Cond.code (⟨"java/lang/Math", "max", "(JJ)J"⟩ : MethodName) jdk_29_method_66_code 4 (some .long) :: ws) ({ frames := 0, cells := 0, slots := 0, locals := 0 } : Room)) (fun a U => a = #[(.long q1), (.long q2)] ∧ Z.Warmed39 U.vm ∧ U.heap = h0) (fun _ _ _ _ _ => True) (fun _ U o U' => ∃ v L, o = .returned v ∧ Q1 Z q1 q2 h0 n0 v U'.heap L ∧ FrameEnd U o U' L ({ frames := 0, cells := 0, slots := 0, locals := 0 } : Room).cells ({ frames := 0, cells := 0, slots := 0, locals := 0 } : Room).slots) := by
  refine MetFree.of_bodySF (Jvm.Free.JP.mathPlain rfl (by decide +kernel)) hisR ?_
  intro p e s m args below meth c s₁ Bd hml0 hP hK
  obtain ⟨rfl, hZ, hh⟩ := hP
  have hx := Bd.exec
  have hby := Bd.bytes
  have hml : c.maxLocals = 4 := hml0
  have hown : s.vm.findClass "java/lang/Math" = some m.cls := findClass_of_methodNamed Bd.named
  have hnm := (name_of_methodNamed Bd.named Bd.method).1
  have X0 : Stand p l e ({ frames := 0, cells := 0, slots := 0, locals := 0 } : Room) s m #[(.long q1), (.long q2)] below meth c s₁ [] 0 0 := Stand.of_body Bd
  have e0 : s₁.heap = h0 := by rw [← hh, Bd.state]; rfl
  have N0 := Fr.nil n0
  have pre0 : ∀ t, Steps p.tables e below (s₁.setTop (mkF m 0 #[.val (.long q1), .second, .val (.long q2), .second] [])) t → Steps p.tables e below (s₁.setTop (entryFrame m #[(.long q1), (.long q2)] 4)) t := fun t k => castTop (ef_1 m q1 q2) k
  obtain ⟨V, hV⟩ : ∃ V : Int64, V = g1_0 q1 q2  := ⟨_, rfl⟩
  obtain ⟨fs, hr, hrun, hended, hW, hsame⟩ := X0.leave (v := some (.long V)) (fun h => by rw [Bd.returns] at h; cases h)
  have b11 : ∀ (z11_0 : Int64), V = (g1_11 q1 q2  z11_0) → Steps p.tables e below (s₁.setTop (mkF m 11 #[.val (.long q1), .second, .val (.long q2), .second] [(.long z11_0)])) (s₁.setFrames fs) := by
    intro z11_0 hv
    show Steps p.tables e below (s₁.setTop (mkF m 11 #[.val (.long q1), .second, .val (.long q2), .second] [(.long z11_0)])) _
    have hv' : V = z11_0 := hv
    clear hv
    subst hv'
    exact X0.lreturnOut hx Bd.returns (hb hby d1_11) hr
  have b10 : V = (g1_10 q1 q2  ) → Steps p.tables e below (s₁.setTop (mkF m 10 #[.val (.long q1), .second, .val (.long q2), .second] [])) (s₁.setFrames fs) := by
    intro  hv
    show Steps p.tables e below (s₁.setTop (mkF m 10 #[.val (.long q1), .second, .val (.long q2), .second] [])) _
    refine XS.lloadN X0.here hx rfl (hb hby d1_10) rfl ?_
    show Steps p.tables e below (s₁.setTop (mkF m 11 #[.val (.long q1), .second, .val (.long q2), .second] [(.long q2)])) _
    exact b11 q2 hv
  have b6 : V = (g1_6 q1 q2  ) → Steps p.tables e below (s₁.setTop (mkF m 6 #[.val (.long q1), .second, .val (.long q2), .second] [])) (s₁.setFrames fs) := by
    intro  hv
    show Steps p.tables e below (s₁.setTop (mkF m 6 #[.val (.long q1), .second, .val (.long q2), .second] [])) _
    refine XS.lloadN X0.here hx rfl (hb hby d1_6) rfl ?_
    show Steps p.tables e below (s₁.setTop (mkF m 7 #[.val (.long q1), .second, .val (.long q2), .second] [(.long q1)])) _
    refine XS.goto X0.here hx rfl (pc0 := 7) (pc' := 11) rfl (hb hby d1_7) (by decide) (by decide) ?_
    show Steps p.tables e below (s₁.setTop (mkF m 11 #[.val (.long q1), .second, .val (.long q2), .second] [(.long q1)])) _
    exact b11 q1 hv
  have b0 : V = (g1_0 q1 q2  ) → Steps p.tables e below (s₁.setTop (mkF m 0 #[.val (.long q1), .second, .val (.long q2), .second] [])) (s₁.setFrames fs) := by
    intro  hv
    show Steps p.tables e below (s₁.setTop (mkF m 0 #[.val (.long q1), .second, .val (.long q2), .second] [])) _
    refine XS.lloadN X0.here hx rfl (hb hby d1_0) rfl ?_
    show Steps p.tables e below (s₁.setTop (mkF m 1 #[.val (.long q1), .second, .val (.long q2), .second] [(.long q1)])) _
    refine XS.lloadN X0.here hx rfl (hb hby d1_1) rfl ?_
    show Steps p.tables e below (s₁.setTop (mkF m 2 #[.val (.long q1), .second, .val (.long q2), .second] [(.long q2), (.long q1)])) _
    refine XS.lcmp X0.here hx rfl (hb hby d1_2) rfl ?_
    show Steps p.tables e below (s₁.setTop (mkF m 3 #[.val (.long q1), .second, .val (.long q2), .second] [(.int (lcmpW q1 q2))])) _
    by_cases hc : (lcmpW q1 q2) < (0 : Int32)
    · refine XS.ifYes X0.here hx rfl (pc0 := 3) (pc' := 10) rfl (hb hby d1_3) rfl ((if0 _ _).trans (tlt hc).1) (by decide) (by decide) ?_
      show Steps p.tables e below (s₁.setTop (mkF m 10 #[.val (.long q1), .second, .val (.long q2), .second] [])) _
      exact b10  (hv.trans (show (g1_0 q1 q2  ) = (g1_10 q1 q2  ) from if_pos hc))
    · refine XS.ifNo X0.here hx rfl (hb hby d1_3) rfl ((if0 _ _).trans (flt hc).1) ?_
      show Steps p.tables e below (s₁.setTop (mkF m 6 #[.val (.long q1), .second, .val (.long q2), .second] [])) _
      exact b6  (hv.trans (show (g1_0 q1 q2  ) = (g1_6 q1 q2  ) from if_neg hc))
  refine ⟨_, _, pre0 _ (b0 hV), hrun, hended, _, _, rfl, ?_, ⟨_, rfl⟩, hW, hsame.mono (by decide) (by decide)⟩
  show Q1 Z q1 q2  h0 n0 _ s₁.heap _
  rw [e0, hV]
  exact ⟨rfl, N0, rfl⟩
theorem ef_3 (m : MethodId) (a1 : Addr) : entryFrame m #[(.ref a1)] 1 = mkF m 0 #[.val (.ref a1)] [] := by first | (simp [entryFrame, mkF, argsToLocals, Value.category]; done) | rfl
def Q3 (Z : State) (a1 : Addr)  (h0 : Heap) (n0 : Nat) (v : Option Value) (h : Heap) (L : List Loc) : Prop := v = none ∧ Fr n0 L ∧ h = h0
set_option maxRecDepth 65536 in
set_option maxHeartbeats 40000000 in
theorem rm3 (l : Launch) (Z : State) (a0 : Array Value) (hw : ∀ d ∈ tables_1, d.before a0 Z = true) (ws : List Jvm.Cond) (a1 : Addr)  (h0 : Heap) (n0 : Nat) (Z0 : n0 ≤ h0.size) :
    MetFree l (⟨"java/lang/Record", "<init>", "()V"⟩ : MethodName) (head1 (Jvm.Cond.code (⟨"java/lang/Record", "<init>", "()V"⟩ : MethodName) jdk_30_method_1_code 1 none :: ws) ({ frames := 1, cells := 0, slots := 0, locals := 12 } : Room)) (fun a U => a = #[(.ref a1)] ∧ Z.Warmed39 U.vm ∧ U.heap = h0) (fun _ _ _ _ _ => True) (fun _ U o U' => ∃ v L, o = .returned v ∧ Q3 Z a1 h0 n0 v U'.heap L ∧ FrameEnd U o U' L ({ frames := 1, cells := 0, slots := 0, locals := 12 } : Room).cells ({ frames := 1, cells := 0, slots := 0, locals := 12 } : Room).slots) := by
  refine MetFree.of_bodySF (plainFor_of_name pn_0) hisR ?_
  intro p e s m args below meth c s₁ Bd hml0 hP hK
  obtain ⟨rfl, hZ, hh⟩ := hP
  have hx := Bd.exec
  have hby := Bd.bytes
  have hml : c.maxLocals = 1 := hml0
  have hown : s.vm.findClass "java/lang/Record" = some m.cls := findClass_of_methodNamed Bd.named
  have hnm := (name_of_methodNamed Bd.named Bd.method).1
  have X0 : Stand p l e ({ frames := 1, cells := 0, slots := 0, locals := 12 } : Room) s m #[(.ref a1)] below meth c s₁ [] 0 0 := Stand.of_body Bd
  have e0 : s₁.heap = h0 := by rw [← hh, Bd.state]; rfl
  have N0 := Fr.nil n0
  have pre0 : ∀ t, Steps p.tables e below (s₁.setTop (mkF m 0 #[.val (.ref a1)] [])) t → Steps p.tables e below (s₁.setTop (entryFrame m #[(.ref a1)] 1)) t := fun t k => castTop (ef_3 m a1) k
  have G1 : ∀ t, Steps p.tables e below (s₁.setTop (mkF m 1 #[.val (.ref a1)] [(.ref a1)])) t → Steps p.tables e below (s₁.setTop (entryFrame m #[(.ref a1)] 1)) t := by
    intro t kt
    refine pre0 t ?_
    show Steps p.tables e below (s₁.setTop (mkF m 0 #[.val (.ref a1)] [])) _
    refine XS.aloadN X0.here hx rfl (hb hby d3_0) rfl rfl ?_
    show Steps p.tables e below (s₁.setTop (mkF m 1 #[.val (.ref a1)] [(.ref a1)])) _
    exact kt
  obtain ⟨T2, X2, e2, st2⟩ := initO X0 hx hZ hown (hw _ (List.mem_of_getElem? (i := 16) rfl)) (hw _ (List.mem_of_getElem? (i := 17) rfl)) (hw _ (List.mem_of_getElem? (i := 18) rfl)) e0 (g := (mkF m 1 #[.val (.ref a1)] [(.ref a1)])) rfl (by rw [hml]; rfl) rfl (hb hby d3_1) (by decide) (W := 0) (by show 2 * 0 + _ ≤ _; exact Nat.le_of_eq rfl) (by decide)
  have G2 : ∀ t, Steps p.tables e below (T2.setTop (mkF m 4 #[.val (.ref a1)] [])) t → Steps p.tables e below (s₁.setTop (entryFrame m #[(.ref a1)] 1)) t := fun t kt => G1 t (st2 t kt)
  obtain ⟨fs, hr, hrun, hended, hW, hsame⟩ := X2.leave (v := none) (fun _ => rfl)
  refine ⟨_, _, G2 _ ?_, hrun, hended, _, _, rfl, ?_, ⟨_, rfl⟩, hW, hsame.mono (by decide) (by decide)⟩
  · show Steps p.tables e below (T2.setTop (mkF m 4 #[.val (.ref a1)] [])) _
    exact X2.returnOut hx Bd.returns (hb hby d3_4) hr
  · show Q3 Z a1 h0 n0 _ T2.heap _
    rw [e2]
    exact ⟨rfl, N0, rfl⟩
theorem ef_2 (m : MethodId) (a1 : Addr) (q2 : Int64) (q3 : Int64) (q4 : Int64) (q5 : Int64) : entryFrame m #[(.ref a1), (.long q2), (.long q3), (.long q4), (.long q5)] 9 = mkF m 0 #[.val (.ref a1), .val (.long q2), .second, .val (.long q3), .second, .val (.long q4), .second, .val (.long q5), .second] [] := by first | (simp [entryFrame, mkF, argsToLocals, Value.category]; done) | rfl
def Q2 (Z : State) (a1 : Addr) (q2 : Int64) (q3 : Int64) (q4 : Int64) (q5 : Int64)  (h0 : Heap) (n0 : Nat) (v : Option Value) (h : Heap) (L : List Loc) : Prop := v = none ∧ Fr n0 L ∧ Keep h0 h [a1] ∧ Exa Z h a1 "tracewarden/check/Limits" ∧ Fld Z h a1 "tracewarden/check/Limits" "window" "J" (.long q2) ∧ Fld Z h a1 "tracewarden/check/Limits" "sent" "J" (.long q3) ∧ Fld Z h a1 "tracewarden/check/Limits" "received" "J" (.long q4) ∧ Fld Z h a1 "tracewarden/check/Limits" "goBack" "J" (.long q5)
set_option maxRecDepth 65536 in
set_option maxHeartbeats 40000000 in
theorem rm2 (l : Launch) (Z : State) (a0 : Array Value) (hw : ∀ d ∈ tables_1, d.before a0 Z = true) (ws : List Jvm.Cond) (a1 : Addr) (q2 : Int64) (q3 : Int64) (q4 : Int64) (q5 : Int64)  (h0 : Heap) (n0 : Nat) (Z0 : n0 ≤ h0.size) (E_a1 : Exa Z h0 a1 "tracewarden/check/Limits") (F_window_a1 : Fld Z h0 a1 "tracewarden/check/Limits" "window" "J" (.long (0 : Int64))) (F_sent_a1 : Fld Z h0 a1 "tracewarden/check/Limits" "sent" "J" (.long (0 : Int64))) (F_received_a1 : Fld Z h0 a1 "tracewarden/check/Limits" "received" "J" (.long (0 : Int64))) (F_goBack_a1 : Fld Z h0 a1 "tracewarden/check/Limits" "goBack" "J" (.long (0 : Int64))) (g_a1 : n0 ≤ a1) (hc7 : ¬ (lcmpW q2 (1 : Int64) < (0 : Int32))) (hc13 : ¬ (lcmpW q3 (0 : Int64) < (0 : Int32))) (hc20 : ¬ (lcmpW q4 (0 : Int64) < (0 : Int32))) (hc27 : ¬ (lcmpW q5 (0 : Int64) < (0 : Int32))) :
    MetFree l (⟨"tracewarden/check/Limits", "<init>", "(JJJJ)V"⟩ : MethodName) (head1 (Jvm.Cond.code (⟨"tracewarden/check/Limits", "<init>", "(JJJJ)V"⟩ : MethodName) prog_29_method_1_code 9 none :: ws) ({ frames := 2, cells := 0, slots := 0, locals := 24 } : Room)) (fun a U => a = #[(.ref a1), (.long q2), (.long q3), (.long q4), (.long q5)] ∧ Z.Warmed39 U.vm ∧ U.heap = h0) (fun _ _ _ _ _ => True) (fun _ U o U' => ∃ v L, o = .returned v ∧ Q2 Z a1 q2 q3 q4 q5 h0 n0 v U'.heap L ∧ FrameEnd U o U' L ({ frames := 2, cells := 0, slots := 0, locals := 24 } : Room).cells ({ frames := 2, cells := 0, slots := 0, locals := 24 } : Room).slots) := by
  refine MetFree.of_bodySF (plainFor_of_name pn_1) hisR ?_
  intro p e s m args below meth c s₁ Bd hml0 hP hK
  obtain ⟨rfl, hZ, hh⟩ := hP
  have hx := Bd.exec
  have hby := Bd.bytes
  have hml : c.maxLocals = 9 := hml0
  have hown : s.vm.findClass "tracewarden/check/Limits" = some m.cls := findClass_of_methodNamed Bd.named
  have hnm := (name_of_methodNamed Bd.named Bd.method).1
  have X0 : Stand p l e ({ frames := 2, cells := 0, slots := 0, locals := 24 } : Room) s m #[(.ref a1), (.long q2), (.long q3), (.long q4), (.long q5)] below meth c s₁ [] 0 0 := Stand.of_body Bd
  have e0 : s₁.heap = h0 := by rw [← hh, Bd.state]; rfl
  have N0 := Fr.nil n0
  have pre0 : ∀ t, Steps p.tables e below (s₁.setTop (mkF m 0 #[.val (.ref a1), .val (.long q2), .second, .val (.long q3), .second, .val (.long q4), .second, .val (.long q5), .second] [])) t → Steps p.tables e below (s₁.setTop (entryFrame m #[(.ref a1), (.long q2), (.long q3), (.long q4), (.long q5)] 9)) t := fun t k => castTop (ef_2 m a1 q2 q3 q4 q5) k
  have G1 : ∀ t, Steps p.tables e below (s₁.setTop (mkF m 1 #[.val (.ref a1), .val (.long q2), .second, .val (.long q3), .second, .val (.long q4), .second, .val (.long q5), .second] [(.ref a1)])) t → Steps p.tables e below (s₁.setTop (entryFrame m #[(.ref a1), (.long q2), (.long q3), (.long q4), (.long q5)] 9)) t := by
    intro t kt
    refine pre0 t ?_
    show Steps p.tables e below (s₁.setTop (mkF m 0 #[.val (.ref a1), .val (.long q2), .second, .val (.long q3), .second, .val (.long q4), .second, .val (.long q5), .second] [])) _
    refine XS.aloadN X0.here hx rfl (hb hby d2_0) rfl rfl ?_
    show Steps p.tables e below (s₁.setTop (mkF m 1 #[.val (.ref a1), .val (.long q2), .second, .val (.long q3), .second, .val (.long q4), .second, .val (.long q5), .second] [(.ref a1)])) _
    exact kt
  obtain ⟨_, _, ⟨T2, L2, k2, n2⟩, -, X2, ⟨Lc2, hQ2, l2, y2, z2⟩, st2⟩ := X0.specialBack hx (y := (⟨"java/lang/Record", "<init>", "()V"⟩ : MethodName)) rfl hown (mvT hZ (hw _ (List.mem_of_getElem? (i := 11) rfl))) (mvT hZ (hw _ (List.mem_of_getElem? (i := 12) rfl))) (mvT hZ (hw _ (List.mem_of_getElem? (i := 15) rfl))) (by decide) (backOf (W := 0) (rm3 l Z a0 hw [] a1  h0 n0 Z0 ) hZ (hw _ (List.mem_of_getElem? (i := 15) rfl)) (hw _ (List.mem_of_getElem? (i := 14) rfl)) (by decide) (by decide)) (g := (mkF m 1 #[.val (.ref a1), .val (.long q2), .second, .val (.long q3), .second, .val (.long q4), .second, .val (.long q5), .second] [(.ref a1)])) rfl (by rw [hml]; rfl) (Steps.refl _) (a := a1) (argsL := []) (rest := []) (lenOf pd_0 rfl) rfl (by show 2 * 0 + _ ≤ _; exact Nat.le_of_eq rfl) (hb hby d2_1) (fun _ _ => ⟨rfl, e0, (by decide : 0 + 0 ≤ _), (by decide : 0 + 0 ≤ _)⟩)
  dsimp only [Pt.U, Pt.locs, Pt.cells, Pt.slots] at X2 l2 y2 z2 st2 hQ2
  subst l2 y2 z2
  obtain ⟨rfl, N2q, e2⟩ := hQ2
  have N2 := Fr.app N0 N2q
  have G2 : ∀ t, Steps p.tables e below (T2.setTop (mkF m 4 #[.val (.ref a1), .val (.long q2), .second, .val (.long q3), .second, .val (.long q4), .second, .val (.long q5), .second] [])) t → Steps p.tables e below (s₁.setTop (entryFrame m #[(.ref a1), (.long q2), (.long q3), (.long q4), (.long q5)] 9)) t := fun t kt => G1 t (st2.trans kt)
  have G3 : ∀ t, Steps p.tables e below (T2.setTop (mkF m 51 #[.val (.ref a1), .val (.long q2), .second, .val (.long q3), .second, .val (.long q4), .second, .val (.long q5), .second] [(.long q2), (.ref a1)])) t → Steps p.tables e below (s₁.setTop (entryFrame m #[(.ref a1), (.long q2), (.long q3), (.long q4), (.long q5)] 9)) t := by
    intro t kt
    refine G2 t ?_
    show Steps p.tables e below (T2.setTop (mkF m 4 #[.val (.ref a1), .val (.long q2), .second, .val (.long q3), .second, .val (.long q4), .second, .val (.long q5), .second] [])) _
    refine XS.lloadN X2.here hx rfl (hb hby d2_4) rfl ?_
    show Steps p.tables e below (T2.setTop (mkF m 5 #[.val (.ref a1), .val (.long q2), .second, .val (.long q3), .second, .val (.long q4), .second, .val (.long q5), .second] [(.long q2)])) _
    refine XS.lconst X2.here hx rfl (hb hby d2_5) ?_
    show Steps p.tables e below (T2.setTop (mkF m 6 #[.val (.ref a1), .val (.long q2), .second, .val (.long q3), .second, .val (.long q4), .second, .val (.long q5), .second] [(.long (1 : Int64)), (.long q2)])) _
    refine XS.lcmp X2.here hx rfl (hb hby d2_6) rfl ?_
    show Steps p.tables e below (T2.setTop (mkF m 7 #[.val (.ref a1), .val (.long q2), .second, .val (.long q3), .second, .val (.long q4), .second, .val (.long q5), .second] [(.int (lcmpW q2 (1 : Int64)))])) _
    refine XS.ifNo X2.here hx rfl (hb hby d2_7) rfl ((if0 _ _).trans (flt hc7).1) ?_
    show Steps p.tables e below (T2.setTop (mkF m 10 #[.val (.ref a1), .val (.long q2), .second, .val (.long q3), .second, .val (.long q4), .second, .val (.long q5), .second] [])) _
    refine XS.lloadN X2.here hx rfl (hb hby d2_10) rfl ?_
    show Steps p.tables e below (T2.setTop (mkF m 11 #[.val (.ref a1), .val (.long q2), .second, .val (.long q3), .second, .val (.long q4), .second, .val (.long q5), .second] [(.long q3)])) _
    refine XS.lconst X2.here hx rfl (hb hby d2_11) ?_
    show Steps p.tables e below (T2.setTop (mkF m 12 #[.val (.ref a1), .val (.long q2), .second, .val (.long q3), .second, .val (.long q4), .second, .val (.long q5), .second] [(.long (0 : Int64)), (.long q3)])) _
    refine XS.lcmp X2.here hx rfl (hb hby d2_12) rfl ?_
    show Steps p.tables e below (T2.setTop (mkF m 13 #[.val (.ref a1), .val (.long q2), .second, .val (.long q3), .second, .val (.long q4), .second, .val (.long q5), .second] [(.int (lcmpW q3 (0 : Int64)))])) _
    refine XS.ifNo X2.here hx rfl (hb hby d2_13) rfl ((if0 _ _).trans (flt hc13).1) ?_
    show Steps p.tables e below (T2.setTop (mkF m 16 #[.val (.ref a1), .val (.long q2), .second, .val (.long q3), .second, .val (.long q4), .second, .val (.long q5), .second] [])) _
    refine XS.lload X2.here hx rfl (hb hby d2_16) rfl ?_
    show Steps p.tables e below (T2.setTop (mkF m 18 #[.val (.ref a1), .val (.long q2), .second, .val (.long q3), .second, .val (.long q4), .second, .val (.long q5), .second] [(.long q4)])) _
    refine XS.lconst X2.here hx rfl (hb hby d2_18) ?_
    show Steps p.tables e below (T2.setTop (mkF m 19 #[.val (.ref a1), .val (.long q2), .second, .val (.long q3), .second, .val (.long q4), .second, .val (.long q5), .second] [(.long (0 : Int64)), (.long q4)])) _
    refine XS.lcmp X2.here hx rfl (hb hby d2_19) rfl ?_
    show Steps p.tables e below (T2.setTop (mkF m 20 #[.val (.ref a1), .val (.long q2), .second, .val (.long q3), .second, .val (.long q4), .second, .val (.long q5), .second] [(.int (lcmpW q4 (0 : Int64)))])) _
    refine XS.ifNo X2.here hx rfl (hb hby d2_20) rfl ((if0 _ _).trans (flt hc20).1) ?_
    show Steps p.tables e below (T2.setTop (mkF m 23 #[.val (.ref a1), .val (.long q2), .second, .val (.long q3), .second, .val (.long q4), .second, .val (.long q5), .second] [])) _
    refine XS.lload X2.here hx rfl (hb hby d2_23) rfl ?_
    show Steps p.tables e below (T2.setTop (mkF m 25 #[.val (.ref a1), .val (.long q2), .second, .val (.long q3), .second, .val (.long q4), .second, .val (.long q5), .second] [(.long q5)])) _
    refine XS.lconst X2.here hx rfl (hb hby d2_25) ?_
    show Steps p.tables e below (T2.setTop (mkF m 26 #[.val (.ref a1), .val (.long q2), .second, .val (.long q3), .second, .val (.long q4), .second, .val (.long q5), .second] [(.long (0 : Int64)), (.long q5)])) _
    refine XS.lcmp X2.here hx rfl (hb hby d2_26) rfl ?_
    show Steps p.tables e below (T2.setTop (mkF m 27 #[.val (.ref a1), .val (.long q2), .second, .val (.long q3), .second, .val (.long q4), .second, .val (.long q5), .second] [(.int (lcmpW q5 (0 : Int64)))])) _
    refine XS.ifYes X2.here hx rfl (pc0 := 27) (pc' := 49) rfl (hb hby d2_27) rfl ((if0 _ _).trans (flt hc27).2.1) (by decide) (by decide) ?_
    show Steps p.tables e below (T2.setTop (mkF m 49 #[.val (.ref a1), .val (.long q2), .second, .val (.long q3), .second, .val (.long q4), .second, .val (.long q5), .second] [])) _
    refine XS.aloadN X2.here hx rfl (hb hby d2_49) rfl rfl ?_
    show Steps p.tables e below (T2.setTop (mkF m 50 #[.val (.ref a1), .val (.long q2), .second, .val (.long q3), .second, .val (.long q4), .second, .val (.long q5), .second] [(.ref a1)])) _
    refine XS.lloadN X2.here hx rfl (hb hby d2_50) rfl ?_
    show Steps p.tables e below (T2.setTop (mkF m 51 #[.val (.ref a1), .val (.long q2), .second, .val (.long q3), .second, .val (.long q4), .second, .val (.long q5), .second] [(.long q2), (.ref a1)])) _
    exact kt
  obtain ⟨T4, h4, X4, e4, W4, st4⟩ := putF X2 hx hZ hown (host := "") (Or.inl (hw _ (List.mem_of_getElem? (i := 19) rfl))) Via.refl e2 F_window_a1 E_a1 (Or.inr ⟨(hw _ (List.mem_of_getElem? (i := 20) rfl)), rfl, hnm⟩) (hw _ (List.mem_of_getElem? (i := 6) rfl)) (ty := .long) (by decide) rfl rfl (g := (mkF m 51 #[.val (.ref a1), .val (.long q2), .second, .val (.long q3), .second, .val (.long q4), .second, .val (.long q5), .second] [(.long q2), (.ref a1)])) rfl rfl (hb hby d2_51)
  have F_window_a1_4 : Fld Z h4 a1 "tracewarden/check/Limits" "window" "J" (.long q2) := F_window_a1.same W4
  have E_a1_4 : Exa Z h4 a1 "tracewarden/check/Limits" := E_a1.wr W4
  have F_sent_a1_4 : Fld Z h4 a1 "tracewarden/check/Limits" "sent" "J" (.long (0 : Int64)) := F_sent_a1.other W4 (Or.inr (slot_ne (Or.inr (hw _ (List.mem_of_getElem? (i := 22) rfl))) (Or.inr (hw _ (List.mem_of_getElem? (i := 20) rfl))) (by decide) (t := .long) (t' := .long) (by decide) (by decide)))
  have F_received_a1_4 : Fld Z h4 a1 "tracewarden/check/Limits" "received" "J" (.long (0 : Int64)) := F_received_a1.other W4 (Or.inr (slot_ne (Or.inr (hw _ (List.mem_of_getElem? (i := 24) rfl))) (Or.inr (hw _ (List.mem_of_getElem? (i := 20) rfl))) (by decide) (t := .long) (t' := .long) (by decide) (by decide)))
  have F_goBack_a1_4 : Fld Z h4 a1 "tracewarden/check/Limits" "goBack" "J" (.long (0 : Int64)) := F_goBack_a1.other W4 (Or.inr (slot_ne (Or.inr (hw _ (List.mem_of_getElem? (i := 26) rfl))) (Or.inr (hw _ (List.mem_of_getElem? (i := 20) rfl))) (by decide) (t := .long) (t' := .long) (by decide) (by decide)))
  have Z4 : n0 ≤ h4.size := Nat.le_trans Z0 (Keep.of_wr W4).1
  have KK4 : Keep h0 h4 [a1] := (Keep.refl h0 [a1]).wr W4 (Or.inl (List.mem_of_getElem? (i := 0) rfl))
  have N4 := Fr.snoc X4 N2 g_a1
  have G4 : ∀ t, Steps p.tables e below (T4.setTop (mkF m 54 #[.val (.ref a1), .val (.long q2), .second, .val (.long q3), .second, .val (.long q4), .second, .val (.long q5), .second] [])) t → Steps p.tables e below (s₁.setTop (entryFrame m #[(.ref a1), (.long q2), (.long q3), (.long q4), (.long q5)] 9)) t := fun t kt => G3 t (st4 t kt)
  have G5 : ∀ t, Steps p.tables e below (T4.setTop (mkF m 56 #[.val (.ref a1), .val (.long q2), .second, .val (.long q3), .second, .val (.long q4), .second, .val (.long q5), .second] [(.long q3), (.ref a1)])) t → Steps p.tables e below (s₁.setTop (entryFrame m #[(.ref a1), (.long q2), (.long q3), (.long q4), (.long q5)] 9)) t := by
    intro t kt
    refine G4 t ?_
    show Steps p.tables e below (T4.setTop (mkF m 54 #[.val (.ref a1), .val (.long q2), .second, .val (.long q3), .second, .val (.long q4), .second, .val (.long q5), .second] [])) _
    refine XS.aloadN X4.here hx rfl (hb hby d2_54) rfl rfl ?_
    show Steps p.tables e below (T4.setTop (mkF m 55 #[.val (.ref a1), .val (.long q2), .second, .val (.long q3), .second, .val (.long q4), .second, .val (.long q5), .second] [(.ref a1)])) _
    refine XS.lloadN X4.here hx rfl (hb hby d2_55) rfl ?_
    show Steps p.tables e below (T4.setTop (mkF m 56 #[.val (.ref a1), .val (.long q2), .second, .val (.long q3), .second, .val (.long q4), .second, .val (.long q5), .second] [(.long q3), (.ref a1)])) _
    exact kt
  obtain ⟨T6, h6, X6, e6, W6, st6⟩ := putF X4 hx hZ hown (host := "") (Or.inl (hw _ (List.mem_of_getElem? (i := 21) rfl))) Via.refl e4 F_sent_a1_4 E_a1_4 (Or.inr ⟨(hw _ (List.mem_of_getElem? (i := 22) rfl)), rfl, hnm⟩) (hw _ (List.mem_of_getElem? (i := 6) rfl)) (ty := .long) (by decide) rfl rfl (g := (mkF m 56 #[.val (.ref a1), .val (.long q2), .second, .val (.long q3), .second, .val (.long q4), .second, .val (.long q5), .second] [(.long q3), (.ref a1)])) rfl rfl (hb hby d2_56)
  have F_sent_a1_6 : Fld Z h6 a1 "tracewarden/check/Limits" "sent" "J" (.long q3) := F_sent_a1_4.same W6
  have E_a1_6 : Exa Z h6 a1 "tracewarden/check/Limits" := E_a1_4.wr W6
  have F_window_a1_6 : Fld Z h6 a1 "tracewarden/check/Limits" "window" "J" (.long q2) := F_window_a1_4.other W6 (Or.inr (slot_ne (Or.inr (hw _ (List.mem_of_getElem? (i := 20) rfl))) (Or.inr (hw _ (List.mem_of_getElem? (i := 22) rfl))) (by decide) (t := .long) (t' := .long) (by decide) (by decide)))
  have F_received_a1_6 : Fld Z h6 a1 "tracewarden/check/Limits" "received" "J" (.long (0 : Int64)) := F_received_a1_4.other W6 (Or.inr (slot_ne (Or.inr (hw _ (List.mem_of_getElem? (i := 24) rfl))) (Or.inr (hw _ (List.mem_of_getElem? (i := 22) rfl))) (by decide) (t := .long) (t' := .long) (by decide) (by decide)))
  have F_goBack_a1_6 : Fld Z h6 a1 "tracewarden/check/Limits" "goBack" "J" (.long (0 : Int64)) := F_goBack_a1_4.other W6 (Or.inr (slot_ne (Or.inr (hw _ (List.mem_of_getElem? (i := 26) rfl))) (Or.inr (hw _ (List.mem_of_getElem? (i := 22) rfl))) (by decide) (t := .long) (t' := .long) (by decide) (by decide)))
  have Z6 : n0 ≤ h6.size := Nat.le_trans Z4 (Keep.of_wr W6).1
  have KK6 : Keep h0 h6 [a1] := KK4.wr W6 (Or.inl (List.mem_of_getElem? (i := 0) rfl))
  have N6 := Fr.snoc X6 N4 g_a1
  have G6 : ∀ t, Steps p.tables e below (T6.setTop (mkF m 59 #[.val (.ref a1), .val (.long q2), .second, .val (.long q3), .second, .val (.long q4), .second, .val (.long q5), .second] [])) t → Steps p.tables e below (s₁.setTop (entryFrame m #[(.ref a1), (.long q2), (.long q3), (.long q4), (.long q5)] 9)) t := fun t kt => G5 t (st6 t kt)
  have G7 : ∀ t, Steps p.tables e below (T6.setTop (mkF m 62 #[.val (.ref a1), .val (.long q2), .second, .val (.long q3), .second, .val (.long q4), .second, .val (.long q5), .second] [(.long q4), (.ref a1)])) t → Steps p.tables e below (s₁.setTop (entryFrame m #[(.ref a1), (.long q2), (.long q3), (.long q4), (.long q5)] 9)) t := by
    intro t kt
    refine G6 t ?_
    show Steps p.tables e below (T6.setTop (mkF m 59 #[.val (.ref a1), .val (.long q2), .second, .val (.long q3), .second, .val (.long q4), .second, .val (.long q5), .second] [])) _
    refine XS.aloadN X6.here hx rfl (hb hby d2_59) rfl rfl ?_
    show Steps p.tables e below (T6.setTop (mkF m 60 #[.val (.ref a1), .val (.long q2), .second, .val (.long q3), .second, .val (.long q4), .second, .val (.long q5), .second] [(.ref a1)])) _
    refine XS.lload X6.here hx rfl (hb hby d2_60) rfl ?_
    show Steps p.tables e below (T6.setTop (mkF m 62 #[.val (.ref a1), .val (.long q2), .second, .val (.long q3), .second, .val (.long q4), .second, .val (.long q5), .second] [(.long q4), (.ref a1)])) _
    exact kt
  obtain ⟨T8, h8, X8, e8, W8, st8⟩ := putF X6 hx hZ hown (host := "") (Or.inl (hw _ (List.mem_of_getElem? (i := 23) rfl))) Via.refl e6 F_received_a1_6 E_a1_6 (Or.inr ⟨(hw _ (List.mem_of_getElem? (i := 24) rfl)), rfl, hnm⟩) (hw _ (List.mem_of_getElem? (i := 6) rfl)) (ty := .long) (by decide) rfl rfl (g := (mkF m 62 #[.val (.ref a1), .val (.long q2), .second, .val (.long q3), .second, .val (.long q4), .second, .val (.long q5), .second] [(.long q4), (.ref a1)])) rfl rfl (hb hby d2_62)
  have F_received_a1_8 : Fld Z h8 a1 "tracewarden/check/Limits" "received" "J" (.long q4) := F_received_a1_6.same W8
  have E_a1_8 : Exa Z h8 a1 "tracewarden/check/Limits" := E_a1_6.wr W8
  have F_window_a1_8 : Fld Z h8 a1 "tracewarden/check/Limits" "window" "J" (.long q2) := F_window_a1_6.other W8 (Or.inr (slot_ne (Or.inr (hw _ (List.mem_of_getElem? (i := 20) rfl))) (Or.inr (hw _ (List.mem_of_getElem? (i := 24) rfl))) (by decide) (t := .long) (t' := .long) (by decide) (by decide)))
  have F_sent_a1_8 : Fld Z h8 a1 "tracewarden/check/Limits" "sent" "J" (.long q3) := F_sent_a1_6.other W8 (Or.inr (slot_ne (Or.inr (hw _ (List.mem_of_getElem? (i := 22) rfl))) (Or.inr (hw _ (List.mem_of_getElem? (i := 24) rfl))) (by decide) (t := .long) (t' := .long) (by decide) (by decide)))
  have F_goBack_a1_8 : Fld Z h8 a1 "tracewarden/check/Limits" "goBack" "J" (.long (0 : Int64)) := F_goBack_a1_6.other W8 (Or.inr (slot_ne (Or.inr (hw _ (List.mem_of_getElem? (i := 26) rfl))) (Or.inr (hw _ (List.mem_of_getElem? (i := 24) rfl))) (by decide) (t := .long) (t' := .long) (by decide) (by decide)))
  have Z8 : n0 ≤ h8.size := Nat.le_trans Z6 (Keep.of_wr W8).1
  have KK8 : Keep h0 h8 [a1] := KK6.wr W8 (Or.inl (List.mem_of_getElem? (i := 0) rfl))
  have N8 := Fr.snoc X8 N6 g_a1
  have G8 : ∀ t, Steps p.tables e below (T8.setTop (mkF m 65 #[.val (.ref a1), .val (.long q2), .second, .val (.long q3), .second, .val (.long q4), .second, .val (.long q5), .second] [])) t → Steps p.tables e below (s₁.setTop (entryFrame m #[(.ref a1), (.long q2), (.long q3), (.long q4), (.long q5)] 9)) t := fun t kt => G7 t (st8 t kt)
  have G9 : ∀ t, Steps p.tables e below (T8.setTop (mkF m 68 #[.val (.ref a1), .val (.long q2), .second, .val (.long q3), .second, .val (.long q4), .second, .val (.long q5), .second] [(.long q5), (.ref a1)])) t → Steps p.tables e below (s₁.setTop (entryFrame m #[(.ref a1), (.long q2), (.long q3), (.long q4), (.long q5)] 9)) t := by
    intro t kt
    refine G8 t ?_
    show Steps p.tables e below (T8.setTop (mkF m 65 #[.val (.ref a1), .val (.long q2), .second, .val (.long q3), .second, .val (.long q4), .second, .val (.long q5), .second] [])) _
    refine XS.aloadN X8.here hx rfl (hb hby d2_65) rfl rfl ?_
    show Steps p.tables e below (T8.setTop (mkF m 66 #[.val (.ref a1), .val (.long q2), .second, .val (.long q3), .second, .val (.long q4), .second, .val (.long q5), .second] [(.ref a1)])) _
    refine XS.lload X8.here hx rfl (hb hby d2_66) rfl ?_
    show Steps p.tables e below (T8.setTop (mkF m 68 #[.val (.ref a1), .val (.long q2), .second, .val (.long q3), .second, .val (.long q4), .second, .val (.long q5), .second] [(.long q5), (.ref a1)])) _
    exact kt
  obtain ⟨T10, h10, X10, e10, W10, st10⟩ := putF X8 hx hZ hown (host := "") (Or.inl (hw _ (List.mem_of_getElem? (i := 25) rfl))) Via.refl e8 F_goBack_a1_8 E_a1_8 (Or.inr ⟨(hw _ (List.mem_of_getElem? (i := 26) rfl)), rfl, hnm⟩) (hw _ (List.mem_of_getElem? (i := 6) rfl)) (ty := .long) (by decide) rfl rfl (g := (mkF m 68 #[.val (.ref a1), .val (.long q2), .second, .val (.long q3), .second, .val (.long q4), .second, .val (.long q5), .second] [(.long q5), (.ref a1)])) rfl rfl (hb hby d2_68)
  have F_goBack_a1_10 : Fld Z h10 a1 "tracewarden/check/Limits" "goBack" "J" (.long q5) := F_goBack_a1_8.same W10
  have E_a1_10 : Exa Z h10 a1 "tracewarden/check/Limits" := E_a1_8.wr W10
  have F_window_a1_10 : Fld Z h10 a1 "tracewarden/check/Limits" "window" "J" (.long q2) := F_window_a1_8.other W10 (Or.inr (slot_ne (Or.inr (hw _ (List.mem_of_getElem? (i := 20) rfl))) (Or.inr (hw _ (List.mem_of_getElem? (i := 26) rfl))) (by decide) (t := .long) (t' := .long) (by decide) (by decide)))
  have F_sent_a1_10 : Fld Z h10 a1 "tracewarden/check/Limits" "sent" "J" (.long q3) := F_sent_a1_8.other W10 (Or.inr (slot_ne (Or.inr (hw _ (List.mem_of_getElem? (i := 22) rfl))) (Or.inr (hw _ (List.mem_of_getElem? (i := 26) rfl))) (by decide) (t := .long) (t' := .long) (by decide) (by decide)))
  have F_received_a1_10 : Fld Z h10 a1 "tracewarden/check/Limits" "received" "J" (.long q4) := F_received_a1_8.other W10 (Or.inr (slot_ne (Or.inr (hw _ (List.mem_of_getElem? (i := 24) rfl))) (Or.inr (hw _ (List.mem_of_getElem? (i := 26) rfl))) (by decide) (t := .long) (t' := .long) (by decide) (by decide)))
  have Z10 : n0 ≤ h10.size := Nat.le_trans Z8 (Keep.of_wr W10).1
  have KK10 : Keep h0 h10 [a1] := KK8.wr W10 (Or.inl (List.mem_of_getElem? (i := 0) rfl))
  have N10 := Fr.snoc X10 N8 g_a1
  have G10 : ∀ t, Steps p.tables e below (T10.setTop (mkF m 71 #[.val (.ref a1), .val (.long q2), .second, .val (.long q3), .second, .val (.long q4), .second, .val (.long q5), .second] [])) t → Steps p.tables e below (s₁.setTop (entryFrame m #[(.ref a1), (.long q2), (.long q3), (.long q4), (.long q5)] 9)) t := fun t kt => G9 t (st10 t kt)
  obtain ⟨fs, hr, hrun, hended, hW, hsame⟩ := X10.leave (v := none) (fun _ => rfl)
  refine ⟨_, _, G10 _ ?_, hrun, hended, _, _, rfl, ?_, ⟨_, rfl⟩, hW, hsame.mono (by decide) (by decide)⟩
  · show Steps p.tables e below (T10.setTop (mkF m 71 #[.val (.ref a1), .val (.long q2), .second, .val (.long q3), .second, .val (.long q4), .second, .val (.long q5), .second] [])) _
    exact X10.returnOut hx Bd.returns (hb hby d2_71) hr
  · show Q2 Z a1 q2 q3 q4 q5 h0 n0 _ T10.heap _
    rw [e10]
    exact ⟨rfl, N10, KK10, E_a1_10, F_window_a1_10, F_sent_a1_10, F_received_a1_10, F_goBack_a1_10⟩
theorem ef_5 (m : MethodId) (a1 : Addr) : entryFrame m #[(.ref a1)] 1 = mkF m 0 #[.val (.ref a1)] [] := by first | (simp [entryFrame, mkF, argsToLocals, Value.category]; done) | rfl
def Q5 (Z : State) (a1 : Addr) (u v' r : Int64) (h0 : Heap) (n0 : Nat) (v : Option Value) (h : Heap) (L : List Loc) : Prop := v = some (.long (own_run u v' r)) ∧ Fr n0 L ∧ h = h0
set_option maxRecDepth 65536 in
set_option maxHeartbeats 40000000 in
theorem rm5 (l : Launch) (Z : State) (a0 : Array Value) (hw : ∀ d ∈ tables_1, d.before a0 Z = true) (ws : List Jvm.Cond) (a1 : Addr) (u v' r : Int64) (h0 : Heap) (n0 : Nat) (Z0 : n0 ≤ h0.size) (F_w : Fld Z h0 a1 "tracewarden/check/Limits" "window" "J" (.long u)) (F_s : Fld Z h0 a1 "tracewarden/check/Limits" "sent" "J" (.long v')) (F_r : Fld Z h0 a1 "tracewarden/check/Limits" "received" "J" (.long r)) :
    MetFree l (⟨"tracewarden/check/Limits", "longestRun", "()J"⟩ : MethodName) (head1 (Jvm.Cond.code (⟨"tracewarden/check/Limits", "longestRun", "()J"⟩ : MethodName) prog_29_method_3_code 1 (some .long) :: ws) ({ frames := 0, cells := 0, slots := 0, locals := 0 } : Room)) (fun a U => a = #[(.ref a1)] ∧ Z.Warmed39 U.vm ∧ U.heap = h0) (fun _ _ _ _ _ => True) (fun _ U o U' => ∃ v L, o = .returned v ∧ Q5 Z a1 u v' r h0 n0 v U'.heap L ∧ FrameEnd U o U' L ({ frames := 0, cells := 0, slots := 0, locals := 0 } : Room).cells ({ frames := 0, cells := 0, slots := 0, locals := 0 } : Room).slots) := by
  refine MetFree.of_bodySF (plainFor_of_name pn_1) hisR ?_
  intro p e s m args below meth c s₁ Bd hml0 hP hK
  obtain ⟨rfl, hZ, hh⟩ := hP
  have hx := Bd.exec
  have hby := Bd.bytes
  have hml : c.maxLocals = 1 := hml0
  have hown : s.vm.findClass "tracewarden/check/Limits" = some m.cls := findClass_of_methodNamed Bd.named
  have hnm := (name_of_methodNamed Bd.named Bd.method).1
  have X0 : Stand p l e ({ frames := 0, cells := 0, slots := 0, locals := 0 } : Room) s m #[(.ref a1)] below meth c s₁ [] 0 0 := Stand.of_body Bd
  have e0 : s₁.heap = h0 := by rw [← hh, Bd.state]; rfl
  have N0 := Fr.nil n0
  have pre0 : ∀ t, Steps p.tables e below (s₁.setTop (mkF m 0 #[.val (.ref a1)] [])) t → Steps p.tables e below (s₁.setTop (entryFrame m #[(.ref a1)] 1)) t := fun t k => castTop (ef_5 m a1) k
  have G1 : ∀ t, Steps p.tables e below (s₁.setTop (mkF m 1 #[.val (.ref a1)] [(.ref a1)])) t → Steps p.tables e below (s₁.setTop (entryFrame m #[(.ref a1)] 1)) t := by
    intro t kt
    refine pre0 t ?_
    show Steps p.tables e below (s₁.setTop (mkF m 0 #[.val (.ref a1)] [])) _
    refine XS.aloadN X0.here hx rfl (hb hby d5_0) rfl rfl ?_
    show Steps p.tables e below (s₁.setTop (mkF m 1 #[.val (.ref a1)] [(.ref a1)])) _
    exact kt
  obtain ⟨T2, X2, e2, st2⟩ := getF X0 hx hZ hown (host := "") (Or.inl (hw _ (List.mem_of_getElem? (i := 23) rfl))) Via.refl e0 F_r (g := (mkF m 1 #[.val (.ref a1)] [(.ref a1)])) rfl rfl (hb hby d5_1)
  have G2 : ∀ t, Steps p.tables e below (T2.setTop (mkF m 4 #[.val (.ref a1)] [(.long r)])) t → Steps p.tables e below (s₁.setTop (entryFrame m #[(.ref a1)] 1)) t := fun t kt => G1 t (st2 t kt)
  have G3 : ∀ t, Steps p.tables e below (T2.setTop (mkF m 5 #[.val (.ref a1)] [(.ref a1), (.long r)])) t → Steps p.tables e below (s₁.setTop (entryFrame m #[(.ref a1)] 1)) t := by
    intro t kt
    refine G2 t ?_
    show Steps p.tables e below (T2.setTop (mkF m 4 #[.val (.ref a1)] [(.long r)])) _
    refine XS.aloadN X2.here hx rfl (hb hby d5_4) rfl rfl ?_
    show Steps p.tables e below (T2.setTop (mkF m 5 #[.val (.ref a1)] [(.ref a1), (.long r)])) _
    exact kt
  obtain ⟨T4, X4, e4, st4⟩ := getF X2 hx hZ hown (host := "") (Or.inl (hw _ (List.mem_of_getElem? (i := 19) rfl))) Via.refl e2 F_w (g := (mkF m 5 #[.val (.ref a1)] [(.ref a1), (.long r)])) rfl rfl (hb hby d5_5)
  have G4 : ∀ t, Steps p.tables e below (T4.setTop (mkF m 8 #[.val (.ref a1)] [(.long u), (.long r)])) t → Steps p.tables e below (s₁.setTop (entryFrame m #[(.ref a1)] 1)) t := fun t kt => G3 t (st4 t kt)
  have G5 : ∀ t, Steps p.tables e below (T4.setTop (mkF m 9 #[.val (.ref a1)] [(.int (lcmpW r u))])) t → Steps p.tables e below (s₁.setTop (entryFrame m #[(.ref a1)] 1)) t := by
    intro t kt
    refine G4 t ?_
    show Steps p.tables e below (T4.setTop (mkF m 8 #[.val (.ref a1)] [(.long u), (.long r)])) _
    refine XS.lcmp X4.here hx rfl (hb hby d5_8) rfl ?_
    show Steps p.tables e below (T4.setTop (mkF m 9 #[.val (.ref a1)] [(.int (lcmpW r u))])) _
    exact kt
  by_cases h9 : (lcmpW r u) < (0 : Int32)
  · have G6 : ∀ t, Steps p.tables e below (T4.setTop (mkF m 13 #[.val (.ref a1)] [(.ref a1)])) t → Steps p.tables e below (s₁.setTop (entryFrame m #[(.ref a1)] 1)) t := by
      intro t kt
      refine G5 t ?_
      show Steps p.tables e below (T4.setTop (mkF m 9 #[.val (.ref a1)] [(.int (lcmpW r u))])) _
      refine XS.ifNo X4.here hx rfl (hb hby d5_9) rfl ((if0 _ _).trans (tlt h9).2.1) ?_
      show Steps p.tables e below (T4.setTop (mkF m 12 #[.val (.ref a1)] [])) _
      refine XS.aloadN X4.here hx rfl (hb hby d5_12) rfl rfl ?_
      show Steps p.tables e below (T4.setTop (mkF m 13 #[.val (.ref a1)] [(.ref a1)])) _
      exact kt
    obtain ⟨T7, X7, e7, st7⟩ := getF X4 hx hZ hown (host := "") (Or.inl (hw _ (List.mem_of_getElem? (i := 21) rfl))) Via.refl e4 F_s (g := (mkF m 13 #[.val (.ref a1)] [(.ref a1)])) rfl rfl (hb hby d5_13)
    have G7 : ∀ t, Steps p.tables e below (T7.setTop (mkF m 16 #[.val (.ref a1)] [(.long v')])) t → Steps p.tables e below (s₁.setTop (entryFrame m #[(.ref a1)] 1)) t := fun t kt => G6 t (st7 t kt)
    have G8 : ∀ t, Steps p.tables e below (T7.setTop (mkF m 17 #[.val (.ref a1)] [(.ref a1), (.long v')])) t → Steps p.tables e below (s₁.setTop (entryFrame m #[(.ref a1)] 1)) t := by
      intro t kt
      refine G7 t ?_
      show Steps p.tables e below (T7.setTop (mkF m 16 #[.val (.ref a1)] [(.long v')])) _
      refine XS.aloadN X7.here hx rfl (hb hby d5_16) rfl rfl ?_
      show Steps p.tables e below (T7.setTop (mkF m 17 #[.val (.ref a1)] [(.ref a1), (.long v')])) _
      exact kt
    obtain ⟨T9, X9, e9, st9⟩ := getF X7 hx hZ hown (host := "") (Or.inl (hw _ (List.mem_of_getElem? (i := 19) rfl))) Via.refl e7 F_w (g := (mkF m 17 #[.val (.ref a1)] [(.ref a1), (.long v')])) rfl rfl (hb hby d5_17)
    have G9 : ∀ t, Steps p.tables e below (T9.setTop (mkF m 20 #[.val (.ref a1)] [(.long u), (.long v')])) t → Steps p.tables e below (s₁.setTop (entryFrame m #[(.ref a1)] 1)) t := fun t kt => G8 t (st9 t kt)
    have G10 : ∀ t, Steps p.tables e below (T9.setTop (mkF m 21 #[.val (.ref a1)] [(.ref a1), (.long u), (.long v')])) t → Steps p.tables e below (s₁.setTop (entryFrame m #[(.ref a1)] 1)) t := by
      intro t kt
      refine G9 t ?_
      show Steps p.tables e below (T9.setTop (mkF m 20 #[.val (.ref a1)] [(.long u), (.long v')])) _
      refine XS.aloadN X9.here hx rfl (hb hby d5_20) rfl rfl ?_
      show Steps p.tables e below (T9.setTop (mkF m 21 #[.val (.ref a1)] [(.ref a1), (.long u), (.long v')])) _
      exact kt
    obtain ⟨T11, X11, e11, st11⟩ := getF X9 hx hZ hown (host := "") (Or.inl (hw _ (List.mem_of_getElem? (i := 23) rfl))) Via.refl e9 F_r (g := (mkF m 21 #[.val (.ref a1)] [(.ref a1), (.long u), (.long v')])) rfl rfl (hb hby d5_21)
    have G11 : ∀ t, Steps p.tables e below (T11.setTop (mkF m 24 #[.val (.ref a1)] [(.long r), (.long u), (.long v')])) t → Steps p.tables e below (s₁.setTop (entryFrame m #[(.ref a1)] 1)) t := fun t kt => G10 t (st11 t kt)
    have G12 : ∀ t, Steps p.tables e below (T11.setTop (mkF m 26 #[.val (.ref a1)] [(.int (lcmpW v' (u - r)))])) t → Steps p.tables e below (s₁.setTop (entryFrame m #[(.ref a1)] 1)) t := by
      intro t kt
      refine G11 t ?_
      show Steps p.tables e below (T11.setTop (mkF m 24 #[.val (.ref a1)] [(.long r), (.long u), (.long v')])) _
      refine XS.lsub X11.here hx rfl (hb hby d5_24) rfl ?_
      show Steps p.tables e below (T11.setTop (mkF m 25 #[.val (.ref a1)] [(.long (u - r)), (.long v')])) _
      refine XS.lcmp X11.here hx rfl (hb hby d5_25) rfl ?_
      show Steps p.tables e below (T11.setTop (mkF m 26 #[.val (.ref a1)] [(.int (lcmpW v' (u - r)))])) _
      exact kt
    by_cases h26 : (lcmpW v' (u - r)) < (0 : Int32)
    · have G13 : ∀ t, Steps p.tables e below (T11.setTop (mkF m 30 #[.val (.ref a1)] [(.ref a1)])) t → Steps p.tables e below (s₁.setTop (entryFrame m #[(.ref a1)] 1)) t := by
        intro t kt
        refine G12 t ?_
        show Steps p.tables e below (T11.setTop (mkF m 26 #[.val (.ref a1)] [(.int (lcmpW v' (u - r)))])) _
        refine XS.ifNo X11.here hx rfl (hb hby d5_26) rfl ((if0 _ _).trans (tlt h26).2.1) ?_
        show Steps p.tables e below (T11.setTop (mkF m 29 #[.val (.ref a1)] [])) _
        refine XS.aloadN X11.here hx rfl (hb hby d5_29) rfl rfl ?_
        show Steps p.tables e below (T11.setTop (mkF m 30 #[.val (.ref a1)] [(.ref a1)])) _
        exact kt
      obtain ⟨T14, X14, e14, st14⟩ := getF X11 hx hZ hown (host := "") (Or.inl (hw _ (List.mem_of_getElem? (i := 21) rfl))) Via.refl e11 F_s (g := (mkF m 30 #[.val (.ref a1)] [(.ref a1)])) rfl rfl (hb hby d5_30)
      have G14 : ∀ t, Steps p.tables e below (T14.setTop (mkF m 33 #[.val (.ref a1)] [(.long v')])) t → Steps p.tables e below (s₁.setTop (entryFrame m #[(.ref a1)] 1)) t := fun t kt => G13 t (st14 t kt)
      have G15 : ∀ t, Steps p.tables e below (T14.setTop (mkF m 34 #[.val (.ref a1)] [(.ref a1), (.long v')])) t → Steps p.tables e below (s₁.setTop (entryFrame m #[(.ref a1)] 1)) t := by
        intro t kt
        refine G14 t ?_
        show Steps p.tables e below (T14.setTop (mkF m 33 #[.val (.ref a1)] [(.long v')])) _
        refine XS.aloadN X14.here hx rfl (hb hby d5_33) rfl rfl ?_
        show Steps p.tables e below (T14.setTop (mkF m 34 #[.val (.ref a1)] [(.ref a1), (.long v')])) _
        exact kt
      obtain ⟨T16, X16, e16, st16⟩ := getF X14 hx hZ hown (host := "") (Or.inl (hw _ (List.mem_of_getElem? (i := 23) rfl))) Via.refl e14 F_r (g := (mkF m 34 #[.val (.ref a1)] [(.ref a1), (.long v')])) rfl rfl (hb hby d5_34)
      have G16 : ∀ t, Steps p.tables e below (T16.setTop (mkF m 37 #[.val (.ref a1)] [(.long r), (.long v')])) t → Steps p.tables e below (s₁.setTop (entryFrame m #[(.ref a1)] 1)) t := fun t kt => G15 t (st16 t kt)
      have G17 : ∀ t, Steps p.tables e below (T16.setTop (mkF m 44 #[.val (.ref a1)] [(.long (v' + r))])) t → Steps p.tables e below (s₁.setTop (entryFrame m #[(.ref a1)] 1)) t := by
        intro t kt
        refine G16 t ?_
        show Steps p.tables e below (T16.setTop (mkF m 37 #[.val (.ref a1)] [(.long r), (.long v')])) _
        refine XS.ladd X16.here hx rfl (hb hby d5_37) rfl ?_
        show Steps p.tables e below (T16.setTop (mkF m 38 #[.val (.ref a1)] [(.long (v' + r))])) _
        refine XS.goto X16.here hx rfl (pc0 := 38) (pc' := 44) rfl (hb hby d5_38) (by decide) (by decide) ?_
        show Steps p.tables e below (T16.setTop (mkF m 44 #[.val (.ref a1)] [(.long (v' + r))])) _
        exact kt
      obtain ⟨fs, hr, hrun, hended, hW, hsame⟩ := X16.leave (v := some (.long (v' + r))) (fun h => by rw [Bd.returns] at h; cases h)
      refine ⟨_, _, G17 _ ?_, hrun, hended, _, _, rfl, ?_, ⟨_, rfl⟩, hW, hsame.mono (by decide) (by decide)⟩
      · show Steps p.tables e below (T16.setTop (mkF m 44 #[.val (.ref a1)] [(.long (v' + r))])) _
        exact X16.lreturnOut hx Bd.returns (hb hby d5_44) hr
      · show Q5 Z a1 u v' r h0 n0 _ T16.heap _
        rw [e16]
        exact ⟨congrArg (fun z => some (Value.long z)) (show v' + r = own_run u v' r from (own_r1 h9 h26).symm), N0, rfl⟩
    · have G18 : ∀ t, Steps p.tables e below (T11.setTop (mkF m 44 #[.val (.ref a1)] [(.long (9223372036854775807 : Int64))])) t → Steps p.tables e below (s₁.setTop (entryFrame m #[(.ref a1)] 1)) t := by
        intro t kt
        refine G12 t ?_
        show Steps p.tables e below (T11.setTop (mkF m 26 #[.val (.ref a1)] [(.int (lcmpW v' (u - r)))])) _
        refine XS.ifYes X11.here hx rfl (pc0 := 26) (pc' := 41) rfl (hb hby d5_26) rfl ((if0 _ _).trans (flt h26).2.1) (by decide) (by decide) ?_
        show Steps p.tables e below (T11.setTop (mkF m 41 #[.val (.ref a1)] [])) _
        refine X11.ldc2Long hx hown (mvT hZ (hw _ (List.mem_of_getElem? (i := 32) rfl))) (g := (mkF m 41 #[.val (.ref a1)] [])) rfl (hb hby d5_41) _ ?_
        show Steps p.tables e below (T11.setTop (mkF m 44 #[.val (.ref a1)] [(.long (9223372036854775807 : Int64))])) _
        exact kt
      obtain ⟨fs, hr, hrun, hended, hW, hsame⟩ := X11.leave (v := some (.long (9223372036854775807 : Int64))) (fun h => by rw [Bd.returns] at h; cases h)
      refine ⟨_, _, G18 _ ?_, hrun, hended, _, _, rfl, ?_, ⟨_, rfl⟩, hW, hsame.mono (by decide) (by decide)⟩
      · show Steps p.tables e below (T11.setTop (mkF m 44 #[.val (.ref a1)] [(.long (9223372036854775807 : Int64))])) _
        exact X11.lreturnOut hx Bd.returns (hb hby d5_44) hr
      · show Q5 Z a1 u v' r h0 n0 _ T11.heap _
        rw [e11]
        exact ⟨congrArg (fun z => some (Value.long z)) (show (9223372036854775807 : Int64) = own_run u v' r from (own_r2 h9 h26).symm), N0, rfl⟩
  · have G19 : ∀ t, Steps p.tables e below (T4.setTop (mkF m 44 #[.val (.ref a1)] [(.long (9223372036854775807 : Int64))])) t → Steps p.tables e below (s₁.setTop (entryFrame m #[(.ref a1)] 1)) t := by
      intro t kt
      refine G5 t ?_
      show Steps p.tables e below (T4.setTop (mkF m 9 #[.val (.ref a1)] [(.int (lcmpW r u))])) _
      refine XS.ifYes X4.here hx rfl (pc0 := 9) (pc' := 41) rfl (hb hby d5_9) rfl ((if0 _ _).trans (flt h9).2.1) (by decide) (by decide) ?_
      show Steps p.tables e below (T4.setTop (mkF m 41 #[.val (.ref a1)] [])) _
      refine X4.ldc2Long hx hown (mvT hZ (hw _ (List.mem_of_getElem? (i := 32) rfl))) (g := (mkF m 41 #[.val (.ref a1)] [])) rfl (hb hby d5_41) _ ?_
      show Steps p.tables e below (T4.setTop (mkF m 44 #[.val (.ref a1)] [(.long (9223372036854775807 : Int64))])) _
      exact kt
    obtain ⟨fs, hr, hrun, hended, hW, hsame⟩ := X4.leave (v := some (.long (9223372036854775807 : Int64))) (fun h => by rw [Bd.returns] at h; cases h)
    refine ⟨_, _, G19 _ ?_, hrun, hended, _, _, rfl, ?_, ⟨_, rfl⟩, hW, hsame.mono (by decide) (by decide)⟩
    · show Steps p.tables e below (T4.setTop (mkF m 44 #[.val (.ref a1)] [(.long (9223372036854775807 : Int64))])) _
      exact X4.lreturnOut hx Bd.returns (hb hby d5_44) hr
    · show Q5 Z a1 u v' r h0 n0 _ T4.heap _
      rw [e4]
      exact ⟨congrArg (fun z => some (Value.long z)) (show (9223372036854775807 : Int64) = own_run u v' r from (own_r3 h9).symm), N0, rfl⟩
theorem ef_0 (m : MethodId) (q1 : Int64) (q2 : Int64) (q3 : Int64) (q4 : Int64) : entryFrame m #[(.long q1), (.long q2), (.long q3), (.long q4)] maxLocals = mkF m 0 #[.val (.long q1), .second, .val (.long q2), .second, .val (.long q3), .second, .val (.long q4), .second, .unset, .unset, .unset, .unset, .unset, .unset, .unset, .unset, .unset, .unset, .unset, .unset, .unset] [] := by first | (simp [entryFrame, mkF, argsToLocals, Value.category, maxLocals]; done) | rfl
def Q0 (Z : State) (q1 : Int64) (q2 : Int64) (q3 : Int64) (q4 : Int64)  (h0 : Heap) (n0 : Nat) (v : Option Value) (h : Heap) (L : List Loc) : Prop := v = some (.int (1 : Int32)) ∧ Fr n0 L
set_option maxRecDepth 65536 in
set_option maxHeartbeats 40000000 in
theorem rm0 (l : Launch) (Z : State) (a0 : Array Value) (hw : ∀ d ∈ tables_1, d.before a0 Z = true) (ws : List Jvm.Cond) (q1 : Int64) (q2 : Int64) (q3 : Int64) (q4 : Int64)  (h0 : Heap) (n0 : Nat) (Z0 : n0 ≤ h0.size) :
    MetFree l x (head1 (Jvm.Cond.code x code maxLocals ret :: ws) room_1) (fun a U => a = #[(.long q1), (.long q2), (.long q3), (.long q4)] ∧ Z.Warmed39 U.vm ∧ U.heap = h0) (fun _ _ _ _ _ => True) (fun _ U o U' => ∃ v L, o = .returned v ∧ Q0 Z q1 q2 q3 q4 h0 n0 v U'.heap L ∧ FrameEnd U o U' L room_1.cells room_1.slots) := by
  refine MetFree.of_bodySF (plainFor_of_name pn_2) hisR ?_
  intro p e s m args below meth c s₁ Bd hml0 hP hK
  obtain ⟨rfl, hZ, hh⟩ := hP
  have hx := Bd.exec
  have hby := Bd.bytes
  have hml : c.maxLocals = 21 := hml0
  have hown : s.vm.findClass "tracewarden/check/LimitsLongestRunPinLaw" = some m.cls := findClass_of_methodNamed Bd.named
  have hnm := (name_of_methodNamed Bd.named Bd.method).1
  have X0 : Stand p l e room_1 s m #[(.long q1), (.long q2), (.long q3), (.long q4)] below meth c s₁ [] 0 0 := Stand.of_body Bd
  have e0 : s₁.heap = h0 := by rw [← hh, Bd.state]; rfl
  have N0 := Fr.nil n0
  have pre0 : ∀ t, Steps p.tables e below (s₁.setTop (mkF m 0 #[.val (.long q1), .second, .val (.long q2), .second, .val (.long q3), .second, .val (.long q4), .second, .unset, .unset, .unset, .unset, .unset, .unset, .unset, .unset, .unset, .unset, .unset, .unset, .unset] [])) t → Steps p.tables e below (s₁.setTop (entryFrame m #[(.long q1), (.long q2), (.long q3), (.long q4)] maxLocals)) t := fun t k => castTop (ef_0 m q1 q2 q3 q4) k
  have G1 : ∀ t, Steps p.tables e below (s₁.setTop (mkF m 6 #[.val (.long q1), .second, .val (.long q2), .second, .val (.long q3), .second, .val (.long q4), .second, .unset, .unset, .unset, .unset, .unset, .unset, .unset, .unset, .unset, .unset, .unset, .unset, .unset] [(.long (q1 &&& (9223372036854775807 : Int64))), (.long (1 : Int64))])) t → Steps p.tables e below (s₁.setTop (entryFrame m #[(.long q1), (.long q2), (.long q3), (.long q4)] maxLocals)) t := by
    intro t kt
    refine pre0 t ?_
    show Steps p.tables e below (s₁.setTop (mkF m 0 #[.val (.long q1), .second, .val (.long q2), .second, .val (.long q3), .second, .val (.long q4), .second, .unset, .unset, .unset, .unset, .unset, .unset, .unset, .unset, .unset, .unset, .unset, .unset, .unset] [])) _
    refine XS.lconst X0.here hx rfl (hb hby at_0) ?_
    show Steps p.tables e below (s₁.setTop (mkF m 1 #[.val (.long q1), .second, .val (.long q2), .second, .val (.long q3), .second, .val (.long q4), .second, .unset, .unset, .unset, .unset, .unset, .unset, .unset, .unset, .unset, .unset, .unset, .unset, .unset] [(.long (1 : Int64))])) _
    refine XS.lloadN X0.here hx rfl (hb hby at_1) rfl ?_
    show Steps p.tables e below (s₁.setTop (mkF m 2 #[.val (.long q1), .second, .val (.long q2), .second, .val (.long q3), .second, .val (.long q4), .second, .unset, .unset, .unset, .unset, .unset, .unset, .unset, .unset, .unset, .unset, .unset, .unset, .unset] [(.long q1), (.long (1 : Int64))])) _
    refine X0.ldc2Long hx hown (mvT hZ (hw _ (List.mem_of_getElem? (i := 0) rfl))) (g := (mkF m 2 #[.val (.long q1), .second, .val (.long q2), .second, .val (.long q3), .second, .val (.long q4), .second, .unset, .unset, .unset, .unset, .unset, .unset, .unset, .unset, .unset, .unset, .unset, .unset, .unset] [(.long q1), (.long (1 : Int64))])) rfl (hb hby at_2) _ ?_
    show Steps p.tables e below (s₁.setTop (mkF m 5 #[.val (.long q1), .second, .val (.long q2), .second, .val (.long q3), .second, .val (.long q4), .second, .unset, .unset, .unset, .unset, .unset, .unset, .unset, .unset, .unset, .unset, .unset, .unset, .unset] [(.long (9223372036854775807 : Int64)), (.long q1), (.long (1 : Int64))])) _
    refine XS.land X0.here hx rfl (hb hby at_5) rfl ?_
    show Steps p.tables e below (s₁.setTop (mkF m 6 #[.val (.long q1), .second, .val (.long q2), .second, .val (.long q3), .second, .val (.long q4), .second, .unset, .unset, .unset, .unset, .unset, .unset, .unset, .unset, .unset, .unset, .unset, .unset, .unset] [(.long (q1 &&& (9223372036854775807 : Int64))), (.long (1 : Int64))])) _
    exact kt
  obtain ⟨_, _, ⟨T2, L2, k2, n2⟩, -, X2, ⟨Lc2, hQ2, l2, y2, z2⟩, st2⟩ := Jvm.LawKit.callS X0 hx (y := (⟨"java/lang/Math", "max", "(JJ)J"⟩ : MethodName)) hown (mvT hZ (hw _ (List.mem_of_getElem? (i := 1) rfl))) (mvT hZ (hw _ (List.mem_of_getElem? (i := 2) rfl))) (mvT hZ (hw _ (List.mem_of_getElem? (i := 3) rfl))) (mvT hZ (hw _ (List.mem_of_getElem? (i := 4) rfl))) (by decide) (backOf (W := 0) (rm1 l Z a0 hw [] (1 : Int64) (q1 &&& (9223372036854775807 : Int64))  h0 n0 Z0 ) hZ (hw _ (List.mem_of_getElem? (i := 4) rfl)) (hw _ (List.mem_of_getElem? (i := 3) rfl)) (by decide) (by decide)) (g := (mkF m 6 #[.val (.long q1), .second, .val (.long q2), .second, .val (.long q3), .second, .val (.long q4), .second, .unset, .unset, .unset, .unset, .unset, .unset, .unset, .unset, .unset, .unset, .unset, .unset, .unset] [(.long (q1 &&& (9223372036854775807 : Int64))), (.long (1 : Int64))])) rfl (by rw [hml]; rfl) (argsL := [(.long (1 : Int64)), (.long (q1 &&& (9223372036854775807 : Int64)))]) (rest := []) (lenOf pd_1 rfl) rfl (by show 2 * 0 + _ ≤ _; exact Nat.le_of_eq rfl) (hb hby at_6) (fun _ _ => ⟨rfl, e0, (by decide : 0 + 0 ≤ _), (by decide : 0 + 0 ≤ _)⟩)
  dsimp only [Pt.U, Pt.locs, Pt.cells, Pt.slots] at X2 l2 y2 z2 st2 hQ2
  subst l2 y2 z2
  obtain ⟨rfl, N2q, e2⟩ := hQ2
  have N2 := Fr.app N0 N2q
  have G2 : ∀ t, Steps p.tables e below (T2.setTop (mkF m 9 #[.val (.long q1), .second, .val (.long q2), .second, .val (.long q3), .second, .val (.long q4), .second, .unset, .unset, .unset, .unset, .unset, .unset, .unset, .unset, .unset, .unset, .unset, .unset, .unset] [(.long (g1_0 (1 : Int64) (q1 &&& (9223372036854775807 : Int64))))])) t → Steps p.tables e below (s₁.setTop (entryFrame m #[(.long q1), (.long q2), (.long q3), (.long q4)] maxLocals)) t := fun t kt => G1 t (st2 t kt)
  have G3 : ∀ t, Steps p.tables e below (T2.setTop (mkF m 34 #[.val (.long q1), .second, .val (.long q2), .second, .val (.long q3), .second, .val (.long q4), .second, .val (.long (g1_0 (1 : Int64) (q1 &&& (9223372036854775807 : Int64)))), .second, .val (.long (q2 &&& (9223372036854775807 : Int64))), .second, .val (.long (q3 &&& (9223372036854775807 : Int64))), .second, .val (.long (q4 &&& (9223372036854775807 : Int64))), .second, .unset, .unset, .unset, .unset, .unset] [])) t → Steps p.tables e below (s₁.setTop (entryFrame m #[(.long q1), (.long q2), (.long q3), (.long q4)] maxLocals)) t := by
    intro t kt
    refine G2 t ?_
    show Steps p.tables e below (T2.setTop (mkF m 9 #[.val (.long q1), .second, .val (.long q2), .second, .val (.long q3), .second, .val (.long q4), .second, .unset, .unset, .unset, .unset, .unset, .unset, .unset, .unset, .unset, .unset, .unset, .unset, .unset] [(.long (g1_0 (1 : Int64) (q1 &&& (9223372036854775807 : Int64))))])) _
    refine XS.lstore X2.here hx rfl (hb hby at_9) rfl (l' := #[.val (.long q1), .second, .val (.long q2), .second, .val (.long q3), .second, .val (.long q4), .second, .val (.long (g1_0 (1 : Int64) (q1 &&& (9223372036854775807 : Int64)))), .second, .unset, .unset, .unset, .unset, .unset, .unset, .unset, .unset, .unset, .unset, .unset]) rfl ?_
    show Steps p.tables e below (T2.setTop (mkF m 11 #[.val (.long q1), .second, .val (.long q2), .second, .val (.long q3), .second, .val (.long q4), .second, .val (.long (g1_0 (1 : Int64) (q1 &&& (9223372036854775807 : Int64)))), .second, .unset, .unset, .unset, .unset, .unset, .unset, .unset, .unset, .unset, .unset, .unset] [])) _
    refine XS.lloadN X2.here hx rfl (hb hby at_11) rfl ?_
    show Steps p.tables e below (T2.setTop (mkF m 12 #[.val (.long q1), .second, .val (.long q2), .second, .val (.long q3), .second, .val (.long q4), .second, .val (.long (g1_0 (1 : Int64) (q1 &&& (9223372036854775807 : Int64)))), .second, .unset, .unset, .unset, .unset, .unset, .unset, .unset, .unset, .unset, .unset, .unset] [(.long q2)])) _
    refine X2.ldc2Long hx hown (mvT hZ (hw _ (List.mem_of_getElem? (i := 0) rfl))) (g := (mkF m 12 #[.val (.long q1), .second, .val (.long q2), .second, .val (.long q3), .second, .val (.long q4), .second, .val (.long (g1_0 (1 : Int64) (q1 &&& (9223372036854775807 : Int64)))), .second, .unset, .unset, .unset, .unset, .unset, .unset, .unset, .unset, .unset, .unset, .unset] [(.long q2)])) rfl (hb hby at_12) _ ?_
    show Steps p.tables e below (T2.setTop (mkF m 15 #[.val (.long q1), .second, .val (.long q2), .second, .val (.long q3), .second, .val (.long q4), .second, .val (.long (g1_0 (1 : Int64) (q1 &&& (9223372036854775807 : Int64)))), .second, .unset, .unset, .unset, .unset, .unset, .unset, .unset, .unset, .unset, .unset, .unset] [(.long (9223372036854775807 : Int64)), (.long q2)])) _
    refine XS.land X2.here hx rfl (hb hby at_15) rfl ?_
    show Steps p.tables e below (T2.setTop (mkF m 16 #[.val (.long q1), .second, .val (.long q2), .second, .val (.long q3), .second, .val (.long q4), .second, .val (.long (g1_0 (1 : Int64) (q1 &&& (9223372036854775807 : Int64)))), .second, .unset, .unset, .unset, .unset, .unset, .unset, .unset, .unset, .unset, .unset, .unset] [(.long (q2 &&& (9223372036854775807 : Int64)))])) _
    refine XS.lstore X2.here hx rfl (hb hby at_16) rfl (l' := #[.val (.long q1), .second, .val (.long q2), .second, .val (.long q3), .second, .val (.long q4), .second, .val (.long (g1_0 (1 : Int64) (q1 &&& (9223372036854775807 : Int64)))), .second, .val (.long (q2 &&& (9223372036854775807 : Int64))), .second, .unset, .unset, .unset, .unset, .unset, .unset, .unset, .unset, .unset]) rfl ?_
    show Steps p.tables e below (T2.setTop (mkF m 18 #[.val (.long q1), .second, .val (.long q2), .second, .val (.long q3), .second, .val (.long q4), .second, .val (.long (g1_0 (1 : Int64) (q1 &&& (9223372036854775807 : Int64)))), .second, .val (.long (q2 &&& (9223372036854775807 : Int64))), .second, .unset, .unset, .unset, .unset, .unset, .unset, .unset, .unset, .unset] [])) _
    refine XS.lload X2.here hx rfl (hb hby at_18) rfl ?_
    show Steps p.tables e below (T2.setTop (mkF m 20 #[.val (.long q1), .second, .val (.long q2), .second, .val (.long q3), .second, .val (.long q4), .second, .val (.long (g1_0 (1 : Int64) (q1 &&& (9223372036854775807 : Int64)))), .second, .val (.long (q2 &&& (9223372036854775807 : Int64))), .second, .unset, .unset, .unset, .unset, .unset, .unset, .unset, .unset, .unset] [(.long q3)])) _
    refine X2.ldc2Long hx hown (mvT hZ (hw _ (List.mem_of_getElem? (i := 0) rfl))) (g := (mkF m 20 #[.val (.long q1), .second, .val (.long q2), .second, .val (.long q3), .second, .val (.long q4), .second, .val (.long (g1_0 (1 : Int64) (q1 &&& (9223372036854775807 : Int64)))), .second, .val (.long (q2 &&& (9223372036854775807 : Int64))), .second, .unset, .unset, .unset, .unset, .unset, .unset, .unset, .unset, .unset] [(.long q3)])) rfl (hb hby at_20) _ ?_
    show Steps p.tables e below (T2.setTop (mkF m 23 #[.val (.long q1), .second, .val (.long q2), .second, .val (.long q3), .second, .val (.long q4), .second, .val (.long (g1_0 (1 : Int64) (q1 &&& (9223372036854775807 : Int64)))), .second, .val (.long (q2 &&& (9223372036854775807 : Int64))), .second, .unset, .unset, .unset, .unset, .unset, .unset, .unset, .unset, .unset] [(.long (9223372036854775807 : Int64)), (.long q3)])) _
    refine XS.land X2.here hx rfl (hb hby at_23) rfl ?_
    show Steps p.tables e below (T2.setTop (mkF m 24 #[.val (.long q1), .second, .val (.long q2), .second, .val (.long q3), .second, .val (.long q4), .second, .val (.long (g1_0 (1 : Int64) (q1 &&& (9223372036854775807 : Int64)))), .second, .val (.long (q2 &&& (9223372036854775807 : Int64))), .second, .unset, .unset, .unset, .unset, .unset, .unset, .unset, .unset, .unset] [(.long (q3 &&& (9223372036854775807 : Int64)))])) _
    refine XS.lstore X2.here hx rfl (hb hby at_24) rfl (l' := #[.val (.long q1), .second, .val (.long q2), .second, .val (.long q3), .second, .val (.long q4), .second, .val (.long (g1_0 (1 : Int64) (q1 &&& (9223372036854775807 : Int64)))), .second, .val (.long (q2 &&& (9223372036854775807 : Int64))), .second, .val (.long (q3 &&& (9223372036854775807 : Int64))), .second, .unset, .unset, .unset, .unset, .unset, .unset, .unset]) rfl ?_
    show Steps p.tables e below (T2.setTop (mkF m 26 #[.val (.long q1), .second, .val (.long q2), .second, .val (.long q3), .second, .val (.long q4), .second, .val (.long (g1_0 (1 : Int64) (q1 &&& (9223372036854775807 : Int64)))), .second, .val (.long (q2 &&& (9223372036854775807 : Int64))), .second, .val (.long (q3 &&& (9223372036854775807 : Int64))), .second, .unset, .unset, .unset, .unset, .unset, .unset, .unset] [])) _
    refine XS.lload X2.here hx rfl (hb hby at_26) rfl ?_
    show Steps p.tables e below (T2.setTop (mkF m 28 #[.val (.long q1), .second, .val (.long q2), .second, .val (.long q3), .second, .val (.long q4), .second, .val (.long (g1_0 (1 : Int64) (q1 &&& (9223372036854775807 : Int64)))), .second, .val (.long (q2 &&& (9223372036854775807 : Int64))), .second, .val (.long (q3 &&& (9223372036854775807 : Int64))), .second, .unset, .unset, .unset, .unset, .unset, .unset, .unset] [(.long q4)])) _
    refine X2.ldc2Long hx hown (mvT hZ (hw _ (List.mem_of_getElem? (i := 0) rfl))) (g := (mkF m 28 #[.val (.long q1), .second, .val (.long q2), .second, .val (.long q3), .second, .val (.long q4), .second, .val (.long (g1_0 (1 : Int64) (q1 &&& (9223372036854775807 : Int64)))), .second, .val (.long (q2 &&& (9223372036854775807 : Int64))), .second, .val (.long (q3 &&& (9223372036854775807 : Int64))), .second, .unset, .unset, .unset, .unset, .unset, .unset, .unset] [(.long q4)])) rfl (hb hby at_28) _ ?_
    show Steps p.tables e below (T2.setTop (mkF m 31 #[.val (.long q1), .second, .val (.long q2), .second, .val (.long q3), .second, .val (.long q4), .second, .val (.long (g1_0 (1 : Int64) (q1 &&& (9223372036854775807 : Int64)))), .second, .val (.long (q2 &&& (9223372036854775807 : Int64))), .second, .val (.long (q3 &&& (9223372036854775807 : Int64))), .second, .unset, .unset, .unset, .unset, .unset, .unset, .unset] [(.long (9223372036854775807 : Int64)), (.long q4)])) _
    refine XS.land X2.here hx rfl (hb hby at_31) rfl ?_
    show Steps p.tables e below (T2.setTop (mkF m 32 #[.val (.long q1), .second, .val (.long q2), .second, .val (.long q3), .second, .val (.long q4), .second, .val (.long (g1_0 (1 : Int64) (q1 &&& (9223372036854775807 : Int64)))), .second, .val (.long (q2 &&& (9223372036854775807 : Int64))), .second, .val (.long (q3 &&& (9223372036854775807 : Int64))), .second, .unset, .unset, .unset, .unset, .unset, .unset, .unset] [(.long (q4 &&& (9223372036854775807 : Int64)))])) _
    refine XS.lstore X2.here hx rfl (hb hby at_32) rfl (l' := #[.val (.long q1), .second, .val (.long q2), .second, .val (.long q3), .second, .val (.long q4), .second, .val (.long (g1_0 (1 : Int64) (q1 &&& (9223372036854775807 : Int64)))), .second, .val (.long (q2 &&& (9223372036854775807 : Int64))), .second, .val (.long (q3 &&& (9223372036854775807 : Int64))), .second, .val (.long (q4 &&& (9223372036854775807 : Int64))), .second, .unset, .unset, .unset, .unset, .unset]) rfl ?_
    show Steps p.tables e below (T2.setTop (mkF m 34 #[.val (.long q1), .second, .val (.long q2), .second, .val (.long q3), .second, .val (.long q4), .second, .val (.long (g1_0 (1 : Int64) (q1 &&& (9223372036854775807 : Int64)))), .second, .val (.long (q2 &&& (9223372036854775807 : Int64))), .second, .val (.long (q3 &&& (9223372036854775807 : Int64))), .second, .val (.long (q4 &&& (9223372036854775807 : Int64))), .second, .unset, .unset, .unset, .unset, .unset] [])) _
    exact kt
  obtain ⟨W, e_W⟩ : ∃ z : Int64, z = (g1_0 (1 : Int64) (q1 &&& (9223372036854775807 : Int64))) := ⟨_, rfl⟩
  have h_W : 1 ≤ W.toInt := by rw [e_W]; exact own_max _
  obtain ⟨S, e_S⟩ : ∃ z : Int64, z = (q2 &&& (9223372036854775807 : Int64)) := ⟨_, rfl⟩
  have h_S : 0 ≤ S.toInt := by rw [e_S]; exact own_msk _
  obtain ⟨R', e_R'⟩ : ∃ z : Int64, z = (q3 &&& (9223372036854775807 : Int64)) := ⟨_, rfl⟩
  have h_R' : 0 ≤ R'.toInt := by rw [e_R']; exact own_msk _
  obtain ⟨B, e_B⟩ : ∃ z : Int64, z = (q4 &&& (9223372036854775807 : Int64)) := ⟨_, rfl⟩
  have h_B : 0 ≤ B.toInt := by rw [e_B]; exact own_msk _
  have G4 : ∀ t, Steps p.tables e below (T2.setTop (mkF m 34 #[.val (.long q1), .second, .val (.long q2), .second, .val (.long q3), .second, .val (.long q4), .second, .val (.long W), .second, .val (.long S), .second, .val (.long R'), .second, .val (.long B), .second, .unset, .unset, .unset, .unset, .unset] [])) t → Steps p.tables e below (s₁.setTop (entryFrame m #[(.long q1), (.long q2), (.long q3), (.long q4)] maxLocals)) t := by
    intro t kt
    refine G3 t ?_
    subst e_W e_S e_R' e_B
    exact kt
  obtain ⟨T5, h5, X5, e5, E5, A5, D5, -, st5⟩ := newO X2 hx hZ hown (hw _ (List.mem_of_getElem? (i := 5) rfl)) (hw _ (List.mem_of_getElem? (i := 6) rfl)) (hw _ (List.mem_of_getElem? (i := 7) rfl)) e2 (g := (mkF m 34 #[.val (.long q1), .second, .val (.long q2), .second, .val (.long q3), .second, .val (.long q4), .second, .val (.long W), .second, .val (.long S), .second, .val (.long R'), .second, .val (.long B), .second, .unset, .unset, .unset, .unset, .unset] [])) rfl (hb hby at_34) (by decide) (by decide)
  obtain ⟨b5, g5⟩ : ∃ z, z = h0.size := ⟨_, rfl⟩
  rw [← g5] at A5 D5 st5
  have g_b5 : n0 ≤ b5 := Nat.le_trans Z0 (Nat.le_of_eq g5.symm)
  have Z5 : n0 ≤ h5.size := Nat.le_trans Z0 E5.1
  have E_b5 : Exa Z h5 b5 "tracewarden/check/Limits" := A5
  have F_window_b5 : Fld Z h5 b5 "tracewarden/check/Limits" "window" "J" (.long (0 : Int64)) := D5 (Or.inr (hw _ (List.mem_of_getElem? (i := 20) rfl))) (ty := .long) (by decide)
  have F_sent_b5 : Fld Z h5 b5 "tracewarden/check/Limits" "sent" "J" (.long (0 : Int64)) := D5 (Or.inr (hw _ (List.mem_of_getElem? (i := 22) rfl))) (ty := .long) (by decide)
  have F_received_b5 : Fld Z h5 b5 "tracewarden/check/Limits" "received" "J" (.long (0 : Int64)) := D5 (Or.inr (hw _ (List.mem_of_getElem? (i := 24) rfl))) (ty := .long) (by decide)
  have F_goBack_b5 : Fld Z h5 b5 "tracewarden/check/Limits" "goBack" "J" (.long (0 : Int64)) := D5 (Or.inr (hw _ (List.mem_of_getElem? (i := 26) rfl))) (ty := .long) (by decide)
  have G5 : ∀ t, Steps p.tables e below (T5.setTop (mkF m 37 #[.val (.long q1), .second, .val (.long q2), .second, .val (.long q3), .second, .val (.long q4), .second, .val (.long W), .second, .val (.long S), .second, .val (.long R'), .second, .val (.long B), .second, .unset, .unset, .unset, .unset, .unset] [(.ref b5)])) t → Steps p.tables e below (s₁.setTop (entryFrame m #[(.long q1), (.long q2), (.long q3), (.long q4)] maxLocals)) t := fun t kt => G4 t (st5 t kt)
  have G6 : ∀ t, Steps p.tables e below (T5.setTop (mkF m 46 #[.val (.long q1), .second, .val (.long q2), .second, .val (.long q3), .second, .val (.long q4), .second, .val (.long W), .second, .val (.long S), .second, .val (.long R'), .second, .val (.long B), .second, .unset, .unset, .unset, .unset, .unset] [(.long B), (.long R'), (.long S), (.long W), (.ref b5), (.ref b5)])) t → Steps p.tables e below (s₁.setTop (entryFrame m #[(.long q1), (.long q2), (.long q3), (.long q4)] maxLocals)) t := by
    intro t kt
    refine G5 t ?_
    show Steps p.tables e below (T5.setTop (mkF m 37 #[.val (.long q1), .second, .val (.long q2), .second, .val (.long q3), .second, .val (.long q4), .second, .val (.long W), .second, .val (.long S), .second, .val (.long R'), .second, .val (.long B), .second, .unset, .unset, .unset, .unset, .unset] [(.ref b5)])) _
    refine XS.dup X5.here hx rfl (hb hby at_37) rfl rfl ?_
    show Steps p.tables e below (T5.setTop (mkF m 38 #[.val (.long q1), .second, .val (.long q2), .second, .val (.long q3), .second, .val (.long q4), .second, .val (.long W), .second, .val (.long S), .second, .val (.long R'), .second, .val (.long B), .second, .unset, .unset, .unset, .unset, .unset] [(.ref b5), (.ref b5)])) _
    refine XS.lload X5.here hx rfl (hb hby at_38) rfl ?_
    show Steps p.tables e below (T5.setTop (mkF m 40 #[.val (.long q1), .second, .val (.long q2), .second, .val (.long q3), .second, .val (.long q4), .second, .val (.long W), .second, .val (.long S), .second, .val (.long R'), .second, .val (.long B), .second, .unset, .unset, .unset, .unset, .unset] [(.long W), (.ref b5), (.ref b5)])) _
    refine XS.lload X5.here hx rfl (hb hby at_40) rfl ?_
    show Steps p.tables e below (T5.setTop (mkF m 42 #[.val (.long q1), .second, .val (.long q2), .second, .val (.long q3), .second, .val (.long q4), .second, .val (.long W), .second, .val (.long S), .second, .val (.long R'), .second, .val (.long B), .second, .unset, .unset, .unset, .unset, .unset] [(.long S), (.long W), (.ref b5), (.ref b5)])) _
    refine XS.lload X5.here hx rfl (hb hby at_42) rfl ?_
    show Steps p.tables e below (T5.setTop (mkF m 44 #[.val (.long q1), .second, .val (.long q2), .second, .val (.long q3), .second, .val (.long q4), .second, .val (.long W), .second, .val (.long S), .second, .val (.long R'), .second, .val (.long B), .second, .unset, .unset, .unset, .unset, .unset] [(.long R'), (.long S), (.long W), (.ref b5), (.ref b5)])) _
    refine XS.lload X5.here hx rfl (hb hby at_44) rfl ?_
    show Steps p.tables e below (T5.setTop (mkF m 46 #[.val (.long q1), .second, .val (.long q2), .second, .val (.long q3), .second, .val (.long q4), .second, .val (.long W), .second, .val (.long S), .second, .val (.long R'), .second, .val (.long B), .second, .unset, .unset, .unset, .unset, .unset] [(.long B), (.long R'), (.long S), (.long W), (.ref b5), (.ref b5)])) _
    exact kt
  obtain ⟨_, _, ⟨T7, L7, k7, n7⟩, -, X7, ⟨Lc7, hQ7, l7, y7, z7⟩, st7⟩ := X5.specialBack hx (y := (⟨"tracewarden/check/Limits", "<init>", "(JJJJ)V"⟩ : MethodName)) rfl hown (mvT hZ (hw _ (List.mem_of_getElem? (i := 8) rfl))) (mvT hZ (hw _ (List.mem_of_getElem? (i := 9) rfl))) (mvT hZ (hw _ (List.mem_of_getElem? (i := 10) rfl))) (by decide) (backOf (W := 1) (rm2 l Z a0 hw [] b5 W S R' B  h5 n0 Z5 E_b5 F_window_b5 F_sent_b5 F_received_b5 F_goBack_b5 g_b5 (own_g1 h_W) (own_g0 h_S) (own_g0 h_R') (own_g0 h_B)) hZ (hw _ (List.mem_of_getElem? (i := 10) rfl)) (hw _ (List.mem_of_getElem? (i := 7) rfl)) (by decide) (by decide)) (g := (mkF m 46 #[.val (.long q1), .second, .val (.long q2), .second, .val (.long q3), .second, .val (.long q4), .second, .val (.long W), .second, .val (.long S), .second, .val (.long R'), .second, .val (.long B), .second, .unset, .unset, .unset, .unset, .unset] [(.long B), (.long R'), (.long S), (.long W), (.ref b5), (.ref b5)])) rfl (by rw [hml]; rfl) (Steps.refl _) (a := b5) (argsL := [(.long W), (.long S), (.long R'), (.long B)]) (rest := [(.ref b5)]) (lenOf pd_2 rfl) rfl (by show 2 * 0 + _ ≤ _; exact Nat.le_of_eq rfl) (hb hby at_46) (fun _ _ => ⟨rfl, e5, (by decide : 1 + 0 ≤ _), (by decide : 4 + 0 ≤ _)⟩)
  dsimp only [Pt.U, Pt.locs, Pt.cells, Pt.slots] at X7 l7 y7 z7 st7 hQ7
  subst l7 y7 z7
  obtain ⟨rfl, N7q, K7, Eq7, Fq0_7, Fq1_7, Fq2_7, Fq3_7⟩ := hQ7
  have N7 := Fr.app N2 N7q
  have E_b5_7 : Exa Z T7.heap b5 "tracewarden/check/Limits" := E_b5.keep K7
  have Z7 : n0 ≤ T7.heap.size := Nat.le_trans Z5 K7.1
  have G7 : ∀ t, Steps p.tables e below (T7.setTop (mkF m 49 #[.val (.long q1), .second, .val (.long q2), .second, .val (.long q3), .second, .val (.long q4), .second, .val (.long W), .second, .val (.long S), .second, .val (.long R'), .second, .val (.long B), .second, .unset, .unset, .unset, .unset, .unset] [(.ref b5)])) t → Steps p.tables e below (s₁.setTop (entryFrame m #[(.long q1), (.long q2), (.long q3), (.long q4)] maxLocals)) t := fun t kt => G6 t (st7.trans kt)
  have G8 : ∀ t, Steps p.tables e below (T7.setTop (mkF m 62 #[.val (.long q1), .second, .val (.long q2), .second, .val (.long q3), .second, .val (.long q4), .second, .val (.long W), .second, .val (.long S), .second, .val (.long R'), .second, .val (.long B), .second, .val (.ref b5), .val (.long (S + R')), .second, .unset, .unset] [(.int (lcmpW (S + R') (0 : Int64)))])) t → Steps p.tables e below (s₁.setTop (entryFrame m #[(.long q1), (.long q2), (.long q3), (.long q4)] maxLocals)) t := by
    intro t kt
    refine G7 t ?_
    show Steps p.tables e below (T7.setTop (mkF m 49 #[.val (.long q1), .second, .val (.long q2), .second, .val (.long q3), .second, .val (.long q4), .second, .val (.long W), .second, .val (.long S), .second, .val (.long R'), .second, .val (.long B), .second, .unset, .unset, .unset, .unset, .unset] [(.ref b5)])) _
    refine XS.astore X7.here hx rfl (hb hby at_49) rfl rfl (l' := #[.val (.long q1), .second, .val (.long q2), .second, .val (.long q3), .second, .val (.long q4), .second, .val (.long W), .second, .val (.long S), .second, .val (.long R'), .second, .val (.long B), .second, .val (.ref b5), .unset, .unset, .unset, .unset]) rfl ?_
    show Steps p.tables e below (T7.setTop (mkF m 51 #[.val (.long q1), .second, .val (.long q2), .second, .val (.long q3), .second, .val (.long q4), .second, .val (.long W), .second, .val (.long S), .second, .val (.long R'), .second, .val (.long B), .second, .val (.ref b5), .unset, .unset, .unset, .unset] [])) _
    refine XS.lload X7.here hx rfl (hb hby at_51) rfl ?_
    show Steps p.tables e below (T7.setTop (mkF m 53 #[.val (.long q1), .second, .val (.long q2), .second, .val (.long q3), .second, .val (.long q4), .second, .val (.long W), .second, .val (.long S), .second, .val (.long R'), .second, .val (.long B), .second, .val (.ref b5), .unset, .unset, .unset, .unset] [(.long S)])) _
    refine XS.lload X7.here hx rfl (hb hby at_53) rfl ?_
    show Steps p.tables e below (T7.setTop (mkF m 55 #[.val (.long q1), .second, .val (.long q2), .second, .val (.long q3), .second, .val (.long q4), .second, .val (.long W), .second, .val (.long S), .second, .val (.long R'), .second, .val (.long B), .second, .val (.ref b5), .unset, .unset, .unset, .unset] [(.long R'), (.long S)])) _
    refine XS.ladd X7.here hx rfl (hb hby at_55) rfl ?_
    show Steps p.tables e below (T7.setTop (mkF m 56 #[.val (.long q1), .second, .val (.long q2), .second, .val (.long q3), .second, .val (.long q4), .second, .val (.long W), .second, .val (.long S), .second, .val (.long R'), .second, .val (.long B), .second, .val (.ref b5), .unset, .unset, .unset, .unset] [(.long (S + R'))])) _
    refine XS.lstore X7.here hx rfl (hb hby at_56) rfl (l' := #[.val (.long q1), .second, .val (.long q2), .second, .val (.long q3), .second, .val (.long q4), .second, .val (.long W), .second, .val (.long S), .second, .val (.long R'), .second, .val (.long B), .second, .val (.ref b5), .val (.long (S + R')), .second, .unset, .unset]) rfl ?_
    show Steps p.tables e below (T7.setTop (mkF m 58 #[.val (.long q1), .second, .val (.long q2), .second, .val (.long q3), .second, .val (.long q4), .second, .val (.long W), .second, .val (.long S), .second, .val (.long R'), .second, .val (.long B), .second, .val (.ref b5), .val (.long (S + R')), .second, .unset, .unset] [])) _
    refine XS.lload X7.here hx rfl (hb hby at_58) rfl ?_
    show Steps p.tables e below (T7.setTop (mkF m 60 #[.val (.long q1), .second, .val (.long q2), .second, .val (.long q3), .second, .val (.long q4), .second, .val (.long W), .second, .val (.long S), .second, .val (.long R'), .second, .val (.long B), .second, .val (.ref b5), .val (.long (S + R')), .second, .unset, .unset] [(.long (S + R'))])) _
    refine XS.lconst X7.here hx rfl (hb hby at_60) ?_
    show Steps p.tables e below (T7.setTop (mkF m 61 #[.val (.long q1), .second, .val (.long q2), .second, .val (.long q3), .second, .val (.long q4), .second, .val (.long W), .second, .val (.long S), .second, .val (.long R'), .second, .val (.long B), .second, .val (.ref b5), .val (.long (S + R')), .second, .unset, .unset] [(.long (0 : Int64)), (.long (S + R'))])) _
    refine XS.lcmp X7.here hx rfl (hb hby at_61) rfl ?_
    show Steps p.tables e below (T7.setTop (mkF m 62 #[.val (.long q1), .second, .val (.long q2), .second, .val (.long q3), .second, .val (.long q4), .second, .val (.long W), .second, .val (.long S), .second, .val (.long R'), .second, .val (.long B), .second, .val (.ref b5), .val (.long (S + R')), .second, .unset, .unset] [(.int (lcmpW (S + R') (0 : Int64)))])) _
    exact kt
  obtain ⟨ex, hex, GJ⟩ : ∃ ex : Int64, own_run W S R' = ex ∧ ∀ t, Steps p.tables e below (T7.setTop (mkF m 85 #[.val (.long q1), .second, .val (.long q2), .second, .val (.long q3), .second, .val (.long q4), .second, .val (.long W), .second, .val (.long S), .second, .val (.long R'), .second, .val (.long B), .second, .val (.ref b5), .val (.long (S + R')), .second, .val (.long ex), .second] [])) t → Steps p.tables e below (s₁.setTop (entryFrame m #[(.long q1), (.long q2), (.long q3), (.long q4)] maxLocals)) t := by
    by_cases hc : (lcmpW (S + R') (0 : Int64)) < (0 : Int32)
    · have G9 : ∀ t, Steps p.tables e below (T7.setTop (mkF m 85 #[.val (.long q1), .second, .val (.long q2), .second, .val (.long q3), .second, .val (.long q4), .second, .val (.long W), .second, .val (.long S), .second, .val (.long R'), .second, .val (.long B), .second, .val (.ref b5), .val (.long (S + R')), .second, .val (.long (9223372036854775807 : Int64)), .second] [])) t → Steps p.tables e below (s₁.setTop (entryFrame m #[(.long q1), (.long q2), (.long q3), (.long q4)] maxLocals)) t := by
        intro t kt
        refine G8 t ?_
        show Steps p.tables e below (T7.setTop (mkF m 62 #[.val (.long q1), .second, .val (.long q2), .second, .val (.long q3), .second, .val (.long q4), .second, .val (.long W), .second, .val (.long S), .second, .val (.long R'), .second, .val (.long B), .second, .val (.ref b5), .val (.long (S + R')), .second, .unset, .unset] [(.int (lcmpW (S + R') (0 : Int64)))])) _
        refine XS.ifYes X7.here hx rfl (pc0 := 62) (pc' := 80) rfl (hb hby at_62) rfl ((if0 _ _).trans (tlt hc).1) (by decide) (by decide) ?_
        show Steps p.tables e below (T7.setTop (mkF m 80 #[.val (.long q1), .second, .val (.long q2), .second, .val (.long q3), .second, .val (.long q4), .second, .val (.long W), .second, .val (.long S), .second, .val (.long R'), .second, .val (.long B), .second, .val (.ref b5), .val (.long (S + R')), .second, .unset, .unset] [])) _
        refine X7.ldc2Long hx hown (mvT hZ (hw _ (List.mem_of_getElem? (i := 0) rfl))) (g := (mkF m 80 #[.val (.long q1), .second, .val (.long q2), .second, .val (.long q3), .second, .val (.long q4), .second, .val (.long W), .second, .val (.long S), .second, .val (.long R'), .second, .val (.long B), .second, .val (.ref b5), .val (.long (S + R')), .second, .unset, .unset] [])) rfl (hb hby at_80) _ ?_
        show Steps p.tables e below (T7.setTop (mkF m 83 #[.val (.long q1), .second, .val (.long q2), .second, .val (.long q3), .second, .val (.long q4), .second, .val (.long W), .second, .val (.long S), .second, .val (.long R'), .second, .val (.long B), .second, .val (.ref b5), .val (.long (S + R')), .second, .unset, .unset] [(.long (9223372036854775807 : Int64))])) _
        refine XS.lstore X7.here hx rfl (hb hby at_83) rfl (l' := #[.val (.long q1), .second, .val (.long q2), .second, .val (.long q3), .second, .val (.long q4), .second, .val (.long W), .second, .val (.long S), .second, .val (.long R'), .second, .val (.long B), .second, .val (.ref b5), .val (.long (S + R')), .second, .val (.long (9223372036854775807 : Int64)), .second]) rfl ?_
        show Steps p.tables e below (T7.setTop (mkF m 85 #[.val (.long q1), .second, .val (.long q2), .second, .val (.long q3), .second, .val (.long q4), .second, .val (.long W), .second, .val (.long S), .second, .val (.long R'), .second, .val (.long B), .second, .val (.ref b5), .val (.long (S + R')), .second, .val (.long (9223372036854775807 : Int64)), .second] [])) _
        exact kt
      exact ⟨_, own_neg h_W h_S h_R' hc, G9⟩
    · have G10 : ∀ t, Steps p.tables e below (T7.setTop (mkF m 70 #[.val (.long q1), .second, .val (.long q2), .second, .val (.long q3), .second, .val (.long q4), .second, .val (.long W), .second, .val (.long S), .second, .val (.long R'), .second, .val (.long B), .second, .val (.ref b5), .val (.long (S + R')), .second, .unset, .unset] [(.int (lcmpW (S + R') W))])) t → Steps p.tables e below (s₁.setTop (entryFrame m #[(.long q1), (.long q2), (.long q3), (.long q4)] maxLocals)) t := by
        intro t kt
        refine G8 t ?_
        show Steps p.tables e below (T7.setTop (mkF m 62 #[.val (.long q1), .second, .val (.long q2), .second, .val (.long q3), .second, .val (.long q4), .second, .val (.long W), .second, .val (.long S), .second, .val (.long R'), .second, .val (.long B), .second, .val (.ref b5), .val (.long (S + R')), .second, .unset, .unset] [(.int (lcmpW (S + R') (0 : Int64)))])) _
        refine XS.ifNo X7.here hx rfl (hb hby at_62) rfl ((if0 _ _).trans (flt hc).1) ?_
        show Steps p.tables e below (T7.setTop (mkF m 65 #[.val (.long q1), .second, .val (.long q2), .second, .val (.long q3), .second, .val (.long q4), .second, .val (.long W), .second, .val (.long S), .second, .val (.long R'), .second, .val (.long B), .second, .val (.ref b5), .val (.long (S + R')), .second, .unset, .unset] [])) _
        refine XS.lload X7.here hx rfl (hb hby at_65) rfl ?_
        show Steps p.tables e below (T7.setTop (mkF m 67 #[.val (.long q1), .second, .val (.long q2), .second, .val (.long q3), .second, .val (.long q4), .second, .val (.long W), .second, .val (.long S), .second, .val (.long R'), .second, .val (.long B), .second, .val (.ref b5), .val (.long (S + R')), .second, .unset, .unset] [(.long (S + R'))])) _
        refine XS.lload X7.here hx rfl (hb hby at_67) rfl ?_
        show Steps p.tables e below (T7.setTop (mkF m 69 #[.val (.long q1), .second, .val (.long q2), .second, .val (.long q3), .second, .val (.long q4), .second, .val (.long W), .second, .val (.long S), .second, .val (.long R'), .second, .val (.long B), .second, .val (.ref b5), .val (.long (S + R')), .second, .unset, .unset] [(.long W), (.long (S + R'))])) _
        refine XS.lcmp X7.here hx rfl (hb hby at_69) rfl ?_
        show Steps p.tables e below (T7.setTop (mkF m 70 #[.val (.long q1), .second, .val (.long q2), .second, .val (.long q3), .second, .val (.long q4), .second, .val (.long W), .second, .val (.long S), .second, .val (.long R'), .second, .val (.long B), .second, .val (.ref b5), .val (.long (S + R')), .second, .unset, .unset] [(.int (lcmpW (S + R') W))])) _
        exact kt
      by_cases hd : (lcmpW (S + R') W) < (0 : Int32)
      · have G11 : ∀ t, Steps p.tables e below (T7.setTop (mkF m 85 #[.val (.long q1), .second, .val (.long q2), .second, .val (.long q3), .second, .val (.long q4), .second, .val (.long W), .second, .val (.long S), .second, .val (.long R'), .second, .val (.long B), .second, .val (.ref b5), .val (.long (S + R')), .second, .val (.long (S + R')), .second] [])) t → Steps p.tables e below (s₁.setTop (entryFrame m #[(.long q1), (.long q2), (.long q3), (.long q4)] maxLocals)) t := by
          intro t kt
          refine G10 t ?_
          show Steps p.tables e below (T7.setTop (mkF m 70 #[.val (.long q1), .second, .val (.long q2), .second, .val (.long q3), .second, .val (.long q4), .second, .val (.long W), .second, .val (.long S), .second, .val (.long R'), .second, .val (.long B), .second, .val (.ref b5), .val (.long (S + R')), .second, .unset, .unset] [(.int (lcmpW (S + R') W))])) _
          refine XS.ifNo X7.here hx rfl (hb hby at_70) rfl ((if0 _ _).trans (tlt hd).2.1) ?_
          show Steps p.tables e below (T7.setTop (mkF m 73 #[.val (.long q1), .second, .val (.long q2), .second, .val (.long q3), .second, .val (.long q4), .second, .val (.long W), .second, .val (.long S), .second, .val (.long R'), .second, .val (.long B), .second, .val (.ref b5), .val (.long (S + R')), .second, .unset, .unset] [])) _
          refine XS.lload X7.here hx rfl (hb hby at_73) rfl ?_
          show Steps p.tables e below (T7.setTop (mkF m 75 #[.val (.long q1), .second, .val (.long q2), .second, .val (.long q3), .second, .val (.long q4), .second, .val (.long W), .second, .val (.long S), .second, .val (.long R'), .second, .val (.long B), .second, .val (.ref b5), .val (.long (S + R')), .second, .unset, .unset] [(.long (S + R'))])) _
          refine XS.lstore X7.here hx rfl (hb hby at_75) rfl (l' := #[.val (.long q1), .second, .val (.long q2), .second, .val (.long q3), .second, .val (.long q4), .second, .val (.long W), .second, .val (.long S), .second, .val (.long R'), .second, .val (.long B), .second, .val (.ref b5), .val (.long (S + R')), .second, .val (.long (S + R')), .second]) rfl ?_
          show Steps p.tables e below (T7.setTop (mkF m 77 #[.val (.long q1), .second, .val (.long q2), .second, .val (.long q3), .second, .val (.long q4), .second, .val (.long W), .second, .val (.long S), .second, .val (.long R'), .second, .val (.long B), .second, .val (.ref b5), .val (.long (S + R')), .second, .val (.long (S + R')), .second] [])) _
          refine XS.goto X7.here hx rfl (pc0 := 77) (pc' := 85) rfl (hb hby at_77) (by decide) (by decide) ?_
          show Steps p.tables e below (T7.setTop (mkF m 85 #[.val (.long q1), .second, .val (.long q2), .second, .val (.long q3), .second, .val (.long q4), .second, .val (.long W), .second, .val (.long S), .second, .val (.long R'), .second, .val (.long B), .second, .val (.ref b5), .val (.long (S + R')), .second, .val (.long (S + R')), .second] [])) _
          exact kt
        exact ⟨_, own_sum h_W h_S h_R' hc hd, G11⟩
      · have G12 : ∀ t, Steps p.tables e below (T7.setTop (mkF m 85 #[.val (.long q1), .second, .val (.long q2), .second, .val (.long q3), .second, .val (.long q4), .second, .val (.long W), .second, .val (.long S), .second, .val (.long R'), .second, .val (.long B), .second, .val (.ref b5), .val (.long (S + R')), .second, .val (.long (9223372036854775807 : Int64)), .second] [])) t → Steps p.tables e below (s₁.setTop (entryFrame m #[(.long q1), (.long q2), (.long q3), (.long q4)] maxLocals)) t := by
          intro t kt
          refine G10 t ?_
          show Steps p.tables e below (T7.setTop (mkF m 70 #[.val (.long q1), .second, .val (.long q2), .second, .val (.long q3), .second, .val (.long q4), .second, .val (.long W), .second, .val (.long S), .second, .val (.long R'), .second, .val (.long B), .second, .val (.ref b5), .val (.long (S + R')), .second, .unset, .unset] [(.int (lcmpW (S + R') W))])) _
          refine XS.ifYes X7.here hx rfl (pc0 := 70) (pc' := 80) rfl (hb hby at_70) rfl ((if0 _ _).trans (flt hd).2.1) (by decide) (by decide) ?_
          show Steps p.tables e below (T7.setTop (mkF m 80 #[.val (.long q1), .second, .val (.long q2), .second, .val (.long q3), .second, .val (.long q4), .second, .val (.long W), .second, .val (.long S), .second, .val (.long R'), .second, .val (.long B), .second, .val (.ref b5), .val (.long (S + R')), .second, .unset, .unset] [])) _
          refine X7.ldc2Long hx hown (mvT hZ (hw _ (List.mem_of_getElem? (i := 0) rfl))) (g := (mkF m 80 #[.val (.long q1), .second, .val (.long q2), .second, .val (.long q3), .second, .val (.long q4), .second, .val (.long W), .second, .val (.long S), .second, .val (.long R'), .second, .val (.long B), .second, .val (.ref b5), .val (.long (S + R')), .second, .unset, .unset] [])) rfl (hb hby at_80) _ ?_
          show Steps p.tables e below (T7.setTop (mkF m 83 #[.val (.long q1), .second, .val (.long q2), .second, .val (.long q3), .second, .val (.long q4), .second, .val (.long W), .second, .val (.long S), .second, .val (.long R'), .second, .val (.long B), .second, .val (.ref b5), .val (.long (S + R')), .second, .unset, .unset] [(.long (9223372036854775807 : Int64))])) _
          refine XS.lstore X7.here hx rfl (hb hby at_83) rfl (l' := #[.val (.long q1), .second, .val (.long q2), .second, .val (.long q3), .second, .val (.long q4), .second, .val (.long W), .second, .val (.long S), .second, .val (.long R'), .second, .val (.long B), .second, .val (.ref b5), .val (.long (S + R')), .second, .val (.long (9223372036854775807 : Int64)), .second]) rfl ?_
          show Steps p.tables e below (T7.setTop (mkF m 85 #[.val (.long q1), .second, .val (.long q2), .second, .val (.long q3), .second, .val (.long q4), .second, .val (.long W), .second, .val (.long S), .second, .val (.long R'), .second, .val (.long B), .second, .val (.ref b5), .val (.long (S + R')), .second, .val (.long (9223372036854775807 : Int64)), .second] [])) _
          exact kt
        exact ⟨_, own_big h_W h_S h_R' hc hd, G12⟩
  have G13 : ∀ t, Steps p.tables e below (T7.setTop (mkF m 87 #[.val (.long q1), .second, .val (.long q2), .second, .val (.long q3), .second, .val (.long q4), .second, .val (.long W), .second, .val (.long S), .second, .val (.long R'), .second, .val (.long B), .second, .val (.ref b5), .val (.long (S + R')), .second, .val (.long ex), .second] [(.ref b5)])) t → Steps p.tables e below (s₁.setTop (entryFrame m #[(.long q1), (.long q2), (.long q3), (.long q4)] maxLocals)) t := by
    intro t kt
    refine GJ t ?_
    show Steps p.tables e below (T7.setTop (mkF m 85 #[.val (.long q1), .second, .val (.long q2), .second, .val (.long q3), .second, .val (.long q4), .second, .val (.long W), .second, .val (.long S), .second, .val (.long R'), .second, .val (.long B), .second, .val (.ref b5), .val (.long (S + R')), .second, .val (.long ex), .second] [])) _
    refine XS.aload X7.here hx rfl (hb hby at_85) rfl rfl ?_
    show Steps p.tables e below (T7.setTop (mkF m 87 #[.val (.long q1), .second, .val (.long q2), .second, .val (.long q3), .second, .val (.long q4), .second, .val (.long W), .second, .val (.long S), .second, .val (.long R'), .second, .val (.long B), .second, .val (.ref b5), .val (.long (S + R')), .second, .val (.long ex), .second] [(.ref b5)])) _
    exact kt
  obtain ⟨cq14, kq14, q14a, q14b, q14c⟩ := isOf hZ rfl E_b5_7
  obtain ⟨_, _, ⟨T14, L14, k14, n14⟩, -, X14, ⟨Lc14, hQ14, l14, y14, z14⟩, st14⟩ := X7.virtualBack hx (y := (⟨"tracewarden/check/Limits", "longestRun", "()J"⟩ : MethodName)) (z := (⟨"tracewarden/check/Limits", "longestRun", "()J"⟩ : MethodName)) hown (mvT hZ (hw _ (List.mem_of_getElem? (i := 27) rfl))) (mvT hZ (hw _ (List.mem_of_getElem? (i := 28) rfl))) (notFace_of_selects (args := #[]) (mvT hZ (hw _ (List.mem_of_getElem? (i := 30) rfl)))) (mvT hZ (hw _ (List.mem_of_getElem? (i := 30) rfl))) (mvT hZ (hw _ (List.mem_of_getElem? (i := 29) rfl))) (by decide) (backOf (W := 0) (rm5 l Z a0 hw [] b5 W S R' T7.heap n0 Z7 Fq0_7 Fq1_7 Fq2_7) hZ (hw _ (List.mem_of_getElem? (i := 31) rfl)) (hw _ (List.mem_of_getElem? (i := 7) rfl)) (by decide) (by decide)) q14a q14c (g := (mkF m 87 #[.val (.long q1), .second, .val (.long q2), .second, .val (.long q3), .second, .val (.long q4), .second, .val (.long W), .second, .val (.long S), .second, .val (.long R'), .second, .val (.long B), .second, .val (.ref b5), .val (.long (S + R')), .second, .val (.long ex), .second] [(.ref b5)])) rfl (by rw [hml]; rfl) (Steps.refl _) (argsL := []) (rest := []) (lenOf pd_3 rfl) rfl (by show 2 * 0 + _ ≤ _; exact Nat.le_of_eq rfl) (hb hby at_87) (fun _ _ => ⟨rfl, rfl, (by decide : 1 + 0 ≤ _), (by decide : 4 + 0 ≤ _)⟩)
  dsimp only [Pt.U, Pt.locs, Pt.cells, Pt.slots] at X14 l14 y14 z14 st14 hQ14
  subst l14 y14 z14
  obtain ⟨rfl, N14q, e14⟩ := hQ14
  have N14 := Fr.app N7 N14q
  have G14 : ∀ t, Steps p.tables e below (T14.setTop (mkF m 90 #[.val (.long q1), .second, .val (.long q2), .second, .val (.long q3), .second, .val (.long q4), .second, .val (.long W), .second, .val (.long S), .second, .val (.long R'), .second, .val (.long B), .second, .val (.ref b5), .val (.long (S + R')), .second, .val (.long ex), .second] [(.long (own_run W S R'))])) t → Steps p.tables e below (s₁.setTop (entryFrame m #[(.long q1), (.long q2), (.long q3), (.long q4)] maxLocals)) t := fun t kt => G13 t (st14.trans kt)
  have G15 : ∀ t, Steps p.tables e below (T14.setTop (mkF m 101 #[.val (.long q1), .second, .val (.long q2), .second, .val (.long q3), .second, .val (.long q4), .second, .val (.long W), .second, .val (.long S), .second, .val (.long R'), .second, .val (.long B), .second, .val (.ref b5), .val (.long (S + R')), .second, .val (.long ex), .second] [(.int (1 : Int32))])) t → Steps p.tables e below (s₁.setTop (entryFrame m #[(.long q1), (.long q2), (.long q3), (.long q4)] maxLocals)) t := by
    intro t kt
    refine G14 t ?_
    show Steps p.tables e below (T14.setTop (mkF m 90 #[.val (.long q1), .second, .val (.long q2), .second, .val (.long q3), .second, .val (.long q4), .second, .val (.long W), .second, .val (.long S), .second, .val (.long R'), .second, .val (.long B), .second, .val (.ref b5), .val (.long (S + R')), .second, .val (.long ex), .second] [(.long (own_run W S R'))])) _
    refine XS.lload X14.here hx rfl (hb hby at_90) rfl ?_
    show Steps p.tables e below (T14.setTop (mkF m 92 #[.val (.long q1), .second, .val (.long q2), .second, .val (.long q3), .second, .val (.long q4), .second, .val (.long W), .second, .val (.long S), .second, .val (.long R'), .second, .val (.long B), .second, .val (.ref b5), .val (.long (S + R')), .second, .val (.long ex), .second] [(.long ex), (.long (own_run W S R'))])) _
    refine XS.lcmp X14.here hx rfl (hb hby at_92) rfl ?_
    show Steps p.tables e below (T14.setTop (mkF m 93 #[.val (.long q1), .second, .val (.long q2), .second, .val (.long q3), .second, .val (.long q4), .second, .val (.long W), .second, .val (.long S), .second, .val (.long R'), .second, .val (.long B), .second, .val (.ref b5), .val (.long (S + R')), .second, .val (.long ex), .second] [(.int (lcmpW (own_run W S R') ex))])) _
    refine XS.ifNo X14.here hx rfl (hb hby at_93) rfl ((if0 _ _).trans (teq ((lw_eq _ _).mpr hex)).2) ?_
    show Steps p.tables e below (T14.setTop (mkF m 96 #[.val (.long q1), .second, .val (.long q2), .second, .val (.long q3), .second, .val (.long q4), .second, .val (.long W), .second, .val (.long S), .second, .val (.long R'), .second, .val (.long B), .second, .val (.ref b5), .val (.long (S + R')), .second, .val (.long ex), .second] [])) _
    refine XS.iconst X14.here hx rfl (hb hby at_96) ?_
    show Steps p.tables e below (T14.setTop (mkF m 97 #[.val (.long q1), .second, .val (.long q2), .second, .val (.long q3), .second, .val (.long q4), .second, .val (.long W), .second, .val (.long S), .second, .val (.long R'), .second, .val (.long B), .second, .val (.ref b5), .val (.long (S + R')), .second, .val (.long ex), .second] [(.int (1 : Int32))])) _
    refine XS.goto X14.here hx rfl (pc0 := 97) (pc' := 101) rfl (hb hby at_97) (by decide) (by decide) ?_
    show Steps p.tables e below (T14.setTop (mkF m 101 #[.val (.long q1), .second, .val (.long q2), .second, .val (.long q3), .second, .val (.long q4), .second, .val (.long W), .second, .val (.long S), .second, .val (.long R'), .second, .val (.long B), .second, .val (.ref b5), .val (.long (S + R')), .second, .val (.long ex), .second] [(.int (1 : Int32))])) _
    exact kt
  obtain ⟨fs, hr, hrun, hended, hW, hsame⟩ := X14.leave (v := some (.int (1 : Int32))) (fun h => by rw [Bd.returns] at h; cases h)
  refine ⟨_, _, G15 _ ?_, hrun, hended, _, _, rfl, ?_, ⟨_, rfl⟩, hW, hsame.mono (by decide) (by decide)⟩
  · show Steps p.tables e below (T14.setTop (mkF m 101 #[.val (.long q1), .second, .val (.long q2), .second, .val (.long q3), .second, .val (.long q4), .second, .val (.long W), .second, .val (.long S), .second, .val (.long R'), .second, .val (.long B), .second, .val (.ref b5), .val (.long (S + R')), .second, .val (.long ex), .second] [(.int (1 : Int32))])) _
    exact retN X14 hx (t := .boolean) Bd.returns (by simp) (hb hby at_101) hr
  · show Q0 Z q1 q2 q3 q4 h0 n0 _ T14.heap _
    rw [e14]
    exact ⟨rfl, N14⟩
set_option maxRecDepth 65536 in
set_option maxHeartbeats 40000000 in
theorem comes_1 {Post : Tables → Env → Array Value → State → Outcome → State → Prop} (hpost : ∀ tb e args s v u, (limb_1_1.after args s (.returned v) u = true ∧ limb_1_2.after args s (.returned v) u = true ∧ True) → FrameEnd s (.returned v) u (Jvm.fieldLocs frame_1_writes args s ++ Jvm.arrayLocs frame_1_arrays args s ++ Jvm.staticLocs frame_1_statics s) 16 128 → Post tb e args s (.returned v) u) :
    ArmFor flags0 classFile x code maxLocals ret World_1 tables_1 room_1 Calls_1 rest_1 Pre_1 Post := by
  intro l hfl _ _ p e ha hc hk s m args below hf hA hF happ hP
  obtain ⟨hcalls, hrest, hpre⟩ := hP
  obtain ⟨-, -, -, hnamed, -, -, -, hat⟩ := (Spec.applies_iff hf).mp happ
  obtain ⟨hg, hn⟩ := and_e (Cond.before_iff.mp (show (Jvm.Cond.and given_1 narrow_1).before args s = true from hpre))
  obtain ⟨hcnt, r0⟩ := and_e hg
  obtain ⟨c0, r1⟩ := and_e r0
  obtain ⟨c1, r2⟩ := and_e r1
  obtain ⟨c2, r3⟩ := and_e r2
  obtain ⟨w0, w1, w2, w3, rfl⟩ : ∃ w0 w1 w2 w3 : Value, args = #[w0, w1, w2, w3] := by
    have hs : args.size = 4 := by simpa [Cond.value, given_1] using hcnt
    obtain ⟨L⟩ := args
    match L, hs with
    | [w0, w1, w2, w3], _ => exact ⟨w0, w1, w2, w3, rfl⟩
  have hw := fun d (hd : d ∈ tables_1) => atoms_spec (ws := Jvm.Cond.code x code maxLocals ret :: tables_1) hat d (List.mem_cons_of_mem _ hd)
  obtain ⟨i0, j0⟩ := isL_v c0
  obtain rfl : w0 = (.long i0) := Option.some.inj j0
  obtain ⟨i1, j1⟩ := isL_v c1
  obtain rfl : w1 = (.long i1) := Option.some.inj j1
  obtain ⟨i2, j2⟩ := isL_v c2
  obtain rfl : w2 = (.long i2) := Option.some.inj j2
  obtain ⟨i3, j3⟩ := isL_v r3
  obtain rfl : w3 = (.long i3) := Option.some.inj j3
  obtain ⟨n, o, h1, h2, h3, _, L, rfl, ⟨rfl, N⟩, hq⟩ := rm0 l s _ hw tables_1 i0 i1 i2 i3 s.heap s.heap.size (Nat.le_refl _) p e ha hc hk s m _ below hf ((Spec.applies_iff_loose hf).mp happ).1 ⟨rfl, State.Warmed39.refl s, rfl⟩ trivial
  refine ⟨n, _, h1, h2, h3, hpost _ _ _ _ _ _ ⟨Cond.after_iff.mpr rfl, Cond.after_iff.mpr (eq_i res_at (Term.int_eval (1)) rfl), trivial⟩ ⟨hq.1, hq.2.1, (hq.2.2.sift fun y hy => Or.inr (N y hy)).mono (by decide) (by decide)⟩⟩
theorem main_1_1 : Claimed_1_1 := comes_1 fun _ _ _ _ _ _ h hF => ⟨h.1, hF⟩
theorem main_1_2 : Claimed_1_2 := comes_1 fun _ _ _ _ _ _ h hF => ⟨h.2.1, hF⟩
end Jvm.Pilot.@@N@@
namespace Jvm.Pilot.@@N@@
open Jvm Jvm.ClassFile Sem Op Lib Jvm.Free Jvm.Stand Jvm.Pilot.@@N@@.Jvm.D
/-! MADE BY PROGRAM (witnessworld.py) out of the Statement's table words and the real class files: 9 classes; the members and pool entries that the words name. The judged class is class 1, her method 1. -/
namespace start1
open Jvm.ClassFile
def u (s : String) : CpInfo := .utf8 (stringToUtf16 s)
/-- a pool by its gaps: so many unusable entries, then the entry; so many at the end -/
def gap : Nat → List CpInfo → List CpInfo
  | 0, r => r
  | n + 1, r => .unusable :: gap n r
def poolList (es : List (Nat × CpInfo)) (last : Nat) : List CpInfo := es.foldr (fun e r => gap e.1 (e.2 :: r)) (gap last [])
def pool (es : List (Nat × CpInfo)) (last : Nat) : Array CpInfo := ⟨poolList es last⟩
def fileOf (pool : Array CpInfo) (this : Nat) (attrs : Array Attribute := #[]) (ms : Array MethodInfo := #[]) (fl : Nat := 33) (sup : Nat := 0) (ifs : Array Nat := #[]) (fds : Array FieldInfo := #[]) : ClassFile where
  minorVersion := 0
  majorVersion := 65
  constantPool := pool
  accessFlags := fl
  thisClass := this
  superClass := sup
  interfaces := ifs
  fields := fds
  methods := ms
  attributes := attrs
def plain (name : String) (sup : Option ClassId) : Class where
  name := name
  kind := .ordinary
  loader := none
  accessFlags := 33
  super := sup
  interfaces := #[]
  cf := none
  fields := #[]
  methods := #[]
  instanceTypes := #[]
  staticTypes := #[]
  resolved := #[]
  callSites := []
  init := .initialized
  statics := none
  mirror := none

def pool0 : Array CpInfo := pool [(5, u "<init>"), (0, u "()V"), (1, .class_ 10), (1, u "java/lang/Object")] 113

def k0c0 : Code := { maxStack := 0, maxLocals := 1, code := object_method_1_code, exceptionTable := #[], attributes := #[] }
def k0m0 : Method := { name := "<init>", desc := "()V", sig := { parameters := [], returnType := none }, accessFlags := 1, code := some k0c0 }
/-- java/lang/Object -/
def k0 : Class := { plain "java/lang/Object" none with
  accessFlags := 33
  interfaces := #[]
  cf := some (fileOf pool0 8 #[] #[{ accessFlags := 1, nameIndex := 5, descriptorIndex := 6, attributes := #[] }] 33 0 #[] #[])
  fields := #[]
  methods := #[k0m0]
  instanceTypes := #[]
  staticTypes := #[]
  resolved := Array.replicate 124 none
  statics := none }

def pool1 : Array CpInfo := pool [(2, .class_ 4), (1, u "java/lang/Object"), (0, u "<init>"), (0, u "()V"), (2, .long 9223372036854775807), (1, .methodref 12 13), (0, .class_ 14), (0, .nameAndType 15 16), (0, u "java/lang/Math"), (0, u "max"), (0, u "(JJ)J"), (0, .class_ 18), (0, u "tracewarden/check/Limits"), (0, .methodref 17 20), (0, .nameAndType 5 21), (0, u "(JJJJ)V"), (0, .methodref 17 23), (0, .nameAndType 24 25), (0, u "longestRun"), (0, u "()J"), (0, .class_ 27), (0, u "tracewarden/check/LimitsLongestRunPinLaw"), (2, u "law"), (0, u "(JJJJ)Z")] 3

def k1m0 : Method := { name := "<init>", desc := "()V", sig := { parameters := [], returnType := none }, accessFlags := 1, code := none }
def k1c1 : Code := { maxStack := 10, maxLocals := 21, code := code, exceptionTable := #[], attributes := #[] }
def k1m1 : Method := { name := "law", desc := "(JJJJ)Z", sig := { parameters := [.long, .long, .long, .long], returnType := some .boolean }, accessFlags := 9, code := some k1c1 }
/-- tracewarden/check/LimitsLongestRunPinLaw -/
def k1 : Class := { plain "tracewarden/check/LimitsLongestRunPinLaw" (some 0) with
  accessFlags := 49
  interfaces := #[]
  cf := some (fileOf pool1 26 #[] #[{ accessFlags := 1, nameIndex := 5, descriptorIndex := 6, attributes := #[] }, { accessFlags := 9, nameIndex := 30, descriptorIndex := 31, attributes := #[] }] 49 2 #[] #[])
  fields := #[]
  methods := #[k1m0, k1m1]
  instanceTypes := #[]
  staticTypes := #[]
  resolved := Array.replicate 35 none
  statics := none }

def pool2 : Array CpInfo := pool [(1, .class_ 2), (0, u "java/lang/Math"), (1, .class_ 6), (1, u "java/lang/Object"), (0, u "<init>"), (0, u "()V"), (89, .class_ 100), (1, u "java/lang/Math$RandomNumberGeneratorHolder"), (20, u "(JJ)J"), (50, u "negativeZeroFloatBits"), (0, u "J"), (2, u "negativeZeroDoubleBits"), (21, u "max"), (46, u "$assertionsDisabled"), (0, u "Z"), (91, u "twoToTheDoubleScaleDown"), (0, u "D"), (4, u "twoToTheDoubleScaleUp"), (9, u "E"), (3, u "PI"), (2, u "TAU"), (2, u "DEGREES_TO_RADIANS"), (0, u "RADIANS_TO_DEGREES")] 94

def k2m0 : Method := { name := "<init>", desc := "()V", sig := { parameters := [], returnType := none }, accessFlags := 2, code := none }
def k2c1 : Code := { maxStack := 4, maxLocals := 4, code := jdk_29_method_66_code, exceptionTable := #[], attributes := #[] }
def k2m1 : Method := { name := "max", desc := "(JJ)J", sig := { parameters := [.long, .long], returnType := some .long }, accessFlags := 9, code := some k2c1 }
/-- java/lang/Math -/
def k2 : Class := { plain "java/lang/Math" (some 0) with
  accessFlags := 49
  interfaces := #[]
  cf := some (fileOf pool2 1 #[.nestMembers #[98]] #[{ accessFlags := 2, nameIndex := 7, descriptorIndex := 8, attributes := #[] }, { accessFlags := 9, nameIndex := 198, descriptorIndex := 121, attributes := #[] }] 49 4 #[] #[{ accessFlags := 25, nameIndex := 354, descriptorIndex := 339, attributes := #[] }, { accessFlags := 25, nameIndex := 358, descriptorIndex := 339, attributes := #[] }, { accessFlags := 25, nameIndex := 361, descriptorIndex := 339, attributes := #[] }, { accessFlags := 26, nameIndex := 364, descriptorIndex := 339, attributes := #[] }, { accessFlags := 26, nameIndex := 365, descriptorIndex := 339, attributes := #[] }, { accessFlags := 26, nameIndex := 172, descriptorIndex := 173, attributes := #[] }, { accessFlags := 26, nameIndex := 176, descriptorIndex := 173, attributes := #[] }, { accessFlags := 8, nameIndex := 344, descriptorIndex := 339, attributes := #[] }, { accessFlags := 8, nameIndex := 338, descriptorIndex := 339, attributes := #[] }, { accessFlags := 4120, nameIndex := 245, descriptorIndex := 246, attributes := #[] }])
  fields := #[{ name := "E", type := .double, accessFlags := 25, slot := 0, constantValue := 0 }, { name := "PI", type := .double, accessFlags := 25, slot := 1, constantValue := 0 }, { name := "TAU", type := .double, accessFlags := 25, slot := 2, constantValue := 0 }, { name := "DEGREES_TO_RADIANS", type := .double, accessFlags := 26, slot := 3, constantValue := 0 }, { name := "RADIANS_TO_DEGREES", type := .double, accessFlags := 26, slot := 4, constantValue := 0 }, { name := "negativeZeroFloatBits", type := .long, accessFlags := 26, slot := 5, constantValue := 0 }, { name := "negativeZeroDoubleBits", type := .long, accessFlags := 26, slot := 6, constantValue := 0 }, { name := "twoToTheDoubleScaleUp", type := .double, accessFlags := 8, slot := 7, constantValue := 0 }, { name := "twoToTheDoubleScaleDown", type := .double, accessFlags := 8, slot := 8, constantValue := 0 }, { name := "$assertionsDisabled", type := .boolean, accessFlags := 4120, slot := 9, constantValue := 0 }]
  methods := #[k2m0, k2m1]
  instanceTypes := #[]
  staticTypes := #[.double, .double, .double, .double, .double, .long, .long, .double, .double, .boolean]
  resolved := Array.replicate 460 none
  statics := none }

def pool3 : Array CpInfo := pool [(1, .methodref 2 3), (0, .class_ 4), (0, .nameAndType 5 6), (0, u "java/lang/Object"), (0, u "<init>"), (0, u "()V"), (0, .class_ 8), (0, u "java/lang/Record")] 13

def k3c0 : Code := { maxStack := 1, maxLocals := 1, code := jdk_30_method_1_code, exceptionTable := #[], attributes := #[] }
def k3m0 : Method := { name := "<init>", desc := "()V", sig := { parameters := [], returnType := none }, accessFlags := 4, code := some k3c0 }
/-- java/lang/Record -/
def k3 : Class := { plain "java/lang/Record" (some 0) with
  accessFlags := 1057
  interfaces := #[]
  cf := some (fileOf pool3 7 #[] #[{ accessFlags := 4, nameIndex := 5, descriptorIndex := 6, attributes := #[] }] 1057 2 #[] #[])
  fields := #[]
  methods := #[k3m0]
  instanceTypes := #[]
  staticTypes := #[]
  resolved := Array.replicate 22 none
  statics := none }

def pool4 : Array CpInfo := pool [(3, .methodref 4 5), (0, .class_ 6), (0, .nameAndType 7 8), (0, u "java/lang/Record"), (0, u "<init>"), (0, u "()V"), (9, .fieldref 19 20), (0, .class_ 21), (0, .nameAndType 22 23), (0, u "tracewarden/check/Limits"), (0, u "window"), (0, u "J"), (0, .fieldref 19 25), (0, .nameAndType 26 23), (0, u "sent"), (0, .fieldref 19 28), (0, .nameAndType 29 23), (0, u "received"), (0, .fieldref 19 31), (0, .nameAndType 32 23), (0, u "goBack"), (0, .long 9223372036854775807), (17, u "(JJJJ)V"), (2, u "NONE"), (0, u "Ltracewarden/check/Limits;"), (0, u "UNLIMITED"), (1, u "DEFAULT_WINDOW"), (6, u "longestRun"), (0, u "()J")] 35

def k4c0 : Code := { maxStack := 10, maxLocals := 9, code := prog_29_method_1_code, exceptionTable := #[], attributes := #[] }
def k4m0 : Method := { name := "<init>", desc := "(JJJJ)V", sig := { parameters := [.long, .long, .long, .long], returnType := none }, accessFlags := 1, code := some k4c0 }
def k4c1 : Code := { maxStack := 6, maxLocals := 1, code := prog_29_method_3_code, exceptionTable := #[], attributes := #[] }
def k4m1 : Method := { name := "longestRun", desc := "()J", sig := { parameters := [], returnType := some .long }, accessFlags := 0, code := some k4c1 }
/-- tracewarden/check/Limits -/
def k4 : Class := { plain "tracewarden/check/Limits" (some 3) with
  accessFlags := 49
  interfaces := #[]
  cf := some (fileOf pool4 19 #[] #[{ accessFlags := 1, nameIndex := 7, descriptorIndex := 51, attributes := #[] }, { accessFlags := 0, nameIndex := 65, descriptorIndex := 66, attributes := #[] }] 49 4 #[] #[{ accessFlags := 18, nameIndex := 22, descriptorIndex := 23, attributes := #[] }, { accessFlags := 18, nameIndex := 26, descriptorIndex := 23, attributes := #[] }, { accessFlags := 18, nameIndex := 29, descriptorIndex := 23, attributes := #[] }, { accessFlags := 18, nameIndex := 32, descriptorIndex := 23, attributes := #[] }, { accessFlags := 25, nameIndex := 56, descriptorIndex := 23, attributes := #[] }, { accessFlags := 25, nameIndex := 58, descriptorIndex := 23, attributes := #[] }, { accessFlags := 25, nameIndex := 54, descriptorIndex := 55, attributes := #[] }])
  fields := #[{ name := "window", type := .long, accessFlags := 18, slot := 0, constantValue := 0 }, { name := "sent", type := .long, accessFlags := 18, slot := 1, constantValue := 0 }, { name := "received", type := .long, accessFlags := 18, slot := 2, constantValue := 0 }, { name := "goBack", type := .long, accessFlags := 18, slot := 3, constantValue := 0 }, { name := "UNLIMITED", type := .long, accessFlags := 25, slot := 0, constantValue := 0 }, { name := "DEFAULT_WINDOW", type := .long, accessFlags := 25, slot := 1, constantValue := 0 }, { name := "NONE", type := (.object "tracewarden/check/Limits"), accessFlags := 25, slot := 2, constantValue := 0 }]
  methods := #[k4m0, k4m1]
  instanceTypes := #[.long, .long, .long, .long]
  staticTypes := #[.long, .long, (.object "tracewarden/check/Limits")]
  resolved := Array.replicate 102 none
  statics := none }

def pool5 : Array CpInfo := pool [(1, u "java/lang/Cloneable"), (0, .class_ 1), (0, u "java/lang/Object"), (0, .class_ 3)] 3

/-- java/lang/Cloneable -/
def k5 : Class := { plain "java/lang/Cloneable" (some 0) with
  accessFlags := 1537
  interfaces := #[]
  cf := some (fileOf pool5 2 #[] #[] 1537 4 #[] #[])
  fields := #[]
  methods := #[]
  instanceTypes := #[]
  staticTypes := #[]
  resolved := Array.replicate 8 none
  statics := none }

def pool6 : Array CpInfo := pool [(1, u "java/io/Serializable"), (0, .class_ 1), (0, u "java/lang/Object"), (0, .class_ 3)] 3

/-- java/io/Serializable -/
def k6 : Class := { plain "java/io/Serializable" (some 0) with
  accessFlags := 1537
  interfaces := #[]
  cf := some (fileOf pool6 2 #[] #[] 1537 4 #[] #[])
  fields := #[]
  methods := #[]
  instanceTypes := #[]
  staticTypes := #[]
  resolved := Array.replicate 8 none
  statics := none }

/-- the primitive byte -/
def k7 : Class := { plain "byte" none with kind := .primitive 'B', accessFlags := 0x411 }
/-- [B -/
def k8 : Class := { plain "[B" (some 0) with kind := .array 7 .byte, interfaces := #[5, 6], accessFlags := 1041 }

def heap : Heap := #[]
def classes : Array Class := #[k0, k1, k2, k3, k4, k5, k6, k7, k8]
def interned : List (Array UInt16 × Addr) := []
def slotsUsed : Nat := 0
def theMethod : MethodId := ⟨1, 1⟩
def args0 : Array Value := #[.long 50, .long 6, .long 7, .long 8]
def aboutOver (below : List Frame) : State where
  vm := { classes := classes, interned := interned.toArray }
  heap := heap
  slotsUsed := slotsUsed
  threads := #[{ frames := .invoking theMethod args0 :: below }]
def below0 : List Frame := [.native { method := ⟨0, 0⟩, args := #[] }]
def about1 : State := aboutOver below0
def p0 : Program := .bare "" "" ""
def e0 : Env := launch0.env 0 0 0
theorem w_frames : about1.frames = Frame.invoking theMethod args0 :: below0 := rfl
set_option maxRecDepth 65536 in
theorem w_args : argsFit about1.vm theMethod args0 = true := by decide +kernel
set_option maxRecDepth 65536 in
theorem w_heap : heapFits about1 = true := by decide +kernel
set_option maxRecDepth 65536 in
theorem w_runnable : about1.curStatus? = some .runnable := by decide +kernel
set_option maxRecDepth 65536 in
theorem w_alone : about1.alone = true := by decide +kernel
set_option maxRecDepth 65536 in
theorem w_named : about1.methodNamed? x = some theMethod := by decide +kernel
set_option maxRecDepth 65536 in
theorem w_hears : about1.hears theMethod below0 = true := by decide +kernel
set_option maxRecDepth 65536 in
theorem w_ripe : about1.ripe theMethod args0 below0 = true := by decide +kernel
theorem w_running : about1.status = .running := rfl
set_option maxRecDepth 65536 in
theorem w_room : about1.hasRoom e0.platform room_1 = true :=
  launch0.hasRoom_least _ room_1 (by decide +kernel) (by decide +kernel) (by decide +kernel) (by decide +kernel) (by decide +kernel) (by decide +kernel)
theorem allAtoms_all (ts : List Jvm.Cond) (a : Array Jvm.Value) (st : Jvm.State) : (allAtoms ts).before a st = ts.all (fun c => c.before a st) := by
  induction ts with
  | nil => rfl
  | cons c t ih =>
    show (Jvm.Cond.and c (allAtoms t)).before a st = _
    rw [Jvm.Cond.before_and, ih, List.all_cons]
def words1 : List Jvm.Cond := Jvm.Cond.code x code maxLocals ret :: tables_1
/-- a 'code' word, met by the world's own term for the bytes: nothing is compared byte by byte -/
theorem code_word {y : MethodName} {bytes : ByteArray} {mx : Nat} {rt : Option FieldType} {a : Array Value} {s : State} {m : MethodId} {meth : Method} {c : Code} (h1 : s.methodNamed? y = some m) (h2 : s.vm.method? m = some meth) (h3 : meth.code = some c) (h4 : c.code = bytes)
    (h5 : (c.maxLocals == mx && c.exceptionTable.isEmpty && decide (c.maxStack ≤ mostOperands) && decide (meth.sig.returnType = rt) && !meth.locks && decide (parseMethodDescriptor y.desc = some meth.sig)) = true) : (Jvm.Cond.code y bytes mx rt).before a s = true := by
  simp only [Bool.and_eq_true, beq_iff_eq, Bool.not_eq_true', decide_eq_true_eq] at h5
  obtain ⟨⟨⟨⟨⟨g1, g2⟩, g3⟩, g4⟩, g5⟩, g6⟩ := h5
  simp [Cond.before, Cond.holds, Cond.value, h1, h2, h3, h4, g1, g2, g3, g4, g5, g6]
def isCode : Jvm.Cond → Bool
  | .code _ _ _ _ => true
  | _ => false
theorem all_split {L : List Jvm.Cond} {P : Jvm.Cond → Bool} (h1 : L.all (fun c => isCode c || P c) = true) (h2 : ∀ c ∈ L.filter isCode, P c = true) : L.all P = true := by
  refine List.all_eq_true.mpr fun c hc => ?_
  have h := List.all_eq_true.mp h1 c hc
  rcases Bool.eq_false_or_eq_true (isCode c) with hi | hi
  · exact h2 c (List.mem_filter.mpr ⟨hc, hi⟩)
  · simpa [hi] using h
set_option maxRecDepth 65536 in
theorem w_c0 : (Jvm.Cond.code x code maxLocals ret).before args0 about1 = true := code_word (m := ⟨1, 1⟩) (meth := k1m1) (c := k1c1) (by decide +kernel) rfl rfl rfl (by decide +kernel)
set_option maxRecDepth 65536 in
theorem w_c1 : (Jvm.Cond.code ({ cls := "java/lang/Math", name := "max", desc := "(JJ)J" } : Jvm.MethodName) jdk_29_method_66_code (4 : Nat) (Option.some Jvm.ClassFile.FieldType.long)).before args0 about1 = true := code_word (m := ⟨2, 1⟩) (meth := k2m1) (c := k2c1) (by decide +kernel) rfl rfl rfl (by decide +kernel)
set_option maxRecDepth 65536 in
theorem w_c2 : (Jvm.Cond.code ({ cls := "tracewarden/check/Limits", name := "<init>", desc := "(JJJJ)V" } : Jvm.MethodName) prog_29_method_1_code (9 : Nat) (Option.none : Option Jvm.ClassFile.FieldType)).before args0 about1 = true := code_word (m := ⟨4, 0⟩) (meth := k4m0) (c := k4c0) (by decide +kernel) rfl rfl rfl (by decide +kernel)
set_option maxRecDepth 65536 in
theorem w_c3 : (Jvm.Cond.code ({ cls := "java/lang/Record", name := "<init>", desc := "()V" } : Jvm.MethodName) jdk_30_method_1_code (1 : Nat) (Option.none : Option Jvm.ClassFile.FieldType)).before args0 about1 = true := code_word (m := ⟨3, 0⟩) (meth := k3m0) (c := k3c0) (by decide +kernel) rfl rfl rfl (by decide +kernel)
set_option maxRecDepth 65536 in
theorem w_c4 : (Jvm.Cond.code ({ cls := "java/lang/Object", name := "<init>", desc := "()V" } : Jvm.MethodName) object_method_1_code (1 : Nat) (Option.none : Option Jvm.ClassFile.FieldType)).before args0 about1 = true := code_word (m := ⟨0, 0⟩) (meth := k0m0) (c := k0c0) (by decide +kernel) rfl rfl rfl (by decide +kernel)
set_option maxRecDepth 65536 in
theorem w_c5 : (Jvm.Cond.code ({ cls := "tracewarden/check/Limits", name := "longestRun", desc := "()J" } : Jvm.MethodName) prog_29_method_3_code (1 : Nat) (Option.some Jvm.ClassFile.FieldType.long)).before args0 about1 = true := code_word (m := ⟨4, 1⟩) (meth := k4m1) (c := k4c1) (by decide +kernel) rfl rfl rfl (by decide +kernel)
def codes1 : List Jvm.Cond := [Jvm.Cond.code x code maxLocals ret, Jvm.Cond.code ({ cls := "java/lang/Math", name := "max", desc := "(JJ)J" } : Jvm.MethodName) jdk_29_method_66_code (4 : Nat) (Option.some Jvm.ClassFile.FieldType.long), Jvm.Cond.code ({ cls := "tracewarden/check/Limits", name := "<init>", desc := "(JJJJ)V" } : Jvm.MethodName) prog_29_method_1_code (9 : Nat) (Option.none : Option Jvm.ClassFile.FieldType), Jvm.Cond.code ({ cls := "java/lang/Record", name := "<init>", desc := "()V" } : Jvm.MethodName) jdk_30_method_1_code (1 : Nat) (Option.none : Option Jvm.ClassFile.FieldType), Jvm.Cond.code ({ cls := "java/lang/Object", name := "<init>", desc := "()V" } : Jvm.MethodName) object_method_1_code (1 : Nat) (Option.none : Option Jvm.ClassFile.FieldType), Jvm.Cond.code ({ cls := "tracewarden/check/Limits", name := "longestRun", desc := "()J" } : Jvm.MethodName) prog_29_method_3_code (1 : Nat) (Option.some Jvm.ClassFile.FieldType.long)]
set_option maxRecDepth 65536 in
theorem codes_eq : words1.filter isCode = codes1 := rfl
theorem w_codes : ∀ c ∈ words1.filter isCode, c.before args0 about1 = true := by
  rw [codes_eq]
  intro c hc
  simp only [codes1, List.mem_cons, List.not_mem_nil, or_false] at hc
  rcases hc with rfl | rfl | rfl | rfl | rfl | rfl
  · exact w_c0
  · exact w_c1
  · exact w_c2
  · exact w_c3
  · exact w_c4
  · exact w_c5
set_option maxRecDepth 65536 in
theorem w_t1 : (words1.take 24).all (fun c => isCode c || c.before args0 about1) = true := by decide +kernel
set_option maxRecDepth 65536 in
theorem w_t2 : (words1.drop 24).all (fun c => isCode c || c.before args0 about1) = true := by decide +kernel
theorem w_tables : (allAtoms (Jvm.Cond.code x code maxLocals ret :: tables_1)).before args0 about1 = true := by
  rw [allAtoms_all]
  show words1.all (fun c => c.before args0 about1) = true
  refine all_split ?_ w_codes
  rw [← List.take_append_drop 24 words1, List.all_append, w_t1, w_t2]
  rfl
set_option maxRecDepth 65536 in
theorem w_case : (Jvm.Cond.and given_1 narrow_1).before args0 about1 = true := by decide +kernel
theorem w_applies : (headSpec (Jvm.Cond.code x code maxLocals ret :: tables_1) room_1).applies x e0.platform about1 = true :=
  (Spec.applies_iff w_frames).mpr ⟨w_running, w_runnable, w_alone, w_named, w_hears, w_ripe, w_room, w_tables⟩
theorem atStart : AtStart classFile x code maxLocals ret World_1 tables_1 room_1 Calls_1 rest_1 Pre_1 launch0 p0 e0 about1 theMethod args0 below0 :=
  ⟨lists_1, trivial, launch0.admits_env _ _ _, launch0.least_env, fairChoices_fair.cas, fairChoices_fair.clock, w_frames, w_args, w_heap, w_applies, trivial, trivial, w_case⟩
end start1
theorem witness_1 : WitnessClaimed_1 := ⟨start1.p0, start1.e0, start1.about1, start1.theMethod, start1.args0, start1.below0, start1.atStart⟩
end Jvm.Pilot.@@N@@
