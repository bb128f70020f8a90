import JvmDerived
import JvmDerived.Pilot.@@N@@Statement
import JvmDerived.Pilot.@@N@@Code
set_option linter.unusedVariables false
set_option linter.unusedSimpArgs false
namespace Jvm.RoadKit
open Sem ClassFile Op Lib Jvm.Stand Jvm.Free Jvm.LawKit
section New
variable {p : Program} {l : Launch} {e : Env} {R : Room} {s : State} {m : MethodId} {args : Array Value} {below : List Frame} {meth : Method} {c : Code} {T : State} {locs : List Loc} {cells slots : Nat}
theorem retI (X : Stand p l e R s m args below meth c T locs cells slots) (hx : p.tables.exec = Jvm.exec) {pc : Nat} {Ls : Array Slot} {z : Int32} {rest : List Value} (hret : meth.sig.returnType = some .int) (hd : decode c.code pc = .ok (.ireturn, 1)) {fs : List Frame}
    (hl : ∀ (f : JFrame) (acts : List Action), f.method = m → f.locked = none → f.entered = [] → (doReturn e (T.setTop f) acts (some (.int z))).1 = T.setFrames fs) : Steps p.tables e below (T.setTop (mkF m pc Ls (.int z :: rest))) (T.setFrames fs) := by
  have hm' : T.vm.method? m = some meth := X.method'
  have hn : narrow .int (.int z) = .int z := rfl
  show Steps p.tables e below (T.setTop { method := m, pc := pc, locals := Ls, stack := _ :: rest, locked := none }) _
  jvm_step X.here [X.here.top, hx, hd, hm', hret, hn]
  first | (intro acts; rw [hl _ acts rfl rfl rfl]) | rw [hl _ _ rfl rfl rfl]
  exact Steps.refl _
end New
end Jvm.RoadKit
namespace Jvm.Pilot.@@N@@
open Jvm Jvm.ClassFile Sem Op Lib Jvm.Free Jvm.Stand Jvm.LawKit Jvm.RoadKit Bundle Jvm.Pilot.@@N@@.Jvm.D
theorem pn_0 : plainName "java/lang/Record" = true := by first | (simp [plainName, overriddenIn]; done) | decide +kernel
theorem pn_1 : plainName "com/example/uneasy_crown/uneasycrown/election/Timing" = true := by first | (simp [plainName, overriddenIn]; done) | decide +kernel
theorem pn_2 : plainName "com/example/uneasy_crown/uneasycrown/election/TimingLapsedPinLaw" = true := by first | (simp [plainName, overriddenIn]; done) | decide +kernel
theorem pd_0 : parseMethodDescriptor "()V" = some ⟨[], none⟩ := by decide +kernel
theorem pd_1 : parseMethodDescriptor "(JJ)V" = some ⟨[.long, .long], none⟩ := by decide +kernel
theorem pd_2 : parseMethodDescriptor "(JJ)Z" = some ⟨[.long, .long], some .boolean⟩ := by decide +kernel
theorem d1_0 : decode prog_56_method_1_code 0 = .ok (.aload_n 0, 1) := by decide +kernel
theorem d1_1 : decode prog_56_method_1_code 1 = .ok (.invokespecial 1, 3) := by decide +kernel
theorem d1_4 : decode prog_56_method_1_code 4 = .ok (.lload_n 1, 1) := by decide +kernel
theorem d1_5 : decode prog_56_method_1_code 5 = .ok (.lconst 1, 1) := by decide +kernel
theorem d1_6 : decode prog_56_method_1_code 6 = .ok (.lcmp, 1) := by decide +kernel
theorem d1_7 : decode prog_56_method_1_code 7 = .ok (.ifCond .lt 9, 3) := by decide +kernel
theorem d1_10 : decode prog_56_method_1_code 10 = .ok (.lload_n 3, 1) := by decide +kernel
theorem d1_11 : decode prog_56_method_1_code 11 = .ok (.lconst 1, 1) := by decide +kernel
theorem d1_12 : decode prog_56_method_1_code 12 = .ok (.lcmp, 1) := by decide +kernel
theorem d1_13 : decode prog_56_method_1_code 13 = .ok (.ifCond .ge 18, 3) := by decide +kernel
theorem d1_31 : decode prog_56_method_1_code 31 = .ok (.lload_n 3, 1) := by decide +kernel
theorem d1_32 : decode prog_56_method_1_code 32 = .ok (.lload_n 1, 1) := by decide +kernel
theorem d1_33 : decode prog_56_method_1_code 33 = .ok (.lcmp, 1) := by decide +kernel
theorem d1_34 : decode prog_56_method_1_code 34 = .ok (.ifCond .gt 18, 3) := by decide +kernel
theorem d1_52 : decode prog_56_method_1_code 52 = .ok (.aload_n 0, 1) := by decide +kernel
theorem d1_53 : decode prog_56_method_1_code 53 = .ok (.lload_n 1, 1) := by decide +kernel
theorem d1_54 : decode prog_56_method_1_code 54 = .ok (.putfield 17, 3) := by decide +kernel
theorem d1_57 : decode prog_56_method_1_code 57 = .ok (.aload_n 0, 1) := by decide +kernel
theorem d1_58 : decode prog_56_method_1_code 58 = .ok (.lload_n 3, 1) := by decide +kernel
theorem d1_59 : decode prog_56_method_1_code 59 = .ok (.putfield 23, 3) := by decide +kernel
theorem d1_62 : decode prog_56_method_1_code 62 = .ok (.return_, 1) := by decide +kernel
theorem d2_0 : decode jdk_30_method_1_code 0 = .ok (.aload_n 0, 1) := by decide +kernel
theorem d2_1 : decode jdk_30_method_1_code 1 = .ok (.invokespecial 1, 3) := by decide +kernel
theorem d2_4 : decode jdk_30_method_1_code 4 = .ok (.return_, 1) := by decide +kernel
theorem d4_0 : decode prog_56_method_2_code 0 = .ok (.lload_n 3, 1) := by decide +kernel
theorem d4_1 : decode prog_56_method_2_code 1 = .ok (.lload_n 1, 1) := by decide +kernel
theorem d4_2 : decode prog_56_method_2_code 2 = .ok (.lsub, 1) := by decide +kernel
theorem d4_3 : decode prog_56_method_2_code 3 = .ok (.aload_n 0, 1) := by decide +kernel
theorem d4_4 : decode prog_56_method_2_code 4 = .ok (.getfield 23, 3) := by decide +kernel
theorem d4_7 : decode prog_56_method_2_code 7 = .ok (.lcmp, 1) := by decide +kernel
theorem d4_8 : decode prog_56_method_2_code 8 = .ok (.ifCond .lt 7, 3) := by decide +kernel
theorem d4_11 : decode prog_56_method_2_code 11 = .ok (.iconst 1, 1) := by decide +kernel
theorem d4_12 : decode prog_56_method_2_code 12 = .ok (.goto 4, 3) := by decide +kernel
theorem d4_15 : decode prog_56_method_2_code 15 = .ok (.iconst 0, 1) := by decide +kernel
theorem d4_16 : decode prog_56_method_2_code 16 = .ok (.ireturn, 1) := by decide +kernel
theorem own_andL (x m : Int64) (h : 0 ≤ m.toInt) : 0 ≤ (x &&& m).toInt ∧ (x &&& m).toInt ≤ m.toInt := by
  have la := x.toBitVec.isLt; have lb := m.toBitVec.isLt
  have q : (x &&& m).toBitVec.toNat = x.toBitVec.toNat &&& m.toBitVec.toNat := by show (x.toBitVec &&& m.toBitVec).toNat = _; rw [BitVec.toNat_and]
  change 0 ≤ m.toBitVec.toInt at h
  show 0 ≤ (x &&& m).toBitVec.toInt ∧ (x &&& m).toBitVec.toInt ≤ m.toBitVec.toInt
  have o : x.toBitVec.toNat &&& m.toBitVec.toNat ≤ m.toBitVec.toNat := Nat.and_le_right
  rw [BitVec.toInt_eq_toNat_cond] at h
  simp only [BitVec.toInt_eq_toNat_cond, q]
  split at h <;> split <;> omega
def own_lap (a b w : Int64) : Int32 := if lcmpW (b - a) w < (0 : Int32) then 0 else 1
theorem own_diff (a d : Int64) : (a + d) - a = d := by
  apply Int64.toInt_inj.mp
  have := c_ladd a d
  have := c_lsub (a + d) a
  have := rng64 (a + d); have := rng64 ((a + d) - a); have := rng64 d; have := rng64 a
  omega
theorem own_l0 {a d w : Int64} (h : lcmpW d w < (0 : Int32)) : own_lap a (a + d) w = 0 := by unfold own_lap; rw [own_diff, if_pos h]
theorem own_l1 {a d w : Int64} (h : ¬ (lcmpW d w < (0 : Int32))) : own_lap a (a + d) w = 1 := by unfold own_lap; rw [own_diff, if_neg h]
theorem own_nz {a d w : Int64} (h : ¬ (lcmpW d w < (0 : Int32))) : ¬ (own_lap a (a + d) w = 0) := by rw [own_l1 h]; decide
theorem own_self (w : Int64) : ¬ (lcmpW w w < (0 : Int32)) := by rw [lw_lt]; exact Int64.lt_irrefl
theorem own_nums (p t : Int64) {P W : Int64} (hP : P = (1 : Int64) + (p &&& (4611686018427387903 : Int64))) (hW : W = (P + (1 : Int64)) + (t &&& (4611686018427387902 : Int64))) : 1 ≤ P.toInt ∧ P.toInt < W.toInt := by
  have m1 : (p &&& (4611686018427387903 : Int64)).toInt = p.toInt % (2 ^ 62 : Nat) := c_maskL p _ 62 (by decide) (by decide)
  have m2 : 0 ≤ (t &&& (4611686018427387902 : Int64)).toInt ∧ (t &&& (4611686018427387902 : Int64)).toInt ≤ 4611686018427387902 := own_andL t 4611686018427387902 (by decide)
  have e1 : (1 : Int64).toInt = 1 := rfl
  have a1 := c_ladd 1 (p &&& (4611686018427387903 : Int64))
  have a2 := c_ladd P 1
  have a3 := c_ladd (P + 1) (t &&& (4611686018427387902 : Int64))
  rw [← hP] at a1
  rw [← hW] at a3
  have := rng64 P; have := rng64 (P + 1); have := rng64 W
  omega
theorem own_less {W : Int64} (h : 1 < W.toInt) : lcmpW (W - (1 : Int64)) W < (0 : Int32) := by
  rw [lw_lt, Int64.lt_iff_toInt_lt]
  have := c_lsub W 1
  have e1 : (1 : Int64).toInt = 1 := rfl
  have := rng64 W; have := rng64 (W - 1)
  omega
theorem own_ge1 {P : Int64} (h : 1 ≤ P.toInt) : ¬ (lcmpW P (1 : Int64) < (0 : Int32)) := by
  rw [lw_lt, Int64.lt_iff_toInt_lt]
  have e1 : (1 : Int64).toInt = 1 := rfl
  omega
theorem own_gt {P W : Int64} (h : P.toInt < W.toInt) : (0 : Int32) < lcmpW W P := by rw [lw_gt, Int64.lt_iff_toInt_lt]; exact h
theorem ef_2 (m : MethodId) (a1 : Addr) : entryFrame m #[(.ref a1)] 1 = mkF m 0 #[.val (.ref a1)] [] := by first | (simp [entryFrame, mkF, argsToLocals, Value.category]; done) | rfl
def Q2 (Z : State) (a1 : Addr)  (h0 : Heap) (n0 : Nat) (v : Option Value) (h : Heap) (L : List Loc) : Prop := v = none ∧ Fr n0 L ∧ h = h0
set_option maxRecDepth 65536 in
set_option maxHeartbeats 40000000 in
theorem rm2 (l : Launch) (Z : State) (a0 : Array Value) (hw : ∀ d ∈ tables_1, d.before a0 Z = true) (ws : List Jvm.Cond) (a1 : Addr)  (h0 : Heap) (n0 : Nat) (Z0 : n0 ≤ h0.size) :
    MetFree l (⟨"java/lang/Record", "<init>", "()V"⟩ : MethodName) (head1 (Jvm.Cond.code (⟨"java/lang/Record", "<init>", "()V"⟩ : MethodName) jdk_30_method_1_code 1 none :: ws) ({ frames := 1, cells := 0, slots := 0, locals := 12 } : Room)) (fun a U => a = #[(.ref a1)] ∧ Z.Warmed39 U.vm ∧ U.heap = h0) (fun _ _ _ _ _ => True) (fun _ U o U' => ∃ v L, o = .returned v ∧ Q2 Z a1 h0 n0 v U'.heap L ∧ FrameEnd U o U' L ({ frames := 1, cells := 0, slots := 0, locals := 12 } : Room).cells ({ frames := 1, cells := 0, slots := 0, locals := 12 } : Room).slots) := by
  refine MetFree.of_bodySF (plainFor_of_name pn_0) hisR ?_
  intro p e s m args below meth c s₁ Bd hml0 hP hK
  obtain ⟨rfl, hZ, hh⟩ := hP
  have hx := Bd.exec
  have hby := Bd.bytes
  have hml : c.maxLocals = 1 := hml0
  have hown : s.vm.findClass "java/lang/Record" = some m.cls := findClass_of_methodNamed Bd.named
  have hnm := (name_of_methodNamed Bd.named Bd.method).1
  have X0 : Stand p l e ({ frames := 1, cells := 0, slots := 0, locals := 12 } : Room) s m #[(.ref a1)] below meth c s₁ [] 0 0 := Stand.of_body Bd
  have e0 : s₁.heap = h0 := by rw [← hh, Bd.state]; rfl
  have N0 := Fr.nil n0
  have pre0 : ∀ t, Steps p.tables e below (s₁.setTop (mkF m 0 #[.val (.ref a1)] [])) t → Steps p.tables e below (s₁.setTop (entryFrame m #[(.ref a1)] 1)) t := fun t k => castTop (ef_2 m a1) k
  have G1 : ∀ t, Steps p.tables e below (s₁.setTop (mkF m 1 #[.val (.ref a1)] [(.ref a1)])) t → Steps p.tables e below (s₁.setTop (entryFrame m #[(.ref a1)] 1)) t := by
    intro t kt
    refine pre0 t ?_
    show Steps p.tables e below (s₁.setTop (mkF m 0 #[.val (.ref a1)] [])) _
    refine XS.aloadN X0.here hx rfl (hb hby d2_0) rfl rfl ?_
    show Steps p.tables e below (s₁.setTop (mkF m 1 #[.val (.ref a1)] [(.ref a1)])) _
    exact kt
  obtain ⟨T2, X2, e2, st2⟩ := initO X0 hx hZ hown (hw _ (List.mem_of_getElem? (i := 13) rfl)) (hw _ (List.mem_of_getElem? (i := 14) rfl)) (hw _ (List.mem_of_getElem? (i := 15) rfl)) e0 (g := (mkF m 1 #[.val (.ref a1)] [(.ref a1)])) rfl (by rw [hml]; rfl) rfl (hb hby d2_1) (by decide) (W := 0) (by show 2 * 0 + _ ≤ _; exact Nat.le_of_eq rfl) (by decide)
  have G2 : ∀ t, Steps p.tables e below (T2.setTop (mkF m 4 #[.val (.ref a1)] [])) t → Steps p.tables e below (s₁.setTop (entryFrame m #[(.ref a1)] 1)) t := fun t kt => G1 t (st2 t kt)
  obtain ⟨fs, hr, hrun, hended, hW, hsame⟩ := X2.leave (v := none) (fun _ => rfl)
  refine ⟨_, _, G2 _ ?_, hrun, hended, _, _, rfl, ?_, ⟨_, rfl⟩, hW, hsame.mono (by decide) (by decide)⟩
  · show Steps p.tables e below (T2.setTop (mkF m 4 #[.val (.ref a1)] [])) _
    exact X2.returnOut hx Bd.returns (hb hby d2_4) hr
  · show Q2 Z a1 h0 n0 _ T2.heap _
    rw [e2]
    exact ⟨rfl, N0, rfl⟩
theorem ef_1 (m : MethodId) (a1 : Addr) (q2 : Int64) (q3 : Int64) : entryFrame m #[(.ref a1), (.long q2), (.long q3)] 5 = mkF m 0 #[.val (.ref a1), .val (.long q2), .second, .val (.long q3), .second] [] := by first | (simp [entryFrame, mkF, argsToLocals, Value.category]; done) | rfl
def Q1 (Z : State) (a1 : Addr) (q2 : Int64) (q3 : Int64)  (h0 : Heap) (n0 : Nat) (v : Option Value) (h : Heap) (L : List Loc) : Prop := v = none ∧ Fr n0 L ∧ Keep h0 h [a1] ∧ Exa Z h a1 "com/example/uneasy_crown/uneasycrown/election/Timing" ∧ Fld Z h a1 "com/example/uneasy_crown/uneasycrown/election/Timing" "periodMs" "J" (.long q2) ∧ Fld Z h a1 "com/example/uneasy_crown/uneasycrown/election/Timing" "timeoutMs" "J" (.long q3)
set_option maxRecDepth 65536 in
set_option maxHeartbeats 40000000 in
theorem rm1 (l : Launch) (Z : State) (a0 : Array Value) (hw : ∀ d ∈ tables_1, d.before a0 Z = true) (ws : List Jvm.Cond) (a1 : Addr) (q2 : Int64) (q3 : Int64)  (h0 : Heap) (n0 : Nat) (Z0 : n0 ≤ h0.size) (E_a1 : Exa Z h0 a1 "com/example/uneasy_crown/uneasycrown/election/Timing") (F_periodMs_a1 : Fld Z h0 a1 "com/example/uneasy_crown/uneasycrown/election/Timing" "periodMs" "J" (.long (0 : Int64))) (F_timeoutMs_a1 : Fld Z h0 a1 "com/example/uneasy_crown/uneasycrown/election/Timing" "timeoutMs" "J" (.long (0 : Int64))) (g_a1 : n0 ≤ a1) (hc7 : ¬ (lcmpW q2 (1 : Int64) < (0 : Int32))) (hc13 : ¬ (lcmpW q3 (1 : Int64) < (0 : Int32))) (hc34 : (0 : Int32) < lcmpW q3 q2) :
    MetFree l (⟨"com/example/uneasy_crown/uneasycrown/election/Timing", "<init>", "(JJ)V"⟩ : MethodName) (head1 (Jvm.Cond.code (⟨"com/example/uneasy_crown/uneasycrown/election/Timing", "<init>", "(JJ)V"⟩ : MethodName) prog_56_method_1_code 5 none :: ws) ({ frames := 2, cells := 0, slots := 0, locals := 24 } : Room)) (fun a U => a = #[(.ref a1), (.long q2), (.long q3)] ∧ Z.Warmed39 U.vm ∧ U.heap = h0) (fun _ _ _ _ _ => True) (fun _ U o U' => ∃ v L, o = .returned v ∧ Q1 Z a1 q2 q3 h0 n0 v U'.heap L ∧ FrameEnd U o U' L ({ frames := 2, cells := 0, slots := 0, locals := 24 } : Room).cells ({ frames := 2, cells := 0, slots := 0, locals := 24 } : Room).slots) := by
  refine MetFree.of_bodySF (plainFor_of_name pn_1) hisR ?_
  intro p e s m args below meth c s₁ Bd hml0 hP hK
  obtain ⟨rfl, hZ, hh⟩ := hP
  have hx := Bd.exec
  have hby := Bd.bytes
  have hml : c.maxLocals = 5 := hml0
  have hown : s.vm.findClass "com/example/uneasy_crown/uneasycrown/election/Timing" = some m.cls := findClass_of_methodNamed Bd.named
  have hnm := (name_of_methodNamed Bd.named Bd.method).1
  have X0 : Stand p l e ({ frames := 2, cells := 0, slots := 0, locals := 24 } : Room) s m #[(.ref a1), (.long q2), (.long q3)] below meth c s₁ [] 0 0 := Stand.of_body Bd
  have e0 : s₁.heap = h0 := by rw [← hh, Bd.state]; rfl
  have N0 := Fr.nil n0
  have pre0 : ∀ t, Steps p.tables e below (s₁.setTop (mkF m 0 #[.val (.ref a1), .val (.long q2), .second, .val (.long q3), .second] [])) t → Steps p.tables e below (s₁.setTop (entryFrame m #[(.ref a1), (.long q2), (.long q3)] 5)) t := fun t k => castTop (ef_1 m a1 q2 q3) k
  have G1 : ∀ t, Steps p.tables e below (s₁.setTop (mkF m 1 #[.val (.ref a1), .val (.long q2), .second, .val (.long q3), .second] [(.ref a1)])) t → Steps p.tables e below (s₁.setTop (entryFrame m #[(.ref a1), (.long q2), (.long q3)] 5)) t := by
    intro t kt
    refine pre0 t ?_
    show Steps p.tables e below (s₁.setTop (mkF m 0 #[.val (.ref a1), .val (.long q2), .second, .val (.long q3), .second] [])) _
    refine XS.aloadN X0.here hx rfl (hb hby d1_0) rfl rfl ?_
    show Steps p.tables e below (s₁.setTop (mkF m 1 #[.val (.ref a1), .val (.long q2), .second, .val (.long q3), .second] [(.ref a1)])) _
    exact kt
  obtain ⟨_, _, ⟨T2, L2, k2, n2⟩, -, X2, ⟨Lc2, hQ2, l2, y2, z2⟩, st2⟩ := X0.specialBack hx (y := (⟨"java/lang/Record", "<init>", "()V"⟩ : MethodName)) rfl hown (mvT hZ (hw _ (List.mem_of_getElem? (i := 8) rfl))) (mvT hZ (hw _ (List.mem_of_getElem? (i := 9) rfl))) (mvT hZ (hw _ (List.mem_of_getElem? (i := 12) rfl))) (by decide) (backOf (W := 0) (rm2 l Z a0 hw [] a1  h0 n0 Z0 ) hZ (hw _ (List.mem_of_getElem? (i := 12) rfl)) (hw _ (List.mem_of_getElem? (i := 11) rfl)) (by decide) (by decide)) (g := (mkF m 1 #[.val (.ref a1), .val (.long q2), .second, .val (.long q3), .second] [(.ref a1)])) rfl (by rw [hml]; rfl) (Steps.refl _) (a := a1) (argsL := []) (rest := []) (lenOf pd_0 rfl) rfl (by show 2 * 0 + _ ≤ _; exact Nat.le_of_eq rfl) (hb hby d1_1) (fun _ _ => ⟨rfl, e0, (by decide : 0 + 0 ≤ _), (by decide : 0 + 0 ≤ _)⟩)
  dsimp only [Pt.U, Pt.locs, Pt.cells, Pt.slots] at X2 l2 y2 z2 st2 hQ2
  subst l2 y2 z2
  obtain ⟨rfl, N2q, e2⟩ := hQ2
  have N2 := Fr.app N0 N2q
  have G2 : ∀ t, Steps p.tables e below (T2.setTop (mkF m 4 #[.val (.ref a1), .val (.long q2), .second, .val (.long q3), .second] [])) t → Steps p.tables e below (s₁.setTop (entryFrame m #[(.ref a1), (.long q2), (.long q3)] 5)) t := fun t kt => G1 t (st2.trans kt)
  have G3 : ∀ t, Steps p.tables e below (T2.setTop (mkF m 54 #[.val (.ref a1), .val (.long q2), .second, .val (.long q3), .second] [(.long q2), (.ref a1)])) t → Steps p.tables e below (s₁.setTop (entryFrame m #[(.ref a1), (.long q2), (.long q3)] 5)) t := by
    intro t kt
    refine G2 t ?_
    show Steps p.tables e below (T2.setTop (mkF m 4 #[.val (.ref a1), .val (.long q2), .second, .val (.long q3), .second] [])) _
    refine XS.lloadN X2.here hx rfl (hb hby d1_4) rfl ?_
    show Steps p.tables e below (T2.setTop (mkF m 5 #[.val (.ref a1), .val (.long q2), .second, .val (.long q3), .second] [(.long q2)])) _
    refine XS.lconst X2.here hx rfl (hb hby d1_5) ?_
    show Steps p.tables e below (T2.setTop (mkF m 6 #[.val (.ref a1), .val (.long q2), .second, .val (.long q3), .second] [(.long (1 : Int64)), (.long q2)])) _
    refine XS.lcmp X2.here hx rfl (hb hby d1_6) rfl ?_
    show Steps p.tables e below (T2.setTop (mkF m 7 #[.val (.ref a1), .val (.long q2), .second, .val (.long q3), .second] [(.int (lcmpW q2 (1 : Int64)))])) _
    refine XS.ifNo X2.here hx rfl (hb hby d1_7) rfl ((if0 _ _).trans (flt hc7).1) ?_
    show Steps p.tables e below (T2.setTop (mkF m 10 #[.val (.ref a1), .val (.long q2), .second, .val (.long q3), .second] [])) _
    refine XS.lloadN X2.here hx rfl (hb hby d1_10) rfl ?_
    show Steps p.tables e below (T2.setTop (mkF m 11 #[.val (.ref a1), .val (.long q2), .second, .val (.long q3), .second] [(.long q3)])) _
    refine XS.lconst X2.here hx rfl (hb hby d1_11) ?_
    show Steps p.tables e below (T2.setTop (mkF m 12 #[.val (.ref a1), .val (.long q2), .second, .val (.long q3), .second] [(.long (1 : Int64)), (.long q3)])) _
    refine XS.lcmp X2.here hx rfl (hb hby d1_12) rfl ?_
    show Steps p.tables e below (T2.setTop (mkF m 13 #[.val (.ref a1), .val (.long q2), .second, .val (.long q3), .second] [(.int (lcmpW q3 (1 : Int64)))])) _
    refine XS.ifYes X2.here hx rfl (pc0 := 13) (pc' := 31) rfl (hb hby d1_13) rfl ((if0 _ _).trans (flt hc13).2.1) (by decide) (by decide) ?_
    show Steps p.tables e below (T2.setTop (mkF m 31 #[.val (.ref a1), .val (.long q2), .second, .val (.long q3), .second] [])) _
    refine XS.lloadN X2.here hx rfl (hb hby d1_31) rfl ?_
    show Steps p.tables e below (T2.setTop (mkF m 32 #[.val (.ref a1), .val (.long q2), .second, .val (.long q3), .second] [(.long q3)])) _
    refine XS.lloadN X2.here hx rfl (hb hby d1_32) rfl ?_
    show Steps p.tables e below (T2.setTop (mkF m 33 #[.val (.ref a1), .val (.long q2), .second, .val (.long q3), .second] [(.long q2), (.long q3)])) _
    refine XS.lcmp X2.here hx rfl (hb hby d1_33) rfl ?_
    show Steps p.tables e below (T2.setTop (mkF m 34 #[.val (.ref a1), .val (.long q2), .second, .val (.long q3), .second] [(.int (lcmpW q3 q2))])) _
    refine XS.ifYes X2.here hx rfl (pc0 := 34) (pc' := 52) rfl (hb hby d1_34) rfl ((if0 _ _).trans (tlt hc34).2.2.1) (by decide) (by decide) ?_
    show Steps p.tables e below (T2.setTop (mkF m 52 #[.val (.ref a1), .val (.long q2), .second, .val (.long q3), .second] [])) _
    refine XS.aloadN X2.here hx rfl (hb hby d1_52) rfl rfl ?_
    show Steps p.tables e below (T2.setTop (mkF m 53 #[.val (.ref a1), .val (.long q2), .second, .val (.long q3), .second] [(.ref a1)])) _
    refine XS.lloadN X2.here hx rfl (hb hby d1_53) rfl ?_
    show Steps p.tables e below (T2.setTop (mkF m 54 #[.val (.ref a1), .val (.long q2), .second, .val (.long q3), .second] [(.long q2), (.ref a1)])) _
    exact kt
  obtain ⟨T4, h4, X4, e4, W4, st4⟩ := putF X2 hx hZ hown (host := "") (Or.inl (hw _ (List.mem_of_getElem? (i := 16) rfl))) Via.refl e2 F_periodMs_a1 E_a1 (Or.inr ⟨(hw _ (List.mem_of_getElem? (i := 17) rfl)), rfl, hnm⟩) (hw _ (List.mem_of_getElem? (i := 3) rfl)) (ty := .long) (by decide) rfl rfl (g := (mkF m 54 #[.val (.ref a1), .val (.long q2), .second, .val (.long q3), .second] [(.long q2), (.ref a1)])) rfl rfl (hb hby d1_54)
  have F_periodMs_a1_4 : Fld Z h4 a1 "com/example/uneasy_crown/uneasycrown/election/Timing" "periodMs" "J" (.long q2) := F_periodMs_a1.same W4
  have E_a1_4 : Exa Z h4 a1 "com/example/uneasy_crown/uneasycrown/election/Timing" := E_a1.wr W4
  have F_timeoutMs_a1_4 : Fld Z h4 a1 "com/example/uneasy_crown/uneasycrown/election/Timing" "timeoutMs" "J" (.long (0 : Int64)) := F_timeoutMs_a1.other W4 (Or.inr (slot_ne (Or.inr (hw _ (List.mem_of_getElem? (i := 19) rfl))) (Or.inr (hw _ (List.mem_of_getElem? (i := 17) rfl))) (by decide) (t := .long) (t' := .long) (by decide) (by decide)))
  have Z4 : n0 ≤ h4.size := Nat.le_trans Z0 (Keep.of_wr W4).1
  have KK4 : Keep h0 h4 [a1] := (Keep.refl h0 [a1]).wr W4 (Or.inl (List.mem_of_getElem? (i := 0) rfl))
  have N4 := Fr.snoc X4 N2 g_a1
  have G4 : ∀ t, Steps p.tables e below (T4.setTop (mkF m 57 #[.val (.ref a1), .val (.long q2), .second, .val (.long q3), .second] [])) t → Steps p.tables e below (s₁.setTop (entryFrame m #[(.ref a1), (.long q2), (.long q3)] 5)) t := fun t kt => G3 t (st4 t kt)
  have G5 : ∀ t, Steps p.tables e below (T4.setTop (mkF m 59 #[.val (.ref a1), .val (.long q2), .second, .val (.long q3), .second] [(.long q3), (.ref a1)])) t → Steps p.tables e below (s₁.setTop (entryFrame m #[(.ref a1), (.long q2), (.long q3)] 5)) t := by
    intro t kt
    refine G4 t ?_
    show Steps p.tables e below (T4.setTop (mkF m 57 #[.val (.ref a1), .val (.long q2), .second, .val (.long q3), .second] [])) _
    refine XS.aloadN X4.here hx rfl (hb hby d1_57) rfl rfl ?_
    show Steps p.tables e below (T4.setTop (mkF m 58 #[.val (.ref a1), .val (.long q2), .second, .val (.long q3), .second] [(.ref a1)])) _
    refine XS.lloadN X4.here hx rfl (hb hby d1_58) rfl ?_
    show Steps p.tables e below (T4.setTop (mkF m 59 #[.val (.ref a1), .val (.long q2), .second, .val (.long q3), .second] [(.long q3), (.ref a1)])) _
    exact kt
  obtain ⟨T6, h6, X6, e6, W6, st6⟩ := putF X4 hx hZ hown (host := "") (Or.inl (hw _ (List.mem_of_getElem? (i := 18) rfl))) Via.refl e4 F_timeoutMs_a1_4 E_a1_4 (Or.inr ⟨(hw _ (List.mem_of_getElem? (i := 19) rfl)), rfl, hnm⟩) (hw _ (List.mem_of_getElem? (i := 3) rfl)) (ty := .long) (by decide) rfl rfl (g := (mkF m 59 #[.val (.ref a1), .val (.long q2), .second, .val (.long q3), .second] [(.long q3), (.ref a1)])) rfl rfl (hb hby d1_59)
  have F_timeoutMs_a1_6 : Fld Z h6 a1 "com/example/uneasy_crown/uneasycrown/election/Timing" "timeoutMs" "J" (.long q3) := F_timeoutMs_a1_4.same W6
  have E_a1_6 : Exa Z h6 a1 "com/example/uneasy_crown/uneasycrown/election/Timing" := E_a1_4.wr W6
  have F_periodMs_a1_6 : Fld Z h6 a1 "com/example/uneasy_crown/uneasycrown/election/Timing" "periodMs" "J" (.long q2) := F_periodMs_a1_4.other W6 (Or.inr (slot_ne (Or.inr (hw _ (List.mem_of_getElem? (i := 17) rfl))) (Or.inr (hw _ (List.mem_of_getElem? (i := 19) rfl))) (by decide) (t := .long) (t' := .long) (by decide) (by decide)))
  have Z6 : n0 ≤ h6.size := Nat.le_trans Z4 (Keep.of_wr W6).1
  have KK6 : Keep h0 h6 [a1] := KK4.wr W6 (Or.inl (List.mem_of_getElem? (i := 0) rfl))
  have N6 := Fr.snoc X6 N4 g_a1
  have G6 : ∀ t, Steps p.tables e below (T6.setTop (mkF m 62 #[.val (.ref a1), .val (.long q2), .second, .val (.long q3), .second] [])) t → Steps p.tables e below (s₁.setTop (entryFrame m #[(.ref a1), (.long q2), (.long q3)] 5)) t := fun t kt => G5 t (st6 t kt)
  obtain ⟨fs, hr, hrun, hended, hW, hsame⟩ := X6.leave (v := none) (fun _ => rfl)
  refine ⟨_, _, G6 _ ?_, hrun, hended, _, _, rfl, ?_, ⟨_, rfl⟩, hW, hsame.mono (by decide) (by decide)⟩
  · show Steps p.tables e below (T6.setTop (mkF m 62 #[.val (.ref a1), .val (.long q2), .second, .val (.long q3), .second] [])) _
    exact X6.returnOut hx Bd.returns (hb hby d1_62) hr
  · show Q1 Z a1 q2 q3 h0 n0 _ T6.heap _
    rw [e6]
    exact ⟨rfl, N6, KK6, E_a1_6, F_periodMs_a1_6, F_timeoutMs_a1_6⟩
theorem ef_4 (m : MethodId) (a1 : Addr) (q2 : Int64) (q3 : Int64) : entryFrame m #[(.ref a1), (.long q2), (.long q3)] 5 = mkF m 0 #[.val (.ref a1), .val (.long q2), .second, .val (.long q3), .second] [] := by first | (simp [entryFrame, mkF, argsToLocals, Value.category]; done) | rfl
def Q4 (Z : State) (a1 : Addr) (q2 : Int64) (q3 : Int64) (w : Int64) (h0 : Heap) (n0 : Nat) (v : Option Value) (h : Heap) (L : List Loc) : Prop := v = some (.int (own_lap q2 q3 w)) ∧ Fr n0 L ∧ h = h0
set_option maxRecDepth 65536 in
set_option maxHeartbeats 40000000 in
theorem rm4 (l : Launch) (Z : State) (a0 : Array Value) (hw : ∀ d ∈ tables_1, d.before a0 Z = true) (ws : List Jvm.Cond) (a1 : Addr) (q2 : Int64) (q3 : Int64) (w : Int64) (h0 : Heap) (n0 : Nat) (Z0 : n0 ≤ h0.size) (F_t : Fld Z h0 a1 "com/example/uneasy_crown/uneasycrown/election/Timing" "timeoutMs" "J" (.long w)) :
    MetFree l (⟨"com/example/uneasy_crown/uneasycrown/election/Timing", "lapsed", "(JJ)Z"⟩ : MethodName) (head1 (Jvm.Cond.code (⟨"com/example/uneasy_crown/uneasycrown/election/Timing", "lapsed", "(JJ)Z"⟩ : MethodName) prog_56_method_2_code 5 (some .boolean) :: ws) ({ frames := 0, cells := 0, slots := 0, locals := 0 } : Room)) (fun a U => a = #[(.ref a1), (.long q2), (.long q3)] ∧ Z.Warmed39 U.vm ∧ U.heap = h0) (fun _ _ _ _ _ => True) (fun _ U o U' => ∃ v L, o = .returned v ∧ Q4 Z a1 q2 q3 w h0 n0 v U'.heap L ∧ FrameEnd U o U' L ({ frames := 0, cells := 0, slots := 0, locals := 0 } : Room).cells ({ frames := 0, cells := 0, slots := 0, locals := 0 } : Room).slots) := by
  refine MetFree.of_bodySF (plainFor_of_name pn_1) hisR ?_
  intro p e s m args below meth c s₁ Bd hml0 hP hK
  obtain ⟨rfl, hZ, hh⟩ := hP
  have hx := Bd.exec
  have hby := Bd.bytes
  have hml : c.maxLocals = 5 := hml0
  have hown : s.vm.findClass "com/example/uneasy_crown/uneasycrown/election/Timing" = some m.cls := findClass_of_methodNamed Bd.named
  have hnm := (name_of_methodNamed Bd.named Bd.method).1
  have X0 : Stand p l e ({ frames := 0, cells := 0, slots := 0, locals := 0 } : Room) s m #[(.ref a1), (.long q2), (.long q3)] below meth c s₁ [] 0 0 := Stand.of_body Bd
  have e0 : s₁.heap = h0 := by rw [← hh, Bd.state]; rfl
  have N0 := Fr.nil n0
  have pre0 : ∀ t, Steps p.tables e below (s₁.setTop (mkF m 0 #[.val (.ref a1), .val (.long q2), .second, .val (.long q3), .second] [])) t → Steps p.tables e below (s₁.setTop (entryFrame m #[(.ref a1), (.long q2), (.long q3)] 5)) t := fun t k => castTop (ef_4 m a1 q2 q3) k
  have G1 : ∀ t, Steps p.tables e below (s₁.setTop (mkF m 4 #[.val (.ref a1), .val (.long q2), .second, .val (.long q3), .second] [(.ref a1), (.long (q3 - q2))])) t → Steps p.tables e below (s₁.setTop (entryFrame m #[(.ref a1), (.long q2), (.long q3)] 5)) t := by
    intro t kt
    refine pre0 t ?_
    show Steps p.tables e below (s₁.setTop (mkF m 0 #[.val (.ref a1), .val (.long q2), .second, .val (.long q3), .second] [])) _
    refine XS.lloadN X0.here hx rfl (hb hby d4_0) rfl ?_
    show Steps p.tables e below (s₁.setTop (mkF m 1 #[.val (.ref a1), .val (.long q2), .second, .val (.long q3), .second] [(.long q3)])) _
    refine XS.lloadN X0.here hx rfl (hb hby d4_1) rfl ?_
    show Steps p.tables e below (s₁.setTop (mkF m 2 #[.val (.ref a1), .val (.long q2), .second, .val (.long q3), .second] [(.long q2), (.long q3)])) _
    refine XS.lsub X0.here hx rfl (hb hby d4_2) rfl ?_
    show Steps p.tables e below (s₁.setTop (mkF m 3 #[.val (.ref a1), .val (.long q2), .second, .val (.long q3), .second] [(.long (q3 - q2))])) _
    refine XS.aloadN X0.here hx rfl (hb hby d4_3) rfl rfl ?_
    show Steps p.tables e below (s₁.setTop (mkF m 4 #[.val (.ref a1), .val (.long q2), .second, .val (.long q3), .second] [(.ref a1), (.long (q3 - q2))])) _
    exact kt
  obtain ⟨T2, X2, e2, st2⟩ := getF X0 hx hZ hown (host := "") (Or.inl (hw _ (List.mem_of_getElem? (i := 18) rfl))) Via.refl e0 F_t (g := (mkF m 4 #[.val (.ref a1), .val (.long q2), .second, .val (.long q3), .second] [(.ref a1), (.long (q3 - q2))])) rfl rfl (hb hby d4_4)
  have G2 : ∀ t, Steps p.tables e below (T2.setTop (mkF m 7 #[.val (.ref a1), .val (.long q2), .second, .val (.long q3), .second] [(.long w), (.long (q3 - q2))])) t → Steps p.tables e below (s₁.setTop (entryFrame m #[(.ref a1), (.long q2), (.long q3)] 5)) t := fun t kt => G1 t (st2 t kt)
  have G3 : ∀ t, Steps p.tables e below (T2.setTop (mkF m 8 #[.val (.ref a1), .val (.long q2), .second, .val (.long q3), .second] [(.int (lcmpW (q3 - q2) w))])) t → Steps p.tables e below (s₁.setTop (entryFrame m #[(.ref a1), (.long q2), (.long q3)] 5)) t := by
    intro t kt
    refine G2 t ?_
    show Steps p.tables e below (T2.setTop (mkF m 7 #[.val (.ref a1), .val (.long q2), .second, .val (.long q3), .second] [(.long w), (.long (q3 - q2))])) _
    refine XS.lcmp X2.here hx rfl (hb hby d4_7) rfl ?_
    show Steps p.tables e below (T2.setTop (mkF m 8 #[.val (.ref a1), .val (.long q2), .second, .val (.long q3), .second] [(.int (lcmpW (q3 - q2) w))])) _
    exact kt
  by_cases hc : (lcmpW (q3 - q2) w) < (0 : Int32)
  · have G4 : ∀ t, Steps p.tables e below (T2.setTop (mkF m 16 #[.val (.ref a1), .val (.long q2), .second, .val (.long q3), .second] [(.int (0 : Int32))])) t → Steps p.tables e below (s₁.setTop (entryFrame m #[(.ref a1), (.long q2), (.long q3)] 5)) t := by
      intro t kt
      refine G3 t ?_
      show Steps p.tables e below (T2.setTop (mkF m 8 #[.val (.ref a1), .val (.long q2), .second, .val (.long q3), .second] [(.int (lcmpW (q3 - q2) w))])) _
      refine XS.ifYes X2.here hx rfl (pc0 := 8) (pc' := 15) rfl (hb hby d4_8) rfl ((if0 _ _).trans (tlt hc).1) (by decide) (by decide) ?_
      show Steps p.tables e below (T2.setTop (mkF m 15 #[.val (.ref a1), .val (.long q2), .second, .val (.long q3), .second] [])) _
      refine XS.iconst X2.here hx rfl (hb hby d4_15) ?_
      show Steps p.tables e below (T2.setTop (mkF m 16 #[.val (.ref a1), .val (.long q2), .second, .val (.long q3), .second] [(.int (0 : Int32))])) _
      exact kt
    obtain ⟨fs, hr, hrun, hended, hW, hsame⟩ := X2.leave (v := some (.int (0 : Int32))) (fun h => by rw [Bd.returns] at h; cases h)
    refine ⟨_, _, G4 _ ?_, hrun, hended, _, _, rfl, ?_, ⟨_, rfl⟩, hW, hsame.mono (by decide) (by decide)⟩
    · show Steps p.tables e below (T2.setTop (mkF m 16 #[.val (.ref a1), .val (.long q2), .second, .val (.long q3), .second] [(.int (0 : Int32))])) _
      exact retN X2 hx (t := .boolean) Bd.returns (by simp) (hb hby d4_16) hr
    · show Q4 Z a1 q2 q3 w h0 n0 _ T2.heap _
      rw [e2]
      exact ⟨congrArg (fun z => some (Value.int z)) (show (0 : Int32) = own_lap q2 q3 w from (if_pos hc).symm), N0, rfl⟩
  · have G5 : ∀ t, Steps p.tables e below (T2.setTop (mkF m 16 #[.val (.ref a1), .val (.long q2), .second, .val (.long q3), .second] [(.int (1 : Int32))])) t → Steps p.tables e below (s₁.setTop (entryFrame m #[(.ref a1), (.long q2), (.long q3)] 5)) t := by
      intro t kt
      refine G3 t ?_
      show Steps p.tables e below (T2.setTop (mkF m 8 #[.val (.ref a1), .val (.long q2), .second, .val (.long q3), .second] [(.int (lcmpW (q3 - q2) w))])) _
      refine XS.ifNo X2.here hx rfl (hb hby d4_8) rfl ((if0 _ _).trans (flt hc).1) ?_
      show Steps p.tables e below (T2.setTop (mkF m 11 #[.val (.ref a1), .val (.long q2), .second, .val (.long q3), .second] [])) _
      refine XS.iconst X2.here hx rfl (hb hby d4_11) ?_
      show Steps p.tables e below (T2.setTop (mkF m 12 #[.val (.ref a1), .val (.long q2), .second, .val (.long q3), .second] [(.int (1 : Int32))])) _
      refine XS.goto X2.here hx rfl (pc0 := 12) (pc' := 16) rfl (hb hby d4_12) (by decide) (by decide) ?_
      show Steps p.tables e below (T2.setTop (mkF m 16 #[.val (.ref a1), .val (.long q2), .second, .val (.long q3), .second] [(.int (1 : Int32))])) _
      exact kt
    obtain ⟨fs, hr, hrun, hended, hW, hsame⟩ := X2.leave (v := some (.int (1 : Int32))) (fun h => by rw [Bd.returns] at h; cases h)
    refine ⟨_, _, G5 _ ?_, hrun, hended, _, _, rfl, ?_, ⟨_, rfl⟩, hW, hsame.mono (by decide) (by decide)⟩
    · show Steps p.tables e below (T2.setTop (mkF m 16 #[.val (.ref a1), .val (.long q2), .second, .val (.long q3), .second] [(.int (1 : Int32))])) _
      exact retN X2 hx (t := .boolean) Bd.returns (by simp) (hb hby d4_16) hr
    · show Q4 Z a1 q2 q3 w h0 n0 _ T2.heap _
      rw [e2]
      exact ⟨congrArg (fun z => some (Value.int z)) (show (1 : Int32) = own_lap q2 q3 w from (if_neg hc).symm), N0, rfl⟩
theorem ef_0 (m : MethodId) (q1 : Int64) (q2 : Int64) (q3 : Int64) (q4 : Int64) : entryFrame m #[(.long q1), (.long q2), (.long q3), (.long q4)] maxLocals = mkF m 0 #[.val (.long q1), .second, .val (.long q2), .second, .val (.long q3), .second, .val (.long q4), .second, .unset, .unset, .unset, .unset, .unset, .unset, .unset, .unset] [] := by first | (simp [entryFrame, mkF, argsToLocals, Value.category, maxLocals]; done) | rfl
def Q0 (Z : State) (q1 : Int64) (q2 : Int64) (q3 : Int64) (q4 : Int64)  (h0 : Heap) (n0 : Nat) (v : Option Value) (h : Heap) (L : List Loc) : Prop := v = some (.int (1 : Int32)) ∧ Fr n0 L
set_option maxRecDepth 65536 in
set_option maxHeartbeats 40000000 in
theorem rm0 (l : Launch) (Z : State) (a0 : Array Value) (hw : ∀ d ∈ tables_1, d.before a0 Z = true) (ws : List Jvm.Cond) (q1 : Int64) (q2 : Int64) (q3 : Int64) (q4 : Int64)  (h0 : Heap) (n0 : Nat) (Z0 : n0 ≤ h0.size) :
    MetFree l x (head1 (Jvm.Cond.code x code maxLocals ret :: ws) room_1) (fun a U => a = #[(.long q1), (.long q2), (.long q3), (.long q4)] ∧ Z.Warmed39 U.vm ∧ U.heap = h0) (fun _ _ _ _ _ => True) (fun _ U o U' => ∃ v L, o = .returned v ∧ Q0 Z q1 q2 q3 q4 h0 n0 v U'.heap L ∧ FrameEnd U o U' L room_1.cells room_1.slots) := by
  refine MetFree.of_bodySF (plainFor_of_name pn_2) hisR ?_
  intro p e s m args below meth c s₁ Bd hml0 hP hK
  obtain ⟨rfl, hZ, hh⟩ := hP
  have hx := Bd.exec
  have hby := Bd.bytes
  have hml : c.maxLocals = 16 := hml0
  have hown : s.vm.findClass "com/example/uneasy_crown/uneasycrown/election/TimingLapsedPinLaw" = some m.cls := findClass_of_methodNamed Bd.named
  have hnm := (name_of_methodNamed Bd.named Bd.method).1
  have X0 : Stand p l e room_1 s m #[(.long q1), (.long q2), (.long q3), (.long q4)] below meth c s₁ [] 0 0 := Stand.of_body Bd
  have e0 : s₁.heap = h0 := by rw [← hh, Bd.state]; rfl
  have N0 := Fr.nil n0
  have pre0 : ∀ t, Steps p.tables e below (s₁.setTop (mkF m 0 #[.val (.long q1), .second, .val (.long q2), .second, .val (.long q3), .second, .val (.long q4), .second, .unset, .unset, .unset, .unset, .unset, .unset, .unset, .unset] [])) t → Steps p.tables e below (s₁.setTop (entryFrame m #[(.long q1), (.long q2), (.long q3), (.long q4)] maxLocals)) t := fun t k => castTop (ef_0 m q1 q2 q3 q4) k
  have G1 : ∀ t, Steps p.tables e below (s₁.setTop (mkF m 9 #[.val (.long q1), .second, .val (.long q2), .second, .val (.long q3), .second, .val (.long q4), .second, .val (.long ((1 : Int64) + (q1 &&& (4611686018427387903 : Int64)))), .second, .unset, .unset, .unset, .unset, .unset, .unset] [])) t → Steps p.tables e below (s₁.setTop (entryFrame m #[(.long q1), (.long q2), (.long q3), (.long q4)] maxLocals)) t := by
    intro t kt
    refine pre0 t ?_
    show Steps p.tables e below (s₁.setTop (mkF m 0 #[.val (.long q1), .second, .val (.long q2), .second, .val (.long q3), .second, .val (.long q4), .second, .unset, .unset, .unset, .unset, .unset, .unset, .unset, .unset] [])) _
    refine XS.lconst X0.here hx rfl (hb hby at_0) ?_
    show Steps p.tables e below (s₁.setTop (mkF m 1 #[.val (.long q1), .second, .val (.long q2), .second, .val (.long q3), .second, .val (.long q4), .second, .unset, .unset, .unset, .unset, .unset, .unset, .unset, .unset] [(.long (1 : Int64))])) _
    refine XS.lloadN X0.here hx rfl (hb hby at_1) rfl ?_
    show Steps p.tables e below (s₁.setTop (mkF m 2 #[.val (.long q1), .second, .val (.long q2), .second, .val (.long q3), .second, .val (.long q4), .second, .unset, .unset, .unset, .unset, .unset, .unset, .unset, .unset] [(.long q1), (.long (1 : Int64))])) _
    refine X0.ldc2Long hx hown (mvT hZ (hw _ (List.mem_of_getElem? (i := 0) rfl))) (g := (mkF m 2 #[.val (.long q1), .second, .val (.long q2), .second, .val (.long q3), .second, .val (.long q4), .second, .unset, .unset, .unset, .unset, .unset, .unset, .unset, .unset] [(.long q1), (.long (1 : Int64))])) rfl (hb hby at_2) _ ?_
    show Steps p.tables e below (s₁.setTop (mkF m 5 #[.val (.long q1), .second, .val (.long q2), .second, .val (.long q3), .second, .val (.long q4), .second, .unset, .unset, .unset, .unset, .unset, .unset, .unset, .unset] [(.long (4611686018427387903 : Int64)), (.long q1), (.long (1 : Int64))])) _
    refine XS.land X0.here hx rfl (hb hby at_5) rfl ?_
    show Steps p.tables e below (s₁.setTop (mkF m 6 #[.val (.long q1), .second, .val (.long q2), .second, .val (.long q3), .second, .val (.long q4), .second, .unset, .unset, .unset, .unset, .unset, .unset, .unset, .unset] [(.long (q1 &&& (4611686018427387903 : Int64))), (.long (1 : Int64))])) _
    refine XS.ladd X0.here hx rfl (hb hby at_6) rfl ?_
    show Steps p.tables e below (s₁.setTop (mkF m 7 #[.val (.long q1), .second, .val (.long q2), .second, .val (.long q3), .second, .val (.long q4), .second, .unset, .unset, .unset, .unset, .unset, .unset, .unset, .unset] [(.long ((1 : Int64) + (q1 &&& (4611686018427387903 : Int64))))])) _
    refine XS.lstore X0.here hx rfl (hb hby at_7) rfl (l' := #[.val (.long q1), .second, .val (.long q2), .second, .val (.long q3), .second, .val (.long q4), .second, .val (.long ((1 : Int64) + (q1 &&& (4611686018427387903 : Int64)))), .second, .unset, .unset, .unset, .unset, .unset, .unset]) rfl ?_
    show Steps p.tables e below (s₁.setTop (mkF m 9 #[.val (.long q1), .second, .val (.long q2), .second, .val (.long q3), .second, .val (.long q4), .second, .val (.long ((1 : Int64) + (q1 &&& (4611686018427387903 : Int64)))), .second, .unset, .unset, .unset, .unset, .unset, .unset] [])) _
    exact kt
  obtain ⟨P, hP⟩ : ∃ z : Int64, z = (1 : Int64) + (q1 &&& (4611686018427387903 : Int64)) := ⟨_, rfl⟩
  have G2 : ∀ t, Steps p.tables e below (s₁.setTop (mkF m 9 #[.val (.long q1), .second, .val (.long q2), .second, .val (.long q3), .second, .val (.long q4), .second, .val (.long P), .second, .unset, .unset, .unset, .unset, .unset, .unset] [])) t → Steps p.tables e below (s₁.setTop (entryFrame m #[(.long q1), (.long q2), (.long q3), (.long q4)] maxLocals)) t := by
    intro t kt
    refine G1 t ?_
    subst hP
    exact kt
  have G3 : ∀ t, Steps p.tables e below (s₁.setTop (mkF m 21 #[.val (.long q1), .second, .val (.long q2), .second, .val (.long q3), .second, .val (.long q4), .second, .val (.long P), .second, .val (.long ((P + (1 : Int64)) + (q2 &&& (4611686018427387902 : Int64)))), .second, .unset, .unset, .unset, .unset] [])) t → Steps p.tables e below (s₁.setTop (entryFrame m #[(.long q1), (.long q2), (.long q3), (.long q4)] maxLocals)) t := by
    intro t kt
    refine G2 t ?_
    show Steps p.tables e below (s₁.setTop (mkF m 9 #[.val (.long q1), .second, .val (.long q2), .second, .val (.long q3), .second, .val (.long q4), .second, .val (.long P), .second, .unset, .unset, .unset, .unset, .unset, .unset] [])) _
    refine XS.lload X0.here hx rfl (hb hby at_9) rfl ?_
    show Steps p.tables e below (s₁.setTop (mkF m 11 #[.val (.long q1), .second, .val (.long q2), .second, .val (.long q3), .second, .val (.long q4), .second, .val (.long P), .second, .unset, .unset, .unset, .unset, .unset, .unset] [(.long P)])) _
    refine XS.lconst X0.here hx rfl (hb hby at_11) ?_
    show Steps p.tables e below (s₁.setTop (mkF m 12 #[.val (.long q1), .second, .val (.long q2), .second, .val (.long q3), .second, .val (.long q4), .second, .val (.long P), .second, .unset, .unset, .unset, .unset, .unset, .unset] [(.long (1 : Int64)), (.long P)])) _
    refine XS.ladd X0.here hx rfl (hb hby at_12) rfl ?_
    show Steps p.tables e below (s₁.setTop (mkF m 13 #[.val (.long q1), .second, .val (.long q2), .second, .val (.long q3), .second, .val (.long q4), .second, .val (.long P), .second, .unset, .unset, .unset, .unset, .unset, .unset] [(.long (P + (1 : Int64)))])) _
    refine XS.lloadN X0.here hx rfl (hb hby at_13) rfl ?_
    show Steps p.tables e below (s₁.setTop (mkF m 14 #[.val (.long q1), .second, .val (.long q2), .second, .val (.long q3), .second, .val (.long q4), .second, .val (.long P), .second, .unset, .unset, .unset, .unset, .unset, .unset] [(.long q2), (.long (P + (1 : Int64)))])) _
    refine X0.ldc2Long hx hown (mvT hZ (hw _ (List.mem_of_getElem? (i := 1) rfl))) (g := (mkF m 14 #[.val (.long q1), .second, .val (.long q2), .second, .val (.long q3), .second, .val (.long q4), .second, .val (.long P), .second, .unset, .unset, .unset, .unset, .unset, .unset] [(.long q2), (.long (P + (1 : Int64)))])) rfl (hb hby at_14) _ ?_
    show Steps p.tables e below (s₁.setTop (mkF m 17 #[.val (.long q1), .second, .val (.long q2), .second, .val (.long q3), .second, .val (.long q4), .second, .val (.long P), .second, .unset, .unset, .unset, .unset, .unset, .unset] [(.long (4611686018427387902 : Int64)), (.long q2), (.long (P + (1 : Int64)))])) _
    refine XS.land X0.here hx rfl (hb hby at_17) rfl ?_
    show Steps p.tables e below (s₁.setTop (mkF m 18 #[.val (.long q1), .second, .val (.long q2), .second, .val (.long q3), .second, .val (.long q4), .second, .val (.long P), .second, .unset, .unset, .unset, .unset, .unset, .unset] [(.long (q2 &&& (4611686018427387902 : Int64))), (.long (P + (1 : Int64)))])) _
    refine XS.ladd X0.here hx rfl (hb hby at_18) rfl ?_
    show Steps p.tables e below (s₁.setTop (mkF m 19 #[.val (.long q1), .second, .val (.long q2), .second, .val (.long q3), .second, .val (.long q4), .second, .val (.long P), .second, .unset, .unset, .unset, .unset, .unset, .unset] [(.long ((P + (1 : Int64)) + (q2 &&& (4611686018427387902 : Int64))))])) _
    refine XS.lstore X0.here hx rfl (hb hby at_19) rfl (l' := #[.val (.long q1), .second, .val (.long q2), .second, .val (.long q3), .second, .val (.long q4), .second, .val (.long P), .second, .val (.long ((P + (1 : Int64)) + (q2 &&& (4611686018427387902 : Int64)))), .second, .unset, .unset, .unset, .unset]) rfl ?_
    show Steps p.tables e below (s₁.setTop (mkF m 21 #[.val (.long q1), .second, .val (.long q2), .second, .val (.long q3), .second, .val (.long q4), .second, .val (.long P), .second, .val (.long ((P + (1 : Int64)) + (q2 &&& (4611686018427387902 : Int64)))), .second, .unset, .unset, .unset, .unset] [])) _
    exact kt
  obtain ⟨W, hW'⟩ : ∃ z : Int64, z = (P + (1 : Int64)) + (q2 &&& (4611686018427387902 : Int64)) := ⟨_, rfl⟩
  have G4 : ∀ t, Steps p.tables e below (s₁.setTop (mkF m 21 #[.val (.long q1), .second, .val (.long q2), .second, .val (.long q3), .second, .val (.long q4), .second, .val (.long P), .second, .val (.long W), .second, .unset, .unset, .unset, .unset] [])) t → Steps p.tables e below (s₁.setTop (entryFrame m #[(.long q1), (.long q2), (.long q3), (.long q4)] maxLocals)) t := by
    intro t kt
    refine G3 t ?_
    subst hW'
    exact kt
  obtain ⟨hP1, hPW⟩ := own_nums q1 q2 hP hW'
  obtain ⟨T5, h5, X5, e5, E5, A5, D5, -, st5⟩ := newO X0 hx hZ hown (hw _ (List.mem_of_getElem? (i := 2) rfl)) (hw _ (List.mem_of_getElem? (i := 3) rfl)) (hw _ (List.mem_of_getElem? (i := 4) rfl)) e0 (g := (mkF m 21 #[.val (.long q1), .second, .val (.long q2), .second, .val (.long q3), .second, .val (.long q4), .second, .val (.long P), .second, .val (.long W), .second, .unset, .unset, .unset, .unset] [])) rfl (hb hby at_21) (by decide) (by decide)
  obtain ⟨b5, g5⟩ : ∃ z, z = h0.size := ⟨_, rfl⟩
  rw [← g5] at A5 D5 st5
  have g_b5 : n0 ≤ b5 := Nat.le_trans Z0 (Nat.le_of_eq g5.symm)
  have Z5 : n0 ≤ h5.size := Nat.le_trans Z0 E5.1
  have E_b5 : Exa Z h5 b5 "com/example/uneasy_crown/uneasycrown/election/Timing" := A5
  have F_periodMs_b5 : Fld Z h5 b5 "com/example/uneasy_crown/uneasycrown/election/Timing" "periodMs" "J" (.long (0 : Int64)) := D5 (Or.inr (hw _ (List.mem_of_getElem? (i := 17) rfl))) (ty := .long) (by decide)
  have F_timeoutMs_b5 : Fld Z h5 b5 "com/example/uneasy_crown/uneasycrown/election/Timing" "timeoutMs" "J" (.long (0 : Int64)) := D5 (Or.inr (hw _ (List.mem_of_getElem? (i := 19) rfl))) (ty := .long) (by decide)
  have G5 : ∀ t, Steps p.tables e below (T5.setTop (mkF m 24 #[.val (.long q1), .second, .val (.long q2), .second, .val (.long q3), .second, .val (.long q4), .second, .val (.long P), .second, .val (.long W), .second, .unset, .unset, .unset, .unset] [(.ref b5)])) t → Steps p.tables e below (s₁.setTop (entryFrame m #[(.long q1), (.long q2), (.long q3), (.long q4)] maxLocals)) t := fun t kt => G4 t (st5 t kt)
  have G6 : ∀ t, Steps p.tables e below (T5.setTop (mkF m 29 #[.val (.long q1), .second, .val (.long q2), .second, .val (.long q3), .second, .val (.long q4), .second, .val (.long P), .second, .val (.long W), .second, .unset, .unset, .unset, .unset] [(.long W), (.long P), (.ref b5), (.ref b5)])) t → Steps p.tables e below (s₁.setTop (entryFrame m #[(.long q1), (.long q2), (.long q3), (.long q4)] maxLocals)) t := by
    intro t kt
    refine G5 t ?_
    show Steps p.tables e below (T5.setTop (mkF m 24 #[.val (.long q1), .second, .val (.long q2), .second, .val (.long q3), .second, .val (.long q4), .second, .val (.long P), .second, .val (.long W), .second, .unset, .unset, .unset, .unset] [(.ref b5)])) _
    refine XS.dup X5.here hx rfl (hb hby at_24) rfl rfl ?_
    show Steps p.tables e below (T5.setTop (mkF m 25 #[.val (.long q1), .second, .val (.long q2), .second, .val (.long q3), .second, .val (.long q4), .second, .val (.long P), .second, .val (.long W), .second, .unset, .unset, .unset, .unset] [(.ref b5), (.ref b5)])) _
    refine XS.lload X5.here hx rfl (hb hby at_25) rfl ?_
    show Steps p.tables e below (T5.setTop (mkF m 27 #[.val (.long q1), .second, .val (.long q2), .second, .val (.long q3), .second, .val (.long q4), .second, .val (.long P), .second, .val (.long W), .second, .unset, .unset, .unset, .unset] [(.long P), (.ref b5), (.ref b5)])) _
    refine XS.lload X5.here hx rfl (hb hby at_27) rfl ?_
    show Steps p.tables e below (T5.setTop (mkF m 29 #[.val (.long q1), .second, .val (.long q2), .second, .val (.long q3), .second, .val (.long q4), .second, .val (.long P), .second, .val (.long W), .second, .unset, .unset, .unset, .unset] [(.long W), (.long P), (.ref b5), (.ref b5)])) _
    exact kt
  obtain ⟨_, _, ⟨T7, L7, k7, n7⟩, -, X7, ⟨Lc7, hQ7, l7, y7, z7⟩, st7⟩ := X5.specialBack hx (y := (⟨"com/example/uneasy_crown/uneasycrown/election/Timing", "<init>", "(JJ)V"⟩ : MethodName)) rfl hown (mvT hZ (hw _ (List.mem_of_getElem? (i := 5) rfl))) (mvT hZ (hw _ (List.mem_of_getElem? (i := 6) rfl))) (mvT hZ (hw _ (List.mem_of_getElem? (i := 7) rfl))) (by decide) (backOf (W := 1) (rm1 l Z a0 hw [] b5 P W  h5 n0 Z5 E_b5 F_periodMs_b5 F_timeoutMs_b5 g_b5 (own_ge1 hP1) (own_ge1 (by omega)) (own_gt hPW)) hZ (hw _ (List.mem_of_getElem? (i := 7) rfl)) (hw _ (List.mem_of_getElem? (i := 4) rfl)) (by decide) (by decide)) (g := (mkF m 29 #[.val (.long q1), .second, .val (.long q2), .second, .val (.long q3), .second, .val (.long q4), .second, .val (.long P), .second, .val (.long W), .second, .unset, .unset, .unset, .unset] [(.long W), (.long P), (.ref b5), (.ref b5)])) rfl (by rw [hml]; rfl) (Steps.refl _) (a := b5) (argsL := [(.long P), (.long W)]) (rest := [(.ref b5)]) (lenOf pd_1 rfl) rfl (by show 2 * 0 + _ ≤ _; exact Nat.le_of_eq rfl) (hb hby at_29) (fun _ _ => ⟨rfl, e5, (by decide : 1 + 0 ≤ _), (by decide : 2 + 0 ≤ _)⟩)
  dsimp only [Pt.U, Pt.locs, Pt.cells, Pt.slots] at X7 l7 y7 z7 st7 hQ7
  subst l7 y7 z7
  obtain ⟨rfl, N7q, K7, Eq7, Fq0_7, Fq1_7⟩ := hQ7
  have N7 := Fr.app N0 N7q
  have E_b5_7 : Exa Z T7.heap b5 "com/example/uneasy_crown/uneasycrown/election/Timing" := E_b5.keep K7
  have Z7 : n0 ≤ T7.heap.size := Nat.le_trans Z5 K7.1
  have G7 : ∀ t, Steps p.tables e below (T7.setTop (mkF m 32 #[.val (.long q1), .second, .val (.long q2), .second, .val (.long q3), .second, .val (.long q4), .second, .val (.long P), .second, .val (.long W), .second, .unset, .unset, .unset, .unset] [(.ref b5)])) t → Steps p.tables e below (s₁.setTop (entryFrame m #[(.long q1), (.long q2), (.long q3), (.long q4)] maxLocals)) t := fun t kt => G6 t (st7.trans kt)
  have G8 : ∀ t, Steps p.tables e below (T7.setTop (mkF m 43 #[.val (.long q1), .second, .val (.long q2), .second, .val (.long q3), .second, .val (.long q4), .second, .val (.long P), .second, .val (.long W), .second, .val (.ref b5), .unset, .unset, .unset] [(.long (q3 + q4)), (.long q3), (.ref b5)])) t → Steps p.tables e below (s₁.setTop (entryFrame m #[(.long q1), (.long q2), (.long q3), (.long q4)] maxLocals)) t := by
    intro t kt
    refine G7 t ?_
    show Steps p.tables e below (T7.setTop (mkF m 32 #[.val (.long q1), .second, .val (.long q2), .second, .val (.long q3), .second, .val (.long q4), .second, .val (.long P), .second, .val (.long W), .second, .unset, .unset, .unset, .unset] [(.ref b5)])) _
    refine XS.astore X7.here hx rfl (hb hby at_32) rfl rfl (l' := #[.val (.long q1), .second, .val (.long q2), .second, .val (.long q3), .second, .val (.long q4), .second, .val (.long P), .second, .val (.long W), .second, .val (.ref b5), .unset, .unset, .unset]) rfl ?_
    show Steps p.tables e below (T7.setTop (mkF m 34 #[.val (.long q1), .second, .val (.long q2), .second, .val (.long q3), .second, .val (.long q4), .second, .val (.long P), .second, .val (.long W), .second, .val (.ref b5), .unset, .unset, .unset] [])) _
    refine XS.aload X7.here hx rfl (hb hby at_34) rfl rfl ?_
    show Steps p.tables e below (T7.setTop (mkF m 36 #[.val (.long q1), .second, .val (.long q2), .second, .val (.long q3), .second, .val (.long q4), .second, .val (.long P), .second, .val (.long W), .second, .val (.ref b5), .unset, .unset, .unset] [(.ref b5)])) _
    refine XS.lload X7.here hx rfl (hb hby at_36) rfl ?_
    show Steps p.tables e below (T7.setTop (mkF m 38 #[.val (.long q1), .second, .val (.long q2), .second, .val (.long q3), .second, .val (.long q4), .second, .val (.long P), .second, .val (.long W), .second, .val (.ref b5), .unset, .unset, .unset] [(.long q3), (.ref b5)])) _
    refine XS.lload X7.here hx rfl (hb hby at_38) rfl ?_
    show Steps p.tables e below (T7.setTop (mkF m 40 #[.val (.long q1), .second, .val (.long q2), .second, .val (.long q3), .second, .val (.long q4), .second, .val (.long P), .second, .val (.long W), .second, .val (.ref b5), .unset, .unset, .unset] [(.long q3), (.long q3), (.ref b5)])) _
    refine XS.lload X7.here hx rfl (hb hby at_40) rfl ?_
    show Steps p.tables e below (T7.setTop (mkF m 42 #[.val (.long q1), .second, .val (.long q2), .second, .val (.long q3), .second, .val (.long q4), .second, .val (.long P), .second, .val (.long W), .second, .val (.ref b5), .unset, .unset, .unset] [(.long q4), (.long q3), (.long q3), (.ref b5)])) _
    refine XS.ladd X7.here hx rfl (hb hby at_42) rfl ?_
    show Steps p.tables e below (T7.setTop (mkF m 43 #[.val (.long q1), .second, .val (.long q2), .second, .val (.long q3), .second, .val (.long q4), .second, .val (.long P), .second, .val (.long W), .second, .val (.ref b5), .unset, .unset, .unset] [(.long (q3 + q4)), (.long q3), (.ref b5)])) _
    exact kt
  obtain ⟨cq9, kq9, q9a, q9b, q9c⟩ := isOf hZ rfl E_b5_7
  obtain ⟨_, _, ⟨T9, L9, k9, n9⟩, -, X9, ⟨Lc9, hQ9, l9, y9, z9⟩, st9⟩ := X7.virtualBack hx (y := (⟨"com/example/uneasy_crown/uneasycrown/election/Timing", "lapsed", "(JJ)Z"⟩ : MethodName)) (z := (⟨"com/example/uneasy_crown/uneasycrown/election/Timing", "lapsed", "(JJ)Z"⟩ : MethodName)) hown (mvT hZ (hw _ (List.mem_of_getElem? (i := 20) rfl))) (mvT hZ (hw _ (List.mem_of_getElem? (i := 21) rfl))) (notFace_of_selects (args := #[]) (mvT hZ (hw _ (List.mem_of_getElem? (i := 23) rfl)))) (mvT hZ (hw _ (List.mem_of_getElem? (i := 23) rfl))) (mvT hZ (hw _ (List.mem_of_getElem? (i := 22) rfl))) (by decide) (backOf (W := 0) (rm4 l Z a0 hw [] b5 q3 (q3 + q4) W T7.heap n0 Z7 Fq1_7) hZ (hw _ (List.mem_of_getElem? (i := 24) rfl)) (hw _ (List.mem_of_getElem? (i := 4) rfl)) (by decide) (by decide)) q9a q9c (g := (mkF m 43 #[.val (.long q1), .second, .val (.long q2), .second, .val (.long q3), .second, .val (.long q4), .second, .val (.long P), .second, .val (.long W), .second, .val (.ref b5), .unset, .unset, .unset] [(.long (q3 + q4)), (.long q3), (.ref b5)])) rfl (by rw [hml]; rfl) (Steps.refl _) (argsL := [(.long q3), (.long (q3 + q4))]) (rest := []) (lenOf pd_2 rfl) rfl (by show 2 * 0 + _ ≤ _; exact Nat.le_of_eq rfl) (hb hby at_43) (fun _ _ => ⟨rfl, rfl, (by decide : 1 + 0 ≤ _), (by decide : 2 + 0 ≤ _)⟩)
  dsimp only [Pt.U, Pt.locs, Pt.cells, Pt.slots] at X9 l9 y9 z9 st9 hQ9
  subst l9 y9 z9
  obtain ⟨rfl, N9q, e9⟩ := hQ9
  have N9 := Fr.app N7 N9q
  have G9 : ∀ t, Steps p.tables e below (T9.setTop (mkF m 46 #[.val (.long q1), .second, .val (.long q2), .second, .val (.long q3), .second, .val (.long q4), .second, .val (.long P), .second, .val (.long W), .second, .val (.ref b5), .unset, .unset, .unset] [(.int (own_lap q3 (q3 + q4) W))])) t → Steps p.tables e below (s₁.setTop (entryFrame m #[(.long q1), (.long q2), (.long q3), (.long q4)] maxLocals)) t := fun t kt => G8 t (st9.trans kt)
  have G10 : ∀ t, Steps p.tables e below (T9.setTop (mkF m 51 #[.val (.long q1), .second, .val (.long q2), .second, .val (.long q3), .second, .val (.long q4), .second, .val (.long P), .second, .val (.long W), .second, .val (.ref b5), .unset, .unset, .unset] [(.int (lcmpW q4 W)), (.int (own_lap q3 (q3 + q4) W))])) t → Steps p.tables e below (s₁.setTop (entryFrame m #[(.long q1), (.long q2), (.long q3), (.long q4)] maxLocals)) t := by
    intro t kt
    refine G9 t ?_
    show Steps p.tables e below (T9.setTop (mkF m 46 #[.val (.long q1), .second, .val (.long q2), .second, .val (.long q3), .second, .val (.long q4), .second, .val (.long P), .second, .val (.long W), .second, .val (.ref b5), .unset, .unset, .unset] [(.int (own_lap q3 (q3 + q4) W))])) _
    refine XS.lload X9.here hx rfl (hb hby at_46) rfl ?_
    show Steps p.tables e below (T9.setTop (mkF m 48 #[.val (.long q1), .second, .val (.long q2), .second, .val (.long q3), .second, .val (.long q4), .second, .val (.long P), .second, .val (.long W), .second, .val (.ref b5), .unset, .unset, .unset] [(.long q4), (.int (own_lap q3 (q3 + q4) W))])) _
    refine XS.lload X9.here hx rfl (hb hby at_48) rfl ?_
    show Steps p.tables e below (T9.setTop (mkF m 50 #[.val (.long q1), .second, .val (.long q2), .second, .val (.long q3), .second, .val (.long q4), .second, .val (.long P), .second, .val (.long W), .second, .val (.ref b5), .unset, .unset, .unset] [(.long W), (.long q4), (.int (own_lap q3 (q3 + q4) W))])) _
    refine XS.lcmp X9.here hx rfl (hb hby at_50) rfl ?_
    show Steps p.tables e below (T9.setTop (mkF m 51 #[.val (.long q1), .second, .val (.long q2), .second, .val (.long q3), .second, .val (.long q4), .second, .val (.long P), .second, .val (.long W), .second, .val (.ref b5), .unset, .unset, .unset] [(.int (lcmpW q4 W)), (.int (own_lap q3 (q3 + q4) W))])) _
    exact kt
  have GJ : ∀ t, Steps p.tables e below (T9.setTop (mkF m 67 #[.val (.long q1), .second, .val (.long q2), .second, .val (.long q3), .second, .val (.long q4), .second, .val (.long P), .second, .val (.long W), .second, .val (.ref b5), .unset, .unset, .unset] [(.int (1 : Int32))])) t → Steps p.tables e below (s₁.setTop (entryFrame m #[(.long q1), (.long q2), (.long q3), (.long q4)] maxLocals)) t := by
    by_cases hc : (lcmpW q4 W) < (0 : Int32)
    · have G11 : ∀ t, Steps p.tables e below (T9.setTop (mkF m 67 #[.val (.long q1), .second, .val (.long q2), .second, .val (.long q3), .second, .val (.long q4), .second, .val (.long P), .second, .val (.long W), .second, .val (.ref b5), .unset, .unset, .unset] [(.int (1 : Int32))])) t → Steps p.tables e below (s₁.setTop (entryFrame m #[(.long q1), (.long q2), (.long q3), (.long q4)] maxLocals)) t := by
        intro t kt
        refine G10 t ?_
        show Steps p.tables e below (T9.setTop (mkF m 51 #[.val (.long q1), .second, .val (.long q2), .second, .val (.long q3), .second, .val (.long q4), .second, .val (.long P), .second, .val (.long W), .second, .val (.ref b5), .unset, .unset, .unset] [(.int (lcmpW q4 W)), (.int (own_lap q3 (q3 + q4) W))])) _
        refine XS.ifYes X9.here hx rfl (pc0 := 51) (pc' := 58) rfl (hb hby at_51) rfl ((if0 _ _).trans (tlt hc).1) (by decide) (by decide) ?_
        show Steps p.tables e below (T9.setTop (mkF m 58 #[.val (.long q1), .second, .val (.long q2), .second, .val (.long q3), .second, .val (.long q4), .second, .val (.long P), .second, .val (.long W), .second, .val (.ref b5), .unset, .unset, .unset] [(.int (own_lap q3 (q3 + q4) W))])) _
        refine XS.iconst X9.here hx rfl (hb hby at_58) ?_
        show Steps p.tables e below (T9.setTop (mkF m 59 #[.val (.long q1), .second, .val (.long q2), .second, .val (.long q3), .second, .val (.long q4), .second, .val (.long P), .second, .val (.long W), .second, .val (.ref b5), .unset, .unset, .unset] [(.int (0 : Int32)), (.int (own_lap q3 (q3 + q4) W))])) _
        refine XS.icmpNo X9.here hx rfl (hb hby at_59) rfl (teq (own_l0 hc)).2 ?_
        show Steps p.tables e below (T9.setTop (mkF m 62 #[.val (.long q1), .second, .val (.long q2), .second, .val (.long q3), .second, .val (.long q4), .second, .val (.long P), .second, .val (.long W), .second, .val (.ref b5), .unset, .unset, .unset] [])) _
        refine XS.iconst X9.here hx rfl (hb hby at_62) ?_
        show Steps p.tables e below (T9.setTop (mkF m 63 #[.val (.long q1), .second, .val (.long q2), .second, .val (.long q3), .second, .val (.long q4), .second, .val (.long P), .second, .val (.long W), .second, .val (.ref b5), .unset, .unset, .unset] [(.int (1 : Int32))])) _
        refine XS.goto X9.here hx rfl (pc0 := 63) (pc' := 67) rfl (hb hby at_63) (by decide) (by decide) ?_
        show Steps p.tables e below (T9.setTop (mkF m 67 #[.val (.long q1), .second, .val (.long q2), .second, .val (.long q3), .second, .val (.long q4), .second, .val (.long P), .second, .val (.long W), .second, .val (.ref b5), .unset, .unset, .unset] [(.int (1 : Int32))])) _
        exact kt
      exact G11
    · have G12 : ∀ t, Steps p.tables e below (T9.setTop (mkF m 67 #[.val (.long q1), .second, .val (.long q2), .second, .val (.long q3), .second, .val (.long q4), .second, .val (.long P), .second, .val (.long W), .second, .val (.ref b5), .unset, .unset, .unset] [(.int (1 : Int32))])) t → Steps p.tables e below (s₁.setTop (entryFrame m #[(.long q1), (.long q2), (.long q3), (.long q4)] maxLocals)) t := by
        intro t kt
        refine G10 t ?_
        show Steps p.tables e below (T9.setTop (mkF m 51 #[.val (.long q1), .second, .val (.long q2), .second, .val (.long q3), .second, .val (.long q4), .second, .val (.long P), .second, .val (.long W), .second, .val (.ref b5), .unset, .unset, .unset] [(.int (lcmpW q4 W)), (.int (own_lap q3 (q3 + q4) W))])) _
        refine XS.ifNo X9.here hx rfl (hb hby at_51) rfl ((if0 _ _).trans (flt hc).1) ?_
        show Steps p.tables e below (T9.setTop (mkF m 54 #[.val (.long q1), .second, .val (.long q2), .second, .val (.long q3), .second, .val (.long q4), .second, .val (.long P), .second, .val (.long W), .second, .val (.ref b5), .unset, .unset, .unset] [(.int (own_lap q3 (q3 + q4) W))])) _
        refine XS.iconst X9.here hx rfl (hb hby at_54) ?_
        show Steps p.tables e below (T9.setTop (mkF m 55 #[.val (.long q1), .second, .val (.long q2), .second, .val (.long q3), .second, .val (.long q4), .second, .val (.long P), .second, .val (.long W), .second, .val (.ref b5), .unset, .unset, .unset] [(.int (1 : Int32)), (.int (own_lap q3 (q3 + q4) W))])) _
        refine XS.goto X9.here hx rfl (pc0 := 55) (pc' := 59) rfl (hb hby at_55) (by decide) (by decide) ?_
        show Steps p.tables e below (T9.setTop (mkF m 59 #[.val (.long q1), .second, .val (.long q2), .second, .val (.long q3), .second, .val (.long q4), .second, .val (.long P), .second, .val (.long W), .second, .val (.ref b5), .unset, .unset, .unset] [(.int (1 : Int32)), (.int (own_lap q3 (q3 + q4) W))])) _
        refine XS.icmpNo X9.here hx rfl (hb hby at_59) rfl (teq (own_l1 hc)).2 ?_
        show Steps p.tables e below (T9.setTop (mkF m 62 #[.val (.long q1), .second, .val (.long q2), .second, .val (.long q3), .second, .val (.long q4), .second, .val (.long P), .second, .val (.long W), .second, .val (.ref b5), .unset, .unset, .unset] [])) _
        refine XS.iconst X9.here hx rfl (hb hby at_62) ?_
        show Steps p.tables e below (T9.setTop (mkF m 63 #[.val (.long q1), .second, .val (.long q2), .second, .val (.long q3), .second, .val (.long q4), .second, .val (.long P), .second, .val (.long W), .second, .val (.ref b5), .unset, .unset, .unset] [(.int (1 : Int32))])) _
        refine XS.goto X9.here hx rfl (pc0 := 63) (pc' := 67) rfl (hb hby at_63) (by decide) (by decide) ?_
        show Steps p.tables e below (T9.setTop (mkF m 67 #[.val (.long q1), .second, .val (.long q2), .second, .val (.long q3), .second, .val (.long q4), .second, .val (.long P), .second, .val (.long W), .second, .val (.ref b5), .unset, .unset, .unset] [(.int (1 : Int32))])) _
        exact kt
      exact G12
  have G13 : ∀ t, Steps p.tables e below (T9.setTop (mkF m 78 #[.val (.long q1), .second, .val (.long q2), .second, .val (.long q3), .second, .val (.long q4), .second, .val (.long P), .second, .val (.long W), .second, .val (.ref b5), .val (.int (1 : Int32)), .unset, .unset] [(.long (q3 + W)), (.long q3), (.ref b5)])) t → Steps p.tables e below (s₁.setTop (entryFrame m #[(.long q1), (.long q2), (.long q3), (.long q4)] maxLocals)) t := by
    intro t kt
    refine GJ t ?_
    show Steps p.tables e below (T9.setTop (mkF m 67 #[.val (.long q1), .second, .val (.long q2), .second, .val (.long q3), .second, .val (.long q4), .second, .val (.long P), .second, .val (.long W), .second, .val (.ref b5), .unset, .unset, .unset] [(.int (1 : Int32))])) _
    refine XS.istore X9.here hx rfl (hb hby at_67) rfl (l' := #[.val (.long q1), .second, .val (.long q2), .second, .val (.long q3), .second, .val (.long q4), .second, .val (.long P), .second, .val (.long W), .second, .val (.ref b5), .val (.int (1 : Int32)), .unset, .unset]) rfl ?_
    show Steps p.tables e below (T9.setTop (mkF m 69 #[.val (.long q1), .second, .val (.long q2), .second, .val (.long q3), .second, .val (.long q4), .second, .val (.long P), .second, .val (.long W), .second, .val (.ref b5), .val (.int (1 : Int32)), .unset, .unset] [])) _
    refine XS.aload X9.here hx rfl (hb hby at_69) rfl rfl ?_
    show Steps p.tables e below (T9.setTop (mkF m 71 #[.val (.long q1), .second, .val (.long q2), .second, .val (.long q3), .second, .val (.long q4), .second, .val (.long P), .second, .val (.long W), .second, .val (.ref b5), .val (.int (1 : Int32)), .unset, .unset] [(.ref b5)])) _
    refine XS.lload X9.here hx rfl (hb hby at_71) rfl ?_
    show Steps p.tables e below (T9.setTop (mkF m 73 #[.val (.long q1), .second, .val (.long q2), .second, .val (.long q3), .second, .val (.long q4), .second, .val (.long P), .second, .val (.long W), .second, .val (.ref b5), .val (.int (1 : Int32)), .unset, .unset] [(.long q3), (.ref b5)])) _
    refine XS.lload X9.here hx rfl (hb hby at_73) rfl ?_
    show Steps p.tables e below (T9.setTop (mkF m 75 #[.val (.long q1), .second, .val (.long q2), .second, .val (.long q3), .second, .val (.long q4), .second, .val (.long P), .second, .val (.long W), .second, .val (.ref b5), .val (.int (1 : Int32)), .unset, .unset] [(.long q3), (.long q3), (.ref b5)])) _
    refine XS.lload X9.here hx rfl (hb hby at_75) rfl ?_
    show Steps p.tables e below (T9.setTop (mkF m 77 #[.val (.long q1), .second, .val (.long q2), .second, .val (.long q3), .second, .val (.long q4), .second, .val (.long P), .second, .val (.long W), .second, .val (.ref b5), .val (.int (1 : Int32)), .unset, .unset] [(.long W), (.long q3), (.long q3), (.ref b5)])) _
    refine XS.ladd X9.here hx rfl (hb hby at_77) rfl ?_
    show Steps p.tables e below (T9.setTop (mkF m 78 #[.val (.long q1), .second, .val (.long q2), .second, .val (.long q3), .second, .val (.long q4), .second, .val (.long P), .second, .val (.long W), .second, .val (.ref b5), .val (.int (1 : Int32)), .unset, .unset] [(.long (q3 + W)), (.long q3), (.ref b5)])) _
    exact kt
  obtain ⟨cq14, kq14, q14a, q14b, q14c⟩ := isOf hZ e9 E_b5_7
  obtain ⟨_, _, ⟨T14, L14, k14, n14⟩, -, X14, ⟨Lc14, hQ14, l14, y14, z14⟩, st14⟩ := X9.virtualBack hx (y := (⟨"com/example/uneasy_crown/uneasycrown/election/Timing", "lapsed", "(JJ)Z"⟩ : MethodName)) (z := (⟨"com/example/uneasy_crown/uneasycrown/election/Timing", "lapsed", "(JJ)Z"⟩ : MethodName)) hown (mvT hZ (hw _ (List.mem_of_getElem? (i := 20) rfl))) (mvT hZ (hw _ (List.mem_of_getElem? (i := 21) rfl))) (notFace_of_selects (args := #[]) (mvT hZ (hw _ (List.mem_of_getElem? (i := 23) rfl)))) (mvT hZ (hw _ (List.mem_of_getElem? (i := 23) rfl))) (mvT hZ (hw _ (List.mem_of_getElem? (i := 22) rfl))) (by decide) (backOf (W := 0) (rm4 l Z a0 hw [] b5 q3 (q3 + W) W T7.heap n0 Z7 Fq1_7) hZ (hw _ (List.mem_of_getElem? (i := 24) rfl)) (hw _ (List.mem_of_getElem? (i := 4) rfl)) (by decide) (by decide)) q14a q14c (g := (mkF m 78 #[.val (.long q1), .second, .val (.long q2), .second, .val (.long q3), .second, .val (.long q4), .second, .val (.long P), .second, .val (.long W), .second, .val (.ref b5), .val (.int (1 : Int32)), .unset, .unset] [(.long (q3 + W)), (.long q3), (.ref b5)])) rfl (by rw [hml]; rfl) (Steps.refl _) (argsL := [(.long q3), (.long (q3 + W))]) (rest := []) (lenOf pd_2 rfl) rfl (by show 2 * 0 + _ ≤ _; exact Nat.le_of_eq rfl) (hb hby at_78) (fun _ _ => ⟨rfl, e9, (by decide : 1 + 0 ≤ _), (by decide : 2 + 0 ≤ _)⟩)
  dsimp only [Pt.U, Pt.locs, Pt.cells, Pt.slots] at X14 l14 y14 z14 st14 hQ14
  subst l14 y14 z14
  obtain ⟨rfl, N14q, e14⟩ := hQ14
  have N14 := Fr.app N9 N14q
  have G14 : ∀ t, Steps p.tables e below (T14.setTop (mkF m 81 #[.val (.long q1), .second, .val (.long q2), .second, .val (.long q3), .second, .val (.long q4), .second, .val (.long P), .second, .val (.long W), .second, .val (.ref b5), .val (.int (1 : Int32)), .unset, .unset] [(.int (own_lap q3 (q3 + W) W))])) t → Steps p.tables e below (s₁.setTop (entryFrame m #[(.long q1), (.long q2), (.long q3), (.long q4)] maxLocals)) t := fun t kt => G13 t (st14.trans kt)
  have G15 : ∀ t, Steps p.tables e below (T14.setTop (mkF m 94 #[.val (.long q1), .second, .val (.long q2), .second, .val (.long q3), .second, .val (.long q4), .second, .val (.long P), .second, .val (.long W), .second, .val (.ref b5), .val (.int (1 : Int32)), .val (.int (own_lap q3 (q3 + W) W)), .unset] [(.long (q3 + (W - (1 : Int64)))), (.long q3), (.ref b5)])) t → Steps p.tables e below (s₁.setTop (entryFrame m #[(.long q1), (.long q2), (.long q3), (.long q4)] maxLocals)) t := by
    intro t kt
    refine G14 t ?_
    show Steps p.tables e below (T14.setTop (mkF m 81 #[.val (.long q1), .second, .val (.long q2), .second, .val (.long q3), .second, .val (.long q4), .second, .val (.long P), .second, .val (.long W), .second, .val (.ref b5), .val (.int (1 : Int32)), .unset, .unset] [(.int (own_lap q3 (q3 + W) W))])) _
    refine XS.istore X14.here hx rfl (hb hby at_81) rfl (l' := #[.val (.long q1), .second, .val (.long q2), .second, .val (.long q3), .second, .val (.long q4), .second, .val (.long P), .second, .val (.long W), .second, .val (.ref b5), .val (.int (1 : Int32)), .val (.int (own_lap q3 (q3 + W) W)), .unset]) rfl ?_
    show Steps p.tables e below (T14.setTop (mkF m 83 #[.val (.long q1), .second, .val (.long q2), .second, .val (.long q3), .second, .val (.long q4), .second, .val (.long P), .second, .val (.long W), .second, .val (.ref b5), .val (.int (1 : Int32)), .val (.int (own_lap q3 (q3 + W) W)), .unset] [])) _
    refine XS.aload X14.here hx rfl (hb hby at_83) rfl rfl ?_
    show Steps p.tables e below (T14.setTop (mkF m 85 #[.val (.long q1), .second, .val (.long q2), .second, .val (.long q3), .second, .val (.long q4), .second, .val (.long P), .second, .val (.long W), .second, .val (.ref b5), .val (.int (1 : Int32)), .val (.int (own_lap q3 (q3 + W) W)), .unset] [(.ref b5)])) _
    refine XS.lload X14.here hx rfl (hb hby at_85) rfl ?_
    show Steps p.tables e below (T14.setTop (mkF m 87 #[.val (.long q1), .second, .val (.long q2), .second, .val (.long q3), .second, .val (.long q4), .second, .val (.long P), .second, .val (.long W), .second, .val (.ref b5), .val (.int (1 : Int32)), .val (.int (own_lap q3 (q3 + W) W)), .unset] [(.long q3), (.ref b5)])) _
    refine XS.lload X14.here hx rfl (hb hby at_87) rfl ?_
    show Steps p.tables e below (T14.setTop (mkF m 89 #[.val (.long q1), .second, .val (.long q2), .second, .val (.long q3), .second, .val (.long q4), .second, .val (.long P), .second, .val (.long W), .second, .val (.ref b5), .val (.int (1 : Int32)), .val (.int (own_lap q3 (q3 + W) W)), .unset] [(.long q3), (.long q3), (.ref b5)])) _
    refine XS.lload X14.here hx rfl (hb hby at_89) rfl ?_
    show Steps p.tables e below (T14.setTop (mkF m 91 #[.val (.long q1), .second, .val (.long q2), .second, .val (.long q3), .second, .val (.long q4), .second, .val (.long P), .second, .val (.long W), .second, .val (.ref b5), .val (.int (1 : Int32)), .val (.int (own_lap q3 (q3 + W) W)), .unset] [(.long W), (.long q3), (.long q3), (.ref b5)])) _
    refine XS.lconst X14.here hx rfl (hb hby at_91) ?_
    show Steps p.tables e below (T14.setTop (mkF m 92 #[.val (.long q1), .second, .val (.long q2), .second, .val (.long q3), .second, .val (.long q4), .second, .val (.long P), .second, .val (.long W), .second, .val (.ref b5), .val (.int (1 : Int32)), .val (.int (own_lap q3 (q3 + W) W)), .unset] [(.long (1 : Int64)), (.long W), (.long q3), (.long q3), (.ref b5)])) _
    refine XS.lsub X14.here hx rfl (hb hby at_92) rfl ?_
    show Steps p.tables e below (T14.setTop (mkF m 93 #[.val (.long q1), .second, .val (.long q2), .second, .val (.long q3), .second, .val (.long q4), .second, .val (.long P), .second, .val (.long W), .second, .val (.ref b5), .val (.int (1 : Int32)), .val (.int (own_lap q3 (q3 + W) W)), .unset] [(.long (W - (1 : Int64))), (.long q3), (.long q3), (.ref b5)])) _
    refine XS.ladd X14.here hx rfl (hb hby at_93) rfl ?_
    show Steps p.tables e below (T14.setTop (mkF m 94 #[.val (.long q1), .second, .val (.long q2), .second, .val (.long q3), .second, .val (.long q4), .second, .val (.long P), .second, .val (.long W), .second, .val (.ref b5), .val (.int (1 : Int32)), .val (.int (own_lap q3 (q3 + W) W)), .unset] [(.long (q3 + (W - (1 : Int64)))), (.long q3), (.ref b5)])) _
    exact kt
  obtain ⟨cq16, kq16, q16a, q16b, q16c⟩ := isOf hZ e14 E_b5_7
  obtain ⟨_, _, ⟨T16, L16, k16, n16⟩, -, X16, ⟨Lc16, hQ16, l16, y16, z16⟩, st16⟩ := X14.virtualBack hx (y := (⟨"com/example/uneasy_crown/uneasycrown/election/Timing", "lapsed", "(JJ)Z"⟩ : MethodName)) (z := (⟨"com/example/uneasy_crown/uneasycrown/election/Timing", "lapsed", "(JJ)Z"⟩ : MethodName)) hown (mvT hZ (hw _ (List.mem_of_getElem? (i := 20) rfl))) (mvT hZ (hw _ (List.mem_of_getElem? (i := 21) rfl))) (notFace_of_selects (args := #[]) (mvT hZ (hw _ (List.mem_of_getElem? (i := 23) rfl)))) (mvT hZ (hw _ (List.mem_of_getElem? (i := 23) rfl))) (mvT hZ (hw _ (List.mem_of_getElem? (i := 22) rfl))) (by decide) (backOf (W := 0) (rm4 l Z a0 hw [] b5 q3 (q3 + (W - (1 : Int64))) W T7.heap n0 Z7 Fq1_7) hZ (hw _ (List.mem_of_getElem? (i := 24) rfl)) (hw _ (List.mem_of_getElem? (i := 4) rfl)) (by decide) (by decide)) q16a q16c (g := (mkF m 94 #[.val (.long q1), .second, .val (.long q2), .second, .val (.long q3), .second, .val (.long q4), .second, .val (.long P), .second, .val (.long W), .second, .val (.ref b5), .val (.int (1 : Int32)), .val (.int (own_lap q3 (q3 + W) W)), .unset] [(.long (q3 + (W - (1 : Int64)))), (.long q3), (.ref b5)])) rfl (by rw [hml]; rfl) (Steps.refl _) (argsL := [(.long q3), (.long (q3 + (W - (1 : Int64))))]) (rest := []) (lenOf pd_2 rfl) rfl (by show 2 * 0 + _ ≤ _; exact Nat.le_of_eq rfl) (hb hby at_94) (fun _ _ => ⟨rfl, e14, (by decide : 1 + 0 ≤ _), (by decide : 2 + 0 ≤ _)⟩)
  dsimp only [Pt.U, Pt.locs, Pt.cells, Pt.slots] at X16 l16 y16 z16 st16 hQ16
  subst l16 y16 z16
  obtain ⟨rfl, N16q, e16⟩ := hQ16
  have N16 := Fr.app N14 N16q
  have G16 : ∀ t, Steps p.tables e below (T16.setTop (mkF m 97 #[.val (.long q1), .second, .val (.long q2), .second, .val (.long q3), .second, .val (.long q4), .second, .val (.long P), .second, .val (.long W), .second, .val (.ref b5), .val (.int (1 : Int32)), .val (.int (own_lap q3 (q3 + W) W)), .unset] [(.int (own_lap q3 (q3 + (W - (1 : Int64))) W))])) t → Steps p.tables e below (s₁.setTop (entryFrame m #[(.long q1), (.long q2), (.long q3), (.long q4)] maxLocals)) t := fun t kt => G15 t (st16.trans kt)
  have G17 : ∀ t, Steps p.tables e below (T16.setTop (mkF m 127 #[.val (.long q1), .second, .val (.long q2), .second, .val (.long q3), .second, .val (.long q4), .second, .val (.long P), .second, .val (.long W), .second, .val (.ref b5), .val (.int (1 : Int32)), .val (.int (own_lap q3 (q3 + W) W)), .val (.int (1 : Int32))] [(.int (1 : Int32))])) t → Steps p.tables e below (s₁.setTop (entryFrame m #[(.long q1), (.long q2), (.long q3), (.long q4)] maxLocals)) t := by
    intro t kt
    refine G16 t ?_
    show Steps p.tables e below (T16.setTop (mkF m 97 #[.val (.long q1), .second, .val (.long q2), .second, .val (.long q3), .second, .val (.long q4), .second, .val (.long P), .second, .val (.long W), .second, .val (.ref b5), .val (.int (1 : Int32)), .val (.int (own_lap q3 (q3 + W) W)), .unset] [(.int (own_lap q3 (q3 + (W - (1 : Int64))) W))])) _
    refine XS.ifNo X16.here hx rfl (hb hby at_97) rfl ((if0 _ _).trans (teq (own_l0 (own_less (by omega)))).2) ?_
    show Steps p.tables e below (T16.setTop (mkF m 100 #[.val (.long q1), .second, .val (.long q2), .second, .val (.long q3), .second, .val (.long q4), .second, .val (.long P), .second, .val (.long W), .second, .val (.ref b5), .val (.int (1 : Int32)), .val (.int (own_lap q3 (q3 + W) W)), .unset] [])) _
    refine XS.iconst X16.here hx rfl (hb hby at_100) ?_
    show Steps p.tables e below (T16.setTop (mkF m 101 #[.val (.long q1), .second, .val (.long q2), .second, .val (.long q3), .second, .val (.long q4), .second, .val (.long P), .second, .val (.long W), .second, .val (.ref b5), .val (.int (1 : Int32)), .val (.int (own_lap q3 (q3 + W) W)), .unset] [(.int (1 : Int32))])) _
    refine XS.goto X16.here hx rfl (pc0 := 101) (pc' := 105) rfl (hb hby at_101) (by decide) (by decide) ?_
    show Steps p.tables e below (T16.setTop (mkF m 105 #[.val (.long q1), .second, .val (.long q2), .second, .val (.long q3), .second, .val (.long q4), .second, .val (.long P), .second, .val (.long W), .second, .val (.ref b5), .val (.int (1 : Int32)), .val (.int (own_lap q3 (q3 + W) W)), .unset] [(.int (1 : Int32))])) _
    refine XS.istore X16.here hx rfl (hb hby at_105) rfl (l' := #[.val (.long q1), .second, .val (.long q2), .second, .val (.long q3), .second, .val (.long q4), .second, .val (.long P), .second, .val (.long W), .second, .val (.ref b5), .val (.int (1 : Int32)), .val (.int (own_lap q3 (q3 + W) W)), .val (.int (1 : Int32))]) rfl ?_
    show Steps p.tables e below (T16.setTop (mkF m 107 #[.val (.long q1), .second, .val (.long q2), .second, .val (.long q3), .second, .val (.long q4), .second, .val (.long P), .second, .val (.long W), .second, .val (.ref b5), .val (.int (1 : Int32)), .val (.int (own_lap q3 (q3 + W) W)), .val (.int (1 : Int32))] [])) _
    refine XS.iload X16.here hx rfl (hb hby at_107) rfl ?_
    show Steps p.tables e below (T16.setTop (mkF m 109 #[.val (.long q1), .second, .val (.long q2), .second, .val (.long q3), .second, .val (.long q4), .second, .val (.long P), .second, .val (.long W), .second, .val (.ref b5), .val (.int (1 : Int32)), .val (.int (own_lap q3 (q3 + W) W)), .val (.int (1 : Int32))] [(.int (1 : Int32))])) _
    refine XS.ifNo X16.here hx rfl (hb hby at_109) rfl ((if0 _ _).trans (feq (by decide : ¬ ((1 : Int32) = (0 : Int32)))).1) ?_
    show Steps p.tables e below (T16.setTop (mkF m 112 #[.val (.long q1), .second, .val (.long q2), .second, .val (.long q3), .second, .val (.long q4), .second, .val (.long P), .second, .val (.long W), .second, .val (.ref b5), .val (.int (1 : Int32)), .val (.int (own_lap q3 (q3 + W) W)), .val (.int (1 : Int32))] [])) _
    refine XS.iload X16.here hx rfl (hb hby at_112) rfl ?_
    show Steps p.tables e below (T16.setTop (mkF m 114 #[.val (.long q1), .second, .val (.long q2), .second, .val (.long q3), .second, .val (.long q4), .second, .val (.long P), .second, .val (.long W), .second, .val (.ref b5), .val (.int (1 : Int32)), .val (.int (own_lap q3 (q3 + W) W)), .val (.int (1 : Int32))] [(.int (own_lap q3 (q3 + W) W))])) _
    refine XS.ifNo X16.here hx rfl (hb hby at_114) rfl ((if0 _ _).trans (feq (own_nz (own_self W))).1) ?_
    show Steps p.tables e below (T16.setTop (mkF m 117 #[.val (.long q1), .second, .val (.long q2), .second, .val (.long q3), .second, .val (.long q4), .second, .val (.long P), .second, .val (.long W), .second, .val (.ref b5), .val (.int (1 : Int32)), .val (.int (own_lap q3 (q3 + W) W)), .val (.int (1 : Int32))] [])) _
    refine XS.iload X16.here hx rfl (hb hby at_117) rfl ?_
    show Steps p.tables e below (T16.setTop (mkF m 119 #[.val (.long q1), .second, .val (.long q2), .second, .val (.long q3), .second, .val (.long q4), .second, .val (.long P), .second, .val (.long W), .second, .val (.ref b5), .val (.int (1 : Int32)), .val (.int (own_lap q3 (q3 + W) W)), .val (.int (1 : Int32))] [(.int (1 : Int32))])) _
    refine XS.ifNo X16.here hx rfl (hb hby at_119) rfl ((if0 _ _).trans (feq (by decide : ¬ ((1 : Int32) = (0 : Int32)))).1) ?_
    show Steps p.tables e below (T16.setTop (mkF m 122 #[.val (.long q1), .second, .val (.long q2), .second, .val (.long q3), .second, .val (.long q4), .second, .val (.long P), .second, .val (.long W), .second, .val (.ref b5), .val (.int (1 : Int32)), .val (.int (own_lap q3 (q3 + W) W)), .val (.int (1 : Int32))] [])) _
    refine XS.iconst X16.here hx rfl (hb hby at_122) ?_
    show Steps p.tables e below (T16.setTop (mkF m 123 #[.val (.long q1), .second, .val (.long q2), .second, .val (.long q3), .second, .val (.long q4), .second, .val (.long P), .second, .val (.long W), .second, .val (.ref b5), .val (.int (1 : Int32)), .val (.int (own_lap q3 (q3 + W) W)), .val (.int (1 : Int32))] [(.int (1 : Int32))])) _
    refine XS.goto X16.here hx rfl (pc0 := 123) (pc' := 127) rfl (hb hby at_123) (by decide) (by decide) ?_
    show Steps p.tables e below (T16.setTop (mkF m 127 #[.val (.long q1), .second, .val (.long q2), .second, .val (.long q3), .second, .val (.long q4), .second, .val (.long P), .second, .val (.long W), .second, .val (.ref b5), .val (.int (1 : Int32)), .val (.int (own_lap q3 (q3 + W) W)), .val (.int (1 : Int32))] [(.int (1 : Int32))])) _
    exact kt
  obtain ⟨fs, hr, hrun, hended, hW, hsame⟩ := X16.leave (v := some (.int (1 : Int32))) (fun h => by rw [Bd.returns] at h; cases h)
  refine ⟨_, _, G17 _ ?_, hrun, hended, _, _, rfl, ?_, ⟨_, rfl⟩, hW, hsame.mono (by decide) (by decide)⟩
  · show Steps p.tables e below (T16.setTop (mkF m 127 #[.val (.long q1), .second, .val (.long q2), .second, .val (.long q3), .second, .val (.long q4), .second, .val (.long P), .second, .val (.long W), .second, .val (.ref b5), .val (.int (1 : Int32)), .val (.int (own_lap q3 (q3 + W) W)), .val (.int (1 : Int32))] [(.int (1 : Int32))])) _
    exact retN X16 hx (t := .boolean) Bd.returns (by simp) (hb hby at_127) hr
  · show Q0 Z q1 q2 q3 q4 h0 n0 _ T16.heap _
    rw [e16]
    exact ⟨rfl, N16⟩
set_option maxRecDepth 65536 in
set_option maxHeartbeats 40000000 in
theorem comes_1 {Post : Tables → Env → Array Value → State → Outcome → State → Prop} (hpost : ∀ tb e args s v u, (limb_1_1.after args s (.returned v) u = true ∧ limb_1_2.after args s (.returned v) u = true ∧ True) → FrameEnd s (.returned v) u (Jvm.fieldLocs frame_1_writes args s ++ Jvm.arrayLocs frame_1_arrays args s ++ Jvm.staticLocs frame_1_statics s) 16 128 → Post tb e args s (.returned v) u) :
    ArmFor flags0 classFile x code maxLocals ret World_1 tables_1 room_1 Calls_1 rest_1 Pre_1 Post := by
  intro l hfl _ _ p e ha hc hk s m args below hf hA hF happ hP
  obtain ⟨hcalls, hrest, hpre⟩ := hP
  obtain ⟨-, -, -, hnamed, -, -, -, hat⟩ := (Spec.applies_iff hf).mp happ
  obtain ⟨hg, hn⟩ := and_e (Cond.before_iff.mp (show (Jvm.Cond.and given_1 narrow_1).before args s = true from hpre))
  obtain ⟨hcnt, r0⟩ := and_e hg
  obtain ⟨c0, r1⟩ := and_e r0
  obtain ⟨c1, r2⟩ := and_e r1
  obtain ⟨c2, r3⟩ := and_e r2
  obtain ⟨w0, w1, w2, w3, rfl⟩ : ∃ w0 w1 w2 w3 : Value, args = #[w0, w1, w2, w3] := by
    have hs : args.size = 4 := by simpa [Cond.value, given_1] using hcnt
    obtain ⟨L⟩ := args
    match L, hs with
    | [w0, w1, w2, w3], _ => exact ⟨w0, w1, w2, w3, rfl⟩
  have hw := fun d (hd : d ∈ tables_1) => atoms_spec (ws := Jvm.Cond.code x code maxLocals ret :: tables_1) hat d (List.mem_cons_of_mem _ hd)
  obtain ⟨i0, j0⟩ := isL_v c0
  obtain rfl : w0 = (.long i0) := Option.some.inj j0
  obtain ⟨i1, j1⟩ := isL_v c1
  obtain rfl : w1 = (.long i1) := Option.some.inj j1
  obtain ⟨i2, j2⟩ := isL_v c2
  obtain rfl : w2 = (.long i2) := Option.some.inj j2
  obtain ⟨i3, j3⟩ := isL_v r3
  obtain rfl : w3 = (.long i3) := Option.some.inj j3
  obtain ⟨n, o, h1, h2, h3, _, L, rfl, ⟨rfl, N⟩, hq⟩ := rm0 l s _ hw tables_1 i0 i1 i2 i3 s.heap s.heap.size (Nat.le_refl _) p e ha hc hk s m _ below hf ((Spec.applies_iff_loose hf).mp happ).1 ⟨rfl, State.Warmed39.refl s, rfl⟩ trivial
  refine ⟨n, _, h1, h2, h3, hpost _ _ _ _ _ _ ⟨Cond.after_iff.mpr rfl, Cond.after_iff.mpr (eq_i res_at (Term.int_eval (1)) rfl), trivial⟩ ⟨hq.1, hq.2.1, (hq.2.2.sift fun y hy => Or.inr (N y hy)).mono (by decide) (by decide)⟩⟩
theorem main_1_1 : Claimed_1_1 := comes_1 fun _ _ _ _ _ _ h hF => ⟨h.1, hF⟩
theorem main_1_2 : Claimed_1_2 := comes_1 fun _ _ _ _ _ _ h hF => ⟨h.2.1, hF⟩
end Jvm.Pilot.@@N@@
namespace Jvm.Pilot.@@N@@
open Jvm Jvm.ClassFile Sem Op Lib Jvm.Free Jvm.Stand Jvm.Pilot.@@N@@.Jvm.D
/-! MADE BY PROGRAM (witnessworld.py) out of the Statement's table words and the real class files: 8 classes; the members and pool entries that the words name. The judged class is class 1, her method 1. -/
namespace start1
open Jvm.ClassFile
def u (s : String) : CpInfo := .utf8 (stringToUtf16 s)
/-- a pool by its gaps: so many unusable entries, then the entry; so many at the end -/
def gap : Nat → List CpInfo → List CpInfo
  | 0, r => r
  | n + 1, r => .unusable :: gap n r
def poolList (es : List (Nat × CpInfo)) (last : Nat) : List CpInfo := es.foldr (fun e r => gap e.1 (e.2 :: r)) (gap last [])
def pool (es : List (Nat × CpInfo)) (last : Nat) : Array CpInfo := ⟨poolList es last⟩
def fileOf (pool : Array CpInfo) (this : Nat) (attrs : Array Attribute := #[]) (ms : Array MethodInfo := #[]) (fl : Nat := 33) (sup : Nat := 0) (ifs : Array Nat := #[]) (fds : Array FieldInfo := #[]) : ClassFile where
  minorVersion := 0
  majorVersion := 65
  constantPool := pool
  accessFlags := fl
  thisClass := this
  superClass := sup
  interfaces := ifs
  fields := fds
  methods := ms
  attributes := attrs
def plain (name : String) (sup : Option ClassId) : Class where
  name := name
  kind := .ordinary
  loader := none
  accessFlags := 33
  super := sup
  interfaces := #[]
  cf := none
  fields := #[]
  methods := #[]
  instanceTypes := #[]
  staticTypes := #[]
  resolved := #[]
  callSites := []
  init := .initialized
  statics := none
  mirror := none

def pool0 : Array CpInfo := pool [(5, u "<init>"), (0, u "()V"), (1, .class_ 10), (1, u "java/lang/Object")] 113

def k0c0 : Code := { maxStack := 0, maxLocals := 1, code := object_method_1_code, exceptionTable := #[], attributes := #[] }
def k0m0 : Method := { name := "<init>", desc := "()V", sig := { parameters := [], returnType := none }, accessFlags := 1, code := some k0c0 }
/-- java/lang/Object -/
def k0 : Class := { plain "java/lang/Object" none with
  accessFlags := 33
  interfaces := #[]
  cf := some (fileOf pool0 8 #[] #[{ accessFlags := 1, nameIndex := 5, descriptorIndex := 6, attributes := #[] }] 33 0 #[] #[])
  fields := #[]
  methods := #[k0m0]
  instanceTypes := #[]
  staticTypes := #[]
  resolved := Array.replicate 124 none
  statics := none }

def pool1 : Array CpInfo := pool [(2, .class_ 4), (1, u "java/lang/Object"), (0, u "<init>"), (0, u "()V"), (0, .long 4611686018427387903), (1, .long 4611686018427387902), (1, .class_ 12), (0, u "com/example/uneasy_crown/uneasycrown/election/Timing"), (0, .methodref 11 14), (0, .nameAndType 5 15), (0, u "(JJ)V"), (0, .methodref 11 17), (0, .nameAndType 18 19), (0, u "lapsed"), (0, u "(JJ)Z"), (0, .class_ 21), (0, u "com/example/uneasy_crown/uneasycrown/election/TimingLapsedPinLaw"), (2, u "law"), (0, u "(JJJJ)Z")] 3

def k1m0 : Method := { name := "<init>", desc := "()V", sig := { parameters := [], returnType := none }, accessFlags := 1, code := none }
def k1c1 : Code := { maxStack := 9, maxLocals := 16, code := code, exceptionTable := #[], attributes := #[] }
def k1m1 : Method := { name := "law", desc := "(JJJJ)Z", sig := { parameters := [.long, .long, .long, .long], returnType := some .boolean }, accessFlags := 9, code := some k1c1 }
/-- com/example/uneasy_crown/uneasycrown/election/TimingLapsedPinLaw -/
def k1 : Class := { plain "com/example/uneasy_crown/uneasycrown/election/TimingLapsedPinLaw" (some 0) with
  accessFlags := 49
  interfaces := #[]
  cf := some (fileOf pool1 20 #[] #[{ accessFlags := 1, nameIndex := 5, descriptorIndex := 6, attributes := #[] }, { accessFlags := 9, nameIndex := 24, descriptorIndex := 25, attributes := #[] }] 49 2 #[] #[])
  fields := #[]
  methods := #[k1m0, k1m1]
  instanceTypes := #[]
  staticTypes := #[]
  resolved := Array.replicate 29 none
  statics := none }

def pool2 : Array CpInfo := pool [(1, .methodref 2 3), (0, .class_ 4), (0, .nameAndType 5 6), (0, u "java/lang/Object"), (0, u "<init>"), (0, u "()V"), (0, .class_ 8), (0, u "java/lang/Record")] 13

def k2c0 : Code := { maxStack := 1, maxLocals := 1, code := jdk_30_method_1_code, exceptionTable := #[], attributes := #[] }
def k2m0 : Method := { name := "<init>", desc := "()V", sig := { parameters := [], returnType := none }, accessFlags := 4, code := some k2c0 }
/-- java/lang/Record -/
def k2 : Class := { plain "java/lang/Record" (some 0) with
  accessFlags := 1057
  interfaces := #[]
  cf := some (fileOf pool2 7 #[] #[{ accessFlags := 4, nameIndex := 5, descriptorIndex := 6, attributes := #[] }] 1057 2 #[] #[])
  fields := #[]
  methods := #[k2m0]
  instanceTypes := #[]
  staticTypes := #[]
  resolved := Array.replicate 22 none
  statics := none }

def pool3 : Array CpInfo := pool [(1, .methodref 2 3), (0, .class_ 4), (0, .nameAndType 5 6), (0, u "java/lang/Record"), (0, u "<init>"), (0, u "()V"), (10, .fieldref 18 19), (0, .class_ 20), (0, .nameAndType 21 22), (0, u "com/example/uneasy_crown/uneasycrown/election/Timing"), (0, u "periodMs"), (0, u "J"), (0, .fieldref 18 24), (0, .nameAndType 25 22), (0, u "timeoutMs"), (12, u "(JJ)V"), (4, u "lapsed"), (0, u "(JJ)Z")] 35

def k3c0 : Code := { maxStack := 6, maxLocals := 5, code := prog_56_method_1_code, exceptionTable := #[], attributes := #[] }
def k3m0 : Method := { name := "<init>", desc := "(JJ)V", sig := { parameters := [.long, .long], returnType := none }, accessFlags := 1, code := some k3c0 }
def k3c1 : Code := { maxStack := 4, maxLocals := 5, code := prog_56_method_2_code, exceptionTable := #[], attributes := #[] }
def k3m1 : Method := { name := "lapsed", desc := "(JJ)Z", sig := { parameters := [.long, .long], returnType := some .boolean }, accessFlags := 1, code := some k3c1 }
/-- com/example/uneasy_crown/uneasycrown/election/Timing -/
def k3 : Class := { plain "com/example/uneasy_crown/uneasycrown/election/Timing" (some 2) with
  accessFlags := 49
  interfaces := #[]
  cf := some (fileOf pool3 18 #[] #[{ accessFlags := 1, nameIndex := 5, descriptorIndex := 38, attributes := #[] }, { accessFlags := 1, nameIndex := 43, descriptorIndex := 44, attributes := #[] }] 49 2 #[] #[{ accessFlags := 18, nameIndex := 21, descriptorIndex := 22, attributes := #[] }, { accessFlags := 18, nameIndex := 25, descriptorIndex := 22, attributes := #[] }])
  fields := #[{ name := "periodMs", type := .long, accessFlags := 18, slot := 0, constantValue := 0 }, { name := "timeoutMs", type := .long, accessFlags := 18, slot := 1, constantValue := 0 }]
  methods := #[k3m0, k3m1]
  instanceTypes := #[.long, .long]
  staticTypes := #[]
  resolved := Array.replicate 80 none
  statics := none }

def pool4 : Array CpInfo := pool [(1, u "java/lang/Cloneable"), (0, .class_ 1), (0, u "java/lang/Object"), (0, .class_ 3)] 3

/-- java/lang/Cloneable -/
def k4 : Class := { plain "java/lang/Cloneable" (some 0) with
  accessFlags := 1537
  interfaces := #[]
  cf := some (fileOf pool4 2 #[] #[] 1537 4 #[] #[])
  fields := #[]
  methods := #[]
  instanceTypes := #[]
  staticTypes := #[]
  resolved := Array.replicate 8 none
  statics := none }

def pool5 : Array CpInfo := pool [(1, u "java/io/Serializable"), (0, .class_ 1), (0, u "java/lang/Object"), (0, .class_ 3)] 3

/-- java/io/Serializable -/
def k5 : Class := { plain "java/io/Serializable" (some 0) with
  accessFlags := 1537
  interfaces := #[]
  cf := some (fileOf pool5 2 #[] #[] 1537 4 #[] #[])
  fields := #[]
  methods := #[]
  instanceTypes := #[]
  staticTypes := #[]
  resolved := Array.replicate 8 none
  statics := none }

/-- the primitive byte -/
def k6 : Class := { plain "byte" none with kind := .primitive 'B', accessFlags := 0x411 }
/-- [B -/
def k7 : Class := { plain "[B" (some 0) with kind := .array 6 .byte, interfaces := #[4, 5], accessFlags := 1041 }

def heap : Heap := #[]
def classes : Array Class := #[k0, k1, k2, k3, k4, k5, k6, k7]
def interned : List (Array UInt16 × Addr) := []
def slotsUsed : Nat := 0
def theMethod : MethodId := ⟨1, 1⟩
def args0 : Array Value := #[.long 5, .long 6, .long 7, .long 8]
def aboutOver (below : List Frame) : State where
  vm := { classes := classes, interned := interned.toArray }
  heap := heap
  slotsUsed := slotsUsed
  threads := #[{ frames := .invoking theMethod args0 :: below }]
def below0 : List Frame := [.native { method := ⟨0, 0⟩, args := #[] }]
def about1 : State := aboutOver below0
def p0 : Program := .bare "" "" ""
def e0 : Env := launch0.env 0 0 0
theorem w_frames : about1.frames = Frame.invoking theMethod args0 :: below0 := rfl
set_option maxRecDepth 65536 in
theorem w_args : argsFit about1.vm theMethod args0 = true := by decide +kernel
set_option maxRecDepth 65536 in
theorem w_heap : heapFits about1 = true := by decide +kernel
set_option maxRecDepth 65536 in
theorem w_runnable : about1.curStatus? = some .runnable := by decide +kernel
set_option maxRecDepth 65536 in
theorem w_alone : about1.alone = true := by decide +kernel
set_option maxRecDepth 65536 in
theorem w_named : about1.methodNamed? x = some theMethod := by decide +kernel
set_option maxRecDepth 65536 in
theorem w_hears : about1.hears theMethod below0 = true := by decide +kernel
set_option maxRecDepth 65536 in
theorem w_ripe : about1.ripe theMethod args0 below0 = true := by decide +kernel
theorem w_running : about1.status = .running := rfl
set_option maxRecDepth 65536 in
theorem w_room : about1.hasRoom e0.platform room_1 = true :=
  launch0.hasRoom_least _ room_1 (by decide +kernel) (by decide +kernel) (by decide +kernel) (by decide +kernel) (by decide +kernel) (by decide +kernel)
theorem allAtoms_all (ts : List Jvm.Cond) (a : Array Jvm.Value) (st : Jvm.State) : (allAtoms ts).before a st = ts.all (fun c => c.before a st) := by
  induction ts with
  | nil => rfl
  | cons c t ih =>
    show (Jvm.Cond.and c (allAtoms t)).before a st = _
    rw [Jvm.Cond.before_and, ih, List.all_cons]
def words1 : List Jvm.Cond := Jvm.Cond.code x code maxLocals ret :: tables_1
/-- a 'code' word, met by the world's own term for the bytes: nothing is compared byte by byte -/
theorem code_word {y : MethodName} {bytes : ByteArray} {mx : Nat} {rt : Option FieldType} {a : Array Value} {s : State} {m : MethodId} {meth : Method} {c : Code} (h1 : s.methodNamed? y = some m) (h2 : s.vm.method? m = some meth) (h3 : meth.code = some c) (h4 : c.code = bytes)
    (h5 : (c.maxLocals == mx && c.exceptionTable.isEmpty && decide (c.maxStack ≤ mostOperands) && decide (meth.sig.returnType = rt) && !meth.locks && decide (parseMethodDescriptor y.desc = some meth.sig)) = true) : (Jvm.Cond.code y bytes mx rt).before a s = true := by
  simp only [Bool.and_eq_true, beq_iff_eq, Bool.not_eq_true', decide_eq_true_eq] at h5
  obtain ⟨⟨⟨⟨⟨g1, g2⟩, g3⟩, g4⟩, g5⟩, g6⟩ := h5
  simp [Cond.before, Cond.holds, Cond.value, h1, h2, h3, h4, g1, g2, g3, g4, g5, g6]
def isCode : Jvm.Cond → Bool
  | .code _ _ _ _ => true
  | _ => false
theorem all_split {L : List Jvm.Cond} {P : Jvm.Cond → Bool} (h1 : L.all (fun c => isCode c || P c) = true) (h2 : ∀ c ∈ L.filter isCode, P c = true) : L.all P = true := by
  refine List.all_eq_true.mpr fun c hc => ?_
  have h := List.all_eq_true.mp h1 c hc
  rcases Bool.eq_false_or_eq_true (isCode c) with hi | hi
  · exact h2 c (List.mem_filter.mpr ⟨hc, hi⟩)
  · simpa [hi] using h
set_option maxRecDepth 65536 in
theorem w_c0 : (Jvm.Cond.code x code maxLocals ret).before args0 about1 = true := code_word (m := ⟨1, 1⟩) (meth := k1m1) (c := k1c1) (by decide +kernel) rfl rfl rfl (by decide +kernel)
set_option maxRecDepth 65536 in
theorem w_c1 : (Jvm.Cond.code ({ cls := "com/example/uneasy_crown/uneasycrown/election/Timing", name := "<init>", desc := "(JJ)V" } : Jvm.MethodName) prog_56_method_1_code (5 : Nat) (Option.none : Option Jvm.ClassFile.FieldType)).before args0 about1 = true := code_word (m := ⟨3, 0⟩) (meth := k3m0) (c := k3c0) (by decide +kernel) rfl rfl rfl (by decide +kernel)
set_option maxRecDepth 65536 in
theorem w_c2 : (Jvm.Cond.code ({ cls := "java/lang/Record", name := "<init>", desc := "()V" } : Jvm.MethodName) jdk_30_method_1_code (1 : Nat) (Option.none : Option Jvm.ClassFile.FieldType)).before args0 about1 = true := code_word (m := ⟨2, 0⟩) (meth := k2m0) (c := k2c0) (by decide +kernel) rfl rfl rfl (by decide +kernel)
set_option maxRecDepth 65536 in
theorem w_c3 : (Jvm.Cond.code ({ cls := "java/lang/Object", name := "<init>", desc := "()V" } : Jvm.MethodName) object_method_1_code (1 : Nat) (Option.none : Option Jvm.ClassFile.FieldType)).before args0 about1 = true := code_word (m := ⟨0, 0⟩) (meth := k0m0) (c := k0c0) (by decide +kernel) rfl rfl rfl (by decide +kernel)
set_option maxRecDepth 65536 in
theorem w_c4 : (Jvm.Cond.code ({ cls := "com/example/uneasy_crown/uneasycrown/election/Timing", name := "lapsed", desc := "(JJ)Z" } : Jvm.MethodName) prog_56_method_2_code (5 : Nat) (Option.some Jvm.ClassFile.FieldType.boolean)).before args0 about1 = true := code_word (m := ⟨3, 1⟩) (meth := k3m1) (c := k3c1) (by decide +kernel) rfl rfl rfl (by decide +kernel)
def codes1 : List Jvm.Cond := [Jvm.Cond.code x code maxLocals ret, Jvm.Cond.code ({ cls := "com/example/uneasy_crown/uneasycrown/election/Timing", name := "<init>", desc := "(JJ)V" } : Jvm.MethodName) prog_56_method_1_code (5 : Nat) (Option.none : Option Jvm.ClassFile.FieldType), Jvm.Cond.code ({ cls := "java/lang/Record", name := "<init>", desc := "()V" } : Jvm.MethodName) jdk_30_method_1_code (1 : Nat) (Option.none : Option Jvm.ClassFile.FieldType), Jvm.Cond.code ({ cls := "java/lang/Object", name := "<init>", desc := "()V" } : Jvm.MethodName) object_method_1_code (1 : Nat) (Option.none : Option Jvm.ClassFile.FieldType), Jvm.Cond.code ({ cls := "com/example/uneasy_crown/uneasycrown/election/Timing", name := "lapsed", desc := "(JJ)Z" } : Jvm.MethodName) prog_56_method_2_code (5 : Nat) (Option.some Jvm.ClassFile.FieldType.boolean)]
set_option maxRecDepth 65536 in
theorem codes_eq : words1.filter isCode = codes1 := rfl
theorem w_codes : ∀ c ∈ words1.filter isCode, c.before args0 about1 = true := by
  rw [codes_eq]
  intro c hc
  simp only [codes1, List.mem_cons, List.not_mem_nil, or_false] at hc
  rcases hc with rfl | rfl | rfl | rfl | rfl
  · exact w_c0
  · exact w_c1
  · exact w_c2
  · exact w_c3
  · exact w_c4
set_option maxRecDepth 65536 in
theorem w_t1 : (words1.take 24).all (fun c => isCode c || c.before args0 about1) = true := by decide +kernel
set_option maxRecDepth 65536 in
theorem w_t2 : (words1.drop 24).all (fun c => isCode c || c.before args0 about1) = true := by decide +kernel
theorem w_tables : (allAtoms (Jvm.Cond.code x code maxLocals ret :: tables_1)).before args0 about1 = true := by
  rw [allAtoms_all]
  show words1.all (fun c => c.before args0 about1) = true
  refine all_split ?_ w_codes
  rw [← List.take_append_drop 24 words1, List.all_append, w_t1, w_t2]
  rfl
set_option maxRecDepth 65536 in
theorem w_case : (Jvm.Cond.and given_1 narrow_1).before args0 about1 = true := by decide +kernel
theorem w_applies : (headSpec (Jvm.Cond.code x code maxLocals ret :: tables_1) room_1).applies x e0.platform about1 = true :=
  (Spec.applies_iff w_frames).mpr ⟨w_running, w_runnable, w_alone, w_named, w_hears, w_ripe, w_room, w_tables⟩
theorem atStart : AtStart classFile x code maxLocals ret World_1 tables_1 room_1 Calls_1 rest_1 Pre_1 launch0 p0 e0 about1 theMethod args0 below0 :=
  ⟨lists_1, trivial, launch0.admits_env _ _ _, launch0.least_env, fairChoices_fair.cas, fairChoices_fair.clock, w_frames, w_args, w_heap, w_applies, trivial, trivial, w_case⟩
end start1
theorem witness_1 : WitnessClaimed_1 := ⟨start1.p0, start1.e0, start1.about1, start1.theMethod, start1.args0, start1.below0, start1.atStart⟩
end Jvm.Pilot.@@N@@
