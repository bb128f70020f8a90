import JvmDerived
import JvmDerived.Pilot.@@N@@Statement
import JvmDerived.Pilot.@@N@@Code
set_option linter.unusedVariables false
set_option linter.unusedSimpArgs false
namespace Jvm.RoadKit
open Sem ClassFile Op Lib Jvm.Stand Jvm.Free Jvm.LawKit
section New
variable {p : Program} {l : Launch} {e : Env} {R : Room} {s : State} {m : MethodId} {args : Array Value} {below : List Frame} {meth : Method} {c : Code} {T : State} {locs : List Loc} {cells slots : Nat}
theorem retI (X : Stand p l e R s m args below meth c T locs cells slots) (hx : p.tables.exec = Jvm.exec) {pc : Nat} {Ls : Array Slot} {z : Int32} {rest : List Value} (hret : meth.sig.returnType = some .int) (hd : decode c.code pc = .ok (.ireturn, 1)) {fs : List Frame}
    (hl : ∀ (f : JFrame) (acts : List Action), f.method = m → f.locked = none → f.entered = [] → (doReturn e (T.setTop f) acts (some (.int z))).1 = T.setFrames fs) : Steps p.tables e below (T.setTop (mkF m pc Ls (.int z :: rest))) (T.setFrames fs) := by
  have hm' : T.vm.method? m = some meth := X.method'
  have hn : narrow .int (.int z) = .int z := rfl
  show Steps p.tables e below (T.setTop { method := m, pc := pc, locals := Ls, stack := _ :: rest, locked := none }) _
  jvm_step X.here [X.here.top, hx, hd, hm', hret, hn]
  first | (intro acts; rw [hl _ acts rfl rfl rfl]) | rw [hl _ _ rfl rfl rfl]
  exact Steps.refl _
end New
end Jvm.RoadKit
namespace Jvm.Pilot.@@N@@
open Jvm Jvm.ClassFile Sem Op Lib Jvm.Free Jvm.Stand Jvm.LawKit Jvm.RoadKit Bundle Jvm.Pilot.@@N@@.Jvm.D
theorem pn_0 : plainName "com/example/narrow_json/narrowjson/JsonSignature" = true := by first | (simp [plainName, overriddenIn]; done) | decide +kernel
theorem pn_1 : plainName "com/example/narrow_json/narrowjson/JsonSignatureIsBase64UrlCharPinLaw" = true := by first | (simp [plainName, overriddenIn]; done) | decide +kernel
theorem pd_0 : parseMethodDescriptor "(I)Z" = some ⟨[.int], some .boolean⟩ := by decide +kernel
theorem d1_0 : decode prog_24_method_13_code 0 = .ok (.iload_n 0, 1) := by decide +kernel
theorem d1_1 : decode prog_24_method_13_code 1 = .ok (.bipush 65, 2) := by decide +kernel
theorem d1_3 : decode prog_24_method_13_code 3 = .ok (.if_icmp .lt 9, 3) := by decide +kernel
theorem d1_6 : decode prog_24_method_13_code 6 = .ok (.iload_n 0, 1) := by decide +kernel
theorem d1_7 : decode prog_24_method_13_code 7 = .ok (.bipush 90, 2) := by decide +kernel
theorem d1_9 : decode prog_24_method_13_code 9 = .ok (.if_icmp .le 39, 3) := by decide +kernel
theorem d1_12 : decode prog_24_method_13_code 12 = .ok (.iload_n 0, 1) := by decide +kernel
theorem d1_13 : decode prog_24_method_13_code 13 = .ok (.bipush 97, 2) := by decide +kernel
theorem d1_15 : decode prog_24_method_13_code 15 = .ok (.if_icmp .lt 9, 3) := by decide +kernel
theorem d1_18 : decode prog_24_method_13_code 18 = .ok (.iload_n 0, 1) := by decide +kernel
theorem d1_19 : decode prog_24_method_13_code 19 = .ok (.bipush 122, 2) := by decide +kernel
theorem d1_21 : decode prog_24_method_13_code 21 = .ok (.if_icmp .le 27, 3) := by decide +kernel
theorem d1_24 : decode prog_24_method_13_code 24 = .ok (.iload_n 0, 1) := by decide +kernel
theorem d1_25 : decode prog_24_method_13_code 25 = .ok (.bipush 48, 2) := by decide +kernel
theorem d1_27 : decode prog_24_method_13_code 27 = .ok (.if_icmp .lt 9, 3) := by decide +kernel
theorem d1_30 : decode prog_24_method_13_code 30 = .ok (.iload_n 0, 1) := by decide +kernel
theorem d1_31 : decode prog_24_method_13_code 31 = .ok (.bipush 57, 2) := by decide +kernel
theorem d1_33 : decode prog_24_method_13_code 33 = .ok (.if_icmp .le 15, 3) := by decide +kernel
theorem d1_36 : decode prog_24_method_13_code 36 = .ok (.iload_n 0, 1) := by decide +kernel
theorem d1_37 : decode prog_24_method_13_code 37 = .ok (.bipush 45, 2) := by decide +kernel
theorem d1_39 : decode prog_24_method_13_code 39 = .ok (.if_icmp .eq 9, 3) := by decide +kernel
theorem d1_42 : decode prog_24_method_13_code 42 = .ok (.iload_n 0, 1) := by decide +kernel
theorem d1_43 : decode prog_24_method_13_code 43 = .ok (.bipush 95, 2) := by decide +kernel
theorem d1_45 : decode prog_24_method_13_code 45 = .ok (.if_icmp .ne 7, 3) := by decide +kernel
theorem d1_48 : decode prog_24_method_13_code 48 = .ok (.iconst 1, 1) := by decide +kernel
theorem d1_49 : decode prog_24_method_13_code 49 = .ok (.goto 4, 3) := by decide +kernel
theorem d1_52 : decode prog_24_method_13_code 52 = .ok (.iconst 0, 1) := by decide +kernel
theorem d1_53 : decode prog_24_method_13_code 53 = .ok (.ireturn, 1) := by decide +kernel
theorem d2_0 : decode method_3_code 0 = .ok (.iload_n 0, 1) := by decide +kernel
theorem d2_1 : decode method_3_code 1 = .ok (.bipush 32, 2) := by decide +kernel
theorem d2_3 : decode method_3_code 3 = .ok (.ior, 1) := by decide +kernel
theorem d2_4 : decode method_3_code 4 = .ok (.istore_n 1, 1) := by decide +kernel
theorem d2_5 : decode method_3_code 5 = .ok (.iload_n 1, 1) := by decide +kernel
theorem d2_6 : decode method_3_code 6 = .ok (.bipush 97, 2) := by decide +kernel
theorem d2_8 : decode method_3_code 8 = .ok (.isub, 1) := by decide +kernel
theorem d2_9 : decode method_3_code 9 = .ok (.istore_n 2, 1) := by decide +kernel
theorem d2_10 : decode method_3_code 10 = .ok (.iload_n 2, 1) := by decide +kernel
theorem d2_11 : decode method_3_code 11 = .ok (.ifCond .lt 13, 3) := by decide +kernel
theorem d2_14 : decode method_3_code 14 = .ok (.iload_n 2, 1) := by decide +kernel
theorem d2_15 : decode method_3_code 15 = .ok (.bipush 26, 2) := by decide +kernel
theorem d2_17 : decode method_3_code 17 = .ok (.if_icmp .ge 7, 3) := by decide +kernel
theorem d2_20 : decode method_3_code 20 = .ok (.iconst 1, 1) := by decide +kernel
theorem d2_21 : decode method_3_code 21 = .ok (.goto 4, 3) := by decide +kernel
theorem d2_24 : decode method_3_code 24 = .ok (.iconst 0, 1) := by decide +kernel
theorem d2_25 : decode method_3_code 25 = .ok (.istore_n 3, 1) := by decide +kernel
theorem d2_26 : decode method_3_code 26 = .ok (.iload_n 0, 1) := by decide +kernel
theorem d2_27 : decode method_3_code 27 = .ok (.bipush 48, 2) := by decide +kernel
theorem d2_29 : decode method_3_code 29 = .ok (.isub, 1) := by decide +kernel
theorem d2_30 : decode method_3_code 30 = .ok (.istore 4, 2) := by decide +kernel
theorem d2_32 : decode method_3_code 32 = .ok (.iload 4, 2) := by decide +kernel
theorem d2_34 : decode method_3_code 34 = .ok (.ifCond .lt 14, 3) := by decide +kernel
theorem d2_37 : decode method_3_code 37 = .ok (.iload 4, 2) := by decide +kernel
theorem d2_39 : decode method_3_code 39 = .ok (.bipush 10, 2) := by decide +kernel
theorem d2_41 : decode method_3_code 41 = .ok (.if_icmp .ge 7, 3) := by decide +kernel
theorem d2_44 : decode method_3_code 44 = .ok (.iconst 1, 1) := by decide +kernel
theorem d2_45 : decode method_3_code 45 = .ok (.goto 4, 3) := by decide +kernel
theorem d2_48 : decode method_3_code 48 = .ok (.iconst 0, 1) := by decide +kernel
theorem d2_49 : decode method_3_code 49 = .ok (.istore 5, 2) := by decide +kernel
theorem d2_51 : decode method_3_code 51 = .ok (.iload_n 3, 1) := by decide +kernel
theorem d2_52 : decode method_3_code 52 = .ok (.ifCond .ne 20, 3) := by decide +kernel
theorem d2_55 : decode method_3_code 55 = .ok (.iload 5, 2) := by decide +kernel
theorem d2_57 : decode method_3_code 57 = .ok (.ifCond .ne 15, 3) := by decide +kernel
theorem d2_60 : decode method_3_code 60 = .ok (.iload_n 0, 1) := by decide +kernel
theorem d2_61 : decode method_3_code 61 = .ok (.bipush 45, 2) := by decide +kernel
theorem d2_63 : decode method_3_code 63 = .ok (.if_icmp .eq 9, 3) := by decide +kernel
theorem d2_66 : decode method_3_code 66 = .ok (.iload_n 0, 1) := by decide +kernel
theorem d2_67 : decode method_3_code 67 = .ok (.bipush 95, 2) := by decide +kernel
theorem d2_69 : decode method_3_code 69 = .ok (.if_icmp .ne 7, 3) := by decide +kernel
theorem d2_72 : decode method_3_code 72 = .ok (.iconst 1, 1) := by decide +kernel
theorem d2_73 : decode method_3_code 73 = .ok (.goto 4, 3) := by decide +kernel
theorem d2_76 : decode method_3_code 76 = .ok (.iconst 0, 1) := by decide +kernel
theorem d2_77 : decode method_3_code 77 = .ok (.ireturn, 1) := by decide +kernel
def g1_53 (p1 : Int32)  (z53_0 : Int32) : Int32 := (nar .boolean z53_0)
def g1_52 (p1 : Int32)   : Int32 := (g1_53 p1  (0 : Int32))
def g1_48 (p1 : Int32)   : Int32 := (g1_53 p1  (1 : Int32))
def g1_42 (p1 : Int32)   : Int32 := if p1 = (95 : Int32) then (g1_48 p1  ) else (g1_52 p1  )
def g1_36 (p1 : Int32)   : Int32 := if p1 = (45 : Int32) then (g1_48 p1  ) else (g1_42 p1  )
def g1_30 (p1 : Int32)   : Int32 := if (57 : Int32) < p1 then (g1_36 p1  ) else (g1_48 p1  )
def g1_24 (p1 : Int32)   : Int32 := if p1 < (48 : Int32) then (g1_36 p1  ) else (g1_30 p1  )
def g1_18 (p1 : Int32)   : Int32 := if (122 : Int32) < p1 then (g1_24 p1  ) else (g1_48 p1  )
def g1_12 (p1 : Int32)   : Int32 := if p1 < (97 : Int32) then (g1_24 p1  ) else (g1_18 p1  )
def g1_6 (p1 : Int32)   : Int32 := if (90 : Int32) < p1 then (g1_12 p1  ) else (g1_48 p1  )
def g1_0 (p1 : Int32)   : Int32 := if p1 < (65 : Int32) then (g1_12 p1  ) else (g1_6 p1  )
def g2_77 (p1 : Int32)  (z77_0 : Int32) (z77_1 : Int32) (z77_2 : Int32) : Int32 := (nar .boolean z77_2)
def g2_76 (p1 : Int32)  (z76_0 : Int32) (z76_1 : Int32) : Int32 := (g2_77 p1  z76_0 z76_1 (0 : Int32))
def g2_72 (p1 : Int32)  (z72_0 : Int32) (z72_1 : Int32) : Int32 := (g2_77 p1  z72_0 z72_1 (1 : Int32))
def g2_66 (p1 : Int32)  (z66_0 : Int32) (z66_1 : Int32) : Int32 := if p1 = (95 : Int32) then (g2_72 p1  z66_0 z66_1) else (g2_76 p1  z66_0 z66_1)
def g2_60 (p1 : Int32)  (z60_0 : Int32) (z60_1 : Int32) : Int32 := if p1 = (45 : Int32) then (g2_72 p1  z60_0 z60_1) else (g2_66 p1  z60_0 z60_1)
def g2_55 (p1 : Int32)  (z55_0 : Int32) (z55_1 : Int32) : Int32 := if z55_1 = (0 : Int32) then (g2_60 p1  z55_0 z55_1) else (g2_72 p1  z55_0 z55_1)
def g2_49 (p1 : Int32)  (z49_0 : Int32) (z49_1 : Int32) : Int32 := if z49_0 = (0 : Int32) then (g2_55 p1  z49_0 z49_1) else (g2_72 p1  z49_0 z49_1)
def g2_48 (p1 : Int32)  (z48_0 : Int32) : Int32 := (g2_49 p1  z48_0 (0 : Int32))
def g2_44 (p1 : Int32)  (z44_0 : Int32) : Int32 := (g2_49 p1  z44_0 (1 : Int32))
def g2_37 (p1 : Int32)  (z37_0 : Int32) : Int32 := if (p1 - (48 : Int32)) < (10 : Int32) then (g2_44 p1  z37_0) else (g2_48 p1  z37_0)
def g2_25 (p1 : Int32)  (z25_0 : Int32) : Int32 := if (p1 - (48 : Int32)) < (0 : Int32) then (g2_48 p1  z25_0) else (g2_37 p1  z25_0)
def g2_24 (p1 : Int32)   : Int32 := (g2_25 p1  (0 : Int32))
def g2_20 (p1 : Int32)   : Int32 := (g2_25 p1  (1 : Int32))
def g2_14 (p1 : Int32)   : Int32 := if ((p1 ||| (32 : Int32)) - (97 : Int32)) < (26 : Int32) then (g2_20 p1  ) else (g2_24 p1  )
def g2_0 (p1 : Int32)   : Int32 := if ((p1 ||| (32 : Int32)) - (97 : Int32)) < (0 : Int32) then (g2_24 p1  ) else (g2_14 p1  )
theorem own_lo : ∀ n : Nat, n < 128 → g1_0 (Int32.ofNat n) = g2_0 (Int32.ofNat n) := by decide +kernel
theorem own_hi (C : Int32) (h : 128 ≤ C.toInt) : g1_0 C = g2_0 C := by
  have e32 : (32 : Int32).toInt = 32 := rfl
  have q := c_or0 C 32 (by omega) (by decide)
  have hb := C.toInt_lt
  have hb2 := (C ||| (32 : Int32)).toInt_lt
  have l1 : ((C ||| (32 : Int32)) - (97 : Int32)).toInt = (C ||| (32 : Int32)).toInt - 97 := by
    have := c_isub (C ||| (32 : Int32)) 97
    have := rng32 ((C ||| (32 : Int32)) - (97 : Int32))
    have : (97 : Int32).toInt = 97 := rfl
    omega
  have l2 : (C - (48 : Int32)).toInt = C.toInt - 48 := by
    have := c_isub C 48
    have := rng32 (C - (48 : Int32))
    have : (48 : Int32).toInt = 48 := rfl
    omega
  have a1 : ¬ C < (65 : Int32) := by rw [Int32.lt_iff_toInt_lt, show (65 : Int32).toInt = 65 from rfl]; omega
  have a2 : (90 : Int32) < C := by rw [Int32.lt_iff_toInt_lt, show (90 : Int32).toInt = 90 from rfl]; omega
  have a3 : ¬ C < (97 : Int32) := by rw [Int32.lt_iff_toInt_lt, show (97 : Int32).toInt = 97 from rfl]; omega
  have a4 : (122 : Int32) < C := by rw [Int32.lt_iff_toInt_lt, show (122 : Int32).toInt = 122 from rfl]; omega
  have a5 : ¬ C < (48 : Int32) := by rw [Int32.lt_iff_toInt_lt, show (48 : Int32).toInt = 48 from rfl]; omega
  have a6 : (57 : Int32) < C := by rw [Int32.lt_iff_toInt_lt, show (57 : Int32).toInt = 57 from rfl]; omega
  have a7 : ¬ C = (45 : Int32) := by rw [← Int32.toInt_inj, show (45 : Int32).toInt = 45 from rfl]; omega
  have a8 : ¬ C = (95 : Int32) := by rw [← Int32.toInt_inj, show (95 : Int32).toInt = 95 from rfl]; omega
  have c1 : ¬ ((C ||| (32 : Int32)) - (97 : Int32)) < (0 : Int32) := by rw [Int32.lt_iff_toInt_lt, l1, show (0 : Int32).toInt = 0 from rfl]; omega
  have c2 : ¬ ((C ||| (32 : Int32)) - (97 : Int32)) < (26 : Int32) := by rw [Int32.lt_iff_toInt_lt, l1, show (26 : Int32).toInt = 26 from rfl]; omega
  have c3 : ¬ (C - (48 : Int32)) < (0 : Int32) := by rw [Int32.lt_iff_toInt_lt, l2, show (0 : Int32).toInt = 0 from rfl]; omega
  have c4 : ¬ (C - (48 : Int32)) < (10 : Int32) := by rw [Int32.lt_iff_toInt_lt, l2, show (10 : Int32).toInt = 10 from rfl]; omega
  simp only [g1_0, g1_12, g1_18, g1_24, g1_30, g1_36, g1_42, g1_48, g1_52, g1_53, g1_6, g2_0, g2_14, g2_20, g2_24, g2_25, g2_37, g2_44, g2_48, g2_49, g2_55, g2_60, g2_66, g2_72, g2_76, g2_77, a1, a2, a3, a4, a5, a6, a7, a8, c1, c2, c3, c4, if_true, if_false]
theorem own_eq (C : Int32) (h : 0 ≤ C.toInt) : g1_0 C = g2_0 C := by
  by_cases q : C.toInt < 128
  · have e : C = Int32.ofNat C.toInt.toNat := by
      apply Int32.toInt_inj.mp
      rw [Int32.toInt_ofNat_of_lt (by omega)]
      omega
    rw [e]
    exact own_lo _ (by omega)
  · exact own_hi C (by omega)
theorem ef_1 (m : MethodId) (p1 : Int32) : entryFrame m #[(.int p1)] 1 = mkF m 0 #[.val (.int p1)] [] := by first | (simp [entryFrame, mkF, argsToLocals, Value.category]; done) | rfl
def Q1 (Z : State) (p1 : Int32)  (h0 : Heap) (n0 : Nat) (v : Option Value) (h : Heap) (L : List Loc) : Prop := v = some (.int (g1_0 p1 )) ∧ Fr n0 L ∧ h = h0
set_option maxRecDepth 65536 in
set_option maxHeartbeats 40000000 in
theorem rm1 (l : Launch) (Z : State) (a0 : Array Value) (hw : ∀ d ∈ tables_1, d.before a0 Z = true) (ws : List Jvm.Cond) (p1 : Int32)  (h0 : Heap) (n0 : Nat) (Z0 : n0 ≤ h0.size) :
    MetFree l (⟨"com/example/narrow_json/narrowjson/JsonSignature", "isBase64UrlChar", "(I)Z"⟩ : MethodName) (head1 (Jvm.Cond.code (⟨"com/example/narrow_json/narrowjson/JsonSignature", "isBase64UrlChar", "(I)Z"⟩ : MethodName) prog_24_method_13_code 1 (some .boolean) :: ws) ({ frames := 0, cells := 0, slots := 0, locals := 0 } : Room)) (fun a U => a = #[(.int p1)] ∧ Z.Warmed39 U.vm ∧ U.heap = h0) (fun _ _ _ _ _ => True) (fun _ U o U' => ∃ v L, o = .returned v ∧ Q1 Z p1 h0 n0 v U'.heap L ∧ FrameEnd U o U' L ({ frames := 0, cells := 0, slots := 0, locals := 0 } : Room).cells ({ frames := 0, cells := 0, slots := 0, locals := 0 } : Room).slots) := by
  refine MetFree.of_bodySF (plainFor_of_name pn_0) hisR ?_
  intro p e s m args below meth c s₁ Bd hml0 hP hK
  obtain ⟨rfl, hZ, hh⟩ := hP
  have hx := Bd.exec
  have hby := Bd.bytes
  have hml : c.maxLocals = 1 := hml0
  have hown : s.vm.findClass "com/example/narrow_json/narrowjson/JsonSignature" = some m.cls := findClass_of_methodNamed Bd.named
  have hnm := (name_of_methodNamed Bd.named Bd.method).1
  have X0 : Stand p l e ({ frames := 0, cells := 0, slots := 0, locals := 0 } : Room) s m #[(.int p1)] below meth c s₁ [] 0 0 := Stand.of_body Bd
  have e0 : s₁.heap = h0 := by rw [← hh, Bd.state]; rfl
  have N0 := Fr.nil n0
  have pre0 : ∀ t, Steps p.tables e below (s₁.setTop (mkF m 0 #[.val (.int p1)] [])) t → Steps p.tables e below (s₁.setTop (entryFrame m #[(.int p1)] 1)) t := fun t k => castTop (ef_1 m p1) k
  obtain ⟨V, hV⟩ : ∃ V : Int32, V = g1_0 p1  := ⟨_, rfl⟩
  obtain ⟨fs, hr, hrun, hended, hW, hsame⟩ := X0.leave (v := some (.int V)) (fun h => by rw [Bd.returns] at h; cases h)
  have b53 : ∀ (z53_0 : Int32), V = (g1_53 p1  z53_0) → Steps p.tables e below (s₁.setTop (mkF m 53 #[.val (.int p1)] [(.int z53_0)])) (s₁.setFrames fs) := by
    intro z53_0 hv
    show Steps p.tables e below (s₁.setTop (mkF m 53 #[.val (.int p1)] [(.int z53_0)])) _
    have hv' : V = (nar .boolean z53_0) := hv
    clear hv
    subst hv'
    exact retN X0 hx (t := .boolean) Bd.returns (by simp) (hb hby d1_53) hr
  have b52 : V = (g1_52 p1  ) → Steps p.tables e below (s₁.setTop (mkF m 52 #[.val (.int p1)] [])) (s₁.setFrames fs) := by
    intro  hv
    show Steps p.tables e below (s₁.setTop (mkF m 52 #[.val (.int p1)] [])) _
    refine XS.iconst X0.here hx rfl (hb hby d1_52) ?_
    show Steps p.tables e below (s₁.setTop (mkF m 53 #[.val (.int p1)] [(.int (0 : Int32))])) _
    exact b53 (0 : Int32) hv
  have b48 : V = (g1_48 p1  ) → Steps p.tables e below (s₁.setTop (mkF m 48 #[.val (.int p1)] [])) (s₁.setFrames fs) := by
    intro  hv
    show Steps p.tables e below (s₁.setTop (mkF m 48 #[.val (.int p1)] [])) _
    refine XS.iconst X0.here hx rfl (hb hby d1_48) ?_
    show Steps p.tables e below (s₁.setTop (mkF m 49 #[.val (.int p1)] [(.int (1 : Int32))])) _
    refine XS.goto X0.here hx rfl (pc0 := 49) (pc' := 53) rfl (hb hby d1_49) (by decide) (by decide) ?_
    show Steps p.tables e below (s₁.setTop (mkF m 53 #[.val (.int p1)] [(.int (1 : Int32))])) _
    exact b53 (1 : Int32) hv
  have b42 : V = (g1_42 p1  ) → Steps p.tables e below (s₁.setTop (mkF m 42 #[.val (.int p1)] [])) (s₁.setFrames fs) := by
    intro  hv
    show Steps p.tables e below (s₁.setTop (mkF m 42 #[.val (.int p1)] [])) _
    refine XS.iloadN X0.here hx rfl (hb hby d1_42) rfl ?_
    show Steps p.tables e below (s₁.setTop (mkF m 43 #[.val (.int p1)] [(.int p1)])) _
    refine XS.bipush X0.here hx rfl (hb hby d1_43) ?_
    show Steps p.tables e below (s₁.setTop (mkF m 45 #[.val (.int p1)] [(.int (95 : Int32)), (.int p1)])) _
    by_cases hc : p1 = (95 : Int32)
    · refine XS.icmpNo X0.here hx rfl (hb hby d1_45) rfl (teq hc).2 ?_
      show Steps p.tables e below (s₁.setTop (mkF m 48 #[.val (.int p1)] [])) _
      exact b48  (hv.trans (show (g1_42 p1  ) = (g1_48 p1  ) from if_pos hc))
    · refine XS.icmpYes X0.here hx rfl (pc0 := 45) (pc' := 52) rfl (hb hby d1_45) rfl (feq hc).2 (by decide) (by decide) ?_
      show Steps p.tables e below (s₁.setTop (mkF m 52 #[.val (.int p1)] [])) _
      exact b52  (hv.trans (show (g1_42 p1  ) = (g1_52 p1  ) from if_neg hc))
  have b36 : V = (g1_36 p1  ) → Steps p.tables e below (s₁.setTop (mkF m 36 #[.val (.int p1)] [])) (s₁.setFrames fs) := by
    intro  hv
    show Steps p.tables e below (s₁.setTop (mkF m 36 #[.val (.int p1)] [])) _
    refine XS.iloadN X0.here hx rfl (hb hby d1_36) rfl ?_
    show Steps p.tables e below (s₁.setTop (mkF m 37 #[.val (.int p1)] [(.int p1)])) _
    refine XS.bipush X0.here hx rfl (hb hby d1_37) ?_
    show Steps p.tables e below (s₁.setTop (mkF m 39 #[.val (.int p1)] [(.int (45 : Int32)), (.int p1)])) _
    by_cases hc : p1 = (45 : Int32)
    · refine XS.icmpYes X0.here hx rfl (pc0 := 39) (pc' := 48) rfl (hb hby d1_39) rfl (teq hc).1 (by decide) (by decide) ?_
      show Steps p.tables e below (s₁.setTop (mkF m 48 #[.val (.int p1)] [])) _
      exact b48  (hv.trans (show (g1_36 p1  ) = (g1_48 p1  ) from if_pos hc))
    · refine XS.icmpNo X0.here hx rfl (hb hby d1_39) rfl (feq hc).1 ?_
      show Steps p.tables e below (s₁.setTop (mkF m 42 #[.val (.int p1)] [])) _
      exact b42  (hv.trans (show (g1_36 p1  ) = (g1_42 p1  ) from if_neg hc))
  have b30 : V = (g1_30 p1  ) → Steps p.tables e below (s₁.setTop (mkF m 30 #[.val (.int p1)] [])) (s₁.setFrames fs) := by
    intro  hv
    show Steps p.tables e below (s₁.setTop (mkF m 30 #[.val (.int p1)] [])) _
    refine XS.iloadN X0.here hx rfl (hb hby d1_30) rfl ?_
    show Steps p.tables e below (s₁.setTop (mkF m 31 #[.val (.int p1)] [(.int p1)])) _
    refine XS.bipush X0.here hx rfl (hb hby d1_31) ?_
    show Steps p.tables e below (s₁.setTop (mkF m 33 #[.val (.int p1)] [(.int (57 : Int32)), (.int p1)])) _
    by_cases hc : (57 : Int32) < p1
    · refine XS.icmpNo X0.here hx rfl (hb hby d1_33) rfl (tlt hc).2.2.2 ?_
      show Steps p.tables e below (s₁.setTop (mkF m 36 #[.val (.int p1)] [])) _
      exact b36  (hv.trans (show (g1_30 p1  ) = (g1_36 p1  ) from if_pos hc))
    · refine XS.icmpYes X0.here hx rfl (pc0 := 33) (pc' := 48) rfl (hb hby d1_33) rfl (flt hc).2.2.2 (by decide) (by decide) ?_
      show Steps p.tables e below (s₁.setTop (mkF m 48 #[.val (.int p1)] [])) _
      exact b48  (hv.trans (show (g1_30 p1  ) = (g1_48 p1  ) from if_neg hc))
  have b24 : V = (g1_24 p1  ) → Steps p.tables e below (s₁.setTop (mkF m 24 #[.val (.int p1)] [])) (s₁.setFrames fs) := by
    intro  hv
    show Steps p.tables e below (s₁.setTop (mkF m 24 #[.val (.int p1)] [])) _
    refine XS.iloadN X0.here hx rfl (hb hby d1_24) rfl ?_
    show Steps p.tables e below (s₁.setTop (mkF m 25 #[.val (.int p1)] [(.int p1)])) _
    refine XS.bipush X0.here hx rfl (hb hby d1_25) ?_
    show Steps p.tables e below (s₁.setTop (mkF m 27 #[.val (.int p1)] [(.int (48 : Int32)), (.int p1)])) _
    by_cases hc : p1 < (48 : Int32)
    · refine XS.icmpYes X0.here hx rfl (pc0 := 27) (pc' := 36) rfl (hb hby d1_27) rfl (tlt hc).1 (by decide) (by decide) ?_
      show Steps p.tables e below (s₁.setTop (mkF m 36 #[.val (.int p1)] [])) _
      exact b36  (hv.trans (show (g1_24 p1  ) = (g1_36 p1  ) from if_pos hc))
    · refine XS.icmpNo X0.here hx rfl (hb hby d1_27) rfl (flt hc).1 ?_
      show Steps p.tables e below (s₁.setTop (mkF m 30 #[.val (.int p1)] [])) _
      exact b30  (hv.trans (show (g1_24 p1  ) = (g1_30 p1  ) from if_neg hc))
  have b18 : V = (g1_18 p1  ) → Steps p.tables e below (s₁.setTop (mkF m 18 #[.val (.int p1)] [])) (s₁.setFrames fs) := by
    intro  hv
    show Steps p.tables e below (s₁.setTop (mkF m 18 #[.val (.int p1)] [])) _
    refine XS.iloadN X0.here hx rfl (hb hby d1_18) rfl ?_
    show Steps p.tables e below (s₁.setTop (mkF m 19 #[.val (.int p1)] [(.int p1)])) _
    refine XS.bipush X0.here hx rfl (hb hby d1_19) ?_
    show Steps p.tables e below (s₁.setTop (mkF m 21 #[.val (.int p1)] [(.int (122 : Int32)), (.int p1)])) _
    by_cases hc : (122 : Int32) < p1
    · refine XS.icmpNo X0.here hx rfl (hb hby d1_21) rfl (tlt hc).2.2.2 ?_
      show Steps p.tables e below (s₁.setTop (mkF m 24 #[.val (.int p1)] [])) _
      exact b24  (hv.trans (show (g1_18 p1  ) = (g1_24 p1  ) from if_pos hc))
    · refine XS.icmpYes X0.here hx rfl (pc0 := 21) (pc' := 48) rfl (hb hby d1_21) rfl (flt hc).2.2.2 (by decide) (by decide) ?_
      show Steps p.tables e below (s₁.setTop (mkF m 48 #[.val (.int p1)] [])) _
      exact b48  (hv.trans (show (g1_18 p1  ) = (g1_48 p1  ) from if_neg hc))
  have b12 : V = (g1_12 p1  ) → Steps p.tables e below (s₁.setTop (mkF m 12 #[.val (.int p1)] [])) (s₁.setFrames fs) := by
    intro  hv
    show Steps p.tables e below (s₁.setTop (mkF m 12 #[.val (.int p1)] [])) _
    refine XS.iloadN X0.here hx rfl (hb hby d1_12) rfl ?_
    show Steps p.tables e below (s₁.setTop (mkF m 13 #[.val (.int p1)] [(.int p1)])) _
    refine XS.bipush X0.here hx rfl (hb hby d1_13) ?_
    show Steps p.tables e below (s₁.setTop (mkF m 15 #[.val (.int p1)] [(.int (97 : Int32)), (.int p1)])) _
    by_cases hc : p1 < (97 : Int32)
    · refine XS.icmpYes X0.here hx rfl (pc0 := 15) (pc' := 24) rfl (hb hby d1_15) rfl (tlt hc).1 (by decide) (by decide) ?_
      show Steps p.tables e below (s₁.setTop (mkF m 24 #[.val (.int p1)] [])) _
      exact b24  (hv.trans (show (g1_12 p1  ) = (g1_24 p1  ) from if_pos hc))
    · refine XS.icmpNo X0.here hx rfl (hb hby d1_15) rfl (flt hc).1 ?_
      show Steps p.tables e below (s₁.setTop (mkF m 18 #[.val (.int p1)] [])) _
      exact b18  (hv.trans (show (g1_12 p1  ) = (g1_18 p1  ) from if_neg hc))
  have b6 : V = (g1_6 p1  ) → Steps p.tables e below (s₁.setTop (mkF m 6 #[.val (.int p1)] [])) (s₁.setFrames fs) := by
    intro  hv
    show Steps p.tables e below (s₁.setTop (mkF m 6 #[.val (.int p1)] [])) _
    refine XS.iloadN X0.here hx rfl (hb hby d1_6) rfl ?_
    show Steps p.tables e below (s₁.setTop (mkF m 7 #[.val (.int p1)] [(.int p1)])) _
    refine XS.bipush X0.here hx rfl (hb hby d1_7) ?_
    show Steps p.tables e below (s₁.setTop (mkF m 9 #[.val (.int p1)] [(.int (90 : Int32)), (.int p1)])) _
    by_cases hc : (90 : Int32) < p1
    · refine XS.icmpNo X0.here hx rfl (hb hby d1_9) rfl (tlt hc).2.2.2 ?_
      show Steps p.tables e below (s₁.setTop (mkF m 12 #[.val (.int p1)] [])) _
      exact b12  (hv.trans (show (g1_6 p1  ) = (g1_12 p1  ) from if_pos hc))
    · refine XS.icmpYes X0.here hx rfl (pc0 := 9) (pc' := 48) rfl (hb hby d1_9) rfl (flt hc).2.2.2 (by decide) (by decide) ?_
      show Steps p.tables e below (s₁.setTop (mkF m 48 #[.val (.int p1)] [])) _
      exact b48  (hv.trans (show (g1_6 p1  ) = (g1_48 p1  ) from if_neg hc))
  have b0 : V = (g1_0 p1  ) → Steps p.tables e below (s₁.setTop (mkF m 0 #[.val (.int p1)] [])) (s₁.setFrames fs) := by
    intro  hv
    show Steps p.tables e below (s₁.setTop (mkF m 0 #[.val (.int p1)] [])) _
    refine XS.iloadN X0.here hx rfl (hb hby d1_0) rfl ?_
    show Steps p.tables e below (s₁.setTop (mkF m 1 #[.val (.int p1)] [(.int p1)])) _
    refine XS.bipush X0.here hx rfl (hb hby d1_1) ?_
    show Steps p.tables e below (s₁.setTop (mkF m 3 #[.val (.int p1)] [(.int (65 : Int32)), (.int p1)])) _
    by_cases hc : p1 < (65 : Int32)
    · refine XS.icmpYes X0.here hx rfl (pc0 := 3) (pc' := 12) rfl (hb hby d1_3) rfl (tlt hc).1 (by decide) (by decide) ?_
      show Steps p.tables e below (s₁.setTop (mkF m 12 #[.val (.int p1)] [])) _
      exact b12  (hv.trans (show (g1_0 p1  ) = (g1_12 p1  ) from if_pos hc))
    · refine XS.icmpNo X0.here hx rfl (hb hby d1_3) rfl (flt hc).1 ?_
      show Steps p.tables e below (s₁.setTop (mkF m 6 #[.val (.int p1)] [])) _
      exact b6  (hv.trans (show (g1_0 p1  ) = (g1_6 p1  ) from if_neg hc))
  refine ⟨_, _, pre0 _ (b0 hV), hrun, hended, _, _, rfl, ?_, ⟨_, rfl⟩, hW, hsame.mono (by decide) (by decide)⟩
  show Q1 Z p1  h0 n0 _ s₁.heap _
  rw [e0, hV]
  exact ⟨rfl, N0, rfl⟩
theorem ef_2 (m : MethodId) (p1 : Int32) : entryFrame m #[(.int p1)] 6 = mkF m 0 #[.val (.int p1), .unset, .unset, .unset, .unset, .unset] [] := by first | (simp [entryFrame, mkF, argsToLocals, Value.category]; done) | rfl
def Q2 (Z : State) (p1 : Int32)  (h0 : Heap) (n0 : Nat) (v : Option Value) (h : Heap) (L : List Loc) : Prop := v = some (.int (g2_0 p1 )) ∧ Fr n0 L ∧ h = h0
set_option maxRecDepth 65536 in
set_option maxHeartbeats 40000000 in
theorem rm2 (l : Launch) (Z : State) (a0 : Array Value) (hw : ∀ d ∈ tables_1, d.before a0 Z = true) (ws : List Jvm.Cond) (p1 : Int32)  (h0 : Heap) (n0 : Nat) (Z0 : n0 ≤ h0.size) :
    MetFree l (⟨"com/example/narrow_json/narrowjson/JsonSignatureIsBase64UrlCharPinLaw", "expected", "(I)Z"⟩ : MethodName) (head1 (Jvm.Cond.code (⟨"com/example/narrow_json/narrowjson/JsonSignatureIsBase64UrlCharPinLaw", "expected", "(I)Z"⟩ : MethodName) method_3_code 6 (some .boolean) :: ws) ({ frames := 0, cells := 0, slots := 0, locals := 0 } : Room)) (fun a U => a = #[(.int p1)] ∧ Z.Warmed39 U.vm ∧ U.heap = h0) (fun _ _ _ _ _ => True) (fun _ U o U' => ∃ v L, o = .returned v ∧ Q2 Z p1 h0 n0 v U'.heap L ∧ FrameEnd U o U' L ({ frames := 0, cells := 0, slots := 0, locals := 0 } : Room).cells ({ frames := 0, cells := 0, slots := 0, locals := 0 } : Room).slots) := by
  refine MetFree.of_bodySF (plainFor_of_name pn_1) hisR ?_
  intro p e s m args below meth c s₁ Bd hml0 hP hK
  obtain ⟨rfl, hZ, hh⟩ := hP
  have hx := Bd.exec
  have hby := Bd.bytes
  have hml : c.maxLocals = 6 := hml0
  have hown : s.vm.findClass "com/example/narrow_json/narrowjson/JsonSignatureIsBase64UrlCharPinLaw" = some m.cls := findClass_of_methodNamed Bd.named
  have hnm := (name_of_methodNamed Bd.named Bd.method).1
  have X0 : Stand p l e ({ frames := 0, cells := 0, slots := 0, locals := 0 } : Room) s m #[(.int p1)] below meth c s₁ [] 0 0 := Stand.of_body Bd
  have e0 : s₁.heap = h0 := by rw [← hh, Bd.state]; rfl
  have N0 := Fr.nil n0
  have pre0 : ∀ t, Steps p.tables e below (s₁.setTop (mkF m 0 #[.val (.int p1), .unset, .unset, .unset, .unset, .unset] [])) t → Steps p.tables e below (s₁.setTop (entryFrame m #[(.int p1)] 6)) t := fun t k => castTop (ef_2 m p1) k
  obtain ⟨V, hV⟩ : ∃ V : Int32, V = g2_0 p1  := ⟨_, rfl⟩
  obtain ⟨fs, hr, hrun, hended, hW, hsame⟩ := X0.leave (v := some (.int V)) (fun h => by rw [Bd.returns] at h; cases h)
  have b77 : ∀ (z77_0 : Int32) (z77_1 : Int32) (z77_2 : Int32), V = (g2_77 p1  z77_0 z77_1 z77_2) → Steps p.tables e below (s₁.setTop (mkF m 77 #[.val (.int p1), .val (.int (p1 ||| (32 : Int32))), .val (.int ((p1 ||| (32 : Int32)) - (97 : Int32))), .val (.int z77_0), .val (.int (p1 - (48 : Int32))), .val (.int z77_1)] [(.int z77_2)])) (s₁.setFrames fs) := by
    intro z77_0 z77_1 z77_2 hv
    show Steps p.tables e below (s₁.setTop (mkF m 77 #[.val (.int p1), .val (.int (p1 ||| (32 : Int32))), .val (.int ((p1 ||| (32 : Int32)) - (97 : Int32))), .val (.int z77_0), .val (.int (p1 - (48 : Int32))), .val (.int z77_1)] [(.int z77_2)])) _
    have hv' : V = (nar .boolean z77_2) := hv
    clear hv
    subst hv'
    exact retN X0 hx (t := .boolean) Bd.returns (by simp) (hb hby d2_77) hr
  have b76 : ∀ (z76_0 : Int32) (z76_1 : Int32), V = (g2_76 p1  z76_0 z76_1) → Steps p.tables e below (s₁.setTop (mkF m 76 #[.val (.int p1), .val (.int (p1 ||| (32 : Int32))), .val (.int ((p1 ||| (32 : Int32)) - (97 : Int32))), .val (.int z76_0), .val (.int (p1 - (48 : Int32))), .val (.int z76_1)] [])) (s₁.setFrames fs) := by
    intro z76_0 z76_1 hv
    show Steps p.tables e below (s₁.setTop (mkF m 76 #[.val (.int p1), .val (.int (p1 ||| (32 : Int32))), .val (.int ((p1 ||| (32 : Int32)) - (97 : Int32))), .val (.int z76_0), .val (.int (p1 - (48 : Int32))), .val (.int z76_1)] [])) _
    refine XS.iconst X0.here hx rfl (hb hby d2_76) ?_
    show Steps p.tables e below (s₁.setTop (mkF m 77 #[.val (.int p1), .val (.int (p1 ||| (32 : Int32))), .val (.int ((p1 ||| (32 : Int32)) - (97 : Int32))), .val (.int z76_0), .val (.int (p1 - (48 : Int32))), .val (.int z76_1)] [(.int (0 : Int32))])) _
    exact b77 z76_0 z76_1 (0 : Int32) hv
  have b72 : ∀ (z72_0 : Int32) (z72_1 : Int32), V = (g2_72 p1  z72_0 z72_1) → Steps p.tables e below (s₁.setTop (mkF m 72 #[.val (.int p1), .val (.int (p1 ||| (32 : Int32))), .val (.int ((p1 ||| (32 : Int32)) - (97 : Int32))), .val (.int z72_0), .val (.int (p1 - (48 : Int32))), .val (.int z72_1)] [])) (s₁.setFrames fs) := by
    intro z72_0 z72_1 hv
    show Steps p.tables e below (s₁.setTop (mkF m 72 #[.val (.int p1), .val (.int (p1 ||| (32 : Int32))), .val (.int ((p1 ||| (32 : Int32)) - (97 : Int32))), .val (.int z72_0), .val (.int (p1 - (48 : Int32))), .val (.int z72_1)] [])) _
    refine XS.iconst X0.here hx rfl (hb hby d2_72) ?_
    show Steps p.tables e below (s₁.setTop (mkF m 73 #[.val (.int p1), .val (.int (p1 ||| (32 : Int32))), .val (.int ((p1 ||| (32 : Int32)) - (97 : Int32))), .val (.int z72_0), .val (.int (p1 - (48 : Int32))), .val (.int z72_1)] [(.int (1 : Int32))])) _
    refine XS.goto X0.here hx rfl (pc0 := 73) (pc' := 77) rfl (hb hby d2_73) (by decide) (by decide) ?_
    show Steps p.tables e below (s₁.setTop (mkF m 77 #[.val (.int p1), .val (.int (p1 ||| (32 : Int32))), .val (.int ((p1 ||| (32 : Int32)) - (97 : Int32))), .val (.int z72_0), .val (.int (p1 - (48 : Int32))), .val (.int z72_1)] [(.int (1 : Int32))])) _
    exact b77 z72_0 z72_1 (1 : Int32) hv
  have b66 : ∀ (z66_0 : Int32) (z66_1 : Int32), V = (g2_66 p1  z66_0 z66_1) → Steps p.tables e below (s₁.setTop (mkF m 66 #[.val (.int p1), .val (.int (p1 ||| (32 : Int32))), .val (.int ((p1 ||| (32 : Int32)) - (97 : Int32))), .val (.int z66_0), .val (.int (p1 - (48 : Int32))), .val (.int z66_1)] [])) (s₁.setFrames fs) := by
    intro z66_0 z66_1 hv
    show Steps p.tables e below (s₁.setTop (mkF m 66 #[.val (.int p1), .val (.int (p1 ||| (32 : Int32))), .val (.int ((p1 ||| (32 : Int32)) - (97 : Int32))), .val (.int z66_0), .val (.int (p1 - (48 : Int32))), .val (.int z66_1)] [])) _
    refine XS.iloadN X0.here hx rfl (hb hby d2_66) rfl ?_
    show Steps p.tables e below (s₁.setTop (mkF m 67 #[.val (.int p1), .val (.int (p1 ||| (32 : Int32))), .val (.int ((p1 ||| (32 : Int32)) - (97 : Int32))), .val (.int z66_0), .val (.int (p1 - (48 : Int32))), .val (.int z66_1)] [(.int p1)])) _
    refine XS.bipush X0.here hx rfl (hb hby d2_67) ?_
    show Steps p.tables e below (s₁.setTop (mkF m 69 #[.val (.int p1), .val (.int (p1 ||| (32 : Int32))), .val (.int ((p1 ||| (32 : Int32)) - (97 : Int32))), .val (.int z66_0), .val (.int (p1 - (48 : Int32))), .val (.int z66_1)] [(.int (95 : Int32)), (.int p1)])) _
    by_cases hc : p1 = (95 : Int32)
    · refine XS.icmpNo X0.here hx rfl (hb hby d2_69) rfl (teq hc).2 ?_
      show Steps p.tables e below (s₁.setTop (mkF m 72 #[.val (.int p1), .val (.int (p1 ||| (32 : Int32))), .val (.int ((p1 ||| (32 : Int32)) - (97 : Int32))), .val (.int z66_0), .val (.int (p1 - (48 : Int32))), .val (.int z66_1)] [])) _
      exact b72 z66_0 z66_1 (hv.trans (show (g2_66 p1  z66_0 z66_1) = (g2_72 p1  z66_0 z66_1) from if_pos hc))
    · refine XS.icmpYes X0.here hx rfl (pc0 := 69) (pc' := 76) rfl (hb hby d2_69) rfl (feq hc).2 (by decide) (by decide) ?_
      show Steps p.tables e below (s₁.setTop (mkF m 76 #[.val (.int p1), .val (.int (p1 ||| (32 : Int32))), .val (.int ((p1 ||| (32 : Int32)) - (97 : Int32))), .val (.int z66_0), .val (.int (p1 - (48 : Int32))), .val (.int z66_1)] [])) _
      exact b76 z66_0 z66_1 (hv.trans (show (g2_66 p1  z66_0 z66_1) = (g2_76 p1  z66_0 z66_1) from if_neg hc))
  have b60 : ∀ (z60_0 : Int32) (z60_1 : Int32), V = (g2_60 p1  z60_0 z60_1) → Steps p.tables e below (s₁.setTop (mkF m 60 #[.val (.int p1), .val (.int (p1 ||| (32 : Int32))), .val (.int ((p1 ||| (32 : Int32)) - (97 : Int32))), .val (.int z60_0), .val (.int (p1 - (48 : Int32))), .val (.int z60_1)] [])) (s₁.setFrames fs) := by
    intro z60_0 z60_1 hv
    show Steps p.tables e below (s₁.setTop (mkF m 60 #[.val (.int p1), .val (.int (p1 ||| (32 : Int32))), .val (.int ((p1 ||| (32 : Int32)) - (97 : Int32))), .val (.int z60_0), .val (.int (p1 - (48 : Int32))), .val (.int z60_1)] [])) _
    refine XS.iloadN X0.here hx rfl (hb hby d2_60) rfl ?_
    show Steps p.tables e below (s₁.setTop (mkF m 61 #[.val (.int p1), .val (.int (p1 ||| (32 : Int32))), .val (.int ((p1 ||| (32 : Int32)) - (97 : Int32))), .val (.int z60_0), .val (.int (p1 - (48 : Int32))), .val (.int z60_1)] [(.int p1)])) _
    refine XS.bipush X0.here hx rfl (hb hby d2_61) ?_
    show Steps p.tables e below (s₁.setTop (mkF m 63 #[.val (.int p1), .val (.int (p1 ||| (32 : Int32))), .val (.int ((p1 ||| (32 : Int32)) - (97 : Int32))), .val (.int z60_0), .val (.int (p1 - (48 : Int32))), .val (.int z60_1)] [(.int (45 : Int32)), (.int p1)])) _
    by_cases hc : p1 = (45 : Int32)
    · refine XS.icmpYes X0.here hx rfl (pc0 := 63) (pc' := 72) rfl (hb hby d2_63) rfl (teq hc).1 (by decide) (by decide) ?_
      show Steps p.tables e below (s₁.setTop (mkF m 72 #[.val (.int p1), .val (.int (p1 ||| (32 : Int32))), .val (.int ((p1 ||| (32 : Int32)) - (97 : Int32))), .val (.int z60_0), .val (.int (p1 - (48 : Int32))), .val (.int z60_1)] [])) _
      exact b72 z60_0 z60_1 (hv.trans (show (g2_60 p1  z60_0 z60_1) = (g2_72 p1  z60_0 z60_1) from if_pos hc))
    · refine XS.icmpNo X0.here hx rfl (hb hby d2_63) rfl (feq hc).1 ?_
      show Steps p.tables e below (s₁.setTop (mkF m 66 #[.val (.int p1), .val (.int (p1 ||| (32 : Int32))), .val (.int ((p1 ||| (32 : Int32)) - (97 : Int32))), .val (.int z60_0), .val (.int (p1 - (48 : Int32))), .val (.int z60_1)] [])) _
      exact b66 z60_0 z60_1 (hv.trans (show (g2_60 p1  z60_0 z60_1) = (g2_66 p1  z60_0 z60_1) from if_neg hc))
  have b55 : ∀ (z55_0 : Int32) (z55_1 : Int32), V = (g2_55 p1  z55_0 z55_1) → Steps p.tables e below (s₁.setTop (mkF m 55 #[.val (.int p1), .val (.int (p1 ||| (32 : Int32))), .val (.int ((p1 ||| (32 : Int32)) - (97 : Int32))), .val (.int z55_0), .val (.int (p1 - (48 : Int32))), .val (.int z55_1)] [])) (s₁.setFrames fs) := by
    intro z55_0 z55_1 hv
    show Steps p.tables e below (s₁.setTop (mkF m 55 #[.val (.int p1), .val (.int (p1 ||| (32 : Int32))), .val (.int ((p1 ||| (32 : Int32)) - (97 : Int32))), .val (.int z55_0), .val (.int (p1 - (48 : Int32))), .val (.int z55_1)] [])) _
    refine XS.iload X0.here hx rfl (hb hby d2_55) rfl ?_
    show Steps p.tables e below (s₁.setTop (mkF m 57 #[.val (.int p1), .val (.int (p1 ||| (32 : Int32))), .val (.int ((p1 ||| (32 : Int32)) - (97 : Int32))), .val (.int z55_0), .val (.int (p1 - (48 : Int32))), .val (.int z55_1)] [(.int z55_1)])) _
    by_cases hc : z55_1 = (0 : Int32)
    · refine XS.ifNo X0.here hx rfl (hb hby d2_57) rfl ((if0 _ _).trans (teq hc).2) ?_
      show Steps p.tables e below (s₁.setTop (mkF m 60 #[.val (.int p1), .val (.int (p1 ||| (32 : Int32))), .val (.int ((p1 ||| (32 : Int32)) - (97 : Int32))), .val (.int z55_0), .val (.int (p1 - (48 : Int32))), .val (.int z55_1)] [])) _
      exact b60 z55_0 z55_1 (hv.trans (show (g2_55 p1  z55_0 z55_1) = (g2_60 p1  z55_0 z55_1) from if_pos hc))
    · refine XS.ifYes X0.here hx rfl (pc0 := 57) (pc' := 72) rfl (hb hby d2_57) rfl ((if0 _ _).trans (feq hc).2) (by decide) (by decide) ?_
      show Steps p.tables e below (s₁.setTop (mkF m 72 #[.val (.int p1), .val (.int (p1 ||| (32 : Int32))), .val (.int ((p1 ||| (32 : Int32)) - (97 : Int32))), .val (.int z55_0), .val (.int (p1 - (48 : Int32))), .val (.int z55_1)] [])) _
      exact b72 z55_0 z55_1 (hv.trans (show (g2_55 p1  z55_0 z55_1) = (g2_72 p1  z55_0 z55_1) from if_neg hc))
  have b49 : ∀ (z49_0 : Int32) (z49_1 : Int32), V = (g2_49 p1  z49_0 z49_1) → Steps p.tables e below (s₁.setTop (mkF m 49 #[.val (.int p1), .val (.int (p1 ||| (32 : Int32))), .val (.int ((p1 ||| (32 : Int32)) - (97 : Int32))), .val (.int z49_0), .val (.int (p1 - (48 : Int32))), .unset] [(.int z49_1)])) (s₁.setFrames fs) := by
    intro z49_0 z49_1 hv
    show Steps p.tables e below (s₁.setTop (mkF m 49 #[.val (.int p1), .val (.int (p1 ||| (32 : Int32))), .val (.int ((p1 ||| (32 : Int32)) - (97 : Int32))), .val (.int z49_0), .val (.int (p1 - (48 : Int32))), .unset] [(.int z49_1)])) _
    refine XS.istore X0.here hx rfl (hb hby d2_49) rfl (l' := #[.val (.int p1), .val (.int (p1 ||| (32 : Int32))), .val (.int ((p1 ||| (32 : Int32)) - (97 : Int32))), .val (.int z49_0), .val (.int (p1 - (48 : Int32))), .val (.int z49_1)]) rfl ?_
    show Steps p.tables e below (s₁.setTop (mkF m 51 #[.val (.int p1), .val (.int (p1 ||| (32 : Int32))), .val (.int ((p1 ||| (32 : Int32)) - (97 : Int32))), .val (.int z49_0), .val (.int (p1 - (48 : Int32))), .val (.int z49_1)] [])) _
    refine XS.iloadN X0.here hx rfl (hb hby d2_51) rfl ?_
    show Steps p.tables e below (s₁.setTop (mkF m 52 #[.val (.int p1), .val (.int (p1 ||| (32 : Int32))), .val (.int ((p1 ||| (32 : Int32)) - (97 : Int32))), .val (.int z49_0), .val (.int (p1 - (48 : Int32))), .val (.int z49_1)] [(.int z49_0)])) _
    by_cases hc : z49_0 = (0 : Int32)
    · refine XS.ifNo X0.here hx rfl (hb hby d2_52) rfl ((if0 _ _).trans (teq hc).2) ?_
      show Steps p.tables e below (s₁.setTop (mkF m 55 #[.val (.int p1), .val (.int (p1 ||| (32 : Int32))), .val (.int ((p1 ||| (32 : Int32)) - (97 : Int32))), .val (.int z49_0), .val (.int (p1 - (48 : Int32))), .val (.int z49_1)] [])) _
      exact b55 z49_0 z49_1 (hv.trans (show (g2_49 p1  z49_0 z49_1) = (g2_55 p1  z49_0 z49_1) from if_pos hc))
    · refine XS.ifYes X0.here hx rfl (pc0 := 52) (pc' := 72) rfl (hb hby d2_52) rfl ((if0 _ _).trans (feq hc).2) (by decide) (by decide) ?_
      show Steps p.tables e below (s₁.setTop (mkF m 72 #[.val (.int p1), .val (.int (p1 ||| (32 : Int32))), .val (.int ((p1 ||| (32 : Int32)) - (97 : Int32))), .val (.int z49_0), .val (.int (p1 - (48 : Int32))), .val (.int z49_1)] [])) _
      exact b72 z49_0 z49_1 (hv.trans (show (g2_49 p1  z49_0 z49_1) = (g2_72 p1  z49_0 z49_1) from if_neg hc))
  have b48 : ∀ (z48_0 : Int32), V = (g2_48 p1  z48_0) → Steps p.tables e below (s₁.setTop (mkF m 48 #[.val (.int p1), .val (.int (p1 ||| (32 : Int32))), .val (.int ((p1 ||| (32 : Int32)) - (97 : Int32))), .val (.int z48_0), .val (.int (p1 - (48 : Int32))), .unset] [])) (s₁.setFrames fs) := by
    intro z48_0 hv
    show Steps p.tables e below (s₁.setTop (mkF m 48 #[.val (.int p1), .val (.int (p1 ||| (32 : Int32))), .val (.int ((p1 ||| (32 : Int32)) - (97 : Int32))), .val (.int z48_0), .val (.int (p1 - (48 : Int32))), .unset] [])) _
    refine XS.iconst X0.here hx rfl (hb hby d2_48) ?_
    show Steps p.tables e below (s₁.setTop (mkF m 49 #[.val (.int p1), .val (.int (p1 ||| (32 : Int32))), .val (.int ((p1 ||| (32 : Int32)) - (97 : Int32))), .val (.int z48_0), .val (.int (p1 - (48 : Int32))), .unset] [(.int (0 : Int32))])) _
    exact b49 z48_0 (0 : Int32) hv
  have b44 : ∀ (z44_0 : Int32), V = (g2_44 p1  z44_0) → Steps p.tables e below (s₁.setTop (mkF m 44 #[.val (.int p1), .val (.int (p1 ||| (32 : Int32))), .val (.int ((p1 ||| (32 : Int32)) - (97 : Int32))), .val (.int z44_0), .val (.int (p1 - (48 : Int32))), .unset] [])) (s₁.setFrames fs) := by
    intro z44_0 hv
    show Steps p.tables e below (s₁.setTop (mkF m 44 #[.val (.int p1), .val (.int (p1 ||| (32 : Int32))), .val (.int ((p1 ||| (32 : Int32)) - (97 : Int32))), .val (.int z44_0), .val (.int (p1 - (48 : Int32))), .unset] [])) _
    refine XS.iconst X0.here hx rfl (hb hby d2_44) ?_
    show Steps p.tables e below (s₁.setTop (mkF m 45 #[.val (.int p1), .val (.int (p1 ||| (32 : Int32))), .val (.int ((p1 ||| (32 : Int32)) - (97 : Int32))), .val (.int z44_0), .val (.int (p1 - (48 : Int32))), .unset] [(.int (1 : Int32))])) _
    refine XS.goto X0.here hx rfl (pc0 := 45) (pc' := 49) rfl (hb hby d2_45) (by decide) (by decide) ?_
    show Steps p.tables e below (s₁.setTop (mkF m 49 #[.val (.int p1), .val (.int (p1 ||| (32 : Int32))), .val (.int ((p1 ||| (32 : Int32)) - (97 : Int32))), .val (.int z44_0), .val (.int (p1 - (48 : Int32))), .unset] [(.int (1 : Int32))])) _
    exact b49 z44_0 (1 : Int32) hv
  have b37 : ∀ (z37_0 : Int32), V = (g2_37 p1  z37_0) → Steps p.tables e below (s₁.setTop (mkF m 37 #[.val (.int p1), .val (.int (p1 ||| (32 : Int32))), .val (.int ((p1 ||| (32 : Int32)) - (97 : Int32))), .val (.int z37_0), .val (.int (p1 - (48 : Int32))), .unset] [])) (s₁.setFrames fs) := by
    intro z37_0 hv
    show Steps p.tables e below (s₁.setTop (mkF m 37 #[.val (.int p1), .val (.int (p1 ||| (32 : Int32))), .val (.int ((p1 ||| (32 : Int32)) - (97 : Int32))), .val (.int z37_0), .val (.int (p1 - (48 : Int32))), .unset] [])) _
    refine XS.iload X0.here hx rfl (hb hby d2_37) rfl ?_
    show Steps p.tables e below (s₁.setTop (mkF m 39 #[.val (.int p1), .val (.int (p1 ||| (32 : Int32))), .val (.int ((p1 ||| (32 : Int32)) - (97 : Int32))), .val (.int z37_0), .val (.int (p1 - (48 : Int32))), .unset] [(.int (p1 - (48 : Int32)))])) _
    refine XS.bipush X0.here hx rfl (hb hby d2_39) ?_
    show Steps p.tables e below (s₁.setTop (mkF m 41 #[.val (.int p1), .val (.int (p1 ||| (32 : Int32))), .val (.int ((p1 ||| (32 : Int32)) - (97 : Int32))), .val (.int z37_0), .val (.int (p1 - (48 : Int32))), .unset] [(.int (10 : Int32)), (.int (p1 - (48 : Int32)))])) _
    by_cases hc : (p1 - (48 : Int32)) < (10 : Int32)
    · refine XS.icmpNo X0.here hx rfl (hb hby d2_41) rfl (tlt hc).2.1 ?_
      show Steps p.tables e below (s₁.setTop (mkF m 44 #[.val (.int p1), .val (.int (p1 ||| (32 : Int32))), .val (.int ((p1 ||| (32 : Int32)) - (97 : Int32))), .val (.int z37_0), .val (.int (p1 - (48 : Int32))), .unset] [])) _
      exact b44 z37_0 (hv.trans (show (g2_37 p1  z37_0) = (g2_44 p1  z37_0) from if_pos hc))
    · refine XS.icmpYes X0.here hx rfl (pc0 := 41) (pc' := 48) rfl (hb hby d2_41) rfl (flt hc).2.1 (by decide) (by decide) ?_
      show Steps p.tables e below (s₁.setTop (mkF m 48 #[.val (.int p1), .val (.int (p1 ||| (32 : Int32))), .val (.int ((p1 ||| (32 : Int32)) - (97 : Int32))), .val (.int z37_0), .val (.int (p1 - (48 : Int32))), .unset] [])) _
      exact b48 z37_0 (hv.trans (show (g2_37 p1  z37_0) = (g2_48 p1  z37_0) from if_neg hc))
  have b25 : ∀ (z25_0 : Int32), V = (g2_25 p1  z25_0) → Steps p.tables e below (s₁.setTop (mkF m 25 #[.val (.int p1), .val (.int (p1 ||| (32 : Int32))), .val (.int ((p1 ||| (32 : Int32)) - (97 : Int32))), .unset, .unset, .unset] [(.int z25_0)])) (s₁.setFrames fs) := by
    intro z25_0 hv
    show Steps p.tables e below (s₁.setTop (mkF m 25 #[.val (.int p1), .val (.int (p1 ||| (32 : Int32))), .val (.int ((p1 ||| (32 : Int32)) - (97 : Int32))), .unset, .unset, .unset] [(.int z25_0)])) _
    refine XS.istoreN X0.here hx rfl (hb hby d2_25) rfl (l' := #[.val (.int p1), .val (.int (p1 ||| (32 : Int32))), .val (.int ((p1 ||| (32 : Int32)) - (97 : Int32))), .val (.int z25_0), .unset, .unset]) rfl ?_
    show Steps p.tables e below (s₁.setTop (mkF m 26 #[.val (.int p1), .val (.int (p1 ||| (32 : Int32))), .val (.int ((p1 ||| (32 : Int32)) - (97 : Int32))), .val (.int z25_0), .unset, .unset] [])) _
    refine XS.iloadN X0.here hx rfl (hb hby d2_26) rfl ?_
    show Steps p.tables e below (s₁.setTop (mkF m 27 #[.val (.int p1), .val (.int (p1 ||| (32 : Int32))), .val (.int ((p1 ||| (32 : Int32)) - (97 : Int32))), .val (.int z25_0), .unset, .unset] [(.int p1)])) _
    refine XS.bipush X0.here hx rfl (hb hby d2_27) ?_
    show Steps p.tables e below (s₁.setTop (mkF m 29 #[.val (.int p1), .val (.int (p1 ||| (32 : Int32))), .val (.int ((p1 ||| (32 : Int32)) - (97 : Int32))), .val (.int z25_0), .unset, .unset] [(.int (48 : Int32)), (.int p1)])) _
    refine XS.isub X0.here hx rfl (hb hby d2_29) rfl ?_
    show Steps p.tables e below (s₁.setTop (mkF m 30 #[.val (.int p1), .val (.int (p1 ||| (32 : Int32))), .val (.int ((p1 ||| (32 : Int32)) - (97 : Int32))), .val (.int z25_0), .unset, .unset] [(.int (p1 - (48 : Int32)))])) _
    refine XS.istore X0.here hx rfl (hb hby d2_30) rfl (l' := #[.val (.int p1), .val (.int (p1 ||| (32 : Int32))), .val (.int ((p1 ||| (32 : Int32)) - (97 : Int32))), .val (.int z25_0), .val (.int (p1 - (48 : Int32))), .unset]) rfl ?_
    show Steps p.tables e below (s₁.setTop (mkF m 32 #[.val (.int p1), .val (.int (p1 ||| (32 : Int32))), .val (.int ((p1 ||| (32 : Int32)) - (97 : Int32))), .val (.int z25_0), .val (.int (p1 - (48 : Int32))), .unset] [])) _
    refine XS.iload X0.here hx rfl (hb hby d2_32) rfl ?_
    show Steps p.tables e below (s₁.setTop (mkF m 34 #[.val (.int p1), .val (.int (p1 ||| (32 : Int32))), .val (.int ((p1 ||| (32 : Int32)) - (97 : Int32))), .val (.int z25_0), .val (.int (p1 - (48 : Int32))), .unset] [(.int (p1 - (48 : Int32)))])) _
    by_cases hc : (p1 - (48 : Int32)) < (0 : Int32)
    · refine XS.ifYes X0.here hx rfl (pc0 := 34) (pc' := 48) rfl (hb hby d2_34) rfl ((if0 _ _).trans (tlt hc).1) (by decide) (by decide) ?_
      show Steps p.tables e below (s₁.setTop (mkF m 48 #[.val (.int p1), .val (.int (p1 ||| (32 : Int32))), .val (.int ((p1 ||| (32 : Int32)) - (97 : Int32))), .val (.int z25_0), .val (.int (p1 - (48 : Int32))), .unset] [])) _
      exact b48 z25_0 (hv.trans (show (g2_25 p1  z25_0) = (g2_48 p1  z25_0) from if_pos hc))
    · refine XS.ifNo X0.here hx rfl (hb hby d2_34) rfl ((if0 _ _).trans (flt hc).1) ?_
      show Steps p.tables e below (s₁.setTop (mkF m 37 #[.val (.int p1), .val (.int (p1 ||| (32 : Int32))), .val (.int ((p1 ||| (32 : Int32)) - (97 : Int32))), .val (.int z25_0), .val (.int (p1 - (48 : Int32))), .unset] [])) _
      exact b37 z25_0 (hv.trans (show (g2_25 p1  z25_0) = (g2_37 p1  z25_0) from if_neg hc))
  have b24 : V = (g2_24 p1  ) → Steps p.tables e below (s₁.setTop (mkF m 24 #[.val (.int p1), .val (.int (p1 ||| (32 : Int32))), .val (.int ((p1 ||| (32 : Int32)) - (97 : Int32))), .unset, .unset, .unset] [])) (s₁.setFrames fs) := by
    intro  hv
    show Steps p.tables e below (s₁.setTop (mkF m 24 #[.val (.int p1), .val (.int (p1 ||| (32 : Int32))), .val (.int ((p1 ||| (32 : Int32)) - (97 : Int32))), .unset, .unset, .unset] [])) _
    refine XS.iconst X0.here hx rfl (hb hby d2_24) ?_
    show Steps p.tables e below (s₁.setTop (mkF m 25 #[.val (.int p1), .val (.int (p1 ||| (32 : Int32))), .val (.int ((p1 ||| (32 : Int32)) - (97 : Int32))), .unset, .unset, .unset] [(.int (0 : Int32))])) _
    exact b25 (0 : Int32) hv
  have b20 : V = (g2_20 p1  ) → Steps p.tables e below (s₁.setTop (mkF m 20 #[.val (.int p1), .val (.int (p1 ||| (32 : Int32))), .val (.int ((p1 ||| (32 : Int32)) - (97 : Int32))), .unset, .unset, .unset] [])) (s₁.setFrames fs) := by
    intro  hv
    show Steps p.tables e below (s₁.setTop (mkF m 20 #[.val (.int p1), .val (.int (p1 ||| (32 : Int32))), .val (.int ((p1 ||| (32 : Int32)) - (97 : Int32))), .unset, .unset, .unset] [])) _
    refine XS.iconst X0.here hx rfl (hb hby d2_20) ?_
    show Steps p.tables e below (s₁.setTop (mkF m 21 #[.val (.int p1), .val (.int (p1 ||| (32 : Int32))), .val (.int ((p1 ||| (32 : Int32)) - (97 : Int32))), .unset, .unset, .unset] [(.int (1 : Int32))])) _
    refine XS.goto X0.here hx rfl (pc0 := 21) (pc' := 25) rfl (hb hby d2_21) (by decide) (by decide) ?_
    show Steps p.tables e below (s₁.setTop (mkF m 25 #[.val (.int p1), .val (.int (p1 ||| (32 : Int32))), .val (.int ((p1 ||| (32 : Int32)) - (97 : Int32))), .unset, .unset, .unset] [(.int (1 : Int32))])) _
    exact b25 (1 : Int32) hv
  have b14 : V = (g2_14 p1  ) → Steps p.tables e below (s₁.setTop (mkF m 14 #[.val (.int p1), .val (.int (p1 ||| (32 : Int32))), .val (.int ((p1 ||| (32 : Int32)) - (97 : Int32))), .unset, .unset, .unset] [])) (s₁.setFrames fs) := by
    intro  hv
    show Steps p.tables e below (s₁.setTop (mkF m 14 #[.val (.int p1), .val (.int (p1 ||| (32 : Int32))), .val (.int ((p1 ||| (32 : Int32)) - (97 : Int32))), .unset, .unset, .unset] [])) _
    refine XS.iloadN X0.here hx rfl (hb hby d2_14) rfl ?_
    show Steps p.tables e below (s₁.setTop (mkF m 15 #[.val (.int p1), .val (.int (p1 ||| (32 : Int32))), .val (.int ((p1 ||| (32 : Int32)) - (97 : Int32))), .unset, .unset, .unset] [(.int ((p1 ||| (32 : Int32)) - (97 : Int32)))])) _
    refine XS.bipush X0.here hx rfl (hb hby d2_15) ?_
    show Steps p.tables e below (s₁.setTop (mkF m 17 #[.val (.int p1), .val (.int (p1 ||| (32 : Int32))), .val (.int ((p1 ||| (32 : Int32)) - (97 : Int32))), .unset, .unset, .unset] [(.int (26 : Int32)), (.int ((p1 ||| (32 : Int32)) - (97 : Int32)))])) _
    by_cases hc : ((p1 ||| (32 : Int32)) - (97 : Int32)) < (26 : Int32)
    · refine XS.icmpNo X0.here hx rfl (hb hby d2_17) rfl (tlt hc).2.1 ?_
      show Steps p.tables e below (s₁.setTop (mkF m 20 #[.val (.int p1), .val (.int (p1 ||| (32 : Int32))), .val (.int ((p1 ||| (32 : Int32)) - (97 : Int32))), .unset, .unset, .unset] [])) _
      exact b20  (hv.trans (show (g2_14 p1  ) = (g2_20 p1  ) from if_pos hc))
    · refine XS.icmpYes X0.here hx rfl (pc0 := 17) (pc' := 24) rfl (hb hby d2_17) rfl (flt hc).2.1 (by decide) (by decide) ?_
      show Steps p.tables e below (s₁.setTop (mkF m 24 #[.val (.int p1), .val (.int (p1 ||| (32 : Int32))), .val (.int ((p1 ||| (32 : Int32)) - (97 : Int32))), .unset, .unset, .unset] [])) _
      exact b24  (hv.trans (show (g2_14 p1  ) = (g2_24 p1  ) from if_neg hc))
  have b0 : V = (g2_0 p1  ) → Steps p.tables e below (s₁.setTop (mkF m 0 #[.val (.int p1), .unset, .unset, .unset, .unset, .unset] [])) (s₁.setFrames fs) := by
    intro  hv
    show Steps p.tables e below (s₁.setTop (mkF m 0 #[.val (.int p1), .unset, .unset, .unset, .unset, .unset] [])) _
    refine XS.iloadN X0.here hx rfl (hb hby d2_0) rfl ?_
    show Steps p.tables e below (s₁.setTop (mkF m 1 #[.val (.int p1), .unset, .unset, .unset, .unset, .unset] [(.int p1)])) _
    refine XS.bipush X0.here hx rfl (hb hby d2_1) ?_
    show Steps p.tables e below (s₁.setTop (mkF m 3 #[.val (.int p1), .unset, .unset, .unset, .unset, .unset] [(.int (32 : Int32)), (.int p1)])) _
    refine XS.ior X0.here hx rfl (hb hby d2_3) rfl ?_
    show Steps p.tables e below (s₁.setTop (mkF m 4 #[.val (.int p1), .unset, .unset, .unset, .unset, .unset] [(.int (p1 ||| (32 : Int32)))])) _
    refine XS.istoreN X0.here hx rfl (hb hby d2_4) rfl (l' := #[.val (.int p1), .val (.int (p1 ||| (32 : Int32))), .unset, .unset, .unset, .unset]) rfl ?_
    show Steps p.tables e below (s₁.setTop (mkF m 5 #[.val (.int p1), .val (.int (p1 ||| (32 : Int32))), .unset, .unset, .unset, .unset] [])) _
    refine XS.iloadN X0.here hx rfl (hb hby d2_5) rfl ?_
    show Steps p.tables e below (s₁.setTop (mkF m 6 #[.val (.int p1), .val (.int (p1 ||| (32 : Int32))), .unset, .unset, .unset, .unset] [(.int (p1 ||| (32 : Int32)))])) _
    refine XS.bipush X0.here hx rfl (hb hby d2_6) ?_
    show Steps p.tables e below (s₁.setTop (mkF m 8 #[.val (.int p1), .val (.int (p1 ||| (32 : Int32))), .unset, .unset, .unset, .unset] [(.int (97 : Int32)), (.int (p1 ||| (32 : Int32)))])) _
    refine XS.isub X0.here hx rfl (hb hby d2_8) rfl ?_
    show Steps p.tables e below (s₁.setTop (mkF m 9 #[.val (.int p1), .val (.int (p1 ||| (32 : Int32))), .unset, .unset, .unset, .unset] [(.int ((p1 ||| (32 : Int32)) - (97 : Int32)))])) _
    refine XS.istoreN X0.here hx rfl (hb hby d2_9) rfl (l' := #[.val (.int p1), .val (.int (p1 ||| (32 : Int32))), .val (.int ((p1 ||| (32 : Int32)) - (97 : Int32))), .unset, .unset, .unset]) rfl ?_
    show Steps p.tables e below (s₁.setTop (mkF m 10 #[.val (.int p1), .val (.int (p1 ||| (32 : Int32))), .val (.int ((p1 ||| (32 : Int32)) - (97 : Int32))), .unset, .unset, .unset] [])) _
    refine XS.iloadN X0.here hx rfl (hb hby d2_10) rfl ?_
    show Steps p.tables e below (s₁.setTop (mkF m 11 #[.val (.int p1), .val (.int (p1 ||| (32 : Int32))), .val (.int ((p1 ||| (32 : Int32)) - (97 : Int32))), .unset, .unset, .unset] [(.int ((p1 ||| (32 : Int32)) - (97 : Int32)))])) _
    by_cases hc : ((p1 ||| (32 : Int32)) - (97 : Int32)) < (0 : Int32)
    · refine XS.ifYes X0.here hx rfl (pc0 := 11) (pc' := 24) rfl (hb hby d2_11) rfl ((if0 _ _).trans (tlt hc).1) (by decide) (by decide) ?_
      show Steps p.tables e below (s₁.setTop (mkF m 24 #[.val (.int p1), .val (.int (p1 ||| (32 : Int32))), .val (.int ((p1 ||| (32 : Int32)) - (97 : Int32))), .unset, .unset, .unset] [])) _
      exact b24  (hv.trans (show (g2_0 p1  ) = (g2_24 p1  ) from if_pos hc))
    · refine XS.ifNo X0.here hx rfl (hb hby d2_11) rfl ((if0 _ _).trans (flt hc).1) ?_
      show Steps p.tables e below (s₁.setTop (mkF m 14 #[.val (.int p1), .val (.int (p1 ||| (32 : Int32))), .val (.int ((p1 ||| (32 : Int32)) - (97 : Int32))), .unset, .unset, .unset] [])) _
      exact b14  (hv.trans (show (g2_0 p1  ) = (g2_14 p1  ) from if_neg hc))
  refine ⟨_, _, pre0 _ (b0 hV), hrun, hended, _, _, rfl, ?_, ⟨_, rfl⟩, hW, hsame.mono (by decide) (by decide)⟩
  show Q2 Z p1  h0 n0 _ s₁.heap _
  rw [e0, hV]
  exact ⟨rfl, N0, rfl⟩
theorem ef_0 (m : MethodId) (p1 : Int32) (p2 : Int32) : entryFrame m #[(.int p1), (.int p2)] maxLocals = mkF m 0 #[.val (.int p1), .val (.int p2), .unset] [] := by first | (simp [entryFrame, mkF, argsToLocals, Value.category, maxLocals]; done) | rfl
def Q0 (Z : State) (p1 : Int32) (p2 : Int32)  (h0 : Heap) (n0 : Nat) (v : Option Value) (h : Heap) (L : List Loc) : Prop := v = some (.int (1 : Int32)) ∧ Fr n0 L
set_option maxRecDepth 65536 in
set_option maxHeartbeats 40000000 in
theorem rm0 (l : Launch) (Z : State) (a0 : Array Value) (hw : ∀ d ∈ tables_1, d.before a0 Z = true) (ws : List Jvm.Cond) (p1 : Int32) (p2 : Int32)  (h0 : Heap) (n0 : Nat) (Z0 : n0 ≤ h0.size) :
    MetFree l x (head1 (Jvm.Cond.code x code maxLocals ret :: ws) room_1) (fun a U => a = #[(.int p1), (.int p2)] ∧ Z.Warmed39 U.vm ∧ U.heap = h0) (fun _ _ _ _ _ => True) (fun _ U o U' => ∃ v L, o = .returned v ∧ Q0 Z p1 p2 h0 n0 v U'.heap L ∧ FrameEnd U o U' L room_1.cells room_1.slots) := by
  refine MetFree.of_bodySF (plainFor_of_name pn_1) hisR ?_
  intro p e s m args below meth c s₁ Bd hml0 hP hK
  obtain ⟨rfl, hZ, hh⟩ := hP
  have hx := Bd.exec
  have hby := Bd.bytes
  have hml : c.maxLocals = 3 := hml0
  have hown : s.vm.findClass "com/example/narrow_json/narrowjson/JsonSignatureIsBase64UrlCharPinLaw" = some m.cls := findClass_of_methodNamed Bd.named
  have hnm := (name_of_methodNamed Bd.named Bd.method).1
  have X0 : Stand p l e room_1 s m #[(.int p1), (.int p2)] below meth c s₁ [] 0 0 := Stand.of_body Bd
  have e0 : s₁.heap = h0 := by rw [← hh, Bd.state]; rfl
  have N0 := Fr.nil n0
  have pre0 : ∀ t, Steps p.tables e below (s₁.setTop (mkF m 0 #[.val (.int p1), .val (.int p2), .unset] [])) t → Steps p.tables e below (s₁.setTop (entryFrame m #[(.int p1), (.int p2)] maxLocals)) t := fun t k => castTop (ef_0 m p1 p2) k
  have G1 : ∀ t, Steps p.tables e below (s₁.setTop (mkF m 3 #[.val (.int p1), .val (.int p2), .unset] [(.int (p2 &&& (1 : Int32)))])) t → Steps p.tables e below (s₁.setTop (entryFrame m #[(.int p1), (.int p2)] maxLocals)) t := by
    intro t kt
    refine pre0 t ?_
    show Steps p.tables e below (s₁.setTop (mkF m 0 #[.val (.int p1), .val (.int p2), .unset] [])) _
    refine XS.iloadN X0.here hx rfl (hb hby at_0) rfl ?_
    show Steps p.tables e below (s₁.setTop (mkF m 1 #[.val (.int p1), .val (.int p2), .unset] [(.int p2)])) _
    refine XS.iconst X0.here hx rfl (hb hby at_1) ?_
    show Steps p.tables e below (s₁.setTop (mkF m 2 #[.val (.int p1), .val (.int p2), .unset] [(.int (1 : Int32)), (.int p2)])) _
    refine XS.iand X0.here hx rfl (hb hby at_2) rfl ?_
    show Steps p.tables e below (s₁.setTop (mkF m 3 #[.val (.int p1), .val (.int p2), .unset] [(.int (p2 &&& (1 : Int32)))])) _
    exact kt
  obtain ⟨C, hC, GJ⟩ : ∃ C : Int32, 0 ≤ C.toInt ∧ ∀ t, Steps p.tables e below (s₁.setTop (mkF m 17 #[.val (.int p1), .val (.int p2), .unset] [(.int C)])) t → Steps p.tables e below (s₁.setTop (entryFrame m #[(.int p1), (.int p2)] maxLocals)) t := by
    by_cases hc : (p2 &&& (1 : Int32)) = (0 : Int32)
    · have G2 : ∀ t, Steps p.tables e below (s₁.setTop (mkF m 17 #[.val (.int p1), .val (.int p2), .unset] [(.int (p1 &&& (65535 : Int32)))])) t → Steps p.tables e below (s₁.setTop (entryFrame m #[(.int p1), (.int p2)] maxLocals)) t := by
        intro t kt
        refine G1 t ?_
        show Steps p.tables e below (s₁.setTop (mkF m 3 #[.val (.int p1), .val (.int p2), .unset] [(.int (p2 &&& (1 : Int32)))])) _
        refine XS.ifYes X0.here hx rfl (pc0 := 3) (pc' := 13) rfl (hb hby at_3) rfl ((if0 _ _).trans (teq hc).1) (by decide) (by decide) ?_
        show Steps p.tables e below (s₁.setTop (mkF m 13 #[.val (.int p1), .val (.int p2), .unset] [])) _
        refine XS.iloadN X0.here hx rfl (hb hby at_13) rfl ?_
        show Steps p.tables e below (s₁.setTop (mkF m 14 #[.val (.int p1), .val (.int p2), .unset] [(.int p1)])) _
        refine X0.ldcInt hx hown (mvT hZ (hw _ (List.mem_of_getElem? (i := 8) rfl))) (g := (mkF m 14 #[.val (.int p1), .val (.int p2), .unset] [(.int p1)])) rfl (hb hby at_14) _ ?_
        show Steps p.tables e below (s₁.setTop (mkF m 16 #[.val (.int p1), .val (.int p2), .unset] [(.int (65535 : Int32)), (.int p1)])) _
        refine XS.iand X0.here hx rfl (hb hby at_16) rfl ?_
        show Steps p.tables e below (s₁.setTop (mkF m 17 #[.val (.int p1), .val (.int p2), .unset] [(.int (p1 &&& (65535 : Int32)))])) _
        exact kt
      exact ⟨_, (c_and p1 65535 (by decide)).1, G2⟩
    · have G3 : ∀ t, Steps p.tables e below (s₁.setTop (mkF m 17 #[.val (.int p1), .val (.int p2), .unset] [(.int (p1 &&& (127 : Int32)))])) t → Steps p.tables e below (s₁.setTop (entryFrame m #[(.int p1), (.int p2)] maxLocals)) t := by
        intro t kt
        refine G1 t ?_
        show Steps p.tables e below (s₁.setTop (mkF m 3 #[.val (.int p1), .val (.int p2), .unset] [(.int (p2 &&& (1 : Int32)))])) _
        refine XS.ifNo X0.here hx rfl (hb hby at_3) rfl ((if0 _ _).trans (feq hc).1) ?_
        show Steps p.tables e below (s₁.setTop (mkF m 6 #[.val (.int p1), .val (.int p2), .unset] [])) _
        refine XS.iloadN X0.here hx rfl (hb hby at_6) rfl ?_
        show Steps p.tables e below (s₁.setTop (mkF m 7 #[.val (.int p1), .val (.int p2), .unset] [(.int p1)])) _
        refine XS.bipush X0.here hx rfl (hb hby at_7) ?_
        show Steps p.tables e below (s₁.setTop (mkF m 9 #[.val (.int p1), .val (.int p2), .unset] [(.int (127 : Int32)), (.int p1)])) _
        refine XS.iand X0.here hx rfl (hb hby at_9) rfl ?_
        show Steps p.tables e below (s₁.setTop (mkF m 10 #[.val (.int p1), .val (.int p2), .unset] [(.int (p1 &&& (127 : Int32)))])) _
        refine XS.goto X0.here hx rfl (pc0 := 10) (pc' := 17) rfl (hb hby at_10) (by decide) (by decide) ?_
        show Steps p.tables e below (s₁.setTop (mkF m 17 #[.val (.int p1), .val (.int p2), .unset] [(.int (p1 &&& (127 : Int32)))])) _
        exact kt
      exact ⟨_, (c_and p1 127 (by decide)).1, G3⟩
  have G4 : ∀ t, Steps p.tables e below (s₁.setTop (mkF m 19 #[.val (.int p1), .val (.int p2), .val (.int C)] [(.int C)])) t → Steps p.tables e below (s₁.setTop (entryFrame m #[(.int p1), (.int p2)] maxLocals)) t := by
    intro t kt
    refine GJ t ?_
    show Steps p.tables e below (s₁.setTop (mkF m 17 #[.val (.int p1), .val (.int p2), .unset] [(.int C)])) _
    refine XS.istoreN X0.here hx rfl (hb hby at_17) rfl (l' := #[.val (.int p1), .val (.int p2), .val (.int C)]) rfl ?_
    show Steps p.tables e below (s₁.setTop (mkF m 18 #[.val (.int p1), .val (.int p2), .val (.int C)] [])) _
    refine XS.iloadN X0.here hx rfl (hb hby at_18) rfl ?_
    show Steps p.tables e below (s₁.setTop (mkF m 19 #[.val (.int p1), .val (.int p2), .val (.int C)] [(.int C)])) _
    exact kt
  obtain ⟨_, _, ⟨T5, L5, k5, n5⟩, -, X5, ⟨Lc5, hQ5, l5, y5, z5⟩, st5⟩ := Jvm.LawKit.callS X0 hx (y := (⟨"com/example/narrow_json/narrowjson/JsonSignature", "isBase64UrlChar", "(I)Z"⟩ : MethodName)) hown (mvT hZ (hw _ (List.mem_of_getElem? (i := 0) rfl))) (mvT hZ (hw _ (List.mem_of_getElem? (i := 1) rfl))) (mvT hZ (hw _ (List.mem_of_getElem? (i := 2) rfl))) (mvT hZ (hw _ (List.mem_of_getElem? (i := 3) rfl))) (by decide) (backOf (W := 0) (rm1 l Z a0 hw [] C  h0 n0 Z0 ) hZ (hw _ (List.mem_of_getElem? (i := 3) rfl)) (hw _ (List.mem_of_getElem? (i := 2) rfl)) (by decide) (by decide)) (g := (mkF m 19 #[.val (.int p1), .val (.int p2), .val (.int C)] [(.int C)])) rfl (by rw [hml]; rfl) (argsL := [(.int C)]) (rest := []) (lenOf pd_0 rfl) rfl (by show 2 * 0 + _ ≤ _; exact Nat.le_of_eq rfl) (hb hby at_19) (fun _ _ => ⟨rfl, e0, (by decide : 0 + 0 ≤ _), (by decide : 0 + 0 ≤ _)⟩)
  dsimp only [Pt.U, Pt.locs, Pt.cells, Pt.slots] at X5 l5 y5 z5 st5 hQ5
  subst l5 y5 z5
  obtain ⟨rfl, N5q, e5⟩ := hQ5
  have N5 := Fr.app N0 N5q
  have G5 : ∀ t, Steps p.tables e below (T5.setTop (mkF m 22 #[.val (.int p1), .val (.int p2), .val (.int C)] [(.int (g1_0 C))])) t → Steps p.tables e below (s₁.setTop (entryFrame m #[(.int p1), (.int p2)] maxLocals)) t := fun t kt => G4 t (st5 t kt)
  have G6 : ∀ t, Steps p.tables e below (T5.setTop (mkF m 23 #[.val (.int p1), .val (.int p2), .val (.int C)] [(.int C), (.int (g1_0 C))])) t → Steps p.tables e below (s₁.setTop (entryFrame m #[(.int p1), (.int p2)] maxLocals)) t := by
    intro t kt
    refine G5 t ?_
    show Steps p.tables e below (T5.setTop (mkF m 22 #[.val (.int p1), .val (.int p2), .val (.int C)] [(.int (g1_0 C))])) _
    refine XS.iloadN X5.here hx rfl (hb hby at_22) rfl ?_
    show Steps p.tables e below (T5.setTop (mkF m 23 #[.val (.int p1), .val (.int p2), .val (.int C)] [(.int C), (.int (g1_0 C))])) _
    exact kt
  obtain ⟨_, _, ⟨T7, L7, k7, n7⟩, -, X7, ⟨Lc7, hQ7, l7, y7, z7⟩, st7⟩ := Jvm.LawKit.callS X5 hx (y := (⟨"com/example/narrow_json/narrowjson/JsonSignatureIsBase64UrlCharPinLaw", "expected", "(I)Z"⟩ : MethodName)) hown (mvT hZ (hw _ (List.mem_of_getElem? (i := 4) rfl))) (mvT hZ (hw _ (List.mem_of_getElem? (i := 5) rfl))) (mvT hZ (hw _ (List.mem_of_getElem? (i := 6) rfl))) (mvT hZ (hw _ (List.mem_of_getElem? (i := 7) rfl))) (by decide) (backOf (W := 1) (rm2 l Z a0 hw [] C  h0 n0 Z0 ) hZ (hw _ (List.mem_of_getElem? (i := 7) rfl)) (hw _ (List.mem_of_getElem? (i := 6) rfl)) (by decide) (by decide)) (g := (mkF m 23 #[.val (.int p1), .val (.int p2), .val (.int C)] [(.int C), (.int (g1_0 C))])) rfl (by rw [hml]; rfl) (argsL := [(.int C)]) (rest := [(.int (g1_0 C))]) (lenOf pd_0 rfl) rfl (by show 2 * 0 + _ ≤ _; exact Nat.le_of_eq rfl) (hb hby at_23) (fun _ _ => ⟨rfl, e5, (by decide : 0 + 0 ≤ _), (by decide : 0 + 0 ≤ _)⟩)
  dsimp only [Pt.U, Pt.locs, Pt.cells, Pt.slots] at X7 l7 y7 z7 st7 hQ7
  subst l7 y7 z7
  obtain ⟨rfl, N7q, e7⟩ := hQ7
  have N7 := Fr.app N5 N7q
  have G7 : ∀ t, Steps p.tables e below (T7.setTop (mkF m 26 #[.val (.int p1), .val (.int p2), .val (.int C)] [(.int (g2_0 C)), (.int (g1_0 C))])) t → Steps p.tables e below (s₁.setTop (entryFrame m #[(.int p1), (.int p2)] maxLocals)) t := fun t kt => G6 t (st7 t kt)
  have G8 : ∀ t, Steps p.tables e below (T7.setTop (mkF m 34 #[.val (.int p1), .val (.int p2), .val (.int C)] [(.int (1 : Int32))])) t → Steps p.tables e below (s₁.setTop (entryFrame m #[(.int p1), (.int p2)] maxLocals)) t := by
    intro t kt
    refine G7 t ?_
    show Steps p.tables e below (T7.setTop (mkF m 26 #[.val (.int p1), .val (.int p2), .val (.int C)] [(.int (g2_0 C)), (.int (g1_0 C))])) _
    refine XS.icmpNo X7.here hx rfl (hb hby at_26) rfl (teq (own_eq C hC)).2 ?_
    show Steps p.tables e below (T7.setTop (mkF m 29 #[.val (.int p1), .val (.int p2), .val (.int C)] [])) _
    refine XS.iconst X7.here hx rfl (hb hby at_29) ?_
    show Steps p.tables e below (T7.setTop (mkF m 30 #[.val (.int p1), .val (.int p2), .val (.int C)] [(.int (1 : Int32))])) _
    refine XS.goto X7.here hx rfl (pc0 := 30) (pc' := 34) rfl (hb hby at_30) (by decide) (by decide) ?_
    show Steps p.tables e below (T7.setTop (mkF m 34 #[.val (.int p1), .val (.int p2), .val (.int C)] [(.int (1 : Int32))])) _
    exact kt
  obtain ⟨fs, hr, hrun, hended, hW, hsame⟩ := X7.leave (v := some (.int (1 : Int32))) (fun h => by rw [Bd.returns] at h; cases h)
  refine ⟨_, _, G8 _ ?_, hrun, hended, _, _, rfl, ?_, ⟨_, rfl⟩, hW, hsame.mono (by decide) (by decide)⟩
  · show Steps p.tables e below (T7.setTop (mkF m 34 #[.val (.int p1), .val (.int p2), .val (.int C)] [(.int (1 : Int32))])) _
    exact retN X7 hx (t := .boolean) Bd.returns (by simp) (hb hby at_34) hr
  · show Q0 Z p1 p2 h0 n0 _ T7.heap _
    rw [e7]
    exact ⟨rfl, N7⟩
set_option maxRecDepth 65536 in
set_option maxHeartbeats 40000000 in
theorem comes_1 {Post : Tables → Env → Array Value → State → Outcome → State → Prop} (hpost : ∀ tb e args s v u, (limb_1_1.after args s (.returned v) u = true ∧ limb_1_2.after args s (.returned v) u = true ∧ True) → FrameEnd s (.returned v) u (Jvm.fieldLocs frame_1_writes args s ++ Jvm.arrayLocs frame_1_arrays args s ++ Jvm.staticLocs frame_1_statics s) 0 0 → Post tb e args s (.returned v) u) :
    ArmFor flags0 classFile x code maxLocals ret World_1 tables_1 room_1 Calls_1 rest_1 Pre_1 Post := by
  intro l hfl _ _ p e ha hc hk s m args below hf hA hF happ hP
  obtain ⟨hcalls, hrest, hpre⟩ := hP
  obtain ⟨-, -, -, hnamed, -, -, -, hat⟩ := (Spec.applies_iff hf).mp happ
  obtain ⟨hg, hn⟩ := and_e (Cond.before_iff.mp (show (Jvm.Cond.and given_1 narrow_1).before args s = true from hpre))
  obtain ⟨hcnt, r0⟩ := and_e hg
  obtain ⟨c0, r1⟩ := and_e r0
  obtain ⟨w0, w1, rfl⟩ : ∃ w0 w1 : Value, args = #[w0, w1] := by
    have hs : args.size = 2 := by simpa [Cond.value, given_1] using hcnt
    obtain ⟨L⟩ := args
    match L, hs with
    | [w0, w1], _ => exact ⟨w0, w1, rfl⟩
  have hw := fun d (hd : d ∈ tables_1) => atoms_spec (ws := Jvm.Cond.code x code maxLocals ret :: tables_1) hat d (List.mem_cons_of_mem _ hd)
  obtain ⟨i0, j0⟩ := is_v c0
  obtain rfl : w0 = (.int i0) := Option.some.inj j0
  obtain ⟨i1, j1⟩ := is_v r1
  obtain rfl : w1 = (.int i1) := Option.some.inj j1
  obtain ⟨n, o, h1, h2, h3, _, L, rfl, ⟨rfl, N⟩, hq⟩ := rm0 l s _ hw tables_1 i0 i1 s.heap s.heap.size (Nat.le_refl _) p e ha hc hk s m _ below hf ((Spec.applies_iff_loose hf).mp happ).1 ⟨rfl, State.Warmed39.refl s, rfl⟩ trivial
  refine ⟨n, _, h1, h2, h3, hpost _ _ _ _ _ _ ⟨Cond.after_iff.mpr rfl, Cond.after_iff.mpr (eq_i res_at (Term.int_eval (1)) rfl), trivial⟩ ⟨hq.1, hq.2.1, (hq.2.2.sift fun y hy => Or.inr (N y hy)).mono (by decide) (by decide)⟩⟩
theorem main_1_1 : Claimed_1_1 := comes_1 fun _ _ _ _ _ _ h hF => ⟨h.1, hF⟩
theorem main_1_2 : Claimed_1_2 := comes_1 fun _ _ _ _ _ _ h hF => ⟨h.2.1, hF⟩
end Jvm.Pilot.@@N@@
namespace Jvm.Pilot.@@N@@
open Jvm Jvm.ClassFile Sem Op Lib Jvm.Free Jvm.Stand Jvm.Pilot.@@N@@.Jvm.D
/-! MADE BY PROGRAM (witnessworld.py) out of the Statement's table words and the real class files: 7 classes; the members and pool entries that the words name. The judged class is class 1, her method 1. -/
namespace start1
open Jvm.ClassFile
def u (s : String) : CpInfo := .utf8 (stringToUtf16 s)
/-- a pool by its gaps: so many unusable entries, then the entry; so many at the end -/
def gap : Nat → List CpInfo → List CpInfo
  | 0, r => r
  | n + 1, r => .unusable :: gap n r
def poolList (es : List (Nat × CpInfo)) (last : Nat) : List CpInfo := es.foldr (fun e r => gap e.1 (e.2 :: r)) (gap last [])
def pool (es : List (Nat × CpInfo)) (last : Nat) : Array CpInfo := ⟨poolList es last⟩
def fileOf (pool : Array CpInfo) (this : Nat) (attrs : Array Attribute := #[]) (ms : Array MethodInfo := #[]) (fl : Nat := 33) (sup : Nat := 0) (ifs : Array Nat := #[]) (fds : Array FieldInfo := #[]) : ClassFile where
  minorVersion := 0
  majorVersion := 65
  constantPool := pool
  accessFlags := fl
  thisClass := this
  superClass := sup
  interfaces := ifs
  fields := fds
  methods := ms
  attributes := attrs
def plain (name : String) (sup : Option ClassId) : Class where
  name := name
  kind := .ordinary
  loader := none
  accessFlags := 33
  super := sup
  interfaces := #[]
  cf := none
  fields := #[]
  methods := #[]
  instanceTypes := #[]
  staticTypes := #[]
  resolved := #[]
  callSites := []
  init := .initialized
  statics := none
  mirror := none

def pool0 : Array CpInfo := pool [(5, u "<init>"), (0, u "()V"), (1, .class_ 10), (1, u "java/lang/Object")] 113

def k0m0 : Method := { name := "<init>", desc := "()V", sig := { parameters := [], returnType := none }, accessFlags := 1, code := none }
/-- java/lang/Object -/
def k0 : Class := { plain "java/lang/Object" none with
  accessFlags := 33
  interfaces := #[]
  cf := some (fileOf pool0 8 #[] #[{ accessFlags := 1, nameIndex := 5, descriptorIndex := 6, attributes := #[] }] 33 0 #[] #[])
  fields := #[]
  methods := #[k0m0]
  instanceTypes := #[]
  staticTypes := #[]
  resolved := Array.replicate 124 none
  statics := none }

def pool1 : Array CpInfo := pool [(2, .class_ 4), (1, u "java/lang/Object"), (0, u "<init>"), (0, u "()V"), (0, .integer 65535), (0, .methodref 9 10), (0, .class_ 11), (0, .nameAndType 12 13), (0, u "com/example/narrow_json/narrowjson/JsonSignature"), (0, u "isBase64UrlChar"), (0, u "(I)Z"), (0, .methodref 15 16), (0, .class_ 17), (0, .nameAndType 18 13), (0, u "com/example/narrow_json/narrowjson/JsonSignatureIsBase64UrlCharPinLaw"), (0, u "expected"), (2, u "law"), (0, u "(II)Z")] 3

def k1m0 : Method := { name := "<init>", desc := "()V", sig := { parameters := [], returnType := none }, accessFlags := 2, code := none }
def k1c1 : Code := { maxStack := 2, maxLocals := 3, code := code, exceptionTable := #[], attributes := #[] }
def k1m1 : Method := { name := "law", desc := "(II)Z", sig := { parameters := [.int, .int], returnType := some .boolean }, accessFlags := 9, code := some k1c1 }
def k1c2 : Code := { maxStack := 2, maxLocals := 6, code := method_3_code, exceptionTable := #[], attributes := #[] }
def k1m2 : Method := { name := "expected", desc := "(I)Z", sig := { parameters := [.int], returnType := some .boolean }, accessFlags := 10, code := some k1c2 }
/-- com/example/narrow_json/narrowjson/JsonSignatureIsBase64UrlCharPinLaw -/
def k1 : Class := { plain "com/example/narrow_json/narrowjson/JsonSignatureIsBase64UrlCharPinLaw" (some 0) with
  accessFlags := 49
  interfaces := #[]
  cf := some (fileOf pool1 15 #[] #[{ accessFlags := 2, nameIndex := 5, descriptorIndex := 6, attributes := #[] }, { accessFlags := 9, nameIndex := 21, descriptorIndex := 22, attributes := #[] }, { accessFlags := 10, nameIndex := 18, descriptorIndex := 13, attributes := #[] }] 49 2 #[] #[])
  fields := #[]
  methods := #[k1m0, k1m1, k1m2]
  instanceTypes := #[]
  staticTypes := #[]
  resolved := Array.replicate 26 none
  statics := none }

def pool2 : Array CpInfo := pool [(3, .class_ 4), (0, u "com/example/narrow_json/narrowjson/JsonSignature"), (1, .class_ 8), (1, u "java/lang/Object"), (0, u "<init>"), (0, u "()V"), (128, u "BASE64URL"), (0, u "Ljava/util/Base64$Encoder;"), (17, u "isBase64UrlChar"), (0, u "(I)Z"), (2, u "BASE64URL_DECODER"), (0, u "Ljava/util/Base64$Decoder;"), (31, u "MEMBER"), (0, u "Ljava/lang/String;"), (1, u "LEAST_HS256_KEY_BYTES"), (0, u "I"), (1, u "LEAST_RS256_KEY_BITS"), (1, u "MISMATCH"), (0, u "NOT_BASE64URL"), (0, u "ALREADY_SIGNED")] 27

def k2m0 : Method := { name := "<init>", desc := "()V", sig := { parameters := [], returnType := none }, accessFlags := 2, code := none }
def k2c1 : Code := { maxStack := 2, maxLocals := 1, code := prog_24_method_13_code, exceptionTable := #[], attributes := #[] }
def k2m1 : Method := { name := "isBase64UrlChar", desc := "(I)Z", sig := { parameters := [.int], returnType := some .boolean }, accessFlags := 8, code := some k2c1 }
/-- com/example/narrow_json/narrowjson/JsonSignature -/
def k2 : Class := { plain "com/example/narrow_json/narrowjson/JsonSignature" (some 0) with
  accessFlags := 33
  interfaces := #[]
  cf := some (fileOf pool2 3 #[] #[{ accessFlags := 2, nameIndex := 9, descriptorIndex := 10, attributes := #[] }, { accessFlags := 8, nameIndex := 158, descriptorIndex := 159, attributes := #[] }] 33 6 #[] #[{ accessFlags := 25, nameIndex := 195, descriptorIndex := 196, attributes := #[] }, { accessFlags := 25, nameIndex := 198, descriptorIndex := 199, attributes := #[] }, { accessFlags := 25, nameIndex := 201, descriptorIndex := 199, attributes := #[] }, { accessFlags := 24, nameIndex := 203, descriptorIndex := 196, attributes := #[] }, { accessFlags := 24, nameIndex := 204, descriptorIndex := 196, attributes := #[] }, { accessFlags := 24, nameIndex := 205, descriptorIndex := 196, attributes := #[] }, { accessFlags := 26, nameIndex := 139, descriptorIndex := 140, attributes := #[] }, { accessFlags := 26, nameIndex := 162, descriptorIndex := 163, attributes := #[] }])
  fields := #[{ name := "MEMBER", type := (.object "java/lang/String"), accessFlags := 25, slot := 0, constantValue := 0 }, { name := "LEAST_HS256_KEY_BYTES", type := .int, accessFlags := 25, slot := 1, constantValue := 0 }, { name := "LEAST_RS256_KEY_BITS", type := .int, accessFlags := 25, slot := 2, constantValue := 0 }, { name := "MISMATCH", type := (.object "java/lang/String"), accessFlags := 24, slot := 3, constantValue := 0 }, { name := "NOT_BASE64URL", type := (.object "java/lang/String"), accessFlags := 24, slot := 4, constantValue := 0 }, { name := "ALREADY_SIGNED", type := (.object "java/lang/String"), accessFlags := 24, slot := 5, constantValue := 0 }, { name := "BASE64URL", type := (.object "java/util/Base64$Encoder"), accessFlags := 26, slot := 6, constantValue := 0 }, { name := "BASE64URL_DECODER", type := (.object "java/util/Base64$Decoder"), accessFlags := 26, slot := 7, constantValue := 0 }]
  methods := #[k2m0, k2m1]
  instanceTypes := #[]
  staticTypes := #[(.object "java/lang/String"), .int, .int, (.object "java/lang/String"), (.object "java/lang/String"), (.object "java/lang/String"), (.object "java/util/Base64$Encoder"), (.object "java/util/Base64$Decoder")]
  resolved := Array.replicate 233 none
  statics := none }

def pool3 : Array CpInfo := pool [(1, u "java/lang/Cloneable"), (0, .class_ 1), (0, u "java/lang/Object"), (0, .class_ 3)] 3

/-- java/lang/Cloneable -/
def k3 : Class := { plain "java/lang/Cloneable" (some 0) with
  accessFlags := 1537
  interfaces := #[]
  cf := some (fileOf pool3 2 #[] #[] 1537 4 #[] #[])
  fields := #[]
  methods := #[]
  instanceTypes := #[]
  staticTypes := #[]
  resolved := Array.replicate 8 none
  statics := none }

def pool4 : Array CpInfo := pool [(1, u "java/io/Serializable"), (0, .class_ 1), (0, u "java/lang/Object"), (0, .class_ 3)] 3

/-- java/io/Serializable -/
def k4 : Class := { plain "java/io/Serializable" (some 0) with
  accessFlags := 1537
  interfaces := #[]
  cf := some (fileOf pool4 2 #[] #[] 1537 4 #[] #[])
  fields := #[]
  methods := #[]
  instanceTypes := #[]
  staticTypes := #[]
  resolved := Array.replicate 8 none
  statics := none }

/-- the primitive byte -/
def k5 : Class := { plain "byte" none with kind := .primitive 'B', accessFlags := 0x411 }
/-- [B -/
def k6 : Class := { plain "[B" (some 0) with kind := .array 5 .byte, interfaces := #[3, 4], accessFlags := 1041 }

def heap : Heap := #[]
def classes : Array Class := #[k0, k1, k2, k3, k4, k5, k6]
def interned : List (Array UInt16 × Addr) := []
def slotsUsed : Nat := 0
def theMethod : MethodId := ⟨1, 1⟩
def args0 : Array Value := #[.int 65, .int 1]
def aboutOver (below : List Frame) : State where
  vm := { classes := classes, interned := interned.toArray }
  heap := heap
  slotsUsed := slotsUsed
  threads := #[{ frames := .invoking theMethod args0 :: below }]
def below0 : List Frame := [.native { method := ⟨0, 0⟩, args := #[] }]
def about1 : State := aboutOver below0
def p0 : Program := .bare "" "" ""
def e0 : Env := launch0.env 0 0 0
theorem w_frames : about1.frames = Frame.invoking theMethod args0 :: below0 := rfl
set_option maxRecDepth 65536 in
theorem w_args : argsFit about1.vm theMethod args0 = true := by decide +kernel
set_option maxRecDepth 65536 in
theorem w_heap : heapFits about1 = true := by decide +kernel
set_option maxRecDepth 65536 in
theorem w_runnable : about1.curStatus? = some .runnable := by decide +kernel
set_option maxRecDepth 65536 in
theorem w_alone : about1.alone = true := by decide +kernel
set_option maxRecDepth 65536 in
theorem w_named : about1.methodNamed? x = some theMethod := by decide +kernel
set_option maxRecDepth 65536 in
theorem w_hears : about1.hears theMethod below0 = true := by decide +kernel
set_option maxRecDepth 65536 in
theorem w_ripe : about1.ripe theMethod args0 below0 = true := by decide +kernel
theorem w_running : about1.status = .running := rfl
set_option maxRecDepth 65536 in
theorem w_room : about1.hasRoom e0.platform room_1 = true :=
  launch0.hasRoom_least _ room_1 (by decide +kernel) (by decide +kernel) (by decide +kernel) (by decide +kernel) (by decide +kernel) (by decide +kernel)
theorem allAtoms_all (ts : List Jvm.Cond) (a : Array Jvm.Value) (st : Jvm.State) : (allAtoms ts).before a st = ts.all (fun c => c.before a st) := by
  induction ts with
  | nil => rfl
  | cons c t ih =>
    show (Jvm.Cond.and c (allAtoms t)).before a st = _
    rw [Jvm.Cond.before_and, ih, List.all_cons]
def words1 : List Jvm.Cond := Jvm.Cond.code x code maxLocals ret :: tables_1
/-- a 'code' word, met by the world's own term for the bytes: nothing is compared byte by byte -/
theorem code_word {y : MethodName} {bytes : ByteArray} {mx : Nat} {rt : Option FieldType} {a : Array Value} {s : State} {m : MethodId} {meth : Method} {c : Code} (h1 : s.methodNamed? y = some m) (h2 : s.vm.method? m = some meth) (h3 : meth.code = some c) (h4 : c.code = bytes)
    (h5 : (c.maxLocals == mx && c.exceptionTable.isEmpty && decide (c.maxStack ≤ mostOperands) && decide (meth.sig.returnType = rt) && !meth.locks && decide (parseMethodDescriptor y.desc = some meth.sig)) = true) : (Jvm.Cond.code y bytes mx rt).before a s = true := by
  simp only [Bool.and_eq_true, beq_iff_eq, Bool.not_eq_true', decide_eq_true_eq] at h5
  obtain ⟨⟨⟨⟨⟨g1, g2⟩, g3⟩, g4⟩, g5⟩, g6⟩ := h5
  simp [Cond.before, Cond.holds, Cond.value, h1, h2, h3, h4, g1, g2, g3, g4, g5, g6]
def isCode : Jvm.Cond → Bool
  | .code _ _ _ _ => true
  | _ => false
theorem all_split {L : List Jvm.Cond} {P : Jvm.Cond → Bool} (h1 : L.all (fun c => isCode c || P c) = true) (h2 : ∀ c ∈ L.filter isCode, P c = true) : L.all P = true := by
  refine List.all_eq_true.mpr fun c hc => ?_
  have h := List.all_eq_true.mp h1 c hc
  rcases Bool.eq_false_or_eq_true (isCode c) with hi | hi
  · exact h2 c (List.mem_filter.mpr ⟨hc, hi⟩)
  · simpa [hi] using h
set_option maxRecDepth 65536 in
theorem w_c0 : (Jvm.Cond.code x code maxLocals ret).before args0 about1 = true := code_word (m := ⟨1, 1⟩) (meth := k1m1) (c := k1c1) (by decide +kernel) rfl rfl rfl (by decide +kernel)
set_option maxRecDepth 65536 in
theorem w_c1 : (Jvm.Cond.code ({ cls := "com/example/narrow_json/narrowjson/JsonSignature", name := "isBase64UrlChar", desc := "(I)Z" } : Jvm.MethodName) prog_24_method_13_code (1 : Nat) (Option.some Jvm.ClassFile.FieldType.boolean)).before args0 about1 = true := code_word (m := ⟨2, 1⟩) (meth := k2m1) (c := k2c1) (by decide +kernel) rfl rfl rfl (by decide +kernel)
set_option maxRecDepth 65536 in
theorem w_c2 : (Jvm.Cond.code ({ cls := "com/example/narrow_json/narrowjson/JsonSignatureIsBase64UrlCharPinLaw", name := "expected", desc := "(I)Z" } : Jvm.MethodName) method_3_code (6 : Nat) (Option.some Jvm.ClassFile.FieldType.boolean)).before args0 about1 = true := code_word (m := ⟨1, 2⟩) (meth := k1m2) (c := k1c2) (by decide +kernel) rfl rfl rfl (by decide +kernel)
def codes1 : List Jvm.Cond := [Jvm.Cond.code x code maxLocals ret, Jvm.Cond.code ({ cls := "com/example/narrow_json/narrowjson/JsonSignature", name := "isBase64UrlChar", desc := "(I)Z" } : Jvm.MethodName) prog_24_method_13_code (1 : Nat) (Option.some Jvm.ClassFile.FieldType.boolean), Jvm.Cond.code ({ cls := "com/example/narrow_json/narrowjson/JsonSignatureIsBase64UrlCharPinLaw", name := "expected", desc := "(I)Z" } : Jvm.MethodName) method_3_code (6 : Nat) (Option.some Jvm.ClassFile.FieldType.boolean)]
set_option maxRecDepth 65536 in
theorem codes_eq : words1.filter isCode = codes1 := rfl
theorem w_codes : ∀ c ∈ words1.filter isCode, c.before args0 about1 = true := by
  rw [codes_eq]
  intro c hc
  simp only [codes1, List.mem_cons, List.not_mem_nil, or_false] at hc
  rcases hc with rfl | rfl | rfl
  · exact w_c0
  · exact w_c1
  · exact w_c2
set_option maxRecDepth 65536 in
theorem w_t1 : words1.all (fun c => isCode c || c.before args0 about1) = true := by decide +kernel
theorem w_tables : (allAtoms (Jvm.Cond.code x code maxLocals ret :: tables_1)).before args0 about1 = true := by
  rw [allAtoms_all]
  show words1.all (fun c => c.before args0 about1) = true
  refine all_split ?_ w_codes
  rw [w_t1]
set_option maxRecDepth 65536 in
theorem w_case : (Jvm.Cond.and given_1 narrow_1).before args0 about1 = true := by decide +kernel
theorem w_applies : (headSpec (Jvm.Cond.code x code maxLocals ret :: tables_1) room_1).applies x e0.platform about1 = true :=
  (Spec.applies_iff w_frames).mpr ⟨w_running, w_runnable, w_alone, w_named, w_hears, w_ripe, w_room, w_tables⟩
theorem atStart : AtStart classFile x code maxLocals ret World_1 tables_1 room_1 Calls_1 rest_1 Pre_1 launch0 p0 e0 about1 theMethod args0 below0 :=
  ⟨lists_1, trivial, launch0.admits_env _ _ _, launch0.least_env, fairChoices_fair.cas, fairChoices_fair.clock, w_frames, w_args, w_heap, w_applies, trivial, trivial, w_case⟩
end start1
theorem witness_1 : WitnessClaimed_1 := ⟨start1.p0, start1.e0, start1.about1, start1.theMethod, start1.args0, start1.below0, start1.atStart⟩
end Jvm.Pilot.@@N@@
