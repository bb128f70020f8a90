import JvmDerived
import JvmDerived.Pilot.@@N@@Statement
import JvmDerived.Pilot.@@N@@Code
set_option linter.unusedVariables false
set_option linter.unusedSimpArgs false
namespace Jvm.RoadKit
open Sem ClassFile Op Lib Jvm.Stand Jvm.Free Jvm.LawKit
section New
variable {p : Program} {l : Launch} {e : Env} {R : Room} {s : State} {m : MethodId} {args : Array Value} {below : List Frame} {meth : Method} {c : Code} {T : State} {locs : List Loc} {cells slots : Nat}
theorem retI (X : Stand p l e R s m args below meth c T locs cells slots) (hx : p.tables.exec = Jvm.exec) {pc : Nat} {Ls : Array Slot} {z : Int32} {rest : List Value} (hret : meth.sig.returnType = some .int) (hd : decode c.code pc = .ok (.ireturn, 1)) {fs : List Frame}
    (hl : ∀ (f : JFrame) (acts : List Action), f.method = m → f.locked = none → f.entered = [] → (doReturn e (T.setTop f) acts (some (.int z))).1 = T.setFrames fs) : Steps p.tables e below (T.setTop (mkF m pc Ls (.int z :: rest))) (T.setFrames fs) := by
  have hm' : T.vm.method? m = some meth := X.method'
  have hn : narrow .int (.int z) = .int z := rfl
  show Steps p.tables e below (T.setTop { method := m, pc := pc, locals := Ls, stack := _ :: rest, locked := none }) _
  jvm_step X.here [X.here.top, hx, hd, hm', hret, hn]
  first | (intro acts; rw [hl _ acts rfl rfl rfl]) | rw [hl _ _ rfl rfl rfl]
  exact Steps.refl _
end New
end Jvm.RoadKit
namespace Jvm.Pilot.@@N@@
open Jvm Jvm.ClassFile Sem Op Lib Jvm.Free Jvm.Stand Jvm.LawKit Jvm.RoadKit Bundle Jvm.Pilot.@@N@@.Jvm.D
theorem pn_0 : plainName "com/example/ivent/ivent/core/Utf8LengthLedByPinLaw" = true := by first | (simp [plainName, overriddenIn]; done) | decide +kernel
theorem pn_1 : plainName "com/example/ivent/ivent/core/Utf8" = true := by first | (simp [plainName, overriddenIn]; done) | decide +kernel
theorem pd_0 : parseMethodDescriptor "(I)I" = some ⟨[.int], some .int⟩ := by decide +kernel
theorem d1_0 : decode method_2_code 0 = .ok (.iload_n 0, 1) := by decide +kernel
theorem d1_1 : decode method_2_code 1 = .ok (.bipush 7, 2) := by decide +kernel
theorem d1_3 : decode method_2_code 3 = .ok (.ishr, 1) := by decide +kernel
theorem d1_4 : decode method_2_code 4 = .ok (.ifCond .ne 8, 3) := by decide +kernel
theorem d1_7 : decode method_2_code 7 = .ok (.iconst 1, 1) := by decide +kernel
theorem d1_8 : decode method_2_code 8 = .ok (.istore_n 1, 1) := by decide +kernel
theorem d1_9 : decode method_2_code 9 = .ok (.goto 66, 3) := by decide +kernel
theorem d1_12 : decode method_2_code 12 = .ok (.iload_n 0, 1) := by decide +kernel
theorem d1_13 : decode method_2_code 13 = .ok (.iconst 5, 1) := by decide +kernel
theorem d1_14 : decode method_2_code 14 = .ok (.ishr, 1) := by decide +kernel
theorem d1_15 : decode method_2_code 15 = .ok (.bipush 6, 2) := by decide +kernel
theorem d1_17 : decode method_2_code 17 = .ok (.if_icmp .ne 19, 3) := by decide +kernel
theorem d1_20 : decode method_2_code 20 = .ok (.iload_n 0, 1) := by decide +kernel
theorem d1_21 : decode method_2_code 21 = .ok (.sipush 194, 3) := by decide +kernel
theorem d1_24 : decode method_2_code 24 = .ok (.if_icmp .lt 7, 3) := by decide +kernel
theorem d1_27 : decode method_2_code 27 = .ok (.iconst 2, 1) := by decide +kernel
theorem d1_28 : decode method_2_code 28 = .ok (.goto 4, 3) := by decide +kernel
theorem d1_31 : decode method_2_code 31 = .ok (.iconst 0, 1) := by decide +kernel
theorem d1_32 : decode method_2_code 32 = .ok (.istore_n 1, 1) := by decide +kernel
theorem d1_33 : decode method_2_code 33 = .ok (.goto 42, 3) := by decide +kernel
theorem d1_36 : decode method_2_code 36 = .ok (.iload_n 0, 1) := by decide +kernel
theorem d1_37 : decode method_2_code 37 = .ok (.iconst 4, 1) := by decide +kernel
theorem d1_38 : decode method_2_code 38 = .ok (.ishr, 1) := by decide +kernel
theorem d1_39 : decode method_2_code 39 = .ok (.bipush 14, 2) := by decide +kernel
theorem d1_41 : decode method_2_code 41 = .ok (.if_icmp .ne 8, 3) := by decide +kernel
theorem d1_44 : decode method_2_code 44 = .ok (.iconst 3, 1) := by decide +kernel
theorem d1_45 : decode method_2_code 45 = .ok (.istore_n 1, 1) := by decide +kernel
theorem d1_46 : decode method_2_code 46 = .ok (.goto 29, 3) := by decide +kernel
theorem d1_49 : decode method_2_code 49 = .ok (.iload_n 0, 1) := by decide +kernel
theorem d1_50 : decode method_2_code 50 = .ok (.iconst 3, 1) := by decide +kernel
theorem d1_51 : decode method_2_code 51 = .ok (.ishr, 1) := by decide +kernel
theorem d1_52 : decode method_2_code 52 = .ok (.bipush 30, 2) := by decide +kernel
theorem d1_54 : decode method_2_code 54 = .ok (.if_icmp .ne 19, 3) := by decide +kernel
theorem d1_57 : decode method_2_code 57 = .ok (.iload_n 0, 1) := by decide +kernel
theorem d1_58 : decode method_2_code 58 = .ok (.sipush 244, 3) := by decide +kernel
theorem d1_61 : decode method_2_code 61 = .ok (.if_icmp .gt 7, 3) := by decide +kernel
theorem d1_64 : decode method_2_code 64 = .ok (.iconst 4, 1) := by decide +kernel
theorem d1_65 : decode method_2_code 65 = .ok (.goto 4, 3) := by decide +kernel
theorem d1_68 : decode method_2_code 68 = .ok (.iconst 0, 1) := by decide +kernel
theorem d1_69 : decode method_2_code 69 = .ok (.istore_n 1, 1) := by decide +kernel
theorem d1_70 : decode method_2_code 70 = .ok (.goto 5, 3) := by decide +kernel
theorem d1_73 : decode method_2_code 73 = .ok (.iconst 0, 1) := by decide +kernel
theorem d1_74 : decode method_2_code 74 = .ok (.istore_n 1, 1) := by decide +kernel
theorem d1_75 : decode method_2_code 75 = .ok (.iload_n 1, 1) := by decide +kernel
theorem d1_76 : decode method_2_code 76 = .ok (.ireturn, 1) := by decide +kernel
theorem d2_0 : decode prog_49_method_3_code 0 = .ok (.iload_n 0, 1) := by decide +kernel
theorem d2_1 : decode prog_49_method_3_code 1 = .ok (.sipush 255, 3) := by decide +kernel
theorem d2_4 : decode prog_49_method_3_code 4 = .ok (.iand, 1) := by decide +kernel
theorem d2_5 : decode prog_49_method_3_code 5 = .ok (.istore_n 1, 1) := by decide +kernel
theorem d2_6 : decode prog_49_method_3_code 6 = .ok (.iload_n 1, 1) := by decide +kernel
theorem d2_7 : decode prog_49_method_3_code 7 = .ok (.sipush 128, 3) := by decide +kernel
theorem d2_10 : decode prog_49_method_3_code 10 = .ok (.if_icmp .ge 8, 3) := by decide +kernel
theorem d2_13 : decode prog_49_method_3_code 13 = .ok (.iconst 1, 1) := by decide +kernel
theorem d2_14 : decode prog_49_method_3_code 14 = .ok (.istore_n 2, 1) := by decide +kernel
theorem d2_15 : decode prog_49_method_3_code 15 = .ok (.goto 62, 3) := by decide +kernel
theorem d2_18 : decode prog_49_method_3_code 18 = .ok (.iload_n 1, 1) := by decide +kernel
theorem d2_19 : decode prog_49_method_3_code 19 = .ok (.sipush 194, 3) := by decide +kernel
theorem d2_22 : decode prog_49_method_3_code 22 = .ok (.if_icmp .lt 15, 3) := by decide +kernel
theorem d2_25 : decode prog_49_method_3_code 25 = .ok (.iload_n 1, 1) := by decide +kernel
theorem d2_26 : decode prog_49_method_3_code 26 = .ok (.sipush 223, 3) := by decide +kernel
theorem d2_29 : decode prog_49_method_3_code 29 = .ok (.if_icmp .gt 8, 3) := by decide +kernel
theorem d2_32 : decode prog_49_method_3_code 32 = .ok (.iconst 2, 1) := by decide +kernel
theorem d2_33 : decode prog_49_method_3_code 33 = .ok (.istore_n 2, 1) := by decide +kernel
theorem d2_34 : decode prog_49_method_3_code 34 = .ok (.goto 43, 3) := by decide +kernel
theorem d2_37 : decode prog_49_method_3_code 37 = .ok (.iload_n 1, 1) := by decide +kernel
theorem d2_38 : decode prog_49_method_3_code 38 = .ok (.sipush 224, 3) := by decide +kernel
theorem d2_41 : decode prog_49_method_3_code 41 = .ok (.if_icmp .lt 15, 3) := by decide +kernel
theorem d2_44 : decode prog_49_method_3_code 44 = .ok (.iload_n 1, 1) := by decide +kernel
theorem d2_45 : decode prog_49_method_3_code 45 = .ok (.sipush 239, 3) := by decide +kernel
theorem d2_48 : decode prog_49_method_3_code 48 = .ok (.if_icmp .gt 8, 3) := by decide +kernel
theorem d2_51 : decode prog_49_method_3_code 51 = .ok (.iconst 3, 1) := by decide +kernel
theorem d2_52 : decode prog_49_method_3_code 52 = .ok (.istore_n 2, 1) := by decide +kernel
theorem d2_53 : decode prog_49_method_3_code 53 = .ok (.goto 24, 3) := by decide +kernel
theorem d2_56 : decode prog_49_method_3_code 56 = .ok (.iload_n 1, 1) := by decide +kernel
theorem d2_57 : decode prog_49_method_3_code 57 = .ok (.sipush 240, 3) := by decide +kernel
theorem d2_60 : decode prog_49_method_3_code 60 = .ok (.if_icmp .lt 15, 3) := by decide +kernel
theorem d2_63 : decode prog_49_method_3_code 63 = .ok (.iload_n 1, 1) := by decide +kernel
theorem d2_64 : decode prog_49_method_3_code 64 = .ok (.sipush 244, 3) := by decide +kernel
theorem d2_67 : decode prog_49_method_3_code 67 = .ok (.if_icmp .gt 8, 3) := by decide +kernel
theorem d2_70 : decode prog_49_method_3_code 70 = .ok (.iconst 4, 1) := by decide +kernel
theorem d2_71 : decode prog_49_method_3_code 71 = .ok (.istore_n 2, 1) := by decide +kernel
theorem d2_72 : decode prog_49_method_3_code 72 = .ok (.goto 5, 3) := by decide +kernel
theorem d2_75 : decode prog_49_method_3_code 75 = .ok (.iconst 0, 1) := by decide +kernel
theorem d2_76 : decode prog_49_method_3_code 76 = .ok (.istore_n 2, 1) := by decide +kernel
theorem d2_77 : decode prog_49_method_3_code 77 = .ok (.iload_n 2, 1) := by decide +kernel
theorem d2_78 : decode prog_49_method_3_code 78 = .ok (.ireturn, 1) := by decide +kernel
def g1_75 (p1 : Int32)  (z75_0 : Int32) : Int32 := z75_0
def g1_73 (p1 : Int32)   : Int32 := (g1_75 p1  (0 : Int32))
def g1_69 (p1 : Int32)  (z69_0 : Int32) : Int32 := (g1_75 p1  z69_0)
def g1_68 (p1 : Int32)   : Int32 := (g1_69 p1  (0 : Int32))
def g1_64 (p1 : Int32)   : Int32 := (g1_69 p1  (4 : Int32))
def g1_57 (p1 : Int32)   : Int32 := if (244 : Int32) < p1 then (g1_68 p1  ) else (g1_64 p1  )
def g1_49 (p1 : Int32)   : Int32 := if (p1 >>> ((3 : Int32) &&& 31)) = (30 : Int32) then (g1_57 p1  ) else (g1_73 p1  )
def g1_44 (p1 : Int32)   : Int32 := (g1_75 p1  (3 : Int32))
def g1_36 (p1 : Int32)   : Int32 := if (p1 >>> ((4 : Int32) &&& 31)) = (14 : Int32) then (g1_44 p1  ) else (g1_49 p1  )
def g1_32 (p1 : Int32)  (z32_0 : Int32) : Int32 := (g1_75 p1  z32_0)
def g1_31 (p1 : Int32)   : Int32 := (g1_32 p1  (0 : Int32))
def g1_27 (p1 : Int32)   : Int32 := (g1_32 p1  (2 : Int32))
def g1_20 (p1 : Int32)   : Int32 := if p1 < (194 : Int32) then (g1_31 p1  ) else (g1_27 p1  )
def g1_12 (p1 : Int32)   : Int32 := if (p1 >>> ((5 : Int32) &&& 31)) = (6 : Int32) then (g1_20 p1  ) else (g1_36 p1  )
def g1_7 (p1 : Int32)   : Int32 := (g1_75 p1  (1 : Int32))
def g1_0 (p1 : Int32)   : Int32 := if (p1 >>> ((7 : Int32) &&& 31)) = (0 : Int32) then (g1_7 p1  ) else (g1_12 p1  )
def g2_77 (p1 : Int32)  (z77_0 : Int32) : Int32 := z77_0
def g2_75 (p1 : Int32)   : Int32 := (g2_77 p1  (0 : Int32))
def g2_70 (p1 : Int32)   : Int32 := (g2_77 p1  (4 : Int32))
def g2_63 (p1 : Int32)   : Int32 := if (244 : Int32) < (p1 &&& (255 : Int32)) then (g2_75 p1  ) else (g2_70 p1  )
def g2_56 (p1 : Int32)   : Int32 := if (p1 &&& (255 : Int32)) < (240 : Int32) then (g2_75 p1  ) else (g2_63 p1  )
def g2_51 (p1 : Int32)   : Int32 := (g2_77 p1  (3 : Int32))
def g2_44 (p1 : Int32)   : Int32 := if (239 : Int32) < (p1 &&& (255 : Int32)) then (g2_56 p1  ) else (g2_51 p1  )
def g2_37 (p1 : Int32)   : Int32 := if (p1 &&& (255 : Int32)) < (224 : Int32) then (g2_56 p1  ) else (g2_44 p1  )
def g2_32 (p1 : Int32)   : Int32 := (g2_77 p1  (2 : Int32))
def g2_25 (p1 : Int32)   : Int32 := if (223 : Int32) < (p1 &&& (255 : Int32)) then (g2_37 p1  ) else (g2_32 p1  )
def g2_18 (p1 : Int32)   : Int32 := if (p1 &&& (255 : Int32)) < (194 : Int32) then (g2_37 p1  ) else (g2_25 p1  )
def g2_13 (p1 : Int32)   : Int32 := (g2_77 p1  (1 : Int32))
def g2_0 (p1 : Int32)   : Int32 := if (p1 &&& (255 : Int32)) < (128 : Int32) then (g2_13 p1  ) else (g2_18 p1  )
theorem own_mask (p : Int32) : ∃ n : Nat, n < 256 ∧ (p &&& (255 : Int32)) = Int32.ofNat n := by
  have h : (p &&& (255 : Int32)).toInt = p.toInt % (2 ^ 8 : Nat) := c_mask p 255 8 (by decide) (by decide)
  refine ⟨(p &&& (255 : Int32)).toInt.toNat, by omega, ?_⟩
  apply Int32.toInt_inj.mp
  rw [Int32.toInt_ofNat_of_lt (by omega)]
  omega
theorem own_byte (p : Int32) : (p.toInt8.toInt32 &&& (255 : Int32)) = (p &&& (255 : Int32)) := by
  have h1 : (p &&& (255 : Int32)).toInt = p.toInt % (2 ^ 8 : Nat) := c_mask p 255 8 (by decide) (by decide)
  have h2 : (p.toInt8.toInt32 &&& (255 : Int32)).toInt = p.toInt8.toInt32.toInt % (2 ^ 8 : Nat) := c_mask _ 255 8 (by decide) (by decide)
  have h3 := c_i2b p
  apply Int32.toInt_inj.mp
  rw [h1, h2]
  omega
def own_f (k : Int32) : Int32 := if k < 128 then 1 else if k < 194 then (if k < 224 then (if k < 240 then 0 else if 244 < k then 0 else 4) else if 239 < k then (if k < 240 then 0 else if 244 < k then 0 else 4) else 3) else if 223 < k then (if k < 224 then (if k < 240 then 0 else if 244 < k then 0 else 4) else if 239 < k then (if k < 240 then 0 else if 244 < k then 0 else 4) else 3) else 2
theorem own_g2 (p : Int32) : g2_0 p = own_f (p &&& (255 : Int32)) := rfl
theorem own_all : ∀ n : Nat, n < 256 → own_f (Int32.ofNat n) = g1_0 (Int32.ofNat n) := by decide +kernel
theorem own_A (p : Int32) : g2_0 p = g1_0 (p &&& (255 : Int32)) := by
  obtain ⟨n, hn, e⟩ := own_mask p
  rw [own_g2, e]
  exact own_all n hn
theorem own_B (p : Int32) : g2_0 (p.toInt8.toInt32) = g1_0 (p &&& (255 : Int32)) := by rw [own_A, own_byte]
theorem ef_1 (m : MethodId) (p1 : Int32) : entryFrame m #[(.int p1)] 2 = mkF m 0 #[.val (.int p1), .unset] [] := by first | (simp [entryFrame, mkF, argsToLocals, Value.category]; done) | rfl
def Q1 (Z : State) (p1 : Int32)  (h0 : Heap) (n0 : Nat) (v : Option Value) (h : Heap) (L : List Loc) : Prop := v = some (.int (g1_0 p1 )) ∧ Fr n0 L ∧ h = h0
set_option maxRecDepth 65536 in
set_option maxHeartbeats 40000000 in
theorem rm1 (l : Launch) (Z : State) (a0 : Array Value) (hw : ∀ d ∈ tables_1, d.before a0 Z = true) (ws : List Jvm.Cond) (p1 : Int32)  (h0 : Heap) (n0 : Nat) (Z0 : n0 ≤ h0.size) :
    MetFree l (⟨"com/example/ivent/ivent/core/Utf8LengthLedByPinLaw", "expected", "(I)I"⟩ : MethodName) (head1 (Jvm.Cond.code (⟨"com/example/ivent/ivent/core/Utf8LengthLedByPinLaw", "expected", "(I)I"⟩ : MethodName) method_2_code 2 (some .int) :: ws) ({ frames := 0, cells := 0, slots := 0, locals := 0 } : Room)) (fun a U => a = #[(.int p1)] ∧ Z.Warmed39 U.vm ∧ U.heap = h0) (fun _ _ _ _ _ => True) (fun _ U o U' => ∃ v L, o = .returned v ∧ Q1 Z p1 h0 n0 v U'.heap L ∧ FrameEnd U o U' L ({ frames := 0, cells := 0, slots := 0, locals := 0 } : Room).cells ({ frames := 0, cells := 0, slots := 0, locals := 0 } : Room).slots) := by
  refine MetFree.of_bodySF (plainFor_of_name pn_0) hisR ?_
  intro p e s m args below meth c s₁ Bd hml0 hP hK
  obtain ⟨rfl, hZ, hh⟩ := hP
  have hx := Bd.exec
  have hby := Bd.bytes
  have hml : c.maxLocals = 2 := hml0
  have hown : s.vm.findClass "com/example/ivent/ivent/core/Utf8LengthLedByPinLaw" = some m.cls := findClass_of_methodNamed Bd.named
  have hnm := (name_of_methodNamed Bd.named Bd.method).1
  have X0 : Stand p l e ({ frames := 0, cells := 0, slots := 0, locals := 0 } : Room) s m #[(.int p1)] below meth c s₁ [] 0 0 := Stand.of_body Bd
  have e0 : s₁.heap = h0 := by rw [← hh, Bd.state]; rfl
  have N0 := Fr.nil n0
  have pre0 : ∀ t, Steps p.tables e below (s₁.setTop (mkF m 0 #[.val (.int p1), .unset] [])) t → Steps p.tables e below (s₁.setTop (entryFrame m #[(.int p1)] 2)) t := fun t k => castTop (ef_1 m p1) k
  obtain ⟨V, hV⟩ : ∃ V : Int32, V = g1_0 p1  := ⟨_, rfl⟩
  obtain ⟨fs, hr, hrun, hended, hW, hsame⟩ := X0.leave (v := some (.int V)) (fun h => by rw [Bd.returns] at h; cases h)
  have b75 : ∀ (z75_0 : Int32), V = (g1_75 p1  z75_0) → Steps p.tables e below (s₁.setTop (mkF m 75 #[.val (.int p1), .val (.int z75_0)] [])) (s₁.setFrames fs) := by
    intro z75_0 hv
    show Steps p.tables e below (s₁.setTop (mkF m 75 #[.val (.int p1), .val (.int z75_0)] [])) _
    refine XS.iloadN X0.here hx rfl (hb hby d1_75) rfl ?_
    show Steps p.tables e below (s₁.setTop (mkF m 76 #[.val (.int p1), .val (.int z75_0)] [(.int z75_0)])) _
    have hv' : V = z75_0 := hv
    clear hv
    subst hv'
    exact retI X0 hx Bd.returns (hb hby d1_76) hr
  have b73 : V = (g1_73 p1  ) → Steps p.tables e below (s₁.setTop (mkF m 73 #[.val (.int p1), .unset] [])) (s₁.setFrames fs) := by
    intro  hv
    show Steps p.tables e below (s₁.setTop (mkF m 73 #[.val (.int p1), .unset] [])) _
    refine XS.iconst X0.here hx rfl (hb hby d1_73) ?_
    show Steps p.tables e below (s₁.setTop (mkF m 74 #[.val (.int p1), .unset] [(.int (0 : Int32))])) _
    refine XS.istoreN X0.here hx rfl (hb hby d1_74) rfl (l' := #[.val (.int p1), .val (.int (0 : Int32))]) rfl ?_
    show Steps p.tables e below (s₁.setTop (mkF m 75 #[.val (.int p1), .val (.int (0 : Int32))] [])) _
    exact b75 (0 : Int32) hv
  have b69 : ∀ (z69_0 : Int32), V = (g1_69 p1  z69_0) → Steps p.tables e below (s₁.setTop (mkF m 69 #[.val (.int p1), .unset] [(.int z69_0)])) (s₁.setFrames fs) := by
    intro z69_0 hv
    show Steps p.tables e below (s₁.setTop (mkF m 69 #[.val (.int p1), .unset] [(.int z69_0)])) _
    refine XS.istoreN X0.here hx rfl (hb hby d1_69) rfl (l' := #[.val (.int p1), .val (.int z69_0)]) rfl ?_
    show Steps p.tables e below (s₁.setTop (mkF m 70 #[.val (.int p1), .val (.int z69_0)] [])) _
    refine XS.goto X0.here hx rfl (pc0 := 70) (pc' := 75) rfl (hb hby d1_70) (by decide) (by decide) ?_
    show Steps p.tables e below (s₁.setTop (mkF m 75 #[.val (.int p1), .val (.int z69_0)] [])) _
    exact b75 z69_0 hv
  have b68 : V = (g1_68 p1  ) → Steps p.tables e below (s₁.setTop (mkF m 68 #[.val (.int p1), .unset] [])) (s₁.setFrames fs) := by
    intro  hv
    show Steps p.tables e below (s₁.setTop (mkF m 68 #[.val (.int p1), .unset] [])) _
    refine XS.iconst X0.here hx rfl (hb hby d1_68) ?_
    show Steps p.tables e below (s₁.setTop (mkF m 69 #[.val (.int p1), .unset] [(.int (0 : Int32))])) _
    exact b69 (0 : Int32) hv
  have b64 : V = (g1_64 p1  ) → Steps p.tables e below (s₁.setTop (mkF m 64 #[.val (.int p1), .unset] [])) (s₁.setFrames fs) := by
    intro  hv
    show Steps p.tables e below (s₁.setTop (mkF m 64 #[.val (.int p1), .unset] [])) _
    refine XS.iconst X0.here hx rfl (hb hby d1_64) ?_
    show Steps p.tables e below (s₁.setTop (mkF m 65 #[.val (.int p1), .unset] [(.int (4 : Int32))])) _
    refine XS.goto X0.here hx rfl (pc0 := 65) (pc' := 69) rfl (hb hby d1_65) (by decide) (by decide) ?_
    show Steps p.tables e below (s₁.setTop (mkF m 69 #[.val (.int p1), .unset] [(.int (4 : Int32))])) _
    exact b69 (4 : Int32) hv
  have b57 : V = (g1_57 p1  ) → Steps p.tables e below (s₁.setTop (mkF m 57 #[.val (.int p1), .unset] [])) (s₁.setFrames fs) := by
    intro  hv
    show Steps p.tables e below (s₁.setTop (mkF m 57 #[.val (.int p1), .unset] [])) _
    refine XS.iloadN X0.here hx rfl (hb hby d1_57) rfl ?_
    show Steps p.tables e below (s₁.setTop (mkF m 58 #[.val (.int p1), .unset] [(.int p1)])) _
    refine XS.sipush X0.here hx rfl (hb hby d1_58) ?_
    show Steps p.tables e below (s₁.setTop (mkF m 61 #[.val (.int p1), .unset] [(.int (244 : Int32)), (.int p1)])) _
    by_cases hc : (244 : Int32) < p1
    · refine XS.icmpYes X0.here hx rfl (pc0 := 61) (pc' := 68) rfl (hb hby d1_61) rfl (tlt hc).2.2.1 (by decide) (by decide) ?_
      show Steps p.tables e below (s₁.setTop (mkF m 68 #[.val (.int p1), .unset] [])) _
      exact b68  (hv.trans (show (g1_57 p1  ) = (g1_68 p1  ) from if_pos hc))
    · refine XS.icmpNo X0.here hx rfl (hb hby d1_61) rfl (flt hc).2.2.1 ?_
      show Steps p.tables e below (s₁.setTop (mkF m 64 #[.val (.int p1), .unset] [])) _
      exact b64  (hv.trans (show (g1_57 p1  ) = (g1_64 p1  ) from if_neg hc))
  have b49 : V = (g1_49 p1  ) → Steps p.tables e below (s₁.setTop (mkF m 49 #[.val (.int p1), .unset] [])) (s₁.setFrames fs) := by
    intro  hv
    show Steps p.tables e below (s₁.setTop (mkF m 49 #[.val (.int p1), .unset] [])) _
    refine XS.iloadN X0.here hx rfl (hb hby d1_49) rfl ?_
    show Steps p.tables e below (s₁.setTop (mkF m 50 #[.val (.int p1), .unset] [(.int p1)])) _
    refine XS.iconst X0.here hx rfl (hb hby d1_50) ?_
    show Steps p.tables e below (s₁.setTop (mkF m 51 #[.val (.int p1), .unset] [(.int (3 : Int32)), (.int p1)])) _
    refine XS.ishr X0.here hx rfl (hb hby d1_51) rfl ?_
    show Steps p.tables e below (s₁.setTop (mkF m 52 #[.val (.int p1), .unset] [(.int (p1 >>> ((3 : Int32) &&& 31)))])) _
    refine XS.bipush X0.here hx rfl (hb hby d1_52) ?_
    show Steps p.tables e below (s₁.setTop (mkF m 54 #[.val (.int p1), .unset] [(.int (30 : Int32)), (.int (p1 >>> ((3 : Int32) &&& 31)))])) _
    by_cases hc : (p1 >>> ((3 : Int32) &&& 31)) = (30 : Int32)
    · refine XS.icmpNo X0.here hx rfl (hb hby d1_54) rfl (teq hc).2 ?_
      show Steps p.tables e below (s₁.setTop (mkF m 57 #[.val (.int p1), .unset] [])) _
      exact b57  (hv.trans (show (g1_49 p1  ) = (g1_57 p1  ) from if_pos hc))
    · refine XS.icmpYes X0.here hx rfl (pc0 := 54) (pc' := 73) rfl (hb hby d1_54) rfl (feq hc).2 (by decide) (by decide) ?_
      show Steps p.tables e below (s₁.setTop (mkF m 73 #[.val (.int p1), .unset] [])) _
      exact b73  (hv.trans (show (g1_49 p1  ) = (g1_73 p1  ) from if_neg hc))
  have b44 : V = (g1_44 p1  ) → Steps p.tables e below (s₁.setTop (mkF m 44 #[.val (.int p1), .unset] [])) (s₁.setFrames fs) := by
    intro  hv
    show Steps p.tables e below (s₁.setTop (mkF m 44 #[.val (.int p1), .unset] [])) _
    refine XS.iconst X0.here hx rfl (hb hby d1_44) ?_
    show Steps p.tables e below (s₁.setTop (mkF m 45 #[.val (.int p1), .unset] [(.int (3 : Int32))])) _
    refine XS.istoreN X0.here hx rfl (hb hby d1_45) rfl (l' := #[.val (.int p1), .val (.int (3 : Int32))]) rfl ?_
    show Steps p.tables e below (s₁.setTop (mkF m 46 #[.val (.int p1), .val (.int (3 : Int32))] [])) _
    refine XS.goto X0.here hx rfl (pc0 := 46) (pc' := 75) rfl (hb hby d1_46) (by decide) (by decide) ?_
    show Steps p.tables e below (s₁.setTop (mkF m 75 #[.val (.int p1), .val (.int (3 : Int32))] [])) _
    exact b75 (3 : Int32) hv
  have b36 : V = (g1_36 p1  ) → Steps p.tables e below (s₁.setTop (mkF m 36 #[.val (.int p1), .unset] [])) (s₁.setFrames fs) := by
    intro  hv
    show Steps p.tables e below (s₁.setTop (mkF m 36 #[.val (.int p1), .unset] [])) _
    refine XS.iloadN X0.here hx rfl (hb hby d1_36) rfl ?_
    show Steps p.tables e below (s₁.setTop (mkF m 37 #[.val (.int p1), .unset] [(.int p1)])) _
    refine XS.iconst X0.here hx rfl (hb hby d1_37) ?_
    show Steps p.tables e below (s₁.setTop (mkF m 38 #[.val (.int p1), .unset] [(.int (4 : Int32)), (.int p1)])) _
    refine XS.ishr X0.here hx rfl (hb hby d1_38) rfl ?_
    show Steps p.tables e below (s₁.setTop (mkF m 39 #[.val (.int p1), .unset] [(.int (p1 >>> ((4 : Int32) &&& 31)))])) _
    refine XS.bipush X0.here hx rfl (hb hby d1_39) ?_
    show Steps p.tables e below (s₁.setTop (mkF m 41 #[.val (.int p1), .unset] [(.int (14 : Int32)), (.int (p1 >>> ((4 : Int32) &&& 31)))])) _
    by_cases hc : (p1 >>> ((4 : Int32) &&& 31)) = (14 : Int32)
    · refine XS.icmpNo X0.here hx rfl (hb hby d1_41) rfl (teq hc).2 ?_
      show Steps p.tables e below (s₁.setTop (mkF m 44 #[.val (.int p1), .unset] [])) _
      exact b44  (hv.trans (show (g1_36 p1  ) = (g1_44 p1  ) from if_pos hc))
    · refine XS.icmpYes X0.here hx rfl (pc0 := 41) (pc' := 49) rfl (hb hby d1_41) rfl (feq hc).2 (by decide) (by decide) ?_
      show Steps p.tables e below (s₁.setTop (mkF m 49 #[.val (.int p1), .unset] [])) _
      exact b49  (hv.trans (show (g1_36 p1  ) = (g1_49 p1  ) from if_neg hc))
  have b32 : ∀ (z32_0 : Int32), V = (g1_32 p1  z32_0) → Steps p.tables e below (s₁.setTop (mkF m 32 #[.val (.int p1), .unset] [(.int z32_0)])) (s₁.setFrames fs) := by
    intro z32_0 hv
    show Steps p.tables e below (s₁.setTop (mkF m 32 #[.val (.int p1), .unset] [(.int z32_0)])) _
    refine XS.istoreN X0.here hx rfl (hb hby d1_32) rfl (l' := #[.val (.int p1), .val (.int z32_0)]) rfl ?_
    show Steps p.tables e below (s₁.setTop (mkF m 33 #[.val (.int p1), .val (.int z32_0)] [])) _
    refine XS.goto X0.here hx rfl (pc0 := 33) (pc' := 75) rfl (hb hby d1_33) (by decide) (by decide) ?_
    show Steps p.tables e below (s₁.setTop (mkF m 75 #[.val (.int p1), .val (.int z32_0)] [])) _
    exact b75 z32_0 hv
  have b31 : V = (g1_31 p1  ) → Steps p.tables e below (s₁.setTop (mkF m 31 #[.val (.int p1), .unset] [])) (s₁.setFrames fs) := by
    intro  hv
    show Steps p.tables e below (s₁.setTop (mkF m 31 #[.val (.int p1), .unset] [])) _
    refine XS.iconst X0.here hx rfl (hb hby d1_31) ?_
    show Steps p.tables e below (s₁.setTop (mkF m 32 #[.val (.int p1), .unset] [(.int (0 : Int32))])) _
    exact b32 (0 : Int32) hv
  have b27 : V = (g1_27 p1  ) → Steps p.tables e below (s₁.setTop (mkF m 27 #[.val (.int p1), .unset] [])) (s₁.setFrames fs) := by
    intro  hv
    show Steps p.tables e below (s₁.setTop (mkF m 27 #[.val (.int p1), .unset] [])) _
    refine XS.iconst X0.here hx rfl (hb hby d1_27) ?_
    show Steps p.tables e below (s₁.setTop (mkF m 28 #[.val (.int p1), .unset] [(.int (2 : Int32))])) _
    refine XS.goto X0.here hx rfl (pc0 := 28) (pc' := 32) rfl (hb hby d1_28) (by decide) (by decide) ?_
    show Steps p.tables e below (s₁.setTop (mkF m 32 #[.val (.int p1), .unset] [(.int (2 : Int32))])) _
    exact b32 (2 : Int32) hv
  have b20 : V = (g1_20 p1  ) → Steps p.tables e below (s₁.setTop (mkF m 20 #[.val (.int p1), .unset] [])) (s₁.setFrames fs) := by
    intro  hv
    show Steps p.tables e below (s₁.setTop (mkF m 20 #[.val (.int p1), .unset] [])) _
    refine XS.iloadN X0.here hx rfl (hb hby d1_20) rfl ?_
    show Steps p.tables e below (s₁.setTop (mkF m 21 #[.val (.int p1), .unset] [(.int p1)])) _
    refine XS.sipush X0.here hx rfl (hb hby d1_21) ?_
    show Steps p.tables e below (s₁.setTop (mkF m 24 #[.val (.int p1), .unset] [(.int (194 : Int32)), (.int p1)])) _
    by_cases hc : p1 < (194 : Int32)
    · refine XS.icmpYes X0.here hx rfl (pc0 := 24) (pc' := 31) rfl (hb hby d1_24) rfl (tlt hc).1 (by decide) (by decide) ?_
      show Steps p.tables e below (s₁.setTop (mkF m 31 #[.val (.int p1), .unset] [])) _
      exact b31  (hv.trans (show (g1_20 p1  ) = (g1_31 p1  ) from if_pos hc))
    · refine XS.icmpNo X0.here hx rfl (hb hby d1_24) rfl (flt hc).1 ?_
      show Steps p.tables e below (s₁.setTop (mkF m 27 #[.val (.int p1), .unset] [])) _
      exact b27  (hv.trans (show (g1_20 p1  ) = (g1_27 p1  ) from if_neg hc))
  have b12 : V = (g1_12 p1  ) → Steps p.tables e below (s₁.setTop (mkF m 12 #[.val (.int p1), .unset] [])) (s₁.setFrames fs) := by
    intro  hv
    show Steps p.tables e below (s₁.setTop (mkF m 12 #[.val (.int p1), .unset] [])) _
    refine XS.iloadN X0.here hx rfl (hb hby d1_12) rfl ?_
    show Steps p.tables e below (s₁.setTop (mkF m 13 #[.val (.int p1), .unset] [(.int p1)])) _
    refine XS.iconst X0.here hx rfl (hb hby d1_13) ?_
    show Steps p.tables e below (s₁.setTop (mkF m 14 #[.val (.int p1), .unset] [(.int (5 : Int32)), (.int p1)])) _
    refine XS.ishr X0.here hx rfl (hb hby d1_14) rfl ?_
    show Steps p.tables e below (s₁.setTop (mkF m 15 #[.val (.int p1), .unset] [(.int (p1 >>> ((5 : Int32) &&& 31)))])) _
    refine XS.bipush X0.here hx rfl (hb hby d1_15) ?_
    show Steps p.tables e below (s₁.setTop (mkF m 17 #[.val (.int p1), .unset] [(.int (6 : Int32)), (.int (p1 >>> ((5 : Int32) &&& 31)))])) _
    by_cases hc : (p1 >>> ((5 : Int32) &&& 31)) = (6 : Int32)
    · refine XS.icmpNo X0.here hx rfl (hb hby d1_17) rfl (teq hc).2 ?_
      show Steps p.tables e below (s₁.setTop (mkF m 20 #[.val (.int p1), .unset] [])) _
      exact b20  (hv.trans (show (g1_12 p1  ) = (g1_20 p1  ) from if_pos hc))
    · refine XS.icmpYes X0.here hx rfl (pc0 := 17) (pc' := 36) rfl (hb hby d1_17) rfl (feq hc).2 (by decide) (by decide) ?_
      show Steps p.tables e below (s₁.setTop (mkF m 36 #[.val (.int p1), .unset] [])) _
      exact b36  (hv.trans (show (g1_12 p1  ) = (g1_36 p1  ) from if_neg hc))
  have b7 : V = (g1_7 p1  ) → Steps p.tables e below (s₁.setTop (mkF m 7 #[.val (.int p1), .unset] [])) (s₁.setFrames fs) := by
    intro  hv
    show Steps p.tables e below (s₁.setTop (mkF m 7 #[.val (.int p1), .unset] [])) _
    refine XS.iconst X0.here hx rfl (hb hby d1_7) ?_
    show Steps p.tables e below (s₁.setTop (mkF m 8 #[.val (.int p1), .unset] [(.int (1 : Int32))])) _
    refine XS.istoreN X0.here hx rfl (hb hby d1_8) rfl (l' := #[.val (.int p1), .val (.int (1 : Int32))]) rfl ?_
    show Steps p.tables e below (s₁.setTop (mkF m 9 #[.val (.int p1), .val (.int (1 : Int32))] [])) _
    refine XS.goto X0.here hx rfl (pc0 := 9) (pc' := 75) rfl (hb hby d1_9) (by decide) (by decide) ?_
    show Steps p.tables e below (s₁.setTop (mkF m 75 #[.val (.int p1), .val (.int (1 : Int32))] [])) _
    exact b75 (1 : Int32) hv
  have b0 : V = (g1_0 p1  ) → Steps p.tables e below (s₁.setTop (mkF m 0 #[.val (.int p1), .unset] [])) (s₁.setFrames fs) := by
    intro  hv
    show Steps p.tables e below (s₁.setTop (mkF m 0 #[.val (.int p1), .unset] [])) _
    refine XS.iloadN X0.here hx rfl (hb hby d1_0) rfl ?_
    show Steps p.tables e below (s₁.setTop (mkF m 1 #[.val (.int p1), .unset] [(.int p1)])) _
    refine XS.bipush X0.here hx rfl (hb hby d1_1) ?_
    show Steps p.tables e below (s₁.setTop (mkF m 3 #[.val (.int p1), .unset] [(.int (7 : Int32)), (.int p1)])) _
    refine XS.ishr X0.here hx rfl (hb hby d1_3) rfl ?_
    show Steps p.tables e below (s₁.setTop (mkF m 4 #[.val (.int p1), .unset] [(.int (p1 >>> ((7 : Int32) &&& 31)))])) _
    by_cases hc : (p1 >>> ((7 : Int32) &&& 31)) = (0 : Int32)
    · refine XS.ifNo X0.here hx rfl (hb hby d1_4) rfl ((if0 _ _).trans (teq hc).2) ?_
      show Steps p.tables e below (s₁.setTop (mkF m 7 #[.val (.int p1), .unset] [])) _
      exact b7  (hv.trans (show (g1_0 p1  ) = (g1_7 p1  ) from if_pos hc))
    · refine XS.ifYes X0.here hx rfl (pc0 := 4) (pc' := 12) rfl (hb hby d1_4) rfl ((if0 _ _).trans (feq hc).2) (by decide) (by decide) ?_
      show Steps p.tables e below (s₁.setTop (mkF m 12 #[.val (.int p1), .unset] [])) _
      exact b12  (hv.trans (show (g1_0 p1  ) = (g1_12 p1  ) from if_neg hc))
  refine ⟨_, _, pre0 _ (b0 hV), hrun, hended, _, _, rfl, ?_, ⟨_, rfl⟩, hW, hsame.mono (by decide) (by decide)⟩
  show Q1 Z p1  h0 n0 _ s₁.heap _
  rw [e0, hV]
  exact ⟨rfl, N0, rfl⟩
theorem ef_2 (m : MethodId) (p1 : Int32) : entryFrame m #[(.int p1)] 3 = mkF m 0 #[.val (.int p1), .unset, .unset] [] := by first | (simp [entryFrame, mkF, argsToLocals, Value.category]; done) | rfl
def Q2 (Z : State) (p1 : Int32)  (h0 : Heap) (n0 : Nat) (v : Option Value) (h : Heap) (L : List Loc) : Prop := v = some (.int (g2_0 p1 )) ∧ Fr n0 L ∧ h = h0
set_option maxRecDepth 65536 in
set_option maxHeartbeats 40000000 in
theorem rm2 (l : Launch) (Z : State) (a0 : Array Value) (hw : ∀ d ∈ tables_1, d.before a0 Z = true) (ws : List Jvm.Cond) (p1 : Int32)  (h0 : Heap) (n0 : Nat) (Z0 : n0 ≤ h0.size) :
    MetFree l (⟨"com/example/ivent/ivent/core/Utf8", "lengthLedBy", "(I)I"⟩ : MethodName) (head1 (Jvm.Cond.code (⟨"com/example/ivent/ivent/core/Utf8", "lengthLedBy", "(I)I"⟩ : MethodName) prog_49_method_3_code 3 (some .int) :: ws) ({ frames := 0, cells := 0, slots := 0, locals := 0 } : Room)) (fun a U => a = #[(.int p1)] ∧ Z.Warmed39 U.vm ∧ U.heap = h0) (fun _ _ _ _ _ => True) (fun _ U o U' => ∃ v L, o = .returned v ∧ Q2 Z p1 h0 n0 v U'.heap L ∧ FrameEnd U o U' L ({ frames := 0, cells := 0, slots := 0, locals := 0 } : Room).cells ({ frames := 0, cells := 0, slots := 0, locals := 0 } : Room).slots) := by
  refine MetFree.of_bodySF (plainFor_of_name pn_1) hisR ?_
  intro p e s m args below meth c s₁ Bd hml0 hP hK
  obtain ⟨rfl, hZ, hh⟩ := hP
  have hx := Bd.exec
  have hby := Bd.bytes
  have hml : c.maxLocals = 3 := hml0
  have hown : s.vm.findClass "com/example/ivent/ivent/core/Utf8" = some m.cls := findClass_of_methodNamed Bd.named
  have hnm := (name_of_methodNamed Bd.named Bd.method).1
  have X0 : Stand p l e ({ frames := 0, cells := 0, slots := 0, locals := 0 } : Room) s m #[(.int p1)] below meth c s₁ [] 0 0 := Stand.of_body Bd
  have e0 : s₁.heap = h0 := by rw [← hh, Bd.state]; rfl
  have N0 := Fr.nil n0
  have pre0 : ∀ t, Steps p.tables e below (s₁.setTop (mkF m 0 #[.val (.int p1), .unset, .unset] [])) t → Steps p.tables e below (s₁.setTop (entryFrame m #[(.int p1)] 3)) t := fun t k => castTop (ef_2 m p1) k
  obtain ⟨V, hV⟩ : ∃ V : Int32, V = g2_0 p1  := ⟨_, rfl⟩
  obtain ⟨fs, hr, hrun, hended, hW, hsame⟩ := X0.leave (v := some (.int V)) (fun h => by rw [Bd.returns] at h; cases h)
  have b77 : ∀ (z77_0 : Int32), V = (g2_77 p1  z77_0) → Steps p.tables e below (s₁.setTop (mkF m 77 #[.val (.int p1), .val (.int (p1 &&& (255 : Int32))), .val (.int z77_0)] [])) (s₁.setFrames fs) := by
    intro z77_0 hv
    show Steps p.tables e below (s₁.setTop (mkF m 77 #[.val (.int p1), .val (.int (p1 &&& (255 : Int32))), .val (.int z77_0)] [])) _
    refine XS.iloadN X0.here hx rfl (hb hby d2_77) rfl ?_
    show Steps p.tables e below (s₁.setTop (mkF m 78 #[.val (.int p1), .val (.int (p1 &&& (255 : Int32))), .val (.int z77_0)] [(.int z77_0)])) _
    have hv' : V = z77_0 := hv
    clear hv
    subst hv'
    exact retI X0 hx Bd.returns (hb hby d2_78) hr
  have b75 : V = (g2_75 p1  ) → Steps p.tables e below (s₁.setTop (mkF m 75 #[.val (.int p1), .val (.int (p1 &&& (255 : Int32))), .unset] [])) (s₁.setFrames fs) := by
    intro  hv
    show Steps p.tables e below (s₁.setTop (mkF m 75 #[.val (.int p1), .val (.int (p1 &&& (255 : Int32))), .unset] [])) _
    refine XS.iconst X0.here hx rfl (hb hby d2_75) ?_
    show Steps p.tables e below (s₁.setTop (mkF m 76 #[.val (.int p1), .val (.int (p1 &&& (255 : Int32))), .unset] [(.int (0 : Int32))])) _
    refine XS.istoreN X0.here hx rfl (hb hby d2_76) rfl (l' := #[.val (.int p1), .val (.int (p1 &&& (255 : Int32))), .val (.int (0 : Int32))]) rfl ?_
    show Steps p.tables e below (s₁.setTop (mkF m 77 #[.val (.int p1), .val (.int (p1 &&& (255 : Int32))), .val (.int (0 : Int32))] [])) _
    exact b77 (0 : Int32) hv
  have b70 : V = (g2_70 p1  ) → Steps p.tables e below (s₁.setTop (mkF m 70 #[.val (.int p1), .val (.int (p1 &&& (255 : Int32))), .unset] [])) (s₁.setFrames fs) := by
    intro  hv
    show Steps p.tables e below (s₁.setTop (mkF m 70 #[.val (.int p1), .val (.int (p1 &&& (255 : Int32))), .unset] [])) _
    refine XS.iconst X0.here hx rfl (hb hby d2_70) ?_
    show Steps p.tables e below (s₁.setTop (mkF m 71 #[.val (.int p1), .val (.int (p1 &&& (255 : Int32))), .unset] [(.int (4 : Int32))])) _
    refine XS.istoreN X0.here hx rfl (hb hby d2_71) rfl (l' := #[.val (.int p1), .val (.int (p1 &&& (255 : Int32))), .val (.int (4 : Int32))]) rfl ?_
    show Steps p.tables e below (s₁.setTop (mkF m 72 #[.val (.int p1), .val (.int (p1 &&& (255 : Int32))), .val (.int (4 : Int32))] [])) _
    refine XS.goto X0.here hx rfl (pc0 := 72) (pc' := 77) rfl (hb hby d2_72) (by decide) (by decide) ?_
    show Steps p.tables e below (s₁.setTop (mkF m 77 #[.val (.int p1), .val (.int (p1 &&& (255 : Int32))), .val (.int (4 : Int32))] [])) _
    exact b77 (4 : Int32) hv
  have b63 : V = (g2_63 p1  ) → Steps p.tables e below (s₁.setTop (mkF m 63 #[.val (.int p1), .val (.int (p1 &&& (255 : Int32))), .unset] [])) (s₁.setFrames fs) := by
    intro  hv
    show Steps p.tables e below (s₁.setTop (mkF m 63 #[.val (.int p1), .val (.int (p1 &&& (255 : Int32))), .unset] [])) _
    refine XS.iloadN X0.here hx rfl (hb hby d2_63) rfl ?_
    show Steps p.tables e below (s₁.setTop (mkF m 64 #[.val (.int p1), .val (.int (p1 &&& (255 : Int32))), .unset] [(.int (p1 &&& (255 : Int32)))])) _
    refine XS.sipush X0.here hx rfl (hb hby d2_64) ?_
    show Steps p.tables e below (s₁.setTop (mkF m 67 #[.val (.int p1), .val (.int (p1 &&& (255 : Int32))), .unset] [(.int (244 : Int32)), (.int (p1 &&& (255 : Int32)))])) _
    by_cases hc : (244 : Int32) < (p1 &&& (255 : Int32))
    · refine XS.icmpYes X0.here hx rfl (pc0 := 67) (pc' := 75) rfl (hb hby d2_67) rfl (tlt hc).2.2.1 (by decide) (by decide) ?_
      show Steps p.tables e below (s₁.setTop (mkF m 75 #[.val (.int p1), .val (.int (p1 &&& (255 : Int32))), .unset] [])) _
      exact b75  (hv.trans (show (g2_63 p1  ) = (g2_75 p1  ) from if_pos hc))
    · refine XS.icmpNo X0.here hx rfl (hb hby d2_67) rfl (flt hc).2.2.1 ?_
      show Steps p.tables e below (s₁.setTop (mkF m 70 #[.val (.int p1), .val (.int (p1 &&& (255 : Int32))), .unset] [])) _
      exact b70  (hv.trans (show (g2_63 p1  ) = (g2_70 p1  ) from if_neg hc))
  have b56 : V = (g2_56 p1  ) → Steps p.tables e below (s₁.setTop (mkF m 56 #[.val (.int p1), .val (.int (p1 &&& (255 : Int32))), .unset] [])) (s₁.setFrames fs) := by
    intro  hv
    show Steps p.tables e below (s₁.setTop (mkF m 56 #[.val (.int p1), .val (.int (p1 &&& (255 : Int32))), .unset] [])) _
    refine XS.iloadN X0.here hx rfl (hb hby d2_56) rfl ?_
    show Steps p.tables e below (s₁.setTop (mkF m 57 #[.val (.int p1), .val (.int (p1 &&& (255 : Int32))), .unset] [(.int (p1 &&& (255 : Int32)))])) _
    refine XS.sipush X0.here hx rfl (hb hby d2_57) ?_
    show Steps p.tables e below (s₁.setTop (mkF m 60 #[.val (.int p1), .val (.int (p1 &&& (255 : Int32))), .unset] [(.int (240 : Int32)), (.int (p1 &&& (255 : Int32)))])) _
    by_cases hc : (p1 &&& (255 : Int32)) < (240 : Int32)
    · refine XS.icmpYes X0.here hx rfl (pc0 := 60) (pc' := 75) rfl (hb hby d2_60) rfl (tlt hc).1 (by decide) (by decide) ?_
      show Steps p.tables e below (s₁.setTop (mkF m 75 #[.val (.int p1), .val (.int (p1 &&& (255 : Int32))), .unset] [])) _
      exact b75  (hv.trans (show (g2_56 p1  ) = (g2_75 p1  ) from if_pos hc))
    · refine XS.icmpNo X0.here hx rfl (hb hby d2_60) rfl (flt hc).1 ?_
      show Steps p.tables e below (s₁.setTop (mkF m 63 #[.val (.int p1), .val (.int (p1 &&& (255 : Int32))), .unset] [])) _
      exact b63  (hv.trans (show (g2_56 p1  ) = (g2_63 p1  ) from if_neg hc))
  have b51 : V = (g2_51 p1  ) → Steps p.tables e below (s₁.setTop (mkF m 51 #[.val (.int p1), .val (.int (p1 &&& (255 : Int32))), .unset] [])) (s₁.setFrames fs) := by
    intro  hv
    show Steps p.tables e below (s₁.setTop (mkF m 51 #[.val (.int p1), .val (.int (p1 &&& (255 : Int32))), .unset] [])) _
    refine XS.iconst X0.here hx rfl (hb hby d2_51) ?_
    show Steps p.tables e below (s₁.setTop (mkF m 52 #[.val (.int p1), .val (.int (p1 &&& (255 : Int32))), .unset] [(.int (3 : Int32))])) _
    refine XS.istoreN X0.here hx rfl (hb hby d2_52) rfl (l' := #[.val (.int p1), .val (.int (p1 &&& (255 : Int32))), .val (.int (3 : Int32))]) rfl ?_
    show Steps p.tables e below (s₁.setTop (mkF m 53 #[.val (.int p1), .val (.int (p1 &&& (255 : Int32))), .val (.int (3 : Int32))] [])) _
    refine XS.goto X0.here hx rfl (pc0 := 53) (pc' := 77) rfl (hb hby d2_53) (by decide) (by decide) ?_
    show Steps p.tables e below (s₁.setTop (mkF m 77 #[.val (.int p1), .val (.int (p1 &&& (255 : Int32))), .val (.int (3 : Int32))] [])) _
    exact b77 (3 : Int32) hv
  have b44 : V = (g2_44 p1  ) → Steps p.tables e below (s₁.setTop (mkF m 44 #[.val (.int p1), .val (.int (p1 &&& (255 : Int32))), .unset] [])) (s₁.setFrames fs) := by
    intro  hv
    show Steps p.tables e below (s₁.setTop (mkF m 44 #[.val (.int p1), .val (.int (p1 &&& (255 : Int32))), .unset] [])) _
    refine XS.iloadN X0.here hx rfl (hb hby d2_44) rfl ?_
    show Steps p.tables e below (s₁.setTop (mkF m 45 #[.val (.int p1), .val (.int (p1 &&& (255 : Int32))), .unset] [(.int (p1 &&& (255 : Int32)))])) _
    refine XS.sipush X0.here hx rfl (hb hby d2_45) ?_
    show Steps p.tables e below (s₁.setTop (mkF m 48 #[.val (.int p1), .val (.int (p1 &&& (255 : Int32))), .unset] [(.int (239 : Int32)), (.int (p1 &&& (255 : Int32)))])) _
    by_cases hc : (239 : Int32) < (p1 &&& (255 : Int32))
    · refine XS.icmpYes X0.here hx rfl (pc0 := 48) (pc' := 56) rfl (hb hby d2_48) rfl (tlt hc).2.2.1 (by decide) (by decide) ?_
      show Steps p.tables e below (s₁.setTop (mkF m 56 #[.val (.int p1), .val (.int (p1 &&& (255 : Int32))), .unset] [])) _
      exact b56  (hv.trans (show (g2_44 p1  ) = (g2_56 p1  ) from if_pos hc))
    · refine XS.icmpNo X0.here hx rfl (hb hby d2_48) rfl (flt hc).2.2.1 ?_
      show Steps p.tables e below (s₁.setTop (mkF m 51 #[.val (.int p1), .val (.int (p1 &&& (255 : Int32))), .unset] [])) _
      exact b51  (hv.trans (show (g2_44 p1  ) = (g2_51 p1  ) from if_neg hc))
  have b37 : V = (g2_37 p1  ) → Steps p.tables e below (s₁.setTop (mkF m 37 #[.val (.int p1), .val (.int (p1 &&& (255 : Int32))), .unset] [])) (s₁.setFrames fs) := by
    intro  hv
    show Steps p.tables e below (s₁.setTop (mkF m 37 #[.val (.int p1), .val (.int (p1 &&& (255 : Int32))), .unset] [])) _
    refine XS.iloadN X0.here hx rfl (hb hby d2_37) rfl ?_
    show Steps p.tables e below (s₁.setTop (mkF m 38 #[.val (.int p1), .val (.int (p1 &&& (255 : Int32))), .unset] [(.int (p1 &&& (255 : Int32)))])) _
    refine XS.sipush X0.here hx rfl (hb hby d2_38) ?_
    show Steps p.tables e below (s₁.setTop (mkF m 41 #[.val (.int p1), .val (.int (p1 &&& (255 : Int32))), .unset] [(.int (224 : Int32)), (.int (p1 &&& (255 : Int32)))])) _
    by_cases hc : (p1 &&& (255 : Int32)) < (224 : Int32)
    · refine XS.icmpYes X0.here hx rfl (pc0 := 41) (pc' := 56) rfl (hb hby d2_41) rfl (tlt hc).1 (by decide) (by decide) ?_
      show Steps p.tables e below (s₁.setTop (mkF m 56 #[.val (.int p1), .val (.int (p1 &&& (255 : Int32))), .unset] [])) _
      exact b56  (hv.trans (show (g2_37 p1  ) = (g2_56 p1  ) from if_pos hc))
    · refine XS.icmpNo X0.here hx rfl (hb hby d2_41) rfl (flt hc).1 ?_
      show Steps p.tables e below (s₁.setTop (mkF m 44 #[.val (.int p1), .val (.int (p1 &&& (255 : Int32))), .unset] [])) _
      exact b44  (hv.trans (show (g2_37 p1  ) = (g2_44 p1  ) from if_neg hc))
  have b32 : V = (g2_32 p1  ) → Steps p.tables e below (s₁.setTop (mkF m 32 #[.val (.int p1), .val (.int (p1 &&& (255 : Int32))), .unset] [])) (s₁.setFrames fs) := by
    intro  hv
    show Steps p.tables e below (s₁.setTop (mkF m 32 #[.val (.int p1), .val (.int (p1 &&& (255 : Int32))), .unset] [])) _
    refine XS.iconst X0.here hx rfl (hb hby d2_32) ?_
    show Steps p.tables e below (s₁.setTop (mkF m 33 #[.val (.int p1), .val (.int (p1 &&& (255 : Int32))), .unset] [(.int (2 : Int32))])) _
    refine XS.istoreN X0.here hx rfl (hb hby d2_33) rfl (l' := #[.val (.int p1), .val (.int (p1 &&& (255 : Int32))), .val (.int (2 : Int32))]) rfl ?_
    show Steps p.tables e below (s₁.setTop (mkF m 34 #[.val (.int p1), .val (.int (p1 &&& (255 : Int32))), .val (.int (2 : Int32))] [])) _
    refine XS.goto X0.here hx rfl (pc0 := 34) (pc' := 77) rfl (hb hby d2_34) (by decide) (by decide) ?_
    show Steps p.tables e below (s₁.setTop (mkF m 77 #[.val (.int p1), .val (.int (p1 &&& (255 : Int32))), .val (.int (2 : Int32))] [])) _
    exact b77 (2 : Int32) hv
  have b25 : V = (g2_25 p1  ) → Steps p.tables e below (s₁.setTop (mkF m 25 #[.val (.int p1), .val (.int (p1 &&& (255 : Int32))), .unset] [])) (s₁.setFrames fs) := by
    intro  hv
    show Steps p.tables e below (s₁.setTop (mkF m 25 #[.val (.int p1), .val (.int (p1 &&& (255 : Int32))), .unset] [])) _
    refine XS.iloadN X0.here hx rfl (hb hby d2_25) rfl ?_
    show Steps p.tables e below (s₁.setTop (mkF m 26 #[.val (.int p1), .val (.int (p1 &&& (255 : Int32))), .unset] [(.int (p1 &&& (255 : Int32)))])) _
    refine XS.sipush X0.here hx rfl (hb hby d2_26) ?_
    show Steps p.tables e below (s₁.setTop (mkF m 29 #[.val (.int p1), .val (.int (p1 &&& (255 : Int32))), .unset] [(.int (223 : Int32)), (.int (p1 &&& (255 : Int32)))])) _
    by_cases hc : (223 : Int32) < (p1 &&& (255 : Int32))
    · refine XS.icmpYes X0.here hx rfl (pc0 := 29) (pc' := 37) rfl (hb hby d2_29) rfl (tlt hc).2.2.1 (by decide) (by decide) ?_
      show Steps p.tables e below (s₁.setTop (mkF m 37 #[.val (.int p1), .val (.int (p1 &&& (255 : Int32))), .unset] [])) _
      exact b37  (hv.trans (show (g2_25 p1  ) = (g2_37 p1  ) from if_pos hc))
    · refine XS.icmpNo X0.here hx rfl (hb hby d2_29) rfl (flt hc).2.2.1 ?_
      show Steps p.tables e below (s₁.setTop (mkF m 32 #[.val (.int p1), .val (.int (p1 &&& (255 : Int32))), .unset] [])) _
      exact b32  (hv.trans (show (g2_25 p1  ) = (g2_32 p1  ) from if_neg hc))
  have b18 : V = (g2_18 p1  ) → Steps p.tables e below (s₁.setTop (mkF m 18 #[.val (.int p1), .val (.int (p1 &&& (255 : Int32))), .unset] [])) (s₁.setFrames fs) := by
    intro  hv
    show Steps p.tables e below (s₁.setTop (mkF m 18 #[.val (.int p1), .val (.int (p1 &&& (255 : Int32))), .unset] [])) _
    refine XS.iloadN X0.here hx rfl (hb hby d2_18) rfl ?_
    show Steps p.tables e below (s₁.setTop (mkF m 19 #[.val (.int p1), .val (.int (p1 &&& (255 : Int32))), .unset] [(.int (p1 &&& (255 : Int32)))])) _
    refine XS.sipush X0.here hx rfl (hb hby d2_19) ?_
    show Steps p.tables e below (s₁.setTop (mkF m 22 #[.val (.int p1), .val (.int (p1 &&& (255 : Int32))), .unset] [(.int (194 : Int32)), (.int (p1 &&& (255 : Int32)))])) _
    by_cases hc : (p1 &&& (255 : Int32)) < (194 : Int32)
    · refine XS.icmpYes X0.here hx rfl (pc0 := 22) (pc' := 37) rfl (hb hby d2_22) rfl (tlt hc).1 (by decide) (by decide) ?_
      show Steps p.tables e below (s₁.setTop (mkF m 37 #[.val (.int p1), .val (.int (p1 &&& (255 : Int32))), .unset] [])) _
      exact b37  (hv.trans (show (g2_18 p1  ) = (g2_37 p1  ) from if_pos hc))
    · refine XS.icmpNo X0.here hx rfl (hb hby d2_22) rfl (flt hc).1 ?_
      show Steps p.tables e below (s₁.setTop (mkF m 25 #[.val (.int p1), .val (.int (p1 &&& (255 : Int32))), .unset] [])) _
      exact b25  (hv.trans (show (g2_18 p1  ) = (g2_25 p1  ) from if_neg hc))
  have b13 : V = (g2_13 p1  ) → Steps p.tables e below (s₁.setTop (mkF m 13 #[.val (.int p1), .val (.int (p1 &&& (255 : Int32))), .unset] [])) (s₁.setFrames fs) := by
    intro  hv
    show Steps p.tables e below (s₁.setTop (mkF m 13 #[.val (.int p1), .val (.int (p1 &&& (255 : Int32))), .unset] [])) _
    refine XS.iconst X0.here hx rfl (hb hby d2_13) ?_
    show Steps p.tables e below (s₁.setTop (mkF m 14 #[.val (.int p1), .val (.int (p1 &&& (255 : Int32))), .unset] [(.int (1 : Int32))])) _
    refine XS.istoreN X0.here hx rfl (hb hby d2_14) rfl (l' := #[.val (.int p1), .val (.int (p1 &&& (255 : Int32))), .val (.int (1 : Int32))]) rfl ?_
    show Steps p.tables e below (s₁.setTop (mkF m 15 #[.val (.int p1), .val (.int (p1 &&& (255 : Int32))), .val (.int (1 : Int32))] [])) _
    refine XS.goto X0.here hx rfl (pc0 := 15) (pc' := 77) rfl (hb hby d2_15) (by decide) (by decide) ?_
    show Steps p.tables e below (s₁.setTop (mkF m 77 #[.val (.int p1), .val (.int (p1 &&& (255 : Int32))), .val (.int (1 : Int32))] [])) _
    exact b77 (1 : Int32) hv
  have b0 : V = (g2_0 p1  ) → Steps p.tables e below (s₁.setTop (mkF m 0 #[.val (.int p1), .unset, .unset] [])) (s₁.setFrames fs) := by
    intro  hv
    show Steps p.tables e below (s₁.setTop (mkF m 0 #[.val (.int p1), .unset, .unset] [])) _
    refine XS.iloadN X0.here hx rfl (hb hby d2_0) rfl ?_
    show Steps p.tables e below (s₁.setTop (mkF m 1 #[.val (.int p1), .unset, .unset] [(.int p1)])) _
    refine XS.sipush X0.here hx rfl (hb hby d2_1) ?_
    show Steps p.tables e below (s₁.setTop (mkF m 4 #[.val (.int p1), .unset, .unset] [(.int (255 : Int32)), (.int p1)])) _
    refine XS.iand X0.here hx rfl (hb hby d2_4) rfl ?_
    show Steps p.tables e below (s₁.setTop (mkF m 5 #[.val (.int p1), .unset, .unset] [(.int (p1 &&& (255 : Int32)))])) _
    refine XS.istoreN X0.here hx rfl (hb hby d2_5) rfl (l' := #[.val (.int p1), .val (.int (p1 &&& (255 : Int32))), .unset]) rfl ?_
    show Steps p.tables e below (s₁.setTop (mkF m 6 #[.val (.int p1), .val (.int (p1 &&& (255 : Int32))), .unset] [])) _
    refine XS.iloadN X0.here hx rfl (hb hby d2_6) rfl ?_
    show Steps p.tables e below (s₁.setTop (mkF m 7 #[.val (.int p1), .val (.int (p1 &&& (255 : Int32))), .unset] [(.int (p1 &&& (255 : Int32)))])) _
    refine XS.sipush X0.here hx rfl (hb hby d2_7) ?_
    show Steps p.tables e below (s₁.setTop (mkF m 10 #[.val (.int p1), .val (.int (p1 &&& (255 : Int32))), .unset] [(.int (128 : Int32)), (.int (p1 &&& (255 : Int32)))])) _
    by_cases hc : (p1 &&& (255 : Int32)) < (128 : Int32)
    · refine XS.icmpNo X0.here hx rfl (hb hby d2_10) rfl (tlt hc).2.1 ?_
      show Steps p.tables e below (s₁.setTop (mkF m 13 #[.val (.int p1), .val (.int (p1 &&& (255 : Int32))), .unset] [])) _
      exact b13  (hv.trans (show (g2_0 p1  ) = (g2_13 p1  ) from if_pos hc))
    · refine XS.icmpYes X0.here hx rfl (pc0 := 10) (pc' := 18) rfl (hb hby d2_10) rfl (flt hc).2.1 (by decide) (by decide) ?_
      show Steps p.tables e below (s₁.setTop (mkF m 18 #[.val (.int p1), .val (.int (p1 &&& (255 : Int32))), .unset] [])) _
      exact b18  (hv.trans (show (g2_0 p1  ) = (g2_18 p1  ) from if_neg hc))
  refine ⟨_, _, pre0 _ (b0 hV), hrun, hended, _, _, rfl, ?_, ⟨_, rfl⟩, hW, hsame.mono (by decide) (by decide)⟩
  show Q2 Z p1  h0 n0 _ s₁.heap _
  rw [e0, hV]
  exact ⟨rfl, N0, rfl⟩
theorem ef_0 (m : MethodId) (p1 : Int32) : entryFrame m #[(.int p1)] maxLocals = mkF m 0 #[.val (.int p1), .unset, .unset, .unset, .unset] [] := by first | (simp [entryFrame, mkF, argsToLocals, Value.category, maxLocals]; done) | rfl
def Q0 (Z : State) (p1 : Int32)  (h0 : Heap) (n0 : Nat) (v : Option Value) (h : Heap) (L : List Loc) : Prop := v = some (.int (1 : Int32)) ∧ Fr n0 L
set_option maxRecDepth 65536 in
set_option maxHeartbeats 40000000 in
theorem rm0 (l : Launch) (Z : State) (a0 : Array Value) (hw : ∀ d ∈ tables_1, d.before a0 Z = true) (ws : List Jvm.Cond) (p1 : Int32)  (h0 : Heap) (n0 : Nat) (Z0 : n0 ≤ h0.size) :
    MetFree l x (head1 (Jvm.Cond.code x code maxLocals ret :: ws) room_1) (fun a U => a = #[(.int p1)] ∧ Z.Warmed39 U.vm ∧ U.heap = h0) (fun _ _ _ _ _ => True) (fun _ U o U' => ∃ v L, o = .returned v ∧ Q0 Z p1 h0 n0 v U'.heap L ∧ FrameEnd U o U' L room_1.cells room_1.slots) := by
  refine MetFree.of_bodySF (plainFor_of_name pn_0) hisR ?_
  intro p e s m args below meth c s₁ Bd hml0 hP hK
  obtain ⟨rfl, hZ, hh⟩ := hP
  have hx := Bd.exec
  have hby := Bd.bytes
  have hml : c.maxLocals = 5 := hml0
  have hown : s.vm.findClass "com/example/ivent/ivent/core/Utf8LengthLedByPinLaw" = some m.cls := findClass_of_methodNamed Bd.named
  have hnm := (name_of_methodNamed Bd.named Bd.method).1
  have X0 : Stand p l e room_1 s m #[(.int p1)] below meth c s₁ [] 0 0 := Stand.of_body Bd
  have e0 : s₁.heap = h0 := by rw [← hh, Bd.state]; rfl
  have N0 := Fr.nil n0
  have pre0 : ∀ t, Steps p.tables e below (s₁.setTop (mkF m 0 #[.val (.int p1), .unset, .unset, .unset, .unset] [])) t → Steps p.tables e below (s₁.setTop (entryFrame m #[(.int p1)] maxLocals)) t := fun t k => castTop (ef_0 m p1) k
  have G1 : ∀ t, Steps p.tables e below (s₁.setTop (mkF m 7 #[.val (.int p1), .val (.int (p1 &&& (255 : Int32))), .unset, .unset, .unset] [(.int (p1 &&& (255 : Int32)))])) t → Steps p.tables e below (s₁.setTop (entryFrame m #[(.int p1)] maxLocals)) t := by
    intro t kt
    refine pre0 t ?_
    show Steps p.tables e below (s₁.setTop (mkF m 0 #[.val (.int p1), .unset, .unset, .unset, .unset] [])) _
    refine XS.iloadN X0.here hx rfl (hb hby at_0) rfl ?_
    show Steps p.tables e below (s₁.setTop (mkF m 1 #[.val (.int p1), .unset, .unset, .unset, .unset] [(.int p1)])) _
    refine XS.sipush X0.here hx rfl (hb hby at_1) ?_
    show Steps p.tables e below (s₁.setTop (mkF m 4 #[.val (.int p1), .unset, .unset, .unset, .unset] [(.int (255 : Int32)), (.int p1)])) _
    refine XS.iand X0.here hx rfl (hb hby at_4) rfl ?_
    show Steps p.tables e below (s₁.setTop (mkF m 5 #[.val (.int p1), .unset, .unset, .unset, .unset] [(.int (p1 &&& (255 : Int32)))])) _
    refine XS.istoreN X0.here hx rfl (hb hby at_5) rfl (l' := #[.val (.int p1), .val (.int (p1 &&& (255 : Int32))), .unset, .unset, .unset]) rfl ?_
    show Steps p.tables e below (s₁.setTop (mkF m 6 #[.val (.int p1), .val (.int (p1 &&& (255 : Int32))), .unset, .unset, .unset] [])) _
    refine XS.iloadN X0.here hx rfl (hb hby at_6) rfl ?_
    show Steps p.tables e below (s₁.setTop (mkF m 7 #[.val (.int p1), .val (.int (p1 &&& (255 : Int32))), .unset, .unset, .unset] [(.int (p1 &&& (255 : Int32)))])) _
    exact kt
  obtain ⟨_, _, ⟨T2, L2, k2, n2⟩, -, X2, ⟨Lc2, hQ2, l2, y2, z2⟩, st2⟩ := Jvm.LawKit.callS X0 hx (y := (⟨"com/example/ivent/ivent/core/Utf8LengthLedByPinLaw", "expected", "(I)I"⟩ : MethodName)) hown (mvT hZ (hw _ (List.mem_of_getElem? (i := 0) rfl))) (mvT hZ (hw _ (List.mem_of_getElem? (i := 1) rfl))) (mvT hZ (hw _ (List.mem_of_getElem? (i := 2) rfl))) (mvT hZ (hw _ (List.mem_of_getElem? (i := 3) rfl))) (by decide) (backOf (W := 0) (rm1 l Z a0 hw [] (p1 &&& (255 : Int32))  h0 n0 Z0 ) hZ (hw _ (List.mem_of_getElem? (i := 3) rfl)) (hw _ (List.mem_of_getElem? (i := 2) rfl)) (by decide) (by decide)) (g := (mkF m 7 #[.val (.int p1), .val (.int (p1 &&& (255 : Int32))), .unset, .unset, .unset] [(.int (p1 &&& (255 : Int32)))])) rfl (by rw [hml]; rfl) (argsL := [(.int (p1 &&& (255 : Int32)))]) (rest := []) (lenOf pd_0 rfl) rfl (by show 2 * 0 + _ ≤ _; exact Nat.le_of_eq rfl) (hb hby at_7) (fun _ _ => ⟨rfl, e0, (by decide : 0 + 0 ≤ _), (by decide : 0 + 0 ≤ _)⟩)
  dsimp only [Pt.U, Pt.locs, Pt.cells, Pt.slots] at X2 l2 y2 z2 st2 hQ2
  subst l2 y2 z2
  obtain ⟨rfl, N2q, e2⟩ := hQ2
  have N2 := Fr.app N0 N2q
  have G2 : ∀ t, Steps p.tables e below (T2.setTop (mkF m 10 #[.val (.int p1), .val (.int (p1 &&& (255 : Int32))), .unset, .unset, .unset] [(.int (g1_0 (p1 &&& (255 : Int32))))])) t → Steps p.tables e below (s₁.setTop (entryFrame m #[(.int p1)] maxLocals)) t := fun t kt => G1 t (st2 t kt)
  have G3 : ∀ t, Steps p.tables e below (T2.setTop (mkF m 12 #[.val (.int p1), .val (.int (p1 &&& (255 : Int32))), .val (.int (g1_0 (p1 &&& (255 : Int32)))), .unset, .unset] [(.int p1)])) t → Steps p.tables e below (s₁.setTop (entryFrame m #[(.int p1)] maxLocals)) t := by
    intro t kt
    refine G2 t ?_
    show Steps p.tables e below (T2.setTop (mkF m 10 #[.val (.int p1), .val (.int (p1 &&& (255 : Int32))), .unset, .unset, .unset] [(.int (g1_0 (p1 &&& (255 : Int32))))])) _
    refine XS.istoreN X2.here hx rfl (hb hby at_10) rfl (l' := #[.val (.int p1), .val (.int (p1 &&& (255 : Int32))), .val (.int (g1_0 (p1 &&& (255 : Int32)))), .unset, .unset]) rfl ?_
    show Steps p.tables e below (T2.setTop (mkF m 11 #[.val (.int p1), .val (.int (p1 &&& (255 : Int32))), .val (.int (g1_0 (p1 &&& (255 : Int32)))), .unset, .unset] [])) _
    refine XS.iloadN X2.here hx rfl (hb hby at_11) rfl ?_
    show Steps p.tables e below (T2.setTop (mkF m 12 #[.val (.int p1), .val (.int (p1 &&& (255 : Int32))), .val (.int (g1_0 (p1 &&& (255 : Int32)))), .unset, .unset] [(.int p1)])) _
    exact kt
  obtain ⟨_, _, ⟨T4, L4, k4, n4⟩, -, X4, ⟨Lc4, hQ4, l4, y4, z4⟩, st4⟩ := Jvm.LawKit.callS X2 hx (y := (⟨"com/example/ivent/ivent/core/Utf8", "lengthLedBy", "(I)I"⟩ : MethodName)) hown (mvT hZ (hw _ (List.mem_of_getElem? (i := 4) rfl))) (mvT hZ (hw _ (List.mem_of_getElem? (i := 5) rfl))) (mvT hZ (hw _ (List.mem_of_getElem? (i := 6) rfl))) (mvT hZ (hw _ (List.mem_of_getElem? (i := 7) rfl))) (by decide) (backOf (W := 0) (rm2 l Z a0 hw [] p1  h0 n0 Z0 ) hZ (hw _ (List.mem_of_getElem? (i := 7) rfl)) (hw _ (List.mem_of_getElem? (i := 6) rfl)) (by decide) (by decide)) (g := (mkF m 12 #[.val (.int p1), .val (.int (p1 &&& (255 : Int32))), .val (.int (g1_0 (p1 &&& (255 : Int32)))), .unset, .unset] [(.int p1)])) rfl (by rw [hml]; rfl) (argsL := [(.int p1)]) (rest := []) (lenOf pd_0 rfl) rfl (by show 2 * 0 + _ ≤ _; exact Nat.le_of_eq rfl) (hb hby at_12) (fun _ _ => ⟨rfl, e2, (by decide : 0 + 0 ≤ _), (by decide : 0 + 0 ≤ _)⟩)
  dsimp only [Pt.U, Pt.locs, Pt.cells, Pt.slots] at X4 l4 y4 z4 st4 hQ4
  subst l4 y4 z4
  obtain ⟨rfl, N4q, e4⟩ := hQ4
  have N4 := Fr.app N2 N4q
  have G4 : ∀ t, Steps p.tables e below (T4.setTop (mkF m 15 #[.val (.int p1), .val (.int (p1 &&& (255 : Int32))), .val (.int (g1_0 (p1 &&& (255 : Int32)))), .unset, .unset] [(.int (g2_0 p1))])) t → Steps p.tables e below (s₁.setTop (entryFrame m #[(.int p1)] maxLocals)) t := fun t kt => G3 t (st4 t kt)
  have G5 : ∀ t, Steps p.tables e below (T4.setTop (mkF m 18 #[.val (.int p1), .val (.int (p1 &&& (255 : Int32))), .val (.int (g1_0 (p1 &&& (255 : Int32)))), .val (.int (g2_0 p1)), .unset] [(.int (p1.toInt8.toInt32))])) t → Steps p.tables e below (s₁.setTop (entryFrame m #[(.int p1)] maxLocals)) t := by
    intro t kt
    refine G4 t ?_
    show Steps p.tables e below (T4.setTop (mkF m 15 #[.val (.int p1), .val (.int (p1 &&& (255 : Int32))), .val (.int (g1_0 (p1 &&& (255 : Int32)))), .unset, .unset] [(.int (g2_0 p1))])) _
    refine XS.istoreN X4.here hx rfl (hb hby at_15) rfl (l' := #[.val (.int p1), .val (.int (p1 &&& (255 : Int32))), .val (.int (g1_0 (p1 &&& (255 : Int32)))), .val (.int (g2_0 p1)), .unset]) rfl ?_
    show Steps p.tables e below (T4.setTop (mkF m 16 #[.val (.int p1), .val (.int (p1 &&& (255 : Int32))), .val (.int (g1_0 (p1 &&& (255 : Int32)))), .val (.int (g2_0 p1)), .unset] [])) _
    refine XS.iloadN X4.here hx rfl (hb hby at_16) rfl ?_
    show Steps p.tables e below (T4.setTop (mkF m 17 #[.val (.int p1), .val (.int (p1 &&& (255 : Int32))), .val (.int (g1_0 (p1 &&& (255 : Int32)))), .val (.int (g2_0 p1)), .unset] [(.int p1)])) _
    refine XS.i2b X4.here hx rfl (hb hby at_17) rfl ?_
    show Steps p.tables e below (T4.setTop (mkF m 18 #[.val (.int p1), .val (.int (p1 &&& (255 : Int32))), .val (.int (g1_0 (p1 &&& (255 : Int32)))), .val (.int (g2_0 p1)), .unset] [(.int (p1.toInt8.toInt32))])) _
    exact kt
  obtain ⟨_, _, ⟨T6, L6, k6, n6⟩, -, X6, ⟨Lc6, hQ6, l6, y6, z6⟩, st6⟩ := Jvm.LawKit.callS X4 hx (y := (⟨"com/example/ivent/ivent/core/Utf8", "lengthLedBy", "(I)I"⟩ : MethodName)) hown (mvT hZ (hw _ (List.mem_of_getElem? (i := 4) rfl))) (mvT hZ (hw _ (List.mem_of_getElem? (i := 5) rfl))) (mvT hZ (hw _ (List.mem_of_getElem? (i := 6) rfl))) (mvT hZ (hw _ (List.mem_of_getElem? (i := 7) rfl))) (by decide) (backOf (W := 0) (rm2 l Z a0 hw [] (p1.toInt8.toInt32)  h0 n0 Z0 ) hZ (hw _ (List.mem_of_getElem? (i := 7) rfl)) (hw _ (List.mem_of_getElem? (i := 6) rfl)) (by decide) (by decide)) (g := (mkF m 18 #[.val (.int p1), .val (.int (p1 &&& (255 : Int32))), .val (.int (g1_0 (p1 &&& (255 : Int32)))), .val (.int (g2_0 p1)), .unset] [(.int (p1.toInt8.toInt32))])) rfl (by rw [hml]; rfl) (argsL := [(.int (p1.toInt8.toInt32))]) (rest := []) (lenOf pd_0 rfl) rfl (by show 2 * 0 + _ ≤ _; exact Nat.le_of_eq rfl) (hb hby at_18) (fun _ _ => ⟨rfl, e4, (by decide : 0 + 0 ≤ _), (by decide : 0 + 0 ≤ _)⟩)
  dsimp only [Pt.U, Pt.locs, Pt.cells, Pt.slots] at X6 l6 y6 z6 st6 hQ6
  subst l6 y6 z6
  obtain ⟨rfl, N6q, e6⟩ := hQ6
  have N6 := Fr.app N4 N6q
  have G6 : ∀ t, Steps p.tables e below (T6.setTop (mkF m 21 #[.val (.int p1), .val (.int (p1 &&& (255 : Int32))), .val (.int (g1_0 (p1 &&& (255 : Int32)))), .val (.int (g2_0 p1)), .unset] [(.int (g2_0 (p1.toInt8.toInt32)))])) t → Steps p.tables e below (s₁.setTop (entryFrame m #[(.int p1)] maxLocals)) t := fun t kt => G5 t (st6 t kt)
  have G7 : ∀ t, Steps p.tables e below (T6.setTop (mkF m 39 #[.val (.int p1), .val (.int (p1 &&& (255 : Int32))), .val (.int (g1_0 (p1 &&& (255 : Int32)))), .val (.int (g2_0 p1)), .val (.int (g2_0 (p1.toInt8.toInt32)))] [(.int (1 : Int32))])) t → Steps p.tables e below (s₁.setTop (entryFrame m #[(.int p1)] maxLocals)) t := by
    intro t kt
    refine G6 t ?_
    show Steps p.tables e below (T6.setTop (mkF m 21 #[.val (.int p1), .val (.int (p1 &&& (255 : Int32))), .val (.int (g1_0 (p1 &&& (255 : Int32)))), .val (.int (g2_0 p1)), .unset] [(.int (g2_0 (p1.toInt8.toInt32)))])) _
    refine XS.istore X6.here hx rfl (hb hby at_21) rfl (l' := #[.val (.int p1), .val (.int (p1 &&& (255 : Int32))), .val (.int (g1_0 (p1 &&& (255 : Int32)))), .val (.int (g2_0 p1)), .val (.int (g2_0 (p1.toInt8.toInt32)))]) rfl ?_
    show Steps p.tables e below (T6.setTop (mkF m 23 #[.val (.int p1), .val (.int (p1 &&& (255 : Int32))), .val (.int (g1_0 (p1 &&& (255 : Int32)))), .val (.int (g2_0 p1)), .val (.int (g2_0 (p1.toInt8.toInt32)))] [])) _
    refine XS.iloadN X6.here hx rfl (hb hby at_23) rfl ?_
    show Steps p.tables e below (T6.setTop (mkF m 24 #[.val (.int p1), .val (.int (p1 &&& (255 : Int32))), .val (.int (g1_0 (p1 &&& (255 : Int32)))), .val (.int (g2_0 p1)), .val (.int (g2_0 (p1.toInt8.toInt32)))] [(.int (g2_0 p1))])) _
    refine XS.iloadN X6.here hx rfl (hb hby at_24) rfl ?_
    show Steps p.tables e below (T6.setTop (mkF m 25 #[.val (.int p1), .val (.int (p1 &&& (255 : Int32))), .val (.int (g1_0 (p1 &&& (255 : Int32)))), .val (.int (g2_0 p1)), .val (.int (g2_0 (p1.toInt8.toInt32)))] [(.int (g1_0 (p1 &&& (255 : Int32)))), (.int (g2_0 p1))])) _
    refine XS.icmpNo X6.here hx rfl (hb hby at_25) rfl (teq (own_A p1)).2 ?_
    show Steps p.tables e below (T6.setTop (mkF m 28 #[.val (.int p1), .val (.int (p1 &&& (255 : Int32))), .val (.int (g1_0 (p1 &&& (255 : Int32)))), .val (.int (g2_0 p1)), .val (.int (g2_0 (p1.toInt8.toInt32)))] [])) _
    refine XS.iload X6.here hx rfl (hb hby at_28) rfl ?_
    show Steps p.tables e below (T6.setTop (mkF m 30 #[.val (.int p1), .val (.int (p1 &&& (255 : Int32))), .val (.int (g1_0 (p1 &&& (255 : Int32)))), .val (.int (g2_0 p1)), .val (.int (g2_0 (p1.toInt8.toInt32)))] [(.int (g2_0 (p1.toInt8.toInt32)))])) _
    refine XS.iloadN X6.here hx rfl (hb hby at_30) rfl ?_
    show Steps p.tables e below (T6.setTop (mkF m 31 #[.val (.int p1), .val (.int (p1 &&& (255 : Int32))), .val (.int (g1_0 (p1 &&& (255 : Int32)))), .val (.int (g2_0 p1)), .val (.int (g2_0 (p1.toInt8.toInt32)))] [(.int (g1_0 (p1 &&& (255 : Int32)))), (.int (g2_0 (p1.toInt8.toInt32)))])) _
    refine XS.icmpNo X6.here hx rfl (hb hby at_31) rfl (teq (own_B p1)).2 ?_
    show Steps p.tables e below (T6.setTop (mkF m 34 #[.val (.int p1), .val (.int (p1 &&& (255 : Int32))), .val (.int (g1_0 (p1 &&& (255 : Int32)))), .val (.int (g2_0 p1)), .val (.int (g2_0 (p1.toInt8.toInt32)))] [])) _
    refine XS.iconst X6.here hx rfl (hb hby at_34) ?_
    show Steps p.tables e below (T6.setTop (mkF m 35 #[.val (.int p1), .val (.int (p1 &&& (255 : Int32))), .val (.int (g1_0 (p1 &&& (255 : Int32)))), .val (.int (g2_0 p1)), .val (.int (g2_0 (p1.toInt8.toInt32)))] [(.int (1 : Int32))])) _
    refine XS.goto X6.here hx rfl (pc0 := 35) (pc' := 39) rfl (hb hby at_35) (by decide) (by decide) ?_
    show Steps p.tables e below (T6.setTop (mkF m 39 #[.val (.int p1), .val (.int (p1 &&& (255 : Int32))), .val (.int (g1_0 (p1 &&& (255 : Int32)))), .val (.int (g2_0 p1)), .val (.int (g2_0 (p1.toInt8.toInt32)))] [(.int (1 : Int32))])) _
    exact kt
  obtain ⟨fs, hr, hrun, hended, hW, hsame⟩ := X6.leave (v := some (.int (1 : Int32))) (fun h => by rw [Bd.returns] at h; cases h)
  refine ⟨_, _, G7 _ ?_, hrun, hended, _, _, rfl, ?_, ⟨_, rfl⟩, hW, hsame.mono (by decide) (by decide)⟩
  · show Steps p.tables e below (T6.setTop (mkF m 39 #[.val (.int p1), .val (.int (p1 &&& (255 : Int32))), .val (.int (g1_0 (p1 &&& (255 : Int32)))), .val (.int (g2_0 p1)), .val (.int (g2_0 (p1.toInt8.toInt32)))] [(.int (1 : Int32))])) _
    exact retN X6 hx (t := .boolean) Bd.returns (by simp) (hb hby at_39) hr
  · show Q0 Z p1 h0 n0 _ T6.heap _
    rw [e6]
    exact ⟨rfl, N6⟩
set_option maxRecDepth 65536 in
set_option maxHeartbeats 40000000 in
theorem comes_1 {Post : Tables → Env → Array Value → State → Outcome → State → Prop} (hpost : ∀ tb e args s v u, (limb_1_1.after args s (.returned v) u = true ∧ limb_1_2.after args s (.returned v) u = true ∧ True) → FrameEnd s (.returned v) u (Jvm.fieldLocs frame_1_writes args s ++ Jvm.arrayLocs frame_1_arrays args s ++ Jvm.staticLocs frame_1_statics s) 0 0 → Post tb e args s (.returned v) u) :
    ArmFor flags0 classFile x code maxLocals ret World_1 tables_1 room_1 Calls_1 rest_1 Pre_1 Post := by
  intro l hfl _ _ p e ha hc hk s m args below hf hA hF happ hP
  obtain ⟨hcalls, hrest, hpre⟩ := hP
  obtain ⟨-, -, -, hnamed, -, -, -, hat⟩ := (Spec.applies_iff hf).mp happ
  obtain ⟨hg, hn⟩ := and_e (Cond.before_iff.mp (show (Jvm.Cond.and given_1 narrow_1).before args s = true from hpre))
  obtain ⟨hcnt, r0⟩ := and_e hg
  obtain ⟨w0, rfl⟩ : ∃ w0 : Value, args = #[w0] := by
    have hs : args.size = 1 := by simpa [Cond.value, given_1] using hcnt
    obtain ⟨L⟩ := args
    match L, hs with
    | [w0], _ => exact ⟨w0, rfl⟩
  have hw := fun d (hd : d ∈ tables_1) => atoms_spec (ws := Jvm.Cond.code x code maxLocals ret :: tables_1) hat d (List.mem_cons_of_mem _ hd)
  obtain ⟨i0, j0⟩ := is_v r0
  obtain rfl : w0 = (.int i0) := Option.some.inj j0
  obtain ⟨n, o, h1, h2, h3, _, L, rfl, ⟨rfl, N⟩, hq⟩ := rm0 l s _ hw tables_1 i0 s.heap s.heap.size (Nat.le_refl _) p e ha hc hk s m _ below hf ((Spec.applies_iff_loose hf).mp happ).1 ⟨rfl, State.Warmed39.refl s, rfl⟩ trivial
  refine ⟨n, _, h1, h2, h3, hpost _ _ _ _ _ _ ⟨Cond.after_iff.mpr rfl, Cond.after_iff.mpr (eq_i res_at (Term.int_eval (1)) rfl), trivial⟩ ⟨hq.1, hq.2.1, (hq.2.2.sift fun y hy => Or.inr (N y hy)).mono (by decide) (by decide)⟩⟩
theorem main_1_1 : Claimed_1_1 := comes_1 fun _ _ _ _ _ _ h hF => ⟨h.1, hF⟩
theorem main_1_2 : Claimed_1_2 := comes_1 fun _ _ _ _ _ _ h hF => ⟨h.2.1, hF⟩
end Jvm.Pilot.@@N@@
namespace Jvm.Pilot.@@N@@
open Jvm Jvm.ClassFile Sem Op Lib Jvm.Free Jvm.Stand Jvm.Pilot.@@N@@.Jvm.D
/-! MADE BY PROGRAM (witnessworld.py) out of the Statement's table words and the real class files: 7 classes; the members and pool entries that the words name. The judged class is class 1, her method 2. -/
namespace start1
open Jvm.ClassFile
def u (s : String) : CpInfo := .utf8 (stringToUtf16 s)
/-- a pool by its gaps: so many unusable entries, then the entry; so many at the end -/
def gap : Nat → List CpInfo → List CpInfo
  | 0, r => r
  | n + 1, r => .unusable :: gap n r
def poolList (es : List (Nat × CpInfo)) (last : Nat) : List CpInfo := es.foldr (fun e r => gap e.1 (e.2 :: r)) (gap last [])
def pool (es : List (Nat × CpInfo)) (last : Nat) : Array CpInfo := ⟨poolList es last⟩
def fileOf (pool : Array CpInfo) (this : Nat) (attrs : Array Attribute := #[]) (ms : Array MethodInfo := #[]) (fl : Nat := 33) (sup : Nat := 0) (ifs : Array Nat := #[]) (fds : Array FieldInfo := #[]) : ClassFile where
  minorVersion := 0
  majorVersion := 65
  constantPool := pool
  accessFlags := fl
  thisClass := this
  superClass := sup
  interfaces := ifs
  fields := fds
  methods := ms
  attributes := attrs
def plain (name : String) (sup : Option ClassId) : Class where
  name := name
  kind := .ordinary
  loader := none
  accessFlags := 33
  super := sup
  interfaces := #[]
  cf := none
  fields := #[]
  methods := #[]
  instanceTypes := #[]
  staticTypes := #[]
  resolved := #[]
  callSites := []
  init := .initialized
  statics := none
  mirror := none

def pool0 : Array CpInfo := pool [(5, u "<init>"), (0, u "()V"), (1, .class_ 10), (1, u "java/lang/Object")] 113

def k0m0 : Method := { name := "<init>", desc := "()V", sig := { parameters := [], returnType := none }, accessFlags := 1, code := none }
/-- java/lang/Object -/
def k0 : Class := { plain "java/lang/Object" none with
  accessFlags := 33
  interfaces := #[]
  cf := some (fileOf pool0 8 #[] #[{ accessFlags := 1, nameIndex := 5, descriptorIndex := 6, attributes := #[] }] 33 0 #[] #[])
  fields := #[]
  methods := #[k0m0]
  instanceTypes := #[]
  staticTypes := #[]
  resolved := Array.replicate 124 none
  statics := none }

def pool1 : Array CpInfo := pool [(2, .class_ 4), (1, u "java/lang/Object"), (0, u "<init>"), (0, u "()V"), (0, .methodref 8 9), (0, .class_ 10), (0, .nameAndType 11 12), (0, u "com/example/ivent/ivent/core/Utf8LengthLedByPinLaw"), (0, u "expected"), (0, u "(I)I"), (0, .methodref 14 15), (0, .class_ 16), (0, .nameAndType 17 12), (0, u "com/example/ivent/ivent/core/Utf8"), (0, u "lengthLedBy"), (3, u "law"), (0, u "(I)Z")] 2

def k1m0 : Method := { name := "<init>", desc := "()V", sig := { parameters := [], returnType := none }, accessFlags := 2, code := none }
def k1c1 : Code := { maxStack := 2, maxLocals := 2, code := method_2_code, exceptionTable := #[], attributes := #[] }
def k1m1 : Method := { name := "expected", desc := "(I)I", sig := { parameters := [.int], returnType := some .int }, accessFlags := 10, code := some k1c1 }
def k1c2 : Code := { maxStack := 2, maxLocals := 5, code := code, exceptionTable := #[], attributes := #[] }
def k1m2 : Method := { name := "law", desc := "(I)Z", sig := { parameters := [.int], returnType := some .boolean }, accessFlags := 9, code := some k1c2 }
/-- com/example/ivent/ivent/core/Utf8LengthLedByPinLaw -/
def k1 : Class := { plain "com/example/ivent/ivent/core/Utf8LengthLedByPinLaw" (some 0) with
  accessFlags := 49
  interfaces := #[]
  cf := some (fileOf pool1 8 #[] #[{ accessFlags := 2, nameIndex := 5, descriptorIndex := 6, attributes := #[] }, { accessFlags := 10, nameIndex := 11, descriptorIndex := 12, attributes := #[] }, { accessFlags := 9, nameIndex := 21, descriptorIndex := 22, attributes := #[] }] 49 2 #[] #[])
  fields := #[]
  methods := #[k1m0, k1m1, k1m2]
  instanceTypes := #[]
  staticTypes := #[]
  resolved := Array.replicate 25 none
  statics := none }

def pool2 : Array CpInfo := pool [(2, .class_ 4), (1, u "java/lang/Object"), (0, u "<init>"), (0, u "()V"), (1, .class_ 10), (1, u "com/example/ivent/ivent/core/Utf8"), (0, u "lengthLedBy"), (0, u "(I)I"), (73, .class_ 87), (0, u "com/example/ivent/ivent/core/Utf8$Run"), (16, u "LONGS"), (0, u "Ljava/lang/invoke/VarHandle;"), (165, u "ONES"), (0, u "J"), (1, u "HIGH_BITS"), (2, u "CUT"), (0, u "I"), (1, u "REFUSED")] 60

def k2m0 : Method := { name := "<init>", desc := "()V", sig := { parameters := [], returnType := none }, accessFlags := 2, code := none }
def k2c1 : Code := { maxStack := 2, maxLocals := 3, code := prog_49_method_3_code, exceptionTable := #[], attributes := #[] }
def k2m1 : Method := { name := "lengthLedBy", desc := "(I)I", sig := { parameters := [.int], returnType := some .int }, accessFlags := 8, code := some k2c1 }
/-- com/example/ivent/ivent/core/Utf8 -/
def k2 : Class := { plain "com/example/ivent/ivent/core/Utf8" (some 0) with
  accessFlags := 48
  interfaces := #[]
  cf := some (fileOf pool2 8 #[.nestMembers #[86]] #[{ accessFlags := 2, nameIndex := 5, descriptorIndex := 6, attributes := #[] }, { accessFlags := 8, nameIndex := 11, descriptorIndex := 12, attributes := #[] }] 48 2 #[] #[{ accessFlags := 26, nameIndex := 104, descriptorIndex := 105, attributes := #[] }, { accessFlags := 26, nameIndex := 271, descriptorIndex := 272, attributes := #[] }, { accessFlags := 26, nameIndex := 274, descriptorIndex := 272, attributes := #[] }, { accessFlags := 24, nameIndex := 277, descriptorIndex := 278, attributes := #[] }, { accessFlags := 24, nameIndex := 280, descriptorIndex := 278, attributes := #[] }])
  fields := #[{ name := "LONGS", type := (.object "java/lang/invoke/VarHandle"), accessFlags := 26, slot := 0, constantValue := 0 }, { name := "ONES", type := .long, accessFlags := 26, slot := 1, constantValue := 0 }, { name := "HIGH_BITS", type := .long, accessFlags := 26, slot := 2, constantValue := 0 }, { name := "CUT", type := .int, accessFlags := 24, slot := 3, constantValue := 0 }, { name := "REFUSED", type := .int, accessFlags := 24, slot := 4, constantValue := 0 }]
  methods := #[k2m0, k2m1]
  instanceTypes := #[]
  staticTypes := #[(.object "java/lang/invoke/VarHandle"), .long, .long, .int, .int]
  resolved := Array.replicate 341 none
  statics := none }

def pool3 : Array CpInfo := pool [(1, u "java/lang/Cloneable"), (0, .class_ 1), (0, u "java/lang/Object"), (0, .class_ 3)] 3

/-- java/lang/Cloneable -/
def k3 : Class := { plain "java/lang/Cloneable" (some 0) with
  accessFlags := 1537
  interfaces := #[]
  cf := some (fileOf pool3 2 #[] #[] 1537 4 #[] #[])
  fields := #[]
  methods := #[]
  instanceTypes := #[]
  staticTypes := #[]
  resolved := Array.replicate 8 none
  statics := none }

def pool4 : Array CpInfo := pool [(1, u "java/io/Serializable"), (0, .class_ 1), (0, u "java/lang/Object"), (0, .class_ 3)] 3

/-- java/io/Serializable -/
def k4 : Class := { plain "java/io/Serializable" (some 0) with
  accessFlags := 1537
  interfaces := #[]
  cf := some (fileOf pool4 2 #[] #[] 1537 4 #[] #[])
  fields := #[]
  methods := #[]
  instanceTypes := #[]
  staticTypes := #[]
  resolved := Array.replicate 8 none
  statics := none }

/-- the primitive byte -/
def k5 : Class := { plain "byte" none with kind := .primitive 'B', accessFlags := 0x411 }
/-- [B -/
def k6 : Class := { plain "[B" (some 0) with kind := .array 5 .byte, interfaces := #[3, 4], accessFlags := 1041 }

def heap : Heap := #[]
def classes : Array Class := #[k0, k1, k2, k3, k4, k5, k6]
def interned : List (Array UInt16 × Addr) := []
def slotsUsed : Nat := 0
def theMethod : MethodId := ⟨1, 2⟩
def args0 : Array Value := #[.int 65]
def aboutOver (below : List Frame) : State where
  vm := { classes := classes, interned := interned.toArray }
  heap := heap
  slotsUsed := slotsUsed
  threads := #[{ frames := .invoking theMethod args0 :: below }]
def below0 : List Frame := [.native { method := ⟨0, 0⟩, args := #[] }]
def about1 : State := aboutOver below0
def p0 : Program := .bare "" "" ""
def e0 : Env := launch0.env 0 0 0
theorem w_frames : about1.frames = Frame.invoking theMethod args0 :: below0 := rfl
set_option maxRecDepth 65536 in
theorem w_args : argsFit about1.vm theMethod args0 = true := by decide +kernel
set_option maxRecDepth 65536 in
theorem w_heap : heapFits about1 = true := by decide +kernel
set_option maxRecDepth 65536 in
theorem w_runnable : about1.curStatus? = some .runnable := by decide +kernel
set_option maxRecDepth 65536 in
theorem w_alone : about1.alone = true := by decide +kernel
set_option maxRecDepth 65536 in
theorem w_named : about1.methodNamed? x = some theMethod := by decide +kernel
set_option maxRecDepth 65536 in
theorem w_hears : about1.hears theMethod below0 = true := by decide +kernel
set_option maxRecDepth 65536 in
theorem w_ripe : about1.ripe theMethod args0 below0 = true := by decide +kernel
theorem w_running : about1.status = .running := rfl
set_option maxRecDepth 65536 in
theorem w_room : about1.hasRoom e0.platform room_1 = true :=
  launch0.hasRoom_least _ room_1 (by decide +kernel) (by decide +kernel) (by decide +kernel) (by decide +kernel) (by decide +kernel) (by decide +kernel)
theorem allAtoms_all (ts : List Jvm.Cond) (a : Array Jvm.Value) (st : Jvm.State) : (allAtoms ts).before a st = ts.all (fun c => c.before a st) := by
  induction ts with
  | nil => rfl
  | cons c t ih =>
    show (Jvm.Cond.and c (allAtoms t)).before a st = _
    rw [Jvm.Cond.before_and, ih, List.all_cons]
def words1 : List Jvm.Cond := Jvm.Cond.code x code maxLocals ret :: tables_1
/-- a 'code' word, met by the world's own term for the bytes: nothing is compared byte by byte -/
theorem code_word {y : MethodName} {bytes : ByteArray} {mx : Nat} {rt : Option FieldType} {a : Array Value} {s : State} {m : MethodId} {meth : Method} {c : Code} (h1 : s.methodNamed? y = some m) (h2 : s.vm.method? m = some meth) (h3 : meth.code = some c) (h4 : c.code = bytes)
    (h5 : (c.maxLocals == mx && c.exceptionTable.isEmpty && decide (c.maxStack ≤ mostOperands) && decide (meth.sig.returnType = rt) && !meth.locks && decide (parseMethodDescriptor y.desc = some meth.sig)) = true) : (Jvm.Cond.code y bytes mx rt).before a s = true := by
  simp only [Bool.and_eq_true, beq_iff_eq, Bool.not_eq_true', decide_eq_true_eq] at h5
  obtain ⟨⟨⟨⟨⟨g1, g2⟩, g3⟩, g4⟩, g5⟩, g6⟩ := h5
  simp [Cond.before, Cond.holds, Cond.value, h1, h2, h3, h4, g1, g2, g3, g4, g5, g6]
def isCode : Jvm.Cond → Bool
  | .code _ _ _ _ => true
  | _ => false
theorem all_split {L : List Jvm.Cond} {P : Jvm.Cond → Bool} (h1 : L.all (fun c => isCode c || P c) = true) (h2 : ∀ c ∈ L.filter isCode, P c = true) : L.all P = true := by
  refine List.all_eq_true.mpr fun c hc => ?_
  have h := List.all_eq_true.mp h1 c hc
  rcases Bool.eq_false_or_eq_true (isCode c) with hi | hi
  · exact h2 c (List.mem_filter.mpr ⟨hc, hi⟩)
  · simpa [hi] using h
set_option maxRecDepth 65536 in
theorem w_c0 : (Jvm.Cond.code x code maxLocals ret).before args0 about1 = true := code_word (m := ⟨1, 2⟩) (meth := k1m2) (c := k1c2) (by decide +kernel) rfl rfl rfl (by decide +kernel)
set_option maxRecDepth 65536 in
theorem w_c1 : (Jvm.Cond.code ({ cls := "com/example/ivent/ivent/core/Utf8LengthLedByPinLaw", name := "expected", desc := "(I)I" } : Jvm.MethodName) method_2_code (2 : Nat) (Option.some Jvm.ClassFile.FieldType.int)).before args0 about1 = true := code_word (m := ⟨1, 1⟩) (meth := k1m1) (c := k1c1) (by decide +kernel) rfl rfl rfl (by decide +kernel)
set_option maxRecDepth 65536 in
theorem w_c2 : (Jvm.Cond.code ({ cls := "com/example/ivent/ivent/core/Utf8", name := "lengthLedBy", desc := "(I)I" } : Jvm.MethodName) prog_49_method_3_code (3 : Nat) (Option.some Jvm.ClassFile.FieldType.int)).before args0 about1 = true := code_word (m := ⟨2, 1⟩) (meth := k2m1) (c := k2c1) (by decide +kernel) rfl rfl rfl (by decide +kernel)
def codes1 : List Jvm.Cond := [Jvm.Cond.code x code maxLocals ret, Jvm.Cond.code ({ cls := "com/example/ivent/ivent/core/Utf8LengthLedByPinLaw", name := "expected", desc := "(I)I" } : Jvm.MethodName) method_2_code (2 : Nat) (Option.some Jvm.ClassFile.FieldType.int), Jvm.Cond.code ({ cls := "com/example/ivent/ivent/core/Utf8", name := "lengthLedBy", desc := "(I)I" } : Jvm.MethodName) prog_49_method_3_code (3 : Nat) (Option.some Jvm.ClassFile.FieldType.int)]
set_option maxRecDepth 65536 in
theorem codes_eq : words1.filter isCode = codes1 := rfl
theorem w_codes : ∀ c ∈ words1.filter isCode, c.before args0 about1 = true := by
  rw [codes_eq]
  intro c hc
  simp only [codes1, List.mem_cons, List.not_mem_nil, or_false] at hc
  rcases hc with rfl | rfl | rfl
  · exact w_c0
  · exact w_c1
  · exact w_c2
set_option maxRecDepth 65536 in
theorem w_t1 : words1.all (fun c => isCode c || c.before args0 about1) = true := by decide +kernel
theorem w_tables : (allAtoms (Jvm.Cond.code x code maxLocals ret :: tables_1)).before args0 about1 = true := by
  rw [allAtoms_all]
  show words1.all (fun c => c.before args0 about1) = true
  refine all_split ?_ w_codes
  rw [w_t1]
set_option maxRecDepth 65536 in
theorem w_case : (Jvm.Cond.and given_1 narrow_1).before args0 about1 = true := by decide +kernel
theorem w_applies : (headSpec (Jvm.Cond.code x code maxLocals ret :: tables_1) room_1).applies x e0.platform about1 = true :=
  (Spec.applies_iff w_frames).mpr ⟨w_running, w_runnable, w_alone, w_named, w_hears, w_ripe, w_room, w_tables⟩
theorem atStart : AtStart classFile x code maxLocals ret World_1 tables_1 room_1 Calls_1 rest_1 Pre_1 launch0 p0 e0 about1 theMethod args0 below0 :=
  ⟨lists_1, trivial, launch0.admits_env _ _ _, launch0.least_env, fairChoices_fair.cas, fairChoices_fair.clock, w_frames, w_args, w_heap, w_applies, trivial, trivial, w_case⟩
end start1
theorem witness_1 : WitnessClaimed_1 := ⟨start1.p0, start1.e0, start1.about1, start1.theMethod, start1.args0, start1.below0, start1.atStart⟩
end Jvm.Pilot.@@N@@
