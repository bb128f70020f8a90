import JvmDerived
import JvmDerived.Pilot.@@N@@Statement
import JvmDerived.Pilot.@@N@@Code
set_option linter.unusedVariables false
set_option linter.unusedSimpArgs false
namespace Jvm.RoadKit
open Sem ClassFile Op Lib Jvm.Stand Jvm.Free Jvm.LawKit
section New
variable {p : Program} {l : Launch} {e : Env} {R : Room} {s : State} {m : MethodId} {args : Array Value} {below : List Frame} {meth : Method} {c : Code} {T : State} {locs : List Loc} {cells slots : Nat}
theorem retI (X : Stand p l e R s m args below meth c T locs cells slots) (hx : p.tables.exec = Jvm.exec) {pc : Nat} {Ls : Array Slot} {z : Int32} {rest : List Value} (hret : meth.sig.returnType = some .int) (hd : decode c.code pc = .ok (.ireturn, 1)) {fs : List Frame}
    (hl : ∀ (f : JFrame) (acts : List Action), f.method = m → f.locked = none → f.entered = [] → (doReturn e (T.setTop f) acts (some (.int z))).1 = T.setFrames fs) : Steps p.tables e below (T.setTop (mkF m pc Ls (.int z :: rest))) (T.setFrames fs) := by
  have hm' : T.vm.method? m = some meth := X.method'
  have hn : narrow .int (.int z) = .int z := rfl
  show Steps p.tables e below (T.setTop { method := m, pc := pc, locals := Ls, stack := _ :: rest, locked := none }) _
  jvm_step X.here [X.here.top, hx, hd, hm', hret, hn]
  first | (intro acts; rw [hl _ acts rfl rfl rfl]) | rw [hl _ _ rfl rfl rfl]
  exact Steps.refl _
end New
end Jvm.RoadKit
namespace Jvm.Pilot.@@N@@
open Jvm Jvm.ClassFile Sem Op Lib Jvm.Free Jvm.Stand Jvm.LawKit Jvm.RoadKit Bundle Jvm.Pilot.@@N@@.Jvm.D
theorem pn_0 : plainName "com/example/evenkeel/evenkeel/http/HeaderName" = true := by first | (simp [plainName, overriddenIn]; done) | decide +kernel
theorem pn_1 : plainName "com/example/evenkeel/evenkeel/http/HeaderNameHashPinLaw" = true := by first | (simp [plainName, overriddenIn]; done) | decide +kernel
theorem pd_0 : parseMethodDescriptor "([BII)I" = some ⟨[(.array .byte), .int, .int], some .int⟩ := by decide +kernel
theorem pd_1 : parseMethodDescriptor "(B)B" = some ⟨[.byte], some .byte⟩ := by decide +kernel
theorem pd_2 : parseMethodDescriptor "(B)I" = some ⟨[.byte], some .int⟩ := by decide +kernel
theorem d1_0 : decode prog_30_method_6_code 0 = .ok (.iload_n 2, 1) := by decide +kernel
theorem d1_1 : decode prog_30_method_6_code 1 = .ok (.iload_n 1, 1) := by decide +kernel
theorem d1_2 : decode prog_30_method_6_code 2 = .ok (.isub, 1) := by decide +kernel
theorem d1_3 : decode prog_30_method_6_code 3 = .ok (.istore_n 3, 1) := by decide +kernel
theorem d1_4 : decode prog_30_method_6_code 4 = .ok (.iload_n 3, 1) := by decide +kernel
theorem d1_5 : decode prog_30_method_6_code 5 = .ok (.ifCond .ne 5, 3) := by decide +kernel
theorem d1_8 : decode prog_30_method_6_code 8 = .ok (.iconst 0, 1) := by decide +kernel
theorem d1_9 : decode prog_30_method_6_code 9 = .ok (.ireturn, 1) := by decide +kernel
theorem d1_10 : decode prog_30_method_6_code 10 = .ok (.aload_n 0, 1) := by decide +kernel
theorem d1_11 : decode prog_30_method_6_code 11 = .ok (.iload_n 1, 1) := by decide +kernel
theorem d1_12 : decode prog_30_method_6_code 12 = .ok (.baload, 1) := by decide +kernel
theorem d1_13 : decode prog_30_method_6_code 13 = .ok (.bipush 32, 2) := by decide +kernel
theorem d1_15 : decode prog_30_method_6_code 15 = .ok (.ior, 1) := by decide +kernel
theorem d1_16 : decode prog_30_method_6_code 16 = .ok (.istore 4, 2) := by decide +kernel
theorem d1_18 : decode prog_30_method_6_code 18 = .ok (.aload_n 0, 1) := by decide +kernel
theorem d1_19 : decode prog_30_method_6_code 19 = .ok (.iload_n 1, 1) := by decide +kernel
theorem d1_20 : decode prog_30_method_6_code 20 = .ok (.iload_n 3, 1) := by decide +kernel
theorem d1_21 : decode prog_30_method_6_code 21 = .ok (.iconst 2, 1) := by decide +kernel
theorem d1_22 : decode prog_30_method_6_code 22 = .ok (.idiv, 1) := by decide +kernel
theorem d1_23 : decode prog_30_method_6_code 23 = .ok (.iadd, 1) := by decide +kernel
theorem d1_24 : decode prog_30_method_6_code 24 = .ok (.baload, 1) := by decide +kernel
theorem d1_25 : decode prog_30_method_6_code 25 = .ok (.bipush 32, 2) := by decide +kernel
theorem d1_27 : decode prog_30_method_6_code 27 = .ok (.ior, 1) := by decide +kernel
theorem d1_28 : decode prog_30_method_6_code 28 = .ok (.istore 5, 2) := by decide +kernel
theorem d1_30 : decode prog_30_method_6_code 30 = .ok (.aload_n 0, 1) := by decide +kernel
theorem d1_31 : decode prog_30_method_6_code 31 = .ok (.iload_n 2, 1) := by decide +kernel
theorem d1_32 : decode prog_30_method_6_code 32 = .ok (.iconst 1, 1) := by decide +kernel
theorem d1_33 : decode prog_30_method_6_code 33 = .ok (.isub, 1) := by decide +kernel
theorem d1_34 : decode prog_30_method_6_code 34 = .ok (.baload, 1) := by decide +kernel
theorem d1_35 : decode prog_30_method_6_code 35 = .ok (.bipush 32, 2) := by decide +kernel
theorem d1_37 : decode prog_30_method_6_code 37 = .ok (.ior, 1) := by decide +kernel
theorem d1_38 : decode prog_30_method_6_code 38 = .ok (.istore 6, 2) := by decide +kernel
theorem d1_40 : decode prog_30_method_6_code 40 = .ok (.iload_n 3, 1) := by decide +kernel
theorem d1_41 : decode prog_30_method_6_code 41 = .ok (.bipush 31, 2) := by decide +kernel
theorem d1_43 : decode prog_30_method_6_code 43 = .ok (.imul, 1) := by decide +kernel
theorem d1_44 : decode prog_30_method_6_code 44 = .ok (.iload 4, 2) := by decide +kernel
theorem d1_46 : decode prog_30_method_6_code 46 = .ok (.iadd, 1) := by decide +kernel
theorem d1_47 : decode prog_30_method_6_code 47 = .ok (.bipush 31, 2) := by decide +kernel
theorem d1_49 : decode prog_30_method_6_code 49 = .ok (.imul, 1) := by decide +kernel
theorem d1_50 : decode prog_30_method_6_code 50 = .ok (.iload 5, 2) := by decide +kernel
theorem d1_52 : decode prog_30_method_6_code 52 = .ok (.iadd, 1) := by decide +kernel
theorem d1_53 : decode prog_30_method_6_code 53 = .ok (.bipush 31, 2) := by decide +kernel
theorem d1_55 : decode prog_30_method_6_code 55 = .ok (.imul, 1) := by decide +kernel
theorem d1_56 : decode prog_30_method_6_code 56 = .ok (.iload 6, 2) := by decide +kernel
theorem d1_58 : decode prog_30_method_6_code 58 = .ok (.iadd, 1) := by decide +kernel
theorem d1_59 : decode prog_30_method_6_code 59 = .ok (.ireturn, 1) := by decide +kernel
theorem d2_0 : decode method_3_code 0 = .ok (.iload_n 0, 1) := by decide +kernel
theorem d2_1 : decode method_3_code 1 = .ok (.istore_n 1, 1) := by decide +kernel
theorem d2_2 : decode method_3_code 2 = .ok (.iload_n 1, 1) := by decide +kernel
theorem d2_3 : decode method_3_code 3 = .ok (.bipush 65, 2) := by decide +kernel
theorem d2_5 : decode method_3_code 5 = .ok (.if_icmp .lt 15, 3) := by decide +kernel
theorem d2_8 : decode method_3_code 8 = .ok (.iload_n 1, 1) := by decide +kernel
theorem d2_9 : decode method_3_code 9 = .ok (.bipush 90, 2) := by decide +kernel
theorem d2_11 : decode method_3_code 11 = .ok (.if_icmp .gt 9, 3) := by decide +kernel
theorem d2_14 : decode method_3_code 14 = .ok (.iload_n 1, 1) := by decide +kernel
theorem d2_15 : decode method_3_code 15 = .ok (.bipush 32, 2) := by decide +kernel
theorem d2_17 : decode method_3_code 17 = .ok (.iadd, 1) := by decide +kernel
theorem d2_18 : decode method_3_code 18 = .ok (.i2b, 1) := by decide +kernel
theorem d2_19 : decode method_3_code 19 = .ok (.ireturn, 1) := by decide +kernel
theorem d2_20 : decode method_3_code 20 = .ok (.iload_n 1, 1) := by decide +kernel
theorem d2_21 : decode method_3_code 21 = .ok (.bipush 97, 2) := by decide +kernel
theorem d2_23 : decode method_3_code 23 = .ok (.if_icmp .lt 15, 3) := by decide +kernel
theorem d2_26 : decode method_3_code 26 = .ok (.iload_n 1, 1) := by decide +kernel
theorem d2_27 : decode method_3_code 27 = .ok (.bipush 122, 2) := by decide +kernel
theorem d2_29 : decode method_3_code 29 = .ok (.if_icmp .gt 9, 3) := by decide +kernel
theorem d2_32 : decode method_3_code 32 = .ok (.iload_n 1, 1) := by decide +kernel
theorem d2_33 : decode method_3_code 33 = .ok (.bipush 32, 2) := by decide +kernel
theorem d2_35 : decode method_3_code 35 = .ok (.isub, 1) := by decide +kernel
theorem d2_36 : decode method_3_code 36 = .ok (.i2b, 1) := by decide +kernel
theorem d2_37 : decode method_3_code 37 = .ok (.ireturn, 1) := by decide +kernel
theorem d2_38 : decode method_3_code 38 = .ok (.iload_n 0, 1) := by decide +kernel
theorem d2_39 : decode method_3_code 39 = .ok (.ireturn, 1) := by decide +kernel
theorem d3_0 : decode method_2_code 0 = .ok (.iload_n 0, 1) := by decide +kernel
theorem d3_1 : decode method_2_code 1 = .ok (.sipush 255, 3) := by decide +kernel
theorem d3_4 : decode method_2_code 4 = .ok (.iand, 1) := by decide +kernel
theorem d3_5 : decode method_2_code 5 = .ok (.bipush 32, 2) := by decide +kernel
theorem d3_7 : decode method_2_code 7 = .ok (.ior, 1) := by decide +kernel
theorem d3_8 : decode method_2_code 8 = .ok (.istore_n 1, 1) := by decide +kernel
theorem d3_9 : decode method_2_code 9 = .ok (.iload_n 1, 1) := by decide +kernel
theorem d3_10 : decode method_2_code 10 = .ok (.sipush 128, 3) := by decide +kernel
theorem d3_13 : decode method_2_code 13 = .ok (.if_icmp .lt 9, 3) := by decide +kernel
theorem d3_16 : decode method_2_code 16 = .ok (.iload_n 1, 1) := by decide +kernel
theorem d3_17 : decode method_2_code 17 = .ok (.sipush 256, 3) := by decide +kernel
theorem d3_20 : decode method_2_code 20 = .ok (.isub, 1) := by decide +kernel
theorem d3_21 : decode method_2_code 21 = .ok (.ireturn, 1) := by decide +kernel
theorem d3_22 : decode method_2_code 22 = .ok (.iload_n 1, 1) := by decide +kernel
theorem d3_23 : decode method_2_code 23 = .ok (.ireturn, 1) := by decide +kernel
def g1a_0 (a1 : Addr) (p2 : Int32) (p3 : Int32)   : Int32 := (0 : Int32)
def g1b_0 (a1 : Addr) (p2 : Int32) (p3 : Int32) (x y z : Int32)  : Int32 := (((((((p3 - p2) * (31 : Int32)) + (x ||| (32 : Int32))) * (31 : Int32)) + (y ||| (32 : Int32))) * (31 : Int32)) + (z ||| (32 : Int32)))
def g2_38 (p1 : Int32)   : Int32 := (nar .byte p1)
def g2_32 (p1 : Int32)   : Int32 := (nar .byte ((p1 - (32 : Int32)).toInt8.toInt32))
def g2_26 (p1 : Int32)   : Int32 := if (122 : Int32) < p1 then (g2_38 p1  ) else (g2_32 p1  )
def g2_20 (p1 : Int32)   : Int32 := if p1 < (97 : Int32) then (g2_38 p1  ) else (g2_26 p1  )
def g2_14 (p1 : Int32)   : Int32 := (nar .byte ((p1 + (32 : Int32)).toInt8.toInt32))
def g2_8 (p1 : Int32)   : Int32 := if (90 : Int32) < p1 then (g2_20 p1  ) else (g2_14 p1  )
def g2_0 (p1 : Int32)   : Int32 := if p1 < (65 : Int32) then (g2_20 p1  ) else (g2_8 p1  )
def g3_22 (p1 : Int32)   : Int32 := ((p1 &&& (255 : Int32)) ||| (32 : Int32))
def g3_16 (p1 : Int32)   : Int32 := (((p1 &&& (255 : Int32)) ||| (32 : Int32)) - (256 : Int32))
def g3_0 (p1 : Int32)   : Int32 := if ((p1 &&& (255 : Int32)) ||| (32 : Int32)) < (128 : Int32) then (g3_22 p1  ) else (g3_16 p1  )
theorem own_ofNat {x : Int32} (h0 : 0 ≤ x.toInt) : x = Int32.ofNat x.toInt.toNat := by
  apply Int32.toInt_inj.mp
  have := rng32 x
  rw [Int32.toInt_ofNat_of_lt (by omega)]
  omega
def own_B (x : Int32) : Prop := -128 ≤ x.toInt ∧ x.toInt ≤ 127
theorem own_shift {x : Int32} (h : own_B x) : ∃ n : Nat, n < 256 ∧ x = Int32.ofNat n - (128 : Int32) := by
  have h2 : (x + (128 : Int32)).toInt = x.toInt + 128 := by
    have a := c_iadd x 128
    have e1 : (128 : Int32).toInt = 128 := rfl
    have := rng32 (x + 128)
    have := h.1; have := h.2
    omega
  have hb1 := h.1; have hb2 := h.2
  refine ⟨(x + (128 : Int32)).toInt.toNat, by omega, ?_⟩
  rw [← own_ofNat (by omega)]
  apply Int32.toInt_inj.mp
  have a := c_isub (x + 128) 128
  have e1 : (128 : Int32).toInt = 128 := rfl
  have := rng32 ((x + 128) - 128)
  omega
theorem own_foldB : ∀ n : Nat, n < 256 → g3_0 (Int32.ofNat n - (128 : Int32)) = ((Int32.ofNat n - (128 : Int32)) ||| (32 : Int32)) := by decide +kernel
theorem own_flipB : ∀ n : Nat, n < 256 → ((nar .byte (g2_0 (Int32.ofNat n - (128 : Int32)))) ||| (32 : Int32)) = ((Int32.ofNat n - (128 : Int32)) ||| (32 : Int32)) := by decide +kernel
theorem own_orB : ∀ n : Nat, n < 256 → (-128 ≤ ((Int32.ofNat n - (128 : Int32)) ||| (32 : Int32)).toInt ∧ ((Int32.ofNat n - (128 : Int32)) ||| (32 : Int32)).toInt ≤ 127) := by decide +kernel
theorem own_fold {x : Int32} (h : own_B x) : g3_0 x = (x ||| (32 : Int32)) := by obtain ⟨n, hn, rfl⟩ := own_shift h; exact own_foldB n hn
theorem own_flip {x : Int32} (h : own_B x) : ((nar .byte (g2_0 x)) ||| (32 : Int32)) = (x ||| (32 : Int32)) := by obtain ⟨n, hn, rfl⟩ := own_shift h; exact own_flipB n hn
theorem own_or {x : Int32} (h : own_B x) : -128 ≤ (x ||| (32 : Int32)).toInt ∧ (x ||| (32 : Int32)).toInt ≤ 127 := by obtain ⟨n, hn, rfl⟩ := own_shift h; exact own_orB n hn
theorem own_nar (v : Int32) : own_B (nar .byte v) := by
  have := c_i2b v
  show -128 ≤ v.toInt8.toInt32.toInt ∧ v.toInt8.toInt32.toInt ≤ 127
  omega
theorem own_m7 (x : Int32) : ∃ n : Nat, n < 8 ∧ (x &&& (7 : Int32)).toInt = n := by
  have h : (x &&& (7 : Int32)).toInt = x.toInt % (2 ^ 3 : Nat) := c_mask x 7 3 (by decide) (by decide)
  exact ⟨(x &&& (7 : Int32)).toInt.toNat, by omega, by omega⟩
theorem own_nine {St : Int32} {s : Nat} (h : St.toInt = s) (hs : s < 8) : ((9 : Int32) - St).toInt = 9 - s := by
  have a := c_isub 9 St
  have e1 : (9 : Int32).toInt = 9 := rfl
  have := rng32 ((9 : Int32) - St)
  omega
theorem own_nz9 {St : Int32} {s : Nat} (h : St.toInt = s) (hs : s < 8) : ¬ (((9 : Int32) - St) = (0 : Int32)) := by
  intro q
  have a := own_nine h hs
  rw [q, show (0 : Int32).toInt = 0 from rfl] at a
  omega
theorem own_ln (u : Int32) {St Ln : Int32} {s : Nat} (h : St.toInt = s) (hs : s < 8) (hL : Ln = (u &&& (65535 : Int32)) - ((u &&& (65535 : Int32)) / ((9 : Int32) - St)) * ((9 : Int32) - St)) : ∃ m : Nat, s + m ≤ 8 ∧ Ln.toInt = m := by
  have m1 := (c_and u 65535 (by decide)).1
  have n9 := own_nine h hs
  have q : Ln.toInt = (u &&& (65535 : Int32)).toInt % ((9 : Int32) - St).toInt := by rw [hL, rem_toInt, Int.tmod_eq_emod_of_nonneg m1]
  have b1 : 0 ≤ Ln.toInt := by rw [q]; exact Int.emod_nonneg _ (by omega)
  have b2 : Ln.toInt < ((9 : Int32) - St).toInt := by rw [q]; exact Int.emod_lt_of_pos _ (by omega)
  exact ⟨Ln.toInt.toNat, by omega, by omega⟩
theorem own_add {a b : Int32} {s m : Nat} (h : a.toInt = s) (k : b.toInt = m) (hs : s + m < 100) : (a + b).toInt = (s + m : Nat) := by
  have q := c_iadd a b
  have := rng32 (a + b)
  omega
theorem own_sub {a b : Int32} {s m : Nat} (h : a.toInt = (s + m : Nat)) (k : b.toInt = s) (hs : s + m < 100) : (a - b).toInt = m := by
  have q := c_isub a b
  have := rng32 (a - b)
  omega
theorem own_zero {b : Int32} {m : Nat} (k : b.toInt = m) : b = (0 : Int32) ↔ m = 0 := by
  rw [← Int32.toInt_inj, show (0 : Int32).toInt = 0 from rfl]
  omega
theorem own_half {b : Int32} {m : Nat} (k : b.toInt = m) : (b / (2 : Int32)).toInt = (m / 2 : Nat) := by
  rw [(c_idiv b 2 2 rfl (by decide)).1 (by omega), k]
  omega
theorem own_mid {a b : Int32} {s m : Nat} (h : a.toInt = s) (k : b.toInt = (s + m : Nat)) (hs : s + m < 40) : ((((a + b).toUInt32 >>> ((1 : Int32) &&& 31).toUInt32).toInt32)).toInt = (s + m / 2 : Nat) := by
  have q := own_add h k (by omega : s + (s + m) < 100)
  rw [c_iushr (a + b) 1 1 (by decide) (by decide), q]
  omega
theorem own_pred {b : Int32} {m : Nat} (k : b.toInt = m) (hm : ¬ m = 0) : (b - (1 : Int32)).toInt = (m - 1 : Nat) := by
  have q := c_isub b 1
  have e1 : (1 : Int32).toInt = 1 := rfl
  have := rng32 (b - 1); have := rng32 b
  omega
theorem own_nn {I : Int32} {n : Nat} (h : I.toInt = n) : I.toNatClampNeg = n := by show I.toInt.toNat = n; omega
theorem own_bd8 {I : Int32} {n : Nat} (h : I.toInt = n) (hn : n < 8) : ¬ I < 0 ∧ I < (8 : Int32) := by
  rw [Int32.lt_iff_toInt_lt, Int32.lt_iff_toInt_lt, show (8 : Int32).toInt = 8 from rfl, show (0 : Int32).toInt = 0 from rfl]
  omega
theorem own_bd16 {I : Int32} {n : Nat} (h : I.toInt = n) (hn : n < 16) : ¬ I < 0 ∧ I < (16 : Int32) := by
  rw [Int32.lt_iff_toInt_lt, Int32.lt_iff_toInt_lt, show (16 : Int32).toInt = 16 from rfl, show (0 : Int32).toInt = 0 from rfl]
  omega
def own_sel (x0 x1 x2 x3 x4 x5 x6 x7 : Int32) (n : Nat) : Int32 := match n with | 0 => x0 | 1 => x1 | 2 => x2 | 3 => x3 | 4 => x4 | 5 => x5 | 6 => x6 | _ => x7
def own_l8 (x0 x1 x2 x3 x4 x5 x6 x7 : Int32) : List Value := [(.int x0), (.int x1), (.int x2), (.int x3), (.int x4), (.int x5), (.int x6), (.int x7)]
def own_l16 (J x0 x1 x2 x3 x4 x5 x6 x7 : Int32) (k : Nat) : List Value := (List.set (List.set (List.set (List.set (List.set (List.set (List.set (List.set [(.int (nar .byte J)), (.int (nar .byte J)), (.int (nar .byte J)), (.int (nar .byte J)), (.int (nar .byte J)), (.int (nar .byte J)), (.int (nar .byte J)), (.int (nar .byte J)), (.int (nar .byte J)), (.int (nar .byte J)), (.int (nar .byte J)), (.int (nar .byte J)), (.int (nar .byte J)), (.int (nar .byte J)), (.int (nar .byte J)), (.int (nar .byte J))] k (.int (nar .byte (g2_0 x0)))) (k + 1) (.int (nar .byte (g2_0 x1)))) (k + 2) (.int (nar .byte (g2_0 x2)))) (k + 3) (.int (nar .byte (g2_0 x3)))) (k + 4) (.int (nar .byte (g2_0 x4)))) (k + 5) (.int (nar .byte (g2_0 x5)))) (k + 6) (.int (nar .byte (g2_0 x6)))) (k + 7) (.int (nar .byte (g2_0 x7))))
theorem own_get8 (x0 x1 x2 x3 x4 x5 x6 x7 : Int32) {n : Nat} (hn : n < 8) : (own_l8 x0 x1 x2 x3 x4 x5 x6 x7).getD n (.int (0 : Int32)) = .int (own_sel x0 x1 x2 x3 x4 x5 x6 x7 n) := by
  obtain rfl | rfl | rfl | rfl | rfl | rfl | rfl | rfl : n = 0 ∨ n = 1 ∨ n = 2 ∨ n = 3 ∨ n = 4 ∨ n = 5 ∨ n = 6 ∨ n = 7 := by omega
  all_goals rfl
theorem own_get16 (J x0 x1 x2 x3 x4 x5 x6 x7 : Int32) {n k : Nat} (hn : n < 8) (hk : k < 8) : (own_l16 J x0 x1 x2 x3 x4 x5 x6 x7 k).getD (n + k) (.int (0 : Int32)) = .int (nar .byte (g2_0 (own_sel x0 x1 x2 x3 x4 x5 x6 x7 n))) := by
  obtain rfl | rfl | rfl | rfl | rfl | rfl | rfl | rfl : n = 0 ∨ n = 1 ∨ n = 2 ∨ n = 3 ∨ n = 4 ∨ n = 5 ∨ n = 6 ∨ n = 7 := by omega
  all_goals obtain rfl | rfl | rfl | rfl | rfl | rfl | rfl | rfl : k = 0 ∨ k = 1 ∨ k = 2 ∨ k = 3 ∨ k = 4 ∨ k = 5 ∨ k = 6 ∨ k = 7 := by omega
  all_goals rfl
theorem own_selB {x0 x1 x2 x3 x4 x5 x6 x7 : Int32} (h : own_B x0 ∧ own_B x1 ∧ own_B x2 ∧ own_B x3 ∧ own_B x4 ∧ own_B x5 ∧ own_B x6 ∧ own_B x7) (n : Nat) : own_B (own_sel x0 x1 x2 x3 x4 x5 x6 x7 n) := by
  obtain ⟨h0, h1, h2, h3, h4, h5, h6, h7⟩ := h
  unfold own_sel
  split <;> assumption
theorem own_hash {x y z a b : Int32} {o : Addr} : g1b_0 o a b x y z = ((((((b - a) * (31 : Int32)) + (x ||| (32 : Int32))) * (31 : Int32)) + (y ||| (32 : Int32))) * (31 : Int32)) + (z ||| (32 : Int32)) := rfl
theorem own_exact {x y z L : Int32} {m : Nat} (hx : own_B x) (hy : own_B y) (hz : own_B z) (hL : L.toInt = m) (hm : m ≤ 8) : ((((((L * (31 : Int32)) + (x ||| (32 : Int32))) * (31 : Int32)) + (y ||| (32 : Int32))) * (31 : Int32)) + (z ||| (32 : Int32))) = (((((29791 : Int64) * L.toInt64) + ((961 : Int64) * (g3_0 x).toInt64)) + ((31 : Int64) * (g3_0 y).toInt64)) + (g3_0 z).toInt64).toInt32 := by
  rw [own_fold hx, own_fold hy, own_fold hz]
  have rx := own_or hx; have ry := own_or hy; have rz := own_or hz
  generalize (x ||| (32 : Int32)) = X at *
  generalize (y ||| (32 : Int32)) = Y at *
  generalize (z ||| (32 : Int32)) = W at *
  have e31 : (31 : Int32).toInt = 31 := rfl
  have f1 : (29791 : Int64).toInt = 29791 := rfl
  have f2 : (961 : Int64).toInt = 961 := rfl
  have f3 : (31 : Int64).toInt = 31 := rfl
  have i1 := c_i2l L; have i2 := c_i2l X; have i3 := c_i2l Y; have i4 := c_i2l W
  have a1 := c_imul L 31
  have a2 := c_iadd (L * 31) X
  have a3 := c_imul ((L * 31) + X) 31
  have a4 := c_iadd (((L * 31) + X) * 31) Y
  have a5 := c_imul ((((L * 31) + X) * 31) + Y) 31
  have a6 := c_iadd (((((L * 31) + X) * 31) + Y) * 31) W
  have b1 := c_lmul 29791 L.toInt64
  have b2 := c_lmul 961 X.toInt64
  have b3 := c_lmul 31 Y.toInt64
  have b4 := c_ladd ((29791 : Int64) * L.toInt64) ((961 : Int64) * X.toInt64)
  have b5 := c_ladd (((29791 : Int64) * L.toInt64) + ((961 : Int64) * X.toInt64)) ((31 : Int64) * Y.toInt64)
  have b6 := c_ladd ((((29791 : Int64) * L.toInt64) + ((961 : Int64) * X.toInt64)) + ((31 : Int64) * Y.toInt64)) W.toInt64
  have b7 := c_l2i (((((29791 : Int64) * L.toInt64) + ((961 : Int64) * X.toInt64)) + ((31 : Int64) * Y.toInt64)) + W.toInt64)
  rw [e31] at a1 a3 a5
  rw [f1, i1] at b1
  rw [f2, i2] at b2
  rw [f3, i3] at b3
  rw [i4] at b6
  apply Int32.toInt_inj.mp
  have r1 := rng32 (L * 31)
  have r2 := rng32 ((L * 31) + X)
  have r3 := rng32 (((L * 31) + X) * 31)
  have r4 := rng32 ((((L * 31) + X) * 31) + Y)
  have r5 := rng32 (((((L * 31) + X) * 31) + Y) * 31)
  have r6 := rng32 ((((((L * 31) + X) * 31) + Y) * 31) + W)
  have s1 := rng64 ((29791 : Int64) * L.toInt64)
  have s2 := rng64 ((961 : Int64) * X.toInt64)
  have s3 := rng64 ((31 : Int64) * Y.toInt64)
  have s4 := rng64 (((29791 : Int64) * L.toInt64) + ((961 : Int64) * X.toInt64))
  have s5 := rng64 ((((29791 : Int64) * L.toInt64) + ((961 : Int64) * X.toInt64)) + ((31 : Int64) * Y.toInt64))
  have s6 := rng64 (((((29791 : Int64) * L.toInt64) + ((961 : Int64) * X.toInt64)) + ((31 : Int64) * Y.toInt64)) + W.toInt64)
  have s7 := rng32 ((((((29791 : Int64) * L.toInt64) + ((961 : Int64) * X.toInt64)) + ((31 : Int64) * Y.toInt64)) + W.toInt64).toInt32)
  clear hx hy hz
  generalize (L * 31).toInt = t1 at *
  omega
theorem own_same {x y z a b c d : Int32} {o o' : Addr} {m : Nat} (h1 : (d - c).toInt = m) (h2 : (b - a).toInt = m) (hx : own_B x) (hy : own_B y) (hz : own_B z) : g1b_0 o c d (nar .byte (g2_0 x)) (nar .byte (g2_0 y)) (nar .byte (g2_0 z)) = g1b_0 o' a b x y z := by
  have e : d - c = b - a := Int32.toInt_inj.mp (by rw [h1, h2])
  rw [own_hash, own_hash, own_flip hx, own_flip hy, own_flip hz, e]
theorem ef_1 (m : MethodId) (a1 : Addr) (p2 : Int32) (p3 : Int32) : entryFrame m #[(.ref a1), (.int p2), (.int p3)] 7 = mkF m 0 #[.val (.ref a1), .val (.int p2), .val (.int p3), .unset, .unset, .unset, .unset] [] := by first | (simp [entryFrame, mkF, argsToLocals, Value.category]; done) | rfl
def Q1a (Z : State) (a1 : Addr) (p2 : Int32) (p3 : Int32)  (h0 : Heap) (n0 : Nat) (v : Option Value) (h : Heap) (L : List Loc) : Prop := v = some (.int (g1a_0 a1 p2 p3 )) ∧ Fr n0 L ∧ h = h0
set_option maxRecDepth 65536 in
set_option maxHeartbeats 40000000 in
theorem rm1a (l : Launch) (Z : State) (a0 : Array Value) (hw : ∀ d ∈ tables_1, d.before a0 Z = true) (ws : List Jvm.Cond) (a1 : Addr) (p2 : Int32) (p3 : Int32)  (h0 : Heap) (n0 : Nat) (Z0 : n0 ≤ h0.size) (hl : (p3 - p2) = (0 : Int32)) :
    MetFree l (⟨"com/example/evenkeel/evenkeel/http/HeaderName", "hash", "([BII)I"⟩ : MethodName) (head1 (Jvm.Cond.code (⟨"com/example/evenkeel/evenkeel/http/HeaderName", "hash", "([BII)I"⟩ : MethodName) prog_30_method_6_code 7 (some .int) :: ws) ({ frames := 0, cells := 0, slots := 0, locals := 0 } : Room)) (fun a U => a = #[(.ref a1), (.int p2), (.int p3)] ∧ Z.Warmed39 U.vm ∧ U.heap = h0) (fun _ _ _ _ _ => True) (fun _ U o U' => ∃ v L, o = .returned v ∧ Q1a Z a1 p2 p3 h0 n0 v U'.heap L ∧ FrameEnd U o U' L ({ frames := 0, cells := 0, slots := 0, locals := 0 } : Room).cells ({ frames := 0, cells := 0, slots := 0, locals := 0 } : Room).slots) := by
  refine MetFree.of_bodySF (plainFor_of_name pn_0) hisR ?_
  intro p e s m args below meth c s₁ Bd hml0 hP hK
  obtain ⟨rfl, hZ, hh⟩ := hP
  have hx := Bd.exec
  have hby := Bd.bytes
  have hml : c.maxLocals = 7 := hml0
  have hown : s.vm.findClass "com/example/evenkeel/evenkeel/http/HeaderName" = some m.cls := findClass_of_methodNamed Bd.named
  have hnm := (name_of_methodNamed Bd.named Bd.method).1
  have X0 : Stand p l e ({ frames := 0, cells := 0, slots := 0, locals := 0 } : Room) s m #[(.ref a1), (.int p2), (.int p3)] below meth c s₁ [] 0 0 := Stand.of_body Bd
  have e0 : s₁.heap = h0 := by rw [← hh, Bd.state]; rfl
  have N0 := Fr.nil n0
  have pre0 : ∀ t, Steps p.tables e below (s₁.setTop (mkF m 0 #[.val (.ref a1), .val (.int p2), .val (.int p3), .unset, .unset, .unset, .unset] [])) t → Steps p.tables e below (s₁.setTop (entryFrame m #[(.ref a1), (.int p2), (.int p3)] 7)) t := fun t k => castTop (ef_1 m a1 p2 p3) k
  obtain ⟨V, hV⟩ : ∃ V : Int32, V = g1a_0 a1 p2 p3  := ⟨_, rfl⟩
  obtain ⟨fs, hr, hrun, hended, hW, hsame⟩ := X0.leave (v := some (.int V)) (fun h => by rw [Bd.returns] at h; cases h)
  have b0 : V = (g1a_0 a1 p2 p3  ) → Steps p.tables e below (s₁.setTop (mkF m 0 #[.val (.ref a1), .val (.int p2), .val (.int p3), .unset, .unset, .unset, .unset] [])) (s₁.setFrames fs) := by
    intro  hv
    show Steps p.tables e below (s₁.setTop (mkF m 0 #[.val (.ref a1), .val (.int p2), .val (.int p3), .unset, .unset, .unset, .unset] [])) _
    refine XS.iloadN X0.here hx rfl (hb hby d1_0) rfl ?_
    show Steps p.tables e below (s₁.setTop (mkF m 1 #[.val (.ref a1), .val (.int p2), .val (.int p3), .unset, .unset, .unset, .unset] [(.int p3)])) _
    refine XS.iloadN X0.here hx rfl (hb hby d1_1) rfl ?_
    show Steps p.tables e below (s₁.setTop (mkF m 2 #[.val (.ref a1), .val (.int p2), .val (.int p3), .unset, .unset, .unset, .unset] [(.int p2), (.int p3)])) _
    refine XS.isub X0.here hx rfl (hb hby d1_2) rfl ?_
    show Steps p.tables e below (s₁.setTop (mkF m 3 #[.val (.ref a1), .val (.int p2), .val (.int p3), .unset, .unset, .unset, .unset] [(.int (p3 - p2))])) _
    refine XS.istoreN X0.here hx rfl (hb hby d1_3) rfl (l' := #[.val (.ref a1), .val (.int p2), .val (.int p3), .val (.int (p3 - p2)), .unset, .unset, .unset]) rfl ?_
    show Steps p.tables e below (s₁.setTop (mkF m 4 #[.val (.ref a1), .val (.int p2), .val (.int p3), .val (.int (p3 - p2)), .unset, .unset, .unset] [])) _
    refine XS.iloadN X0.here hx rfl (hb hby d1_4) rfl ?_
    show Steps p.tables e below (s₁.setTop (mkF m 5 #[.val (.ref a1), .val (.int p2), .val (.int p3), .val (.int (p3 - p2)), .unset, .unset, .unset] [(.int (p3 - p2))])) _
    refine XS.ifNo X0.here hx rfl (hb hby d1_5) rfl ((if0 _ _).trans (teq hl).2) ?_
    show Steps p.tables e below (s₁.setTop (mkF m 8 #[.val (.ref a1), .val (.int p2), .val (.int p3), .val (.int (p3 - p2)), .unset, .unset, .unset] [])) _
    refine XS.iconst X0.here hx rfl (hb hby d1_8) ?_
    show Steps p.tables e below (s₁.setTop (mkF m 9 #[.val (.ref a1), .val (.int p2), .val (.int p3), .val (.int (p3 - p2)), .unset, .unset, .unset] [(.int (0 : Int32))])) _
    have hv' : V = (0 : Int32) := hv
    clear hv
    subst hv'
    exact retI X0 hx Bd.returns (hb hby d1_9) hr
  refine ⟨_, _, pre0 _ (b0 hV), hrun, hended, _, _, rfl, ?_, ⟨_, rfl⟩, hW, hsame.mono (by decide) (by decide)⟩
  show Q1a Z a1 p2 p3  h0 n0 _ s₁.heap _
  rw [e0, hV]
  exact ⟨rfl, N0, rfl⟩
def Q1b (Z : State) (a1 : Addr) (p2 : Int32) (p3 : Int32) (cl : Cell) (x y z : Int32) (h0 : Heap) (n0 : Nat) (v : Option Value) (h : Heap) (L : List Loc) : Prop := v = some (.int (g1b_0 a1 p2 p3 x y z)) ∧ Fr n0 L ∧ h = h0
set_option maxRecDepth 65536 in
set_option maxHeartbeats 40000000 in
theorem rm1b (l : Launch) (Z : State) (a0 : Array Value) (hw : ∀ d ∈ tables_1, d.before a0 Z = true) (ws : List Jvm.Cond) (a1 : Addr) (p2 : Int32) (p3 : Int32) (cl : Cell) (x y z : Int32) (h0 : Heap) (n0 : Nat) (Z0 : n0 ≤ h0.size) (hl : ¬ ((p3 - p2) = (0 : Int32))) (Ar : Arr Z h0 a1 cl .byte) (hin12 : ¬ (p2 < 0 ∨ cl.slots.size ≤ (p2).toNatClampNeg)) (hat12 : cl.slots[(p2).toNatClampNeg]? = some (.int x)) (hin24 : ¬ ((p2 + ((p3 - p2) / (2 : Int32))) < 0 ∨ cl.slots.size ≤ ((p2 + ((p3 - p2) / (2 : Int32)))).toNatClampNeg)) (hat24 : cl.slots[((p2 + ((p3 - p2) / (2 : Int32)))).toNatClampNeg]? = some (.int y)) (hin34 : ¬ ((p3 - (1 : Int32)) < 0 ∨ cl.slots.size ≤ ((p3 - (1 : Int32))).toNatClampNeg)) (hat34 : cl.slots[((p3 - (1 : Int32))).toNatClampNeg]? = some (.int z)) :
    MetFree l (⟨"com/example/evenkeel/evenkeel/http/HeaderName", "hash", "([BII)I"⟩ : MethodName) (head1 (Jvm.Cond.code (⟨"com/example/evenkeel/evenkeel/http/HeaderName", "hash", "([BII)I"⟩ : MethodName) prog_30_method_6_code 7 (some .int) :: ws) ({ frames := 0, cells := 0, slots := 0, locals := 0 } : Room)) (fun a U => a = #[(.ref a1), (.int p2), (.int p3)] ∧ Z.Warmed39 U.vm ∧ U.heap = h0) (fun _ _ _ _ _ => True) (fun _ U o U' => ∃ v L, o = .returned v ∧ Q1b Z a1 p2 p3 cl x y z h0 n0 v U'.heap L ∧ FrameEnd U o U' L ({ frames := 0, cells := 0, slots := 0, locals := 0 } : Room).cells ({ frames := 0, cells := 0, slots := 0, locals := 0 } : Room).slots) := by
  refine MetFree.of_bodySF (plainFor_of_name pn_0) hisR ?_
  intro p e s m args below meth c s₁ Bd hml0 hP hK
  obtain ⟨rfl, hZ, hh⟩ := hP
  have hx := Bd.exec
  have hby := Bd.bytes
  have hml : c.maxLocals = 7 := hml0
  have hown : s.vm.findClass "com/example/evenkeel/evenkeel/http/HeaderName" = some m.cls := findClass_of_methodNamed Bd.named
  have hnm := (name_of_methodNamed Bd.named Bd.method).1
  have X0 : Stand p l e ({ frames := 0, cells := 0, slots := 0, locals := 0 } : Room) s m #[(.ref a1), (.int p2), (.int p3)] below meth c s₁ [] 0 0 := Stand.of_body Bd
  have e0 : s₁.heap = h0 := by rw [← hh, Bd.state]; rfl
  have N0 := Fr.nil n0
  have pre0 : ∀ t, Steps p.tables e below (s₁.setTop (mkF m 0 #[.val (.ref a1), .val (.int p2), .val (.int p3), .unset, .unset, .unset, .unset] [])) t → Steps p.tables e below (s₁.setTop (entryFrame m #[(.ref a1), (.int p2), (.int p3)] 7)) t := fun t k => castTop (ef_1 m a1 p2 p3) k
  obtain ⟨V, hV⟩ : ∃ V : Int32, V = g1b_0 a1 p2 p3 x y z := ⟨_, rfl⟩
  obtain ⟨fs, hr, hrun, hended, hW, hsame⟩ := X0.leave (v := some (.int V)) (fun h => by rw [Bd.returns] at h; cases h)
  have b0 : V = (g1b_0 a1 p2 p3 x y z ) → Steps p.tables e below (s₁.setTop (mkF m 0 #[.val (.ref a1), .val (.int p2), .val (.int p3), .unset, .unset, .unset, .unset] [])) (s₁.setFrames fs) := by
    intro  hv
    show Steps p.tables e below (s₁.setTop (mkF m 0 #[.val (.ref a1), .val (.int p2), .val (.int p3), .unset, .unset, .unset, .unset] [])) _
    refine XS.iloadN X0.here hx rfl (hb hby d1_0) rfl ?_
    show Steps p.tables e below (s₁.setTop (mkF m 1 #[.val (.ref a1), .val (.int p2), .val (.int p3), .unset, .unset, .unset, .unset] [(.int p3)])) _
    refine XS.iloadN X0.here hx rfl (hb hby d1_1) rfl ?_
    show Steps p.tables e below (s₁.setTop (mkF m 2 #[.val (.ref a1), .val (.int p2), .val (.int p3), .unset, .unset, .unset, .unset] [(.int p2), (.int p3)])) _
    refine XS.isub X0.here hx rfl (hb hby d1_2) rfl ?_
    show Steps p.tables e below (s₁.setTop (mkF m 3 #[.val (.ref a1), .val (.int p2), .val (.int p3), .unset, .unset, .unset, .unset] [(.int (p3 - p2))])) _
    refine XS.istoreN X0.here hx rfl (hb hby d1_3) rfl (l' := #[.val (.ref a1), .val (.int p2), .val (.int p3), .val (.int (p3 - p2)), .unset, .unset, .unset]) rfl ?_
    show Steps p.tables e below (s₁.setTop (mkF m 4 #[.val (.ref a1), .val (.int p2), .val (.int p3), .val (.int (p3 - p2)), .unset, .unset, .unset] [])) _
    refine XS.iloadN X0.here hx rfl (hb hby d1_4) rfl ?_
    show Steps p.tables e below (s₁.setTop (mkF m 5 #[.val (.ref a1), .val (.int p2), .val (.int p3), .val (.int (p3 - p2)), .unset, .unset, .unset] [(.int (p3 - p2))])) _
    refine XS.ifYes X0.here hx rfl (pc0 := 5) (pc' := 10) rfl (hb hby d1_5) rfl ((if0 _ _).trans (feq hl).2) (by decide) (by decide) ?_
    show Steps p.tables e below (s₁.setTop (mkF m 10 #[.val (.ref a1), .val (.int p2), .val (.int p3), .val (.int (p3 - p2)), .unset, .unset, .unset] [])) _
    refine XS.aloadN X0.here hx rfl (hb hby d1_10) rfl rfl ?_
    show Steps p.tables e below (s₁.setTop (mkF m 11 #[.val (.ref a1), .val (.int p2), .val (.int p3), .val (.int (p3 - p2)), .unset, .unset, .unset] [(.ref a1)])) _
    refine XS.iloadN X0.here hx rfl (hb hby d1_11) rfl ?_
    show Steps p.tables e below (s₁.setTop (mkF m 12 #[.val (.ref a1), .val (.int p2), .val (.int p3), .val (.int (p3 - p2)), .unset, .unset, .unset] [(.int p2), (.ref a1)])) _
    refine X0.baloadBytes hx (j := p2) (v := (.int x)) (by rw [e0]; exact Ar.1) (State.isArrayOf_alike hZ.alike Ar.2.1) Ar.2.2 hin12 hat12 (g := (mkF m 12 #[.val (.ref a1), .val (.int p2), .val (.int p3), .val (.int (p3 - p2)), .unset, .unset, .unset] [(.int p2), (.ref a1)])) rfl rfl (hb hby d1_12) _ ?_
    show Steps p.tables e below (s₁.setTop (mkF m 13 #[.val (.ref a1), .val (.int p2), .val (.int p3), .val (.int (p3 - p2)), .unset, .unset, .unset] [(.int x)])) _
    refine XS.bipush X0.here hx rfl (hb hby d1_13) ?_
    show Steps p.tables e below (s₁.setTop (mkF m 15 #[.val (.ref a1), .val (.int p2), .val (.int p3), .val (.int (p3 - p2)), .unset, .unset, .unset] [(.int (32 : Int32)), (.int x)])) _
    refine XS.ior X0.here hx rfl (hb hby d1_15) rfl ?_
    show Steps p.tables e below (s₁.setTop (mkF m 16 #[.val (.ref a1), .val (.int p2), .val (.int p3), .val (.int (p3 - p2)), .unset, .unset, .unset] [(.int (x ||| (32 : Int32)))])) _
    refine XS.istore X0.here hx rfl (hb hby d1_16) rfl (l' := #[.val (.ref a1), .val (.int p2), .val (.int p3), .val (.int (p3 - p2)), .val (.int (x ||| (32 : Int32))), .unset, .unset]) rfl ?_
    show Steps p.tables e below (s₁.setTop (mkF m 18 #[.val (.ref a1), .val (.int p2), .val (.int p3), .val (.int (p3 - p2)), .val (.int (x ||| (32 : Int32))), .unset, .unset] [])) _
    refine XS.aloadN X0.here hx rfl (hb hby d1_18) rfl rfl ?_
    show Steps p.tables e below (s₁.setTop (mkF m 19 #[.val (.ref a1), .val (.int p2), .val (.int p3), .val (.int (p3 - p2)), .val (.int (x ||| (32 : Int32))), .unset, .unset] [(.ref a1)])) _
    refine XS.iloadN X0.here hx rfl (hb hby d1_19) rfl ?_
    show Steps p.tables e below (s₁.setTop (mkF m 20 #[.val (.ref a1), .val (.int p2), .val (.int p3), .val (.int (p3 - p2)), .val (.int (x ||| (32 : Int32))), .unset, .unset] [(.int p2), (.ref a1)])) _
    refine XS.iloadN X0.here hx rfl (hb hby d1_20) rfl ?_
    show Steps p.tables e below (s₁.setTop (mkF m 21 #[.val (.ref a1), .val (.int p2), .val (.int p3), .val (.int (p3 - p2)), .val (.int (x ||| (32 : Int32))), .unset, .unset] [(.int (p3 - p2)), (.int p2), (.ref a1)])) _
    refine XS.iconst X0.here hx rfl (hb hby d1_21) ?_
    show Steps p.tables e below (s₁.setTop (mkF m 22 #[.val (.ref a1), .val (.int p2), .val (.int p3), .val (.int (p3 - p2)), .val (.int (x ||| (32 : Int32))), .unset, .unset] [(.int (2 : Int32)), (.int (p3 - p2)), (.int p2), (.ref a1)])) _
    refine XS.idiv X0.here hx rfl (hb hby d1_22) rfl (by decide) ?_
    show Steps p.tables e below (s₁.setTop (mkF m 23 #[.val (.ref a1), .val (.int p2), .val (.int p3), .val (.int (p3 - p2)), .val (.int (x ||| (32 : Int32))), .unset, .unset] [(.int ((p3 - p2) / (2 : Int32))), (.int p2), (.ref a1)])) _
    refine XS.iadd X0.here hx rfl (hb hby d1_23) rfl ?_
    show Steps p.tables e below (s₁.setTop (mkF m 24 #[.val (.ref a1), .val (.int p2), .val (.int p3), .val (.int (p3 - p2)), .val (.int (x ||| (32 : Int32))), .unset, .unset] [(.int (p2 + ((p3 - p2) / (2 : Int32)))), (.ref a1)])) _
    refine X0.baloadBytes hx (j := (p2 + ((p3 - p2) / (2 : Int32)))) (v := (.int y)) (by rw [e0]; exact Ar.1) (State.isArrayOf_alike hZ.alike Ar.2.1) Ar.2.2 hin24 hat24 (g := (mkF m 24 #[.val (.ref a1), .val (.int p2), .val (.int p3), .val (.int (p3 - p2)), .val (.int (x ||| (32 : Int32))), .unset, .unset] [(.int (p2 + ((p3 - p2) / (2 : Int32)))), (.ref a1)])) rfl rfl (hb hby d1_24) _ ?_
    show Steps p.tables e below (s₁.setTop (mkF m 25 #[.val (.ref a1), .val (.int p2), .val (.int p3), .val (.int (p3 - p2)), .val (.int (x ||| (32 : Int32))), .unset, .unset] [(.int y)])) _
    refine XS.bipush X0.here hx rfl (hb hby d1_25) ?_
    show Steps p.tables e below (s₁.setTop (mkF m 27 #[.val (.ref a1), .val (.int p2), .val (.int p3), .val (.int (p3 - p2)), .val (.int (x ||| (32 : Int32))), .unset, .unset] [(.int (32 : Int32)), (.int y)])) _
    refine XS.ior X0.here hx rfl (hb hby d1_27) rfl ?_
    show Steps p.tables e below (s₁.setTop (mkF m 28 #[.val (.ref a1), .val (.int p2), .val (.int p3), .val (.int (p3 - p2)), .val (.int (x ||| (32 : Int32))), .unset, .unset] [(.int (y ||| (32 : Int32)))])) _
    refine XS.istore X0.here hx rfl (hb hby d1_28) rfl (l' := #[.val (.ref a1), .val (.int p2), .val (.int p3), .val (.int (p3 - p2)), .val (.int (x ||| (32 : Int32))), .val (.int (y ||| (32 : Int32))), .unset]) rfl ?_
    show Steps p.tables e below (s₁.setTop (mkF m 30 #[.val (.ref a1), .val (.int p2), .val (.int p3), .val (.int (p3 - p2)), .val (.int (x ||| (32 : Int32))), .val (.int (y ||| (32 : Int32))), .unset] [])) _
    refine XS.aloadN X0.here hx rfl (hb hby d1_30) rfl rfl ?_
    show Steps p.tables e below (s₁.setTop (mkF m 31 #[.val (.ref a1), .val (.int p2), .val (.int p3), .val (.int (p3 - p2)), .val (.int (x ||| (32 : Int32))), .val (.int (y ||| (32 : Int32))), .unset] [(.ref a1)])) _
    refine XS.iloadN X0.here hx rfl (hb hby d1_31) rfl ?_
    show Steps p.tables e below (s₁.setTop (mkF m 32 #[.val (.ref a1), .val (.int p2), .val (.int p3), .val (.int (p3 - p2)), .val (.int (x ||| (32 : Int32))), .val (.int (y ||| (32 : Int32))), .unset] [(.int p3), (.ref a1)])) _
    refine XS.iconst X0.here hx rfl (hb hby d1_32) ?_
    show Steps p.tables e below (s₁.setTop (mkF m 33 #[.val (.ref a1), .val (.int p2), .val (.int p3), .val (.int (p3 - p2)), .val (.int (x ||| (32 : Int32))), .val (.int (y ||| (32 : Int32))), .unset] [(.int (1 : Int32)), (.int p3), (.ref a1)])) _
    refine XS.isub X0.here hx rfl (hb hby d1_33) rfl ?_
    show Steps p.tables e below (s₁.setTop (mkF m 34 #[.val (.ref a1), .val (.int p2), .val (.int p3), .val (.int (p3 - p2)), .val (.int (x ||| (32 : Int32))), .val (.int (y ||| (32 : Int32))), .unset] [(.int (p3 - (1 : Int32))), (.ref a1)])) _
    refine X0.baloadBytes hx (j := (p3 - (1 : Int32))) (v := (.int z)) (by rw [e0]; exact Ar.1) (State.isArrayOf_alike hZ.alike Ar.2.1) Ar.2.2 hin34 hat34 (g := (mkF m 34 #[.val (.ref a1), .val (.int p2), .val (.int p3), .val (.int (p3 - p2)), .val (.int (x ||| (32 : Int32))), .val (.int (y ||| (32 : Int32))), .unset] [(.int (p3 - (1 : Int32))), (.ref a1)])) rfl rfl (hb hby d1_34) _ ?_
    show Steps p.tables e below (s₁.setTop (mkF m 35 #[.val (.ref a1), .val (.int p2), .val (.int p3), .val (.int (p3 - p2)), .val (.int (x ||| (32 : Int32))), .val (.int (y ||| (32 : Int32))), .unset] [(.int z)])) _
    refine XS.bipush X0.here hx rfl (hb hby d1_35) ?_
    show Steps p.tables e below (s₁.setTop (mkF m 37 #[.val (.ref a1), .val (.int p2), .val (.int p3), .val (.int (p3 - p2)), .val (.int (x ||| (32 : Int32))), .val (.int (y ||| (32 : Int32))), .unset] [(.int (32 : Int32)), (.int z)])) _
    refine XS.ior X0.here hx rfl (hb hby d1_37) rfl ?_
    show Steps p.tables e below (s₁.setTop (mkF m 38 #[.val (.ref a1), .val (.int p2), .val (.int p3), .val (.int (p3 - p2)), .val (.int (x ||| (32 : Int32))), .val (.int (y ||| (32 : Int32))), .unset] [(.int (z ||| (32 : Int32)))])) _
    refine XS.istore X0.here hx rfl (hb hby d1_38) rfl (l' := #[.val (.ref a1), .val (.int p2), .val (.int p3), .val (.int (p3 - p2)), .val (.int (x ||| (32 : Int32))), .val (.int (y ||| (32 : Int32))), .val (.int (z ||| (32 : Int32)))]) rfl ?_
    show Steps p.tables e below (s₁.setTop (mkF m 40 #[.val (.ref a1), .val (.int p2), .val (.int p3), .val (.int (p3 - p2)), .val (.int (x ||| (32 : Int32))), .val (.int (y ||| (32 : Int32))), .val (.int (z ||| (32 : Int32)))] [])) _
    refine XS.iloadN X0.here hx rfl (hb hby d1_40) rfl ?_
    show Steps p.tables e below (s₁.setTop (mkF m 41 #[.val (.ref a1), .val (.int p2), .val (.int p3), .val (.int (p3 - p2)), .val (.int (x ||| (32 : Int32))), .val (.int (y ||| (32 : Int32))), .val (.int (z ||| (32 : Int32)))] [(.int (p3 - p2))])) _
    refine XS.bipush X0.here hx rfl (hb hby d1_41) ?_
    show Steps p.tables e below (s₁.setTop (mkF m 43 #[.val (.ref a1), .val (.int p2), .val (.int p3), .val (.int (p3 - p2)), .val (.int (x ||| (32 : Int32))), .val (.int (y ||| (32 : Int32))), .val (.int (z ||| (32 : Int32)))] [(.int (31 : Int32)), (.int (p3 - p2))])) _
    refine XS.imul X0.here hx rfl (hb hby d1_43) rfl ?_
    show Steps p.tables e below (s₁.setTop (mkF m 44 #[.val (.ref a1), .val (.int p2), .val (.int p3), .val (.int (p3 - p2)), .val (.int (x ||| (32 : Int32))), .val (.int (y ||| (32 : Int32))), .val (.int (z ||| (32 : Int32)))] [(.int ((p3 - p2) * (31 : Int32)))])) _
    refine XS.iload X0.here hx rfl (hb hby d1_44) rfl ?_
    show Steps p.tables e below (s₁.setTop (mkF m 46 #[.val (.ref a1), .val (.int p2), .val (.int p3), .val (.int (p3 - p2)), .val (.int (x ||| (32 : Int32))), .val (.int (y ||| (32 : Int32))), .val (.int (z ||| (32 : Int32)))] [(.int (x ||| (32 : Int32))), (.int ((p3 - p2) * (31 : Int32)))])) _
    refine XS.iadd X0.here hx rfl (hb hby d1_46) rfl ?_
    show Steps p.tables e below (s₁.setTop (mkF m 47 #[.val (.ref a1), .val (.int p2), .val (.int p3), .val (.int (p3 - p2)), .val (.int (x ||| (32 : Int32))), .val (.int (y ||| (32 : Int32))), .val (.int (z ||| (32 : Int32)))] [(.int (((p3 - p2) * (31 : Int32)) + (x ||| (32 : Int32))))])) _
    refine XS.bipush X0.here hx rfl (hb hby d1_47) ?_
    show Steps p.tables e below (s₁.setTop (mkF m 49 #[.val (.ref a1), .val (.int p2), .val (.int p3), .val (.int (p3 - p2)), .val (.int (x ||| (32 : Int32))), .val (.int (y ||| (32 : Int32))), .val (.int (z ||| (32 : Int32)))] [(.int (31 : Int32)), (.int (((p3 - p2) * (31 : Int32)) + (x ||| (32 : Int32))))])) _
    refine XS.imul X0.here hx rfl (hb hby d1_49) rfl ?_
    show Steps p.tables e below (s₁.setTop (mkF m 50 #[.val (.ref a1), .val (.int p2), .val (.int p3), .val (.int (p3 - p2)), .val (.int (x ||| (32 : Int32))), .val (.int (y ||| (32 : Int32))), .val (.int (z ||| (32 : Int32)))] [(.int ((((p3 - p2) * (31 : Int32)) + (x ||| (32 : Int32))) * (31 : Int32)))])) _
    refine XS.iload X0.here hx rfl (hb hby d1_50) rfl ?_
    show Steps p.tables e below (s₁.setTop (mkF m 52 #[.val (.ref a1), .val (.int p2), .val (.int p3), .val (.int (p3 - p2)), .val (.int (x ||| (32 : Int32))), .val (.int (y ||| (32 : Int32))), .val (.int (z ||| (32 : Int32)))] [(.int (y ||| (32 : Int32))), (.int ((((p3 - p2) * (31 : Int32)) + (x ||| (32 : Int32))) * (31 : Int32)))])) _
    refine XS.iadd X0.here hx rfl (hb hby d1_52) rfl ?_
    show Steps p.tables e below (s₁.setTop (mkF m 53 #[.val (.ref a1), .val (.int p2), .val (.int p3), .val (.int (p3 - p2)), .val (.int (x ||| (32 : Int32))), .val (.int (y ||| (32 : Int32))), .val (.int (z ||| (32 : Int32)))] [(.int (((((p3 - p2) * (31 : Int32)) + (x ||| (32 : Int32))) * (31 : Int32)) + (y ||| (32 : Int32))))])) _
    refine XS.bipush X0.here hx rfl (hb hby d1_53) ?_
    show Steps p.tables e below (s₁.setTop (mkF m 55 #[.val (.ref a1), .val (.int p2), .val (.int p3), .val (.int (p3 - p2)), .val (.int (x ||| (32 : Int32))), .val (.int (y ||| (32 : Int32))), .val (.int (z ||| (32 : Int32)))] [(.int (31 : Int32)), (.int (((((p3 - p2) * (31 : Int32)) + (x ||| (32 : Int32))) * (31 : Int32)) + (y ||| (32 : Int32))))])) _
    refine XS.imul X0.here hx rfl (hb hby d1_55) rfl ?_
    show Steps p.tables e below (s₁.setTop (mkF m 56 #[.val (.ref a1), .val (.int p2), .val (.int p3), .val (.int (p3 - p2)), .val (.int (x ||| (32 : Int32))), .val (.int (y ||| (32 : Int32))), .val (.int (z ||| (32 : Int32)))] [(.int ((((((p3 - p2) * (31 : Int32)) + (x ||| (32 : Int32))) * (31 : Int32)) + (y ||| (32 : Int32))) * (31 : Int32)))])) _
    refine XS.iload X0.here hx rfl (hb hby d1_56) rfl ?_
    show Steps p.tables e below (s₁.setTop (mkF m 58 #[.val (.ref a1), .val (.int p2), .val (.int p3), .val (.int (p3 - p2)), .val (.int (x ||| (32 : Int32))), .val (.int (y ||| (32 : Int32))), .val (.int (z ||| (32 : Int32)))] [(.int (z ||| (32 : Int32))), (.int ((((((p3 - p2) * (31 : Int32)) + (x ||| (32 : Int32))) * (31 : Int32)) + (y ||| (32 : Int32))) * (31 : Int32)))])) _
    refine XS.iadd X0.here hx rfl (hb hby d1_58) rfl ?_
    show Steps p.tables e below (s₁.setTop (mkF m 59 #[.val (.ref a1), .val (.int p2), .val (.int p3), .val (.int (p3 - p2)), .val (.int (x ||| (32 : Int32))), .val (.int (y ||| (32 : Int32))), .val (.int (z ||| (32 : Int32)))] [(.int (((((((p3 - p2) * (31 : Int32)) + (x ||| (32 : Int32))) * (31 : Int32)) + (y ||| (32 : Int32))) * (31 : Int32)) + (z ||| (32 : Int32))))])) _
    have hv' : V = (((((((p3 - p2) * (31 : Int32)) + (x ||| (32 : Int32))) * (31 : Int32)) + (y ||| (32 : Int32))) * (31 : Int32)) + (z ||| (32 : Int32))) := hv
    clear hv
    subst hv'
    exact retI X0 hx Bd.returns (hb hby d1_59) hr
  refine ⟨_, _, pre0 _ (b0 hV), hrun, hended, _, _, rfl, ?_, ⟨_, rfl⟩, hW, hsame.mono (by decide) (by decide)⟩
  show Q1b Z a1 p2 p3 cl x y z h0 n0 _ s₁.heap _
  rw [e0, hV]
  exact ⟨rfl, N0, rfl⟩
theorem ef_2 (m : MethodId) (p1 : Int32) : entryFrame m #[(.int p1)] 2 = mkF m 0 #[.val (.int p1), .unset] [] := by first | (simp [entryFrame, mkF, argsToLocals, Value.category]; done) | rfl
def Q2 (Z : State) (p1 : Int32)  (h0 : Heap) (n0 : Nat) (v : Option Value) (h : Heap) (L : List Loc) : Prop := v = some (.int (g2_0 p1 )) ∧ Fr n0 L ∧ h = h0
set_option maxRecDepth 65536 in
set_option maxHeartbeats 40000000 in
theorem rm2 (l : Launch) (Z : State) (a0 : Array Value) (hw : ∀ d ∈ tables_1, d.before a0 Z = true) (ws : List Jvm.Cond) (p1 : Int32)  (h0 : Heap) (n0 : Nat) (Z0 : n0 ≤ h0.size) :
    MetFree l (⟨"com/example/evenkeel/evenkeel/http/HeaderNameHashPinLaw", "flip", "(B)B"⟩ : MethodName) (head1 (Jvm.Cond.code (⟨"com/example/evenkeel/evenkeel/http/HeaderNameHashPinLaw", "flip", "(B)B"⟩ : MethodName) method_3_code 2 (some .byte) :: ws) ({ frames := 0, cells := 0, slots := 0, locals := 0 } : Room)) (fun a U => a = #[(.int p1)] ∧ Z.Warmed39 U.vm ∧ U.heap = h0) (fun _ _ _ _ _ => True) (fun _ U o U' => ∃ v L, o = .returned v ∧ Q2 Z p1 h0 n0 v U'.heap L ∧ FrameEnd U o U' L ({ frames := 0, cells := 0, slots := 0, locals := 0 } : Room).cells ({ frames := 0, cells := 0, slots := 0, locals := 0 } : Room).slots) := by
  refine MetFree.of_bodySF (plainFor_of_name pn_1) hisR ?_
  intro p e s m args below meth c s₁ Bd hml0 hP hK
  obtain ⟨rfl, hZ, hh⟩ := hP
  have hx := Bd.exec
  have hby := Bd.bytes
  have hml : c.maxLocals = 2 := hml0
  have hown : s.vm.findClass "com/example/evenkeel/evenkeel/http/HeaderNameHashPinLaw" = some m.cls := findClass_of_methodNamed Bd.named
  have hnm := (name_of_methodNamed Bd.named Bd.method).1
  have X0 : Stand p l e ({ frames := 0, cells := 0, slots := 0, locals := 0 } : Room) s m #[(.int p1)] below meth c s₁ [] 0 0 := Stand.of_body Bd
  have e0 : s₁.heap = h0 := by rw [← hh, Bd.state]; rfl
  have N0 := Fr.nil n0
  have pre0 : ∀ t, Steps p.tables e below (s₁.setTop (mkF m 0 #[.val (.int p1), .unset] [])) t → Steps p.tables e below (s₁.setTop (entryFrame m #[(.int p1)] 2)) t := fun t k => castTop (ef_2 m p1) k
  obtain ⟨V, hV⟩ : ∃ V : Int32, V = g2_0 p1  := ⟨_, rfl⟩
  obtain ⟨fs, hr, hrun, hended, hW, hsame⟩ := X0.leave (v := some (.int V)) (fun h => by rw [Bd.returns] at h; cases h)
  have b38 : V = (g2_38 p1  ) → Steps p.tables e below (s₁.setTop (mkF m 38 #[.val (.int p1), .val (.int p1)] [])) (s₁.setFrames fs) := by
    intro  hv
    show Steps p.tables e below (s₁.setTop (mkF m 38 #[.val (.int p1), .val (.int p1)] [])) _
    refine XS.iloadN X0.here hx rfl (hb hby d2_38) rfl ?_
    show Steps p.tables e below (s₁.setTop (mkF m 39 #[.val (.int p1), .val (.int p1)] [(.int p1)])) _
    have hv' : V = (nar .byte p1) := hv
    clear hv
    subst hv'
    exact retN X0 hx (t := .byte) Bd.returns (by simp) (hb hby d2_39) hr
  have b32 : V = (g2_32 p1  ) → Steps p.tables e below (s₁.setTop (mkF m 32 #[.val (.int p1), .val (.int p1)] [])) (s₁.setFrames fs) := by
    intro  hv
    show Steps p.tables e below (s₁.setTop (mkF m 32 #[.val (.int p1), .val (.int p1)] [])) _
    refine XS.iloadN X0.here hx rfl (hb hby d2_32) rfl ?_
    show Steps p.tables e below (s₁.setTop (mkF m 33 #[.val (.int p1), .val (.int p1)] [(.int p1)])) _
    refine XS.bipush X0.here hx rfl (hb hby d2_33) ?_
    show Steps p.tables e below (s₁.setTop (mkF m 35 #[.val (.int p1), .val (.int p1)] [(.int (32 : Int32)), (.int p1)])) _
    refine XS.isub X0.here hx rfl (hb hby d2_35) rfl ?_
    show Steps p.tables e below (s₁.setTop (mkF m 36 #[.val (.int p1), .val (.int p1)] [(.int (p1 - (32 : Int32)))])) _
    refine XS.i2b X0.here hx rfl (hb hby d2_36) rfl ?_
    show Steps p.tables e below (s₁.setTop (mkF m 37 #[.val (.int p1), .val (.int p1)] [(.int ((p1 - (32 : Int32)).toInt8.toInt32))])) _
    have hv' : V = (nar .byte ((p1 - (32 : Int32)).toInt8.toInt32)) := hv
    clear hv
    subst hv'
    exact retN X0 hx (t := .byte) Bd.returns (by simp) (hb hby d2_37) hr
  have b26 : V = (g2_26 p1  ) → Steps p.tables e below (s₁.setTop (mkF m 26 #[.val (.int p1), .val (.int p1)] [])) (s₁.setFrames fs) := by
    intro  hv
    show Steps p.tables e below (s₁.setTop (mkF m 26 #[.val (.int p1), .val (.int p1)] [])) _
    refine XS.iloadN X0.here hx rfl (hb hby d2_26) rfl ?_
    show Steps p.tables e below (s₁.setTop (mkF m 27 #[.val (.int p1), .val (.int p1)] [(.int p1)])) _
    refine XS.bipush X0.here hx rfl (hb hby d2_27) ?_
    show Steps p.tables e below (s₁.setTop (mkF m 29 #[.val (.int p1), .val (.int p1)] [(.int (122 : Int32)), (.int p1)])) _
    by_cases hc : (122 : Int32) < p1
    · refine XS.icmpYes X0.here hx rfl (pc0 := 29) (pc' := 38) rfl (hb hby d2_29) rfl (tlt hc).2.2.1 (by decide) (by decide) ?_
      show Steps p.tables e below (s₁.setTop (mkF m 38 #[.val (.int p1), .val (.int p1)] [])) _
      exact b38  (hv.trans (show (g2_26 p1  ) = (g2_38 p1  ) from if_pos hc))
    · refine XS.icmpNo X0.here hx rfl (hb hby d2_29) rfl (flt hc).2.2.1 ?_
      show Steps p.tables e below (s₁.setTop (mkF m 32 #[.val (.int p1), .val (.int p1)] [])) _
      exact b32  (hv.trans (show (g2_26 p1  ) = (g2_32 p1  ) from if_neg hc))
  have b20 : V = (g2_20 p1  ) → Steps p.tables e below (s₁.setTop (mkF m 20 #[.val (.int p1), .val (.int p1)] [])) (s₁.setFrames fs) := by
    intro  hv
    show Steps p.tables e below (s₁.setTop (mkF m 20 #[.val (.int p1), .val (.int p1)] [])) _
    refine XS.iloadN X0.here hx rfl (hb hby d2_20) rfl ?_
    show Steps p.tables e below (s₁.setTop (mkF m 21 #[.val (.int p1), .val (.int p1)] [(.int p1)])) _
    refine XS.bipush X0.here hx rfl (hb hby d2_21) ?_
    show Steps p.tables e below (s₁.setTop (mkF m 23 #[.val (.int p1), .val (.int p1)] [(.int (97 : Int32)), (.int p1)])) _
    by_cases hc : p1 < (97 : Int32)
    · refine XS.icmpYes X0.here hx rfl (pc0 := 23) (pc' := 38) rfl (hb hby d2_23) rfl (tlt hc).1 (by decide) (by decide) ?_
      show Steps p.tables e below (s₁.setTop (mkF m 38 #[.val (.int p1), .val (.int p1)] [])) _
      exact b38  (hv.trans (show (g2_20 p1  ) = (g2_38 p1  ) from if_pos hc))
    · refine XS.icmpNo X0.here hx rfl (hb hby d2_23) rfl (flt hc).1 ?_
      show Steps p.tables e below (s₁.setTop (mkF m 26 #[.val (.int p1), .val (.int p1)] [])) _
      exact b26  (hv.trans (show (g2_20 p1  ) = (g2_26 p1  ) from if_neg hc))
  have b14 : V = (g2_14 p1  ) → Steps p.tables e below (s₁.setTop (mkF m 14 #[.val (.int p1), .val (.int p1)] [])) (s₁.setFrames fs) := by
    intro  hv
    show Steps p.tables e below (s₁.setTop (mkF m 14 #[.val (.int p1), .val (.int p1)] [])) _
    refine XS.iloadN X0.here hx rfl (hb hby d2_14) rfl ?_
    show Steps p.tables e below (s₁.setTop (mkF m 15 #[.val (.int p1), .val (.int p1)] [(.int p1)])) _
    refine XS.bipush X0.here hx rfl (hb hby d2_15) ?_
    show Steps p.tables e below (s₁.setTop (mkF m 17 #[.val (.int p1), .val (.int p1)] [(.int (32 : Int32)), (.int p1)])) _
    refine XS.iadd X0.here hx rfl (hb hby d2_17) rfl ?_
    show Steps p.tables e below (s₁.setTop (mkF m 18 #[.val (.int p1), .val (.int p1)] [(.int (p1 + (32 : Int32)))])) _
    refine XS.i2b X0.here hx rfl (hb hby d2_18) rfl ?_
    show Steps p.tables e below (s₁.setTop (mkF m 19 #[.val (.int p1), .val (.int p1)] [(.int ((p1 + (32 : Int32)).toInt8.toInt32))])) _
    have hv' : V = (nar .byte ((p1 + (32 : Int32)).toInt8.toInt32)) := hv
    clear hv
    subst hv'
    exact retN X0 hx (t := .byte) Bd.returns (by simp) (hb hby d2_19) hr
  have b8 : V = (g2_8 p1  ) → Steps p.tables e below (s₁.setTop (mkF m 8 #[.val (.int p1), .val (.int p1)] [])) (s₁.setFrames fs) := by
    intro  hv
    show Steps p.tables e below (s₁.setTop (mkF m 8 #[.val (.int p1), .val (.int p1)] [])) _
    refine XS.iloadN X0.here hx rfl (hb hby d2_8) rfl ?_
    show Steps p.tables e below (s₁.setTop (mkF m 9 #[.val (.int p1), .val (.int p1)] [(.int p1)])) _
    refine XS.bipush X0.here hx rfl (hb hby d2_9) ?_
    show Steps p.tables e below (s₁.setTop (mkF m 11 #[.val (.int p1), .val (.int p1)] [(.int (90 : Int32)), (.int p1)])) _
    by_cases hc : (90 : Int32) < p1
    · refine XS.icmpYes X0.here hx rfl (pc0 := 11) (pc' := 20) rfl (hb hby d2_11) rfl (tlt hc).2.2.1 (by decide) (by decide) ?_
      show Steps p.tables e below (s₁.setTop (mkF m 20 #[.val (.int p1), .val (.int p1)] [])) _
      exact b20  (hv.trans (show (g2_8 p1  ) = (g2_20 p1  ) from if_pos hc))
    · refine XS.icmpNo X0.here hx rfl (hb hby d2_11) rfl (flt hc).2.2.1 ?_
      show Steps p.tables e below (s₁.setTop (mkF m 14 #[.val (.int p1), .val (.int p1)] [])) _
      exact b14  (hv.trans (show (g2_8 p1  ) = (g2_14 p1  ) from if_neg hc))
  have b0 : V = (g2_0 p1  ) → Steps p.tables e below (s₁.setTop (mkF m 0 #[.val (.int p1), .unset] [])) (s₁.setFrames fs) := by
    intro  hv
    show Steps p.tables e below (s₁.setTop (mkF m 0 #[.val (.int p1), .unset] [])) _
    refine XS.iloadN X0.here hx rfl (hb hby d2_0) rfl ?_
    show Steps p.tables e below (s₁.setTop (mkF m 1 #[.val (.int p1), .unset] [(.int p1)])) _
    refine XS.istoreN X0.here hx rfl (hb hby d2_1) rfl (l' := #[.val (.int p1), .val (.int p1)]) rfl ?_
    show Steps p.tables e below (s₁.setTop (mkF m 2 #[.val (.int p1), .val (.int p1)] [])) _
    refine XS.iloadN X0.here hx rfl (hb hby d2_2) rfl ?_
    show Steps p.tables e below (s₁.setTop (mkF m 3 #[.val (.int p1), .val (.int p1)] [(.int p1)])) _
    refine XS.bipush X0.here hx rfl (hb hby d2_3) ?_
    show Steps p.tables e below (s₁.setTop (mkF m 5 #[.val (.int p1), .val (.int p1)] [(.int (65 : Int32)), (.int p1)])) _
    by_cases hc : p1 < (65 : Int32)
    · refine XS.icmpYes X0.here hx rfl (pc0 := 5) (pc' := 20) rfl (hb hby d2_5) rfl (tlt hc).1 (by decide) (by decide) ?_
      show Steps p.tables e below (s₁.setTop (mkF m 20 #[.val (.int p1), .val (.int p1)] [])) _
      exact b20  (hv.trans (show (g2_0 p1  ) = (g2_20 p1  ) from if_pos hc))
    · refine XS.icmpNo X0.here hx rfl (hb hby d2_5) rfl (flt hc).1 ?_
      show Steps p.tables e below (s₁.setTop (mkF m 8 #[.val (.int p1), .val (.int p1)] [])) _
      exact b8  (hv.trans (show (g2_0 p1  ) = (g2_8 p1  ) from if_neg hc))
  refine ⟨_, _, pre0 _ (b0 hV), hrun, hended, _, _, rfl, ?_, ⟨_, rfl⟩, hW, hsame.mono (by decide) (by decide)⟩
  show Q2 Z p1  h0 n0 _ s₁.heap _
  rw [e0, hV]
  exact ⟨rfl, N0, rfl⟩
theorem ef_3 (m : MethodId) (p1 : Int32) : entryFrame m #[(.int p1)] 2 = mkF m 0 #[.val (.int p1), .unset] [] := by first | (simp [entryFrame, mkF, argsToLocals, Value.category]; done) | rfl
def Q3 (Z : State) (p1 : Int32)  (h0 : Heap) (n0 : Nat) (v : Option Value) (h : Heap) (L : List Loc) : Prop := v = some (.int (g3_0 p1 )) ∧ Fr n0 L ∧ h = h0
set_option maxRecDepth 65536 in
set_option maxHeartbeats 40000000 in
theorem rm3 (l : Launch) (Z : State) (a0 : Array Value) (hw : ∀ d ∈ tables_1, d.before a0 Z = true) (ws : List Jvm.Cond) (p1 : Int32)  (h0 : Heap) (n0 : Nat) (Z0 : n0 ≤ h0.size) :
    MetFree l (⟨"com/example/evenkeel/evenkeel/http/HeaderNameHashPinLaw", "fold", "(B)I"⟩ : MethodName) (head1 (Jvm.Cond.code (⟨"com/example/evenkeel/evenkeel/http/HeaderNameHashPinLaw", "fold", "(B)I"⟩ : MethodName) method_2_code 2 (some .int) :: ws) ({ frames := 0, cells := 0, slots := 0, locals := 0 } : Room)) (fun a U => a = #[(.int p1)] ∧ Z.Warmed39 U.vm ∧ U.heap = h0) (fun _ _ _ _ _ => True) (fun _ U o U' => ∃ v L, o = .returned v ∧ Q3 Z p1 h0 n0 v U'.heap L ∧ FrameEnd U o U' L ({ frames := 0, cells := 0, slots := 0, locals := 0 } : Room).cells ({ frames := 0, cells := 0, slots := 0, locals := 0 } : Room).slots) := by
  refine MetFree.of_bodySF (plainFor_of_name pn_1) hisR ?_
  intro p e s m args below meth c s₁ Bd hml0 hP hK
  obtain ⟨rfl, hZ, hh⟩ := hP
  have hx := Bd.exec
  have hby := Bd.bytes
  have hml : c.maxLocals = 2 := hml0
  have hown : s.vm.findClass "com/example/evenkeel/evenkeel/http/HeaderNameHashPinLaw" = some m.cls := findClass_of_methodNamed Bd.named
  have hnm := (name_of_methodNamed Bd.named Bd.method).1
  have X0 : Stand p l e ({ frames := 0, cells := 0, slots := 0, locals := 0 } : Room) s m #[(.int p1)] below meth c s₁ [] 0 0 := Stand.of_body Bd
  have e0 : s₁.heap = h0 := by rw [← hh, Bd.state]; rfl
  have N0 := Fr.nil n0
  have pre0 : ∀ t, Steps p.tables e below (s₁.setTop (mkF m 0 #[.val (.int p1), .unset] [])) t → Steps p.tables e below (s₁.setTop (entryFrame m #[(.int p1)] 2)) t := fun t k => castTop (ef_3 m p1) k
  obtain ⟨V, hV⟩ : ∃ V : Int32, V = g3_0 p1  := ⟨_, rfl⟩
  obtain ⟨fs, hr, hrun, hended, hW, hsame⟩ := X0.leave (v := some (.int V)) (fun h => by rw [Bd.returns] at h; cases h)
  have b22 : V = (g3_22 p1  ) → Steps p.tables e below (s₁.setTop (mkF m 22 #[.val (.int p1), .val (.int ((p1 &&& (255 : Int32)) ||| (32 : Int32)))] [])) (s₁.setFrames fs) := by
    intro  hv
    show Steps p.tables e below (s₁.setTop (mkF m 22 #[.val (.int p1), .val (.int ((p1 &&& (255 : Int32)) ||| (32 : Int32)))] [])) _
    refine XS.iloadN X0.here hx rfl (hb hby d3_22) rfl ?_
    show Steps p.tables e below (s₁.setTop (mkF m 23 #[.val (.int p1), .val (.int ((p1 &&& (255 : Int32)) ||| (32 : Int32)))] [(.int ((p1 &&& (255 : Int32)) ||| (32 : Int32)))])) _
    have hv' : V = ((p1 &&& (255 : Int32)) ||| (32 : Int32)) := hv
    clear hv
    subst hv'
    exact retI X0 hx Bd.returns (hb hby d3_23) hr
  have b16 : V = (g3_16 p1  ) → Steps p.tables e below (s₁.setTop (mkF m 16 #[.val (.int p1), .val (.int ((p1 &&& (255 : Int32)) ||| (32 : Int32)))] [])) (s₁.setFrames fs) := by
    intro  hv
    show Steps p.tables e below (s₁.setTop (mkF m 16 #[.val (.int p1), .val (.int ((p1 &&& (255 : Int32)) ||| (32 : Int32)))] [])) _
    refine XS.iloadN X0.here hx rfl (hb hby d3_16) rfl ?_
    show Steps p.tables e below (s₁.setTop (mkF m 17 #[.val (.int p1), .val (.int ((p1 &&& (255 : Int32)) ||| (32 : Int32)))] [(.int ((p1 &&& (255 : Int32)) ||| (32 : Int32)))])) _
    refine XS.sipush X0.here hx rfl (hb hby d3_17) ?_
    show Steps p.tables e below (s₁.setTop (mkF m 20 #[.val (.int p1), .val (.int ((p1 &&& (255 : Int32)) ||| (32 : Int32)))] [(.int (256 : Int32)), (.int ((p1 &&& (255 : Int32)) ||| (32 : Int32)))])) _
    refine XS.isub X0.here hx rfl (hb hby d3_20) rfl ?_
    show Steps p.tables e below (s₁.setTop (mkF m 21 #[.val (.int p1), .val (.int ((p1 &&& (255 : Int32)) ||| (32 : Int32)))] [(.int (((p1 &&& (255 : Int32)) ||| (32 : Int32)) - (256 : Int32)))])) _
    have hv' : V = (((p1 &&& (255 : Int32)) ||| (32 : Int32)) - (256 : Int32)) := hv
    clear hv
    subst hv'
    exact retI X0 hx Bd.returns (hb hby d3_21) hr
  have b0 : V = (g3_0 p1  ) → Steps p.tables e below (s₁.setTop (mkF m 0 #[.val (.int p1), .unset] [])) (s₁.setFrames fs) := by
    intro  hv
    show Steps p.tables e below (s₁.setTop (mkF m 0 #[.val (.int p1), .unset] [])) _
    refine XS.iloadN X0.here hx rfl (hb hby d3_0) rfl ?_
    show Steps p.tables e below (s₁.setTop (mkF m 1 #[.val (.int p1), .unset] [(.int p1)])) _
    refine XS.sipush X0.here hx rfl (hb hby d3_1) ?_
    show Steps p.tables e below (s₁.setTop (mkF m 4 #[.val (.int p1), .unset] [(.int (255 : Int32)), (.int p1)])) _
    refine XS.iand X0.here hx rfl (hb hby d3_4) rfl ?_
    show Steps p.tables e below (s₁.setTop (mkF m 5 #[.val (.int p1), .unset] [(.int (p1 &&& (255 : Int32)))])) _
    refine XS.bipush X0.here hx rfl (hb hby d3_5) ?_
    show Steps p.tables e below (s₁.setTop (mkF m 7 #[.val (.int p1), .unset] [(.int (32 : Int32)), (.int (p1 &&& (255 : Int32)))])) _
    refine XS.ior X0.here hx rfl (hb hby d3_7) rfl ?_
    show Steps p.tables e below (s₁.setTop (mkF m 8 #[.val (.int p1), .unset] [(.int ((p1 &&& (255 : Int32)) ||| (32 : Int32)))])) _
    refine XS.istoreN X0.here hx rfl (hb hby d3_8) rfl (l' := #[.val (.int p1), .val (.int ((p1 &&& (255 : Int32)) ||| (32 : Int32)))]) rfl ?_
    show Steps p.tables e below (s₁.setTop (mkF m 9 #[.val (.int p1), .val (.int ((p1 &&& (255 : Int32)) ||| (32 : Int32)))] [])) _
    refine XS.iloadN X0.here hx rfl (hb hby d3_9) rfl ?_
    show Steps p.tables e below (s₁.setTop (mkF m 10 #[.val (.int p1), .val (.int ((p1 &&& (255 : Int32)) ||| (32 : Int32)))] [(.int ((p1 &&& (255 : Int32)) ||| (32 : Int32)))])) _
    refine XS.sipush X0.here hx rfl (hb hby d3_10) ?_
    show Steps p.tables e below (s₁.setTop (mkF m 13 #[.val (.int p1), .val (.int ((p1 &&& (255 : Int32)) ||| (32 : Int32)))] [(.int (128 : Int32)), (.int ((p1 &&& (255 : Int32)) ||| (32 : Int32)))])) _
    by_cases hc : ((p1 &&& (255 : Int32)) ||| (32 : Int32)) < (128 : Int32)
    · refine XS.icmpYes X0.here hx rfl (pc0 := 13) (pc' := 22) rfl (hb hby d3_13) rfl (tlt hc).1 (by decide) (by decide) ?_
      show Steps p.tables e below (s₁.setTop (mkF m 22 #[.val (.int p1), .val (.int ((p1 &&& (255 : Int32)) ||| (32 : Int32)))] [])) _
      exact b22  (hv.trans (show (g3_0 p1  ) = (g3_22 p1  ) from if_pos hc))
    · refine XS.icmpNo X0.here hx rfl (hb hby d3_13) rfl (flt hc).1 ?_
      show Steps p.tables e below (s₁.setTop (mkF m 16 #[.val (.int p1), .val (.int ((p1 &&& (255 : Int32)) ||| (32 : Int32)))] [])) _
      exact b16  (hv.trans (show (g3_0 p1  ) = (g3_16 p1  ) from if_neg hc))
  refine ⟨_, _, pre0 _ (b0 hV), hrun, hended, _, _, rfl, ?_, ⟨_, rfl⟩, hW, hsame.mono (by decide) (by decide)⟩
  show Q3 Z p1  h0 n0 _ s₁.heap _
  rw [e0, hV]
  exact ⟨rfl, N0, rfl⟩
theorem ef_0 (m : MethodId) (p1 : Int32) (p2 : Int32) (p3 : Int32) (p4 : Int32) : entryFrame m #[(.int p1), (.int p2), (.int p3), (.int p4)] maxLocals = mkF m 0 #[.val (.int p1), .val (.int p2), .val (.int p3), .val (.int p4), .unset, .unset, .unset, .unset, .unset, .unset, .unset, .unset, .unset, .unset, .unset, .unset, .unset, .unset] [] := by first | (simp [entryFrame, mkF, argsToLocals, Value.category, maxLocals]; done) | rfl
def Q0 (Z : State) (p1 : Int32) (p2 : Int32) (p3 : Int32) (p4 : Int32)  (h0 : Heap) (n0 : Nat) (v : Option Value) (h : Heap) (L : List Loc) : Prop := v = some (.int (1 : Int32)) ∧ Fr n0 L
set_option maxRecDepth 65536 in
set_option maxHeartbeats 40000000 in
theorem rm0 (l : Launch) (Z : State) (a0 : Array Value) (hw : ∀ d ∈ tables_1, d.before a0 Z = true) (ws : List Jvm.Cond) (p1 : Int32) (p2 : Int32) (p3 : Int32) (p4 : Int32)  (h0 : Heap) (n0 : Nat) (Z0 : n0 ≤ h0.size) :
    MetFree l x (head1 (Jvm.Cond.code x code maxLocals ret :: ws) room_1) (fun a U => a = #[(.int p1), (.int p2), (.int p3), (.int p4)] ∧ Z.Warmed39 U.vm ∧ U.heap = h0) (fun _ _ _ _ _ => True) (fun _ U o U' => ∃ v L, o = .returned v ∧ Q0 Z p1 p2 p3 p4 h0 n0 v U'.heap L ∧ FrameEnd U o U' L room_1.cells room_1.slots) := by
  refine MetFree.of_bodySF (plainFor_of_name pn_1) hisR ?_
  intro p e s m args below meth c s₁ Bd hml0 hP hK
  obtain ⟨rfl, hZ, hh⟩ := hP
  have hx := Bd.exec
  have hby := Bd.bytes
  have hml : c.maxLocals = 18 := hml0
  have hown : s.vm.findClass "com/example/evenkeel/evenkeel/http/HeaderNameHashPinLaw" = some m.cls := findClass_of_methodNamed Bd.named
  have hnm := (name_of_methodNamed Bd.named Bd.method).1
  have X0 : Stand p l e room_1 s m #[(.int p1), (.int p2), (.int p3), (.int p4)] below meth c s₁ [] 0 0 := Stand.of_body Bd
  have e0 : s₁.heap = h0 := by rw [← hh, Bd.state]; rfl
  have N0 := Fr.nil n0
  have pre0 : ∀ t, Steps p.tables e below (s₁.setTop (mkF m 0 #[.val (.int p1), .val (.int p2), .val (.int p3), .val (.int p4), .unset, .unset, .unset, .unset, .unset, .unset, .unset, .unset, .unset, .unset, .unset, .unset, .unset, .unset] [])) t → Steps p.tables e below (s₁.setTop (entryFrame m #[(.int p1), (.int p2), (.int p3), (.int p4)] maxLocals)) t := fun t k => castTop (ef_0 m p1 p2 p3 p4) k
  have G1 : ∀ t, Steps p.tables e below (s₁.setTop (mkF m 2 #[.val (.int p1), .val (.int p2), .val (.int p3), .val (.int p4), .unset, .unset, .unset, .unset, .unset, .unset, .unset, .unset, .unset, .unset, .unset, .unset, .unset, .unset] [(.int (8 : Int32))])) t → Steps p.tables e below (s₁.setTop (entryFrame m #[(.int p1), (.int p2), (.int p3), (.int p4)] maxLocals)) t := by
    intro t kt
    refine pre0 t ?_
    show Steps p.tables e below (s₁.setTop (mkF m 0 #[.val (.int p1), .val (.int p2), .val (.int p3), .val (.int p4), .unset, .unset, .unset, .unset, .unset, .unset, .unset, .unset, .unset, .unset, .unset, .unset, .unset, .unset] [])) _
    refine XS.bipush X0.here hx rfl (hb hby at_0) ?_
    show Steps p.tables e below (s₁.setTop (mkF m 2 #[.val (.int p1), .val (.int p2), .val (.int p3), .val (.int p4), .unset, .unset, .unset, .unset, .unset, .unset, .unset, .unset, .unset, .unset, .unset, .unset, .unset, .unset] [(.int (8 : Int32))])) _
    exact kt
  obtain ⟨T2, h2, k2, X2, e2, E2, A2, st2⟩ := newP X0 hx hZ (hw _ (List.mem_of_getElem? (i := 0) rfl)) e0 (g := (mkF m 2 #[.val (.int p1), .val (.int p2), .val (.int p3), .val (.int p4), .unset, .unset, .unset, .unset, .unset, .unset, .unset, .unset, .unset, .unset, .unset, .unset, .unset, .unset] [(.int (8 : Int32))])) rfl (hb hby at_2) rfl (by decide) (cap := 8) (by decide) (by decide) (by decide) (by decide)
  obtain ⟨b2, g2⟩ : ∃ z, z = h0.size := ⟨_, rfl⟩
  rw [← g2] at A2 st2
  have g_b2 : n0 ≤ b2 := Nat.le_trans Z0 (Nat.le_of_eq g2.symm)
  have Z2 : n0 ≤ h2.size := Nat.le_trans Z0 E2.1
  have V_b2 : Arv Z h2 b2 k2 .byte (8 : Int32) [(.int (0 : Int32)), (.int (0 : Int32)), (.int (0 : Int32)), (.int (0 : Int32)), (.int (0 : Int32)), (.int (0 : Int32)), (.int (0 : Int32)), (.int (0 : Int32))] (.int (0 : Int32)) := (Arv.new A2 (by decide)).pad (pad_rep [] (.int (0 : Int32)) 8)
  have G2 : ∀ t, Steps p.tables e below (T2.setTop (mkF m 4 #[.val (.int p1), .val (.int p2), .val (.int p3), .val (.int p4), .unset, .unset, .unset, .unset, .unset, .unset, .unset, .unset, .unset, .unset, .unset, .unset, .unset, .unset] [(.ref b2)])) t → Steps p.tables e below (s₁.setTop (entryFrame m #[(.int p1), (.int p2), (.int p3), (.int p4)] maxLocals)) t := fun t kt => G1 t (st2 t kt)
  have G3 : ∀ t, Steps p.tables e below (T2.setTop (mkF m 11 #[.val (.int p1), .val (.int p2), .val (.int p3), .val (.int p4), .val (.ref b2), .unset, .unset, .unset, .unset, .unset, .unset, .unset, .unset, .unset, .unset, .unset, .unset, .unset] [(.int (p1.toInt8.toInt32)), (.int (0 : Int32)), (.ref b2)])) t → Steps p.tables e below (s₁.setTop (entryFrame m #[(.int p1), (.int p2), (.int p3), (.int p4)] maxLocals)) t := by
    intro t kt
    refine G2 t ?_
    show Steps p.tables e below (T2.setTop (mkF m 4 #[.val (.int p1), .val (.int p2), .val (.int p3), .val (.int p4), .unset, .unset, .unset, .unset, .unset, .unset, .unset, .unset, .unset, .unset, .unset, .unset, .unset, .unset] [(.ref b2)])) _
    refine XS.astore X2.here hx rfl (hb hby at_4) rfl rfl (l' := #[.val (.int p1), .val (.int p2), .val (.int p3), .val (.int p4), .val (.ref b2), .unset, .unset, .unset, .unset, .unset, .unset, .unset, .unset, .unset, .unset, .unset, .unset, .unset]) rfl ?_
    show Steps p.tables e below (T2.setTop (mkF m 6 #[.val (.int p1), .val (.int p2), .val (.int p3), .val (.int p4), .val (.ref b2), .unset, .unset, .unset, .unset, .unset, .unset, .unset, .unset, .unset, .unset, .unset, .unset, .unset] [])) _
    refine XS.aload X2.here hx rfl (hb hby at_6) rfl rfl ?_
    show Steps p.tables e below (T2.setTop (mkF m 8 #[.val (.int p1), .val (.int p2), .val (.int p3), .val (.int p4), .val (.ref b2), .unset, .unset, .unset, .unset, .unset, .unset, .unset, .unset, .unset, .unset, .unset, .unset, .unset] [(.ref b2)])) _
    refine XS.iconst X2.here hx rfl (hb hby at_8) ?_
    show Steps p.tables e below (T2.setTop (mkF m 9 #[.val (.int p1), .val (.int p2), .val (.int p3), .val (.int p4), .val (.ref b2), .unset, .unset, .unset, .unset, .unset, .unset, .unset, .unset, .unset, .unset, .unset, .unset, .unset] [(.int (0 : Int32)), (.ref b2)])) _
    refine XS.iloadN X2.here hx rfl (hb hby at_9) rfl ?_
    show Steps p.tables e below (T2.setTop (mkF m 10 #[.val (.int p1), .val (.int p2), .val (.int p3), .val (.int p4), .val (.ref b2), .unset, .unset, .unset, .unset, .unset, .unset, .unset, .unset, .unset, .unset, .unset, .unset, .unset] [(.int p1), (.int (0 : Int32)), (.ref b2)])) _
    refine XS.i2b X2.here hx rfl (hb hby at_10) rfl ?_
    show Steps p.tables e below (T2.setTop (mkF m 11 #[.val (.int p1), .val (.int p2), .val (.int p3), .val (.int p4), .val (.ref b2), .unset, .unset, .unset, .unset, .unset, .unset, .unset, .unset, .unset, .unset, .unset, .unset, .unset] [(.int (p1.toInt8.toInt32)), (.int (0 : Int32)), (.ref b2)])) _
    exact kt
  obtain ⟨cl_4, Ar_4, q_4, S_4, M_4, H_4, U_4⟩ := id V_b2
  obtain ⟨T4, h4, X4, e4, W4, st4⟩ := stB X2 hx hZ e2 Ar_4 (j := (0 : Int32)) (inb_of S_4 ⟨(by decide : ¬ ((0 : Int32) < (0 : Int32))), (by decide : (0 : Int32) < (8 : Int32))⟩) (g := (mkF m 11 #[.val (.int p1), .val (.int p2), .val (.int p3), .val (.int p4), .val (.ref b2), .unset, .unset, .unset, .unset, .unset, .unset, .unset, .unset, .unset, .unset, .unset, .unset, .unset] [(.int (p1.toInt8.toInt32)), (.int (0 : Int32)), (.ref b2)])) rfl rfl (hb hby at_11)
  have V_b2_4 : Arv Z h4 b2 k2 .byte (8 : Int32) [(.int (nar .byte (p1.toInt8.toInt32))), (.int (0 : Int32)), (.int (0 : Int32)), (.int (0 : Int32)), (.int (0 : Int32)), (.int (0 : Int32)), (.int (0 : Int32)), (.int (0 : Int32))] (.int (0 : Int32)) := Arv.set Ar_4 q_4 S_4 M_4 H_4 U_4 (fits_nar_byte _) W4 0 rfl (Nat.le_of_ble_eq_true rfl)
  have Z4 : n0 ≤ h4.size := Nat.le_trans Z2 (Keep.of_wr W4).1
  have N4 := Fr.snoc X4 N0 g_b2
  have G4 : ∀ t, Steps p.tables e below (T4.setTop (mkF m 12 #[.val (.int p1), .val (.int p2), .val (.int p3), .val (.int p4), .val (.ref b2), .unset, .unset, .unset, .unset, .unset, .unset, .unset, .unset, .unset, .unset, .unset, .unset, .unset] [])) t → Steps p.tables e below (s₁.setTop (entryFrame m #[(.int p1), (.int p2), (.int p3), (.int p4)] maxLocals)) t := fun t kt => G3 t (st4 t kt)
  have G5 : ∀ t, Steps p.tables e below (T4.setTop (mkF m 20 #[.val (.int p1), .val (.int p2), .val (.int p3), .val (.int p4), .val (.ref b2), .unset, .unset, .unset, .unset, .unset, .unset, .unset, .unset, .unset, .unset, .unset, .unset, .unset] [(.int (((p1.toUInt32 >>> ((8 : Int32) &&& 31).toUInt32).toInt32).toInt8.toInt32)), (.int (1 : Int32)), (.ref b2)])) t → Steps p.tables e below (s₁.setTop (entryFrame m #[(.int p1), (.int p2), (.int p3), (.int p4)] maxLocals)) t := by
    intro t kt
    refine G4 t ?_
    show Steps p.tables e below (T4.setTop (mkF m 12 #[.val (.int p1), .val (.int p2), .val (.int p3), .val (.int p4), .val (.ref b2), .unset, .unset, .unset, .unset, .unset, .unset, .unset, .unset, .unset, .unset, .unset, .unset, .unset] [])) _
    refine XS.aload X4.here hx rfl (hb hby at_12) rfl rfl ?_
    show Steps p.tables e below (T4.setTop (mkF m 14 #[.val (.int p1), .val (.int p2), .val (.int p3), .val (.int p4), .val (.ref b2), .unset, .unset, .unset, .unset, .unset, .unset, .unset, .unset, .unset, .unset, .unset, .unset, .unset] [(.ref b2)])) _
    refine XS.iconst X4.here hx rfl (hb hby at_14) ?_
    show Steps p.tables e below (T4.setTop (mkF m 15 #[.val (.int p1), .val (.int p2), .val (.int p3), .val (.int p4), .val (.ref b2), .unset, .unset, .unset, .unset, .unset, .unset, .unset, .unset, .unset, .unset, .unset, .unset, .unset] [(.int (1 : Int32)), (.ref b2)])) _
    refine XS.iloadN X4.here hx rfl (hb hby at_15) rfl ?_
    show Steps p.tables e below (T4.setTop (mkF m 16 #[.val (.int p1), .val (.int p2), .val (.int p3), .val (.int p4), .val (.ref b2), .unset, .unset, .unset, .unset, .unset, .unset, .unset, .unset, .unset, .unset, .unset, .unset, .unset] [(.int p1), (.int (1 : Int32)), (.ref b2)])) _
    refine XS.bipush X4.here hx rfl (hb hby at_16) ?_
    show Steps p.tables e below (T4.setTop (mkF m 18 #[.val (.int p1), .val (.int p2), .val (.int p3), .val (.int p4), .val (.ref b2), .unset, .unset, .unset, .unset, .unset, .unset, .unset, .unset, .unset, .unset, .unset, .unset, .unset] [(.int (8 : Int32)), (.int p1), (.int (1 : Int32)), (.ref b2)])) _
    refine XS.iushr X4.here hx rfl (hb hby at_18) rfl ?_
    show Steps p.tables e below (T4.setTop (mkF m 19 #[.val (.int p1), .val (.int p2), .val (.int p3), .val (.int p4), .val (.ref b2), .unset, .unset, .unset, .unset, .unset, .unset, .unset, .unset, .unset, .unset, .unset, .unset, .unset] [(.int ((p1.toUInt32 >>> ((8 : Int32) &&& 31).toUInt32).toInt32)), (.int (1 : Int32)), (.ref b2)])) _
    refine XS.i2b X4.here hx rfl (hb hby at_19) rfl ?_
    show Steps p.tables e below (T4.setTop (mkF m 20 #[.val (.int p1), .val (.int p2), .val (.int p3), .val (.int p4), .val (.ref b2), .unset, .unset, .unset, .unset, .unset, .unset, .unset, .unset, .unset, .unset, .unset, .unset, .unset] [(.int (((p1.toUInt32 >>> ((8 : Int32) &&& 31).toUInt32).toInt32).toInt8.toInt32)), (.int (1 : Int32)), (.ref b2)])) _
    exact kt
  obtain ⟨cl_6, Ar_6, q_6, S_6, M_6, H_6, U_6⟩ := id V_b2_4
  obtain ⟨T6, h6, X6, e6, W6, st6⟩ := stB X4 hx hZ e4 Ar_6 (j := (1 : Int32)) (inb_of S_6 ⟨(by decide : ¬ ((1 : Int32) < (0 : Int32))), (by decide : (1 : Int32) < (8 : Int32))⟩) (g := (mkF m 20 #[.val (.int p1), .val (.int p2), .val (.int p3), .val (.int p4), .val (.ref b2), .unset, .unset, .unset, .unset, .unset, .unset, .unset, .unset, .unset, .unset, .unset, .unset, .unset] [(.int (((p1.toUInt32 >>> ((8 : Int32) &&& 31).toUInt32).toInt32).toInt8.toInt32)), (.int (1 : Int32)), (.ref b2)])) rfl rfl (hb hby at_20)
  have V_b2_6 : Arv Z h6 b2 k2 .byte (8 : Int32) [(.int (nar .byte (p1.toInt8.toInt32))), (.int (nar .byte (((p1.toUInt32 >>> ((8 : Int32) &&& 31).toUInt32).toInt32).toInt8.toInt32))), (.int (0 : Int32)), (.int (0 : Int32)), (.int (0 : Int32)), (.int (0 : Int32)), (.int (0 : Int32)), (.int (0 : Int32))] (.int (0 : Int32)) := Arv.set Ar_6 q_6 S_6 M_6 H_6 U_6 (fits_nar_byte _) W6 1 rfl (Nat.le_of_ble_eq_true rfl)
  have Z6 : n0 ≤ h6.size := Nat.le_trans Z4 (Keep.of_wr W6).1
  have N6 := Fr.snoc X6 N4 g_b2
  have G6 : ∀ t, Steps p.tables e below (T6.setTop (mkF m 21 #[.val (.int p1), .val (.int p2), .val (.int p3), .val (.int p4), .val (.ref b2), .unset, .unset, .unset, .unset, .unset, .unset, .unset, .unset, .unset, .unset, .unset, .unset, .unset] [])) t → Steps p.tables e below (s₁.setTop (entryFrame m #[(.int p1), (.int p2), (.int p3), (.int p4)] maxLocals)) t := fun t kt => G5 t (st6 t kt)
  have G7 : ∀ t, Steps p.tables e below (T6.setTop (mkF m 29 #[.val (.int p1), .val (.int p2), .val (.int p3), .val (.int p4), .val (.ref b2), .unset, .unset, .unset, .unset, .unset, .unset, .unset, .unset, .unset, .unset, .unset, .unset, .unset] [(.int (((p1.toUInt32 >>> ((16 : Int32) &&& 31).toUInt32).toInt32).toInt8.toInt32)), (.int (2 : Int32)), (.ref b2)])) t → Steps p.tables e below (s₁.setTop (entryFrame m #[(.int p1), (.int p2), (.int p3), (.int p4)] maxLocals)) t := by
    intro t kt
    refine G6 t ?_
    show Steps p.tables e below (T6.setTop (mkF m 21 #[.val (.int p1), .val (.int p2), .val (.int p3), .val (.int p4), .val (.ref b2), .unset, .unset, .unset, .unset, .unset, .unset, .unset, .unset, .unset, .unset, .unset, .unset, .unset] [])) _
    refine XS.aload X6.here hx rfl (hb hby at_21) rfl rfl ?_
    show Steps p.tables e below (T6.setTop (mkF m 23 #[.val (.int p1), .val (.int p2), .val (.int p3), .val (.int p4), .val (.ref b2), .unset, .unset, .unset, .unset, .unset, .unset, .unset, .unset, .unset, .unset, .unset, .unset, .unset] [(.ref b2)])) _
    refine XS.iconst X6.here hx rfl (hb hby at_23) ?_
    show Steps p.tables e below (T6.setTop (mkF m 24 #[.val (.int p1), .val (.int p2), .val (.int p3), .val (.int p4), .val (.ref b2), .unset, .unset, .unset, .unset, .unset, .unset, .unset, .unset, .unset, .unset, .unset, .unset, .unset] [(.int (2 : Int32)), (.ref b2)])) _
    refine XS.iloadN X6.here hx rfl (hb hby at_24) rfl ?_
    show Steps p.tables e below (T6.setTop (mkF m 25 #[.val (.int p1), .val (.int p2), .val (.int p3), .val (.int p4), .val (.ref b2), .unset, .unset, .unset, .unset, .unset, .unset, .unset, .unset, .unset, .unset, .unset, .unset, .unset] [(.int p1), (.int (2 : Int32)), (.ref b2)])) _
    refine XS.bipush X6.here hx rfl (hb hby at_25) ?_
    show Steps p.tables e below (T6.setTop (mkF m 27 #[.val (.int p1), .val (.int p2), .val (.int p3), .val (.int p4), .val (.ref b2), .unset, .unset, .unset, .unset, .unset, .unset, .unset, .unset, .unset, .unset, .unset, .unset, .unset] [(.int (16 : Int32)), (.int p1), (.int (2 : Int32)), (.ref b2)])) _
    refine XS.iushr X6.here hx rfl (hb hby at_27) rfl ?_
    show Steps p.tables e below (T6.setTop (mkF m 28 #[.val (.int p1), .val (.int p2), .val (.int p3), .val (.int p4), .val (.ref b2), .unset, .unset, .unset, .unset, .unset, .unset, .unset, .unset, .unset, .unset, .unset, .unset, .unset] [(.int ((p1.toUInt32 >>> ((16 : Int32) &&& 31).toUInt32).toInt32)), (.int (2 : Int32)), (.ref b2)])) _
    refine XS.i2b X6.here hx rfl (hb hby at_28) rfl ?_
    show Steps p.tables e below (T6.setTop (mkF m 29 #[.val (.int p1), .val (.int p2), .val (.int p3), .val (.int p4), .val (.ref b2), .unset, .unset, .unset, .unset, .unset, .unset, .unset, .unset, .unset, .unset, .unset, .unset, .unset] [(.int (((p1.toUInt32 >>> ((16 : Int32) &&& 31).toUInt32).toInt32).toInt8.toInt32)), (.int (2 : Int32)), (.ref b2)])) _
    exact kt
  obtain ⟨cl_8, Ar_8, q_8, S_8, M_8, H_8, U_8⟩ := id V_b2_6
  obtain ⟨T8, h8, X8, e8, W8, st8⟩ := stB X6 hx hZ e6 Ar_8 (j := (2 : Int32)) (inb_of S_8 ⟨(by decide : ¬ ((2 : Int32) < (0 : Int32))), (by decide : (2 : Int32) < (8 : Int32))⟩) (g := (mkF m 29 #[.val (.int p1), .val (.int p2), .val (.int p3), .val (.int p4), .val (.ref b2), .unset, .unset, .unset, .unset, .unset, .unset, .unset, .unset, .unset, .unset, .unset, .unset, .unset] [(.int (((p1.toUInt32 >>> ((16 : Int32) &&& 31).toUInt32).toInt32).toInt8.toInt32)), (.int (2 : Int32)), (.ref b2)])) rfl rfl (hb hby at_29)
  have V_b2_8 : Arv Z h8 b2 k2 .byte (8 : Int32) [(.int (nar .byte (p1.toInt8.toInt32))), (.int (nar .byte (((p1.toUInt32 >>> ((8 : Int32) &&& 31).toUInt32).toInt32).toInt8.toInt32))), (.int (nar .byte (((p1.toUInt32 >>> ((16 : Int32) &&& 31).toUInt32).toInt32).toInt8.toInt32))), (.int (0 : Int32)), (.int (0 : Int32)), (.int (0 : Int32)), (.int (0 : Int32)), (.int (0 : Int32))] (.int (0 : Int32)) := Arv.set Ar_8 q_8 S_8 M_8 H_8 U_8 (fits_nar_byte _) W8 2 rfl (Nat.le_of_ble_eq_true rfl)
  have Z8 : n0 ≤ h8.size := Nat.le_trans Z6 (Keep.of_wr W8).1
  have N8 := Fr.snoc X8 N6 g_b2
  have G8 : ∀ t, Steps p.tables e below (T8.setTop (mkF m 30 #[.val (.int p1), .val (.int p2), .val (.int p3), .val (.int p4), .val (.ref b2), .unset, .unset, .unset, .unset, .unset, .unset, .unset, .unset, .unset, .unset, .unset, .unset, .unset] [])) t → Steps p.tables e below (s₁.setTop (entryFrame m #[(.int p1), (.int p2), (.int p3), (.int p4)] maxLocals)) t := fun t kt => G7 t (st8 t kt)
  have G9 : ∀ t, Steps p.tables e below (T8.setTop (mkF m 38 #[.val (.int p1), .val (.int p2), .val (.int p3), .val (.int p4), .val (.ref b2), .unset, .unset, .unset, .unset, .unset, .unset, .unset, .unset, .unset, .unset, .unset, .unset, .unset] [(.int (((p1.toUInt32 >>> ((24 : Int32) &&& 31).toUInt32).toInt32).toInt8.toInt32)), (.int (3 : Int32)), (.ref b2)])) t → Steps p.tables e below (s₁.setTop (entryFrame m #[(.int p1), (.int p2), (.int p3), (.int p4)] maxLocals)) t := by
    intro t kt
    refine G8 t ?_
    show Steps p.tables e below (T8.setTop (mkF m 30 #[.val (.int p1), .val (.int p2), .val (.int p3), .val (.int p4), .val (.ref b2), .unset, .unset, .unset, .unset, .unset, .unset, .unset, .unset, .unset, .unset, .unset, .unset, .unset] [])) _
    refine XS.aload X8.here hx rfl (hb hby at_30) rfl rfl ?_
    show Steps p.tables e below (T8.setTop (mkF m 32 #[.val (.int p1), .val (.int p2), .val (.int p3), .val (.int p4), .val (.ref b2), .unset, .unset, .unset, .unset, .unset, .unset, .unset, .unset, .unset, .unset, .unset, .unset, .unset] [(.ref b2)])) _
    refine XS.iconst X8.here hx rfl (hb hby at_32) ?_
    show Steps p.tables e below (T8.setTop (mkF m 33 #[.val (.int p1), .val (.int p2), .val (.int p3), .val (.int p4), .val (.ref b2), .unset, .unset, .unset, .unset, .unset, .unset, .unset, .unset, .unset, .unset, .unset, .unset, .unset] [(.int (3 : Int32)), (.ref b2)])) _
    refine XS.iloadN X8.here hx rfl (hb hby at_33) rfl ?_
    show Steps p.tables e below (T8.setTop (mkF m 34 #[.val (.int p1), .val (.int p2), .val (.int p3), .val (.int p4), .val (.ref b2), .unset, .unset, .unset, .unset, .unset, .unset, .unset, .unset, .unset, .unset, .unset, .unset, .unset] [(.int p1), (.int (3 : Int32)), (.ref b2)])) _
    refine XS.bipush X8.here hx rfl (hb hby at_34) ?_
    show Steps p.tables e below (T8.setTop (mkF m 36 #[.val (.int p1), .val (.int p2), .val (.int p3), .val (.int p4), .val (.ref b2), .unset, .unset, .unset, .unset, .unset, .unset, .unset, .unset, .unset, .unset, .unset, .unset, .unset] [(.int (24 : Int32)), (.int p1), (.int (3 : Int32)), (.ref b2)])) _
    refine XS.iushr X8.here hx rfl (hb hby at_36) rfl ?_
    show Steps p.tables e below (T8.setTop (mkF m 37 #[.val (.int p1), .val (.int p2), .val (.int p3), .val (.int p4), .val (.ref b2), .unset, .unset, .unset, .unset, .unset, .unset, .unset, .unset, .unset, .unset, .unset, .unset, .unset] [(.int ((p1.toUInt32 >>> ((24 : Int32) &&& 31).toUInt32).toInt32)), (.int (3 : Int32)), (.ref b2)])) _
    refine XS.i2b X8.here hx rfl (hb hby at_37) rfl ?_
    show Steps p.tables e below (T8.setTop (mkF m 38 #[.val (.int p1), .val (.int p2), .val (.int p3), .val (.int p4), .val (.ref b2), .unset, .unset, .unset, .unset, .unset, .unset, .unset, .unset, .unset, .unset, .unset, .unset, .unset] [(.int (((p1.toUInt32 >>> ((24 : Int32) &&& 31).toUInt32).toInt32).toInt8.toInt32)), (.int (3 : Int32)), (.ref b2)])) _
    exact kt
  obtain ⟨cl_10, Ar_10, q_10, S_10, M_10, H_10, U_10⟩ := id V_b2_8
  obtain ⟨T10, h10, X10, e10, W10, st10⟩ := stB X8 hx hZ e8 Ar_10 (j := (3 : Int32)) (inb_of S_10 ⟨(by decide : ¬ ((3 : Int32) < (0 : Int32))), (by decide : (3 : Int32) < (8 : Int32))⟩) (g := (mkF m 38 #[.val (.int p1), .val (.int p2), .val (.int p3), .val (.int p4), .val (.ref b2), .unset, .unset, .unset, .unset, .unset, .unset, .unset, .unset, .unset, .unset, .unset, .unset, .unset] [(.int (((p1.toUInt32 >>> ((24 : Int32) &&& 31).toUInt32).toInt32).toInt8.toInt32)), (.int (3 : Int32)), (.ref b2)])) rfl rfl (hb hby at_38)
  have V_b2_10 : Arv Z h10 b2 k2 .byte (8 : Int32) [(.int (nar .byte (p1.toInt8.toInt32))), (.int (nar .byte (((p1.toUInt32 >>> ((8 : Int32) &&& 31).toUInt32).toInt32).toInt8.toInt32))), (.int (nar .byte (((p1.toUInt32 >>> ((16 : Int32) &&& 31).toUInt32).toInt32).toInt8.toInt32))), (.int (nar .byte (((p1.toUInt32 >>> ((24 : Int32) &&& 31).toUInt32).toInt32).toInt8.toInt32))), (.int (0 : Int32)), (.int (0 : Int32)), (.int (0 : Int32)), (.int (0 : Int32))] (.int (0 : Int32)) := Arv.set Ar_10 q_10 S_10 M_10 H_10 U_10 (fits_nar_byte _) W10 3 rfl (Nat.le_of_ble_eq_true rfl)
  have Z10 : n0 ≤ h10.size := Nat.le_trans Z8 (Keep.of_wr W10).1
  have N10 := Fr.snoc X10 N8 g_b2
  have G10 : ∀ t, Steps p.tables e below (T10.setTop (mkF m 39 #[.val (.int p1), .val (.int p2), .val (.int p3), .val (.int p4), .val (.ref b2), .unset, .unset, .unset, .unset, .unset, .unset, .unset, .unset, .unset, .unset, .unset, .unset, .unset] [])) t → Steps p.tables e below (s₁.setTop (entryFrame m #[(.int p1), (.int p2), (.int p3), (.int p4)] maxLocals)) t := fun t kt => G9 t (st10 t kt)
  have G11 : ∀ t, Steps p.tables e below (T10.setTop (mkF m 44 #[.val (.int p1), .val (.int p2), .val (.int p3), .val (.int p4), .val (.ref b2), .unset, .unset, .unset, .unset, .unset, .unset, .unset, .unset, .unset, .unset, .unset, .unset, .unset] [(.int (p2.toInt8.toInt32)), (.int (4 : Int32)), (.ref b2)])) t → Steps p.tables e below (s₁.setTop (entryFrame m #[(.int p1), (.int p2), (.int p3), (.int p4)] maxLocals)) t := by
    intro t kt
    refine G10 t ?_
    show Steps p.tables e below (T10.setTop (mkF m 39 #[.val (.int p1), .val (.int p2), .val (.int p3), .val (.int p4), .val (.ref b2), .unset, .unset, .unset, .unset, .unset, .unset, .unset, .unset, .unset, .unset, .unset, .unset, .unset] [])) _
    refine XS.aload X10.here hx rfl (hb hby at_39) rfl rfl ?_
    show Steps p.tables e below (T10.setTop (mkF m 41 #[.val (.int p1), .val (.int p2), .val (.int p3), .val (.int p4), .val (.ref b2), .unset, .unset, .unset, .unset, .unset, .unset, .unset, .unset, .unset, .unset, .unset, .unset, .unset] [(.ref b2)])) _
    refine XS.iconst X10.here hx rfl (hb hby at_41) ?_
    show Steps p.tables e below (T10.setTop (mkF m 42 #[.val (.int p1), .val (.int p2), .val (.int p3), .val (.int p4), .val (.ref b2), .unset, .unset, .unset, .unset, .unset, .unset, .unset, .unset, .unset, .unset, .unset, .unset, .unset] [(.int (4 : Int32)), (.ref b2)])) _
    refine XS.iloadN X10.here hx rfl (hb hby at_42) rfl ?_
    show Steps p.tables e below (T10.setTop (mkF m 43 #[.val (.int p1), .val (.int p2), .val (.int p3), .val (.int p4), .val (.ref b2), .unset, .unset, .unset, .unset, .unset, .unset, .unset, .unset, .unset, .unset, .unset, .unset, .unset] [(.int p2), (.int (4 : Int32)), (.ref b2)])) _
    refine XS.i2b X10.here hx rfl (hb hby at_43) rfl ?_
    show Steps p.tables e below (T10.setTop (mkF m 44 #[.val (.int p1), .val (.int p2), .val (.int p3), .val (.int p4), .val (.ref b2), .unset, .unset, .unset, .unset, .unset, .unset, .unset, .unset, .unset, .unset, .unset, .unset, .unset] [(.int (p2.toInt8.toInt32)), (.int (4 : Int32)), (.ref b2)])) _
    exact kt
  obtain ⟨cl_12, Ar_12, q_12, S_12, M_12, H_12, U_12⟩ := id V_b2_10
  obtain ⟨T12, h12, X12, e12, W12, st12⟩ := stB X10 hx hZ e10 Ar_12 (j := (4 : Int32)) (inb_of S_12 ⟨(by decide : ¬ ((4 : Int32) < (0 : Int32))), (by decide : (4 : Int32) < (8 : Int32))⟩) (g := (mkF m 44 #[.val (.int p1), .val (.int p2), .val (.int p3), .val (.int p4), .val (.ref b2), .unset, .unset, .unset, .unset, .unset, .unset, .unset, .unset, .unset, .unset, .unset, .unset, .unset] [(.int (p2.toInt8.toInt32)), (.int (4 : Int32)), (.ref b2)])) rfl rfl (hb hby at_44)
  have V_b2_12 : Arv Z h12 b2 k2 .byte (8 : Int32) [(.int (nar .byte (p1.toInt8.toInt32))), (.int (nar .byte (((p1.toUInt32 >>> ((8 : Int32) &&& 31).toUInt32).toInt32).toInt8.toInt32))), (.int (nar .byte (((p1.toUInt32 >>> ((16 : Int32) &&& 31).toUInt32).toInt32).toInt8.toInt32))), (.int (nar .byte (((p1.toUInt32 >>> ((24 : Int32) &&& 31).toUInt32).toInt32).toInt8.toInt32))), (.int (nar .byte (p2.toInt8.toInt32))), (.int (0 : Int32)), (.int (0 : Int32)), (.int (0 : Int32))] (.int (0 : Int32)) := Arv.set Ar_12 q_12 S_12 M_12 H_12 U_12 (fits_nar_byte _) W12 4 rfl (Nat.le_of_ble_eq_true rfl)
  have Z12 : n0 ≤ h12.size := Nat.le_trans Z10 (Keep.of_wr W12).1
  have N12 := Fr.snoc X12 N10 g_b2
  have G12 : ∀ t, Steps p.tables e below (T12.setTop (mkF m 45 #[.val (.int p1), .val (.int p2), .val (.int p3), .val (.int p4), .val (.ref b2), .unset, .unset, .unset, .unset, .unset, .unset, .unset, .unset, .unset, .unset, .unset, .unset, .unset] [])) t → Steps p.tables e below (s₁.setTop (entryFrame m #[(.int p1), (.int p2), (.int p3), (.int p4)] maxLocals)) t := fun t kt => G11 t (st12 t kt)
  have G13 : ∀ t, Steps p.tables e below (T12.setTop (mkF m 53 #[.val (.int p1), .val (.int p2), .val (.int p3), .val (.int p4), .val (.ref b2), .unset, .unset, .unset, .unset, .unset, .unset, .unset, .unset, .unset, .unset, .unset, .unset, .unset] [(.int (((p2.toUInt32 >>> ((8 : Int32) &&& 31).toUInt32).toInt32).toInt8.toInt32)), (.int (5 : Int32)), (.ref b2)])) t → Steps p.tables e below (s₁.setTop (entryFrame m #[(.int p1), (.int p2), (.int p3), (.int p4)] maxLocals)) t := by
    intro t kt
    refine G12 t ?_
    show Steps p.tables e below (T12.setTop (mkF m 45 #[.val (.int p1), .val (.int p2), .val (.int p3), .val (.int p4), .val (.ref b2), .unset, .unset, .unset, .unset, .unset, .unset, .unset, .unset, .unset, .unset, .unset, .unset, .unset] [])) _
    refine XS.aload X12.here hx rfl (hb hby at_45) rfl rfl ?_
    show Steps p.tables e below (T12.setTop (mkF m 47 #[.val (.int p1), .val (.int p2), .val (.int p3), .val (.int p4), .val (.ref b2), .unset, .unset, .unset, .unset, .unset, .unset, .unset, .unset, .unset, .unset, .unset, .unset, .unset] [(.ref b2)])) _
    refine XS.iconst X12.here hx rfl (hb hby at_47) ?_
    show Steps p.tables e below (T12.setTop (mkF m 48 #[.val (.int p1), .val (.int p2), .val (.int p3), .val (.int p4), .val (.ref b2), .unset, .unset, .unset, .unset, .unset, .unset, .unset, .unset, .unset, .unset, .unset, .unset, .unset] [(.int (5 : Int32)), (.ref b2)])) _
    refine XS.iloadN X12.here hx rfl (hb hby at_48) rfl ?_
    show Steps p.tables e below (T12.setTop (mkF m 49 #[.val (.int p1), .val (.int p2), .val (.int p3), .val (.int p4), .val (.ref b2), .unset, .unset, .unset, .unset, .unset, .unset, .unset, .unset, .unset, .unset, .unset, .unset, .unset] [(.int p2), (.int (5 : Int32)), (.ref b2)])) _
    refine XS.bipush X12.here hx rfl (hb hby at_49) ?_
    show Steps p.tables e below (T12.setTop (mkF m 51 #[.val (.int p1), .val (.int p2), .val (.int p3), .val (.int p4), .val (.ref b2), .unset, .unset, .unset, .unset, .unset, .unset, .unset, .unset, .unset, .unset, .unset, .unset, .unset] [(.int (8 : Int32)), (.int p2), (.int (5 : Int32)), (.ref b2)])) _
    refine XS.iushr X12.here hx rfl (hb hby at_51) rfl ?_
    show Steps p.tables e below (T12.setTop (mkF m 52 #[.val (.int p1), .val (.int p2), .val (.int p3), .val (.int p4), .val (.ref b2), .unset, .unset, .unset, .unset, .unset, .unset, .unset, .unset, .unset, .unset, .unset, .unset, .unset] [(.int ((p2.toUInt32 >>> ((8 : Int32) &&& 31).toUInt32).toInt32)), (.int (5 : Int32)), (.ref b2)])) _
    refine XS.i2b X12.here hx rfl (hb hby at_52) rfl ?_
    show Steps p.tables e below (T12.setTop (mkF m 53 #[.val (.int p1), .val (.int p2), .val (.int p3), .val (.int p4), .val (.ref b2), .unset, .unset, .unset, .unset, .unset, .unset, .unset, .unset, .unset, .unset, .unset, .unset, .unset] [(.int (((p2.toUInt32 >>> ((8 : Int32) &&& 31).toUInt32).toInt32).toInt8.toInt32)), (.int (5 : Int32)), (.ref b2)])) _
    exact kt
  obtain ⟨cl_14, Ar_14, q_14, S_14, M_14, H_14, U_14⟩ := id V_b2_12
  obtain ⟨T14, h14, X14, e14, W14, st14⟩ := stB X12 hx hZ e12 Ar_14 (j := (5 : Int32)) (inb_of S_14 ⟨(by decide : ¬ ((5 : Int32) < (0 : Int32))), (by decide : (5 : Int32) < (8 : Int32))⟩) (g := (mkF m 53 #[.val (.int p1), .val (.int p2), .val (.int p3), .val (.int p4), .val (.ref b2), .unset, .unset, .unset, .unset, .unset, .unset, .unset, .unset, .unset, .unset, .unset, .unset, .unset] [(.int (((p2.toUInt32 >>> ((8 : Int32) &&& 31).toUInt32).toInt32).toInt8.toInt32)), (.int (5 : Int32)), (.ref b2)])) rfl rfl (hb hby at_53)
  have V_b2_14 : Arv Z h14 b2 k2 .byte (8 : Int32) [(.int (nar .byte (p1.toInt8.toInt32))), (.int (nar .byte (((p1.toUInt32 >>> ((8 : Int32) &&& 31).toUInt32).toInt32).toInt8.toInt32))), (.int (nar .byte (((p1.toUInt32 >>> ((16 : Int32) &&& 31).toUInt32).toInt32).toInt8.toInt32))), (.int (nar .byte (((p1.toUInt32 >>> ((24 : Int32) &&& 31).toUInt32).toInt32).toInt8.toInt32))), (.int (nar .byte (p2.toInt8.toInt32))), (.int (nar .byte (((p2.toUInt32 >>> ((8 : Int32) &&& 31).toUInt32).toInt32).toInt8.toInt32))), (.int (0 : Int32)), (.int (0 : Int32))] (.int (0 : Int32)) := Arv.set Ar_14 q_14 S_14 M_14 H_14 U_14 (fits_nar_byte _) W14 5 rfl (Nat.le_of_ble_eq_true rfl)
  have Z14 : n0 ≤ h14.size := Nat.le_trans Z12 (Keep.of_wr W14).1
  have N14 := Fr.snoc X14 N12 g_b2
  have G14 : ∀ t, Steps p.tables e below (T14.setTop (mkF m 54 #[.val (.int p1), .val (.int p2), .val (.int p3), .val (.int p4), .val (.ref b2), .unset, .unset, .unset, .unset, .unset, .unset, .unset, .unset, .unset, .unset, .unset, .unset, .unset] [])) t → Steps p.tables e below (s₁.setTop (entryFrame m #[(.int p1), (.int p2), (.int p3), (.int p4)] maxLocals)) t := fun t kt => G13 t (st14 t kt)
  have G15 : ∀ t, Steps p.tables e below (T14.setTop (mkF m 63 #[.val (.int p1), .val (.int p2), .val (.int p3), .val (.int p4), .val (.ref b2), .unset, .unset, .unset, .unset, .unset, .unset, .unset, .unset, .unset, .unset, .unset, .unset, .unset] [(.int (((p2.toUInt32 >>> ((16 : Int32) &&& 31).toUInt32).toInt32).toInt8.toInt32)), (.int (6 : Int32)), (.ref b2)])) t → Steps p.tables e below (s₁.setTop (entryFrame m #[(.int p1), (.int p2), (.int p3), (.int p4)] maxLocals)) t := by
    intro t kt
    refine G14 t ?_
    show Steps p.tables e below (T14.setTop (mkF m 54 #[.val (.int p1), .val (.int p2), .val (.int p3), .val (.int p4), .val (.ref b2), .unset, .unset, .unset, .unset, .unset, .unset, .unset, .unset, .unset, .unset, .unset, .unset, .unset] [])) _
    refine XS.aload X14.here hx rfl (hb hby at_54) rfl rfl ?_
    show Steps p.tables e below (T14.setTop (mkF m 56 #[.val (.int p1), .val (.int p2), .val (.int p3), .val (.int p4), .val (.ref b2), .unset, .unset, .unset, .unset, .unset, .unset, .unset, .unset, .unset, .unset, .unset, .unset, .unset] [(.ref b2)])) _
    refine XS.bipush X14.here hx rfl (hb hby at_56) ?_
    show Steps p.tables e below (T14.setTop (mkF m 58 #[.val (.int p1), .val (.int p2), .val (.int p3), .val (.int p4), .val (.ref b2), .unset, .unset, .unset, .unset, .unset, .unset, .unset, .unset, .unset, .unset, .unset, .unset, .unset] [(.int (6 : Int32)), (.ref b2)])) _
    refine XS.iloadN X14.here hx rfl (hb hby at_58) rfl ?_
    show Steps p.tables e below (T14.setTop (mkF m 59 #[.val (.int p1), .val (.int p2), .val (.int p3), .val (.int p4), .val (.ref b2), .unset, .unset, .unset, .unset, .unset, .unset, .unset, .unset, .unset, .unset, .unset, .unset, .unset] [(.int p2), (.int (6 : Int32)), (.ref b2)])) _
    refine XS.bipush X14.here hx rfl (hb hby at_59) ?_
    show Steps p.tables e below (T14.setTop (mkF m 61 #[.val (.int p1), .val (.int p2), .val (.int p3), .val (.int p4), .val (.ref b2), .unset, .unset, .unset, .unset, .unset, .unset, .unset, .unset, .unset, .unset, .unset, .unset, .unset] [(.int (16 : Int32)), (.int p2), (.int (6 : Int32)), (.ref b2)])) _
    refine XS.iushr X14.here hx rfl (hb hby at_61) rfl ?_
    show Steps p.tables e below (T14.setTop (mkF m 62 #[.val (.int p1), .val (.int p2), .val (.int p3), .val (.int p4), .val (.ref b2), .unset, .unset, .unset, .unset, .unset, .unset, .unset, .unset, .unset, .unset, .unset, .unset, .unset] [(.int ((p2.toUInt32 >>> ((16 : Int32) &&& 31).toUInt32).toInt32)), (.int (6 : Int32)), (.ref b2)])) _
    refine XS.i2b X14.here hx rfl (hb hby at_62) rfl ?_
    show Steps p.tables e below (T14.setTop (mkF m 63 #[.val (.int p1), .val (.int p2), .val (.int p3), .val (.int p4), .val (.ref b2), .unset, .unset, .unset, .unset, .unset, .unset, .unset, .unset, .unset, .unset, .unset, .unset, .unset] [(.int (((p2.toUInt32 >>> ((16 : Int32) &&& 31).toUInt32).toInt32).toInt8.toInt32)), (.int (6 : Int32)), (.ref b2)])) _
    exact kt
  obtain ⟨cl_16, Ar_16, q_16, S_16, M_16, H_16, U_16⟩ := id V_b2_14
  obtain ⟨T16, h16, X16, e16, W16, st16⟩ := stB X14 hx hZ e14 Ar_16 (j := (6 : Int32)) (inb_of S_16 ⟨(by decide : ¬ ((6 : Int32) < (0 : Int32))), (by decide : (6 : Int32) < (8 : Int32))⟩) (g := (mkF m 63 #[.val (.int p1), .val (.int p2), .val (.int p3), .val (.int p4), .val (.ref b2), .unset, .unset, .unset, .unset, .unset, .unset, .unset, .unset, .unset, .unset, .unset, .unset, .unset] [(.int (((p2.toUInt32 >>> ((16 : Int32) &&& 31).toUInt32).toInt32).toInt8.toInt32)), (.int (6 : Int32)), (.ref b2)])) rfl rfl (hb hby at_63)
  have V_b2_16 : Arv Z h16 b2 k2 .byte (8 : Int32) [(.int (nar .byte (p1.toInt8.toInt32))), (.int (nar .byte (((p1.toUInt32 >>> ((8 : Int32) &&& 31).toUInt32).toInt32).toInt8.toInt32))), (.int (nar .byte (((p1.toUInt32 >>> ((16 : Int32) &&& 31).toUInt32).toInt32).toInt8.toInt32))), (.int (nar .byte (((p1.toUInt32 >>> ((24 : Int32) &&& 31).toUInt32).toInt32).toInt8.toInt32))), (.int (nar .byte (p2.toInt8.toInt32))), (.int (nar .byte (((p2.toUInt32 >>> ((8 : Int32) &&& 31).toUInt32).toInt32).toInt8.toInt32))), (.int (nar .byte (((p2.toUInt32 >>> ((16 : Int32) &&& 31).toUInt32).toInt32).toInt8.toInt32))), (.int (0 : Int32))] (.int (0 : Int32)) := Arv.set Ar_16 q_16 S_16 M_16 H_16 U_16 (fits_nar_byte _) W16 6 rfl (Nat.le_of_ble_eq_true rfl)
  have Z16 : n0 ≤ h16.size := Nat.le_trans Z14 (Keep.of_wr W16).1
  have N16 := Fr.snoc X16 N14 g_b2
  have G16 : ∀ t, Steps p.tables e below (T16.setTop (mkF m 64 #[.val (.int p1), .val (.int p2), .val (.int p3), .val (.int p4), .val (.ref b2), .unset, .unset, .unset, .unset, .unset, .unset, .unset, .unset, .unset, .unset, .unset, .unset, .unset] [])) t → Steps p.tables e below (s₁.setTop (entryFrame m #[(.int p1), (.int p2), (.int p3), (.int p4)] maxLocals)) t := fun t kt => G15 t (st16 t kt)
  have G17 : ∀ t, Steps p.tables e below (T16.setTop (mkF m 73 #[.val (.int p1), .val (.int p2), .val (.int p3), .val (.int p4), .val (.ref b2), .unset, .unset, .unset, .unset, .unset, .unset, .unset, .unset, .unset, .unset, .unset, .unset, .unset] [(.int (((p2.toUInt32 >>> ((24 : Int32) &&& 31).toUInt32).toInt32).toInt8.toInt32)), (.int (7 : Int32)), (.ref b2)])) t → Steps p.tables e below (s₁.setTop (entryFrame m #[(.int p1), (.int p2), (.int p3), (.int p4)] maxLocals)) t := by
    intro t kt
    refine G16 t ?_
    show Steps p.tables e below (T16.setTop (mkF m 64 #[.val (.int p1), .val (.int p2), .val (.int p3), .val (.int p4), .val (.ref b2), .unset, .unset, .unset, .unset, .unset, .unset, .unset, .unset, .unset, .unset, .unset, .unset, .unset] [])) _
    refine XS.aload X16.here hx rfl (hb hby at_64) rfl rfl ?_
    show Steps p.tables e below (T16.setTop (mkF m 66 #[.val (.int p1), .val (.int p2), .val (.int p3), .val (.int p4), .val (.ref b2), .unset, .unset, .unset, .unset, .unset, .unset, .unset, .unset, .unset, .unset, .unset, .unset, .unset] [(.ref b2)])) _
    refine XS.bipush X16.here hx rfl (hb hby at_66) ?_
    show Steps p.tables e below (T16.setTop (mkF m 68 #[.val (.int p1), .val (.int p2), .val (.int p3), .val (.int p4), .val (.ref b2), .unset, .unset, .unset, .unset, .unset, .unset, .unset, .unset, .unset, .unset, .unset, .unset, .unset] [(.int (7 : Int32)), (.ref b2)])) _
    refine XS.iloadN X16.here hx rfl (hb hby at_68) rfl ?_
    show Steps p.tables e below (T16.setTop (mkF m 69 #[.val (.int p1), .val (.int p2), .val (.int p3), .val (.int p4), .val (.ref b2), .unset, .unset, .unset, .unset, .unset, .unset, .unset, .unset, .unset, .unset, .unset, .unset, .unset] [(.int p2), (.int (7 : Int32)), (.ref b2)])) _
    refine XS.bipush X16.here hx rfl (hb hby at_69) ?_
    show Steps p.tables e below (T16.setTop (mkF m 71 #[.val (.int p1), .val (.int p2), .val (.int p3), .val (.int p4), .val (.ref b2), .unset, .unset, .unset, .unset, .unset, .unset, .unset, .unset, .unset, .unset, .unset, .unset, .unset] [(.int (24 : Int32)), (.int p2), (.int (7 : Int32)), (.ref b2)])) _
    refine XS.iushr X16.here hx rfl (hb hby at_71) rfl ?_
    show Steps p.tables e below (T16.setTop (mkF m 72 #[.val (.int p1), .val (.int p2), .val (.int p3), .val (.int p4), .val (.ref b2), .unset, .unset, .unset, .unset, .unset, .unset, .unset, .unset, .unset, .unset, .unset, .unset, .unset] [(.int ((p2.toUInt32 >>> ((24 : Int32) &&& 31).toUInt32).toInt32)), (.int (7 : Int32)), (.ref b2)])) _
    refine XS.i2b X16.here hx rfl (hb hby at_72) rfl ?_
    show Steps p.tables e below (T16.setTop (mkF m 73 #[.val (.int p1), .val (.int p2), .val (.int p3), .val (.int p4), .val (.ref b2), .unset, .unset, .unset, .unset, .unset, .unset, .unset, .unset, .unset, .unset, .unset, .unset, .unset] [(.int (((p2.toUInt32 >>> ((24 : Int32) &&& 31).toUInt32).toInt32).toInt8.toInt32)), (.int (7 : Int32)), (.ref b2)])) _
    exact kt
  obtain ⟨cl_18, Ar_18, q_18, S_18, M_18, H_18, U_18⟩ := id V_b2_16
  obtain ⟨T18, h18, X18, e18, W18, st18⟩ := stB X16 hx hZ e16 Ar_18 (j := (7 : Int32)) (inb_of S_18 ⟨(by decide : ¬ ((7 : Int32) < (0 : Int32))), (by decide : (7 : Int32) < (8 : Int32))⟩) (g := (mkF m 73 #[.val (.int p1), .val (.int p2), .val (.int p3), .val (.int p4), .val (.ref b2), .unset, .unset, .unset, .unset, .unset, .unset, .unset, .unset, .unset, .unset, .unset, .unset, .unset] [(.int (((p2.toUInt32 >>> ((24 : Int32) &&& 31).toUInt32).toInt32).toInt8.toInt32)), (.int (7 : Int32)), (.ref b2)])) rfl rfl (hb hby at_73)
  have V_b2_18 : Arv Z h18 b2 k2 .byte (8 : Int32) [(.int (nar .byte (p1.toInt8.toInt32))), (.int (nar .byte (((p1.toUInt32 >>> ((8 : Int32) &&& 31).toUInt32).toInt32).toInt8.toInt32))), (.int (nar .byte (((p1.toUInt32 >>> ((16 : Int32) &&& 31).toUInt32).toInt32).toInt8.toInt32))), (.int (nar .byte (((p1.toUInt32 >>> ((24 : Int32) &&& 31).toUInt32).toInt32).toInt8.toInt32))), (.int (nar .byte (p2.toInt8.toInt32))), (.int (nar .byte (((p2.toUInt32 >>> ((8 : Int32) &&& 31).toUInt32).toInt32).toInt8.toInt32))), (.int (nar .byte (((p2.toUInt32 >>> ((16 : Int32) &&& 31).toUInt32).toInt32).toInt8.toInt32))), (.int (nar .byte (((p2.toUInt32 >>> ((24 : Int32) &&& 31).toUInt32).toInt32).toInt8.toInt32)))] (.int (0 : Int32)) := Arv.set Ar_18 q_18 S_18 M_18 H_18 U_18 (fits_nar_byte _) W18 7 rfl (Nat.le_of_ble_eq_true rfl)
  have Z18 : n0 ≤ h18.size := Nat.le_trans Z16 (Keep.of_wr W18).1
  have N18 := Fr.snoc X18 N16 g_b2
  have G18 : ∀ t, Steps p.tables e below (T18.setTop (mkF m 74 #[.val (.int p1), .val (.int p2), .val (.int p3), .val (.int p4), .val (.ref b2), .unset, .unset, .unset, .unset, .unset, .unset, .unset, .unset, .unset, .unset, .unset, .unset, .unset] [])) t → Steps p.tables e below (s₁.setTop (entryFrame m #[(.int p1), (.int p2), (.int p3), (.int p4)] maxLocals)) t := fun t kt => G17 t (st18 t kt)
  obtain ⟨LH19, XH19, NH19⟩ : ∃ L', Stand p l e room_1 s m #[(.int p1), (.int p2), (.int p3), (.int p4)] below meth c T18 L' 1 8 ∧ Fr n0 L' := ⟨_, X18, N18⟩
  obtain ⟨x0, hx0⟩ : ∃ z : Int32, z = (nar .byte (p1.toInt8.toInt32)) := ⟨_, rfl⟩
  have B0 : own_B x0 := by rw [hx0]; exact own_nar _
  obtain ⟨x1, hx1⟩ : ∃ z : Int32, z = (nar .byte (((p1.toUInt32 >>> ((8 : Int32) &&& 31).toUInt32).toInt32).toInt8.toInt32)) := ⟨_, rfl⟩
  have B1 : own_B x1 := by rw [hx1]; exact own_nar _
  obtain ⟨x2, hx2⟩ : ∃ z : Int32, z = (nar .byte (((p1.toUInt32 >>> ((16 : Int32) &&& 31).toUInt32).toInt32).toInt8.toInt32)) := ⟨_, rfl⟩
  have B2 : own_B x2 := by rw [hx2]; exact own_nar _
  obtain ⟨x3, hx3⟩ : ∃ z : Int32, z = (nar .byte (((p1.toUInt32 >>> ((24 : Int32) &&& 31).toUInt32).toInt32).toInt8.toInt32)) := ⟨_, rfl⟩
  have B3 : own_B x3 := by rw [hx3]; exact own_nar _
  obtain ⟨x4, hx4⟩ : ∃ z : Int32, z = (nar .byte (p2.toInt8.toInt32)) := ⟨_, rfl⟩
  have B4 : own_B x4 := by rw [hx4]; exact own_nar _
  obtain ⟨x5, hx5⟩ : ∃ z : Int32, z = (nar .byte (((p2.toUInt32 >>> ((8 : Int32) &&& 31).toUInt32).toInt32).toInt8.toInt32)) := ⟨_, rfl⟩
  have B5 : own_B x5 := by rw [hx5]; exact own_nar _
  obtain ⟨x6, hx6⟩ : ∃ z : Int32, z = (nar .byte (((p2.toUInt32 >>> ((16 : Int32) &&& 31).toUInt32).toInt32).toInt8.toInt32)) := ⟨_, rfl⟩
  have B6 : own_B x6 := by rw [hx6]; exact own_nar _
  obtain ⟨x7, hx7⟩ : ∃ z : Int32, z = (nar .byte (((p2.toUInt32 >>> ((24 : Int32) &&& 31).toUInt32).toInt32).toInt8.toInt32)) := ⟨_, rfl⟩
  have B7 : own_B x7 := by rw [hx7]; exact own_nar _
  have hB := own_selB ⟨B0, B1, B2, B3, B4, B5, B6, B7⟩
  have VA : Arv Z h18 b2 k2 .byte (8 : Int32) (own_l8 x0 x1 x2 x3 x4 x5 x6 x7) (.int (0 : Int32)) := by
    subst hx0 hx1 hx2 hx3 hx4 hx5 hx6 hx7
    exact V_b2_18
  have G20 : ∀ t, Steps p.tables e below (T18.setTop (mkF m 80 #[.val (.int p1), .val (.int p2), .val (.int p3), .val (.int p4), .val (.ref b2), .val (.int (p3 &&& (7 : Int32))), .unset, .unset, .unset, .unset, .unset, .unset, .unset, .unset, .unset, .unset, .unset, .unset] [])) t → Steps p.tables e below (s₁.setTop (entryFrame m #[(.int p1), (.int p2), (.int p3), (.int p4)] maxLocals)) t := by
    intro t kt
    refine G18 t ?_
    show Steps p.tables e below (T18.setTop (mkF m 74 #[.val (.int p1), .val (.int p2), .val (.int p3), .val (.int p4), .val (.ref b2), .unset, .unset, .unset, .unset, .unset, .unset, .unset, .unset, .unset, .unset, .unset, .unset, .unset] [])) _
    refine XS.iloadN XH19.here hx rfl (hb hby at_74) rfl ?_
    show Steps p.tables e below (T18.setTop (mkF m 75 #[.val (.int p1), .val (.int p2), .val (.int p3), .val (.int p4), .val (.ref b2), .unset, .unset, .unset, .unset, .unset, .unset, .unset, .unset, .unset, .unset, .unset, .unset, .unset] [(.int p3)])) _
    refine XS.bipush XH19.here hx rfl (hb hby at_75) ?_
    show Steps p.tables e below (T18.setTop (mkF m 77 #[.val (.int p1), .val (.int p2), .val (.int p3), .val (.int p4), .val (.ref b2), .unset, .unset, .unset, .unset, .unset, .unset, .unset, .unset, .unset, .unset, .unset, .unset, .unset] [(.int (7 : Int32)), (.int p3)])) _
    refine XS.iand XH19.here hx rfl (hb hby at_77) rfl ?_
    show Steps p.tables e below (T18.setTop (mkF m 78 #[.val (.int p1), .val (.int p2), .val (.int p3), .val (.int p4), .val (.ref b2), .unset, .unset, .unset, .unset, .unset, .unset, .unset, .unset, .unset, .unset, .unset, .unset, .unset] [(.int (p3 &&& (7 : Int32)))])) _
    refine XS.istore XH19.here hx rfl (hb hby at_78) rfl (l' := #[.val (.int p1), .val (.int p2), .val (.int p3), .val (.int p4), .val (.ref b2), .val (.int (p3 &&& (7 : Int32))), .unset, .unset, .unset, .unset, .unset, .unset, .unset, .unset, .unset, .unset, .unset, .unset]) rfl ?_
    show Steps p.tables e below (T18.setTop (mkF m 80 #[.val (.int p1), .val (.int p2), .val (.int p3), .val (.int p4), .val (.ref b2), .val (.int (p3 &&& (7 : Int32))), .unset, .unset, .unset, .unset, .unset, .unset, .unset, .unset, .unset, .unset, .unset, .unset] [])) _
    exact kt
  obtain ⟨St, hSt⟩ : ∃ z : Int32, z = (p3 &&& (7 : Int32)) := ⟨_, rfl⟩
  have G21 : ∀ t, Steps p.tables e below (T18.setTop (mkF m 80 #[.val (.int p1), .val (.int p2), .val (.int p3), .val (.int p4), .val (.ref b2), .val (.int St), .unset, .unset, .unset, .unset, .unset, .unset, .unset, .unset, .unset, .unset, .unset, .unset] [])) t → Steps p.tables e below (s₁.setTop (entryFrame m #[(.int p1), (.int p2), (.int p3), (.int p4)] maxLocals)) t := by
    intro t kt
    refine G20 t ?_
    subst hSt
    exact kt
  obtain ⟨s', hs', hSs⟩ : ∃ n : Nat, n < 8 ∧ St.toInt = n := by rw [hSt]; exact own_m7 _
  have G22 : ∀ t, Steps p.tables e below (T18.setTop (mkF m 94 #[.val (.int p1), .val (.int p2), .val (.int p3), .val (.int p4), .val (.ref b2), .val (.int St), .val (.int ((((p3.toUInt32 >>> ((3 : Int32) &&& 31).toUInt32).toInt32) &&& (65535 : Int32)) - ((((p3.toUInt32 >>> ((3 : Int32) &&& 31).toUInt32).toInt32) &&& (65535 : Int32)) / ((9 : Int32) - St)) * ((9 : Int32) - St))), .unset, .unset, .unset, .unset, .unset, .unset, .unset, .unset, .unset, .unset, .unset] [])) t → Steps p.tables e below (s₁.setTop (entryFrame m #[(.int p1), (.int p2), (.int p3), (.int p4)] maxLocals)) t := by
    intro t kt
    refine G21 t ?_
    show Steps p.tables e below (T18.setTop (mkF m 80 #[.val (.int p1), .val (.int p2), .val (.int p3), .val (.int p4), .val (.ref b2), .val (.int St), .unset, .unset, .unset, .unset, .unset, .unset, .unset, .unset, .unset, .unset, .unset, .unset] [])) _
    refine XS.iloadN XH19.here hx rfl (hb hby at_80) rfl ?_
    show Steps p.tables e below (T18.setTop (mkF m 81 #[.val (.int p1), .val (.int p2), .val (.int p3), .val (.int p4), .val (.ref b2), .val (.int St), .unset, .unset, .unset, .unset, .unset, .unset, .unset, .unset, .unset, .unset, .unset, .unset] [(.int p3)])) _
    refine XS.iconst XH19.here hx rfl (hb hby at_81) ?_
    show Steps p.tables e below (T18.setTop (mkF m 82 #[.val (.int p1), .val (.int p2), .val (.int p3), .val (.int p4), .val (.ref b2), .val (.int St), .unset, .unset, .unset, .unset, .unset, .unset, .unset, .unset, .unset, .unset, .unset, .unset] [(.int (3 : Int32)), (.int p3)])) _
    refine XS.iushr XH19.here hx rfl (hb hby at_82) rfl ?_
    show Steps p.tables e below (T18.setTop (mkF m 83 #[.val (.int p1), .val (.int p2), .val (.int p3), .val (.int p4), .val (.ref b2), .val (.int St), .unset, .unset, .unset, .unset, .unset, .unset, .unset, .unset, .unset, .unset, .unset, .unset] [(.int ((p3.toUInt32 >>> ((3 : Int32) &&& 31).toUInt32).toInt32))])) _
    refine XH19.ldcInt hx hown (mvT hZ (hw _ (List.mem_of_getElem? (i := 1) rfl))) (g := (mkF m 83 #[.val (.int p1), .val (.int p2), .val (.int p3), .val (.int p4), .val (.ref b2), .val (.int St), .unset, .unset, .unset, .unset, .unset, .unset, .unset, .unset, .unset, .unset, .unset, .unset] [(.int ((p3.toUInt32 >>> ((3 : Int32) &&& 31).toUInt32).toInt32))])) rfl (hb hby at_83) _ ?_
    show Steps p.tables e below (T18.setTop (mkF m 85 #[.val (.int p1), .val (.int p2), .val (.int p3), .val (.int p4), .val (.ref b2), .val (.int St), .unset, .unset, .unset, .unset, .unset, .unset, .unset, .unset, .unset, .unset, .unset, .unset] [(.int (65535 : Int32)), (.int ((p3.toUInt32 >>> ((3 : Int32) &&& 31).toUInt32).toInt32))])) _
    refine XS.iand XH19.here hx rfl (hb hby at_85) rfl ?_
    show Steps p.tables e below (T18.setTop (mkF m 86 #[.val (.int p1), .val (.int p2), .val (.int p3), .val (.int p4), .val (.ref b2), .val (.int St), .unset, .unset, .unset, .unset, .unset, .unset, .unset, .unset, .unset, .unset, .unset, .unset] [(.int (((p3.toUInt32 >>> ((3 : Int32) &&& 31).toUInt32).toInt32) &&& (65535 : Int32)))])) _
    refine XS.bipush XH19.here hx rfl (hb hby at_86) ?_
    show Steps p.tables e below (T18.setTop (mkF m 88 #[.val (.int p1), .val (.int p2), .val (.int p3), .val (.int p4), .val (.ref b2), .val (.int St), .unset, .unset, .unset, .unset, .unset, .unset, .unset, .unset, .unset, .unset, .unset, .unset] [(.int (9 : Int32)), (.int (((p3.toUInt32 >>> ((3 : Int32) &&& 31).toUInt32).toInt32) &&& (65535 : Int32)))])) _
    refine XS.iload XH19.here hx rfl (hb hby at_88) rfl ?_
    show Steps p.tables e below (T18.setTop (mkF m 90 #[.val (.int p1), .val (.int p2), .val (.int p3), .val (.int p4), .val (.ref b2), .val (.int St), .unset, .unset, .unset, .unset, .unset, .unset, .unset, .unset, .unset, .unset, .unset, .unset] [(.int St), (.int (9 : Int32)), (.int (((p3.toUInt32 >>> ((3 : Int32) &&& 31).toUInt32).toInt32) &&& (65535 : Int32)))])) _
    refine XS.isub XH19.here hx rfl (hb hby at_90) rfl ?_
    show Steps p.tables e below (T18.setTop (mkF m 91 #[.val (.int p1), .val (.int p2), .val (.int p3), .val (.int p4), .val (.ref b2), .val (.int St), .unset, .unset, .unset, .unset, .unset, .unset, .unset, .unset, .unset, .unset, .unset, .unset] [(.int ((9 : Int32) - St)), (.int (((p3.toUInt32 >>> ((3 : Int32) &&& 31).toUInt32).toInt32) &&& (65535 : Int32)))])) _
    refine XS.irem XH19.here hx rfl (hb hby at_91) rfl (own_nz9 hSs hs') ?_
    show Steps p.tables e below (T18.setTop (mkF m 92 #[.val (.int p1), .val (.int p2), .val (.int p3), .val (.int p4), .val (.ref b2), .val (.int St), .unset, .unset, .unset, .unset, .unset, .unset, .unset, .unset, .unset, .unset, .unset, .unset] [(.int ((((p3.toUInt32 >>> ((3 : Int32) &&& 31).toUInt32).toInt32) &&& (65535 : Int32)) - ((((p3.toUInt32 >>> ((3 : Int32) &&& 31).toUInt32).toInt32) &&& (65535 : Int32)) / ((9 : Int32) - St)) * ((9 : Int32) - St)))])) _
    refine XS.istore XH19.here hx rfl (hb hby at_92) rfl (l' := #[.val (.int p1), .val (.int p2), .val (.int p3), .val (.int p4), .val (.ref b2), .val (.int St), .val (.int ((((p3.toUInt32 >>> ((3 : Int32) &&& 31).toUInt32).toInt32) &&& (65535 : Int32)) - ((((p3.toUInt32 >>> ((3 : Int32) &&& 31).toUInt32).toInt32) &&& (65535 : Int32)) / ((9 : Int32) - St)) * ((9 : Int32) - St))), .unset, .unset, .unset, .unset, .unset, .unset, .unset, .unset, .unset, .unset, .unset]) rfl ?_
    show Steps p.tables e below (T18.setTop (mkF m 94 #[.val (.int p1), .val (.int p2), .val (.int p3), .val (.int p4), .val (.ref b2), .val (.int St), .val (.int ((((p3.toUInt32 >>> ((3 : Int32) &&& 31).toUInt32).toInt32) &&& (65535 : Int32)) - ((((p3.toUInt32 >>> ((3 : Int32) &&& 31).toUInt32).toInt32) &&& (65535 : Int32)) / ((9 : Int32) - St)) * ((9 : Int32) - St))), .unset, .unset, .unset, .unset, .unset, .unset, .unset, .unset, .unset, .unset, .unset] [])) _
    exact kt
  obtain ⟨Ln, hLn⟩ : ∃ z : Int32, z = ((((p3.toUInt32 >>> ((3 : Int32) &&& 31).toUInt32).toInt32) &&& (65535 : Int32)) - ((((p3.toUInt32 >>> ((3 : Int32) &&& 31).toUInt32).toInt32) &&& (65535 : Int32)) / ((9 : Int32) - St)) * ((9 : Int32) - St)) := ⟨_, rfl⟩
  have G23 : ∀ t, Steps p.tables e below (T18.setTop (mkF m 94 #[.val (.int p1), .val (.int p2), .val (.int p3), .val (.int p4), .val (.ref b2), .val (.int St), .val (.int Ln), .unset, .unset, .unset, .unset, .unset, .unset, .unset, .unset, .unset, .unset, .unset] [])) t → Steps p.tables e below (s₁.setTop (entryFrame m #[(.int p1), (.int p2), (.int p3), (.int p4)] maxLocals)) t := by
    intro t kt
    refine G22 t ?_
    subst hLn
    exact kt
  obtain ⟨m', hm', hLm⟩ := own_ln _ hSs hs' hLn
  have G24 : ∀ t, Steps p.tables e below (T18.setTop (mkF m 101 #[.val (.int p1), .val (.int p2), .val (.int p3), .val (.int p4), .val (.ref b2), .val (.int St), .val (.int Ln), .val (.int (St + Ln)), .unset, .unset, .unset, .unset, .unset, .unset, .unset, .unset, .unset, .unset] [])) t → Steps p.tables e below (s₁.setTop (entryFrame m #[(.int p1), (.int p2), (.int p3), (.int p4)] maxLocals)) t := by
    intro t kt
    refine G23 t ?_
    show Steps p.tables e below (T18.setTop (mkF m 94 #[.val (.int p1), .val (.int p2), .val (.int p3), .val (.int p4), .val (.ref b2), .val (.int St), .val (.int Ln), .unset, .unset, .unset, .unset, .unset, .unset, .unset, .unset, .unset, .unset, .unset] [])) _
    refine XS.iload XH19.here hx rfl (hb hby at_94) rfl ?_
    show Steps p.tables e below (T18.setTop (mkF m 96 #[.val (.int p1), .val (.int p2), .val (.int p3), .val (.int p4), .val (.ref b2), .val (.int St), .val (.int Ln), .unset, .unset, .unset, .unset, .unset, .unset, .unset, .unset, .unset, .unset, .unset] [(.int St)])) _
    refine XS.iload XH19.here hx rfl (hb hby at_96) rfl ?_
    show Steps p.tables e below (T18.setTop (mkF m 98 #[.val (.int p1), .val (.int p2), .val (.int p3), .val (.int p4), .val (.ref b2), .val (.int St), .val (.int Ln), .unset, .unset, .unset, .unset, .unset, .unset, .unset, .unset, .unset, .unset, .unset] [(.int Ln), (.int St)])) _
    refine XS.iadd XH19.here hx rfl (hb hby at_98) rfl ?_
    show Steps p.tables e below (T18.setTop (mkF m 99 #[.val (.int p1), .val (.int p2), .val (.int p3), .val (.int p4), .val (.ref b2), .val (.int St), .val (.int Ln), .unset, .unset, .unset, .unset, .unset, .unset, .unset, .unset, .unset, .unset, .unset] [(.int (St + Ln))])) _
    refine XS.istore XH19.here hx rfl (hb hby at_99) rfl (l' := #[.val (.int p1), .val (.int p2), .val (.int p3), .val (.int p4), .val (.ref b2), .val (.int St), .val (.int Ln), .val (.int (St + Ln)), .unset, .unset, .unset, .unset, .unset, .unset, .unset, .unset, .unset, .unset]) rfl ?_
    show Steps p.tables e below (T18.setTop (mkF m 101 #[.val (.int p1), .val (.int p2), .val (.int p3), .val (.int p4), .val (.ref b2), .val (.int St), .val (.int Ln), .val (.int (St + Ln)), .unset, .unset, .unset, .unset, .unset, .unset, .unset, .unset, .unset, .unset] [])) _
    exact kt
  obtain ⟨En, hEn⟩ : ∃ z : Int32, z = (St + Ln) := ⟨_, rfl⟩
  have G25 : ∀ t, Steps p.tables e below (T18.setTop (mkF m 101 #[.val (.int p1), .val (.int p2), .val (.int p3), .val (.int p4), .val (.ref b2), .val (.int St), .val (.int Ln), .val (.int En), .unset, .unset, .unset, .unset, .unset, .unset, .unset, .unset, .unset, .unset] [])) t → Steps p.tables e below (s₁.setTop (entryFrame m #[(.int p1), (.int p2), (.int p3), (.int p4)] maxLocals)) t := by
    intro t kt
    refine G24 t ?_
    subst hEn
    exact kt
  have hEs : En.toInt = (s' + m' : Nat) := by rw [hEn]; exact own_add hSs hLm (by omega)
  have hlen : (En - St).toInt = m' := own_sub hEs hSs (by omega)
  have G26 : ∀ t, Steps p.tables e below (T18.setTop (mkF m 107 #[.val (.int p1), .val (.int p2), .val (.int p3), .val (.int p4), .val (.ref b2), .val (.int St), .val (.int Ln), .val (.int En), .unset, .unset, .unset, .unset, .unset, .unset, .unset, .unset, .unset, .unset] [(.int En), (.int St), (.ref b2)])) t → Steps p.tables e below (s₁.setTop (entryFrame m #[(.int p1), (.int p2), (.int p3), (.int p4)] maxLocals)) t := by
    intro t kt
    refine G25 t ?_
    show Steps p.tables e below (T18.setTop (mkF m 101 #[.val (.int p1), .val (.int p2), .val (.int p3), .val (.int p4), .val (.ref b2), .val (.int St), .val (.int Ln), .val (.int En), .unset, .unset, .unset, .unset, .unset, .unset, .unset, .unset, .unset, .unset] [])) _
    refine XS.aload XH19.here hx rfl (hb hby at_101) rfl rfl ?_
    show Steps p.tables e below (T18.setTop (mkF m 103 #[.val (.int p1), .val (.int p2), .val (.int p3), .val (.int p4), .val (.ref b2), .val (.int St), .val (.int Ln), .val (.int En), .unset, .unset, .unset, .unset, .unset, .unset, .unset, .unset, .unset, .unset] [(.ref b2)])) _
    refine XS.iload XH19.here hx rfl (hb hby at_103) rfl ?_
    show Steps p.tables e below (T18.setTop (mkF m 105 #[.val (.int p1), .val (.int p2), .val (.int p3), .val (.int p4), .val (.ref b2), .val (.int St), .val (.int Ln), .val (.int En), .unset, .unset, .unset, .unset, .unset, .unset, .unset, .unset, .unset, .unset] [(.int St), (.ref b2)])) _
    refine XS.iload XH19.here hx rfl (hb hby at_105) rfl ?_
    show Steps p.tables e below (T18.setTop (mkF m 107 #[.val (.int p1), .val (.int p2), .val (.int p3), .val (.int p4), .val (.ref b2), .val (.int St), .val (.int Ln), .val (.int En), .unset, .unset, .unset, .unset, .unset, .unset, .unset, .unset, .unset, .unset] [(.int En), (.int St), (.ref b2)])) _
    exact kt
  obtain ⟨clA, ArA, qA, SA, MA, HA, UA⟩ := id VA
  by_cases hz : m' = 0
  · obtain ⟨_, _, ⟨T27, L27, k27, n27⟩, -, X27, ⟨Lc27, hQ27, l27, y27, z27⟩, st27⟩ := Jvm.LawKit.callS XH19 hx (y := (⟨"com/example/evenkeel/evenkeel/http/HeaderName", "hash", "([BII)I"⟩ : MethodName)) hown (mvT hZ (hw _ (List.mem_of_getElem? (i := 2) rfl))) (mvT hZ (hw _ (List.mem_of_getElem? (i := 3) rfl))) (mvT hZ (hw _ (List.mem_of_getElem? (i := 4) rfl))) (mvT hZ (hw _ (List.mem_of_getElem? (i := 5) rfl))) (by decide) (backOf (W := 0) (rm1a l Z a0 hw [] b2 St En  h18 n0 Z18 ((own_zero hlen).mpr hz)) hZ (hw _ (List.mem_of_getElem? (i := 5) rfl)) (hw _ (List.mem_of_getElem? (i := 4) rfl)) (by decide) (by decide)) (g := (mkF m 107 #[.val (.int p1), .val (.int p2), .val (.int p3), .val (.int p4), .val (.ref b2), .val (.int St), .val (.int Ln), .val (.int En), .unset, .unset, .unset, .unset, .unset, .unset, .unset, .unset, .unset, .unset] [(.int En), (.int St), (.ref b2)])) rfl (by rw [hml]; rfl) (argsL := [(.ref b2), (.int St), (.int En)]) (rest := []) (lenOf pd_0 rfl) rfl (by show 2 * 0 + _ ≤ _; exact Nat.le_of_eq rfl) (hb hby at_107) (fun _ _ => ⟨rfl, e18, (by decide : 1 + 0 ≤ _), (by decide : 8 + 0 ≤ _)⟩)
    dsimp only [Pt.U, Pt.locs, Pt.cells, Pt.slots] at X27 l27 y27 z27 st27 hQ27
    subst l27 y27 z27
    obtain ⟨rfl, N27q, e27⟩ := hQ27
    have N27 := Fr.app NH19 N27q
    have G27 : ∀ t, Steps p.tables e below (T27.setTop (mkF m 110 #[.val (.int p1), .val (.int p2), .val (.int p3), .val (.int p4), .val (.ref b2), .val (.int St), .val (.int Ln), .val (.int En), .unset, .unset, .unset, .unset, .unset, .unset, .unset, .unset, .unset, .unset] [(.int (0 : Int32))])) t → Steps p.tables e below (s₁.setTop (entryFrame m #[(.int p1), (.int p2), (.int p3), (.int p4)] maxLocals)) t := fun t kt => G26 t (st27 t kt)
    have G28 : ∀ t, Steps p.tables e below (T27.setTop (mkF m 213 #[.val (.int p1), .val (.int p2), .val (.int p3), .val (.int p4), .val (.ref b2), .val (.int St), .val (.int Ln), .val (.int En), .val (.int (0 : Int32)), .val (.int (1 : Int32)), .unset, .unset, .unset, .unset, .unset, .unset, .unset, .unset] [])) t → Steps p.tables e below (s₁.setTop (entryFrame m #[(.int p1), (.int p2), (.int p3), (.int p4)] maxLocals)) t := by
      intro t kt
      refine G27 t ?_
      show Steps p.tables e below (T27.setTop (mkF m 110 #[.val (.int p1), .val (.int p2), .val (.int p3), .val (.int p4), .val (.ref b2), .val (.int St), .val (.int Ln), .val (.int En), .unset, .unset, .unset, .unset, .unset, .unset, .unset, .unset, .unset, .unset] [(.int (0 : Int32))])) _
      refine XS.istore X27.here hx rfl (hb hby at_110) rfl (l' := #[.val (.int p1), .val (.int p2), .val (.int p3), .val (.int p4), .val (.ref b2), .val (.int St), .val (.int Ln), .val (.int En), .val (.int (0 : Int32)), .unset, .unset, .unset, .unset, .unset, .unset, .unset, .unset, .unset]) rfl ?_
      show Steps p.tables e below (T27.setTop (mkF m 112 #[.val (.int p1), .val (.int p2), .val (.int p3), .val (.int p4), .val (.ref b2), .val (.int St), .val (.int Ln), .val (.int En), .val (.int (0 : Int32)), .unset, .unset, .unset, .unset, .unset, .unset, .unset, .unset, .unset] [])) _
      refine XS.iload X27.here hx rfl (hb hby at_112) rfl ?_
      show Steps p.tables e below (T27.setTop (mkF m 114 #[.val (.int p1), .val (.int p2), .val (.int p3), .val (.int p4), .val (.ref b2), .val (.int St), .val (.int Ln), .val (.int En), .val (.int (0 : Int32)), .unset, .unset, .unset, .unset, .unset, .unset, .unset, .unset, .unset] [(.int Ln)])) _
      refine XS.ifNo X27.here hx rfl (hb hby at_114) rfl ((if0 _ _).trans (teq ((own_zero hLm).mpr hz)).2) ?_
      show Steps p.tables e below (T27.setTop (mkF m 117 #[.val (.int p1), .val (.int p2), .val (.int p3), .val (.int p4), .val (.ref b2), .val (.int St), .val (.int Ln), .val (.int En), .val (.int (0 : Int32)), .unset, .unset, .unset, .unset, .unset, .unset, .unset, .unset, .unset] [])) _
      refine XS.iload X27.here hx rfl (hb hby at_117) rfl ?_
      show Steps p.tables e below (T27.setTop (mkF m 119 #[.val (.int p1), .val (.int p2), .val (.int p3), .val (.int p4), .val (.ref b2), .val (.int St), .val (.int Ln), .val (.int En), .val (.int (0 : Int32)), .unset, .unset, .unset, .unset, .unset, .unset, .unset, .unset, .unset] [(.int (0 : Int32))])) _
      refine XS.ifNo X27.here hx rfl (hb hby at_119) rfl ((if0 _ _).trans (teq (by decide : (0 : Int32) = (0 : Int32))).2) ?_
      show Steps p.tables e below (T27.setTop (mkF m 122 #[.val (.int p1), .val (.int p2), .val (.int p3), .val (.int p4), .val (.ref b2), .val (.int St), .val (.int Ln), .val (.int En), .val (.int (0 : Int32)), .unset, .unset, .unset, .unset, .unset, .unset, .unset, .unset, .unset] [])) _
      refine XS.iconst X27.here hx rfl (hb hby at_122) ?_
      show Steps p.tables e below (T27.setTop (mkF m 123 #[.val (.int p1), .val (.int p2), .val (.int p3), .val (.int p4), .val (.ref b2), .val (.int St), .val (.int Ln), .val (.int En), .val (.int (0 : Int32)), .unset, .unset, .unset, .unset, .unset, .unset, .unset, .unset, .unset] [(.int (1 : Int32))])) _
      refine XS.goto X27.here hx rfl (pc0 := 123) (pc' := 127) rfl (hb hby at_123) (by decide) (by decide) ?_
      show Steps p.tables e below (T27.setTop (mkF m 127 #[.val (.int p1), .val (.int p2), .val (.int p3), .val (.int p4), .val (.ref b2), .val (.int St), .val (.int Ln), .val (.int En), .val (.int (0 : Int32)), .unset, .unset, .unset, .unset, .unset, .unset, .unset, .unset, .unset] [(.int (1 : Int32))])) _
      refine XS.istore X27.here hx rfl (hb hby at_127) rfl (l' := #[.val (.int p1), .val (.int p2), .val (.int p3), .val (.int p4), .val (.ref b2), .val (.int St), .val (.int Ln), .val (.int En), .val (.int (0 : Int32)), .val (.int (1 : Int32)), .unset, .unset, .unset, .unset, .unset, .unset, .unset, .unset]) rfl ?_
      show Steps p.tables e below (T27.setTop (mkF m 129 #[.val (.int p1), .val (.int p2), .val (.int p3), .val (.int p4), .val (.ref b2), .val (.int St), .val (.int Ln), .val (.int En), .val (.int (0 : Int32)), .val (.int (1 : Int32)), .unset, .unset, .unset, .unset, .unset, .unset, .unset, .unset] [])) _
      refine XS.goto X27.here hx rfl (pc0 := 129) (pc' := 213) rfl (hb hby at_129) (by decide) (by decide) ?_
      show Steps p.tables e below (T27.setTop (mkF m 213 #[.val (.int p1), .val (.int p2), .val (.int p3), .val (.int p4), .val (.ref b2), .val (.int St), .val (.int Ln), .val (.int En), .val (.int (0 : Int32)), .val (.int (1 : Int32)), .unset, .unset, .unset, .unset, .unset, .unset, .unset, .unset] [])) _
      exact kt
    have G29 : ∀ t, Steps p.tables e below (T27.setTop (mkF m 219 #[.val (.int p1), .val (.int p2), .val (.int p3), .val (.int p4), .val (.ref b2), .val (.int St), .val (.int Ln), .val (.int En), .val (.int (0 : Int32)), .val (.int (1 : Int32)), .val (.int (p4 &&& (7 : Int32))), .unset, .unset, .unset, .unset, .unset, .unset, .unset] [])) t → Steps p.tables e below (s₁.setTop (entryFrame m #[(.int p1), (.int p2), (.int p3), (.int p4)] maxLocals)) t := by
      intro t kt
      refine G28 t ?_
      show Steps p.tables e below (T27.setTop (mkF m 213 #[.val (.int p1), .val (.int p2), .val (.int p3), .val (.int p4), .val (.ref b2), .val (.int St), .val (.int Ln), .val (.int En), .val (.int (0 : Int32)), .val (.int (1 : Int32)), .unset, .unset, .unset, .unset, .unset, .unset, .unset, .unset] [])) _
      refine XS.iloadN X27.here hx rfl (hb hby at_213) rfl ?_
      show Steps p.tables e below (T27.setTop (mkF m 214 #[.val (.int p1), .val (.int p2), .val (.int p3), .val (.int p4), .val (.ref b2), .val (.int St), .val (.int Ln), .val (.int En), .val (.int (0 : Int32)), .val (.int (1 : Int32)), .unset, .unset, .unset, .unset, .unset, .unset, .unset, .unset] [(.int p4)])) _
      refine XS.bipush X27.here hx rfl (hb hby at_214) ?_
      show Steps p.tables e below (T27.setTop (mkF m 216 #[.val (.int p1), .val (.int p2), .val (.int p3), .val (.int p4), .val (.ref b2), .val (.int St), .val (.int Ln), .val (.int En), .val (.int (0 : Int32)), .val (.int (1 : Int32)), .unset, .unset, .unset, .unset, .unset, .unset, .unset, .unset] [(.int (7 : Int32)), (.int p4)])) _
      refine XS.iand X27.here hx rfl (hb hby at_216) rfl ?_
      show Steps p.tables e below (T27.setTop (mkF m 217 #[.val (.int p1), .val (.int p2), .val (.int p3), .val (.int p4), .val (.ref b2), .val (.int St), .val (.int Ln), .val (.int En), .val (.int (0 : Int32)), .val (.int (1 : Int32)), .unset, .unset, .unset, .unset, .unset, .unset, .unset, .unset] [(.int (p4 &&& (7 : Int32)))])) _
      refine XS.istore X27.here hx rfl (hb hby at_217) rfl (l' := #[.val (.int p1), .val (.int p2), .val (.int p3), .val (.int p4), .val (.ref b2), .val (.int St), .val (.int Ln), .val (.int En), .val (.int (0 : Int32)), .val (.int (1 : Int32)), .val (.int (p4 &&& (7 : Int32))), .unset, .unset, .unset, .unset, .unset, .unset, .unset]) rfl ?_
      show Steps p.tables e below (T27.setTop (mkF m 219 #[.val (.int p1), .val (.int p2), .val (.int p3), .val (.int p4), .val (.ref b2), .val (.int St), .val (.int Ln), .val (.int En), .val (.int (0 : Int32)), .val (.int (1 : Int32)), .val (.int (p4 &&& (7 : Int32))), .unset, .unset, .unset, .unset, .unset, .unset, .unset] [])) _
      exact kt
    obtain ⟨Kk, hKk⟩ : ∃ z : Int32, z = (p4 &&& (7 : Int32)) := ⟨_, rfl⟩
    have G30 : ∀ t, Steps p.tables e below (T27.setTop (mkF m 219 #[.val (.int p1), .val (.int p2), .val (.int p3), .val (.int p4), .val (.ref b2), .val (.int St), .val (.int Ln), .val (.int En), .val (.int (0 : Int32)), .val (.int (1 : Int32)), .val (.int Kk), .unset, .unset, .unset, .unset, .unset, .unset, .unset] [])) t → Steps p.tables e below (s₁.setTop (entryFrame m #[(.int p1), (.int p2), (.int p3), (.int p4)] maxLocals)) t := by
      intro t kt
      refine G29 t ?_
      subst hKk
      exact kt
    obtain ⟨k, hk, hKs⟩ : ∃ n : Nat, n < 8 ∧ Kk.toInt = n := by rw [hKk]; exact own_m7 _
    have G31 : ∀ t, Steps p.tables e below (T27.setTop (mkF m 226 #[.val (.int p1), .val (.int p2), .val (.int p3), .val (.int p4), .val (.ref b2), .val (.int St), .val (.int Ln), .val (.int En), .val (.int (0 : Int32)), .val (.int (1 : Int32)), .val (.int Kk), .val (.int (((p4.toUInt32 >>> ((8 : Int32) &&& 31).toUInt32).toInt32).toInt8.toInt32)), .unset, .unset, .unset, .unset, .unset, .unset] [])) t → Steps p.tables e below (s₁.setTop (entryFrame m #[(.int p1), (.int p2), (.int p3), (.int p4)] maxLocals)) t := by
      intro t kt
      refine G30 t ?_
      show Steps p.tables e below (T27.setTop (mkF m 219 #[.val (.int p1), .val (.int p2), .val (.int p3), .val (.int p4), .val (.ref b2), .val (.int St), .val (.int Ln), .val (.int En), .val (.int (0 : Int32)), .val (.int (1 : Int32)), .val (.int Kk), .unset, .unset, .unset, .unset, .unset, .unset, .unset] [])) _
      refine XS.iloadN X27.here hx rfl (hb hby at_219) rfl ?_
      show Steps p.tables e below (T27.setTop (mkF m 220 #[.val (.int p1), .val (.int p2), .val (.int p3), .val (.int p4), .val (.ref b2), .val (.int St), .val (.int Ln), .val (.int En), .val (.int (0 : Int32)), .val (.int (1 : Int32)), .val (.int Kk), .unset, .unset, .unset, .unset, .unset, .unset, .unset] [(.int p4)])) _
      refine XS.bipush X27.here hx rfl (hb hby at_220) ?_
      show Steps p.tables e below (T27.setTop (mkF m 222 #[.val (.int p1), .val (.int p2), .val (.int p3), .val (.int p4), .val (.ref b2), .val (.int St), .val (.int Ln), .val (.int En), .val (.int (0 : Int32)), .val (.int (1 : Int32)), .val (.int Kk), .unset, .unset, .unset, .unset, .unset, .unset, .unset] [(.int (8 : Int32)), (.int p4)])) _
      refine XS.iushr X27.here hx rfl (hb hby at_222) rfl ?_
      show Steps p.tables e below (T27.setTop (mkF m 223 #[.val (.int p1), .val (.int p2), .val (.int p3), .val (.int p4), .val (.ref b2), .val (.int St), .val (.int Ln), .val (.int En), .val (.int (0 : Int32)), .val (.int (1 : Int32)), .val (.int Kk), .unset, .unset, .unset, .unset, .unset, .unset, .unset] [(.int ((p4.toUInt32 >>> ((8 : Int32) &&& 31).toUInt32).toInt32))])) _
      refine XS.i2b X27.here hx rfl (hb hby at_223) rfl ?_
      show Steps p.tables e below (T27.setTop (mkF m 224 #[.val (.int p1), .val (.int p2), .val (.int p3), .val (.int p4), .val (.ref b2), .val (.int St), .val (.int Ln), .val (.int En), .val (.int (0 : Int32)), .val (.int (1 : Int32)), .val (.int Kk), .unset, .unset, .unset, .unset, .unset, .unset, .unset] [(.int (((p4.toUInt32 >>> ((8 : Int32) &&& 31).toUInt32).toInt32).toInt8.toInt32))])) _
      refine XS.istore X27.here hx rfl (hb hby at_224) rfl (l' := #[.val (.int p1), .val (.int p2), .val (.int p3), .val (.int p4), .val (.ref b2), .val (.int St), .val (.int Ln), .val (.int En), .val (.int (0 : Int32)), .val (.int (1 : Int32)), .val (.int Kk), .val (.int (((p4.toUInt32 >>> ((8 : Int32) &&& 31).toUInt32).toInt32).toInt8.toInt32)), .unset, .unset, .unset, .unset, .unset, .unset]) rfl ?_
      show Steps p.tables e below (T27.setTop (mkF m 226 #[.val (.int p1), .val (.int p2), .val (.int p3), .val (.int p4), .val (.ref b2), .val (.int St), .val (.int Ln), .val (.int En), .val (.int (0 : Int32)), .val (.int (1 : Int32)), .val (.int Kk), .val (.int (((p4.toUInt32 >>> ((8 : Int32) &&& 31).toUInt32).toInt32).toInt8.toInt32)), .unset, .unset, .unset, .unset, .unset, .unset] [])) _
      exact kt
    obtain ⟨J, hJ⟩ : ∃ z : Int32, z = (((p4.toUInt32 >>> ((8 : Int32) &&& 31).toUInt32).toInt32).toInt8.toInt32) := ⟨_, rfl⟩
    have G32 : ∀ t, Steps p.tables e below (T27.setTop (mkF m 226 #[.val (.int p1), .val (.int p2), .val (.int p3), .val (.int p4), .val (.ref b2), .val (.int St), .val (.int Ln), .val (.int En), .val (.int (0 : Int32)), .val (.int (1 : Int32)), .val (.int Kk), .val (.int J), .unset, .unset, .unset, .unset, .unset, .unset] [])) t → Steps p.tables e below (s₁.setTop (entryFrame m #[(.int p1), (.int p2), (.int p3), (.int p4)] maxLocals)) t := by
      intro t kt
      refine G31 t ?_
      subst hJ
      exact kt
    have G33 : ∀ t, Steps p.tables e below (T27.setTop (mkF m 228 #[.val (.int p1), .val (.int p2), .val (.int p3), .val (.int p4), .val (.ref b2), .val (.int St), .val (.int Ln), .val (.int En), .val (.int (0 : Int32)), .val (.int (1 : Int32)), .val (.int Kk), .val (.int J), .unset, .unset, .unset, .unset, .unset, .unset] [(.int (16 : Int32))])) t → Steps p.tables e below (s₁.setTop (entryFrame m #[(.int p1), (.int p2), (.int p3), (.int p4)] maxLocals)) t := by
      intro t kt
      refine G32 t ?_
      show Steps p.tables e below (T27.setTop (mkF m 226 #[.val (.int p1), .val (.int p2), .val (.int p3), .val (.int p4), .val (.ref b2), .val (.int St), .val (.int Ln), .val (.int En), .val (.int (0 : Int32)), .val (.int (1 : Int32)), .val (.int Kk), .val (.int J), .unset, .unset, .unset, .unset, .unset, .unset] [])) _
      refine XS.bipush X27.here hx rfl (hb hby at_226) ?_
      show Steps p.tables e below (T27.setTop (mkF m 228 #[.val (.int p1), .val (.int p2), .val (.int p3), .val (.int p4), .val (.ref b2), .val (.int St), .val (.int Ln), .val (.int En), .val (.int (0 : Int32)), .val (.int (1 : Int32)), .val (.int Kk), .val (.int J), .unset, .unset, .unset, .unset, .unset, .unset] [(.int (16 : Int32))])) _
      exact kt
    obtain ⟨T34, h34, k34, X34, e34, E34, A34, st34⟩ := newP X27 hx hZ (hw _ (List.mem_of_getElem? (i := 0) rfl)) e27 (g := (mkF m 228 #[.val (.int p1), .val (.int p2), .val (.int p3), .val (.int p4), .val (.ref b2), .val (.int St), .val (.int Ln), .val (.int En), .val (.int (0 : Int32)), .val (.int (1 : Int32)), .val (.int Kk), .val (.int J), .unset, .unset, .unset, .unset, .unset, .unset] [(.int (16 : Int32))])) rfl (hb hby at_228) rfl (by decide) (cap := 16) (by decide) (by decide) (by decide) (by decide)
    obtain ⟨b34, g34⟩ : ∃ z, z = h18.size := ⟨_, rfl⟩
    rw [← g34] at A34 st34
    have g_b34 : n0 ≤ b34 := Nat.le_trans Z18 (Nat.le_of_eq g34.symm)
    have ne_b2_b34 : b2 ≠ b34 := Nat.ne_of_lt (Nat.lt_of_lt_of_le VA.lt (Nat.le_of_eq g34.symm))
    have VA_34 : Arv Z h34 b2 k2 .byte (8 : Int32) (own_l8 x0 x1 x2 x3 x4 x5 x6 x7) (.int (0 : Int32)) := VA.ext E34
    have Z34 : n0 ≤ h34.size := Nat.le_trans Z18 E34.1
    have V_b34 : Arv Z h34 b34 k34 .byte (16 : Int32) [(.int (0 : Int32)), (.int (0 : Int32)), (.int (0 : Int32)), (.int (0 : Int32)), (.int (0 : Int32)), (.int (0 : Int32)), (.int (0 : Int32)), (.int (0 : Int32)), (.int (0 : Int32)), (.int (0 : Int32)), (.int (0 : Int32)), (.int (0 : Int32)), (.int (0 : Int32)), (.int (0 : Int32)), (.int (0 : Int32)), (.int (0 : Int32))] (.int (0 : Int32)) := (Arv.new A34 (by decide)).pad (pad_rep [] (.int (0 : Int32)) 16)
    have G34 : ∀ t, Steps p.tables e below (T34.setTop (mkF m 230 #[.val (.int p1), .val (.int p2), .val (.int p3), .val (.int p4), .val (.ref b2), .val (.int St), .val (.int Ln), .val (.int En), .val (.int (0 : Int32)), .val (.int (1 : Int32)), .val (.int Kk), .val (.int J), .unset, .unset, .unset, .unset, .unset, .unset] [(.ref b34)])) t → Steps p.tables e below (s₁.setTop (entryFrame m #[(.int p1), (.int p2), (.int p3), (.int p4)] maxLocals)) t := fun t kt => G33 t (st34 t kt)
    have G35 : ∀ t, Steps p.tables e below (T34.setTop (mkF m 237 #[.val (.int p1), .val (.int p2), .val (.int p3), .val (.int p4), .val (.ref b2), .val (.int St), .val (.int Ln), .val (.int En), .val (.int (0 : Int32)), .val (.int (1 : Int32)), .val (.int Kk), .val (.int J), .val (.ref b34), .unset, .unset, .unset, .unset, .unset] [(.int J), (.int (0 : Int32)), (.ref b34)])) t → Steps p.tables e below (s₁.setTop (entryFrame m #[(.int p1), (.int p2), (.int p3), (.int p4)] maxLocals)) t := by
      intro t kt
      refine G34 t ?_
      show Steps p.tables e below (T34.setTop (mkF m 230 #[.val (.int p1), .val (.int p2), .val (.int p3), .val (.int p4), .val (.ref b2), .val (.int St), .val (.int Ln), .val (.int En), .val (.int (0 : Int32)), .val (.int (1 : Int32)), .val (.int Kk), .val (.int J), .unset, .unset, .unset, .unset, .unset, .unset] [(.ref b34)])) _
      refine XS.astore X34.here hx rfl (hb hby at_230) rfl rfl (l' := #[.val (.int p1), .val (.int p2), .val (.int p3), .val (.int p4), .val (.ref b2), .val (.int St), .val (.int Ln), .val (.int En), .val (.int (0 : Int32)), .val (.int (1 : Int32)), .val (.int Kk), .val (.int J), .val (.ref b34), .unset, .unset, .unset, .unset, .unset]) rfl ?_
      show Steps p.tables e below (T34.setTop (mkF m 232 #[.val (.int p1), .val (.int p2), .val (.int p3), .val (.int p4), .val (.ref b2), .val (.int St), .val (.int Ln), .val (.int En), .val (.int (0 : Int32)), .val (.int (1 : Int32)), .val (.int Kk), .val (.int J), .val (.ref b34), .unset, .unset, .unset, .unset, .unset] [])) _
      refine XS.aload X34.here hx rfl (hb hby at_232) rfl rfl ?_
      show Steps p.tables e below (T34.setTop (mkF m 234 #[.val (.int p1), .val (.int p2), .val (.int p3), .val (.int p4), .val (.ref b2), .val (.int St), .val (.int Ln), .val (.int En), .val (.int (0 : Int32)), .val (.int (1 : Int32)), .val (.int Kk), .val (.int J), .val (.ref b34), .unset, .unset, .unset, .unset, .unset] [(.ref b34)])) _
      refine XS.iconst X34.here hx rfl (hb hby at_234) ?_
      show Steps p.tables e below (T34.setTop (mkF m 235 #[.val (.int p1), .val (.int p2), .val (.int p3), .val (.int p4), .val (.ref b2), .val (.int St), .val (.int Ln), .val (.int En), .val (.int (0 : Int32)), .val (.int (1 : Int32)), .val (.int Kk), .val (.int J), .val (.ref b34), .unset, .unset, .unset, .unset, .unset] [(.int (0 : Int32)), (.ref b34)])) _
      refine XS.iload X34.here hx rfl (hb hby at_235) rfl ?_
      show Steps p.tables e below (T34.setTop (mkF m 237 #[.val (.int p1), .val (.int p2), .val (.int p3), .val (.int p4), .val (.ref b2), .val (.int St), .val (.int Ln), .val (.int En), .val (.int (0 : Int32)), .val (.int (1 : Int32)), .val (.int Kk), .val (.int J), .val (.ref b34), .unset, .unset, .unset, .unset, .unset] [(.int J), (.int (0 : Int32)), (.ref b34)])) _
      exact kt
    obtain ⟨cl_36, Ar_36, q_36, S_36, M_36, H_36, U_36⟩ := id V_b34
    obtain ⟨T36, h36, X36, e36, W36, st36⟩ := stB X34 hx hZ e34 Ar_36 (j := (0 : Int32)) (inb_of S_36 ⟨(by decide : ¬ ((0 : Int32) < (0 : Int32))), (by decide : (0 : Int32) < (16 : Int32))⟩) (g := (mkF m 237 #[.val (.int p1), .val (.int p2), .val (.int p3), .val (.int p4), .val (.ref b2), .val (.int St), .val (.int Ln), .val (.int En), .val (.int (0 : Int32)), .val (.int (1 : Int32)), .val (.int Kk), .val (.int J), .val (.ref b34), .unset, .unset, .unset, .unset, .unset] [(.int J), (.int (0 : Int32)), (.ref b34)])) rfl rfl (hb hby at_237)
    have V_b34_36 : Arv Z h36 b34 k34 .byte (16 : Int32) [(.int (nar .byte J)), (.int (0 : Int32)), (.int (0 : Int32)), (.int (0 : Int32)), (.int (0 : Int32)), (.int (0 : Int32)), (.int (0 : Int32)), (.int (0 : Int32)), (.int (0 : Int32)), (.int (0 : Int32)), (.int (0 : Int32)), (.int (0 : Int32)), (.int (0 : Int32)), (.int (0 : Int32)), (.int (0 : Int32)), (.int (0 : Int32))] (.int (0 : Int32)) := Arv.set Ar_36 q_36 S_36 M_36 H_36 U_36 (fits_nar_byte _) W36 0 rfl (Nat.le_of_ble_eq_true rfl)
    have VA_36 : Arv Z h36 b2 k2 .byte (8 : Int32) (own_l8 x0 x1 x2 x3 x4 x5 x6 x7) (.int (0 : Int32)) := VA_34.other W36 ne_b2_b34
    have Z36 : n0 ≤ h36.size := Nat.le_trans Z34 (Keep.of_wr W36).1
    have N36 := Fr.snoc X36 N27 g_b34
    have G36 : ∀ t, Steps p.tables e below (T36.setTop (mkF m 238 #[.val (.int p1), .val (.int p2), .val (.int p3), .val (.int p4), .val (.ref b2), .val (.int St), .val (.int Ln), .val (.int En), .val (.int (0 : Int32)), .val (.int (1 : Int32)), .val (.int Kk), .val (.int J), .val (.ref b34), .unset, .unset, .unset, .unset, .unset] [])) t → Steps p.tables e below (s₁.setTop (entryFrame m #[(.int p1), (.int p2), (.int p3), (.int p4)] maxLocals)) t := fun t kt => G35 t (st36 t kt)
    have G37 : ∀ t, Steps p.tables e below (T36.setTop (mkF m 243 #[.val (.int p1), .val (.int p2), .val (.int p3), .val (.int p4), .val (.ref b2), .val (.int St), .val (.int Ln), .val (.int En), .val (.int (0 : Int32)), .val (.int (1 : Int32)), .val (.int Kk), .val (.int J), .val (.ref b34), .unset, .unset, .unset, .unset, .unset] [(.int J), (.int (1 : Int32)), (.ref b34)])) t → Steps p.tables e below (s₁.setTop (entryFrame m #[(.int p1), (.int p2), (.int p3), (.int p4)] maxLocals)) t := by
      intro t kt
      refine G36 t ?_
      show Steps p.tables e below (T36.setTop (mkF m 238 #[.val (.int p1), .val (.int p2), .val (.int p3), .val (.int p4), .val (.ref b2), .val (.int St), .val (.int Ln), .val (.int En), .val (.int (0 : Int32)), .val (.int (1 : Int32)), .val (.int Kk), .val (.int J), .val (.ref b34), .unset, .unset, .unset, .unset, .unset] [])) _
      refine XS.aload X36.here hx rfl (hb hby at_238) rfl rfl ?_
      show Steps p.tables e below (T36.setTop (mkF m 240 #[.val (.int p1), .val (.int p2), .val (.int p3), .val (.int p4), .val (.ref b2), .val (.int St), .val (.int Ln), .val (.int En), .val (.int (0 : Int32)), .val (.int (1 : Int32)), .val (.int Kk), .val (.int J), .val (.ref b34), .unset, .unset, .unset, .unset, .unset] [(.ref b34)])) _
      refine XS.iconst X36.here hx rfl (hb hby at_240) ?_
      show Steps p.tables e below (T36.setTop (mkF m 241 #[.val (.int p1), .val (.int p2), .val (.int p3), .val (.int p4), .val (.ref b2), .val (.int St), .val (.int Ln), .val (.int En), .val (.int (0 : Int32)), .val (.int (1 : Int32)), .val (.int Kk), .val (.int J), .val (.ref b34), .unset, .unset, .unset, .unset, .unset] [(.int (1 : Int32)), (.ref b34)])) _
      refine XS.iload X36.here hx rfl (hb hby at_241) rfl ?_
      show Steps p.tables e below (T36.setTop (mkF m 243 #[.val (.int p1), .val (.int p2), .val (.int p3), .val (.int p4), .val (.ref b2), .val (.int St), .val (.int Ln), .val (.int En), .val (.int (0 : Int32)), .val (.int (1 : Int32)), .val (.int Kk), .val (.int J), .val (.ref b34), .unset, .unset, .unset, .unset, .unset] [(.int J), (.int (1 : Int32)), (.ref b34)])) _
      exact kt
    obtain ⟨cl_38, Ar_38, q_38, S_38, M_38, H_38, U_38⟩ := id V_b34_36
    obtain ⟨T38, h38, X38, e38, W38, st38⟩ := stB X36 hx hZ e36 Ar_38 (j := (1 : Int32)) (inb_of S_38 ⟨(by decide : ¬ ((1 : Int32) < (0 : Int32))), (by decide : (1 : Int32) < (16 : Int32))⟩) (g := (mkF m 243 #[.val (.int p1), .val (.int p2), .val (.int p3), .val (.int p4), .val (.ref b2), .val (.int St), .val (.int Ln), .val (.int En), .val (.int (0 : Int32)), .val (.int (1 : Int32)), .val (.int Kk), .val (.int J), .val (.ref b34), .unset, .unset, .unset, .unset, .unset] [(.int J), (.int (1 : Int32)), (.ref b34)])) rfl rfl (hb hby at_243)
    have V_b34_38 : Arv Z h38 b34 k34 .byte (16 : Int32) [(.int (nar .byte J)), (.int (nar .byte J)), (.int (0 : Int32)), (.int (0 : Int32)), (.int (0 : Int32)), (.int (0 : Int32)), (.int (0 : Int32)), (.int (0 : Int32)), (.int (0 : Int32)), (.int (0 : Int32)), (.int (0 : Int32)), (.int (0 : Int32)), (.int (0 : Int32)), (.int (0 : Int32)), (.int (0 : Int32)), (.int (0 : Int32))] (.int (0 : Int32)) := Arv.set Ar_38 q_38 S_38 M_38 H_38 U_38 (fits_nar_byte _) W38 1 rfl (Nat.le_of_ble_eq_true rfl)
    have VA_38 : Arv Z h38 b2 k2 .byte (8 : Int32) (own_l8 x0 x1 x2 x3 x4 x5 x6 x7) (.int (0 : Int32)) := VA_36.other W38 ne_b2_b34
    have Z38 : n0 ≤ h38.size := Nat.le_trans Z36 (Keep.of_wr W38).1
    have N38 := Fr.snoc X38 N36 g_b34
    have G38 : ∀ t, Steps p.tables e below (T38.setTop (mkF m 244 #[.val (.int p1), .val (.int p2), .val (.int p3), .val (.int p4), .val (.ref b2), .val (.int St), .val (.int Ln), .val (.int En), .val (.int (0 : Int32)), .val (.int (1 : Int32)), .val (.int Kk), .val (.int J), .val (.ref b34), .unset, .unset, .unset, .unset, .unset] [])) t → Steps p.tables e below (s₁.setTop (entryFrame m #[(.int p1), (.int p2), (.int p3), (.int p4)] maxLocals)) t := fun t kt => G37 t (st38 t kt)
    have G39 : ∀ t, Steps p.tables e below (T38.setTop (mkF m 249 #[.val (.int p1), .val (.int p2), .val (.int p3), .val (.int p4), .val (.ref b2), .val (.int St), .val (.int Ln), .val (.int En), .val (.int (0 : Int32)), .val (.int (1 : Int32)), .val (.int Kk), .val (.int J), .val (.ref b34), .unset, .unset, .unset, .unset, .unset] [(.int J), (.int (2 : Int32)), (.ref b34)])) t → Steps p.tables e below (s₁.setTop (entryFrame m #[(.int p1), (.int p2), (.int p3), (.int p4)] maxLocals)) t := by
      intro t kt
      refine G38 t ?_
      show Steps p.tables e below (T38.setTop (mkF m 244 #[.val (.int p1), .val (.int p2), .val (.int p3), .val (.int p4), .val (.ref b2), .val (.int St), .val (.int Ln), .val (.int En), .val (.int (0 : Int32)), .val (.int (1 : Int32)), .val (.int Kk), .val (.int J), .val (.ref b34), .unset, .unset, .unset, .unset, .unset] [])) _
      refine XS.aload X38.here hx rfl (hb hby at_244) rfl rfl ?_
      show Steps p.tables e below (T38.setTop (mkF m 246 #[.val (.int p1), .val (.int p2), .val (.int p3), .val (.int p4), .val (.ref b2), .val (.int St), .val (.int Ln), .val (.int En), .val (.int (0 : Int32)), .val (.int (1 : Int32)), .val (.int Kk), .val (.int J), .val (.ref b34), .unset, .unset, .unset, .unset, .unset] [(.ref b34)])) _
      refine XS.iconst X38.here hx rfl (hb hby at_246) ?_
      show Steps p.tables e below (T38.setTop (mkF m 247 #[.val (.int p1), .val (.int p2), .val (.int p3), .val (.int p4), .val (.ref b2), .val (.int St), .val (.int Ln), .val (.int En), .val (.int (0 : Int32)), .val (.int (1 : Int32)), .val (.int Kk), .val (.int J), .val (.ref b34), .unset, .unset, .unset, .unset, .unset] [(.int (2 : Int32)), (.ref b34)])) _
      refine XS.iload X38.here hx rfl (hb hby at_247) rfl ?_
      show Steps p.tables e below (T38.setTop (mkF m 249 #[.val (.int p1), .val (.int p2), .val (.int p3), .val (.int p4), .val (.ref b2), .val (.int St), .val (.int Ln), .val (.int En), .val (.int (0 : Int32)), .val (.int (1 : Int32)), .val (.int Kk), .val (.int J), .val (.ref b34), .unset, .unset, .unset, .unset, .unset] [(.int J), (.int (2 : Int32)), (.ref b34)])) _
      exact kt
    obtain ⟨cl_40, Ar_40, q_40, S_40, M_40, H_40, U_40⟩ := id V_b34_38
    obtain ⟨T40, h40, X40, e40, W40, st40⟩ := stB X38 hx hZ e38 Ar_40 (j := (2 : Int32)) (inb_of S_40 ⟨(by decide : ¬ ((2 : Int32) < (0 : Int32))), (by decide : (2 : Int32) < (16 : Int32))⟩) (g := (mkF m 249 #[.val (.int p1), .val (.int p2), .val (.int p3), .val (.int p4), .val (.ref b2), .val (.int St), .val (.int Ln), .val (.int En), .val (.int (0 : Int32)), .val (.int (1 : Int32)), .val (.int Kk), .val (.int J), .val (.ref b34), .unset, .unset, .unset, .unset, .unset] [(.int J), (.int (2 : Int32)), (.ref b34)])) rfl rfl (hb hby at_249)
    have V_b34_40 : Arv Z h40 b34 k34 .byte (16 : Int32) [(.int (nar .byte J)), (.int (nar .byte J)), (.int (nar .byte J)), (.int (0 : Int32)), (.int (0 : Int32)), (.int (0 : Int32)), (.int (0 : Int32)), (.int (0 : Int32)), (.int (0 : Int32)), (.int (0 : Int32)), (.int (0 : Int32)), (.int (0 : Int32)), (.int (0 : Int32)), (.int (0 : Int32)), (.int (0 : Int32)), (.int (0 : Int32))] (.int (0 : Int32)) := Arv.set Ar_40 q_40 S_40 M_40 H_40 U_40 (fits_nar_byte _) W40 2 rfl (Nat.le_of_ble_eq_true rfl)
    have VA_40 : Arv Z h40 b2 k2 .byte (8 : Int32) (own_l8 x0 x1 x2 x3 x4 x5 x6 x7) (.int (0 : Int32)) := VA_38.other W40 ne_b2_b34
    have Z40 : n0 ≤ h40.size := Nat.le_trans Z38 (Keep.of_wr W40).1
    have N40 := Fr.snoc X40 N38 g_b34
    have G40 : ∀ t, Steps p.tables e below (T40.setTop (mkF m 250 #[.val (.int p1), .val (.int p2), .val (.int p3), .val (.int p4), .val (.ref b2), .val (.int St), .val (.int Ln), .val (.int En), .val (.int (0 : Int32)), .val (.int (1 : Int32)), .val (.int Kk), .val (.int J), .val (.ref b34), .unset, .unset, .unset, .unset, .unset] [])) t → Steps p.tables e below (s₁.setTop (entryFrame m #[(.int p1), (.int p2), (.int p3), (.int p4)] maxLocals)) t := fun t kt => G39 t (st40 t kt)
    have G41 : ∀ t, Steps p.tables e below (T40.setTop (mkF m 255 #[.val (.int p1), .val (.int p2), .val (.int p3), .val (.int p4), .val (.ref b2), .val (.int St), .val (.int Ln), .val (.int En), .val (.int (0 : Int32)), .val (.int (1 : Int32)), .val (.int Kk), .val (.int J), .val (.ref b34), .unset, .unset, .unset, .unset, .unset] [(.int J), (.int (3 : Int32)), (.ref b34)])) t → Steps p.tables e below (s₁.setTop (entryFrame m #[(.int p1), (.int p2), (.int p3), (.int p4)] maxLocals)) t := by
      intro t kt
      refine G40 t ?_
      show Steps p.tables e below (T40.setTop (mkF m 250 #[.val (.int p1), .val (.int p2), .val (.int p3), .val (.int p4), .val (.ref b2), .val (.int St), .val (.int Ln), .val (.int En), .val (.int (0 : Int32)), .val (.int (1 : Int32)), .val (.int Kk), .val (.int J), .val (.ref b34), .unset, .unset, .unset, .unset, .unset] [])) _
      refine XS.aload X40.here hx rfl (hb hby at_250) rfl rfl ?_
      show Steps p.tables e below (T40.setTop (mkF m 252 #[.val (.int p1), .val (.int p2), .val (.int p3), .val (.int p4), .val (.ref b2), .val (.int St), .val (.int Ln), .val (.int En), .val (.int (0 : Int32)), .val (.int (1 : Int32)), .val (.int Kk), .val (.int J), .val (.ref b34), .unset, .unset, .unset, .unset, .unset] [(.ref b34)])) _
      refine XS.iconst X40.here hx rfl (hb hby at_252) ?_
      show Steps p.tables e below (T40.setTop (mkF m 253 #[.val (.int p1), .val (.int p2), .val (.int p3), .val (.int p4), .val (.ref b2), .val (.int St), .val (.int Ln), .val (.int En), .val (.int (0 : Int32)), .val (.int (1 : Int32)), .val (.int Kk), .val (.int J), .val (.ref b34), .unset, .unset, .unset, .unset, .unset] [(.int (3 : Int32)), (.ref b34)])) _
      refine XS.iload X40.here hx rfl (hb hby at_253) rfl ?_
      show Steps p.tables e below (T40.setTop (mkF m 255 #[.val (.int p1), .val (.int p2), .val (.int p3), .val (.int p4), .val (.ref b2), .val (.int St), .val (.int Ln), .val (.int En), .val (.int (0 : Int32)), .val (.int (1 : Int32)), .val (.int Kk), .val (.int J), .val (.ref b34), .unset, .unset, .unset, .unset, .unset] [(.int J), (.int (3 : Int32)), (.ref b34)])) _
      exact kt
    obtain ⟨cl_42, Ar_42, q_42, S_42, M_42, H_42, U_42⟩ := id V_b34_40
    obtain ⟨T42, h42, X42, e42, W42, st42⟩ := stB X40 hx hZ e40 Ar_42 (j := (3 : Int32)) (inb_of S_42 ⟨(by decide : ¬ ((3 : Int32) < (0 : Int32))), (by decide : (3 : Int32) < (16 : Int32))⟩) (g := (mkF m 255 #[.val (.int p1), .val (.int p2), .val (.int p3), .val (.int p4), .val (.ref b2), .val (.int St), .val (.int Ln), .val (.int En), .val (.int (0 : Int32)), .val (.int (1 : Int32)), .val (.int Kk), .val (.int J), .val (.ref b34), .unset, .unset, .unset, .unset, .unset] [(.int J), (.int (3 : Int32)), (.ref b34)])) rfl rfl (hb hby at_255)
    have V_b34_42 : Arv Z h42 b34 k34 .byte (16 : Int32) [(.int (nar .byte J)), (.int (nar .byte J)), (.int (nar .byte J)), (.int (nar .byte J)), (.int (0 : Int32)), (.int (0 : Int32)), (.int (0 : Int32)), (.int (0 : Int32)), (.int (0 : Int32)), (.int (0 : Int32)), (.int (0 : Int32)), (.int (0 : Int32)), (.int (0 : Int32)), (.int (0 : Int32)), (.int (0 : Int32)), (.int (0 : Int32))] (.int (0 : Int32)) := Arv.set Ar_42 q_42 S_42 M_42 H_42 U_42 (fits_nar_byte _) W42 3 rfl (Nat.le_of_ble_eq_true rfl)
    have VA_42 : Arv Z h42 b2 k2 .byte (8 : Int32) (own_l8 x0 x1 x2 x3 x4 x5 x6 x7) (.int (0 : Int32)) := VA_40.other W42 ne_b2_b34
    have Z42 : n0 ≤ h42.size := Nat.le_trans Z40 (Keep.of_wr W42).1
    have N42 := Fr.snoc X42 N40 g_b34
    have G42 : ∀ t, Steps p.tables e below (T42.setTop (mkF m 256 #[.val (.int p1), .val (.int p2), .val (.int p3), .val (.int p4), .val (.ref b2), .val (.int St), .val (.int Ln), .val (.int En), .val (.int (0 : Int32)), .val (.int (1 : Int32)), .val (.int Kk), .val (.int J), .val (.ref b34), .unset, .unset, .unset, .unset, .unset] [])) t → Steps p.tables e below (s₁.setTop (entryFrame m #[(.int p1), (.int p2), (.int p3), (.int p4)] maxLocals)) t := fun t kt => G41 t (st42 t kt)
    obtain ⟨LH43, XH43, NH43⟩ : ∃ L', Stand p l e room_1 s m #[(.int p1), (.int p2), (.int p3), (.int p4)] below meth c T42 L' 2 24 ∧ Fr n0 L' := ⟨_, X42, N42⟩
    have G44 : ∀ t, Steps p.tables e below (T42.setTop (mkF m 261 #[.val (.int p1), .val (.int p2), .val (.int p3), .val (.int p4), .val (.ref b2), .val (.int St), .val (.int Ln), .val (.int En), .val (.int (0 : Int32)), .val (.int (1 : Int32)), .val (.int Kk), .val (.int J), .val (.ref b34), .unset, .unset, .unset, .unset, .unset] [(.int J), (.int (4 : Int32)), (.ref b34)])) t → Steps p.tables e below (s₁.setTop (entryFrame m #[(.int p1), (.int p2), (.int p3), (.int p4)] maxLocals)) t := by
      intro t kt
      refine G42 t ?_
      show Steps p.tables e below (T42.setTop (mkF m 256 #[.val (.int p1), .val (.int p2), .val (.int p3), .val (.int p4), .val (.ref b2), .val (.int St), .val (.int Ln), .val (.int En), .val (.int (0 : Int32)), .val (.int (1 : Int32)), .val (.int Kk), .val (.int J), .val (.ref b34), .unset, .unset, .unset, .unset, .unset] [])) _
      refine XS.aload XH43.here hx rfl (hb hby at_256) rfl rfl ?_
      show Steps p.tables e below (T42.setTop (mkF m 258 #[.val (.int p1), .val (.int p2), .val (.int p3), .val (.int p4), .val (.ref b2), .val (.int St), .val (.int Ln), .val (.int En), .val (.int (0 : Int32)), .val (.int (1 : Int32)), .val (.int Kk), .val (.int J), .val (.ref b34), .unset, .unset, .unset, .unset, .unset] [(.ref b34)])) _
      refine XS.iconst XH43.here hx rfl (hb hby at_258) ?_
      show Steps p.tables e below (T42.setTop (mkF m 259 #[.val (.int p1), .val (.int p2), .val (.int p3), .val (.int p4), .val (.ref b2), .val (.int St), .val (.int Ln), .val (.int En), .val (.int (0 : Int32)), .val (.int (1 : Int32)), .val (.int Kk), .val (.int J), .val (.ref b34), .unset, .unset, .unset, .unset, .unset] [(.int (4 : Int32)), (.ref b34)])) _
      refine XS.iload XH43.here hx rfl (hb hby at_259) rfl ?_
      show Steps p.tables e below (T42.setTop (mkF m 261 #[.val (.int p1), .val (.int p2), .val (.int p3), .val (.int p4), .val (.ref b2), .val (.int St), .val (.int Ln), .val (.int En), .val (.int (0 : Int32)), .val (.int (1 : Int32)), .val (.int Kk), .val (.int J), .val (.ref b34), .unset, .unset, .unset, .unset, .unset] [(.int J), (.int (4 : Int32)), (.ref b34)])) _
      exact kt
    obtain ⟨cl_45, Ar_45, q_45, S_45, M_45, H_45, U_45⟩ := id V_b34_42
    obtain ⟨T45, h45, X45, e45, W45, st45⟩ := stB XH43 hx hZ e42 Ar_45 (j := (4 : Int32)) (inb_of S_45 ⟨(by decide : ¬ ((4 : Int32) < (0 : Int32))), (by decide : (4 : Int32) < (16 : Int32))⟩) (g := (mkF m 261 #[.val (.int p1), .val (.int p2), .val (.int p3), .val (.int p4), .val (.ref b2), .val (.int St), .val (.int Ln), .val (.int En), .val (.int (0 : Int32)), .val (.int (1 : Int32)), .val (.int Kk), .val (.int J), .val (.ref b34), .unset, .unset, .unset, .unset, .unset] [(.int J), (.int (4 : Int32)), (.ref b34)])) rfl rfl (hb hby at_261)
    have V_b34_45 : Arv Z h45 b34 k34 .byte (16 : Int32) [(.int (nar .byte J)), (.int (nar .byte J)), (.int (nar .byte J)), (.int (nar .byte J)), (.int (nar .byte J)), (.int (0 : Int32)), (.int (0 : Int32)), (.int (0 : Int32)), (.int (0 : Int32)), (.int (0 : Int32)), (.int (0 : Int32)), (.int (0 : Int32)), (.int (0 : Int32)), (.int (0 : Int32)), (.int (0 : Int32)), (.int (0 : Int32))] (.int (0 : Int32)) := Arv.set Ar_45 q_45 S_45 M_45 H_45 U_45 (fits_nar_byte _) W45 4 rfl (Nat.le_of_ble_eq_true rfl)
    have VA_45 : Arv Z h45 b2 k2 .byte (8 : Int32) (own_l8 x0 x1 x2 x3 x4 x5 x6 x7) (.int (0 : Int32)) := VA_42.other W45 ne_b2_b34
    have Z45 : n0 ≤ h45.size := Nat.le_trans Z42 (Keep.of_wr W45).1
    have N45 := Fr.snoc X45 NH43 g_b34
    have G45 : ∀ t, Steps p.tables e below (T45.setTop (mkF m 262 #[.val (.int p1), .val (.int p2), .val (.int p3), .val (.int p4), .val (.ref b2), .val (.int St), .val (.int Ln), .val (.int En), .val (.int (0 : Int32)), .val (.int (1 : Int32)), .val (.int Kk), .val (.int J), .val (.ref b34), .unset, .unset, .unset, .unset, .unset] [])) t → Steps p.tables e below (s₁.setTop (entryFrame m #[(.int p1), (.int p2), (.int p3), (.int p4)] maxLocals)) t := fun t kt => G44 t (st45 t kt)
    have G46 : ∀ t, Steps p.tables e below (T45.setTop (mkF m 267 #[.val (.int p1), .val (.int p2), .val (.int p3), .val (.int p4), .val (.ref b2), .val (.int St), .val (.int Ln), .val (.int En), .val (.int (0 : Int32)), .val (.int (1 : Int32)), .val (.int Kk), .val (.int J), .val (.ref b34), .unset, .unset, .unset, .unset, .unset] [(.int J), (.int (5 : Int32)), (.ref b34)])) t → Steps p.tables e below (s₁.setTop (entryFrame m #[(.int p1), (.int p2), (.int p3), (.int p4)] maxLocals)) t := by
      intro t kt
      refine G45 t ?_
      show Steps p.tables e below (T45.setTop (mkF m 262 #[.val (.int p1), .val (.int p2), .val (.int p3), .val (.int p4), .val (.ref b2), .val (.int St), .val (.int Ln), .val (.int En), .val (.int (0 : Int32)), .val (.int (1 : Int32)), .val (.int Kk), .val (.int J), .val (.ref b34), .unset, .unset, .unset, .unset, .unset] [])) _
      refine XS.aload X45.here hx rfl (hb hby at_262) rfl rfl ?_
      show Steps p.tables e below (T45.setTop (mkF m 264 #[.val (.int p1), .val (.int p2), .val (.int p3), .val (.int p4), .val (.ref b2), .val (.int St), .val (.int Ln), .val (.int En), .val (.int (0 : Int32)), .val (.int (1 : Int32)), .val (.int Kk), .val (.int J), .val (.ref b34), .unset, .unset, .unset, .unset, .unset] [(.ref b34)])) _
      refine XS.iconst X45.here hx rfl (hb hby at_264) ?_
      show Steps p.tables e below (T45.setTop (mkF m 265 #[.val (.int p1), .val (.int p2), .val (.int p3), .val (.int p4), .val (.ref b2), .val (.int St), .val (.int Ln), .val (.int En), .val (.int (0 : Int32)), .val (.int (1 : Int32)), .val (.int Kk), .val (.int J), .val (.ref b34), .unset, .unset, .unset, .unset, .unset] [(.int (5 : Int32)), (.ref b34)])) _
      refine XS.iload X45.here hx rfl (hb hby at_265) rfl ?_
      show Steps p.tables e below (T45.setTop (mkF m 267 #[.val (.int p1), .val (.int p2), .val (.int p3), .val (.int p4), .val (.ref b2), .val (.int St), .val (.int Ln), .val (.int En), .val (.int (0 : Int32)), .val (.int (1 : Int32)), .val (.int Kk), .val (.int J), .val (.ref b34), .unset, .unset, .unset, .unset, .unset] [(.int J), (.int (5 : Int32)), (.ref b34)])) _
      exact kt
    obtain ⟨cl_47, Ar_47, q_47, S_47, M_47, H_47, U_47⟩ := id V_b34_45
    obtain ⟨T47, h47, X47, e47, W47, st47⟩ := stB X45 hx hZ e45 Ar_47 (j := (5 : Int32)) (inb_of S_47 ⟨(by decide : ¬ ((5 : Int32) < (0 : Int32))), (by decide : (5 : Int32) < (16 : Int32))⟩) (g := (mkF m 267 #[.val (.int p1), .val (.int p2), .val (.int p3), .val (.int p4), .val (.ref b2), .val (.int St), .val (.int Ln), .val (.int En), .val (.int (0 : Int32)), .val (.int (1 : Int32)), .val (.int Kk), .val (.int J), .val (.ref b34), .unset, .unset, .unset, .unset, .unset] [(.int J), (.int (5 : Int32)), (.ref b34)])) rfl rfl (hb hby at_267)
    have V_b34_47 : Arv Z h47 b34 k34 .byte (16 : Int32) [(.int (nar .byte J)), (.int (nar .byte J)), (.int (nar .byte J)), (.int (nar .byte J)), (.int (nar .byte J)), (.int (nar .byte J)), (.int (0 : Int32)), (.int (0 : Int32)), (.int (0 : Int32)), (.int (0 : Int32)), (.int (0 : Int32)), (.int (0 : Int32)), (.int (0 : Int32)), (.int (0 : Int32)), (.int (0 : Int32)), (.int (0 : Int32))] (.int (0 : Int32)) := Arv.set Ar_47 q_47 S_47 M_47 H_47 U_47 (fits_nar_byte _) W47 5 rfl (Nat.le_of_ble_eq_true rfl)
    have VA_47 : Arv Z h47 b2 k2 .byte (8 : Int32) (own_l8 x0 x1 x2 x3 x4 x5 x6 x7) (.int (0 : Int32)) := VA_45.other W47 ne_b2_b34
    have Z47 : n0 ≤ h47.size := Nat.le_trans Z45 (Keep.of_wr W47).1
    have N47 := Fr.snoc X47 N45 g_b34
    have G47 : ∀ t, Steps p.tables e below (T47.setTop (mkF m 268 #[.val (.int p1), .val (.int p2), .val (.int p3), .val (.int p4), .val (.ref b2), .val (.int St), .val (.int Ln), .val (.int En), .val (.int (0 : Int32)), .val (.int (1 : Int32)), .val (.int Kk), .val (.int J), .val (.ref b34), .unset, .unset, .unset, .unset, .unset] [])) t → Steps p.tables e below (s₁.setTop (entryFrame m #[(.int p1), (.int p2), (.int p3), (.int p4)] maxLocals)) t := fun t kt => G46 t (st47 t kt)
    have G48 : ∀ t, Steps p.tables e below (T47.setTop (mkF m 274 #[.val (.int p1), .val (.int p2), .val (.int p3), .val (.int p4), .val (.ref b2), .val (.int St), .val (.int Ln), .val (.int En), .val (.int (0 : Int32)), .val (.int (1 : Int32)), .val (.int Kk), .val (.int J), .val (.ref b34), .unset, .unset, .unset, .unset, .unset] [(.int J), (.int (6 : Int32)), (.ref b34)])) t → Steps p.tables e below (s₁.setTop (entryFrame m #[(.int p1), (.int p2), (.int p3), (.int p4)] maxLocals)) t := by
      intro t kt
      refine G47 t ?_
      show Steps p.tables e below (T47.setTop (mkF m 268 #[.val (.int p1), .val (.int p2), .val (.int p3), .val (.int p4), .val (.ref b2), .val (.int St), .val (.int Ln), .val (.int En), .val (.int (0 : Int32)), .val (.int (1 : Int32)), .val (.int Kk), .val (.int J), .val (.ref b34), .unset, .unset, .unset, .unset, .unset] [])) _
      refine XS.aload X47.here hx rfl (hb hby at_268) rfl rfl ?_
      show Steps p.tables e below (T47.setTop (mkF m 270 #[.val (.int p1), .val (.int p2), .val (.int p3), .val (.int p4), .val (.ref b2), .val (.int St), .val (.int Ln), .val (.int En), .val (.int (0 : Int32)), .val (.int (1 : Int32)), .val (.int Kk), .val (.int J), .val (.ref b34), .unset, .unset, .unset, .unset, .unset] [(.ref b34)])) _
      refine XS.bipush X47.here hx rfl (hb hby at_270) ?_
      show Steps p.tables e below (T47.setTop (mkF m 272 #[.val (.int p1), .val (.int p2), .val (.int p3), .val (.int p4), .val (.ref b2), .val (.int St), .val (.int Ln), .val (.int En), .val (.int (0 : Int32)), .val (.int (1 : Int32)), .val (.int Kk), .val (.int J), .val (.ref b34), .unset, .unset, .unset, .unset, .unset] [(.int (6 : Int32)), (.ref b34)])) _
      refine XS.iload X47.here hx rfl (hb hby at_272) rfl ?_
      show Steps p.tables e below (T47.setTop (mkF m 274 #[.val (.int p1), .val (.int p2), .val (.int p3), .val (.int p4), .val (.ref b2), .val (.int St), .val (.int Ln), .val (.int En), .val (.int (0 : Int32)), .val (.int (1 : Int32)), .val (.int Kk), .val (.int J), .val (.ref b34), .unset, .unset, .unset, .unset, .unset] [(.int J), (.int (6 : Int32)), (.ref b34)])) _
      exact kt
    obtain ⟨cl_49, Ar_49, q_49, S_49, M_49, H_49, U_49⟩ := id V_b34_47
    obtain ⟨T49, h49, X49, e49, W49, st49⟩ := stB X47 hx hZ e47 Ar_49 (j := (6 : Int32)) (inb_of S_49 ⟨(by decide : ¬ ((6 : Int32) < (0 : Int32))), (by decide : (6 : Int32) < (16 : Int32))⟩) (g := (mkF m 274 #[.val (.int p1), .val (.int p2), .val (.int p3), .val (.int p4), .val (.ref b2), .val (.int St), .val (.int Ln), .val (.int En), .val (.int (0 : Int32)), .val (.int (1 : Int32)), .val (.int Kk), .val (.int J), .val (.ref b34), .unset, .unset, .unset, .unset, .unset] [(.int J), (.int (6 : Int32)), (.ref b34)])) rfl rfl (hb hby at_274)
    have V_b34_49 : Arv Z h49 b34 k34 .byte (16 : Int32) [(.int (nar .byte J)), (.int (nar .byte J)), (.int (nar .byte J)), (.int (nar .byte J)), (.int (nar .byte J)), (.int (nar .byte J)), (.int (nar .byte J)), (.int (0 : Int32)), (.int (0 : Int32)), (.int (0 : Int32)), (.int (0 : Int32)), (.int (0 : Int32)), (.int (0 : Int32)), (.int (0 : Int32)), (.int (0 : Int32)), (.int (0 : Int32))] (.int (0 : Int32)) := Arv.set Ar_49 q_49 S_49 M_49 H_49 U_49 (fits_nar_byte _) W49 6 rfl (Nat.le_of_ble_eq_true rfl)
    have VA_49 : Arv Z h49 b2 k2 .byte (8 : Int32) (own_l8 x0 x1 x2 x3 x4 x5 x6 x7) (.int (0 : Int32)) := VA_47.other W49 ne_b2_b34
    have Z49 : n0 ≤ h49.size := Nat.le_trans Z47 (Keep.of_wr W49).1
    have N49 := Fr.snoc X49 N47 g_b34
    have G49 : ∀ t, Steps p.tables e below (T49.setTop (mkF m 275 #[.val (.int p1), .val (.int p2), .val (.int p3), .val (.int p4), .val (.ref b2), .val (.int St), .val (.int Ln), .val (.int En), .val (.int (0 : Int32)), .val (.int (1 : Int32)), .val (.int Kk), .val (.int J), .val (.ref b34), .unset, .unset, .unset, .unset, .unset] [])) t → Steps p.tables e below (s₁.setTop (entryFrame m #[(.int p1), (.int p2), (.int p3), (.int p4)] maxLocals)) t := fun t kt => G48 t (st49 t kt)
    have G50 : ∀ t, Steps p.tables e below (T49.setTop (mkF m 281 #[.val (.int p1), .val (.int p2), .val (.int p3), .val (.int p4), .val (.ref b2), .val (.int St), .val (.int Ln), .val (.int En), .val (.int (0 : Int32)), .val (.int (1 : Int32)), .val (.int Kk), .val (.int J), .val (.ref b34), .unset, .unset, .unset, .unset, .unset] [(.int J), (.int (7 : Int32)), (.ref b34)])) t → Steps p.tables e below (s₁.setTop (entryFrame m #[(.int p1), (.int p2), (.int p3), (.int p4)] maxLocals)) t := by
      intro t kt
      refine G49 t ?_
      show Steps p.tables e below (T49.setTop (mkF m 275 #[.val (.int p1), .val (.int p2), .val (.int p3), .val (.int p4), .val (.ref b2), .val (.int St), .val (.int Ln), .val (.int En), .val (.int (0 : Int32)), .val (.int (1 : Int32)), .val (.int Kk), .val (.int J), .val (.ref b34), .unset, .unset, .unset, .unset, .unset] [])) _
      refine XS.aload X49.here hx rfl (hb hby at_275) rfl rfl ?_
      show Steps p.tables e below (T49.setTop (mkF m 277 #[.val (.int p1), .val (.int p2), .val (.int p3), .val (.int p4), .val (.ref b2), .val (.int St), .val (.int Ln), .val (.int En), .val (.int (0 : Int32)), .val (.int (1 : Int32)), .val (.int Kk), .val (.int J), .val (.ref b34), .unset, .unset, .unset, .unset, .unset] [(.ref b34)])) _
      refine XS.bipush X49.here hx rfl (hb hby at_277) ?_
      show Steps p.tables e below (T49.setTop (mkF m 279 #[.val (.int p1), .val (.int p2), .val (.int p3), .val (.int p4), .val (.ref b2), .val (.int St), .val (.int Ln), .val (.int En), .val (.int (0 : Int32)), .val (.int (1 : Int32)), .val (.int Kk), .val (.int J), .val (.ref b34), .unset, .unset, .unset, .unset, .unset] [(.int (7 : Int32)), (.ref b34)])) _
      refine XS.iload X49.here hx rfl (hb hby at_279) rfl ?_
      show Steps p.tables e below (T49.setTop (mkF m 281 #[.val (.int p1), .val (.int p2), .val (.int p3), .val (.int p4), .val (.ref b2), .val (.int St), .val (.int Ln), .val (.int En), .val (.int (0 : Int32)), .val (.int (1 : Int32)), .val (.int Kk), .val (.int J), .val (.ref b34), .unset, .unset, .unset, .unset, .unset] [(.int J), (.int (7 : Int32)), (.ref b34)])) _
      exact kt
    obtain ⟨cl_51, Ar_51, q_51, S_51, M_51, H_51, U_51⟩ := id V_b34_49
    obtain ⟨T51, h51, X51, e51, W51, st51⟩ := stB X49 hx hZ e49 Ar_51 (j := (7 : Int32)) (inb_of S_51 ⟨(by decide : ¬ ((7 : Int32) < (0 : Int32))), (by decide : (7 : Int32) < (16 : Int32))⟩) (g := (mkF m 281 #[.val (.int p1), .val (.int p2), .val (.int p3), .val (.int p4), .val (.ref b2), .val (.int St), .val (.int Ln), .val (.int En), .val (.int (0 : Int32)), .val (.int (1 : Int32)), .val (.int Kk), .val (.int J), .val (.ref b34), .unset, .unset, .unset, .unset, .unset] [(.int J), (.int (7 : Int32)), (.ref b34)])) rfl rfl (hb hby at_281)
    have V_b34_51 : Arv Z h51 b34 k34 .byte (16 : Int32) [(.int (nar .byte J)), (.int (nar .byte J)), (.int (nar .byte J)), (.int (nar .byte J)), (.int (nar .byte J)), (.int (nar .byte J)), (.int (nar .byte J)), (.int (nar .byte J)), (.int (0 : Int32)), (.int (0 : Int32)), (.int (0 : Int32)), (.int (0 : Int32)), (.int (0 : Int32)), (.int (0 : Int32)), (.int (0 : Int32)), (.int (0 : Int32))] (.int (0 : Int32)) := Arv.set Ar_51 q_51 S_51 M_51 H_51 U_51 (fits_nar_byte _) W51 7 rfl (Nat.le_of_ble_eq_true rfl)
    have VA_51 : Arv Z h51 b2 k2 .byte (8 : Int32) (own_l8 x0 x1 x2 x3 x4 x5 x6 x7) (.int (0 : Int32)) := VA_49.other W51 ne_b2_b34
    have Z51 : n0 ≤ h51.size := Nat.le_trans Z49 (Keep.of_wr W51).1
    have N51 := Fr.snoc X51 N49 g_b34
    have G51 : ∀ t, Steps p.tables e below (T51.setTop (mkF m 282 #[.val (.int p1), .val (.int p2), .val (.int p3), .val (.int p4), .val (.ref b2), .val (.int St), .val (.int Ln), .val (.int En), .val (.int (0 : Int32)), .val (.int (1 : Int32)), .val (.int Kk), .val (.int J), .val (.ref b34), .unset, .unset, .unset, .unset, .unset] [])) t → Steps p.tables e below (s₁.setTop (entryFrame m #[(.int p1), (.int p2), (.int p3), (.int p4)] maxLocals)) t := fun t kt => G50 t (st51 t kt)
    obtain ⟨LH52, XH52, NH52⟩ : ∃ L', Stand p l e room_1 s m #[(.int p1), (.int p2), (.int p3), (.int p4)] below meth c T51 L' 2 24 ∧ Fr n0 L' := ⟨_, X51, N51⟩
    have G53 : ∀ t, Steps p.tables e below (T51.setTop (mkF m 288 #[.val (.int p1), .val (.int p2), .val (.int p3), .val (.int p4), .val (.ref b2), .val (.int St), .val (.int Ln), .val (.int En), .val (.int (0 : Int32)), .val (.int (1 : Int32)), .val (.int Kk), .val (.int J), .val (.ref b34), .unset, .unset, .unset, .unset, .unset] [(.int J), (.int (8 : Int32)), (.ref b34)])) t → Steps p.tables e below (s₁.setTop (entryFrame m #[(.int p1), (.int p2), (.int p3), (.int p4)] maxLocals)) t := by
      intro t kt
      refine G51 t ?_
      show Steps p.tables e below (T51.setTop (mkF m 282 #[.val (.int p1), .val (.int p2), .val (.int p3), .val (.int p4), .val (.ref b2), .val (.int St), .val (.int Ln), .val (.int En), .val (.int (0 : Int32)), .val (.int (1 : Int32)), .val (.int Kk), .val (.int J), .val (.ref b34), .unset, .unset, .unset, .unset, .unset] [])) _
      refine XS.aload XH52.here hx rfl (hb hby at_282) rfl rfl ?_
      show Steps p.tables e below (T51.setTop (mkF m 284 #[.val (.int p1), .val (.int p2), .val (.int p3), .val (.int p4), .val (.ref b2), .val (.int St), .val (.int Ln), .val (.int En), .val (.int (0 : Int32)), .val (.int (1 : Int32)), .val (.int Kk), .val (.int J), .val (.ref b34), .unset, .unset, .unset, .unset, .unset] [(.ref b34)])) _
      refine XS.bipush XH52.here hx rfl (hb hby at_284) ?_
      show Steps p.tables e below (T51.setTop (mkF m 286 #[.val (.int p1), .val (.int p2), .val (.int p3), .val (.int p4), .val (.ref b2), .val (.int St), .val (.int Ln), .val (.int En), .val (.int (0 : Int32)), .val (.int (1 : Int32)), .val (.int Kk), .val (.int J), .val (.ref b34), .unset, .unset, .unset, .unset, .unset] [(.int (8 : Int32)), (.ref b34)])) _
      refine XS.iload XH52.here hx rfl (hb hby at_286) rfl ?_
      show Steps p.tables e below (T51.setTop (mkF m 288 #[.val (.int p1), .val (.int p2), .val (.int p3), .val (.int p4), .val (.ref b2), .val (.int St), .val (.int Ln), .val (.int En), .val (.int (0 : Int32)), .val (.int (1 : Int32)), .val (.int Kk), .val (.int J), .val (.ref b34), .unset, .unset, .unset, .unset, .unset] [(.int J), (.int (8 : Int32)), (.ref b34)])) _
      exact kt
    obtain ⟨cl_54, Ar_54, q_54, S_54, M_54, H_54, U_54⟩ := id V_b34_51
    obtain ⟨T54, h54, X54, e54, W54, st54⟩ := stB XH52 hx hZ e51 Ar_54 (j := (8 : Int32)) (inb_of S_54 ⟨(by decide : ¬ ((8 : Int32) < (0 : Int32))), (by decide : (8 : Int32) < (16 : Int32))⟩) (g := (mkF m 288 #[.val (.int p1), .val (.int p2), .val (.int p3), .val (.int p4), .val (.ref b2), .val (.int St), .val (.int Ln), .val (.int En), .val (.int (0 : Int32)), .val (.int (1 : Int32)), .val (.int Kk), .val (.int J), .val (.ref b34), .unset, .unset, .unset, .unset, .unset] [(.int J), (.int (8 : Int32)), (.ref b34)])) rfl rfl (hb hby at_288)
    have V_b34_54 : Arv Z h54 b34 k34 .byte (16 : Int32) [(.int (nar .byte J)), (.int (nar .byte J)), (.int (nar .byte J)), (.int (nar .byte J)), (.int (nar .byte J)), (.int (nar .byte J)), (.int (nar .byte J)), (.int (nar .byte J)), (.int (nar .byte J)), (.int (0 : Int32)), (.int (0 : Int32)), (.int (0 : Int32)), (.int (0 : Int32)), (.int (0 : Int32)), (.int (0 : Int32)), (.int (0 : Int32))] (.int (0 : Int32)) := Arv.set Ar_54 q_54 S_54 M_54 H_54 U_54 (fits_nar_byte _) W54 8 rfl (Nat.le_of_ble_eq_true rfl)
    have VA_54 : Arv Z h54 b2 k2 .byte (8 : Int32) (own_l8 x0 x1 x2 x3 x4 x5 x6 x7) (.int (0 : Int32)) := VA_51.other W54 ne_b2_b34
    have Z54 : n0 ≤ h54.size := Nat.le_trans Z51 (Keep.of_wr W54).1
    have N54 := Fr.snoc X54 NH52 g_b34
    have G54 : ∀ t, Steps p.tables e below (T54.setTop (mkF m 289 #[.val (.int p1), .val (.int p2), .val (.int p3), .val (.int p4), .val (.ref b2), .val (.int St), .val (.int Ln), .val (.int En), .val (.int (0 : Int32)), .val (.int (1 : Int32)), .val (.int Kk), .val (.int J), .val (.ref b34), .unset, .unset, .unset, .unset, .unset] [])) t → Steps p.tables e below (s₁.setTop (entryFrame m #[(.int p1), (.int p2), (.int p3), (.int p4)] maxLocals)) t := fun t kt => G53 t (st54 t kt)
    have G55 : ∀ t, Steps p.tables e below (T54.setTop (mkF m 295 #[.val (.int p1), .val (.int p2), .val (.int p3), .val (.int p4), .val (.ref b2), .val (.int St), .val (.int Ln), .val (.int En), .val (.int (0 : Int32)), .val (.int (1 : Int32)), .val (.int Kk), .val (.int J), .val (.ref b34), .unset, .unset, .unset, .unset, .unset] [(.int J), (.int (9 : Int32)), (.ref b34)])) t → Steps p.tables e below (s₁.setTop (entryFrame m #[(.int p1), (.int p2), (.int p3), (.int p4)] maxLocals)) t := by
      intro t kt
      refine G54 t ?_
      show Steps p.tables e below (T54.setTop (mkF m 289 #[.val (.int p1), .val (.int p2), .val (.int p3), .val (.int p4), .val (.ref b2), .val (.int St), .val (.int Ln), .val (.int En), .val (.int (0 : Int32)), .val (.int (1 : Int32)), .val (.int Kk), .val (.int J), .val (.ref b34), .unset, .unset, .unset, .unset, .unset] [])) _
      refine XS.aload X54.here hx rfl (hb hby at_289) rfl rfl ?_
      show Steps p.tables e below (T54.setTop (mkF m 291 #[.val (.int p1), .val (.int p2), .val (.int p3), .val (.int p4), .val (.ref b2), .val (.int St), .val (.int Ln), .val (.int En), .val (.int (0 : Int32)), .val (.int (1 : Int32)), .val (.int Kk), .val (.int J), .val (.ref b34), .unset, .unset, .unset, .unset, .unset] [(.ref b34)])) _
      refine XS.bipush X54.here hx rfl (hb hby at_291) ?_
      show Steps p.tables e below (T54.setTop (mkF m 293 #[.val (.int p1), .val (.int p2), .val (.int p3), .val (.int p4), .val (.ref b2), .val (.int St), .val (.int Ln), .val (.int En), .val (.int (0 : Int32)), .val (.int (1 : Int32)), .val (.int Kk), .val (.int J), .val (.ref b34), .unset, .unset, .unset, .unset, .unset] [(.int (9 : Int32)), (.ref b34)])) _
      refine XS.iload X54.here hx rfl (hb hby at_293) rfl ?_
      show Steps p.tables e below (T54.setTop (mkF m 295 #[.val (.int p1), .val (.int p2), .val (.int p3), .val (.int p4), .val (.ref b2), .val (.int St), .val (.int Ln), .val (.int En), .val (.int (0 : Int32)), .val (.int (1 : Int32)), .val (.int Kk), .val (.int J), .val (.ref b34), .unset, .unset, .unset, .unset, .unset] [(.int J), (.int (9 : Int32)), (.ref b34)])) _
      exact kt
    obtain ⟨cl_56, Ar_56, q_56, S_56, M_56, H_56, U_56⟩ := id V_b34_54
    obtain ⟨T56, h56, X56, e56, W56, st56⟩ := stB X54 hx hZ e54 Ar_56 (j := (9 : Int32)) (inb_of S_56 ⟨(by decide : ¬ ((9 : Int32) < (0 : Int32))), (by decide : (9 : Int32) < (16 : Int32))⟩) (g := (mkF m 295 #[.val (.int p1), .val (.int p2), .val (.int p3), .val (.int p4), .val (.ref b2), .val (.int St), .val (.int Ln), .val (.int En), .val (.int (0 : Int32)), .val (.int (1 : Int32)), .val (.int Kk), .val (.int J), .val (.ref b34), .unset, .unset, .unset, .unset, .unset] [(.int J), (.int (9 : Int32)), (.ref b34)])) rfl rfl (hb hby at_295)
    have V_b34_56 : Arv Z h56 b34 k34 .byte (16 : Int32) [(.int (nar .byte J)), (.int (nar .byte J)), (.int (nar .byte J)), (.int (nar .byte J)), (.int (nar .byte J)), (.int (nar .byte J)), (.int (nar .byte J)), (.int (nar .byte J)), (.int (nar .byte J)), (.int (nar .byte J)), (.int (0 : Int32)), (.int (0 : Int32)), (.int (0 : Int32)), (.int (0 : Int32)), (.int (0 : Int32)), (.int (0 : Int32))] (.int (0 : Int32)) := Arv.set Ar_56 q_56 S_56 M_56 H_56 U_56 (fits_nar_byte _) W56 9 rfl (Nat.le_of_ble_eq_true rfl)
    have VA_56 : Arv Z h56 b2 k2 .byte (8 : Int32) (own_l8 x0 x1 x2 x3 x4 x5 x6 x7) (.int (0 : Int32)) := VA_54.other W56 ne_b2_b34
    have Z56 : n0 ≤ h56.size := Nat.le_trans Z54 (Keep.of_wr W56).1
    have N56 := Fr.snoc X56 N54 g_b34
    have G56 : ∀ t, Steps p.tables e below (T56.setTop (mkF m 296 #[.val (.int p1), .val (.int p2), .val (.int p3), .val (.int p4), .val (.ref b2), .val (.int St), .val (.int Ln), .val (.int En), .val (.int (0 : Int32)), .val (.int (1 : Int32)), .val (.int Kk), .val (.int J), .val (.ref b34), .unset, .unset, .unset, .unset, .unset] [])) t → Steps p.tables e below (s₁.setTop (entryFrame m #[(.int p1), (.int p2), (.int p3), (.int p4)] maxLocals)) t := fun t kt => G55 t (st56 t kt)
    have G57 : ∀ t, Steps p.tables e below (T56.setTop (mkF m 302 #[.val (.int p1), .val (.int p2), .val (.int p3), .val (.int p4), .val (.ref b2), .val (.int St), .val (.int Ln), .val (.int En), .val (.int (0 : Int32)), .val (.int (1 : Int32)), .val (.int Kk), .val (.int J), .val (.ref b34), .unset, .unset, .unset, .unset, .unset] [(.int J), (.int (10 : Int32)), (.ref b34)])) t → Steps p.tables e below (s₁.setTop (entryFrame m #[(.int p1), (.int p2), (.int p3), (.int p4)] maxLocals)) t := by
      intro t kt
      refine G56 t ?_
      show Steps p.tables e below (T56.setTop (mkF m 296 #[.val (.int p1), .val (.int p2), .val (.int p3), .val (.int p4), .val (.ref b2), .val (.int St), .val (.int Ln), .val (.int En), .val (.int (0 : Int32)), .val (.int (1 : Int32)), .val (.int Kk), .val (.int J), .val (.ref b34), .unset, .unset, .unset, .unset, .unset] [])) _
      refine XS.aload X56.here hx rfl (hb hby at_296) rfl rfl ?_
      show Steps p.tables e below (T56.setTop (mkF m 298 #[.val (.int p1), .val (.int p2), .val (.int p3), .val (.int p4), .val (.ref b2), .val (.int St), .val (.int Ln), .val (.int En), .val (.int (0 : Int32)), .val (.int (1 : Int32)), .val (.int Kk), .val (.int J), .val (.ref b34), .unset, .unset, .unset, .unset, .unset] [(.ref b34)])) _
      refine XS.bipush X56.here hx rfl (hb hby at_298) ?_
      show Steps p.tables e below (T56.setTop (mkF m 300 #[.val (.int p1), .val (.int p2), .val (.int p3), .val (.int p4), .val (.ref b2), .val (.int St), .val (.int Ln), .val (.int En), .val (.int (0 : Int32)), .val (.int (1 : Int32)), .val (.int Kk), .val (.int J), .val (.ref b34), .unset, .unset, .unset, .unset, .unset] [(.int (10 : Int32)), (.ref b34)])) _
      refine XS.iload X56.here hx rfl (hb hby at_300) rfl ?_
      show Steps p.tables e below (T56.setTop (mkF m 302 #[.val (.int p1), .val (.int p2), .val (.int p3), .val (.int p4), .val (.ref b2), .val (.int St), .val (.int Ln), .val (.int En), .val (.int (0 : Int32)), .val (.int (1 : Int32)), .val (.int Kk), .val (.int J), .val (.ref b34), .unset, .unset, .unset, .unset, .unset] [(.int J), (.int (10 : Int32)), (.ref b34)])) _
      exact kt
    obtain ⟨cl_58, Ar_58, q_58, S_58, M_58, H_58, U_58⟩ := id V_b34_56
    obtain ⟨T58, h58, X58, e58, W58, st58⟩ := stB X56 hx hZ e56 Ar_58 (j := (10 : Int32)) (inb_of S_58 ⟨(by decide : ¬ ((10 : Int32) < (0 : Int32))), (by decide : (10 : Int32) < (16 : Int32))⟩) (g := (mkF m 302 #[.val (.int p1), .val (.int p2), .val (.int p3), .val (.int p4), .val (.ref b2), .val (.int St), .val (.int Ln), .val (.int En), .val (.int (0 : Int32)), .val (.int (1 : Int32)), .val (.int Kk), .val (.int J), .val (.ref b34), .unset, .unset, .unset, .unset, .unset] [(.int J), (.int (10 : Int32)), (.ref b34)])) rfl rfl (hb hby at_302)
    have V_b34_58 : Arv Z h58 b34 k34 .byte (16 : Int32) [(.int (nar .byte J)), (.int (nar .byte J)), (.int (nar .byte J)), (.int (nar .byte J)), (.int (nar .byte J)), (.int (nar .byte J)), (.int (nar .byte J)), (.int (nar .byte J)), (.int (nar .byte J)), (.int (nar .byte J)), (.int (nar .byte J)), (.int (0 : Int32)), (.int (0 : Int32)), (.int (0 : Int32)), (.int (0 : Int32)), (.int (0 : Int32))] (.int (0 : Int32)) := Arv.set Ar_58 q_58 S_58 M_58 H_58 U_58 (fits_nar_byte _) W58 10 rfl (Nat.le_of_ble_eq_true rfl)
    have VA_58 : Arv Z h58 b2 k2 .byte (8 : Int32) (own_l8 x0 x1 x2 x3 x4 x5 x6 x7) (.int (0 : Int32)) := VA_56.other W58 ne_b2_b34
    have Z58 : n0 ≤ h58.size := Nat.le_trans Z56 (Keep.of_wr W58).1
    have N58 := Fr.snoc X58 N56 g_b34
    have G58 : ∀ t, Steps p.tables e below (T58.setTop (mkF m 303 #[.val (.int p1), .val (.int p2), .val (.int p3), .val (.int p4), .val (.ref b2), .val (.int St), .val (.int Ln), .val (.int En), .val (.int (0 : Int32)), .val (.int (1 : Int32)), .val (.int Kk), .val (.int J), .val (.ref b34), .unset, .unset, .unset, .unset, .unset] [])) t → Steps p.tables e below (s₁.setTop (entryFrame m #[(.int p1), (.int p2), (.int p3), (.int p4)] maxLocals)) t := fun t kt => G57 t (st58 t kt)
    have G59 : ∀ t, Steps p.tables e below (T58.setTop (mkF m 309 #[.val (.int p1), .val (.int p2), .val (.int p3), .val (.int p4), .val (.ref b2), .val (.int St), .val (.int Ln), .val (.int En), .val (.int (0 : Int32)), .val (.int (1 : Int32)), .val (.int Kk), .val (.int J), .val (.ref b34), .unset, .unset, .unset, .unset, .unset] [(.int J), (.int (11 : Int32)), (.ref b34)])) t → Steps p.tables e below (s₁.setTop (entryFrame m #[(.int p1), (.int p2), (.int p3), (.int p4)] maxLocals)) t := by
      intro t kt
      refine G58 t ?_
      show Steps p.tables e below (T58.setTop (mkF m 303 #[.val (.int p1), .val (.int p2), .val (.int p3), .val (.int p4), .val (.ref b2), .val (.int St), .val (.int Ln), .val (.int En), .val (.int (0 : Int32)), .val (.int (1 : Int32)), .val (.int Kk), .val (.int J), .val (.ref b34), .unset, .unset, .unset, .unset, .unset] [])) _
      refine XS.aload X58.here hx rfl (hb hby at_303) rfl rfl ?_
      show Steps p.tables e below (T58.setTop (mkF m 305 #[.val (.int p1), .val (.int p2), .val (.int p3), .val (.int p4), .val (.ref b2), .val (.int St), .val (.int Ln), .val (.int En), .val (.int (0 : Int32)), .val (.int (1 : Int32)), .val (.int Kk), .val (.int J), .val (.ref b34), .unset, .unset, .unset, .unset, .unset] [(.ref b34)])) _
      refine XS.bipush X58.here hx rfl (hb hby at_305) ?_
      show Steps p.tables e below (T58.setTop (mkF m 307 #[.val (.int p1), .val (.int p2), .val (.int p3), .val (.int p4), .val (.ref b2), .val (.int St), .val (.int Ln), .val (.int En), .val (.int (0 : Int32)), .val (.int (1 : Int32)), .val (.int Kk), .val (.int J), .val (.ref b34), .unset, .unset, .unset, .unset, .unset] [(.int (11 : Int32)), (.ref b34)])) _
      refine XS.iload X58.here hx rfl (hb hby at_307) rfl ?_
      show Steps p.tables e below (T58.setTop (mkF m 309 #[.val (.int p1), .val (.int p2), .val (.int p3), .val (.int p4), .val (.ref b2), .val (.int St), .val (.int Ln), .val (.int En), .val (.int (0 : Int32)), .val (.int (1 : Int32)), .val (.int Kk), .val (.int J), .val (.ref b34), .unset, .unset, .unset, .unset, .unset] [(.int J), (.int (11 : Int32)), (.ref b34)])) _
      exact kt
    obtain ⟨cl_60, Ar_60, q_60, S_60, M_60, H_60, U_60⟩ := id V_b34_58
    obtain ⟨T60, h60, X60, e60, W60, st60⟩ := stB X58 hx hZ e58 Ar_60 (j := (11 : Int32)) (inb_of S_60 ⟨(by decide : ¬ ((11 : Int32) < (0 : Int32))), (by decide : (11 : Int32) < (16 : Int32))⟩) (g := (mkF m 309 #[.val (.int p1), .val (.int p2), .val (.int p3), .val (.int p4), .val (.ref b2), .val (.int St), .val (.int Ln), .val (.int En), .val (.int (0 : Int32)), .val (.int (1 : Int32)), .val (.int Kk), .val (.int J), .val (.ref b34), .unset, .unset, .unset, .unset, .unset] [(.int J), (.int (11 : Int32)), (.ref b34)])) rfl rfl (hb hby at_309)
    have V_b34_60 : Arv Z h60 b34 k34 .byte (16 : Int32) [(.int (nar .byte J)), (.int (nar .byte J)), (.int (nar .byte J)), (.int (nar .byte J)), (.int (nar .byte J)), (.int (nar .byte J)), (.int (nar .byte J)), (.int (nar .byte J)), (.int (nar .byte J)), (.int (nar .byte J)), (.int (nar .byte J)), (.int (nar .byte J)), (.int (0 : Int32)), (.int (0 : Int32)), (.int (0 : Int32)), (.int (0 : Int32))] (.int (0 : Int32)) := Arv.set Ar_60 q_60 S_60 M_60 H_60 U_60 (fits_nar_byte _) W60 11 rfl (Nat.le_of_ble_eq_true rfl)
    have VA_60 : Arv Z h60 b2 k2 .byte (8 : Int32) (own_l8 x0 x1 x2 x3 x4 x5 x6 x7) (.int (0 : Int32)) := VA_58.other W60 ne_b2_b34
    have Z60 : n0 ≤ h60.size := Nat.le_trans Z58 (Keep.of_wr W60).1
    have N60 := Fr.snoc X60 N58 g_b34
    have G60 : ∀ t, Steps p.tables e below (T60.setTop (mkF m 310 #[.val (.int p1), .val (.int p2), .val (.int p3), .val (.int p4), .val (.ref b2), .val (.int St), .val (.int Ln), .val (.int En), .val (.int (0 : Int32)), .val (.int (1 : Int32)), .val (.int Kk), .val (.int J), .val (.ref b34), .unset, .unset, .unset, .unset, .unset] [])) t → Steps p.tables e below (s₁.setTop (entryFrame m #[(.int p1), (.int p2), (.int p3), (.int p4)] maxLocals)) t := fun t kt => G59 t (st60 t kt)
    obtain ⟨LH61, XH61, NH61⟩ : ∃ L', Stand p l e room_1 s m #[(.int p1), (.int p2), (.int p3), (.int p4)] below meth c T60 L' 2 24 ∧ Fr n0 L' := ⟨_, X60, N60⟩
    have G62 : ∀ t, Steps p.tables e below (T60.setTop (mkF m 316 #[.val (.int p1), .val (.int p2), .val (.int p3), .val (.int p4), .val (.ref b2), .val (.int St), .val (.int Ln), .val (.int En), .val (.int (0 : Int32)), .val (.int (1 : Int32)), .val (.int Kk), .val (.int J), .val (.ref b34), .unset, .unset, .unset, .unset, .unset] [(.int J), (.int (12 : Int32)), (.ref b34)])) t → Steps p.tables e below (s₁.setTop (entryFrame m #[(.int p1), (.int p2), (.int p3), (.int p4)] maxLocals)) t := by
      intro t kt
      refine G60 t ?_
      show Steps p.tables e below (T60.setTop (mkF m 310 #[.val (.int p1), .val (.int p2), .val (.int p3), .val (.int p4), .val (.ref b2), .val (.int St), .val (.int Ln), .val (.int En), .val (.int (0 : Int32)), .val (.int (1 : Int32)), .val (.int Kk), .val (.int J), .val (.ref b34), .unset, .unset, .unset, .unset, .unset] [])) _
      refine XS.aload XH61.here hx rfl (hb hby at_310) rfl rfl ?_
      show Steps p.tables e below (T60.setTop (mkF m 312 #[.val (.int p1), .val (.int p2), .val (.int p3), .val (.int p4), .val (.ref b2), .val (.int St), .val (.int Ln), .val (.int En), .val (.int (0 : Int32)), .val (.int (1 : Int32)), .val (.int Kk), .val (.int J), .val (.ref b34), .unset, .unset, .unset, .unset, .unset] [(.ref b34)])) _
      refine XS.bipush XH61.here hx rfl (hb hby at_312) ?_
      show Steps p.tables e below (T60.setTop (mkF m 314 #[.val (.int p1), .val (.int p2), .val (.int p3), .val (.int p4), .val (.ref b2), .val (.int St), .val (.int Ln), .val (.int En), .val (.int (0 : Int32)), .val (.int (1 : Int32)), .val (.int Kk), .val (.int J), .val (.ref b34), .unset, .unset, .unset, .unset, .unset] [(.int (12 : Int32)), (.ref b34)])) _
      refine XS.iload XH61.here hx rfl (hb hby at_314) rfl ?_
      show Steps p.tables e below (T60.setTop (mkF m 316 #[.val (.int p1), .val (.int p2), .val (.int p3), .val (.int p4), .val (.ref b2), .val (.int St), .val (.int Ln), .val (.int En), .val (.int (0 : Int32)), .val (.int (1 : Int32)), .val (.int Kk), .val (.int J), .val (.ref b34), .unset, .unset, .unset, .unset, .unset] [(.int J), (.int (12 : Int32)), (.ref b34)])) _
      exact kt
    obtain ⟨cl_63, Ar_63, q_63, S_63, M_63, H_63, U_63⟩ := id V_b34_60
    obtain ⟨T63, h63, X63, e63, W63, st63⟩ := stB XH61 hx hZ e60 Ar_63 (j := (12 : Int32)) (inb_of S_63 ⟨(by decide : ¬ ((12 : Int32) < (0 : Int32))), (by decide : (12 : Int32) < (16 : Int32))⟩) (g := (mkF m 316 #[.val (.int p1), .val (.int p2), .val (.int p3), .val (.int p4), .val (.ref b2), .val (.int St), .val (.int Ln), .val (.int En), .val (.int (0 : Int32)), .val (.int (1 : Int32)), .val (.int Kk), .val (.int J), .val (.ref b34), .unset, .unset, .unset, .unset, .unset] [(.int J), (.int (12 : Int32)), (.ref b34)])) rfl rfl (hb hby at_316)
    have V_b34_63 : Arv Z h63 b34 k34 .byte (16 : Int32) [(.int (nar .byte J)), (.int (nar .byte J)), (.int (nar .byte J)), (.int (nar .byte J)), (.int (nar .byte J)), (.int (nar .byte J)), (.int (nar .byte J)), (.int (nar .byte J)), (.int (nar .byte J)), (.int (nar .byte J)), (.int (nar .byte J)), (.int (nar .byte J)), (.int (nar .byte J)), (.int (0 : Int32)), (.int (0 : Int32)), (.int (0 : Int32))] (.int (0 : Int32)) := Arv.set Ar_63 q_63 S_63 M_63 H_63 U_63 (fits_nar_byte _) W63 12 rfl (Nat.le_of_ble_eq_true rfl)
    have VA_63 : Arv Z h63 b2 k2 .byte (8 : Int32) (own_l8 x0 x1 x2 x3 x4 x5 x6 x7) (.int (0 : Int32)) := VA_60.other W63 ne_b2_b34
    have Z63 : n0 ≤ h63.size := Nat.le_trans Z60 (Keep.of_wr W63).1
    have N63 := Fr.snoc X63 NH61 g_b34
    have G63 : ∀ t, Steps p.tables e below (T63.setTop (mkF m 317 #[.val (.int p1), .val (.int p2), .val (.int p3), .val (.int p4), .val (.ref b2), .val (.int St), .val (.int Ln), .val (.int En), .val (.int (0 : Int32)), .val (.int (1 : Int32)), .val (.int Kk), .val (.int J), .val (.ref b34), .unset, .unset, .unset, .unset, .unset] [])) t → Steps p.tables e below (s₁.setTop (entryFrame m #[(.int p1), (.int p2), (.int p3), (.int p4)] maxLocals)) t := fun t kt => G62 t (st63 t kt)
    have G64 : ∀ t, Steps p.tables e below (T63.setTop (mkF m 323 #[.val (.int p1), .val (.int p2), .val (.int p3), .val (.int p4), .val (.ref b2), .val (.int St), .val (.int Ln), .val (.int En), .val (.int (0 : Int32)), .val (.int (1 : Int32)), .val (.int Kk), .val (.int J), .val (.ref b34), .unset, .unset, .unset, .unset, .unset] [(.int J), (.int (13 : Int32)), (.ref b34)])) t → Steps p.tables e below (s₁.setTop (entryFrame m #[(.int p1), (.int p2), (.int p3), (.int p4)] maxLocals)) t := by
      intro t kt
      refine G63 t ?_
      show Steps p.tables e below (T63.setTop (mkF m 317 #[.val (.int p1), .val (.int p2), .val (.int p3), .val (.int p4), .val (.ref b2), .val (.int St), .val (.int Ln), .val (.int En), .val (.int (0 : Int32)), .val (.int (1 : Int32)), .val (.int Kk), .val (.int J), .val (.ref b34), .unset, .unset, .unset, .unset, .unset] [])) _
      refine XS.aload X63.here hx rfl (hb hby at_317) rfl rfl ?_
      show Steps p.tables e below (T63.setTop (mkF m 319 #[.val (.int p1), .val (.int p2), .val (.int p3), .val (.int p4), .val (.ref b2), .val (.int St), .val (.int Ln), .val (.int En), .val (.int (0 : Int32)), .val (.int (1 : Int32)), .val (.int Kk), .val (.int J), .val (.ref b34), .unset, .unset, .unset, .unset, .unset] [(.ref b34)])) _
      refine XS.bipush X63.here hx rfl (hb hby at_319) ?_
      show Steps p.tables e below (T63.setTop (mkF m 321 #[.val (.int p1), .val (.int p2), .val (.int p3), .val (.int p4), .val (.ref b2), .val (.int St), .val (.int Ln), .val (.int En), .val (.int (0 : Int32)), .val (.int (1 : Int32)), .val (.int Kk), .val (.int J), .val (.ref b34), .unset, .unset, .unset, .unset, .unset] [(.int (13 : Int32)), (.ref b34)])) _
      refine XS.iload X63.here hx rfl (hb hby at_321) rfl ?_
      show Steps p.tables e below (T63.setTop (mkF m 323 #[.val (.int p1), .val (.int p2), .val (.int p3), .val (.int p4), .val (.ref b2), .val (.int St), .val (.int Ln), .val (.int En), .val (.int (0 : Int32)), .val (.int (1 : Int32)), .val (.int Kk), .val (.int J), .val (.ref b34), .unset, .unset, .unset, .unset, .unset] [(.int J), (.int (13 : Int32)), (.ref b34)])) _
      exact kt
    obtain ⟨cl_65, Ar_65, q_65, S_65, M_65, H_65, U_65⟩ := id V_b34_63
    obtain ⟨T65, h65, X65, e65, W65, st65⟩ := stB X63 hx hZ e63 Ar_65 (j := (13 : Int32)) (inb_of S_65 ⟨(by decide : ¬ ((13 : Int32) < (0 : Int32))), (by decide : (13 : Int32) < (16 : Int32))⟩) (g := (mkF m 323 #[.val (.int p1), .val (.int p2), .val (.int p3), .val (.int p4), .val (.ref b2), .val (.int St), .val (.int Ln), .val (.int En), .val (.int (0 : Int32)), .val (.int (1 : Int32)), .val (.int Kk), .val (.int J), .val (.ref b34), .unset, .unset, .unset, .unset, .unset] [(.int J), (.int (13 : Int32)), (.ref b34)])) rfl rfl (hb hby at_323)
    have V_b34_65 : Arv Z h65 b34 k34 .byte (16 : Int32) [(.int (nar .byte J)), (.int (nar .byte J)), (.int (nar .byte J)), (.int (nar .byte J)), (.int (nar .byte J)), (.int (nar .byte J)), (.int (nar .byte J)), (.int (nar .byte J)), (.int (nar .byte J)), (.int (nar .byte J)), (.int (nar .byte J)), (.int (nar .byte J)), (.int (nar .byte J)), (.int (nar .byte J)), (.int (0 : Int32)), (.int (0 : Int32))] (.int (0 : Int32)) := Arv.set Ar_65 q_65 S_65 M_65 H_65 U_65 (fits_nar_byte _) W65 13 rfl (Nat.le_of_ble_eq_true rfl)
    have VA_65 : Arv Z h65 b2 k2 .byte (8 : Int32) (own_l8 x0 x1 x2 x3 x4 x5 x6 x7) (.int (0 : Int32)) := VA_63.other W65 ne_b2_b34
    have Z65 : n0 ≤ h65.size := Nat.le_trans Z63 (Keep.of_wr W65).1
    have N65 := Fr.snoc X65 N63 g_b34
    have G65 : ∀ t, Steps p.tables e below (T65.setTop (mkF m 324 #[.val (.int p1), .val (.int p2), .val (.int p3), .val (.int p4), .val (.ref b2), .val (.int St), .val (.int Ln), .val (.int En), .val (.int (0 : Int32)), .val (.int (1 : Int32)), .val (.int Kk), .val (.int J), .val (.ref b34), .unset, .unset, .unset, .unset, .unset] [])) t → Steps p.tables e below (s₁.setTop (entryFrame m #[(.int p1), (.int p2), (.int p3), (.int p4)] maxLocals)) t := fun t kt => G64 t (st65 t kt)
    have G66 : ∀ t, Steps p.tables e below (T65.setTop (mkF m 330 #[.val (.int p1), .val (.int p2), .val (.int p3), .val (.int p4), .val (.ref b2), .val (.int St), .val (.int Ln), .val (.int En), .val (.int (0 : Int32)), .val (.int (1 : Int32)), .val (.int Kk), .val (.int J), .val (.ref b34), .unset, .unset, .unset, .unset, .unset] [(.int J), (.int (14 : Int32)), (.ref b34)])) t → Steps p.tables e below (s₁.setTop (entryFrame m #[(.int p1), (.int p2), (.int p3), (.int p4)] maxLocals)) t := by
      intro t kt
      refine G65 t ?_
      show Steps p.tables e below (T65.setTop (mkF m 324 #[.val (.int p1), .val (.int p2), .val (.int p3), .val (.int p4), .val (.ref b2), .val (.int St), .val (.int Ln), .val (.int En), .val (.int (0 : Int32)), .val (.int (1 : Int32)), .val (.int Kk), .val (.int J), .val (.ref b34), .unset, .unset, .unset, .unset, .unset] [])) _
      refine XS.aload X65.here hx rfl (hb hby at_324) rfl rfl ?_
      show Steps p.tables e below (T65.setTop (mkF m 326 #[.val (.int p1), .val (.int p2), .val (.int p3), .val (.int p4), .val (.ref b2), .val (.int St), .val (.int Ln), .val (.int En), .val (.int (0 : Int32)), .val (.int (1 : Int32)), .val (.int Kk), .val (.int J), .val (.ref b34), .unset, .unset, .unset, .unset, .unset] [(.ref b34)])) _
      refine XS.bipush X65.here hx rfl (hb hby at_326) ?_
      show Steps p.tables e below (T65.setTop (mkF m 328 #[.val (.int p1), .val (.int p2), .val (.int p3), .val (.int p4), .val (.ref b2), .val (.int St), .val (.int Ln), .val (.int En), .val (.int (0 : Int32)), .val (.int (1 : Int32)), .val (.int Kk), .val (.int J), .val (.ref b34), .unset, .unset, .unset, .unset, .unset] [(.int (14 : Int32)), (.ref b34)])) _
      refine XS.iload X65.here hx rfl (hb hby at_328) rfl ?_
      show Steps p.tables e below (T65.setTop (mkF m 330 #[.val (.int p1), .val (.int p2), .val (.int p3), .val (.int p4), .val (.ref b2), .val (.int St), .val (.int Ln), .val (.int En), .val (.int (0 : Int32)), .val (.int (1 : Int32)), .val (.int Kk), .val (.int J), .val (.ref b34), .unset, .unset, .unset, .unset, .unset] [(.int J), (.int (14 : Int32)), (.ref b34)])) _
      exact kt
    obtain ⟨cl_67, Ar_67, q_67, S_67, M_67, H_67, U_67⟩ := id V_b34_65
    obtain ⟨T67, h67, X67, e67, W67, st67⟩ := stB X65 hx hZ e65 Ar_67 (j := (14 : Int32)) (inb_of S_67 ⟨(by decide : ¬ ((14 : Int32) < (0 : Int32))), (by decide : (14 : Int32) < (16 : Int32))⟩) (g := (mkF m 330 #[.val (.int p1), .val (.int p2), .val (.int p3), .val (.int p4), .val (.ref b2), .val (.int St), .val (.int Ln), .val (.int En), .val (.int (0 : Int32)), .val (.int (1 : Int32)), .val (.int Kk), .val (.int J), .val (.ref b34), .unset, .unset, .unset, .unset, .unset] [(.int J), (.int (14 : Int32)), (.ref b34)])) rfl rfl (hb hby at_330)
    have V_b34_67 : Arv Z h67 b34 k34 .byte (16 : Int32) [(.int (nar .byte J)), (.int (nar .byte J)), (.int (nar .byte J)), (.int (nar .byte J)), (.int (nar .byte J)), (.int (nar .byte J)), (.int (nar .byte J)), (.int (nar .byte J)), (.int (nar .byte J)), (.int (nar .byte J)), (.int (nar .byte J)), (.int (nar .byte J)), (.int (nar .byte J)), (.int (nar .byte J)), (.int (nar .byte J)), (.int (0 : Int32))] (.int (0 : Int32)) := Arv.set Ar_67 q_67 S_67 M_67 H_67 U_67 (fits_nar_byte _) W67 14 rfl (Nat.le_of_ble_eq_true rfl)
    have VA_67 : Arv Z h67 b2 k2 .byte (8 : Int32) (own_l8 x0 x1 x2 x3 x4 x5 x6 x7) (.int (0 : Int32)) := VA_65.other W67 ne_b2_b34
    have Z67 : n0 ≤ h67.size := Nat.le_trans Z65 (Keep.of_wr W67).1
    have N67 := Fr.snoc X67 N65 g_b34
    have G67 : ∀ t, Steps p.tables e below (T67.setTop (mkF m 331 #[.val (.int p1), .val (.int p2), .val (.int p3), .val (.int p4), .val (.ref b2), .val (.int St), .val (.int Ln), .val (.int En), .val (.int (0 : Int32)), .val (.int (1 : Int32)), .val (.int Kk), .val (.int J), .val (.ref b34), .unset, .unset, .unset, .unset, .unset] [])) t → Steps p.tables e below (s₁.setTop (entryFrame m #[(.int p1), (.int p2), (.int p3), (.int p4)] maxLocals)) t := fun t kt => G66 t (st67 t kt)
    have G68 : ∀ t, Steps p.tables e below (T67.setTop (mkF m 337 #[.val (.int p1), .val (.int p2), .val (.int p3), .val (.int p4), .val (.ref b2), .val (.int St), .val (.int Ln), .val (.int En), .val (.int (0 : Int32)), .val (.int (1 : Int32)), .val (.int Kk), .val (.int J), .val (.ref b34), .unset, .unset, .unset, .unset, .unset] [(.int J), (.int (15 : Int32)), (.ref b34)])) t → Steps p.tables e below (s₁.setTop (entryFrame m #[(.int p1), (.int p2), (.int p3), (.int p4)] maxLocals)) t := by
      intro t kt
      refine G67 t ?_
      show Steps p.tables e below (T67.setTop (mkF m 331 #[.val (.int p1), .val (.int p2), .val (.int p3), .val (.int p4), .val (.ref b2), .val (.int St), .val (.int Ln), .val (.int En), .val (.int (0 : Int32)), .val (.int (1 : Int32)), .val (.int Kk), .val (.int J), .val (.ref b34), .unset, .unset, .unset, .unset, .unset] [])) _
      refine XS.aload X67.here hx rfl (hb hby at_331) rfl rfl ?_
      show Steps p.tables e below (T67.setTop (mkF m 333 #[.val (.int p1), .val (.int p2), .val (.int p3), .val (.int p4), .val (.ref b2), .val (.int St), .val (.int Ln), .val (.int En), .val (.int (0 : Int32)), .val (.int (1 : Int32)), .val (.int Kk), .val (.int J), .val (.ref b34), .unset, .unset, .unset, .unset, .unset] [(.ref b34)])) _
      refine XS.bipush X67.here hx rfl (hb hby at_333) ?_
      show Steps p.tables e below (T67.setTop (mkF m 335 #[.val (.int p1), .val (.int p2), .val (.int p3), .val (.int p4), .val (.ref b2), .val (.int St), .val (.int Ln), .val (.int En), .val (.int (0 : Int32)), .val (.int (1 : Int32)), .val (.int Kk), .val (.int J), .val (.ref b34), .unset, .unset, .unset, .unset, .unset] [(.int (15 : Int32)), (.ref b34)])) _
      refine XS.iload X67.here hx rfl (hb hby at_335) rfl ?_
      show Steps p.tables e below (T67.setTop (mkF m 337 #[.val (.int p1), .val (.int p2), .val (.int p3), .val (.int p4), .val (.ref b2), .val (.int St), .val (.int Ln), .val (.int En), .val (.int (0 : Int32)), .val (.int (1 : Int32)), .val (.int Kk), .val (.int J), .val (.ref b34), .unset, .unset, .unset, .unset, .unset] [(.int J), (.int (15 : Int32)), (.ref b34)])) _
      exact kt
    obtain ⟨cl_69, Ar_69, q_69, S_69, M_69, H_69, U_69⟩ := id V_b34_67
    obtain ⟨T69, h69, X69, e69, W69, st69⟩ := stB X67 hx hZ e67 Ar_69 (j := (15 : Int32)) (inb_of S_69 ⟨(by decide : ¬ ((15 : Int32) < (0 : Int32))), (by decide : (15 : Int32) < (16 : Int32))⟩) (g := (mkF m 337 #[.val (.int p1), .val (.int p2), .val (.int p3), .val (.int p4), .val (.ref b2), .val (.int St), .val (.int Ln), .val (.int En), .val (.int (0 : Int32)), .val (.int (1 : Int32)), .val (.int Kk), .val (.int J), .val (.ref b34), .unset, .unset, .unset, .unset, .unset] [(.int J), (.int (15 : Int32)), (.ref b34)])) rfl rfl (hb hby at_337)
    have V_b34_69 : Arv Z h69 b34 k34 .byte (16 : Int32) [(.int (nar .byte J)), (.int (nar .byte J)), (.int (nar .byte J)), (.int (nar .byte J)), (.int (nar .byte J)), (.int (nar .byte J)), (.int (nar .byte J)), (.int (nar .byte J)), (.int (nar .byte J)), (.int (nar .byte J)), (.int (nar .byte J)), (.int (nar .byte J)), (.int (nar .byte J)), (.int (nar .byte J)), (.int (nar .byte J)), (.int (nar .byte J))] (.int (0 : Int32)) := Arv.set Ar_69 q_69 S_69 M_69 H_69 U_69 (fits_nar_byte _) W69 15 rfl (Nat.le_of_ble_eq_true rfl)
    have VA_69 : Arv Z h69 b2 k2 .byte (8 : Int32) (own_l8 x0 x1 x2 x3 x4 x5 x6 x7) (.int (0 : Int32)) := VA_67.other W69 ne_b2_b34
    have Z69 : n0 ≤ h69.size := Nat.le_trans Z67 (Keep.of_wr W69).1
    have N69 := Fr.snoc X69 N67 g_b34
    have G69 : ∀ t, Steps p.tables e below (T69.setTop (mkF m 338 #[.val (.int p1), .val (.int p2), .val (.int p3), .val (.int p4), .val (.ref b2), .val (.int St), .val (.int Ln), .val (.int En), .val (.int (0 : Int32)), .val (.int (1 : Int32)), .val (.int Kk), .val (.int J), .val (.ref b34), .unset, .unset, .unset, .unset, .unset] [])) t → Steps p.tables e below (s₁.setTop (entryFrame m #[(.int p1), (.int p2), (.int p3), (.int p4)] maxLocals)) t := fun t kt => G68 t (st69 t kt)
    obtain ⟨LH70, XH70, NH70⟩ : ∃ L', Stand p l e room_1 s m #[(.int p1), (.int p2), (.int p3), (.int p4)] below meth c T69 L' 2 24 ∧ Fr n0 L' := ⟨_, X69, N69⟩
    have G71 : ∀ t, Steps p.tables e below (T69.setTop (mkF m 345 #[.val (.int p1), .val (.int p2), .val (.int p3), .val (.int p4), .val (.ref b2), .val (.int St), .val (.int Ln), .val (.int En), .val (.int (0 : Int32)), .val (.int (1 : Int32)), .val (.int Kk), .val (.int J), .val (.ref b34), .unset, .unset, .unset, .unset, .unset] [(.int (0 : Int32)), (.ref b2), (.int Kk), (.ref b34)])) t → Steps p.tables e below (s₁.setTop (entryFrame m #[(.int p1), (.int p2), (.int p3), (.int p4)] maxLocals)) t := by
      intro t kt
      refine G69 t ?_
      show Steps p.tables e below (T69.setTop (mkF m 338 #[.val (.int p1), .val (.int p2), .val (.int p3), .val (.int p4), .val (.ref b2), .val (.int St), .val (.int Ln), .val (.int En), .val (.int (0 : Int32)), .val (.int (1 : Int32)), .val (.int Kk), .val (.int J), .val (.ref b34), .unset, .unset, .unset, .unset, .unset] [])) _
      refine XS.aload XH70.here hx rfl (hb hby at_338) rfl rfl ?_
      show Steps p.tables e below (T69.setTop (mkF m 340 #[.val (.int p1), .val (.int p2), .val (.int p3), .val (.int p4), .val (.ref b2), .val (.int St), .val (.int Ln), .val (.int En), .val (.int (0 : Int32)), .val (.int (1 : Int32)), .val (.int Kk), .val (.int J), .val (.ref b34), .unset, .unset, .unset, .unset, .unset] [(.ref b34)])) _
      refine XS.iload XH70.here hx rfl (hb hby at_340) rfl ?_
      show Steps p.tables e below (T69.setTop (mkF m 342 #[.val (.int p1), .val (.int p2), .val (.int p3), .val (.int p4), .val (.ref b2), .val (.int St), .val (.int Ln), .val (.int En), .val (.int (0 : Int32)), .val (.int (1 : Int32)), .val (.int Kk), .val (.int J), .val (.ref b34), .unset, .unset, .unset, .unset, .unset] [(.int Kk), (.ref b34)])) _
      refine XS.aload XH70.here hx rfl (hb hby at_342) rfl rfl ?_
      show Steps p.tables e below (T69.setTop (mkF m 344 #[.val (.int p1), .val (.int p2), .val (.int p3), .val (.int p4), .val (.ref b2), .val (.int St), .val (.int Ln), .val (.int En), .val (.int (0 : Int32)), .val (.int (1 : Int32)), .val (.int Kk), .val (.int J), .val (.ref b34), .unset, .unset, .unset, .unset, .unset] [(.ref b2), (.int Kk), (.ref b34)])) _
      refine XS.iconst XH70.here hx rfl (hb hby at_344) ?_
      show Steps p.tables e below (T69.setTop (mkF m 345 #[.val (.int p1), .val (.int p2), .val (.int p3), .val (.int p4), .val (.ref b2), .val (.int St), .val (.int Ln), .val (.int En), .val (.int (0 : Int32)), .val (.int (1 : Int32)), .val (.int Kk), .val (.int J), .val (.ref b34), .unset, .unset, .unset, .unset, .unset] [(.int (0 : Int32)), (.ref b2), (.int Kk), (.ref b34)])) _
      exact kt
    obtain ⟨clA_d0, ArA_d0, qA_d0, SA_d0, MA_d0, HA_d0, UA_d0⟩ := id VA_69
    have hin_d0 := inb_of SA_d0 (own_bd8 (I := (0 : Int32)) (n := 0) rfl (by decide))
    have hat_d0 : clA_d0.slots[((0 : Int32)).toNatClampNeg]? = some (.int x0) := HA_d0.at hin_d0 rfl
    have G72 : ∀ t, Steps p.tables e below (T69.setTop (mkF m 346 #[.val (.int p1), .val (.int p2), .val (.int p3), .val (.int p4), .val (.ref b2), .val (.int St), .val (.int Ln), .val (.int En), .val (.int (0 : Int32)), .val (.int (1 : Int32)), .val (.int Kk), .val (.int J), .val (.ref b34), .unset, .unset, .unset, .unset, .unset] [(.int x0), (.int Kk), (.ref b34)])) t → Steps p.tables e below (s₁.setTop (entryFrame m #[(.int p1), (.int p2), (.int p3), (.int p4)] maxLocals)) t := by
      intro t kt
      refine G71 t ?_
      show Steps p.tables e below (T69.setTop (mkF m 345 #[.val (.int p1), .val (.int p2), .val (.int p3), .val (.int p4), .val (.ref b2), .val (.int St), .val (.int Ln), .val (.int En), .val (.int (0 : Int32)), .val (.int (1 : Int32)), .val (.int Kk), .val (.int J), .val (.ref b34), .unset, .unset, .unset, .unset, .unset] [(.int (0 : Int32)), (.ref b2), (.int Kk), (.ref b34)])) _
      refine XH70.baloadBytes hx (j := (0 : Int32)) (v := (.int x0)) (by rw [e69]; exact ArA_d0.1) (State.isArrayOf_alike hZ.alike ArA_d0.2.1) ArA_d0.2.2 hin_d0 hat_d0 (g := (mkF m 345 #[.val (.int p1), .val (.int p2), .val (.int p3), .val (.int p4), .val (.ref b2), .val (.int St), .val (.int Ln), .val (.int En), .val (.int (0 : Int32)), .val (.int (1 : Int32)), .val (.int Kk), .val (.int J), .val (.ref b34), .unset, .unset, .unset, .unset, .unset] [(.int (0 : Int32)), (.ref b2), (.int Kk), (.ref b34)])) rfl rfl (hb hby at_345) _ ?_
      show Steps p.tables e below (T69.setTop (mkF m 346 #[.val (.int p1), .val (.int p2), .val (.int p3), .val (.int p4), .val (.ref b2), .val (.int St), .val (.int Ln), .val (.int En), .val (.int (0 : Int32)), .val (.int (1 : Int32)), .val (.int Kk), .val (.int J), .val (.ref b34), .unset, .unset, .unset, .unset, .unset] [(.int x0), (.int Kk), (.ref b34)])) _
      exact kt
    obtain ⟨_, _, ⟨T73, L73, k73, n73⟩, -, X73, ⟨Lc73, hQ73, l73, y73, z73⟩, st73⟩ := Jvm.LawKit.callS XH70 hx (y := (⟨"com/example/evenkeel/evenkeel/http/HeaderNameHashPinLaw", "flip", "(B)B"⟩ : MethodName)) hown (mvT hZ (hw _ (List.mem_of_getElem? (i := 6) rfl))) (mvT hZ (hw _ (List.mem_of_getElem? (i := 7) rfl))) (mvT hZ (hw _ (List.mem_of_getElem? (i := 8) rfl))) (mvT hZ (hw _ (List.mem_of_getElem? (i := 9) rfl))) (by decide) (backOf (W := 2) (rm2 l Z a0 hw [] x0  h69 n0 Z69 ) hZ (hw _ (List.mem_of_getElem? (i := 9) rfl)) (hw _ (List.mem_of_getElem? (i := 8) rfl)) (by decide) (by decide)) (g := (mkF m 346 #[.val (.int p1), .val (.int p2), .val (.int p3), .val (.int p4), .val (.ref b2), .val (.int St), .val (.int Ln), .val (.int En), .val (.int (0 : Int32)), .val (.int (1 : Int32)), .val (.int Kk), .val (.int J), .val (.ref b34), .unset, .unset, .unset, .unset, .unset] [(.int x0), (.int Kk), (.ref b34)])) rfl (by rw [hml]; rfl) (argsL := [(.int x0)]) (rest := [(.int Kk), (.ref b34)]) (lenOf pd_1 rfl) rfl (by show 2 * 0 + _ ≤ _; exact Nat.le_of_eq rfl) (hb hby at_346) (fun _ _ => ⟨rfl, e69, (by decide : 2 + 0 ≤ _), (by decide : 24 + 0 ≤ _)⟩)
    dsimp only [Pt.U, Pt.locs, Pt.cells, Pt.slots] at X73 l73 y73 z73 st73 hQ73
    subst l73 y73 z73
    obtain ⟨rfl, N73q, e73⟩ := hQ73
    have N73 := Fr.app NH70 N73q
    have G73 : ∀ t, Steps p.tables e below (T73.setTop (mkF m 349 #[.val (.int p1), .val (.int p2), .val (.int p3), .val (.int p4), .val (.ref b2), .val (.int St), .val (.int Ln), .val (.int En), .val (.int (0 : Int32)), .val (.int (1 : Int32)), .val (.int Kk), .val (.int J), .val (.ref b34), .unset, .unset, .unset, .unset, .unset] [(.int (g2_0 x0)), (.int Kk), (.ref b34)])) t → Steps p.tables e below (s₁.setTop (entryFrame m #[(.int p1), (.int p2), (.int p3), (.int p4)] maxLocals)) t := fun t kt => G72 t (st73 t kt)
    obtain ⟨cl_74, Ar_74, q_74, S_74, M_74, H_74, U_74⟩ := id V_b34_69
    obtain ⟨T74, h74, X74, e74, W74, st74⟩ := stB X73 hx hZ e73 Ar_74 (j := Kk) (inb_of S_74 (own_bd16 hKs (by omega))) (g := (mkF m 349 #[.val (.int p1), .val (.int p2), .val (.int p3), .val (.int p4), .val (.ref b2), .val (.int St), .val (.int Ln), .val (.int En), .val (.int (0 : Int32)), .val (.int (1 : Int32)), .val (.int Kk), .val (.int J), .val (.ref b34), .unset, .unset, .unset, .unset, .unset] [(.int (g2_0 x0)), (.int Kk), (.ref b34)])) rfl rfl (hb hby at_349)
    have V_b34_74 : Arv Z h74 b34 k34 .byte (16 : Int32) (List.set [(.int (nar .byte J)), (.int (nar .byte J)), (.int (nar .byte J)), (.int (nar .byte J)), (.int (nar .byte J)), (.int (nar .byte J)), (.int (nar .byte J)), (.int (nar .byte J)), (.int (nar .byte J)), (.int (nar .byte J)), (.int (nar .byte J)), (.int (nar .byte J)), (.int (nar .byte J)), (.int (nar .byte J)), (.int (nar .byte J)), (.int (nar .byte J))] k (.int (nar .byte (g2_0 x0)))) (.int (0 : Int32)) := Arv.set Ar_74 q_74 S_74 M_74 H_74 U_74 (fits_nar_byte _) W74 k (own_nn hKs) (by simp only [List.length_set, List.length_cons, List.length_nil]; omega)
    have VA_74 : Arv Z h74 b2 k2 .byte (8 : Int32) (own_l8 x0 x1 x2 x3 x4 x5 x6 x7) (.int (0 : Int32)) := VA_69.other W74 ne_b2_b34
    have Z74 : n0 ≤ h74.size := Nat.le_trans Z69 (Keep.of_wr W74).1
    have N74 := Fr.snoc X74 N73 g_b34
    have G74 : ∀ t, Steps p.tables e below (T74.setTop (mkF m 350 #[.val (.int p1), .val (.int p2), .val (.int p3), .val (.int p4), .val (.ref b2), .val (.int St), .val (.int Ln), .val (.int En), .val (.int (0 : Int32)), .val (.int (1 : Int32)), .val (.int Kk), .val (.int J), .val (.ref b34), .unset, .unset, .unset, .unset, .unset] [])) t → Steps p.tables e below (s₁.setTop (entryFrame m #[(.int p1), (.int p2), (.int p3), (.int p4)] maxLocals)) t := fun t kt => G73 t (st74 t kt)
    obtain ⟨LH75, XH75, NH75⟩ : ∃ L', Stand p l e room_1 s m #[(.int p1), (.int p2), (.int p3), (.int p4)] below meth c T74 L' 2 24 ∧ Fr n0 L' := ⟨_, X74, N74⟩
    have G76 : ∀ t, Steps p.tables e below (T74.setTop (mkF m 359 #[.val (.int p1), .val (.int p2), .val (.int p3), .val (.int p4), .val (.ref b2), .val (.int St), .val (.int Ln), .val (.int En), .val (.int (0 : Int32)), .val (.int (1 : Int32)), .val (.int Kk), .val (.int J), .val (.ref b34), .unset, .unset, .unset, .unset, .unset] [(.int (1 : Int32)), (.ref b2), (.int (Kk + (1 : Int32))), (.ref b34)])) t → Steps p.tables e below (s₁.setTop (entryFrame m #[(.int p1), (.int p2), (.int p3), (.int p4)] maxLocals)) t := by
      intro t kt
      refine G74 t ?_
      show Steps p.tables e below (T74.setTop (mkF m 350 #[.val (.int p1), .val (.int p2), .val (.int p3), .val (.int p4), .val (.ref b2), .val (.int St), .val (.int Ln), .val (.int En), .val (.int (0 : Int32)), .val (.int (1 : Int32)), .val (.int Kk), .val (.int J), .val (.ref b34), .unset, .unset, .unset, .unset, .unset] [])) _
      refine XS.aload XH75.here hx rfl (hb hby at_350) rfl rfl ?_
      show Steps p.tables e below (T74.setTop (mkF m 352 #[.val (.int p1), .val (.int p2), .val (.int p3), .val (.int p4), .val (.ref b2), .val (.int St), .val (.int Ln), .val (.int En), .val (.int (0 : Int32)), .val (.int (1 : Int32)), .val (.int Kk), .val (.int J), .val (.ref b34), .unset, .unset, .unset, .unset, .unset] [(.ref b34)])) _
      refine XS.iload XH75.here hx rfl (hb hby at_352) rfl ?_
      show Steps p.tables e below (T74.setTop (mkF m 354 #[.val (.int p1), .val (.int p2), .val (.int p3), .val (.int p4), .val (.ref b2), .val (.int St), .val (.int Ln), .val (.int En), .val (.int (0 : Int32)), .val (.int (1 : Int32)), .val (.int Kk), .val (.int J), .val (.ref b34), .unset, .unset, .unset, .unset, .unset] [(.int Kk), (.ref b34)])) _
      refine XS.iconst XH75.here hx rfl (hb hby at_354) ?_
      show Steps p.tables e below (T74.setTop (mkF m 355 #[.val (.int p1), .val (.int p2), .val (.int p3), .val (.int p4), .val (.ref b2), .val (.int St), .val (.int Ln), .val (.int En), .val (.int (0 : Int32)), .val (.int (1 : Int32)), .val (.int Kk), .val (.int J), .val (.ref b34), .unset, .unset, .unset, .unset, .unset] [(.int (1 : Int32)), (.int Kk), (.ref b34)])) _
      refine XS.iadd XH75.here hx rfl (hb hby at_355) rfl ?_
      show Steps p.tables e below (T74.setTop (mkF m 356 #[.val (.int p1), .val (.int p2), .val (.int p3), .val (.int p4), .val (.ref b2), .val (.int St), .val (.int Ln), .val (.int En), .val (.int (0 : Int32)), .val (.int (1 : Int32)), .val (.int Kk), .val (.int J), .val (.ref b34), .unset, .unset, .unset, .unset, .unset] [(.int (Kk + (1 : Int32))), (.ref b34)])) _
      refine XS.aload XH75.here hx rfl (hb hby at_356) rfl rfl ?_
      show Steps p.tables e below (T74.setTop (mkF m 358 #[.val (.int p1), .val (.int p2), .val (.int p3), .val (.int p4), .val (.ref b2), .val (.int St), .val (.int Ln), .val (.int En), .val (.int (0 : Int32)), .val (.int (1 : Int32)), .val (.int Kk), .val (.int J), .val (.ref b34), .unset, .unset, .unset, .unset, .unset] [(.ref b2), (.int (Kk + (1 : Int32))), (.ref b34)])) _
      refine XS.iconst XH75.here hx rfl (hb hby at_358) ?_
      show Steps p.tables e below (T74.setTop (mkF m 359 #[.val (.int p1), .val (.int p2), .val (.int p3), .val (.int p4), .val (.ref b2), .val (.int St), .val (.int Ln), .val (.int En), .val (.int (0 : Int32)), .val (.int (1 : Int32)), .val (.int Kk), .val (.int J), .val (.ref b34), .unset, .unset, .unset, .unset, .unset] [(.int (1 : Int32)), (.ref b2), (.int (Kk + (1 : Int32))), (.ref b34)])) _
      exact kt
    obtain ⟨clA_d1, ArA_d1, qA_d1, SA_d1, MA_d1, HA_d1, UA_d1⟩ := id VA_74
    have hin_d1 := inb_of SA_d1 (own_bd8 (I := (1 : Int32)) (n := 1) rfl (by decide))
    have hat_d1 : clA_d1.slots[((1 : Int32)).toNatClampNeg]? = some (.int x1) := HA_d1.at hin_d1 rfl
    have G77 : ∀ t, Steps p.tables e below (T74.setTop (mkF m 360 #[.val (.int p1), .val (.int p2), .val (.int p3), .val (.int p4), .val (.ref b2), .val (.int St), .val (.int Ln), .val (.int En), .val (.int (0 : Int32)), .val (.int (1 : Int32)), .val (.int Kk), .val (.int J), .val (.ref b34), .unset, .unset, .unset, .unset, .unset] [(.int x1), (.int (Kk + (1 : Int32))), (.ref b34)])) t → Steps p.tables e below (s₁.setTop (entryFrame m #[(.int p1), (.int p2), (.int p3), (.int p4)] maxLocals)) t := by
      intro t kt
      refine G76 t ?_
      show Steps p.tables e below (T74.setTop (mkF m 359 #[.val (.int p1), .val (.int p2), .val (.int p3), .val (.int p4), .val (.ref b2), .val (.int St), .val (.int Ln), .val (.int En), .val (.int (0 : Int32)), .val (.int (1 : Int32)), .val (.int Kk), .val (.int J), .val (.ref b34), .unset, .unset, .unset, .unset, .unset] [(.int (1 : Int32)), (.ref b2), (.int (Kk + (1 : Int32))), (.ref b34)])) _
      refine XH75.baloadBytes hx (j := (1 : Int32)) (v := (.int x1)) (by rw [e74]; exact ArA_d1.1) (State.isArrayOf_alike hZ.alike ArA_d1.2.1) ArA_d1.2.2 hin_d1 hat_d1 (g := (mkF m 359 #[.val (.int p1), .val (.int p2), .val (.int p3), .val (.int p4), .val (.ref b2), .val (.int St), .val (.int Ln), .val (.int En), .val (.int (0 : Int32)), .val (.int (1 : Int32)), .val (.int Kk), .val (.int J), .val (.ref b34), .unset, .unset, .unset, .unset, .unset] [(.int (1 : Int32)), (.ref b2), (.int (Kk + (1 : Int32))), (.ref b34)])) rfl rfl (hb hby at_359) _ ?_
      show Steps p.tables e below (T74.setTop (mkF m 360 #[.val (.int p1), .val (.int p2), .val (.int p3), .val (.int p4), .val (.ref b2), .val (.int St), .val (.int Ln), .val (.int En), .val (.int (0 : Int32)), .val (.int (1 : Int32)), .val (.int Kk), .val (.int J), .val (.ref b34), .unset, .unset, .unset, .unset, .unset] [(.int x1), (.int (Kk + (1 : Int32))), (.ref b34)])) _
      exact kt
    obtain ⟨_, _, ⟨T78, L78, k78, n78⟩, -, X78, ⟨Lc78, hQ78, l78, y78, z78⟩, st78⟩ := Jvm.LawKit.callS XH75 hx (y := (⟨"com/example/evenkeel/evenkeel/http/HeaderNameHashPinLaw", "flip", "(B)B"⟩ : MethodName)) hown (mvT hZ (hw _ (List.mem_of_getElem? (i := 6) rfl))) (mvT hZ (hw _ (List.mem_of_getElem? (i := 7) rfl))) (mvT hZ (hw _ (List.mem_of_getElem? (i := 8) rfl))) (mvT hZ (hw _ (List.mem_of_getElem? (i := 9) rfl))) (by decide) (backOf (W := 2) (rm2 l Z a0 hw [] x1  h74 n0 Z74 ) hZ (hw _ (List.mem_of_getElem? (i := 9) rfl)) (hw _ (List.mem_of_getElem? (i := 8) rfl)) (by decide) (by decide)) (g := (mkF m 360 #[.val (.int p1), .val (.int p2), .val (.int p3), .val (.int p4), .val (.ref b2), .val (.int St), .val (.int Ln), .val (.int En), .val (.int (0 : Int32)), .val (.int (1 : Int32)), .val (.int Kk), .val (.int J), .val (.ref b34), .unset, .unset, .unset, .unset, .unset] [(.int x1), (.int (Kk + (1 : Int32))), (.ref b34)])) rfl (by rw [hml]; rfl) (argsL := [(.int x1)]) (rest := [(.int (Kk + (1 : Int32))), (.ref b34)]) (lenOf pd_1 rfl) rfl (by show 2 * 0 + _ ≤ _; exact Nat.le_of_eq rfl) (hb hby at_360) (fun _ _ => ⟨rfl, e74, (by decide : 2 + 0 ≤ _), (by decide : 24 + 0 ≤ _)⟩)
    dsimp only [Pt.U, Pt.locs, Pt.cells, Pt.slots] at X78 l78 y78 z78 st78 hQ78
    subst l78 y78 z78
    obtain ⟨rfl, N78q, e78⟩ := hQ78
    have N78 := Fr.app NH75 N78q
    have G78 : ∀ t, Steps p.tables e below (T78.setTop (mkF m 363 #[.val (.int p1), .val (.int p2), .val (.int p3), .val (.int p4), .val (.ref b2), .val (.int St), .val (.int Ln), .val (.int En), .val (.int (0 : Int32)), .val (.int (1 : Int32)), .val (.int Kk), .val (.int J), .val (.ref b34), .unset, .unset, .unset, .unset, .unset] [(.int (g2_0 x1)), (.int (Kk + (1 : Int32))), (.ref b34)])) t → Steps p.tables e below (s₁.setTop (entryFrame m #[(.int p1), (.int p2), (.int p3), (.int p4)] maxLocals)) t := fun t kt => G77 t (st78 t kt)
    obtain ⟨cl_79, Ar_79, q_79, S_79, M_79, H_79, U_79⟩ := id V_b34_74
    obtain ⟨T79, h79, X79, e79, W79, st79⟩ := stB X78 hx hZ e78 Ar_79 (j := (Kk + (1 : Int32))) (inb_of S_79 (own_bd16 (own_add hKs (m := 1) rfl (by omega)) (by omega))) (g := (mkF m 363 #[.val (.int p1), .val (.int p2), .val (.int p3), .val (.int p4), .val (.ref b2), .val (.int St), .val (.int Ln), .val (.int En), .val (.int (0 : Int32)), .val (.int (1 : Int32)), .val (.int Kk), .val (.int J), .val (.ref b34), .unset, .unset, .unset, .unset, .unset] [(.int (g2_0 x1)), (.int (Kk + (1 : Int32))), (.ref b34)])) rfl rfl (hb hby at_363)
    have V_b34_79 : Arv Z h79 b34 k34 .byte (16 : Int32) (List.set (List.set [(.int (nar .byte J)), (.int (nar .byte J)), (.int (nar .byte J)), (.int (nar .byte J)), (.int (nar .byte J)), (.int (nar .byte J)), (.int (nar .byte J)), (.int (nar .byte J)), (.int (nar .byte J)), (.int (nar .byte J)), (.int (nar .byte J)), (.int (nar .byte J)), (.int (nar .byte J)), (.int (nar .byte J)), (.int (nar .byte J)), (.int (nar .byte J))] k (.int (nar .byte (g2_0 x0)))) (k + 1) (.int (nar .byte (g2_0 x1)))) (.int (0 : Int32)) := Arv.set Ar_79 q_79 S_79 M_79 H_79 U_79 (fits_nar_byte _) W79 (k + 1) (own_nn (own_add hKs (m := 1) rfl (by omega))) (by simp only [List.length_set, List.length_cons, List.length_nil]; omega)
    have VA_79 : Arv Z h79 b2 k2 .byte (8 : Int32) (own_l8 x0 x1 x2 x3 x4 x5 x6 x7) (.int (0 : Int32)) := VA_74.other W79 ne_b2_b34
    have Z79 : n0 ≤ h79.size := Nat.le_trans Z74 (Keep.of_wr W79).1
    have N79 := Fr.snoc X79 N78 g_b34
    have G79 : ∀ t, Steps p.tables e below (T79.setTop (mkF m 364 #[.val (.int p1), .val (.int p2), .val (.int p3), .val (.int p4), .val (.ref b2), .val (.int St), .val (.int Ln), .val (.int En), .val (.int (0 : Int32)), .val (.int (1 : Int32)), .val (.int Kk), .val (.int J), .val (.ref b34), .unset, .unset, .unset, .unset, .unset] [])) t → Steps p.tables e below (s₁.setTop (entryFrame m #[(.int p1), (.int p2), (.int p3), (.int p4)] maxLocals)) t := fun t kt => G78 t (st79 t kt)
    obtain ⟨LH80, XH80, NH80⟩ : ∃ L', Stand p l e room_1 s m #[(.int p1), (.int p2), (.int p3), (.int p4)] below meth c T79 L' 2 24 ∧ Fr n0 L' := ⟨_, X79, N79⟩
    have G81 : ∀ t, Steps p.tables e below (T79.setTop (mkF m 373 #[.val (.int p1), .val (.int p2), .val (.int p3), .val (.int p4), .val (.ref b2), .val (.int St), .val (.int Ln), .val (.int En), .val (.int (0 : Int32)), .val (.int (1 : Int32)), .val (.int Kk), .val (.int J), .val (.ref b34), .unset, .unset, .unset, .unset, .unset] [(.int (2 : Int32)), (.ref b2), (.int (Kk + (2 : Int32))), (.ref b34)])) t → Steps p.tables e below (s₁.setTop (entryFrame m #[(.int p1), (.int p2), (.int p3), (.int p4)] maxLocals)) t := by
      intro t kt
      refine G79 t ?_
      show Steps p.tables e below (T79.setTop (mkF m 364 #[.val (.int p1), .val (.int p2), .val (.int p3), .val (.int p4), .val (.ref b2), .val (.int St), .val (.int Ln), .val (.int En), .val (.int (0 : Int32)), .val (.int (1 : Int32)), .val (.int Kk), .val (.int J), .val (.ref b34), .unset, .unset, .unset, .unset, .unset] [])) _
      refine XS.aload XH80.here hx rfl (hb hby at_364) rfl rfl ?_
      show Steps p.tables e below (T79.setTop (mkF m 366 #[.val (.int p1), .val (.int p2), .val (.int p3), .val (.int p4), .val (.ref b2), .val (.int St), .val (.int Ln), .val (.int En), .val (.int (0 : Int32)), .val (.int (1 : Int32)), .val (.int Kk), .val (.int J), .val (.ref b34), .unset, .unset, .unset, .unset, .unset] [(.ref b34)])) _
      refine XS.iload XH80.here hx rfl (hb hby at_366) rfl ?_
      show Steps p.tables e below (T79.setTop (mkF m 368 #[.val (.int p1), .val (.int p2), .val (.int p3), .val (.int p4), .val (.ref b2), .val (.int St), .val (.int Ln), .val (.int En), .val (.int (0 : Int32)), .val (.int (1 : Int32)), .val (.int Kk), .val (.int J), .val (.ref b34), .unset, .unset, .unset, .unset, .unset] [(.int Kk), (.ref b34)])) _
      refine XS.iconst XH80.here hx rfl (hb hby at_368) ?_
      show Steps p.tables e below (T79.setTop (mkF m 369 #[.val (.int p1), .val (.int p2), .val (.int p3), .val (.int p4), .val (.ref b2), .val (.int St), .val (.int Ln), .val (.int En), .val (.int (0 : Int32)), .val (.int (1 : Int32)), .val (.int Kk), .val (.int J), .val (.ref b34), .unset, .unset, .unset, .unset, .unset] [(.int (2 : Int32)), (.int Kk), (.ref b34)])) _
      refine XS.iadd XH80.here hx rfl (hb hby at_369) rfl ?_
      show Steps p.tables e below (T79.setTop (mkF m 370 #[.val (.int p1), .val (.int p2), .val (.int p3), .val (.int p4), .val (.ref b2), .val (.int St), .val (.int Ln), .val (.int En), .val (.int (0 : Int32)), .val (.int (1 : Int32)), .val (.int Kk), .val (.int J), .val (.ref b34), .unset, .unset, .unset, .unset, .unset] [(.int (Kk + (2 : Int32))), (.ref b34)])) _
      refine XS.aload XH80.here hx rfl (hb hby at_370) rfl rfl ?_
      show Steps p.tables e below (T79.setTop (mkF m 372 #[.val (.int p1), .val (.int p2), .val (.int p3), .val (.int p4), .val (.ref b2), .val (.int St), .val (.int Ln), .val (.int En), .val (.int (0 : Int32)), .val (.int (1 : Int32)), .val (.int Kk), .val (.int J), .val (.ref b34), .unset, .unset, .unset, .unset, .unset] [(.ref b2), (.int (Kk + (2 : Int32))), (.ref b34)])) _
      refine XS.iconst XH80.here hx rfl (hb hby at_372) ?_
      show Steps p.tables e below (T79.setTop (mkF m 373 #[.val (.int p1), .val (.int p2), .val (.int p3), .val (.int p4), .val (.ref b2), .val (.int St), .val (.int Ln), .val (.int En), .val (.int (0 : Int32)), .val (.int (1 : Int32)), .val (.int Kk), .val (.int J), .val (.ref b34), .unset, .unset, .unset, .unset, .unset] [(.int (2 : Int32)), (.ref b2), (.int (Kk + (2 : Int32))), (.ref b34)])) _
      exact kt
    obtain ⟨clA_d2, ArA_d2, qA_d2, SA_d2, MA_d2, HA_d2, UA_d2⟩ := id VA_79
    have hin_d2 := inb_of SA_d2 (own_bd8 (I := (2 : Int32)) (n := 2) rfl (by decide))
    have hat_d2 : clA_d2.slots[((2 : Int32)).toNatClampNeg]? = some (.int x2) := HA_d2.at hin_d2 rfl
    have G82 : ∀ t, Steps p.tables e below (T79.setTop (mkF m 374 #[.val (.int p1), .val (.int p2), .val (.int p3), .val (.int p4), .val (.ref b2), .val (.int St), .val (.int Ln), .val (.int En), .val (.int (0 : Int32)), .val (.int (1 : Int32)), .val (.int Kk), .val (.int J), .val (.ref b34), .unset, .unset, .unset, .unset, .unset] [(.int x2), (.int (Kk + (2 : Int32))), (.ref b34)])) t → Steps p.tables e below (s₁.setTop (entryFrame m #[(.int p1), (.int p2), (.int p3), (.int p4)] maxLocals)) t := by
      intro t kt
      refine G81 t ?_
      show Steps p.tables e below (T79.setTop (mkF m 373 #[.val (.int p1), .val (.int p2), .val (.int p3), .val (.int p4), .val (.ref b2), .val (.int St), .val (.int Ln), .val (.int En), .val (.int (0 : Int32)), .val (.int (1 : Int32)), .val (.int Kk), .val (.int J), .val (.ref b34), .unset, .unset, .unset, .unset, .unset] [(.int (2 : Int32)), (.ref b2), (.int (Kk + (2 : Int32))), (.ref b34)])) _
      refine XH80.baloadBytes hx (j := (2 : Int32)) (v := (.int x2)) (by rw [e79]; exact ArA_d2.1) (State.isArrayOf_alike hZ.alike ArA_d2.2.1) ArA_d2.2.2 hin_d2 hat_d2 (g := (mkF m 373 #[.val (.int p1), .val (.int p2), .val (.int p3), .val (.int p4), .val (.ref b2), .val (.int St), .val (.int Ln), .val (.int En), .val (.int (0 : Int32)), .val (.int (1 : Int32)), .val (.int Kk), .val (.int J), .val (.ref b34), .unset, .unset, .unset, .unset, .unset] [(.int (2 : Int32)), (.ref b2), (.int (Kk + (2 : Int32))), (.ref b34)])) rfl rfl (hb hby at_373) _ ?_
      show Steps p.tables e below (T79.setTop (mkF m 374 #[.val (.int p1), .val (.int p2), .val (.int p3), .val (.int p4), .val (.ref b2), .val (.int St), .val (.int Ln), .val (.int En), .val (.int (0 : Int32)), .val (.int (1 : Int32)), .val (.int Kk), .val (.int J), .val (.ref b34), .unset, .unset, .unset, .unset, .unset] [(.int x2), (.int (Kk + (2 : Int32))), (.ref b34)])) _
      exact kt
    obtain ⟨_, _, ⟨T83, L83, k83, n83⟩, -, X83, ⟨Lc83, hQ83, l83, y83, z83⟩, st83⟩ := Jvm.LawKit.callS XH80 hx (y := (⟨"com/example/evenkeel/evenkeel/http/HeaderNameHashPinLaw", "flip", "(B)B"⟩ : MethodName)) hown (mvT hZ (hw _ (List.mem_of_getElem? (i := 6) rfl))) (mvT hZ (hw _ (List.mem_of_getElem? (i := 7) rfl))) (mvT hZ (hw _ (List.mem_of_getElem? (i := 8) rfl))) (mvT hZ (hw _ (List.mem_of_getElem? (i := 9) rfl))) (by decide) (backOf (W := 2) (rm2 l Z a0 hw [] x2  h79 n0 Z79 ) hZ (hw _ (List.mem_of_getElem? (i := 9) rfl)) (hw _ (List.mem_of_getElem? (i := 8) rfl)) (by decide) (by decide)) (g := (mkF m 374 #[.val (.int p1), .val (.int p2), .val (.int p3), .val (.int p4), .val (.ref b2), .val (.int St), .val (.int Ln), .val (.int En), .val (.int (0 : Int32)), .val (.int (1 : Int32)), .val (.int Kk), .val (.int J), .val (.ref b34), .unset, .unset, .unset, .unset, .unset] [(.int x2), (.int (Kk + (2 : Int32))), (.ref b34)])) rfl (by rw [hml]; rfl) (argsL := [(.int x2)]) (rest := [(.int (Kk + (2 : Int32))), (.ref b34)]) (lenOf pd_1 rfl) rfl (by show 2 * 0 + _ ≤ _; exact Nat.le_of_eq rfl) (hb hby at_374) (fun _ _ => ⟨rfl, e79, (by decide : 2 + 0 ≤ _), (by decide : 24 + 0 ≤ _)⟩)
    dsimp only [Pt.U, Pt.locs, Pt.cells, Pt.slots] at X83 l83 y83 z83 st83 hQ83
    subst l83 y83 z83
    obtain ⟨rfl, N83q, e83⟩ := hQ83
    have N83 := Fr.app NH80 N83q
    have G83 : ∀ t, Steps p.tables e below (T83.setTop (mkF m 377 #[.val (.int p1), .val (.int p2), .val (.int p3), .val (.int p4), .val (.ref b2), .val (.int St), .val (.int Ln), .val (.int En), .val (.int (0 : Int32)), .val (.int (1 : Int32)), .val (.int Kk), .val (.int J), .val (.ref b34), .unset, .unset, .unset, .unset, .unset] [(.int (g2_0 x2)), (.int (Kk + (2 : Int32))), (.ref b34)])) t → Steps p.tables e below (s₁.setTop (entryFrame m #[(.int p1), (.int p2), (.int p3), (.int p4)] maxLocals)) t := fun t kt => G82 t (st83 t kt)
    obtain ⟨cl_84, Ar_84, q_84, S_84, M_84, H_84, U_84⟩ := id V_b34_79
    obtain ⟨T84, h84, X84, e84, W84, st84⟩ := stB X83 hx hZ e83 Ar_84 (j := (Kk + (2 : Int32))) (inb_of S_84 (own_bd16 (own_add hKs (m := 2) rfl (by omega)) (by omega))) (g := (mkF m 377 #[.val (.int p1), .val (.int p2), .val (.int p3), .val (.int p4), .val (.ref b2), .val (.int St), .val (.int Ln), .val (.int En), .val (.int (0 : Int32)), .val (.int (1 : Int32)), .val (.int Kk), .val (.int J), .val (.ref b34), .unset, .unset, .unset, .unset, .unset] [(.int (g2_0 x2)), (.int (Kk + (2 : Int32))), (.ref b34)])) rfl rfl (hb hby at_377)
    have V_b34_84 : Arv Z h84 b34 k34 .byte (16 : Int32) (List.set (List.set (List.set [(.int (nar .byte J)), (.int (nar .byte J)), (.int (nar .byte J)), (.int (nar .byte J)), (.int (nar .byte J)), (.int (nar .byte J)), (.int (nar .byte J)), (.int (nar .byte J)), (.int (nar .byte J)), (.int (nar .byte J)), (.int (nar .byte J)), (.int (nar .byte J)), (.int (nar .byte J)), (.int (nar .byte J)), (.int (nar .byte J)), (.int (nar .byte J))] k (.int (nar .byte (g2_0 x0)))) (k + 1) (.int (nar .byte (g2_0 x1)))) (k + 2) (.int (nar .byte (g2_0 x2)))) (.int (0 : Int32)) := Arv.set Ar_84 q_84 S_84 M_84 H_84 U_84 (fits_nar_byte _) W84 (k + 2) (own_nn (own_add hKs (m := 2) rfl (by omega))) (by simp only [List.length_set, List.length_cons, List.length_nil]; omega)
    have VA_84 : Arv Z h84 b2 k2 .byte (8 : Int32) (own_l8 x0 x1 x2 x3 x4 x5 x6 x7) (.int (0 : Int32)) := VA_79.other W84 ne_b2_b34
    have Z84 : n0 ≤ h84.size := Nat.le_trans Z79 (Keep.of_wr W84).1
    have N84 := Fr.snoc X84 N83 g_b34
    have G84 : ∀ t, Steps p.tables e below (T84.setTop (mkF m 378 #[.val (.int p1), .val (.int p2), .val (.int p3), .val (.int p4), .val (.ref b2), .val (.int St), .val (.int Ln), .val (.int En), .val (.int (0 : Int32)), .val (.int (1 : Int32)), .val (.int Kk), .val (.int J), .val (.ref b34), .unset, .unset, .unset, .unset, .unset] [])) t → Steps p.tables e below (s₁.setTop (entryFrame m #[(.int p1), (.int p2), (.int p3), (.int p4)] maxLocals)) t := fun t kt => G83 t (st84 t kt)
    obtain ⟨LH85, XH85, NH85⟩ : ∃ L', Stand p l e room_1 s m #[(.int p1), (.int p2), (.int p3), (.int p4)] below meth c T84 L' 2 24 ∧ Fr n0 L' := ⟨_, X84, N84⟩
    have G86 : ∀ t, Steps p.tables e below (T84.setTop (mkF m 387 #[.val (.int p1), .val (.int p2), .val (.int p3), .val (.int p4), .val (.ref b2), .val (.int St), .val (.int Ln), .val (.int En), .val (.int (0 : Int32)), .val (.int (1 : Int32)), .val (.int Kk), .val (.int J), .val (.ref b34), .unset, .unset, .unset, .unset, .unset] [(.int (3 : Int32)), (.ref b2), (.int (Kk + (3 : Int32))), (.ref b34)])) t → Steps p.tables e below (s₁.setTop (entryFrame m #[(.int p1), (.int p2), (.int p3), (.int p4)] maxLocals)) t := by
      intro t kt
      refine G84 t ?_
      show Steps p.tables e below (T84.setTop (mkF m 378 #[.val (.int p1), .val (.int p2), .val (.int p3), .val (.int p4), .val (.ref b2), .val (.int St), .val (.int Ln), .val (.int En), .val (.int (0 : Int32)), .val (.int (1 : Int32)), .val (.int Kk), .val (.int J), .val (.ref b34), .unset, .unset, .unset, .unset, .unset] [])) _
      refine XS.aload XH85.here hx rfl (hb hby at_378) rfl rfl ?_
      show Steps p.tables e below (T84.setTop (mkF m 380 #[.val (.int p1), .val (.int p2), .val (.int p3), .val (.int p4), .val (.ref b2), .val (.int St), .val (.int Ln), .val (.int En), .val (.int (0 : Int32)), .val (.int (1 : Int32)), .val (.int Kk), .val (.int J), .val (.ref b34), .unset, .unset, .unset, .unset, .unset] [(.ref b34)])) _
      refine XS.iload XH85.here hx rfl (hb hby at_380) rfl ?_
      show Steps p.tables e below (T84.setTop (mkF m 382 #[.val (.int p1), .val (.int p2), .val (.int p3), .val (.int p4), .val (.ref b2), .val (.int St), .val (.int Ln), .val (.int En), .val (.int (0 : Int32)), .val (.int (1 : Int32)), .val (.int Kk), .val (.int J), .val (.ref b34), .unset, .unset, .unset, .unset, .unset] [(.int Kk), (.ref b34)])) _
      refine XS.iconst XH85.here hx rfl (hb hby at_382) ?_
      show Steps p.tables e below (T84.setTop (mkF m 383 #[.val (.int p1), .val (.int p2), .val (.int p3), .val (.int p4), .val (.ref b2), .val (.int St), .val (.int Ln), .val (.int En), .val (.int (0 : Int32)), .val (.int (1 : Int32)), .val (.int Kk), .val (.int J), .val (.ref b34), .unset, .unset, .unset, .unset, .unset] [(.int (3 : Int32)), (.int Kk), (.ref b34)])) _
      refine XS.iadd XH85.here hx rfl (hb hby at_383) rfl ?_
      show Steps p.tables e below (T84.setTop (mkF m 384 #[.val (.int p1), .val (.int p2), .val (.int p3), .val (.int p4), .val (.ref b2), .val (.int St), .val (.int Ln), .val (.int En), .val (.int (0 : Int32)), .val (.int (1 : Int32)), .val (.int Kk), .val (.int J), .val (.ref b34), .unset, .unset, .unset, .unset, .unset] [(.int (Kk + (3 : Int32))), (.ref b34)])) _
      refine XS.aload XH85.here hx rfl (hb hby at_384) rfl rfl ?_
      show Steps p.tables e below (T84.setTop (mkF m 386 #[.val (.int p1), .val (.int p2), .val (.int p3), .val (.int p4), .val (.ref b2), .val (.int St), .val (.int Ln), .val (.int En), .val (.int (0 : Int32)), .val (.int (1 : Int32)), .val (.int Kk), .val (.int J), .val (.ref b34), .unset, .unset, .unset, .unset, .unset] [(.ref b2), (.int (Kk + (3 : Int32))), (.ref b34)])) _
      refine XS.iconst XH85.here hx rfl (hb hby at_386) ?_
      show Steps p.tables e below (T84.setTop (mkF m 387 #[.val (.int p1), .val (.int p2), .val (.int p3), .val (.int p4), .val (.ref b2), .val (.int St), .val (.int Ln), .val (.int En), .val (.int (0 : Int32)), .val (.int (1 : Int32)), .val (.int Kk), .val (.int J), .val (.ref b34), .unset, .unset, .unset, .unset, .unset] [(.int (3 : Int32)), (.ref b2), (.int (Kk + (3 : Int32))), (.ref b34)])) _
      exact kt
    obtain ⟨clA_d3, ArA_d3, qA_d3, SA_d3, MA_d3, HA_d3, UA_d3⟩ := id VA_84
    have hin_d3 := inb_of SA_d3 (own_bd8 (I := (3 : Int32)) (n := 3) rfl (by decide))
    have hat_d3 : clA_d3.slots[((3 : Int32)).toNatClampNeg]? = some (.int x3) := HA_d3.at hin_d3 rfl
    have G87 : ∀ t, Steps p.tables e below (T84.setTop (mkF m 388 #[.val (.int p1), .val (.int p2), .val (.int p3), .val (.int p4), .val (.ref b2), .val (.int St), .val (.int Ln), .val (.int En), .val (.int (0 : Int32)), .val (.int (1 : Int32)), .val (.int Kk), .val (.int J), .val (.ref b34), .unset, .unset, .unset, .unset, .unset] [(.int x3), (.int (Kk + (3 : Int32))), (.ref b34)])) t → Steps p.tables e below (s₁.setTop (entryFrame m #[(.int p1), (.int p2), (.int p3), (.int p4)] maxLocals)) t := by
      intro t kt
      refine G86 t ?_
      show Steps p.tables e below (T84.setTop (mkF m 387 #[.val (.int p1), .val (.int p2), .val (.int p3), .val (.int p4), .val (.ref b2), .val (.int St), .val (.int Ln), .val (.int En), .val (.int (0 : Int32)), .val (.int (1 : Int32)), .val (.int Kk), .val (.int J), .val (.ref b34), .unset, .unset, .unset, .unset, .unset] [(.int (3 : Int32)), (.ref b2), (.int (Kk + (3 : Int32))), (.ref b34)])) _
      refine XH85.baloadBytes hx (j := (3 : Int32)) (v := (.int x3)) (by rw [e84]; exact ArA_d3.1) (State.isArrayOf_alike hZ.alike ArA_d3.2.1) ArA_d3.2.2 hin_d3 hat_d3 (g := (mkF m 387 #[.val (.int p1), .val (.int p2), .val (.int p3), .val (.int p4), .val (.ref b2), .val (.int St), .val (.int Ln), .val (.int En), .val (.int (0 : Int32)), .val (.int (1 : Int32)), .val (.int Kk), .val (.int J), .val (.ref b34), .unset, .unset, .unset, .unset, .unset] [(.int (3 : Int32)), (.ref b2), (.int (Kk + (3 : Int32))), (.ref b34)])) rfl rfl (hb hby at_387) _ ?_
      show Steps p.tables e below (T84.setTop (mkF m 388 #[.val (.int p1), .val (.int p2), .val (.int p3), .val (.int p4), .val (.ref b2), .val (.int St), .val (.int Ln), .val (.int En), .val (.int (0 : Int32)), .val (.int (1 : Int32)), .val (.int Kk), .val (.int J), .val (.ref b34), .unset, .unset, .unset, .unset, .unset] [(.int x3), (.int (Kk + (3 : Int32))), (.ref b34)])) _
      exact kt
    obtain ⟨_, _, ⟨T88, L88, k88, n88⟩, -, X88, ⟨Lc88, hQ88, l88, y88, z88⟩, st88⟩ := Jvm.LawKit.callS XH85 hx (y := (⟨"com/example/evenkeel/evenkeel/http/HeaderNameHashPinLaw", "flip", "(B)B"⟩ : MethodName)) hown (mvT hZ (hw _ (List.mem_of_getElem? (i := 6) rfl))) (mvT hZ (hw _ (List.mem_of_getElem? (i := 7) rfl))) (mvT hZ (hw _ (List.mem_of_getElem? (i := 8) rfl))) (mvT hZ (hw _ (List.mem_of_getElem? (i := 9) rfl))) (by decide) (backOf (W := 2) (rm2 l Z a0 hw [] x3  h84 n0 Z84 ) hZ (hw _ (List.mem_of_getElem? (i := 9) rfl)) (hw _ (List.mem_of_getElem? (i := 8) rfl)) (by decide) (by decide)) (g := (mkF m 388 #[.val (.int p1), .val (.int p2), .val (.int p3), .val (.int p4), .val (.ref b2), .val (.int St), .val (.int Ln), .val (.int En), .val (.int (0 : Int32)), .val (.int (1 : Int32)), .val (.int Kk), .val (.int J), .val (.ref b34), .unset, .unset, .unset, .unset, .unset] [(.int x3), (.int (Kk + (3 : Int32))), (.ref b34)])) rfl (by rw [hml]; rfl) (argsL := [(.int x3)]) (rest := [(.int (Kk + (3 : Int32))), (.ref b34)]) (lenOf pd_1 rfl) rfl (by show 2 * 0 + _ ≤ _; exact Nat.le_of_eq rfl) (hb hby at_388) (fun _ _ => ⟨rfl, e84, (by decide : 2 + 0 ≤ _), (by decide : 24 + 0 ≤ _)⟩)
    dsimp only [Pt.U, Pt.locs, Pt.cells, Pt.slots] at X88 l88 y88 z88 st88 hQ88
    subst l88 y88 z88
    obtain ⟨rfl, N88q, e88⟩ := hQ88
    have N88 := Fr.app NH85 N88q
    have G88 : ∀ t, Steps p.tables e below (T88.setTop (mkF m 391 #[.val (.int p1), .val (.int p2), .val (.int p3), .val (.int p4), .val (.ref b2), .val (.int St), .val (.int Ln), .val (.int En), .val (.int (0 : Int32)), .val (.int (1 : Int32)), .val (.int Kk), .val (.int J), .val (.ref b34), .unset, .unset, .unset, .unset, .unset] [(.int (g2_0 x3)), (.int (Kk + (3 : Int32))), (.ref b34)])) t → Steps p.tables e below (s₁.setTop (entryFrame m #[(.int p1), (.int p2), (.int p3), (.int p4)] maxLocals)) t := fun t kt => G87 t (st88 t kt)
    obtain ⟨cl_89, Ar_89, q_89, S_89, M_89, H_89, U_89⟩ := id V_b34_84
    obtain ⟨T89, h89, X89, e89, W89, st89⟩ := stB X88 hx hZ e88 Ar_89 (j := (Kk + (3 : Int32))) (inb_of S_89 (own_bd16 (own_add hKs (m := 3) rfl (by omega)) (by omega))) (g := (mkF m 391 #[.val (.int p1), .val (.int p2), .val (.int p3), .val (.int p4), .val (.ref b2), .val (.int St), .val (.int Ln), .val (.int En), .val (.int (0 : Int32)), .val (.int (1 : Int32)), .val (.int Kk), .val (.int J), .val (.ref b34), .unset, .unset, .unset, .unset, .unset] [(.int (g2_0 x3)), (.int (Kk + (3 : Int32))), (.ref b34)])) rfl rfl (hb hby at_391)
    have V_b34_89 : Arv Z h89 b34 k34 .byte (16 : Int32) (List.set (List.set (List.set (List.set [(.int (nar .byte J)), (.int (nar .byte J)), (.int (nar .byte J)), (.int (nar .byte J)), (.int (nar .byte J)), (.int (nar .byte J)), (.int (nar .byte J)), (.int (nar .byte J)), (.int (nar .byte J)), (.int (nar .byte J)), (.int (nar .byte J)), (.int (nar .byte J)), (.int (nar .byte J)), (.int (nar .byte J)), (.int (nar .byte J)), (.int (nar .byte J))] k (.int (nar .byte (g2_0 x0)))) (k + 1) (.int (nar .byte (g2_0 x1)))) (k + 2) (.int (nar .byte (g2_0 x2)))) (k + 3) (.int (nar .byte (g2_0 x3)))) (.int (0 : Int32)) := Arv.set Ar_89 q_89 S_89 M_89 H_89 U_89 (fits_nar_byte _) W89 (k + 3) (own_nn (own_add hKs (m := 3) rfl (by omega))) (by simp only [List.length_set, List.length_cons, List.length_nil]; omega)
    have VA_89 : Arv Z h89 b2 k2 .byte (8 : Int32) (own_l8 x0 x1 x2 x3 x4 x5 x6 x7) (.int (0 : Int32)) := VA_84.other W89 ne_b2_b34
    have Z89 : n0 ≤ h89.size := Nat.le_trans Z84 (Keep.of_wr W89).1
    have N89 := Fr.snoc X89 N88 g_b34
    have G89 : ∀ t, Steps p.tables e below (T89.setTop (mkF m 392 #[.val (.int p1), .val (.int p2), .val (.int p3), .val (.int p4), .val (.ref b2), .val (.int St), .val (.int Ln), .val (.int En), .val (.int (0 : Int32)), .val (.int (1 : Int32)), .val (.int Kk), .val (.int J), .val (.ref b34), .unset, .unset, .unset, .unset, .unset] [])) t → Steps p.tables e below (s₁.setTop (entryFrame m #[(.int p1), (.int p2), (.int p3), (.int p4)] maxLocals)) t := fun t kt => G88 t (st89 t kt)
    obtain ⟨LH90, XH90, NH90⟩ : ∃ L', Stand p l e room_1 s m #[(.int p1), (.int p2), (.int p3), (.int p4)] below meth c T89 L' 2 24 ∧ Fr n0 L' := ⟨_, X89, N89⟩
    have G91 : ∀ t, Steps p.tables e below (T89.setTop (mkF m 401 #[.val (.int p1), .val (.int p2), .val (.int p3), .val (.int p4), .val (.ref b2), .val (.int St), .val (.int Ln), .val (.int En), .val (.int (0 : Int32)), .val (.int (1 : Int32)), .val (.int Kk), .val (.int J), .val (.ref b34), .unset, .unset, .unset, .unset, .unset] [(.int (4 : Int32)), (.ref b2), (.int (Kk + (4 : Int32))), (.ref b34)])) t → Steps p.tables e below (s₁.setTop (entryFrame m #[(.int p1), (.int p2), (.int p3), (.int p4)] maxLocals)) t := by
      intro t kt
      refine G89 t ?_
      show Steps p.tables e below (T89.setTop (mkF m 392 #[.val (.int p1), .val (.int p2), .val (.int p3), .val (.int p4), .val (.ref b2), .val (.int St), .val (.int Ln), .val (.int En), .val (.int (0 : Int32)), .val (.int (1 : Int32)), .val (.int Kk), .val (.int J), .val (.ref b34), .unset, .unset, .unset, .unset, .unset] [])) _
      refine XS.aload XH90.here hx rfl (hb hby at_392) rfl rfl ?_
      show Steps p.tables e below (T89.setTop (mkF m 394 #[.val (.int p1), .val (.int p2), .val (.int p3), .val (.int p4), .val (.ref b2), .val (.int St), .val (.int Ln), .val (.int En), .val (.int (0 : Int32)), .val (.int (1 : Int32)), .val (.int Kk), .val (.int J), .val (.ref b34), .unset, .unset, .unset, .unset, .unset] [(.ref b34)])) _
      refine XS.iload XH90.here hx rfl (hb hby at_394) rfl ?_
      show Steps p.tables e below (T89.setTop (mkF m 396 #[.val (.int p1), .val (.int p2), .val (.int p3), .val (.int p4), .val (.ref b2), .val (.int St), .val (.int Ln), .val (.int En), .val (.int (0 : Int32)), .val (.int (1 : Int32)), .val (.int Kk), .val (.int J), .val (.ref b34), .unset, .unset, .unset, .unset, .unset] [(.int Kk), (.ref b34)])) _
      refine XS.iconst XH90.here hx rfl (hb hby at_396) ?_
      show Steps p.tables e below (T89.setTop (mkF m 397 #[.val (.int p1), .val (.int p2), .val (.int p3), .val (.int p4), .val (.ref b2), .val (.int St), .val (.int Ln), .val (.int En), .val (.int (0 : Int32)), .val (.int (1 : Int32)), .val (.int Kk), .val (.int J), .val (.ref b34), .unset, .unset, .unset, .unset, .unset] [(.int (4 : Int32)), (.int Kk), (.ref b34)])) _
      refine XS.iadd XH90.here hx rfl (hb hby at_397) rfl ?_
      show Steps p.tables e below (T89.setTop (mkF m 398 #[.val (.int p1), .val (.int p2), .val (.int p3), .val (.int p4), .val (.ref b2), .val (.int St), .val (.int Ln), .val (.int En), .val (.int (0 : Int32)), .val (.int (1 : Int32)), .val (.int Kk), .val (.int J), .val (.ref b34), .unset, .unset, .unset, .unset, .unset] [(.int (Kk + (4 : Int32))), (.ref b34)])) _
      refine XS.aload XH90.here hx rfl (hb hby at_398) rfl rfl ?_
      show Steps p.tables e below (T89.setTop (mkF m 400 #[.val (.int p1), .val (.int p2), .val (.int p3), .val (.int p4), .val (.ref b2), .val (.int St), .val (.int Ln), .val (.int En), .val (.int (0 : Int32)), .val (.int (1 : Int32)), .val (.int Kk), .val (.int J), .val (.ref b34), .unset, .unset, .unset, .unset, .unset] [(.ref b2), (.int (Kk + (4 : Int32))), (.ref b34)])) _
      refine XS.iconst XH90.here hx rfl (hb hby at_400) ?_
      show Steps p.tables e below (T89.setTop (mkF m 401 #[.val (.int p1), .val (.int p2), .val (.int p3), .val (.int p4), .val (.ref b2), .val (.int St), .val (.int Ln), .val (.int En), .val (.int (0 : Int32)), .val (.int (1 : Int32)), .val (.int Kk), .val (.int J), .val (.ref b34), .unset, .unset, .unset, .unset, .unset] [(.int (4 : Int32)), (.ref b2), (.int (Kk + (4 : Int32))), (.ref b34)])) _
      exact kt
    obtain ⟨clA_d4, ArA_d4, qA_d4, SA_d4, MA_d4, HA_d4, UA_d4⟩ := id VA_89
    have hin_d4 := inb_of SA_d4 (own_bd8 (I := (4 : Int32)) (n := 4) rfl (by decide))
    have hat_d4 : clA_d4.slots[((4 : Int32)).toNatClampNeg]? = some (.int x4) := HA_d4.at hin_d4 rfl
    have G92 : ∀ t, Steps p.tables e below (T89.setTop (mkF m 402 #[.val (.int p1), .val (.int p2), .val (.int p3), .val (.int p4), .val (.ref b2), .val (.int St), .val (.int Ln), .val (.int En), .val (.int (0 : Int32)), .val (.int (1 : Int32)), .val (.int Kk), .val (.int J), .val (.ref b34), .unset, .unset, .unset, .unset, .unset] [(.int x4), (.int (Kk + (4 : Int32))), (.ref b34)])) t → Steps p.tables e below (s₁.setTop (entryFrame m #[(.int p1), (.int p2), (.int p3), (.int p4)] maxLocals)) t := by
      intro t kt
      refine G91 t ?_
      show Steps p.tables e below (T89.setTop (mkF m 401 #[.val (.int p1), .val (.int p2), .val (.int p3), .val (.int p4), .val (.ref b2), .val (.int St), .val (.int Ln), .val (.int En), .val (.int (0 : Int32)), .val (.int (1 : Int32)), .val (.int Kk), .val (.int J), .val (.ref b34), .unset, .unset, .unset, .unset, .unset] [(.int (4 : Int32)), (.ref b2), (.int (Kk + (4 : Int32))), (.ref b34)])) _
      refine XH90.baloadBytes hx (j := (4 : Int32)) (v := (.int x4)) (by rw [e89]; exact ArA_d4.1) (State.isArrayOf_alike hZ.alike ArA_d4.2.1) ArA_d4.2.2 hin_d4 hat_d4 (g := (mkF m 401 #[.val (.int p1), .val (.int p2), .val (.int p3), .val (.int p4), .val (.ref b2), .val (.int St), .val (.int Ln), .val (.int En), .val (.int (0 : Int32)), .val (.int (1 : Int32)), .val (.int Kk), .val (.int J), .val (.ref b34), .unset, .unset, .unset, .unset, .unset] [(.int (4 : Int32)), (.ref b2), (.int (Kk + (4 : Int32))), (.ref b34)])) rfl rfl (hb hby at_401) _ ?_
      show Steps p.tables e below (T89.setTop (mkF m 402 #[.val (.int p1), .val (.int p2), .val (.int p3), .val (.int p4), .val (.ref b2), .val (.int St), .val (.int Ln), .val (.int En), .val (.int (0 : Int32)), .val (.int (1 : Int32)), .val (.int Kk), .val (.int J), .val (.ref b34), .unset, .unset, .unset, .unset, .unset] [(.int x4), (.int (Kk + (4 : Int32))), (.ref b34)])) _
      exact kt
    obtain ⟨_, _, ⟨T93, L93, k93, n93⟩, -, X93, ⟨Lc93, hQ93, l93, y93, z93⟩, st93⟩ := Jvm.LawKit.callS XH90 hx (y := (⟨"com/example/evenkeel/evenkeel/http/HeaderNameHashPinLaw", "flip", "(B)B"⟩ : MethodName)) hown (mvT hZ (hw _ (List.mem_of_getElem? (i := 6) rfl))) (mvT hZ (hw _ (List.mem_of_getElem? (i := 7) rfl))) (mvT hZ (hw _ (List.mem_of_getElem? (i := 8) rfl))) (mvT hZ (hw _ (List.mem_of_getElem? (i := 9) rfl))) (by decide) (backOf (W := 2) (rm2 l Z a0 hw [] x4  h89 n0 Z89 ) hZ (hw _ (List.mem_of_getElem? (i := 9) rfl)) (hw _ (List.mem_of_getElem? (i := 8) rfl)) (by decide) (by decide)) (g := (mkF m 402 #[.val (.int p1), .val (.int p2), .val (.int p3), .val (.int p4), .val (.ref b2), .val (.int St), .val (.int Ln), .val (.int En), .val (.int (0 : Int32)), .val (.int (1 : Int32)), .val (.int Kk), .val (.int J), .val (.ref b34), .unset, .unset, .unset, .unset, .unset] [(.int x4), (.int (Kk + (4 : Int32))), (.ref b34)])) rfl (by rw [hml]; rfl) (argsL := [(.int x4)]) (rest := [(.int (Kk + (4 : Int32))), (.ref b34)]) (lenOf pd_1 rfl) rfl (by show 2 * 0 + _ ≤ _; exact Nat.le_of_eq rfl) (hb hby at_402) (fun _ _ => ⟨rfl, e89, (by decide : 2 + 0 ≤ _), (by decide : 24 + 0 ≤ _)⟩)
    dsimp only [Pt.U, Pt.locs, Pt.cells, Pt.slots] at X93 l93 y93 z93 st93 hQ93
    subst l93 y93 z93
    obtain ⟨rfl, N93q, e93⟩ := hQ93
    have N93 := Fr.app NH90 N93q
    have G93 : ∀ t, Steps p.tables e below (T93.setTop (mkF m 405 #[.val (.int p1), .val (.int p2), .val (.int p3), .val (.int p4), .val (.ref b2), .val (.int St), .val (.int Ln), .val (.int En), .val (.int (0 : Int32)), .val (.int (1 : Int32)), .val (.int Kk), .val (.int J), .val (.ref b34), .unset, .unset, .unset, .unset, .unset] [(.int (g2_0 x4)), (.int (Kk + (4 : Int32))), (.ref b34)])) t → Steps p.tables e below (s₁.setTop (entryFrame m #[(.int p1), (.int p2), (.int p3), (.int p4)] maxLocals)) t := fun t kt => G92 t (st93 t kt)
    obtain ⟨cl_94, Ar_94, q_94, S_94, M_94, H_94, U_94⟩ := id V_b34_89
    obtain ⟨T94, h94, X94, e94, W94, st94⟩ := stB X93 hx hZ e93 Ar_94 (j := (Kk + (4 : Int32))) (inb_of S_94 (own_bd16 (own_add hKs (m := 4) rfl (by omega)) (by omega))) (g := (mkF m 405 #[.val (.int p1), .val (.int p2), .val (.int p3), .val (.int p4), .val (.ref b2), .val (.int St), .val (.int Ln), .val (.int En), .val (.int (0 : Int32)), .val (.int (1 : Int32)), .val (.int Kk), .val (.int J), .val (.ref b34), .unset, .unset, .unset, .unset, .unset] [(.int (g2_0 x4)), (.int (Kk + (4 : Int32))), (.ref b34)])) rfl rfl (hb hby at_405)
    have V_b34_94 : Arv Z h94 b34 k34 .byte (16 : Int32) (List.set (List.set (List.set (List.set (List.set [(.int (nar .byte J)), (.int (nar .byte J)), (.int (nar .byte J)), (.int (nar .byte J)), (.int (nar .byte J)), (.int (nar .byte J)), (.int (nar .byte J)), (.int (nar .byte J)), (.int (nar .byte J)), (.int (nar .byte J)), (.int (nar .byte J)), (.int (nar .byte J)), (.int (nar .byte J)), (.int (nar .byte J)), (.int (nar .byte J)), (.int (nar .byte J))] k (.int (nar .byte (g2_0 x0)))) (k + 1) (.int (nar .byte (g2_0 x1)))) (k + 2) (.int (nar .byte (g2_0 x2)))) (k + 3) (.int (nar .byte (g2_0 x3)))) (k + 4) (.int (nar .byte (g2_0 x4)))) (.int (0 : Int32)) := Arv.set Ar_94 q_94 S_94 M_94 H_94 U_94 (fits_nar_byte _) W94 (k + 4) (own_nn (own_add hKs (m := 4) rfl (by omega))) (by simp only [List.length_set, List.length_cons, List.length_nil]; omega)
    have VA_94 : Arv Z h94 b2 k2 .byte (8 : Int32) (own_l8 x0 x1 x2 x3 x4 x5 x6 x7) (.int (0 : Int32)) := VA_89.other W94 ne_b2_b34
    have Z94 : n0 ≤ h94.size := Nat.le_trans Z89 (Keep.of_wr W94).1
    have N94 := Fr.snoc X94 N93 g_b34
    have G94 : ∀ t, Steps p.tables e below (T94.setTop (mkF m 406 #[.val (.int p1), .val (.int p2), .val (.int p3), .val (.int p4), .val (.ref b2), .val (.int St), .val (.int Ln), .val (.int En), .val (.int (0 : Int32)), .val (.int (1 : Int32)), .val (.int Kk), .val (.int J), .val (.ref b34), .unset, .unset, .unset, .unset, .unset] [])) t → Steps p.tables e below (s₁.setTop (entryFrame m #[(.int p1), (.int p2), (.int p3), (.int p4)] maxLocals)) t := fun t kt => G93 t (st94 t kt)
    obtain ⟨LH95, XH95, NH95⟩ : ∃ L', Stand p l e room_1 s m #[(.int p1), (.int p2), (.int p3), (.int p4)] below meth c T94 L' 2 24 ∧ Fr n0 L' := ⟨_, X94, N94⟩
    have G96 : ∀ t, Steps p.tables e below (T94.setTop (mkF m 415 #[.val (.int p1), .val (.int p2), .val (.int p3), .val (.int p4), .val (.ref b2), .val (.int St), .val (.int Ln), .val (.int En), .val (.int (0 : Int32)), .val (.int (1 : Int32)), .val (.int Kk), .val (.int J), .val (.ref b34), .unset, .unset, .unset, .unset, .unset] [(.int (5 : Int32)), (.ref b2), (.int (Kk + (5 : Int32))), (.ref b34)])) t → Steps p.tables e below (s₁.setTop (entryFrame m #[(.int p1), (.int p2), (.int p3), (.int p4)] maxLocals)) t := by
      intro t kt
      refine G94 t ?_
      show Steps p.tables e below (T94.setTop (mkF m 406 #[.val (.int p1), .val (.int p2), .val (.int p3), .val (.int p4), .val (.ref b2), .val (.int St), .val (.int Ln), .val (.int En), .val (.int (0 : Int32)), .val (.int (1 : Int32)), .val (.int Kk), .val (.int J), .val (.ref b34), .unset, .unset, .unset, .unset, .unset] [])) _
      refine XS.aload XH95.here hx rfl (hb hby at_406) rfl rfl ?_
      show Steps p.tables e below (T94.setTop (mkF m 408 #[.val (.int p1), .val (.int p2), .val (.int p3), .val (.int p4), .val (.ref b2), .val (.int St), .val (.int Ln), .val (.int En), .val (.int (0 : Int32)), .val (.int (1 : Int32)), .val (.int Kk), .val (.int J), .val (.ref b34), .unset, .unset, .unset, .unset, .unset] [(.ref b34)])) _
      refine XS.iload XH95.here hx rfl (hb hby at_408) rfl ?_
      show Steps p.tables e below (T94.setTop (mkF m 410 #[.val (.int p1), .val (.int p2), .val (.int p3), .val (.int p4), .val (.ref b2), .val (.int St), .val (.int Ln), .val (.int En), .val (.int (0 : Int32)), .val (.int (1 : Int32)), .val (.int Kk), .val (.int J), .val (.ref b34), .unset, .unset, .unset, .unset, .unset] [(.int Kk), (.ref b34)])) _
      refine XS.iconst XH95.here hx rfl (hb hby at_410) ?_
      show Steps p.tables e below (T94.setTop (mkF m 411 #[.val (.int p1), .val (.int p2), .val (.int p3), .val (.int p4), .val (.ref b2), .val (.int St), .val (.int Ln), .val (.int En), .val (.int (0 : Int32)), .val (.int (1 : Int32)), .val (.int Kk), .val (.int J), .val (.ref b34), .unset, .unset, .unset, .unset, .unset] [(.int (5 : Int32)), (.int Kk), (.ref b34)])) _
      refine XS.iadd XH95.here hx rfl (hb hby at_411) rfl ?_
      show Steps p.tables e below (T94.setTop (mkF m 412 #[.val (.int p1), .val (.int p2), .val (.int p3), .val (.int p4), .val (.ref b2), .val (.int St), .val (.int Ln), .val (.int En), .val (.int (0 : Int32)), .val (.int (1 : Int32)), .val (.int Kk), .val (.int J), .val (.ref b34), .unset, .unset, .unset, .unset, .unset] [(.int (Kk + (5 : Int32))), (.ref b34)])) _
      refine XS.aload XH95.here hx rfl (hb hby at_412) rfl rfl ?_
      show Steps p.tables e below (T94.setTop (mkF m 414 #[.val (.int p1), .val (.int p2), .val (.int p3), .val (.int p4), .val (.ref b2), .val (.int St), .val (.int Ln), .val (.int En), .val (.int (0 : Int32)), .val (.int (1 : Int32)), .val (.int Kk), .val (.int J), .val (.ref b34), .unset, .unset, .unset, .unset, .unset] [(.ref b2), (.int (Kk + (5 : Int32))), (.ref b34)])) _
      refine XS.iconst XH95.here hx rfl (hb hby at_414) ?_
      show Steps p.tables e below (T94.setTop (mkF m 415 #[.val (.int p1), .val (.int p2), .val (.int p3), .val (.int p4), .val (.ref b2), .val (.int St), .val (.int Ln), .val (.int En), .val (.int (0 : Int32)), .val (.int (1 : Int32)), .val (.int Kk), .val (.int J), .val (.ref b34), .unset, .unset, .unset, .unset, .unset] [(.int (5 : Int32)), (.ref b2), (.int (Kk + (5 : Int32))), (.ref b34)])) _
      exact kt
    obtain ⟨clA_d5, ArA_d5, qA_d5, SA_d5, MA_d5, HA_d5, UA_d5⟩ := id VA_94
    have hin_d5 := inb_of SA_d5 (own_bd8 (I := (5 : Int32)) (n := 5) rfl (by decide))
    have hat_d5 : clA_d5.slots[((5 : Int32)).toNatClampNeg]? = some (.int x5) := HA_d5.at hin_d5 rfl
    have G97 : ∀ t, Steps p.tables e below (T94.setTop (mkF m 416 #[.val (.int p1), .val (.int p2), .val (.int p3), .val (.int p4), .val (.ref b2), .val (.int St), .val (.int Ln), .val (.int En), .val (.int (0 : Int32)), .val (.int (1 : Int32)), .val (.int Kk), .val (.int J), .val (.ref b34), .unset, .unset, .unset, .unset, .unset] [(.int x5), (.int (Kk + (5 : Int32))), (.ref b34)])) t → Steps p.tables e below (s₁.setTop (entryFrame m #[(.int p1), (.int p2), (.int p3), (.int p4)] maxLocals)) t := by
      intro t kt
      refine G96 t ?_
      show Steps p.tables e below (T94.setTop (mkF m 415 #[.val (.int p1), .val (.int p2), .val (.int p3), .val (.int p4), .val (.ref b2), .val (.int St), .val (.int Ln), .val (.int En), .val (.int (0 : Int32)), .val (.int (1 : Int32)), .val (.int Kk), .val (.int J), .val (.ref b34), .unset, .unset, .unset, .unset, .unset] [(.int (5 : Int32)), (.ref b2), (.int (Kk + (5 : Int32))), (.ref b34)])) _
      refine XH95.baloadBytes hx (j := (5 : Int32)) (v := (.int x5)) (by rw [e94]; exact ArA_d5.1) (State.isArrayOf_alike hZ.alike ArA_d5.2.1) ArA_d5.2.2 hin_d5 hat_d5 (g := (mkF m 415 #[.val (.int p1), .val (.int p2), .val (.int p3), .val (.int p4), .val (.ref b2), .val (.int St), .val (.int Ln), .val (.int En), .val (.int (0 : Int32)), .val (.int (1 : Int32)), .val (.int Kk), .val (.int J), .val (.ref b34), .unset, .unset, .unset, .unset, .unset] [(.int (5 : Int32)), (.ref b2), (.int (Kk + (5 : Int32))), (.ref b34)])) rfl rfl (hb hby at_415) _ ?_
      show Steps p.tables e below (T94.setTop (mkF m 416 #[.val (.int p1), .val (.int p2), .val (.int p3), .val (.int p4), .val (.ref b2), .val (.int St), .val (.int Ln), .val (.int En), .val (.int (0 : Int32)), .val (.int (1 : Int32)), .val (.int Kk), .val (.int J), .val (.ref b34), .unset, .unset, .unset, .unset, .unset] [(.int x5), (.int (Kk + (5 : Int32))), (.ref b34)])) _
      exact kt
    obtain ⟨_, _, ⟨T98, L98, k98, n98⟩, -, X98, ⟨Lc98, hQ98, l98, y98, z98⟩, st98⟩ := Jvm.LawKit.callS XH95 hx (y := (⟨"com/example/evenkeel/evenkeel/http/HeaderNameHashPinLaw", "flip", "(B)B"⟩ : MethodName)) hown (mvT hZ (hw _ (List.mem_of_getElem? (i := 6) rfl))) (mvT hZ (hw _ (List.mem_of_getElem? (i := 7) rfl))) (mvT hZ (hw _ (List.mem_of_getElem? (i := 8) rfl))) (mvT hZ (hw _ (List.mem_of_getElem? (i := 9) rfl))) (by decide) (backOf (W := 2) (rm2 l Z a0 hw [] x5  h94 n0 Z94 ) hZ (hw _ (List.mem_of_getElem? (i := 9) rfl)) (hw _ (List.mem_of_getElem? (i := 8) rfl)) (by decide) (by decide)) (g := (mkF m 416 #[.val (.int p1), .val (.int p2), .val (.int p3), .val (.int p4), .val (.ref b2), .val (.int St), .val (.int Ln), .val (.int En), .val (.int (0 : Int32)), .val (.int (1 : Int32)), .val (.int Kk), .val (.int J), .val (.ref b34), .unset, .unset, .unset, .unset, .unset] [(.int x5), (.int (Kk + (5 : Int32))), (.ref b34)])) rfl (by rw [hml]; rfl) (argsL := [(.int x5)]) (rest := [(.int (Kk + (5 : Int32))), (.ref b34)]) (lenOf pd_1 rfl) rfl (by show 2 * 0 + _ ≤ _; exact Nat.le_of_eq rfl) (hb hby at_416) (fun _ _ => ⟨rfl, e94, (by decide : 2 + 0 ≤ _), (by decide : 24 + 0 ≤ _)⟩)
    dsimp only [Pt.U, Pt.locs, Pt.cells, Pt.slots] at X98 l98 y98 z98 st98 hQ98
    subst l98 y98 z98
    obtain ⟨rfl, N98q, e98⟩ := hQ98
    have N98 := Fr.app NH95 N98q
    have G98 : ∀ t, Steps p.tables e below (T98.setTop (mkF m 419 #[.val (.int p1), .val (.int p2), .val (.int p3), .val (.int p4), .val (.ref b2), .val (.int St), .val (.int Ln), .val (.int En), .val (.int (0 : Int32)), .val (.int (1 : Int32)), .val (.int Kk), .val (.int J), .val (.ref b34), .unset, .unset, .unset, .unset, .unset] [(.int (g2_0 x5)), (.int (Kk + (5 : Int32))), (.ref b34)])) t → Steps p.tables e below (s₁.setTop (entryFrame m #[(.int p1), (.int p2), (.int p3), (.int p4)] maxLocals)) t := fun t kt => G97 t (st98 t kt)
    obtain ⟨cl_99, Ar_99, q_99, S_99, M_99, H_99, U_99⟩ := id V_b34_94
    obtain ⟨T99, h99, X99, e99, W99, st99⟩ := stB X98 hx hZ e98 Ar_99 (j := (Kk + (5 : Int32))) (inb_of S_99 (own_bd16 (own_add hKs (m := 5) rfl (by omega)) (by omega))) (g := (mkF m 419 #[.val (.int p1), .val (.int p2), .val (.int p3), .val (.int p4), .val (.ref b2), .val (.int St), .val (.int Ln), .val (.int En), .val (.int (0 : Int32)), .val (.int (1 : Int32)), .val (.int Kk), .val (.int J), .val (.ref b34), .unset, .unset, .unset, .unset, .unset] [(.int (g2_0 x5)), (.int (Kk + (5 : Int32))), (.ref b34)])) rfl rfl (hb hby at_419)
    have V_b34_99 : Arv Z h99 b34 k34 .byte (16 : Int32) (List.set (List.set (List.set (List.set (List.set (List.set [(.int (nar .byte J)), (.int (nar .byte J)), (.int (nar .byte J)), (.int (nar .byte J)), (.int (nar .byte J)), (.int (nar .byte J)), (.int (nar .byte J)), (.int (nar .byte J)), (.int (nar .byte J)), (.int (nar .byte J)), (.int (nar .byte J)), (.int (nar .byte J)), (.int (nar .byte J)), (.int (nar .byte J)), (.int (nar .byte J)), (.int (nar .byte J))] k (.int (nar .byte (g2_0 x0)))) (k + 1) (.int (nar .byte (g2_0 x1)))) (k + 2) (.int (nar .byte (g2_0 x2)))) (k + 3) (.int (nar .byte (g2_0 x3)))) (k + 4) (.int (nar .byte (g2_0 x4)))) (k + 5) (.int (nar .byte (g2_0 x5)))) (.int (0 : Int32)) := Arv.set Ar_99 q_99 S_99 M_99 H_99 U_99 (fits_nar_byte _) W99 (k + 5) (own_nn (own_add hKs (m := 5) rfl (by omega))) (by simp only [List.length_set, List.length_cons, List.length_nil]; omega)
    have VA_99 : Arv Z h99 b2 k2 .byte (8 : Int32) (own_l8 x0 x1 x2 x3 x4 x5 x6 x7) (.int (0 : Int32)) := VA_94.other W99 ne_b2_b34
    have Z99 : n0 ≤ h99.size := Nat.le_trans Z94 (Keep.of_wr W99).1
    have N99 := Fr.snoc X99 N98 g_b34
    have G99 : ∀ t, Steps p.tables e below (T99.setTop (mkF m 420 #[.val (.int p1), .val (.int p2), .val (.int p3), .val (.int p4), .val (.ref b2), .val (.int St), .val (.int Ln), .val (.int En), .val (.int (0 : Int32)), .val (.int (1 : Int32)), .val (.int Kk), .val (.int J), .val (.ref b34), .unset, .unset, .unset, .unset, .unset] [])) t → Steps p.tables e below (s₁.setTop (entryFrame m #[(.int p1), (.int p2), (.int p3), (.int p4)] maxLocals)) t := fun t kt => G98 t (st99 t kt)
    obtain ⟨LH100, XH100, NH100⟩ : ∃ L', Stand p l e room_1 s m #[(.int p1), (.int p2), (.int p3), (.int p4)] below meth c T99 L' 2 24 ∧ Fr n0 L' := ⟨_, X99, N99⟩
    have G101 : ∀ t, Steps p.tables e below (T99.setTop (mkF m 431 #[.val (.int p1), .val (.int p2), .val (.int p3), .val (.int p4), .val (.ref b2), .val (.int St), .val (.int Ln), .val (.int En), .val (.int (0 : Int32)), .val (.int (1 : Int32)), .val (.int Kk), .val (.int J), .val (.ref b34), .unset, .unset, .unset, .unset, .unset] [(.int (6 : Int32)), (.ref b2), (.int (Kk + (6 : Int32))), (.ref b34)])) t → Steps p.tables e below (s₁.setTop (entryFrame m #[(.int p1), (.int p2), (.int p3), (.int p4)] maxLocals)) t := by
      intro t kt
      refine G99 t ?_
      show Steps p.tables e below (T99.setTop (mkF m 420 #[.val (.int p1), .val (.int p2), .val (.int p3), .val (.int p4), .val (.ref b2), .val (.int St), .val (.int Ln), .val (.int En), .val (.int (0 : Int32)), .val (.int (1 : Int32)), .val (.int Kk), .val (.int J), .val (.ref b34), .unset, .unset, .unset, .unset, .unset] [])) _
      refine XS.aload XH100.here hx rfl (hb hby at_420) rfl rfl ?_
      show Steps p.tables e below (T99.setTop (mkF m 422 #[.val (.int p1), .val (.int p2), .val (.int p3), .val (.int p4), .val (.ref b2), .val (.int St), .val (.int Ln), .val (.int En), .val (.int (0 : Int32)), .val (.int (1 : Int32)), .val (.int Kk), .val (.int J), .val (.ref b34), .unset, .unset, .unset, .unset, .unset] [(.ref b34)])) _
      refine XS.iload XH100.here hx rfl (hb hby at_422) rfl ?_
      show Steps p.tables e below (T99.setTop (mkF m 424 #[.val (.int p1), .val (.int p2), .val (.int p3), .val (.int p4), .val (.ref b2), .val (.int St), .val (.int Ln), .val (.int En), .val (.int (0 : Int32)), .val (.int (1 : Int32)), .val (.int Kk), .val (.int J), .val (.ref b34), .unset, .unset, .unset, .unset, .unset] [(.int Kk), (.ref b34)])) _
      refine XS.bipush XH100.here hx rfl (hb hby at_424) ?_
      show Steps p.tables e below (T99.setTop (mkF m 426 #[.val (.int p1), .val (.int p2), .val (.int p3), .val (.int p4), .val (.ref b2), .val (.int St), .val (.int Ln), .val (.int En), .val (.int (0 : Int32)), .val (.int (1 : Int32)), .val (.int Kk), .val (.int J), .val (.ref b34), .unset, .unset, .unset, .unset, .unset] [(.int (6 : Int32)), (.int Kk), (.ref b34)])) _
      refine XS.iadd XH100.here hx rfl (hb hby at_426) rfl ?_
      show Steps p.tables e below (T99.setTop (mkF m 427 #[.val (.int p1), .val (.int p2), .val (.int p3), .val (.int p4), .val (.ref b2), .val (.int St), .val (.int Ln), .val (.int En), .val (.int (0 : Int32)), .val (.int (1 : Int32)), .val (.int Kk), .val (.int J), .val (.ref b34), .unset, .unset, .unset, .unset, .unset] [(.int (Kk + (6 : Int32))), (.ref b34)])) _
      refine XS.aload XH100.here hx rfl (hb hby at_427) rfl rfl ?_
      show Steps p.tables e below (T99.setTop (mkF m 429 #[.val (.int p1), .val (.int p2), .val (.int p3), .val (.int p4), .val (.ref b2), .val (.int St), .val (.int Ln), .val (.int En), .val (.int (0 : Int32)), .val (.int (1 : Int32)), .val (.int Kk), .val (.int J), .val (.ref b34), .unset, .unset, .unset, .unset, .unset] [(.ref b2), (.int (Kk + (6 : Int32))), (.ref b34)])) _
      refine XS.bipush XH100.here hx rfl (hb hby at_429) ?_
      show Steps p.tables e below (T99.setTop (mkF m 431 #[.val (.int p1), .val (.int p2), .val (.int p3), .val (.int p4), .val (.ref b2), .val (.int St), .val (.int Ln), .val (.int En), .val (.int (0 : Int32)), .val (.int (1 : Int32)), .val (.int Kk), .val (.int J), .val (.ref b34), .unset, .unset, .unset, .unset, .unset] [(.int (6 : Int32)), (.ref b2), (.int (Kk + (6 : Int32))), (.ref b34)])) _
      exact kt
    obtain ⟨clA_d6, ArA_d6, qA_d6, SA_d6, MA_d6, HA_d6, UA_d6⟩ := id VA_99
    have hin_d6 := inb_of SA_d6 (own_bd8 (I := (6 : Int32)) (n := 6) rfl (by decide))
    have hat_d6 : clA_d6.slots[((6 : Int32)).toNatClampNeg]? = some (.int x6) := HA_d6.at hin_d6 rfl
    have G102 : ∀ t, Steps p.tables e below (T99.setTop (mkF m 432 #[.val (.int p1), .val (.int p2), .val (.int p3), .val (.int p4), .val (.ref b2), .val (.int St), .val (.int Ln), .val (.int En), .val (.int (0 : Int32)), .val (.int (1 : Int32)), .val (.int Kk), .val (.int J), .val (.ref b34), .unset, .unset, .unset, .unset, .unset] [(.int x6), (.int (Kk + (6 : Int32))), (.ref b34)])) t → Steps p.tables e below (s₁.setTop (entryFrame m #[(.int p1), (.int p2), (.int p3), (.int p4)] maxLocals)) t := by
      intro t kt
      refine G101 t ?_
      show Steps p.tables e below (T99.setTop (mkF m 431 #[.val (.int p1), .val (.int p2), .val (.int p3), .val (.int p4), .val (.ref b2), .val (.int St), .val (.int Ln), .val (.int En), .val (.int (0 : Int32)), .val (.int (1 : Int32)), .val (.int Kk), .val (.int J), .val (.ref b34), .unset, .unset, .unset, .unset, .unset] [(.int (6 : Int32)), (.ref b2), (.int (Kk + (6 : Int32))), (.ref b34)])) _
      refine XH100.baloadBytes hx (j := (6 : Int32)) (v := (.int x6)) (by rw [e99]; exact ArA_d6.1) (State.isArrayOf_alike hZ.alike ArA_d6.2.1) ArA_d6.2.2 hin_d6 hat_d6 (g := (mkF m 431 #[.val (.int p1), .val (.int p2), .val (.int p3), .val (.int p4), .val (.ref b2), .val (.int St), .val (.int Ln), .val (.int En), .val (.int (0 : Int32)), .val (.int (1 : Int32)), .val (.int Kk), .val (.int J), .val (.ref b34), .unset, .unset, .unset, .unset, .unset] [(.int (6 : Int32)), (.ref b2), (.int (Kk + (6 : Int32))), (.ref b34)])) rfl rfl (hb hby at_431) _ ?_
      show Steps p.tables e below (T99.setTop (mkF m 432 #[.val (.int p1), .val (.int p2), .val (.int p3), .val (.int p4), .val (.ref b2), .val (.int St), .val (.int Ln), .val (.int En), .val (.int (0 : Int32)), .val (.int (1 : Int32)), .val (.int Kk), .val (.int J), .val (.ref b34), .unset, .unset, .unset, .unset, .unset] [(.int x6), (.int (Kk + (6 : Int32))), (.ref b34)])) _
      exact kt
    obtain ⟨_, _, ⟨T103, L103, k103, n103⟩, -, X103, ⟨Lc103, hQ103, l103, y103, z103⟩, st103⟩ := Jvm.LawKit.callS XH100 hx (y := (⟨"com/example/evenkeel/evenkeel/http/HeaderNameHashPinLaw", "flip", "(B)B"⟩ : MethodName)) hown (mvT hZ (hw _ (List.mem_of_getElem? (i := 6) rfl))) (mvT hZ (hw _ (List.mem_of_getElem? (i := 7) rfl))) (mvT hZ (hw _ (List.mem_of_getElem? (i := 8) rfl))) (mvT hZ (hw _ (List.mem_of_getElem? (i := 9) rfl))) (by decide) (backOf (W := 2) (rm2 l Z a0 hw [] x6  h99 n0 Z99 ) hZ (hw _ (List.mem_of_getElem? (i := 9) rfl)) (hw _ (List.mem_of_getElem? (i := 8) rfl)) (by decide) (by decide)) (g := (mkF m 432 #[.val (.int p1), .val (.int p2), .val (.int p3), .val (.int p4), .val (.ref b2), .val (.int St), .val (.int Ln), .val (.int En), .val (.int (0 : Int32)), .val (.int (1 : Int32)), .val (.int Kk), .val (.int J), .val (.ref b34), .unset, .unset, .unset, .unset, .unset] [(.int x6), (.int (Kk + (6 : Int32))), (.ref b34)])) rfl (by rw [hml]; rfl) (argsL := [(.int x6)]) (rest := [(.int (Kk + (6 : Int32))), (.ref b34)]) (lenOf pd_1 rfl) rfl (by show 2 * 0 + _ ≤ _; exact Nat.le_of_eq rfl) (hb hby at_432) (fun _ _ => ⟨rfl, e99, (by decide : 2 + 0 ≤ _), (by decide : 24 + 0 ≤ _)⟩)
    dsimp only [Pt.U, Pt.locs, Pt.cells, Pt.slots] at X103 l103 y103 z103 st103 hQ103
    subst l103 y103 z103
    obtain ⟨rfl, N103q, e103⟩ := hQ103
    have N103 := Fr.app NH100 N103q
    have G103 : ∀ t, Steps p.tables e below (T103.setTop (mkF m 435 #[.val (.int p1), .val (.int p2), .val (.int p3), .val (.int p4), .val (.ref b2), .val (.int St), .val (.int Ln), .val (.int En), .val (.int (0 : Int32)), .val (.int (1 : Int32)), .val (.int Kk), .val (.int J), .val (.ref b34), .unset, .unset, .unset, .unset, .unset] [(.int (g2_0 x6)), (.int (Kk + (6 : Int32))), (.ref b34)])) t → Steps p.tables e below (s₁.setTop (entryFrame m #[(.int p1), (.int p2), (.int p3), (.int p4)] maxLocals)) t := fun t kt => G102 t (st103 t kt)
    obtain ⟨cl_104, Ar_104, q_104, S_104, M_104, H_104, U_104⟩ := id V_b34_99
    obtain ⟨T104, h104, X104, e104, W104, st104⟩ := stB X103 hx hZ e103 Ar_104 (j := (Kk + (6 : Int32))) (inb_of S_104 (own_bd16 (own_add hKs (m := 6) rfl (by omega)) (by omega))) (g := (mkF m 435 #[.val (.int p1), .val (.int p2), .val (.int p3), .val (.int p4), .val (.ref b2), .val (.int St), .val (.int Ln), .val (.int En), .val (.int (0 : Int32)), .val (.int (1 : Int32)), .val (.int Kk), .val (.int J), .val (.ref b34), .unset, .unset, .unset, .unset, .unset] [(.int (g2_0 x6)), (.int (Kk + (6 : Int32))), (.ref b34)])) rfl rfl (hb hby at_435)
    have V_b34_104 : Arv Z h104 b34 k34 .byte (16 : Int32) (List.set (List.set (List.set (List.set (List.set (List.set (List.set [(.int (nar .byte J)), (.int (nar .byte J)), (.int (nar .byte J)), (.int (nar .byte J)), (.int (nar .byte J)), (.int (nar .byte J)), (.int (nar .byte J)), (.int (nar .byte J)), (.int (nar .byte J)), (.int (nar .byte J)), (.int (nar .byte J)), (.int (nar .byte J)), (.int (nar .byte J)), (.int (nar .byte J)), (.int (nar .byte J)), (.int (nar .byte J))] k (.int (nar .byte (g2_0 x0)))) (k + 1) (.int (nar .byte (g2_0 x1)))) (k + 2) (.int (nar .byte (g2_0 x2)))) (k + 3) (.int (nar .byte (g2_0 x3)))) (k + 4) (.int (nar .byte (g2_0 x4)))) (k + 5) (.int (nar .byte (g2_0 x5)))) (k + 6) (.int (nar .byte (g2_0 x6)))) (.int (0 : Int32)) := Arv.set Ar_104 q_104 S_104 M_104 H_104 U_104 (fits_nar_byte _) W104 (k + 6) (own_nn (own_add hKs (m := 6) rfl (by omega))) (by simp only [List.length_set, List.length_cons, List.length_nil]; omega)
    have VA_104 : Arv Z h104 b2 k2 .byte (8 : Int32) (own_l8 x0 x1 x2 x3 x4 x5 x6 x7) (.int (0 : Int32)) := VA_99.other W104 ne_b2_b34
    have Z104 : n0 ≤ h104.size := Nat.le_trans Z99 (Keep.of_wr W104).1
    have N104 := Fr.snoc X104 N103 g_b34
    have G104 : ∀ t, Steps p.tables e below (T104.setTop (mkF m 436 #[.val (.int p1), .val (.int p2), .val (.int p3), .val (.int p4), .val (.ref b2), .val (.int St), .val (.int Ln), .val (.int En), .val (.int (0 : Int32)), .val (.int (1 : Int32)), .val (.int Kk), .val (.int J), .val (.ref b34), .unset, .unset, .unset, .unset, .unset] [])) t → Steps p.tables e below (s₁.setTop (entryFrame m #[(.int p1), (.int p2), (.int p3), (.int p4)] maxLocals)) t := fun t kt => G103 t (st104 t kt)
    obtain ⟨LH105, XH105, NH105⟩ : ∃ L', Stand p l e room_1 s m #[(.int p1), (.int p2), (.int p3), (.int p4)] below meth c T104 L' 2 24 ∧ Fr n0 L' := ⟨_, X104, N104⟩
    have G106 : ∀ t, Steps p.tables e below (T104.setTop (mkF m 447 #[.val (.int p1), .val (.int p2), .val (.int p3), .val (.int p4), .val (.ref b2), .val (.int St), .val (.int Ln), .val (.int En), .val (.int (0 : Int32)), .val (.int (1 : Int32)), .val (.int Kk), .val (.int J), .val (.ref b34), .unset, .unset, .unset, .unset, .unset] [(.int (7 : Int32)), (.ref b2), (.int (Kk + (7 : Int32))), (.ref b34)])) t → Steps p.tables e below (s₁.setTop (entryFrame m #[(.int p1), (.int p2), (.int p3), (.int p4)] maxLocals)) t := by
      intro t kt
      refine G104 t ?_
      show Steps p.tables e below (T104.setTop (mkF m 436 #[.val (.int p1), .val (.int p2), .val (.int p3), .val (.int p4), .val (.ref b2), .val (.int St), .val (.int Ln), .val (.int En), .val (.int (0 : Int32)), .val (.int (1 : Int32)), .val (.int Kk), .val (.int J), .val (.ref b34), .unset, .unset, .unset, .unset, .unset] [])) _
      refine XS.aload XH105.here hx rfl (hb hby at_436) rfl rfl ?_
      show Steps p.tables e below (T104.setTop (mkF m 438 #[.val (.int p1), .val (.int p2), .val (.int p3), .val (.int p4), .val (.ref b2), .val (.int St), .val (.int Ln), .val (.int En), .val (.int (0 : Int32)), .val (.int (1 : Int32)), .val (.int Kk), .val (.int J), .val (.ref b34), .unset, .unset, .unset, .unset, .unset] [(.ref b34)])) _
      refine XS.iload XH105.here hx rfl (hb hby at_438) rfl ?_
      show Steps p.tables e below (T104.setTop (mkF m 440 #[.val (.int p1), .val (.int p2), .val (.int p3), .val (.int p4), .val (.ref b2), .val (.int St), .val (.int Ln), .val (.int En), .val (.int (0 : Int32)), .val (.int (1 : Int32)), .val (.int Kk), .val (.int J), .val (.ref b34), .unset, .unset, .unset, .unset, .unset] [(.int Kk), (.ref b34)])) _
      refine XS.bipush XH105.here hx rfl (hb hby at_440) ?_
      show Steps p.tables e below (T104.setTop (mkF m 442 #[.val (.int p1), .val (.int p2), .val (.int p3), .val (.int p4), .val (.ref b2), .val (.int St), .val (.int Ln), .val (.int En), .val (.int (0 : Int32)), .val (.int (1 : Int32)), .val (.int Kk), .val (.int J), .val (.ref b34), .unset, .unset, .unset, .unset, .unset] [(.int (7 : Int32)), (.int Kk), (.ref b34)])) _
      refine XS.iadd XH105.here hx rfl (hb hby at_442) rfl ?_
      show Steps p.tables e below (T104.setTop (mkF m 443 #[.val (.int p1), .val (.int p2), .val (.int p3), .val (.int p4), .val (.ref b2), .val (.int St), .val (.int Ln), .val (.int En), .val (.int (0 : Int32)), .val (.int (1 : Int32)), .val (.int Kk), .val (.int J), .val (.ref b34), .unset, .unset, .unset, .unset, .unset] [(.int (Kk + (7 : Int32))), (.ref b34)])) _
      refine XS.aload XH105.here hx rfl (hb hby at_443) rfl rfl ?_
      show Steps p.tables e below (T104.setTop (mkF m 445 #[.val (.int p1), .val (.int p2), .val (.int p3), .val (.int p4), .val (.ref b2), .val (.int St), .val (.int Ln), .val (.int En), .val (.int (0 : Int32)), .val (.int (1 : Int32)), .val (.int Kk), .val (.int J), .val (.ref b34), .unset, .unset, .unset, .unset, .unset] [(.ref b2), (.int (Kk + (7 : Int32))), (.ref b34)])) _
      refine XS.bipush XH105.here hx rfl (hb hby at_445) ?_
      show Steps p.tables e below (T104.setTop (mkF m 447 #[.val (.int p1), .val (.int p2), .val (.int p3), .val (.int p4), .val (.ref b2), .val (.int St), .val (.int Ln), .val (.int En), .val (.int (0 : Int32)), .val (.int (1 : Int32)), .val (.int Kk), .val (.int J), .val (.ref b34), .unset, .unset, .unset, .unset, .unset] [(.int (7 : Int32)), (.ref b2), (.int (Kk + (7 : Int32))), (.ref b34)])) _
      exact kt
    obtain ⟨clA_d7, ArA_d7, qA_d7, SA_d7, MA_d7, HA_d7, UA_d7⟩ := id VA_104
    have hin_d7 := inb_of SA_d7 (own_bd8 (I := (7 : Int32)) (n := 7) rfl (by decide))
    have hat_d7 : clA_d7.slots[((7 : Int32)).toNatClampNeg]? = some (.int x7) := HA_d7.at hin_d7 rfl
    have G107 : ∀ t, Steps p.tables e below (T104.setTop (mkF m 448 #[.val (.int p1), .val (.int p2), .val (.int p3), .val (.int p4), .val (.ref b2), .val (.int St), .val (.int Ln), .val (.int En), .val (.int (0 : Int32)), .val (.int (1 : Int32)), .val (.int Kk), .val (.int J), .val (.ref b34), .unset, .unset, .unset, .unset, .unset] [(.int x7), (.int (Kk + (7 : Int32))), (.ref b34)])) t → Steps p.tables e below (s₁.setTop (entryFrame m #[(.int p1), (.int p2), (.int p3), (.int p4)] maxLocals)) t := by
      intro t kt
      refine G106 t ?_
      show Steps p.tables e below (T104.setTop (mkF m 447 #[.val (.int p1), .val (.int p2), .val (.int p3), .val (.int p4), .val (.ref b2), .val (.int St), .val (.int Ln), .val (.int En), .val (.int (0 : Int32)), .val (.int (1 : Int32)), .val (.int Kk), .val (.int J), .val (.ref b34), .unset, .unset, .unset, .unset, .unset] [(.int (7 : Int32)), (.ref b2), (.int (Kk + (7 : Int32))), (.ref b34)])) _
      refine XH105.baloadBytes hx (j := (7 : Int32)) (v := (.int x7)) (by rw [e104]; exact ArA_d7.1) (State.isArrayOf_alike hZ.alike ArA_d7.2.1) ArA_d7.2.2 hin_d7 hat_d7 (g := (mkF m 447 #[.val (.int p1), .val (.int p2), .val (.int p3), .val (.int p4), .val (.ref b2), .val (.int St), .val (.int Ln), .val (.int En), .val (.int (0 : Int32)), .val (.int (1 : Int32)), .val (.int Kk), .val (.int J), .val (.ref b34), .unset, .unset, .unset, .unset, .unset] [(.int (7 : Int32)), (.ref b2), (.int (Kk + (7 : Int32))), (.ref b34)])) rfl rfl (hb hby at_447) _ ?_
      show Steps p.tables e below (T104.setTop (mkF m 448 #[.val (.int p1), .val (.int p2), .val (.int p3), .val (.int p4), .val (.ref b2), .val (.int St), .val (.int Ln), .val (.int En), .val (.int (0 : Int32)), .val (.int (1 : Int32)), .val (.int Kk), .val (.int J), .val (.ref b34), .unset, .unset, .unset, .unset, .unset] [(.int x7), (.int (Kk + (7 : Int32))), (.ref b34)])) _
      exact kt
    obtain ⟨_, _, ⟨T108, L108, k108, n108⟩, -, X108, ⟨Lc108, hQ108, l108, y108, z108⟩, st108⟩ := Jvm.LawKit.callS XH105 hx (y := (⟨"com/example/evenkeel/evenkeel/http/HeaderNameHashPinLaw", "flip", "(B)B"⟩ : MethodName)) hown (mvT hZ (hw _ (List.mem_of_getElem? (i := 6) rfl))) (mvT hZ (hw _ (List.mem_of_getElem? (i := 7) rfl))) (mvT hZ (hw _ (List.mem_of_getElem? (i := 8) rfl))) (mvT hZ (hw _ (List.mem_of_getElem? (i := 9) rfl))) (by decide) (backOf (W := 2) (rm2 l Z a0 hw [] x7  h104 n0 Z104 ) hZ (hw _ (List.mem_of_getElem? (i := 9) rfl)) (hw _ (List.mem_of_getElem? (i := 8) rfl)) (by decide) (by decide)) (g := (mkF m 448 #[.val (.int p1), .val (.int p2), .val (.int p3), .val (.int p4), .val (.ref b2), .val (.int St), .val (.int Ln), .val (.int En), .val (.int (0 : Int32)), .val (.int (1 : Int32)), .val (.int Kk), .val (.int J), .val (.ref b34), .unset, .unset, .unset, .unset, .unset] [(.int x7), (.int (Kk + (7 : Int32))), (.ref b34)])) rfl (by rw [hml]; rfl) (argsL := [(.int x7)]) (rest := [(.int (Kk + (7 : Int32))), (.ref b34)]) (lenOf pd_1 rfl) rfl (by show 2 * 0 + _ ≤ _; exact Nat.le_of_eq rfl) (hb hby at_448) (fun _ _ => ⟨rfl, e104, (by decide : 2 + 0 ≤ _), (by decide : 24 + 0 ≤ _)⟩)
    dsimp only [Pt.U, Pt.locs, Pt.cells, Pt.slots] at X108 l108 y108 z108 st108 hQ108
    subst l108 y108 z108
    obtain ⟨rfl, N108q, e108⟩ := hQ108
    have N108 := Fr.app NH105 N108q
    have G108 : ∀ t, Steps p.tables e below (T108.setTop (mkF m 451 #[.val (.int p1), .val (.int p2), .val (.int p3), .val (.int p4), .val (.ref b2), .val (.int St), .val (.int Ln), .val (.int En), .val (.int (0 : Int32)), .val (.int (1 : Int32)), .val (.int Kk), .val (.int J), .val (.ref b34), .unset, .unset, .unset, .unset, .unset] [(.int (g2_0 x7)), (.int (Kk + (7 : Int32))), (.ref b34)])) t → Steps p.tables e below (s₁.setTop (entryFrame m #[(.int p1), (.int p2), (.int p3), (.int p4)] maxLocals)) t := fun t kt => G107 t (st108 t kt)
    obtain ⟨cl_109, Ar_109, q_109, S_109, M_109, H_109, U_109⟩ := id V_b34_104
    obtain ⟨T109, h109, X109, e109, W109, st109⟩ := stB X108 hx hZ e108 Ar_109 (j := (Kk + (7 : Int32))) (inb_of S_109 (own_bd16 (own_add hKs (m := 7) rfl (by omega)) (by omega))) (g := (mkF m 451 #[.val (.int p1), .val (.int p2), .val (.int p3), .val (.int p4), .val (.ref b2), .val (.int St), .val (.int Ln), .val (.int En), .val (.int (0 : Int32)), .val (.int (1 : Int32)), .val (.int Kk), .val (.int J), .val (.ref b34), .unset, .unset, .unset, .unset, .unset] [(.int (g2_0 x7)), (.int (Kk + (7 : Int32))), (.ref b34)])) rfl rfl (hb hby at_451)
    have V_b34_109 : Arv Z h109 b34 k34 .byte (16 : Int32) (List.set (List.set (List.set (List.set (List.set (List.set (List.set (List.set [(.int (nar .byte J)), (.int (nar .byte J)), (.int (nar .byte J)), (.int (nar .byte J)), (.int (nar .byte J)), (.int (nar .byte J)), (.int (nar .byte J)), (.int (nar .byte J)), (.int (nar .byte J)), (.int (nar .byte J)), (.int (nar .byte J)), (.int (nar .byte J)), (.int (nar .byte J)), (.int (nar .byte J)), (.int (nar .byte J)), (.int (nar .byte J))] k (.int (nar .byte (g2_0 x0)))) (k + 1) (.int (nar .byte (g2_0 x1)))) (k + 2) (.int (nar .byte (g2_0 x2)))) (k + 3) (.int (nar .byte (g2_0 x3)))) (k + 4) (.int (nar .byte (g2_0 x4)))) (k + 5) (.int (nar .byte (g2_0 x5)))) (k + 6) (.int (nar .byte (g2_0 x6)))) (k + 7) (.int (nar .byte (g2_0 x7)))) (.int (0 : Int32)) := Arv.set Ar_109 q_109 S_109 M_109 H_109 U_109 (fits_nar_byte _) W109 (k + 7) (own_nn (own_add hKs (m := 7) rfl (by omega))) (by simp only [List.length_set, List.length_cons, List.length_nil]; omega)
    have VA_109 : Arv Z h109 b2 k2 .byte (8 : Int32) (own_l8 x0 x1 x2 x3 x4 x5 x6 x7) (.int (0 : Int32)) := VA_104.other W109 ne_b2_b34
    have Z109 : n0 ≤ h109.size := Nat.le_trans Z104 (Keep.of_wr W109).1
    have N109 := Fr.snoc X109 N108 g_b34
    have G109 : ∀ t, Steps p.tables e below (T109.setTop (mkF m 452 #[.val (.int p1), .val (.int p2), .val (.int p3), .val (.int p4), .val (.ref b2), .val (.int St), .val (.int Ln), .val (.int En), .val (.int (0 : Int32)), .val (.int (1 : Int32)), .val (.int Kk), .val (.int J), .val (.ref b34), .unset, .unset, .unset, .unset, .unset] [])) t → Steps p.tables e below (s₁.setTop (entryFrame m #[(.int p1), (.int p2), (.int p3), (.int p4)] maxLocals)) t := fun t kt => G108 t (st109 t kt)
    obtain ⟨LH110, XH110, NH110⟩ : ∃ L', Stand p l e room_1 s m #[(.int p1), (.int p2), (.int p3), (.int p4)] below meth c T109 L' 2 24 ∧ Fr n0 L' := ⟨_, X109, N109⟩
    have G111 : ∀ t, Steps p.tables e below (T109.setTop (mkF m 464 #[.val (.int p1), .val (.int p2), .val (.int p3), .val (.int p4), .val (.ref b2), .val (.int St), .val (.int Ln), .val (.int En), .val (.int (0 : Int32)), .val (.int (1 : Int32)), .val (.int Kk), .val (.int J), .val (.ref b34), .unset, .unset, .unset, .unset, .unset] [(.int (En + Kk)), (.int (St + Kk)), (.ref b34)])) t → Steps p.tables e below (s₁.setTop (entryFrame m #[(.int p1), (.int p2), (.int p3), (.int p4)] maxLocals)) t := by
      intro t kt
      refine G109 t ?_
      show Steps p.tables e below (T109.setTop (mkF m 452 #[.val (.int p1), .val (.int p2), .val (.int p3), .val (.int p4), .val (.ref b2), .val (.int St), .val (.int Ln), .val (.int En), .val (.int (0 : Int32)), .val (.int (1 : Int32)), .val (.int Kk), .val (.int J), .val (.ref b34), .unset, .unset, .unset, .unset, .unset] [])) _
      refine XS.aload XH110.here hx rfl (hb hby at_452) rfl rfl ?_
      show Steps p.tables e below (T109.setTop (mkF m 454 #[.val (.int p1), .val (.int p2), .val (.int p3), .val (.int p4), .val (.ref b2), .val (.int St), .val (.int Ln), .val (.int En), .val (.int (0 : Int32)), .val (.int (1 : Int32)), .val (.int Kk), .val (.int J), .val (.ref b34), .unset, .unset, .unset, .unset, .unset] [(.ref b34)])) _
      refine XS.iload XH110.here hx rfl (hb hby at_454) rfl ?_
      show Steps p.tables e below (T109.setTop (mkF m 456 #[.val (.int p1), .val (.int p2), .val (.int p3), .val (.int p4), .val (.ref b2), .val (.int St), .val (.int Ln), .val (.int En), .val (.int (0 : Int32)), .val (.int (1 : Int32)), .val (.int Kk), .val (.int J), .val (.ref b34), .unset, .unset, .unset, .unset, .unset] [(.int St), (.ref b34)])) _
      refine XS.iload XH110.here hx rfl (hb hby at_456) rfl ?_
      show Steps p.tables e below (T109.setTop (mkF m 458 #[.val (.int p1), .val (.int p2), .val (.int p3), .val (.int p4), .val (.ref b2), .val (.int St), .val (.int Ln), .val (.int En), .val (.int (0 : Int32)), .val (.int (1 : Int32)), .val (.int Kk), .val (.int J), .val (.ref b34), .unset, .unset, .unset, .unset, .unset] [(.int Kk), (.int St), (.ref b34)])) _
      refine XS.iadd XH110.here hx rfl (hb hby at_458) rfl ?_
      show Steps p.tables e below (T109.setTop (mkF m 459 #[.val (.int p1), .val (.int p2), .val (.int p3), .val (.int p4), .val (.ref b2), .val (.int St), .val (.int Ln), .val (.int En), .val (.int (0 : Int32)), .val (.int (1 : Int32)), .val (.int Kk), .val (.int J), .val (.ref b34), .unset, .unset, .unset, .unset, .unset] [(.int (St + Kk)), (.ref b34)])) _
      refine XS.iload XH110.here hx rfl (hb hby at_459) rfl ?_
      show Steps p.tables e below (T109.setTop (mkF m 461 #[.val (.int p1), .val (.int p2), .val (.int p3), .val (.int p4), .val (.ref b2), .val (.int St), .val (.int Ln), .val (.int En), .val (.int (0 : Int32)), .val (.int (1 : Int32)), .val (.int Kk), .val (.int J), .val (.ref b34), .unset, .unset, .unset, .unset, .unset] [(.int En), (.int (St + Kk)), (.ref b34)])) _
      refine XS.iload XH110.here hx rfl (hb hby at_461) rfl ?_
      show Steps p.tables e below (T109.setTop (mkF m 463 #[.val (.int p1), .val (.int p2), .val (.int p3), .val (.int p4), .val (.ref b2), .val (.int St), .val (.int Ln), .val (.int En), .val (.int (0 : Int32)), .val (.int (1 : Int32)), .val (.int Kk), .val (.int J), .val (.ref b34), .unset, .unset, .unset, .unset, .unset] [(.int Kk), (.int En), (.int (St + Kk)), (.ref b34)])) _
      refine XS.iadd XH110.here hx rfl (hb hby at_463) rfl ?_
      show Steps p.tables e below (T109.setTop (mkF m 464 #[.val (.int p1), .val (.int p2), .val (.int p3), .val (.int p4), .val (.ref b2), .val (.int St), .val (.int Ln), .val (.int En), .val (.int (0 : Int32)), .val (.int (1 : Int32)), .val (.int Kk), .val (.int J), .val (.ref b34), .unset, .unset, .unset, .unset, .unset] [(.int (En + Kk)), (.int (St + Kk)), (.ref b34)])) _
      exact kt
    have VB : Arv Z h109 b34 k34 .byte (16 : Int32) (own_l16 J x0 x1 x2 x3 x4 x5 x6 x7 k) (.int (0 : Int32)) := V_b34_109
    have hS2 : (St + Kk).toInt = (s' + k : Nat) := own_add hSs hKs (by omega)
    have hE2 : (En + Kk).toInt = ((s' + k) + m' : Nat) := by rw [own_add hEs hKs (by omega)]; omega
    have hlen2 : ((En + Kk) - (St + Kk)).toInt = m' := own_sub hE2 hS2 (by omega)
    obtain ⟨_, _, ⟨T112, L112, k112, n112⟩, -, X112, ⟨Lc112, hQ112, l112, y112, z112⟩, st112⟩ := Jvm.LawKit.callS XH110 hx (y := (⟨"com/example/evenkeel/evenkeel/http/HeaderName", "hash", "([BII)I"⟩ : MethodName)) hown (mvT hZ (hw _ (List.mem_of_getElem? (i := 2) rfl))) (mvT hZ (hw _ (List.mem_of_getElem? (i := 3) rfl))) (mvT hZ (hw _ (List.mem_of_getElem? (i := 4) rfl))) (mvT hZ (hw _ (List.mem_of_getElem? (i := 5) rfl))) (by decide) (backOf (W := 0) (rm1a l Z a0 hw [] b34 (St + Kk) (En + Kk)  h109 n0 Z109 ((own_zero hlen2).mpr hz)) hZ (hw _ (List.mem_of_getElem? (i := 5) rfl)) (hw _ (List.mem_of_getElem? (i := 4) rfl)) (by decide) (by decide)) (g := (mkF m 464 #[.val (.int p1), .val (.int p2), .val (.int p3), .val (.int p4), .val (.ref b2), .val (.int St), .val (.int Ln), .val (.int En), .val (.int (0 : Int32)), .val (.int (1 : Int32)), .val (.int Kk), .val (.int J), .val (.ref b34), .unset, .unset, .unset, .unset, .unset] [(.int (En + Kk)), (.int (St + Kk)), (.ref b34)])) rfl (by rw [hml]; rfl) (argsL := [(.ref b34), (.int (St + Kk)), (.int (En + Kk))]) (rest := []) (lenOf pd_0 rfl) rfl (by show 2 * 0 + _ ≤ _; exact Nat.le_of_eq rfl) (hb hby at_464) (fun _ _ => ⟨rfl, e109, (by decide : 2 + 0 ≤ _), (by decide : 24 + 0 ≤ _)⟩)
    dsimp only [Pt.U, Pt.locs, Pt.cells, Pt.slots] at X112 l112 y112 z112 st112 hQ112
    subst l112 y112 z112
    obtain ⟨rfl, N112q, e112⟩ := hQ112
    have N112 := Fr.app NH110 N112q
    have G112 : ∀ t, Steps p.tables e below (T112.setTop (mkF m 467 #[.val (.int p1), .val (.int p2), .val (.int p3), .val (.int p4), .val (.ref b2), .val (.int St), .val (.int Ln), .val (.int En), .val (.int (0 : Int32)), .val (.int (1 : Int32)), .val (.int Kk), .val (.int J), .val (.ref b34), .unset, .unset, .unset, .unset, .unset] [(.int (0 : Int32))])) t → Steps p.tables e below (s₁.setTop (entryFrame m #[(.int p1), (.int p2), (.int p3), (.int p4)] maxLocals)) t := fun t kt => G111 t (st112 t kt)
    have G113 : ∀ t, Steps p.tables e below (T112.setTop (mkF m 486 #[.val (.int p1), .val (.int p2), .val (.int p3), .val (.int p4), .val (.ref b2), .val (.int St), .val (.int Ln), .val (.int En), .val (.int (0 : Int32)), .val (.int (1 : Int32)), .val (.int Kk), .val (.int J), .val (.ref b34), .val (.int (0 : Int32)), .unset, .unset, .unset, .unset] [(.int (1 : Int32))])) t → Steps p.tables e below (s₁.setTop (entryFrame m #[(.int p1), (.int p2), (.int p3), (.int p4)] maxLocals)) t := by
      intro t kt
      refine G112 t ?_
      show Steps p.tables e below (T112.setTop (mkF m 467 #[.val (.int p1), .val (.int p2), .val (.int p3), .val (.int p4), .val (.ref b2), .val (.int St), .val (.int Ln), .val (.int En), .val (.int (0 : Int32)), .val (.int (1 : Int32)), .val (.int Kk), .val (.int J), .val (.ref b34), .unset, .unset, .unset, .unset, .unset] [(.int (0 : Int32))])) _
      refine XS.istore X112.here hx rfl (hb hby at_467) rfl (l' := #[.val (.int p1), .val (.int p2), .val (.int p3), .val (.int p4), .val (.ref b2), .val (.int St), .val (.int Ln), .val (.int En), .val (.int (0 : Int32)), .val (.int (1 : Int32)), .val (.int Kk), .val (.int J), .val (.ref b34), .val (.int (0 : Int32)), .unset, .unset, .unset, .unset]) rfl ?_
      show Steps p.tables e below (T112.setTop (mkF m 469 #[.val (.int p1), .val (.int p2), .val (.int p3), .val (.int p4), .val (.ref b2), .val (.int St), .val (.int Ln), .val (.int En), .val (.int (0 : Int32)), .val (.int (1 : Int32)), .val (.int Kk), .val (.int J), .val (.ref b34), .val (.int (0 : Int32)), .unset, .unset, .unset, .unset] [])) _
      refine XS.iload X112.here hx rfl (hb hby at_469) rfl ?_
      show Steps p.tables e below (T112.setTop (mkF m 471 #[.val (.int p1), .val (.int p2), .val (.int p3), .val (.int p4), .val (.ref b2), .val (.int St), .val (.int Ln), .val (.int En), .val (.int (0 : Int32)), .val (.int (1 : Int32)), .val (.int Kk), .val (.int J), .val (.ref b34), .val (.int (0 : Int32)), .unset, .unset, .unset, .unset] [(.int (1 : Int32))])) _
      refine XS.ifNo X112.here hx rfl (hb hby at_471) rfl ((if0 _ _).trans (feq (by decide : ¬ ((1 : Int32) = (0 : Int32)))).1) ?_
      show Steps p.tables e below (T112.setTop (mkF m 474 #[.val (.int p1), .val (.int p2), .val (.int p3), .val (.int p4), .val (.ref b2), .val (.int St), .val (.int Ln), .val (.int En), .val (.int (0 : Int32)), .val (.int (1 : Int32)), .val (.int Kk), .val (.int J), .val (.ref b34), .val (.int (0 : Int32)), .unset, .unset, .unset, .unset] [])) _
      refine XS.iload X112.here hx rfl (hb hby at_474) rfl ?_
      show Steps p.tables e below (T112.setTop (mkF m 476 #[.val (.int p1), .val (.int p2), .val (.int p3), .val (.int p4), .val (.ref b2), .val (.int St), .val (.int Ln), .val (.int En), .val (.int (0 : Int32)), .val (.int (1 : Int32)), .val (.int Kk), .val (.int J), .val (.ref b34), .val (.int (0 : Int32)), .unset, .unset, .unset, .unset] [(.int (0 : Int32))])) _
      refine XS.iload X112.here hx rfl (hb hby at_476) rfl ?_
      show Steps p.tables e below (T112.setTop (mkF m 478 #[.val (.int p1), .val (.int p2), .val (.int p3), .val (.int p4), .val (.ref b2), .val (.int St), .val (.int Ln), .val (.int En), .val (.int (0 : Int32)), .val (.int (1 : Int32)), .val (.int Kk), .val (.int J), .val (.ref b34), .val (.int (0 : Int32)), .unset, .unset, .unset, .unset] [(.int (0 : Int32)), (.int (0 : Int32))])) _
      refine XS.icmpNo X112.here hx rfl (hb hby at_478) rfl (teq (by decide : (0 : Int32) = (0 : Int32))).2 ?_
      show Steps p.tables e below (T112.setTop (mkF m 481 #[.val (.int p1), .val (.int p2), .val (.int p3), .val (.int p4), .val (.ref b2), .val (.int St), .val (.int Ln), .val (.int En), .val (.int (0 : Int32)), .val (.int (1 : Int32)), .val (.int Kk), .val (.int J), .val (.ref b34), .val (.int (0 : Int32)), .unset, .unset, .unset, .unset] [])) _
      refine XS.iconst X112.here hx rfl (hb hby at_481) ?_
      show Steps p.tables e below (T112.setTop (mkF m 482 #[.val (.int p1), .val (.int p2), .val (.int p3), .val (.int p4), .val (.ref b2), .val (.int St), .val (.int Ln), .val (.int En), .val (.int (0 : Int32)), .val (.int (1 : Int32)), .val (.int Kk), .val (.int J), .val (.ref b34), .val (.int (0 : Int32)), .unset, .unset, .unset, .unset] [(.int (1 : Int32))])) _
      refine XS.goto X112.here hx rfl (pc0 := 482) (pc' := 486) rfl (hb hby at_482) (by decide) (by decide) ?_
      show Steps p.tables e below (T112.setTop (mkF m 486 #[.val (.int p1), .val (.int p2), .val (.int p3), .val (.int p4), .val (.ref b2), .val (.int St), .val (.int Ln), .val (.int En), .val (.int (0 : Int32)), .val (.int (1 : Int32)), .val (.int Kk), .val (.int J), .val (.ref b34), .val (.int (0 : Int32)), .unset, .unset, .unset, .unset] [(.int (1 : Int32))])) _
      exact kt
    obtain ⟨fs, hr, hrun, hended, hW, hsame⟩ := X112.leave (v := some (.int (1 : Int32))) (fun h => by rw [Bd.returns] at h; cases h)
    refine ⟨_, _, G113 _ ?_, hrun, hended, _, _, rfl, ?_, ⟨_, rfl⟩, hW, hsame.mono (by decide) (by decide)⟩
    · show Steps p.tables e below (T112.setTop (mkF m 486 #[.val (.int p1), .val (.int p2), .val (.int p3), .val (.int p4), .val (.ref b2), .val (.int St), .val (.int Ln), .val (.int En), .val (.int (0 : Int32)), .val (.int (1 : Int32)), .val (.int Kk), .val (.int J), .val (.ref b34), .val (.int (0 : Int32)), .unset, .unset, .unset, .unset] [(.int (1 : Int32))])) _
      exact retN X112 hx (t := .boolean) Bd.returns (by simp) (hb hby at_486) hr
    · show Q0 Z p1 p2 p3 p4 h0 n0 _ T112.heap _
      rw [e112]
      exact ⟨rfl, N112⟩
  · have i0 : St.toInt = (s' : Nat) := hSs
    have i1 : (St + ((En - St) / (2 : Int32))).toInt = ((s' + m' / 2) : Nat) := own_add hSs (own_half hlen) (by omega)
    have i2 : (En - (1 : Int32)).toInt = ((s' + m' - 1) : Nat) := own_pred hEs (by omega)
    have i3 := own_mid hSs hEs (by omega)
    have hi_0 := inb_of SA (own_bd8 i0 (by omega))
    have ha_0 : clA.slots[(St).toNatClampNeg]? = some (.int (own_sel x0 x1 x2 x3 x4 x5 x6 x7 s')) := HA.at hi_0 (by rw [own_nn i0]; exact own_get8 x0 x1 x2 x3 x4 x5 x6 x7 (by omega))
    have hi_1 := inb_of SA (own_bd8 i1 (by omega))
    have ha_1 : clA.slots[((St + ((En - St) / (2 : Int32)))).toNatClampNeg]? = some (.int (own_sel x0 x1 x2 x3 x4 x5 x6 x7 (s' + m' / 2))) := HA.at hi_1 (by rw [own_nn i1]; exact own_get8 x0 x1 x2 x3 x4 x5 x6 x7 (by omega))
    have hi_2 := inb_of SA (own_bd8 i2 (by omega))
    have ha_2 : clA.slots[((En - (1 : Int32))).toNatClampNeg]? = some (.int (own_sel x0 x1 x2 x3 x4 x5 x6 x7 (s' + m' - 1))) := HA.at hi_2 (by rw [own_nn i2]; exact own_get8 x0 x1 x2 x3 x4 x5 x6 x7 (by omega))
    have hi_3 := inb_of SA (own_bd8 i3 (by omega))
    have ha_3 : clA.slots[((((St + En).toUInt32 >>> ((1 : Int32) &&& 31).toUInt32).toInt32)).toNatClampNeg]? = some (.int (own_sel x0 x1 x2 x3 x4 x5 x6 x7 (s' + m' / 2))) := HA.at hi_3 (by rw [own_nn i3]; exact own_get8 x0 x1 x2 x3 x4 x5 x6 x7 (by omega))
    obtain ⟨_, _, ⟨T114, L114, k114, n114⟩, -, X114, ⟨Lc114, hQ114, l114, y114, z114⟩, st114⟩ := Jvm.LawKit.callS XH19 hx (y := (⟨"com/example/evenkeel/evenkeel/http/HeaderName", "hash", "([BII)I"⟩ : MethodName)) hown (mvT hZ (hw _ (List.mem_of_getElem? (i := 2) rfl))) (mvT hZ (hw _ (List.mem_of_getElem? (i := 3) rfl))) (mvT hZ (hw _ (List.mem_of_getElem? (i := 4) rfl))) (mvT hZ (hw _ (List.mem_of_getElem? (i := 5) rfl))) (by decide) (backOf (W := 0) (rm1b l Z a0 hw [] b2 St En clA (own_sel x0 x1 x2 x3 x4 x5 x6 x7 s') (own_sel x0 x1 x2 x3 x4 x5 x6 x7 (s' + m' / 2)) (own_sel x0 x1 x2 x3 x4 x5 x6 x7 (s' + m' - 1)) h18 n0 Z18 (fun q => hz ((own_zero hlen).mp q)) ArA hi_0 ha_0 hi_1 ha_1 hi_2 ha_2) hZ (hw _ (List.mem_of_getElem? (i := 5) rfl)) (hw _ (List.mem_of_getElem? (i := 4) rfl)) (by decide) (by decide)) (g := (mkF m 107 #[.val (.int p1), .val (.int p2), .val (.int p3), .val (.int p4), .val (.ref b2), .val (.int St), .val (.int Ln), .val (.int En), .unset, .unset, .unset, .unset, .unset, .unset, .unset, .unset, .unset, .unset] [(.int En), (.int St), (.ref b2)])) rfl (by rw [hml]; rfl) (argsL := [(.ref b2), (.int St), (.int En)]) (rest := []) (lenOf pd_0 rfl) rfl (by show 2 * 0 + _ ≤ _; exact Nat.le_of_eq rfl) (hb hby at_107) (fun _ _ => ⟨rfl, e18, (by decide : 1 + 0 ≤ _), (by decide : 8 + 0 ≤ _)⟩)
    dsimp only [Pt.U, Pt.locs, Pt.cells, Pt.slots] at X114 l114 y114 z114 st114 hQ114
    subst l114 y114 z114
    obtain ⟨rfl, N114q, e114⟩ := hQ114
    have N114 := Fr.app NH19 N114q
    have G114 : ∀ t, Steps p.tables e below (T114.setTop (mkF m 110 #[.val (.int p1), .val (.int p2), .val (.int p3), .val (.int p4), .val (.ref b2), .val (.int St), .val (.int Ln), .val (.int En), .unset, .unset, .unset, .unset, .unset, .unset, .unset, .unset, .unset, .unset] [(.int (g1b_0 b2 St En (own_sel x0 x1 x2 x3 x4 x5 x6 x7 s') (own_sel x0 x1 x2 x3 x4 x5 x6 x7 (s' + m' / 2)) (own_sel x0 x1 x2 x3 x4 x5 x6 x7 (s' + m' - 1))))])) t → Steps p.tables e below (s₁.setTop (entryFrame m #[(.int p1), (.int p2), (.int p3), (.int p4)] maxLocals)) t := fun t kt => G26 t (st114 t kt)
    obtain ⟨H1, e_H1⟩ : ∃ z : Int32, z = (g1b_0 b2 St En (own_sel x0 x1 x2 x3 x4 x5 x6 x7 s') (own_sel x0 x1 x2 x3 x4 x5 x6 x7 (s' + m' / 2)) (own_sel x0 x1 x2 x3 x4 x5 x6 x7 (s' + m' - 1))) := ⟨_, rfl⟩
    have G115 : ∀ t, Steps p.tables e below (T114.setTop (mkF m 110 #[.val (.int p1), .val (.int p2), .val (.int p3), .val (.int p4), .val (.ref b2), .val (.int St), .val (.int Ln), .val (.int En), .unset, .unset, .unset, .unset, .unset, .unset, .unset, .unset, .unset, .unset] [(.int H1)])) t → Steps p.tables e below (s₁.setTop (entryFrame m #[(.int p1), (.int p2), (.int p3), (.int p4)] maxLocals)) t := by
      intro t kt
      refine G114 t ?_
      subst e_H1
      exact kt
    have G116 : ∀ t, Steps p.tables e below (T114.setTop (mkF m 137 #[.val (.int p1), .val (.int p2), .val (.int p3), .val (.int p4), .val (.ref b2), .val (.int St), .val (.int Ln), .val (.int En), .val (.int H1), .unset, .unset, .unset, .unset, .unset, .unset, .unset, .unset, .unset] [(.int (own_sel x0 x1 x2 x3 x4 x5 x6 x7 s'))])) t → Steps p.tables e below (s₁.setTop (entryFrame m #[(.int p1), (.int p2), (.int p3), (.int p4)] maxLocals)) t := by
      intro t kt
      refine G115 t ?_
      show Steps p.tables e below (T114.setTop (mkF m 110 #[.val (.int p1), .val (.int p2), .val (.int p3), .val (.int p4), .val (.ref b2), .val (.int St), .val (.int Ln), .val (.int En), .unset, .unset, .unset, .unset, .unset, .unset, .unset, .unset, .unset, .unset] [(.int H1)])) _
      refine XS.istore X114.here hx rfl (hb hby at_110) rfl (l' := #[.val (.int p1), .val (.int p2), .val (.int p3), .val (.int p4), .val (.ref b2), .val (.int St), .val (.int Ln), .val (.int En), .val (.int H1), .unset, .unset, .unset, .unset, .unset, .unset, .unset, .unset, .unset]) rfl ?_
      show Steps p.tables e below (T114.setTop (mkF m 112 #[.val (.int p1), .val (.int p2), .val (.int p3), .val (.int p4), .val (.ref b2), .val (.int St), .val (.int Ln), .val (.int En), .val (.int H1), .unset, .unset, .unset, .unset, .unset, .unset, .unset, .unset, .unset] [])) _
      refine XS.iload X114.here hx rfl (hb hby at_112) rfl ?_
      show Steps p.tables e below (T114.setTop (mkF m 114 #[.val (.int p1), .val (.int p2), .val (.int p3), .val (.int p4), .val (.ref b2), .val (.int St), .val (.int Ln), .val (.int En), .val (.int H1), .unset, .unset, .unset, .unset, .unset, .unset, .unset, .unset, .unset] [(.int Ln)])) _
      refine XS.ifYes X114.here hx rfl (pc0 := 114) (pc' := 132) rfl (hb hby at_114) rfl ((if0 _ _).trans (feq (fun q => hz ((own_zero hLm).mp q))).2) (by decide) (by decide) ?_
      show Steps p.tables e below (T114.setTop (mkF m 132 #[.val (.int p1), .val (.int p2), .val (.int p3), .val (.int p4), .val (.ref b2), .val (.int St), .val (.int Ln), .val (.int En), .val (.int H1), .unset, .unset, .unset, .unset, .unset, .unset, .unset, .unset, .unset] [])) _
      refine XS.aload X114.here hx rfl (hb hby at_132) rfl rfl ?_
      show Steps p.tables e below (T114.setTop (mkF m 134 #[.val (.int p1), .val (.int p2), .val (.int p3), .val (.int p4), .val (.ref b2), .val (.int St), .val (.int Ln), .val (.int En), .val (.int H1), .unset, .unset, .unset, .unset, .unset, .unset, .unset, .unset, .unset] [(.ref b2)])) _
      refine XS.iload X114.here hx rfl (hb hby at_134) rfl ?_
      show Steps p.tables e below (T114.setTop (mkF m 136 #[.val (.int p1), .val (.int p2), .val (.int p3), .val (.int p4), .val (.ref b2), .val (.int St), .val (.int Ln), .val (.int En), .val (.int H1), .unset, .unset, .unset, .unset, .unset, .unset, .unset, .unset, .unset] [(.int St), (.ref b2)])) _
      refine X114.baloadBytes hx (j := St) (v := (.int (own_sel x0 x1 x2 x3 x4 x5 x6 x7 s'))) (by rw [e114]; exact ArA.1) (State.isArrayOf_alike hZ.alike ArA.2.1) ArA.2.2 hi_0 ha_0 (g := (mkF m 136 #[.val (.int p1), .val (.int p2), .val (.int p3), .val (.int p4), .val (.ref b2), .val (.int St), .val (.int Ln), .val (.int En), .val (.int H1), .unset, .unset, .unset, .unset, .unset, .unset, .unset, .unset, .unset] [(.int St), (.ref b2)])) rfl rfl (hb hby at_136) _ ?_
      show Steps p.tables e below (T114.setTop (mkF m 137 #[.val (.int p1), .val (.int p2), .val (.int p3), .val (.int p4), .val (.ref b2), .val (.int St), .val (.int Ln), .val (.int En), .val (.int H1), .unset, .unset, .unset, .unset, .unset, .unset, .unset, .unset, .unset] [(.int (own_sel x0 x1 x2 x3 x4 x5 x6 x7 s'))])) _
      exact kt
    obtain ⟨_, _, ⟨T117, L117, k117, n117⟩, -, X117, ⟨Lc117, hQ117, l117, y117, z117⟩, st117⟩ := Jvm.LawKit.callS X114 hx (y := (⟨"com/example/evenkeel/evenkeel/http/HeaderNameHashPinLaw", "fold", "(B)I"⟩ : MethodName)) hown (mvT hZ (hw _ (List.mem_of_getElem? (i := 10) rfl))) (mvT hZ (hw _ (List.mem_of_getElem? (i := 11) rfl))) (mvT hZ (hw _ (List.mem_of_getElem? (i := 8) rfl))) (mvT hZ (hw _ (List.mem_of_getElem? (i := 12) rfl))) (by decide) (backOf (W := 0) (rm3 l Z a0 hw [] (own_sel x0 x1 x2 x3 x4 x5 x6 x7 s')  h18 n0 Z18 ) hZ (hw _ (List.mem_of_getElem? (i := 12) rfl)) (hw _ (List.mem_of_getElem? (i := 8) rfl)) (by decide) (by decide)) (g := (mkF m 137 #[.val (.int p1), .val (.int p2), .val (.int p3), .val (.int p4), .val (.ref b2), .val (.int St), .val (.int Ln), .val (.int En), .val (.int H1), .unset, .unset, .unset, .unset, .unset, .unset, .unset, .unset, .unset] [(.int (own_sel x0 x1 x2 x3 x4 x5 x6 x7 s'))])) rfl (by rw [hml]; rfl) (argsL := [(.int (own_sel x0 x1 x2 x3 x4 x5 x6 x7 s'))]) (rest := []) (lenOf pd_2 rfl) rfl (by show 2 * 0 + _ ≤ _; exact Nat.le_of_eq rfl) (hb hby at_137) (fun _ _ => ⟨rfl, e114, (by decide : 1 + 0 ≤ _), (by decide : 8 + 0 ≤ _)⟩)
    dsimp only [Pt.U, Pt.locs, Pt.cells, Pt.slots] at X117 l117 y117 z117 st117 hQ117
    subst l117 y117 z117
    obtain ⟨rfl, N117q, e117⟩ := hQ117
    have N117 := Fr.app N114 N117q
    have G117 : ∀ t, Steps p.tables e below (T117.setTop (mkF m 140 #[.val (.int p1), .val (.int p2), .val (.int p3), .val (.int p4), .val (.ref b2), .val (.int St), .val (.int Ln), .val (.int En), .val (.int H1), .unset, .unset, .unset, .unset, .unset, .unset, .unset, .unset, .unset] [(.int (g3_0 (own_sel x0 x1 x2 x3 x4 x5 x6 x7 s')))])) t → Steps p.tables e below (s₁.setTop (entryFrame m #[(.int p1), (.int p2), (.int p3), (.int p4)] maxLocals)) t := fun t kt => G116 t (st117 t kt)
    obtain ⟨LH118, XH118, NH118⟩ : ∃ L', Stand p l e room_1 s m #[(.int p1), (.int p2), (.int p3), (.int p4)] below meth c T117 L' 1 8 ∧ Fr n0 L' := ⟨_, X117, N117⟩
    obtain ⟨u0, e_u0⟩ : ∃ z : Int32, z = (g3_0 (own_sel x0 x1 x2 x3 x4 x5 x6 x7 s')) := ⟨_, rfl⟩
    have G119 : ∀ t, Steps p.tables e below (T117.setTop (mkF m 140 #[.val (.int p1), .val (.int p2), .val (.int p3), .val (.int p4), .val (.ref b2), .val (.int St), .val (.int Ln), .val (.int En), .val (.int H1), .unset, .unset, .unset, .unset, .unset, .unset, .unset, .unset, .unset] [(.int u0)])) t → Steps p.tables e below (s₁.setTop (entryFrame m #[(.int p1), (.int p2), (.int p3), (.int p4)] maxLocals)) t := by
      intro t kt
      refine G117 t ?_
      subst e_u0
      exact kt
    have G120 : ∀ t, Steps p.tables e below (T117.setTop (mkF m 153 #[.val (.int p1), .val (.int p2), .val (.int p3), .val (.int p4), .val (.ref b2), .val (.int St), .val (.int Ln), .val (.int En), .val (.int H1), .unset, .val (.long (u0.toInt64)), .second, .unset, .unset, .unset, .unset, .unset, .unset] [(.int (own_sel x0 x1 x2 x3 x4 x5 x6 x7 (s' + m' / 2)))])) t → Steps p.tables e below (s₁.setTop (entryFrame m #[(.int p1), (.int p2), (.int p3), (.int p4)] maxLocals)) t := by
      intro t kt
      refine G119 t ?_
      show Steps p.tables e below (T117.setTop (mkF m 140 #[.val (.int p1), .val (.int p2), .val (.int p3), .val (.int p4), .val (.ref b2), .val (.int St), .val (.int Ln), .val (.int En), .val (.int H1), .unset, .unset, .unset, .unset, .unset, .unset, .unset, .unset, .unset] [(.int u0)])) _
      refine XS.i2l XH118.here hx rfl (hb hby at_140) rfl ?_
      show Steps p.tables e below (T117.setTop (mkF m 141 #[.val (.int p1), .val (.int p2), .val (.int p3), .val (.int p4), .val (.ref b2), .val (.int St), .val (.int Ln), .val (.int En), .val (.int H1), .unset, .unset, .unset, .unset, .unset, .unset, .unset, .unset, .unset] [(.long (u0.toInt64))])) _
      refine XS.lstore XH118.here hx rfl (hb hby at_141) rfl (l' := #[.val (.int p1), .val (.int p2), .val (.int p3), .val (.int p4), .val (.ref b2), .val (.int St), .val (.int Ln), .val (.int En), .val (.int H1), .unset, .val (.long (u0.toInt64)), .second, .unset, .unset, .unset, .unset, .unset, .unset]) rfl ?_
      show Steps p.tables e below (T117.setTop (mkF m 143 #[.val (.int p1), .val (.int p2), .val (.int p3), .val (.int p4), .val (.ref b2), .val (.int St), .val (.int Ln), .val (.int En), .val (.int H1), .unset, .val (.long (u0.toInt64)), .second, .unset, .unset, .unset, .unset, .unset, .unset] [])) _
      refine XS.aload XH118.here hx rfl (hb hby at_143) rfl rfl ?_
      show Steps p.tables e below (T117.setTop (mkF m 145 #[.val (.int p1), .val (.int p2), .val (.int p3), .val (.int p4), .val (.ref b2), .val (.int St), .val (.int Ln), .val (.int En), .val (.int H1), .unset, .val (.long (u0.toInt64)), .second, .unset, .unset, .unset, .unset, .unset, .unset] [(.ref b2)])) _
      refine XS.iload XH118.here hx rfl (hb hby at_145) rfl ?_
      show Steps p.tables e below (T117.setTop (mkF m 147 #[.val (.int p1), .val (.int p2), .val (.int p3), .val (.int p4), .val (.ref b2), .val (.int St), .val (.int Ln), .val (.int En), .val (.int H1), .unset, .val (.long (u0.toInt64)), .second, .unset, .unset, .unset, .unset, .unset, .unset] [(.int St), (.ref b2)])) _
      refine XS.iload XH118.here hx rfl (hb hby at_147) rfl ?_
      show Steps p.tables e below (T117.setTop (mkF m 149 #[.val (.int p1), .val (.int p2), .val (.int p3), .val (.int p4), .val (.ref b2), .val (.int St), .val (.int Ln), .val (.int En), .val (.int H1), .unset, .val (.long (u0.toInt64)), .second, .unset, .unset, .unset, .unset, .unset, .unset] [(.int En), (.int St), (.ref b2)])) _
      refine XS.iadd XH118.here hx rfl (hb hby at_149) rfl ?_
      show Steps p.tables e below (T117.setTop (mkF m 150 #[.val (.int p1), .val (.int p2), .val (.int p3), .val (.int p4), .val (.ref b2), .val (.int St), .val (.int Ln), .val (.int En), .val (.int H1), .unset, .val (.long (u0.toInt64)), .second, .unset, .unset, .unset, .unset, .unset, .unset] [(.int (St + En)), (.ref b2)])) _
      refine XS.iconst XH118.here hx rfl (hb hby at_150) ?_
      show Steps p.tables e below (T117.setTop (mkF m 151 #[.val (.int p1), .val (.int p2), .val (.int p3), .val (.int p4), .val (.ref b2), .val (.int St), .val (.int Ln), .val (.int En), .val (.int H1), .unset, .val (.long (u0.toInt64)), .second, .unset, .unset, .unset, .unset, .unset, .unset] [(.int (1 : Int32)), (.int (St + En)), (.ref b2)])) _
      refine XS.iushr XH118.here hx rfl (hb hby at_151) rfl ?_
      show Steps p.tables e below (T117.setTop (mkF m 152 #[.val (.int p1), .val (.int p2), .val (.int p3), .val (.int p4), .val (.ref b2), .val (.int St), .val (.int Ln), .val (.int En), .val (.int H1), .unset, .val (.long (u0.toInt64)), .second, .unset, .unset, .unset, .unset, .unset, .unset] [(.int (((St + En).toUInt32 >>> ((1 : Int32) &&& 31).toUInt32).toInt32)), (.ref b2)])) _
      refine XH118.baloadBytes hx (j := (((St + En).toUInt32 >>> ((1 : Int32) &&& 31).toUInt32).toInt32)) (v := (.int (own_sel x0 x1 x2 x3 x4 x5 x6 x7 (s' + m' / 2)))) (by rw [e117]; exact ArA.1) (State.isArrayOf_alike hZ.alike ArA.2.1) ArA.2.2 hi_3 ha_3 (g := (mkF m 152 #[.val (.int p1), .val (.int p2), .val (.int p3), .val (.int p4), .val (.ref b2), .val (.int St), .val (.int Ln), .val (.int En), .val (.int H1), .unset, .val (.long (u0.toInt64)), .second, .unset, .unset, .unset, .unset, .unset, .unset] [(.int (((St + En).toUInt32 >>> ((1 : Int32) &&& 31).toUInt32).toInt32)), (.ref b2)])) rfl rfl (hb hby at_152) _ ?_
      show Steps p.tables e below (T117.setTop (mkF m 153 #[.val (.int p1), .val (.int p2), .val (.int p3), .val (.int p4), .val (.ref b2), .val (.int St), .val (.int Ln), .val (.int En), .val (.int H1), .unset, .val (.long (u0.toInt64)), .second, .unset, .unset, .unset, .unset, .unset, .unset] [(.int (own_sel x0 x1 x2 x3 x4 x5 x6 x7 (s' + m' / 2)))])) _
      exact kt
    obtain ⟨_, _, ⟨T121, L121, k121, n121⟩, -, X121, ⟨Lc121, hQ121, l121, y121, z121⟩, st121⟩ := Jvm.LawKit.callS XH118 hx (y := (⟨"com/example/evenkeel/evenkeel/http/HeaderNameHashPinLaw", "fold", "(B)I"⟩ : MethodName)) hown (mvT hZ (hw _ (List.mem_of_getElem? (i := 10) rfl))) (mvT hZ (hw _ (List.mem_of_getElem? (i := 11) rfl))) (mvT hZ (hw _ (List.mem_of_getElem? (i := 8) rfl))) (mvT hZ (hw _ (List.mem_of_getElem? (i := 12) rfl))) (by decide) (backOf (W := 0) (rm3 l Z a0 hw [] (own_sel x0 x1 x2 x3 x4 x5 x6 x7 (s' + m' / 2))  h18 n0 Z18 ) hZ (hw _ (List.mem_of_getElem? (i := 12) rfl)) (hw _ (List.mem_of_getElem? (i := 8) rfl)) (by decide) (by decide)) (g := (mkF m 153 #[.val (.int p1), .val (.int p2), .val (.int p3), .val (.int p4), .val (.ref b2), .val (.int St), .val (.int Ln), .val (.int En), .val (.int H1), .unset, .val (.long (u0.toInt64)), .second, .unset, .unset, .unset, .unset, .unset, .unset] [(.int (own_sel x0 x1 x2 x3 x4 x5 x6 x7 (s' + m' / 2)))])) rfl (by rw [hml]; rfl) (argsL := [(.int (own_sel x0 x1 x2 x3 x4 x5 x6 x7 (s' + m' / 2)))]) (rest := []) (lenOf pd_2 rfl) rfl (by show 2 * 0 + _ ≤ _; exact Nat.le_of_eq rfl) (hb hby at_153) (fun _ _ => ⟨rfl, e117, (by decide : 1 + 0 ≤ _), (by decide : 8 + 0 ≤ _)⟩)
    dsimp only [Pt.U, Pt.locs, Pt.cells, Pt.slots] at X121 l121 y121 z121 st121 hQ121
    subst l121 y121 z121
    obtain ⟨rfl, N121q, e121⟩ := hQ121
    have N121 := Fr.app NH118 N121q
    have G121 : ∀ t, Steps p.tables e below (T121.setTop (mkF m 156 #[.val (.int p1), .val (.int p2), .val (.int p3), .val (.int p4), .val (.ref b2), .val (.int St), .val (.int Ln), .val (.int En), .val (.int H1), .unset, .val (.long (u0.toInt64)), .second, .unset, .unset, .unset, .unset, .unset, .unset] [(.int (g3_0 (own_sel x0 x1 x2 x3 x4 x5 x6 x7 (s' + m' / 2))))])) t → Steps p.tables e below (s₁.setTop (entryFrame m #[(.int p1), (.int p2), (.int p3), (.int p4)] maxLocals)) t := fun t kt => G120 t (st121 t kt)
    obtain ⟨LH122, XH122, NH122⟩ : ∃ L', Stand p l e room_1 s m #[(.int p1), (.int p2), (.int p3), (.int p4)] below meth c T121 L' 1 8 ∧ Fr n0 L' := ⟨_, X121, N121⟩
    obtain ⟨u1, e_u1⟩ : ∃ z : Int32, z = (g3_0 (own_sel x0 x1 x2 x3 x4 x5 x6 x7 (s' + m' / 2))) := ⟨_, rfl⟩
    have G123 : ∀ t, Steps p.tables e below (T121.setTop (mkF m 156 #[.val (.int p1), .val (.int p2), .val (.int p3), .val (.int p4), .val (.ref b2), .val (.int St), .val (.int Ln), .val (.int En), .val (.int H1), .unset, .val (.long (u0.toInt64)), .second, .unset, .unset, .unset, .unset, .unset, .unset] [(.int u1)])) t → Steps p.tables e below (s₁.setTop (entryFrame m #[(.int p1), (.int p2), (.int p3), (.int p4)] maxLocals)) t := by
      intro t kt
      refine G121 t ?_
      subst e_u1
      exact kt
    have G124 : ∀ t, Steps p.tables e below (T121.setTop (mkF m 166 #[.val (.int p1), .val (.int p2), .val (.int p3), .val (.int p4), .val (.ref b2), .val (.int St), .val (.int Ln), .val (.int En), .val (.int H1), .unset, .val (.long (u0.toInt64)), .second, .val (.long (u1.toInt64)), .second, .unset, .unset, .unset, .unset] [(.int (own_sel x0 x1 x2 x3 x4 x5 x6 x7 (s' + m' - 1)))])) t → Steps p.tables e below (s₁.setTop (entryFrame m #[(.int p1), (.int p2), (.int p3), (.int p4)] maxLocals)) t := by
      intro t kt
      refine G123 t ?_
      show Steps p.tables e below (T121.setTop (mkF m 156 #[.val (.int p1), .val (.int p2), .val (.int p3), .val (.int p4), .val (.ref b2), .val (.int St), .val (.int Ln), .val (.int En), .val (.int H1), .unset, .val (.long (u0.toInt64)), .second, .unset, .unset, .unset, .unset, .unset, .unset] [(.int u1)])) _
      refine XS.i2l XH122.here hx rfl (hb hby at_156) rfl ?_
      show Steps p.tables e below (T121.setTop (mkF m 157 #[.val (.int p1), .val (.int p2), .val (.int p3), .val (.int p4), .val (.ref b2), .val (.int St), .val (.int Ln), .val (.int En), .val (.int H1), .unset, .val (.long (u0.toInt64)), .second, .unset, .unset, .unset, .unset, .unset, .unset] [(.long (u1.toInt64))])) _
      refine XS.lstore XH122.here hx rfl (hb hby at_157) rfl (l' := #[.val (.int p1), .val (.int p2), .val (.int p3), .val (.int p4), .val (.ref b2), .val (.int St), .val (.int Ln), .val (.int En), .val (.int H1), .unset, .val (.long (u0.toInt64)), .second, .val (.long (u1.toInt64)), .second, .unset, .unset, .unset, .unset]) rfl ?_
      show Steps p.tables e below (T121.setTop (mkF m 159 #[.val (.int p1), .val (.int p2), .val (.int p3), .val (.int p4), .val (.ref b2), .val (.int St), .val (.int Ln), .val (.int En), .val (.int H1), .unset, .val (.long (u0.toInt64)), .second, .val (.long (u1.toInt64)), .second, .unset, .unset, .unset, .unset] [])) _
      refine XS.aload XH122.here hx rfl (hb hby at_159) rfl rfl ?_
      show Steps p.tables e below (T121.setTop (mkF m 161 #[.val (.int p1), .val (.int p2), .val (.int p3), .val (.int p4), .val (.ref b2), .val (.int St), .val (.int Ln), .val (.int En), .val (.int H1), .unset, .val (.long (u0.toInt64)), .second, .val (.long (u1.toInt64)), .second, .unset, .unset, .unset, .unset] [(.ref b2)])) _
      refine XS.iload XH122.here hx rfl (hb hby at_161) rfl ?_
      show Steps p.tables e below (T121.setTop (mkF m 163 #[.val (.int p1), .val (.int p2), .val (.int p3), .val (.int p4), .val (.ref b2), .val (.int St), .val (.int Ln), .val (.int En), .val (.int H1), .unset, .val (.long (u0.toInt64)), .second, .val (.long (u1.toInt64)), .second, .unset, .unset, .unset, .unset] [(.int En), (.ref b2)])) _
      refine XS.iconst XH122.here hx rfl (hb hby at_163) ?_
      show Steps p.tables e below (T121.setTop (mkF m 164 #[.val (.int p1), .val (.int p2), .val (.int p3), .val (.int p4), .val (.ref b2), .val (.int St), .val (.int Ln), .val (.int En), .val (.int H1), .unset, .val (.long (u0.toInt64)), .second, .val (.long (u1.toInt64)), .second, .unset, .unset, .unset, .unset] [(.int (1 : Int32)), (.int En), (.ref b2)])) _
      refine XS.isub XH122.here hx rfl (hb hby at_164) rfl ?_
      show Steps p.tables e below (T121.setTop (mkF m 165 #[.val (.int p1), .val (.int p2), .val (.int p3), .val (.int p4), .val (.ref b2), .val (.int St), .val (.int Ln), .val (.int En), .val (.int H1), .unset, .val (.long (u0.toInt64)), .second, .val (.long (u1.toInt64)), .second, .unset, .unset, .unset, .unset] [(.int (En - (1 : Int32))), (.ref b2)])) _
      refine XH122.baloadBytes hx (j := (En - (1 : Int32))) (v := (.int (own_sel x0 x1 x2 x3 x4 x5 x6 x7 (s' + m' - 1)))) (by rw [e121]; exact ArA.1) (State.isArrayOf_alike hZ.alike ArA.2.1) ArA.2.2 hi_2 ha_2 (g := (mkF m 165 #[.val (.int p1), .val (.int p2), .val (.int p3), .val (.int p4), .val (.ref b2), .val (.int St), .val (.int Ln), .val (.int En), .val (.int H1), .unset, .val (.long (u0.toInt64)), .second, .val (.long (u1.toInt64)), .second, .unset, .unset, .unset, .unset] [(.int (En - (1 : Int32))), (.ref b2)])) rfl rfl (hb hby at_165) _ ?_
      show Steps p.tables e below (T121.setTop (mkF m 166 #[.val (.int p1), .val (.int p2), .val (.int p3), .val (.int p4), .val (.ref b2), .val (.int St), .val (.int Ln), .val (.int En), .val (.int H1), .unset, .val (.long (u0.toInt64)), .second, .val (.long (u1.toInt64)), .second, .unset, .unset, .unset, .unset] [(.int (own_sel x0 x1 x2 x3 x4 x5 x6 x7 (s' + m' - 1)))])) _
      exact kt
    obtain ⟨_, _, ⟨T125, L125, k125, n125⟩, -, X125, ⟨Lc125, hQ125, l125, y125, z125⟩, st125⟩ := Jvm.LawKit.callS XH122 hx (y := (⟨"com/example/evenkeel/evenkeel/http/HeaderNameHashPinLaw", "fold", "(B)I"⟩ : MethodName)) hown (mvT hZ (hw _ (List.mem_of_getElem? (i := 10) rfl))) (mvT hZ (hw _ (List.mem_of_getElem? (i := 11) rfl))) (mvT hZ (hw _ (List.mem_of_getElem? (i := 8) rfl))) (mvT hZ (hw _ (List.mem_of_getElem? (i := 12) rfl))) (by decide) (backOf (W := 0) (rm3 l Z a0 hw [] (own_sel x0 x1 x2 x3 x4 x5 x6 x7 (s' + m' - 1))  h18 n0 Z18 ) hZ (hw _ (List.mem_of_getElem? (i := 12) rfl)) (hw _ (List.mem_of_getElem? (i := 8) rfl)) (by decide) (by decide)) (g := (mkF m 166 #[.val (.int p1), .val (.int p2), .val (.int p3), .val (.int p4), .val (.ref b2), .val (.int St), .val (.int Ln), .val (.int En), .val (.int H1), .unset, .val (.long (u0.toInt64)), .second, .val (.long (u1.toInt64)), .second, .unset, .unset, .unset, .unset] [(.int (own_sel x0 x1 x2 x3 x4 x5 x6 x7 (s' + m' - 1)))])) rfl (by rw [hml]; rfl) (argsL := [(.int (own_sel x0 x1 x2 x3 x4 x5 x6 x7 (s' + m' - 1)))]) (rest := []) (lenOf pd_2 rfl) rfl (by show 2 * 0 + _ ≤ _; exact Nat.le_of_eq rfl) (hb hby at_166) (fun _ _ => ⟨rfl, e121, (by decide : 1 + 0 ≤ _), (by decide : 8 + 0 ≤ _)⟩)
    dsimp only [Pt.U, Pt.locs, Pt.cells, Pt.slots] at X125 l125 y125 z125 st125 hQ125
    subst l125 y125 z125
    obtain ⟨rfl, N125q, e125⟩ := hQ125
    have N125 := Fr.app NH122 N125q
    have G125 : ∀ t, Steps p.tables e below (T125.setTop (mkF m 169 #[.val (.int p1), .val (.int p2), .val (.int p3), .val (.int p4), .val (.ref b2), .val (.int St), .val (.int Ln), .val (.int En), .val (.int H1), .unset, .val (.long (u0.toInt64)), .second, .val (.long (u1.toInt64)), .second, .unset, .unset, .unset, .unset] [(.int (g3_0 (own_sel x0 x1 x2 x3 x4 x5 x6 x7 (s' + m' - 1))))])) t → Steps p.tables e below (s₁.setTop (entryFrame m #[(.int p1), (.int p2), (.int p3), (.int p4)] maxLocals)) t := fun t kt => G124 t (st125 t kt)
    obtain ⟨LH126, XH126, NH126⟩ : ∃ L', Stand p l e room_1 s m #[(.int p1), (.int p2), (.int p3), (.int p4)] below meth c T125 L' 1 8 ∧ Fr n0 L' := ⟨_, X125, N125⟩
    obtain ⟨u2, e_u2⟩ : ∃ z : Int32, z = (g3_0 (own_sel x0 x1 x2 x3 x4 x5 x6 x7 (s' + m' - 1))) := ⟨_, rfl⟩
    have G127 : ∀ t, Steps p.tables e below (T125.setTop (mkF m 169 #[.val (.int p1), .val (.int p2), .val (.int p3), .val (.int p4), .val (.ref b2), .val (.int St), .val (.int Ln), .val (.int En), .val (.int H1), .unset, .val (.long (u0.toInt64)), .second, .val (.long (u1.toInt64)), .second, .unset, .unset, .unset, .unset] [(.int u2)])) t → Steps p.tables e below (s₁.setTop (entryFrame m #[(.int p1), (.int p2), (.int p3), (.int p4)] maxLocals)) t := by
      intro t kt
      refine G125 t ?_
      subst e_u2
      exact kt
    have G128 : ∀ t, Steps p.tables e below (T125.setTop (mkF m 198 #[.val (.int p1), .val (.int p2), .val (.int p3), .val (.int p4), .val (.ref b2), .val (.int St), .val (.int Ln), .val (.int En), .val (.int H1), .unset, .val (.long (u0.toInt64)), .second, .val (.long (u1.toInt64)), .second, .val (.long (u2.toInt64)), .second, .val (.long (((((29791 : Int64) * (Ln.toInt64)) + ((961 : Int64) * (u0.toInt64))) + ((31 : Int64) * (u1.toInt64))) + (u2.toInt64))), .second] [])) t → Steps p.tables e below (s₁.setTop (entryFrame m #[(.int p1), (.int p2), (.int p3), (.int p4)] maxLocals)) t := by
      intro t kt
      refine G127 t ?_
      show Steps p.tables e below (T125.setTop (mkF m 169 #[.val (.int p1), .val (.int p2), .val (.int p3), .val (.int p4), .val (.ref b2), .val (.int St), .val (.int Ln), .val (.int En), .val (.int H1), .unset, .val (.long (u0.toInt64)), .second, .val (.long (u1.toInt64)), .second, .unset, .unset, .unset, .unset] [(.int u2)])) _
      refine XS.i2l XH126.here hx rfl (hb hby at_169) rfl ?_
      show Steps p.tables e below (T125.setTop (mkF m 170 #[.val (.int p1), .val (.int p2), .val (.int p3), .val (.int p4), .val (.ref b2), .val (.int St), .val (.int Ln), .val (.int En), .val (.int H1), .unset, .val (.long (u0.toInt64)), .second, .val (.long (u1.toInt64)), .second, .unset, .unset, .unset, .unset] [(.long (u2.toInt64))])) _
      refine XS.lstore XH126.here hx rfl (hb hby at_170) rfl (l' := #[.val (.int p1), .val (.int p2), .val (.int p3), .val (.int p4), .val (.ref b2), .val (.int St), .val (.int Ln), .val (.int En), .val (.int H1), .unset, .val (.long (u0.toInt64)), .second, .val (.long (u1.toInt64)), .second, .val (.long (u2.toInt64)), .second, .unset, .unset]) rfl ?_
      show Steps p.tables e below (T125.setTop (mkF m 172 #[.val (.int p1), .val (.int p2), .val (.int p3), .val (.int p4), .val (.ref b2), .val (.int St), .val (.int Ln), .val (.int En), .val (.int H1), .unset, .val (.long (u0.toInt64)), .second, .val (.long (u1.toInt64)), .second, .val (.long (u2.toInt64)), .second, .unset, .unset] [])) _
      refine XH126.ldc2Long hx hown (mvT hZ (hw _ (List.mem_of_getElem? (i := 13) rfl))) (g := (mkF m 172 #[.val (.int p1), .val (.int p2), .val (.int p3), .val (.int p4), .val (.ref b2), .val (.int St), .val (.int Ln), .val (.int En), .val (.int H1), .unset, .val (.long (u0.toInt64)), .second, .val (.long (u1.toInt64)), .second, .val (.long (u2.toInt64)), .second, .unset, .unset] [])) rfl (hb hby at_172) _ ?_
      show Steps p.tables e below (T125.setTop (mkF m 175 #[.val (.int p1), .val (.int p2), .val (.int p3), .val (.int p4), .val (.ref b2), .val (.int St), .val (.int Ln), .val (.int En), .val (.int H1), .unset, .val (.long (u0.toInt64)), .second, .val (.long (u1.toInt64)), .second, .val (.long (u2.toInt64)), .second, .unset, .unset] [(.long (29791 : Int64))])) _
      refine XS.iload XH126.here hx rfl (hb hby at_175) rfl ?_
      show Steps p.tables e below (T125.setTop (mkF m 177 #[.val (.int p1), .val (.int p2), .val (.int p3), .val (.int p4), .val (.ref b2), .val (.int St), .val (.int Ln), .val (.int En), .val (.int H1), .unset, .val (.long (u0.toInt64)), .second, .val (.long (u1.toInt64)), .second, .val (.long (u2.toInt64)), .second, .unset, .unset] [(.int Ln), (.long (29791 : Int64))])) _
      refine XS.i2l XH126.here hx rfl (hb hby at_177) rfl ?_
      show Steps p.tables e below (T125.setTop (mkF m 178 #[.val (.int p1), .val (.int p2), .val (.int p3), .val (.int p4), .val (.ref b2), .val (.int St), .val (.int Ln), .val (.int En), .val (.int H1), .unset, .val (.long (u0.toInt64)), .second, .val (.long (u1.toInt64)), .second, .val (.long (u2.toInt64)), .second, .unset, .unset] [(.long (Ln.toInt64)), (.long (29791 : Int64))])) _
      refine XS.lmul XH126.here hx rfl (hb hby at_178) rfl ?_
      show Steps p.tables e below (T125.setTop (mkF m 179 #[.val (.int p1), .val (.int p2), .val (.int p3), .val (.int p4), .val (.ref b2), .val (.int St), .val (.int Ln), .val (.int En), .val (.int H1), .unset, .val (.long (u0.toInt64)), .second, .val (.long (u1.toInt64)), .second, .val (.long (u2.toInt64)), .second, .unset, .unset] [(.long ((29791 : Int64) * (Ln.toInt64)))])) _
      refine XH126.ldc2Long hx hown (mvT hZ (hw _ (List.mem_of_getElem? (i := 14) rfl))) (g := (mkF m 179 #[.val (.int p1), .val (.int p2), .val (.int p3), .val (.int p4), .val (.ref b2), .val (.int St), .val (.int Ln), .val (.int En), .val (.int H1), .unset, .val (.long (u0.toInt64)), .second, .val (.long (u1.toInt64)), .second, .val (.long (u2.toInt64)), .second, .unset, .unset] [(.long ((29791 : Int64) * (Ln.toInt64)))])) rfl (hb hby at_179) _ ?_
      show Steps p.tables e below (T125.setTop (mkF m 182 #[.val (.int p1), .val (.int p2), .val (.int p3), .val (.int p4), .val (.ref b2), .val (.int St), .val (.int Ln), .val (.int En), .val (.int H1), .unset, .val (.long (u0.toInt64)), .second, .val (.long (u1.toInt64)), .second, .val (.long (u2.toInt64)), .second, .unset, .unset] [(.long (961 : Int64)), (.long ((29791 : Int64) * (Ln.toInt64)))])) _
      refine XS.lload XH126.here hx rfl (hb hby at_182) rfl ?_
      show Steps p.tables e below (T125.setTop (mkF m 184 #[.val (.int p1), .val (.int p2), .val (.int p3), .val (.int p4), .val (.ref b2), .val (.int St), .val (.int Ln), .val (.int En), .val (.int H1), .unset, .val (.long (u0.toInt64)), .second, .val (.long (u1.toInt64)), .second, .val (.long (u2.toInt64)), .second, .unset, .unset] [(.long (u0.toInt64)), (.long (961 : Int64)), (.long ((29791 : Int64) * (Ln.toInt64)))])) _
      refine XS.lmul XH126.here hx rfl (hb hby at_184) rfl ?_
      show Steps p.tables e below (T125.setTop (mkF m 185 #[.val (.int p1), .val (.int p2), .val (.int p3), .val (.int p4), .val (.ref b2), .val (.int St), .val (.int Ln), .val (.int En), .val (.int H1), .unset, .val (.long (u0.toInt64)), .second, .val (.long (u1.toInt64)), .second, .val (.long (u2.toInt64)), .second, .unset, .unset] [(.long ((961 : Int64) * (u0.toInt64))), (.long ((29791 : Int64) * (Ln.toInt64)))])) _
      refine XS.ladd XH126.here hx rfl (hb hby at_185) rfl ?_
      show Steps p.tables e below (T125.setTop (mkF m 186 #[.val (.int p1), .val (.int p2), .val (.int p3), .val (.int p4), .val (.ref b2), .val (.int St), .val (.int Ln), .val (.int En), .val (.int H1), .unset, .val (.long (u0.toInt64)), .second, .val (.long (u1.toInt64)), .second, .val (.long (u2.toInt64)), .second, .unset, .unset] [(.long (((29791 : Int64) * (Ln.toInt64)) + ((961 : Int64) * (u0.toInt64))))])) _
      refine XH126.ldc2Long hx hown (mvT hZ (hw _ (List.mem_of_getElem? (i := 15) rfl))) (g := (mkF m 186 #[.val (.int p1), .val (.int p2), .val (.int p3), .val (.int p4), .val (.ref b2), .val (.int St), .val (.int Ln), .val (.int En), .val (.int H1), .unset, .val (.long (u0.toInt64)), .second, .val (.long (u1.toInt64)), .second, .val (.long (u2.toInt64)), .second, .unset, .unset] [(.long (((29791 : Int64) * (Ln.toInt64)) + ((961 : Int64) * (u0.toInt64))))])) rfl (hb hby at_186) _ ?_
      show Steps p.tables e below (T125.setTop (mkF m 189 #[.val (.int p1), .val (.int p2), .val (.int p3), .val (.int p4), .val (.ref b2), .val (.int St), .val (.int Ln), .val (.int En), .val (.int H1), .unset, .val (.long (u0.toInt64)), .second, .val (.long (u1.toInt64)), .second, .val (.long (u2.toInt64)), .second, .unset, .unset] [(.long (31 : Int64)), (.long (((29791 : Int64) * (Ln.toInt64)) + ((961 : Int64) * (u0.toInt64))))])) _
      refine XS.lload XH126.here hx rfl (hb hby at_189) rfl ?_
      show Steps p.tables e below (T125.setTop (mkF m 191 #[.val (.int p1), .val (.int p2), .val (.int p3), .val (.int p4), .val (.ref b2), .val (.int St), .val (.int Ln), .val (.int En), .val (.int H1), .unset, .val (.long (u0.toInt64)), .second, .val (.long (u1.toInt64)), .second, .val (.long (u2.toInt64)), .second, .unset, .unset] [(.long (u1.toInt64)), (.long (31 : Int64)), (.long (((29791 : Int64) * (Ln.toInt64)) + ((961 : Int64) * (u0.toInt64))))])) _
      refine XS.lmul XH126.here hx rfl (hb hby at_191) rfl ?_
      show Steps p.tables e below (T125.setTop (mkF m 192 #[.val (.int p1), .val (.int p2), .val (.int p3), .val (.int p4), .val (.ref b2), .val (.int St), .val (.int Ln), .val (.int En), .val (.int H1), .unset, .val (.long (u0.toInt64)), .second, .val (.long (u1.toInt64)), .second, .val (.long (u2.toInt64)), .second, .unset, .unset] [(.long ((31 : Int64) * (u1.toInt64))), (.long (((29791 : Int64) * (Ln.toInt64)) + ((961 : Int64) * (u0.toInt64))))])) _
      refine XS.ladd XH126.here hx rfl (hb hby at_192) rfl ?_
      show Steps p.tables e below (T125.setTop (mkF m 193 #[.val (.int p1), .val (.int p2), .val (.int p3), .val (.int p4), .val (.ref b2), .val (.int St), .val (.int Ln), .val (.int En), .val (.int H1), .unset, .val (.long (u0.toInt64)), .second, .val (.long (u1.toInt64)), .second, .val (.long (u2.toInt64)), .second, .unset, .unset] [(.long ((((29791 : Int64) * (Ln.toInt64)) + ((961 : Int64) * (u0.toInt64))) + ((31 : Int64) * (u1.toInt64))))])) _
      refine XS.lload XH126.here hx rfl (hb hby at_193) rfl ?_
      show Steps p.tables e below (T125.setTop (mkF m 195 #[.val (.int p1), .val (.int p2), .val (.int p3), .val (.int p4), .val (.ref b2), .val (.int St), .val (.int Ln), .val (.int En), .val (.int H1), .unset, .val (.long (u0.toInt64)), .second, .val (.long (u1.toInt64)), .second, .val (.long (u2.toInt64)), .second, .unset, .unset] [(.long (u2.toInt64)), (.long ((((29791 : Int64) * (Ln.toInt64)) + ((961 : Int64) * (u0.toInt64))) + ((31 : Int64) * (u1.toInt64))))])) _
      refine XS.ladd XH126.here hx rfl (hb hby at_195) rfl ?_
      show Steps p.tables e below (T125.setTop (mkF m 196 #[.val (.int p1), .val (.int p2), .val (.int p3), .val (.int p4), .val (.ref b2), .val (.int St), .val (.int Ln), .val (.int En), .val (.int H1), .unset, .val (.long (u0.toInt64)), .second, .val (.long (u1.toInt64)), .second, .val (.long (u2.toInt64)), .second, .unset, .unset] [(.long (((((29791 : Int64) * (Ln.toInt64)) + ((961 : Int64) * (u0.toInt64))) + ((31 : Int64) * (u1.toInt64))) + (u2.toInt64)))])) _
      refine XS.lstore XH126.here hx rfl (hb hby at_196) rfl (l' := #[.val (.int p1), .val (.int p2), .val (.int p3), .val (.int p4), .val (.ref b2), .val (.int St), .val (.int Ln), .val (.int En), .val (.int H1), .unset, .val (.long (u0.toInt64)), .second, .val (.long (u1.toInt64)), .second, .val (.long (u2.toInt64)), .second, .val (.long (((((29791 : Int64) * (Ln.toInt64)) + ((961 : Int64) * (u0.toInt64))) + ((31 : Int64) * (u1.toInt64))) + (u2.toInt64))), .second]) rfl ?_
      show Steps p.tables e below (T125.setTop (mkF m 198 #[.val (.int p1), .val (.int p2), .val (.int p3), .val (.int p4), .val (.ref b2), .val (.int St), .val (.int Ln), .val (.int En), .val (.int H1), .unset, .val (.long (u0.toInt64)), .second, .val (.long (u1.toInt64)), .second, .val (.long (u2.toInt64)), .second, .val (.long (((((29791 : Int64) * (Ln.toInt64)) + ((961 : Int64) * (u0.toInt64))) + ((31 : Int64) * (u1.toInt64))) + (u2.toInt64))), .second] [])) _
      exact kt
    obtain ⟨rr, e_rr⟩ : ∃ z : Int64, z = (((((29791 : Int64) * (Ln.toInt64)) + ((961 : Int64) * (u0.toInt64))) + ((31 : Int64) * (u1.toInt64))) + (u2.toInt64)) := ⟨_, rfl⟩
    have G129 : ∀ t, Steps p.tables e below (T125.setTop (mkF m 198 #[.val (.int p1), .val (.int p2), .val (.int p3), .val (.int p4), .val (.ref b2), .val (.int St), .val (.int Ln), .val (.int En), .val (.int H1), .unset, .val (.long (u0.toInt64)), .second, .val (.long (u1.toInt64)), .second, .val (.long (u2.toInt64)), .second, .val (.long rr), .second] [])) t → Steps p.tables e below (s₁.setTop (entryFrame m #[(.int p1), (.int p2), (.int p3), (.int p4)] maxLocals)) t := by
      intro t kt
      refine G128 t ?_
      subst e_rr
      exact kt
    have G130 : ∀ t, Steps p.tables e below (T125.setTop (mkF m 203 #[.val (.int p1), .val (.int p2), .val (.int p3), .val (.int p4), .val (.ref b2), .val (.int St), .val (.int Ln), .val (.int En), .val (.int H1), .unset, .val (.long (u0.toInt64)), .second, .val (.long (u1.toInt64)), .second, .val (.long (u2.toInt64)), .second, .val (.long rr), .second] [(.int (rr.toInt32)), (.int H1)])) t → Steps p.tables e below (s₁.setTop (entryFrame m #[(.int p1), (.int p2), (.int p3), (.int p4)] maxLocals)) t := by
      intro t kt
      refine G129 t ?_
      show Steps p.tables e below (T125.setTop (mkF m 198 #[.val (.int p1), .val (.int p2), .val (.int p3), .val (.int p4), .val (.ref b2), .val (.int St), .val (.int Ln), .val (.int En), .val (.int H1), .unset, .val (.long (u0.toInt64)), .second, .val (.long (u1.toInt64)), .second, .val (.long (u2.toInt64)), .second, .val (.long rr), .second] [])) _
      refine XS.iload XH126.here hx rfl (hb hby at_198) rfl ?_
      show Steps p.tables e below (T125.setTop (mkF m 200 #[.val (.int p1), .val (.int p2), .val (.int p3), .val (.int p4), .val (.ref b2), .val (.int St), .val (.int Ln), .val (.int En), .val (.int H1), .unset, .val (.long (u0.toInt64)), .second, .val (.long (u1.toInt64)), .second, .val (.long (u2.toInt64)), .second, .val (.long rr), .second] [(.int H1)])) _
      refine XS.lload XH126.here hx rfl (hb hby at_200) rfl ?_
      show Steps p.tables e below (T125.setTop (mkF m 202 #[.val (.int p1), .val (.int p2), .val (.int p3), .val (.int p4), .val (.ref b2), .val (.int St), .val (.int Ln), .val (.int En), .val (.int H1), .unset, .val (.long (u0.toInt64)), .second, .val (.long (u1.toInt64)), .second, .val (.long (u2.toInt64)), .second, .val (.long rr), .second] [(.long rr), (.int H1)])) _
      refine XS.l2i XH126.here hx rfl (hb hby at_202) rfl ?_
      show Steps p.tables e below (T125.setTop (mkF m 203 #[.val (.int p1), .val (.int p2), .val (.int p3), .val (.int p4), .val (.ref b2), .val (.int St), .val (.int Ln), .val (.int En), .val (.int H1), .unset, .val (.long (u0.toInt64)), .second, .val (.long (u1.toInt64)), .second, .val (.long (u2.toInt64)), .second, .val (.long rr), .second] [(.int (rr.toInt32)), (.int H1)])) _
      exact kt
    have hlr : En - St = Ln := Int32.toInt_inj.mp (by rw [hlen, hLm])
    have hex : H1 = (rr.toInt32) := by
      rw [e_H1, e_rr, e_u0, e_u1, e_u2, own_hash, hlr]
      exact own_exact (hB _) (hB _) (hB _) hLm (by omega)
    have G131 : ∀ t, Steps p.tables e below (T125.setTop (mkF m 213 #[.val (.int p1), .val (.int p2), .val (.int p3), .val (.int p4), .val (.ref b2), .val (.int St), .val (.int Ln), .val (.int En), .val (.int H1), .val (.int (1 : Int32)), .val (.long (u0.toInt64)), .second, .val (.long (u1.toInt64)), .second, .val (.long (u2.toInt64)), .second, .val (.long rr), .second] [])) t → Steps p.tables e below (s₁.setTop (entryFrame m #[(.int p1), (.int p2), (.int p3), (.int p4)] maxLocals)) t := by
      intro t kt
      refine G130 t ?_
      show Steps p.tables e below (T125.setTop (mkF m 203 #[.val (.int p1), .val (.int p2), .val (.int p3), .val (.int p4), .val (.ref b2), .val (.int St), .val (.int Ln), .val (.int En), .val (.int H1), .unset, .val (.long (u0.toInt64)), .second, .val (.long (u1.toInt64)), .second, .val (.long (u2.toInt64)), .second, .val (.long rr), .second] [(.int (rr.toInt32)), (.int H1)])) _
      refine XS.icmpNo XH126.here hx rfl (hb hby at_203) rfl (teq hex).2 ?_
      show Steps p.tables e below (T125.setTop (mkF m 206 #[.val (.int p1), .val (.int p2), .val (.int p3), .val (.int p4), .val (.ref b2), .val (.int St), .val (.int Ln), .val (.int En), .val (.int H1), .unset, .val (.long (u0.toInt64)), .second, .val (.long (u1.toInt64)), .second, .val (.long (u2.toInt64)), .second, .val (.long rr), .second] [])) _
      refine XS.iconst XH126.here hx rfl (hb hby at_206) ?_
      show Steps p.tables e below (T125.setTop (mkF m 207 #[.val (.int p1), .val (.int p2), .val (.int p3), .val (.int p4), .val (.ref b2), .val (.int St), .val (.int Ln), .val (.int En), .val (.int H1), .unset, .val (.long (u0.toInt64)), .second, .val (.long (u1.toInt64)), .second, .val (.long (u2.toInt64)), .second, .val (.long rr), .second] [(.int (1 : Int32))])) _
      refine XS.goto XH126.here hx rfl (pc0 := 207) (pc' := 211) rfl (hb hby at_207) (by decide) (by decide) ?_
      show Steps p.tables e below (T125.setTop (mkF m 211 #[.val (.int p1), .val (.int p2), .val (.int p3), .val (.int p4), .val (.ref b2), .val (.int St), .val (.int Ln), .val (.int En), .val (.int H1), .unset, .val (.long (u0.toInt64)), .second, .val (.long (u1.toInt64)), .second, .val (.long (u2.toInt64)), .second, .val (.long rr), .second] [(.int (1 : Int32))])) _
      refine XS.istore XH126.here hx rfl (hb hby at_211) rfl (l' := #[.val (.int p1), .val (.int p2), .val (.int p3), .val (.int p4), .val (.ref b2), .val (.int St), .val (.int Ln), .val (.int En), .val (.int H1), .val (.int (1 : Int32)), .val (.long (u0.toInt64)), .second, .val (.long (u1.toInt64)), .second, .val (.long (u2.toInt64)), .second, .val (.long rr), .second]) rfl ?_
      show Steps p.tables e below (T125.setTop (mkF m 213 #[.val (.int p1), .val (.int p2), .val (.int p3), .val (.int p4), .val (.ref b2), .val (.int St), .val (.int Ln), .val (.int En), .val (.int H1), .val (.int (1 : Int32)), .val (.long (u0.toInt64)), .second, .val (.long (u1.toInt64)), .second, .val (.long (u2.toInt64)), .second, .val (.long rr), .second] [])) _
      exact kt
    have G132 : ∀ t, Steps p.tables e below (T125.setTop (mkF m 219 #[.val (.int p1), .val (.int p2), .val (.int p3), .val (.int p4), .val (.ref b2), .val (.int St), .val (.int Ln), .val (.int En), .val (.int H1), .val (.int (1 : Int32)), .val (.int (p4 &&& (7 : Int32))), .unset, .val (.long (u1.toInt64)), .second, .val (.long (u2.toInt64)), .second, .val (.long rr), .second] [])) t → Steps p.tables e below (s₁.setTop (entryFrame m #[(.int p1), (.int p2), (.int p3), (.int p4)] maxLocals)) t := by
      intro t kt
      refine G131 t ?_
      show Steps p.tables e below (T125.setTop (mkF m 213 #[.val (.int p1), .val (.int p2), .val (.int p3), .val (.int p4), .val (.ref b2), .val (.int St), .val (.int Ln), .val (.int En), .val (.int H1), .val (.int (1 : Int32)), .val (.long (u0.toInt64)), .second, .val (.long (u1.toInt64)), .second, .val (.long (u2.toInt64)), .second, .val (.long rr), .second] [])) _
      refine XS.iloadN XH126.here hx rfl (hb hby at_213) rfl ?_
      show Steps p.tables e below (T125.setTop (mkF m 214 #[.val (.int p1), .val (.int p2), .val (.int p3), .val (.int p4), .val (.ref b2), .val (.int St), .val (.int Ln), .val (.int En), .val (.int H1), .val (.int (1 : Int32)), .val (.long (u0.toInt64)), .second, .val (.long (u1.toInt64)), .second, .val (.long (u2.toInt64)), .second, .val (.long rr), .second] [(.int p4)])) _
      refine XS.bipush XH126.here hx rfl (hb hby at_214) ?_
      show Steps p.tables e below (T125.setTop (mkF m 216 #[.val (.int p1), .val (.int p2), .val (.int p3), .val (.int p4), .val (.ref b2), .val (.int St), .val (.int Ln), .val (.int En), .val (.int H1), .val (.int (1 : Int32)), .val (.long (u0.toInt64)), .second, .val (.long (u1.toInt64)), .second, .val (.long (u2.toInt64)), .second, .val (.long rr), .second] [(.int (7 : Int32)), (.int p4)])) _
      refine XS.iand XH126.here hx rfl (hb hby at_216) rfl ?_
      show Steps p.tables e below (T125.setTop (mkF m 217 #[.val (.int p1), .val (.int p2), .val (.int p3), .val (.int p4), .val (.ref b2), .val (.int St), .val (.int Ln), .val (.int En), .val (.int H1), .val (.int (1 : Int32)), .val (.long (u0.toInt64)), .second, .val (.long (u1.toInt64)), .second, .val (.long (u2.toInt64)), .second, .val (.long rr), .second] [(.int (p4 &&& (7 : Int32)))])) _
      refine XS.istore XH126.here hx rfl (hb hby at_217) rfl (l' := #[.val (.int p1), .val (.int p2), .val (.int p3), .val (.int p4), .val (.ref b2), .val (.int St), .val (.int Ln), .val (.int En), .val (.int H1), .val (.int (1 : Int32)), .val (.int (p4 &&& (7 : Int32))), .unset, .val (.long (u1.toInt64)), .second, .val (.long (u2.toInt64)), .second, .val (.long rr), .second]) rfl ?_
      show Steps p.tables e below (T125.setTop (mkF m 219 #[.val (.int p1), .val (.int p2), .val (.int p3), .val (.int p4), .val (.ref b2), .val (.int St), .val (.int Ln), .val (.int En), .val (.int H1), .val (.int (1 : Int32)), .val (.int (p4 &&& (7 : Int32))), .unset, .val (.long (u1.toInt64)), .second, .val (.long (u2.toInt64)), .second, .val (.long rr), .second] [])) _
      exact kt
    obtain ⟨Kk, hKk⟩ : ∃ z : Int32, z = (p4 &&& (7 : Int32)) := ⟨_, rfl⟩
    have G133 : ∀ t, Steps p.tables e below (T125.setTop (mkF m 219 #[.val (.int p1), .val (.int p2), .val (.int p3), .val (.int p4), .val (.ref b2), .val (.int St), .val (.int Ln), .val (.int En), .val (.int H1), .val (.int (1 : Int32)), .val (.int Kk), .unset, .val (.long (u1.toInt64)), .second, .val (.long (u2.toInt64)), .second, .val (.long rr), .second] [])) t → Steps p.tables e below (s₁.setTop (entryFrame m #[(.int p1), (.int p2), (.int p3), (.int p4)] maxLocals)) t := by
      intro t kt
      refine G132 t ?_
      subst hKk
      exact kt
    obtain ⟨k, hk, hKs⟩ : ∃ n : Nat, n < 8 ∧ Kk.toInt = n := by rw [hKk]; exact own_m7 _
    have G134 : ∀ t, Steps p.tables e below (T125.setTop (mkF m 226 #[.val (.int p1), .val (.int p2), .val (.int p3), .val (.int p4), .val (.ref b2), .val (.int St), .val (.int Ln), .val (.int En), .val (.int H1), .val (.int (1 : Int32)), .val (.int Kk), .val (.int (((p4.toUInt32 >>> ((8 : Int32) &&& 31).toUInt32).toInt32).toInt8.toInt32)), .val (.long (u1.toInt64)), .second, .val (.long (u2.toInt64)), .second, .val (.long rr), .second] [])) t → Steps p.tables e below (s₁.setTop (entryFrame m #[(.int p1), (.int p2), (.int p3), (.int p4)] maxLocals)) t := by
      intro t kt
      refine G133 t ?_
      show Steps p.tables e below (T125.setTop (mkF m 219 #[.val (.int p1), .val (.int p2), .val (.int p3), .val (.int p4), .val (.ref b2), .val (.int St), .val (.int Ln), .val (.int En), .val (.int H1), .val (.int (1 : Int32)), .val (.int Kk), .unset, .val (.long (u1.toInt64)), .second, .val (.long (u2.toInt64)), .second, .val (.long rr), .second] [])) _
      refine XS.iloadN XH126.here hx rfl (hb hby at_219) rfl ?_
      show Steps p.tables e below (T125.setTop (mkF m 220 #[.val (.int p1), .val (.int p2), .val (.int p3), .val (.int p4), .val (.ref b2), .val (.int St), .val (.int Ln), .val (.int En), .val (.int H1), .val (.int (1 : Int32)), .val (.int Kk), .unset, .val (.long (u1.toInt64)), .second, .val (.long (u2.toInt64)), .second, .val (.long rr), .second] [(.int p4)])) _
      refine XS.bipush XH126.here hx rfl (hb hby at_220) ?_
      show Steps p.tables e below (T125.setTop (mkF m 222 #[.val (.int p1), .val (.int p2), .val (.int p3), .val (.int p4), .val (.ref b2), .val (.int St), .val (.int Ln), .val (.int En), .val (.int H1), .val (.int (1 : Int32)), .val (.int Kk), .unset, .val (.long (u1.toInt64)), .second, .val (.long (u2.toInt64)), .second, .val (.long rr), .second] [(.int (8 : Int32)), (.int p4)])) _
      refine XS.iushr XH126.here hx rfl (hb hby at_222) rfl ?_
      show Steps p.tables e below (T125.setTop (mkF m 223 #[.val (.int p1), .val (.int p2), .val (.int p3), .val (.int p4), .val (.ref b2), .val (.int St), .val (.int Ln), .val (.int En), .val (.int H1), .val (.int (1 : Int32)), .val (.int Kk), .unset, .val (.long (u1.toInt64)), .second, .val (.long (u2.toInt64)), .second, .val (.long rr), .second] [(.int ((p4.toUInt32 >>> ((8 : Int32) &&& 31).toUInt32).toInt32))])) _
      refine XS.i2b XH126.here hx rfl (hb hby at_223) rfl ?_
      show Steps p.tables e below (T125.setTop (mkF m 224 #[.val (.int p1), .val (.int p2), .val (.int p3), .val (.int p4), .val (.ref b2), .val (.int St), .val (.int Ln), .val (.int En), .val (.int H1), .val (.int (1 : Int32)), .val (.int Kk), .unset, .val (.long (u1.toInt64)), .second, .val (.long (u2.toInt64)), .second, .val (.long rr), .second] [(.int (((p4.toUInt32 >>> ((8 : Int32) &&& 31).toUInt32).toInt32).toInt8.toInt32))])) _
      refine XS.istore XH126.here hx rfl (hb hby at_224) rfl (l' := #[.val (.int p1), .val (.int p2), .val (.int p3), .val (.int p4), .val (.ref b2), .val (.int St), .val (.int Ln), .val (.int En), .val (.int H1), .val (.int (1 : Int32)), .val (.int Kk), .val (.int (((p4.toUInt32 >>> ((8 : Int32) &&& 31).toUInt32).toInt32).toInt8.toInt32)), .val (.long (u1.toInt64)), .second, .val (.long (u2.toInt64)), .second, .val (.long rr), .second]) rfl ?_
      show Steps p.tables e below (T125.setTop (mkF m 226 #[.val (.int p1), .val (.int p2), .val (.int p3), .val (.int p4), .val (.ref b2), .val (.int St), .val (.int Ln), .val (.int En), .val (.int H1), .val (.int (1 : Int32)), .val (.int Kk), .val (.int (((p4.toUInt32 >>> ((8 : Int32) &&& 31).toUInt32).toInt32).toInt8.toInt32)), .val (.long (u1.toInt64)), .second, .val (.long (u2.toInt64)), .second, .val (.long rr), .second] [])) _
      exact kt
    obtain ⟨J, hJ⟩ : ∃ z : Int32, z = (((p4.toUInt32 >>> ((8 : Int32) &&& 31).toUInt32).toInt32).toInt8.toInt32) := ⟨_, rfl⟩
    have G135 : ∀ t, Steps p.tables e below (T125.setTop (mkF m 226 #[.val (.int p1), .val (.int p2), .val (.int p3), .val (.int p4), .val (.ref b2), .val (.int St), .val (.int Ln), .val (.int En), .val (.int H1), .val (.int (1 : Int32)), .val (.int Kk), .val (.int J), .val (.long (u1.toInt64)), .second, .val (.long (u2.toInt64)), .second, .val (.long rr), .second] [])) t → Steps p.tables e below (s₁.setTop (entryFrame m #[(.int p1), (.int p2), (.int p3), (.int p4)] maxLocals)) t := by
      intro t kt
      refine G134 t ?_
      subst hJ
      exact kt
    have G136 : ∀ t, Steps p.tables e below (T125.setTop (mkF m 228 #[.val (.int p1), .val (.int p2), .val (.int p3), .val (.int p4), .val (.ref b2), .val (.int St), .val (.int Ln), .val (.int En), .val (.int H1), .val (.int (1 : Int32)), .val (.int Kk), .val (.int J), .val (.long (u1.toInt64)), .second, .val (.long (u2.toInt64)), .second, .val (.long rr), .second] [(.int (16 : Int32))])) t → Steps p.tables e below (s₁.setTop (entryFrame m #[(.int p1), (.int p2), (.int p3), (.int p4)] maxLocals)) t := by
      intro t kt
      refine G135 t ?_
      show Steps p.tables e below (T125.setTop (mkF m 226 #[.val (.int p1), .val (.int p2), .val (.int p3), .val (.int p4), .val (.ref b2), .val (.int St), .val (.int Ln), .val (.int En), .val (.int H1), .val (.int (1 : Int32)), .val (.int Kk), .val (.int J), .val (.long (u1.toInt64)), .second, .val (.long (u2.toInt64)), .second, .val (.long rr), .second] [])) _
      refine XS.bipush XH126.here hx rfl (hb hby at_226) ?_
      show Steps p.tables e below (T125.setTop (mkF m 228 #[.val (.int p1), .val (.int p2), .val (.int p3), .val (.int p4), .val (.ref b2), .val (.int St), .val (.int Ln), .val (.int En), .val (.int H1), .val (.int (1 : Int32)), .val (.int Kk), .val (.int J), .val (.long (u1.toInt64)), .second, .val (.long (u2.toInt64)), .second, .val (.long rr), .second] [(.int (16 : Int32))])) _
      exact kt
    obtain ⟨T137, h137, k137, X137, e137, E137, A137, st137⟩ := newP XH126 hx hZ (hw _ (List.mem_of_getElem? (i := 0) rfl)) e125 (g := (mkF m 228 #[.val (.int p1), .val (.int p2), .val (.int p3), .val (.int p4), .val (.ref b2), .val (.int St), .val (.int Ln), .val (.int En), .val (.int H1), .val (.int (1 : Int32)), .val (.int Kk), .val (.int J), .val (.long (u1.toInt64)), .second, .val (.long (u2.toInt64)), .second, .val (.long rr), .second] [(.int (16 : Int32))])) rfl (hb hby at_228) rfl (by decide) (cap := 16) (by decide) (by decide) (by decide) (by decide)
    obtain ⟨b137, g137⟩ : ∃ z, z = h18.size := ⟨_, rfl⟩
    rw [← g137] at A137 st137
    have g_b137 : n0 ≤ b137 := Nat.le_trans Z18 (Nat.le_of_eq g137.symm)
    have ne_b2_b137 : b2 ≠ b137 := Nat.ne_of_lt (Nat.lt_of_lt_of_le VA.lt (Nat.le_of_eq g137.symm))
    have VA_137 : Arv Z h137 b2 k2 .byte (8 : Int32) (own_l8 x0 x1 x2 x3 x4 x5 x6 x7) (.int (0 : Int32)) := VA.ext E137
    have Z137 : n0 ≤ h137.size := Nat.le_trans Z18 E137.1
    have V_b137 : Arv Z h137 b137 k137 .byte (16 : Int32) [(.int (0 : Int32)), (.int (0 : Int32)), (.int (0 : Int32)), (.int (0 : Int32)), (.int (0 : Int32)), (.int (0 : Int32)), (.int (0 : Int32)), (.int (0 : Int32)), (.int (0 : Int32)), (.int (0 : Int32)), (.int (0 : Int32)), (.int (0 : Int32)), (.int (0 : Int32)), (.int (0 : Int32)), (.int (0 : Int32)), (.int (0 : Int32))] (.int (0 : Int32)) := (Arv.new A137 (by decide)).pad (pad_rep [] (.int (0 : Int32)) 16)
    have G137 : ∀ t, Steps p.tables e below (T137.setTop (mkF m 230 #[.val (.int p1), .val (.int p2), .val (.int p3), .val (.int p4), .val (.ref b2), .val (.int St), .val (.int Ln), .val (.int En), .val (.int H1), .val (.int (1 : Int32)), .val (.int Kk), .val (.int J), .val (.long (u1.toInt64)), .second, .val (.long (u2.toInt64)), .second, .val (.long rr), .second] [(.ref b137)])) t → Steps p.tables e below (s₁.setTop (entryFrame m #[(.int p1), (.int p2), (.int p3), (.int p4)] maxLocals)) t := fun t kt => G136 t (st137 t kt)
    have G138 : ∀ t, Steps p.tables e below (T137.setTop (mkF m 237 #[.val (.int p1), .val (.int p2), .val (.int p3), .val (.int p4), .val (.ref b2), .val (.int St), .val (.int Ln), .val (.int En), .val (.int H1), .val (.int (1 : Int32)), .val (.int Kk), .val (.int J), .val (.ref b137), .unset, .val (.long (u2.toInt64)), .second, .val (.long rr), .second] [(.int J), (.int (0 : Int32)), (.ref b137)])) t → Steps p.tables e below (s₁.setTop (entryFrame m #[(.int p1), (.int p2), (.int p3), (.int p4)] maxLocals)) t := by
      intro t kt
      refine G137 t ?_
      show Steps p.tables e below (T137.setTop (mkF m 230 #[.val (.int p1), .val (.int p2), .val (.int p3), .val (.int p4), .val (.ref b2), .val (.int St), .val (.int Ln), .val (.int En), .val (.int H1), .val (.int (1 : Int32)), .val (.int Kk), .val (.int J), .val (.long (u1.toInt64)), .second, .val (.long (u2.toInt64)), .second, .val (.long rr), .second] [(.ref b137)])) _
      refine XS.astore X137.here hx rfl (hb hby at_230) rfl rfl (l' := #[.val (.int p1), .val (.int p2), .val (.int p3), .val (.int p4), .val (.ref b2), .val (.int St), .val (.int Ln), .val (.int En), .val (.int H1), .val (.int (1 : Int32)), .val (.int Kk), .val (.int J), .val (.ref b137), .unset, .val (.long (u2.toInt64)), .second, .val (.long rr), .second]) rfl ?_
      show Steps p.tables e below (T137.setTop (mkF m 232 #[.val (.int p1), .val (.int p2), .val (.int p3), .val (.int p4), .val (.ref b2), .val (.int St), .val (.int Ln), .val (.int En), .val (.int H1), .val (.int (1 : Int32)), .val (.int Kk), .val (.int J), .val (.ref b137), .unset, .val (.long (u2.toInt64)), .second, .val (.long rr), .second] [])) _
      refine XS.aload X137.here hx rfl (hb hby at_232) rfl rfl ?_
      show Steps p.tables e below (T137.setTop (mkF m 234 #[.val (.int p1), .val (.int p2), .val (.int p3), .val (.int p4), .val (.ref b2), .val (.int St), .val (.int Ln), .val (.int En), .val (.int H1), .val (.int (1 : Int32)), .val (.int Kk), .val (.int J), .val (.ref b137), .unset, .val (.long (u2.toInt64)), .second, .val (.long rr), .second] [(.ref b137)])) _
      refine XS.iconst X137.here hx rfl (hb hby at_234) ?_
      show Steps p.tables e below (T137.setTop (mkF m 235 #[.val (.int p1), .val (.int p2), .val (.int p3), .val (.int p4), .val (.ref b2), .val (.int St), .val (.int Ln), .val (.int En), .val (.int H1), .val (.int (1 : Int32)), .val (.int Kk), .val (.int J), .val (.ref b137), .unset, .val (.long (u2.toInt64)), .second, .val (.long rr), .second] [(.int (0 : Int32)), (.ref b137)])) _
      refine XS.iload X137.here hx rfl (hb hby at_235) rfl ?_
      show Steps p.tables e below (T137.setTop (mkF m 237 #[.val (.int p1), .val (.int p2), .val (.int p3), .val (.int p4), .val (.ref b2), .val (.int St), .val (.int Ln), .val (.int En), .val (.int H1), .val (.int (1 : Int32)), .val (.int Kk), .val (.int J), .val (.ref b137), .unset, .val (.long (u2.toInt64)), .second, .val (.long rr), .second] [(.int J), (.int (0 : Int32)), (.ref b137)])) _
      exact kt
    obtain ⟨cl_139, Ar_139, q_139, S_139, M_139, H_139, U_139⟩ := id V_b137
    obtain ⟨T139, h139, X139, e139, W139, st139⟩ := stB X137 hx hZ e137 Ar_139 (j := (0 : Int32)) (inb_of S_139 ⟨(by decide : ¬ ((0 : Int32) < (0 : Int32))), (by decide : (0 : Int32) < (16 : Int32))⟩) (g := (mkF m 237 #[.val (.int p1), .val (.int p2), .val (.int p3), .val (.int p4), .val (.ref b2), .val (.int St), .val (.int Ln), .val (.int En), .val (.int H1), .val (.int (1 : Int32)), .val (.int Kk), .val (.int J), .val (.ref b137), .unset, .val (.long (u2.toInt64)), .second, .val (.long rr), .second] [(.int J), (.int (0 : Int32)), (.ref b137)])) rfl rfl (hb hby at_237)
    have V_b137_139 : Arv Z h139 b137 k137 .byte (16 : Int32) [(.int (nar .byte J)), (.int (0 : Int32)), (.int (0 : Int32)), (.int (0 : Int32)), (.int (0 : Int32)), (.int (0 : Int32)), (.int (0 : Int32)), (.int (0 : Int32)), (.int (0 : Int32)), (.int (0 : Int32)), (.int (0 : Int32)), (.int (0 : Int32)), (.int (0 : Int32)), (.int (0 : Int32)), (.int (0 : Int32)), (.int (0 : Int32))] (.int (0 : Int32)) := Arv.set Ar_139 q_139 S_139 M_139 H_139 U_139 (fits_nar_byte _) W139 0 rfl (Nat.le_of_ble_eq_true rfl)
    have VA_139 : Arv Z h139 b2 k2 .byte (8 : Int32) (own_l8 x0 x1 x2 x3 x4 x5 x6 x7) (.int (0 : Int32)) := VA_137.other W139 ne_b2_b137
    have Z139 : n0 ≤ h139.size := Nat.le_trans Z137 (Keep.of_wr W139).1
    have N139 := Fr.snoc X139 NH126 g_b137
    have G139 : ∀ t, Steps p.tables e below (T139.setTop (mkF m 238 #[.val (.int p1), .val (.int p2), .val (.int p3), .val (.int p4), .val (.ref b2), .val (.int St), .val (.int Ln), .val (.int En), .val (.int H1), .val (.int (1 : Int32)), .val (.int Kk), .val (.int J), .val (.ref b137), .unset, .val (.long (u2.toInt64)), .second, .val (.long rr), .second] [])) t → Steps p.tables e below (s₁.setTop (entryFrame m #[(.int p1), (.int p2), (.int p3), (.int p4)] maxLocals)) t := fun t kt => G138 t (st139 t kt)
    have G140 : ∀ t, Steps p.tables e below (T139.setTop (mkF m 243 #[.val (.int p1), .val (.int p2), .val (.int p3), .val (.int p4), .val (.ref b2), .val (.int St), .val (.int Ln), .val (.int En), .val (.int H1), .val (.int (1 : Int32)), .val (.int Kk), .val (.int J), .val (.ref b137), .unset, .val (.long (u2.toInt64)), .second, .val (.long rr), .second] [(.int J), (.int (1 : Int32)), (.ref b137)])) t → Steps p.tables e below (s₁.setTop (entryFrame m #[(.int p1), (.int p2), (.int p3), (.int p4)] maxLocals)) t := by
      intro t kt
      refine G139 t ?_
      show Steps p.tables e below (T139.setTop (mkF m 238 #[.val (.int p1), .val (.int p2), .val (.int p3), .val (.int p4), .val (.ref b2), .val (.int St), .val (.int Ln), .val (.int En), .val (.int H1), .val (.int (1 : Int32)), .val (.int Kk), .val (.int J), .val (.ref b137), .unset, .val (.long (u2.toInt64)), .second, .val (.long rr), .second] [])) _
      refine XS.aload X139.here hx rfl (hb hby at_238) rfl rfl ?_
      show Steps p.tables e below (T139.setTop (mkF m 240 #[.val (.int p1), .val (.int p2), .val (.int p3), .val (.int p4), .val (.ref b2), .val (.int St), .val (.int Ln), .val (.int En), .val (.int H1), .val (.int (1 : Int32)), .val (.int Kk), .val (.int J), .val (.ref b137), .unset, .val (.long (u2.toInt64)), .second, .val (.long rr), .second] [(.ref b137)])) _
      refine XS.iconst X139.here hx rfl (hb hby at_240) ?_
      show Steps p.tables e below (T139.setTop (mkF m 241 #[.val (.int p1), .val (.int p2), .val (.int p3), .val (.int p4), .val (.ref b2), .val (.int St), .val (.int Ln), .val (.int En), .val (.int H1), .val (.int (1 : Int32)), .val (.int Kk), .val (.int J), .val (.ref b137), .unset, .val (.long (u2.toInt64)), .second, .val (.long rr), .second] [(.int (1 : Int32)), (.ref b137)])) _
      refine XS.iload X139.here hx rfl (hb hby at_241) rfl ?_
      show Steps p.tables e below (T139.setTop (mkF m 243 #[.val (.int p1), .val (.int p2), .val (.int p3), .val (.int p4), .val (.ref b2), .val (.int St), .val (.int Ln), .val (.int En), .val (.int H1), .val (.int (1 : Int32)), .val (.int Kk), .val (.int J), .val (.ref b137), .unset, .val (.long (u2.toInt64)), .second, .val (.long rr), .second] [(.int J), (.int (1 : Int32)), (.ref b137)])) _
      exact kt
    obtain ⟨cl_141, Ar_141, q_141, S_141, M_141, H_141, U_141⟩ := id V_b137_139
    obtain ⟨T141, h141, X141, e141, W141, st141⟩ := stB X139 hx hZ e139 Ar_141 (j := (1 : Int32)) (inb_of S_141 ⟨(by decide : ¬ ((1 : Int32) < (0 : Int32))), (by decide : (1 : Int32) < (16 : Int32))⟩) (g := (mkF m 243 #[.val (.int p1), .val (.int p2), .val (.int p3), .val (.int p4), .val (.ref b2), .val (.int St), .val (.int Ln), .val (.int En), .val (.int H1), .val (.int (1 : Int32)), .val (.int Kk), .val (.int J), .val (.ref b137), .unset, .val (.long (u2.toInt64)), .second, .val (.long rr), .second] [(.int J), (.int (1 : Int32)), (.ref b137)])) rfl rfl (hb hby at_243)
    have V_b137_141 : Arv Z h141 b137 k137 .byte (16 : Int32) [(.int (nar .byte J)), (.int (nar .byte J)), (.int (0 : Int32)), (.int (0 : Int32)), (.int (0 : Int32)), (.int (0 : Int32)), (.int (0 : Int32)), (.int (0 : Int32)), (.int (0 : Int32)), (.int (0 : Int32)), (.int (0 : Int32)), (.int (0 : Int32)), (.int (0 : Int32)), (.int (0 : Int32)), (.int (0 : Int32)), (.int (0 : Int32))] (.int (0 : Int32)) := Arv.set Ar_141 q_141 S_141 M_141 H_141 U_141 (fits_nar_byte _) W141 1 rfl (Nat.le_of_ble_eq_true rfl)
    have VA_141 : Arv Z h141 b2 k2 .byte (8 : Int32) (own_l8 x0 x1 x2 x3 x4 x5 x6 x7) (.int (0 : Int32)) := VA_139.other W141 ne_b2_b137
    have Z141 : n0 ≤ h141.size := Nat.le_trans Z139 (Keep.of_wr W141).1
    have N141 := Fr.snoc X141 N139 g_b137
    have G141 : ∀ t, Steps p.tables e below (T141.setTop (mkF m 244 #[.val (.int p1), .val (.int p2), .val (.int p3), .val (.int p4), .val (.ref b2), .val (.int St), .val (.int Ln), .val (.int En), .val (.int H1), .val (.int (1 : Int32)), .val (.int Kk), .val (.int J), .val (.ref b137), .unset, .val (.long (u2.toInt64)), .second, .val (.long rr), .second] [])) t → Steps p.tables e below (s₁.setTop (entryFrame m #[(.int p1), (.int p2), (.int p3), (.int p4)] maxLocals)) t := fun t kt => G140 t (st141 t kt)
    have G142 : ∀ t, Steps p.tables e below (T141.setTop (mkF m 249 #[.val (.int p1), .val (.int p2), .val (.int p3), .val (.int p4), .val (.ref b2), .val (.int St), .val (.int Ln), .val (.int En), .val (.int H1), .val (.int (1 : Int32)), .val (.int Kk), .val (.int J), .val (.ref b137), .unset, .val (.long (u2.toInt64)), .second, .val (.long rr), .second] [(.int J), (.int (2 : Int32)), (.ref b137)])) t → Steps p.tables e below (s₁.setTop (entryFrame m #[(.int p1), (.int p2), (.int p3), (.int p4)] maxLocals)) t := by
      intro t kt
      refine G141 t ?_
      show Steps p.tables e below (T141.setTop (mkF m 244 #[.val (.int p1), .val (.int p2), .val (.int p3), .val (.int p4), .val (.ref b2), .val (.int St), .val (.int Ln), .val (.int En), .val (.int H1), .val (.int (1 : Int32)), .val (.int Kk), .val (.int J), .val (.ref b137), .unset, .val (.long (u2.toInt64)), .second, .val (.long rr), .second] [])) _
      refine XS.aload X141.here hx rfl (hb hby at_244) rfl rfl ?_
      show Steps p.tables e below (T141.setTop (mkF m 246 #[.val (.int p1), .val (.int p2), .val (.int p3), .val (.int p4), .val (.ref b2), .val (.int St), .val (.int Ln), .val (.int En), .val (.int H1), .val (.int (1 : Int32)), .val (.int Kk), .val (.int J), .val (.ref b137), .unset, .val (.long (u2.toInt64)), .second, .val (.long rr), .second] [(.ref b137)])) _
      refine XS.iconst X141.here hx rfl (hb hby at_246) ?_
      show Steps p.tables e below (T141.setTop (mkF m 247 #[.val (.int p1), .val (.int p2), .val (.int p3), .val (.int p4), .val (.ref b2), .val (.int St), .val (.int Ln), .val (.int En), .val (.int H1), .val (.int (1 : Int32)), .val (.int Kk), .val (.int J), .val (.ref b137), .unset, .val (.long (u2.toInt64)), .second, .val (.long rr), .second] [(.int (2 : Int32)), (.ref b137)])) _
      refine XS.iload X141.here hx rfl (hb hby at_247) rfl ?_
      show Steps p.tables e below (T141.setTop (mkF m 249 #[.val (.int p1), .val (.int p2), .val (.int p3), .val (.int p4), .val (.ref b2), .val (.int St), .val (.int Ln), .val (.int En), .val (.int H1), .val (.int (1 : Int32)), .val (.int Kk), .val (.int J), .val (.ref b137), .unset, .val (.long (u2.toInt64)), .second, .val (.long rr), .second] [(.int J), (.int (2 : Int32)), (.ref b137)])) _
      exact kt
    obtain ⟨cl_143, Ar_143, q_143, S_143, M_143, H_143, U_143⟩ := id V_b137_141
    obtain ⟨T143, h143, X143, e143, W143, st143⟩ := stB X141 hx hZ e141 Ar_143 (j := (2 : Int32)) (inb_of S_143 ⟨(by decide : ¬ ((2 : Int32) < (0 : Int32))), (by decide : (2 : Int32) < (16 : Int32))⟩) (g := (mkF m 249 #[.val (.int p1), .val (.int p2), .val (.int p3), .val (.int p4), .val (.ref b2), .val (.int St), .val (.int Ln), .val (.int En), .val (.int H1), .val (.int (1 : Int32)), .val (.int Kk), .val (.int J), .val (.ref b137), .unset, .val (.long (u2.toInt64)), .second, .val (.long rr), .second] [(.int J), (.int (2 : Int32)), (.ref b137)])) rfl rfl (hb hby at_249)
    have V_b137_143 : Arv Z h143 b137 k137 .byte (16 : Int32) [(.int (nar .byte J)), (.int (nar .byte J)), (.int (nar .byte J)), (.int (0 : Int32)), (.int (0 : Int32)), (.int (0 : Int32)), (.int (0 : Int32)), (.int (0 : Int32)), (.int (0 : Int32)), (.int (0 : Int32)), (.int (0 : Int32)), (.int (0 : Int32)), (.int (0 : Int32)), (.int (0 : Int32)), (.int (0 : Int32)), (.int (0 : Int32))] (.int (0 : Int32)) := Arv.set Ar_143 q_143 S_143 M_143 H_143 U_143 (fits_nar_byte _) W143 2 rfl (Nat.le_of_ble_eq_true rfl)
    have VA_143 : Arv Z h143 b2 k2 .byte (8 : Int32) (own_l8 x0 x1 x2 x3 x4 x5 x6 x7) (.int (0 : Int32)) := VA_141.other W143 ne_b2_b137
    have Z143 : n0 ≤ h143.size := Nat.le_trans Z141 (Keep.of_wr W143).1
    have N143 := Fr.snoc X143 N141 g_b137
    have G143 : ∀ t, Steps p.tables e below (T143.setTop (mkF m 250 #[.val (.int p1), .val (.int p2), .val (.int p3), .val (.int p4), .val (.ref b2), .val (.int St), .val (.int Ln), .val (.int En), .val (.int H1), .val (.int (1 : Int32)), .val (.int Kk), .val (.int J), .val (.ref b137), .unset, .val (.long (u2.toInt64)), .second, .val (.long rr), .second] [])) t → Steps p.tables e below (s₁.setTop (entryFrame m #[(.int p1), (.int p2), (.int p3), (.int p4)] maxLocals)) t := fun t kt => G142 t (st143 t kt)
    have G144 : ∀ t, Steps p.tables e below (T143.setTop (mkF m 255 #[.val (.int p1), .val (.int p2), .val (.int p3), .val (.int p4), .val (.ref b2), .val (.int St), .val (.int Ln), .val (.int En), .val (.int H1), .val (.int (1 : Int32)), .val (.int Kk), .val (.int J), .val (.ref b137), .unset, .val (.long (u2.toInt64)), .second, .val (.long rr), .second] [(.int J), (.int (3 : Int32)), (.ref b137)])) t → Steps p.tables e below (s₁.setTop (entryFrame m #[(.int p1), (.int p2), (.int p3), (.int p4)] maxLocals)) t := by
      intro t kt
      refine G143 t ?_
      show Steps p.tables e below (T143.setTop (mkF m 250 #[.val (.int p1), .val (.int p2), .val (.int p3), .val (.int p4), .val (.ref b2), .val (.int St), .val (.int Ln), .val (.int En), .val (.int H1), .val (.int (1 : Int32)), .val (.int Kk), .val (.int J), .val (.ref b137), .unset, .val (.long (u2.toInt64)), .second, .val (.long rr), .second] [])) _
      refine XS.aload X143.here hx rfl (hb hby at_250) rfl rfl ?_
      show Steps p.tables e below (T143.setTop (mkF m 252 #[.val (.int p1), .val (.int p2), .val (.int p3), .val (.int p4), .val (.ref b2), .val (.int St), .val (.int Ln), .val (.int En), .val (.int H1), .val (.int (1 : Int32)), .val (.int Kk), .val (.int J), .val (.ref b137), .unset, .val (.long (u2.toInt64)), .second, .val (.long rr), .second] [(.ref b137)])) _
      refine XS.iconst X143.here hx rfl (hb hby at_252) ?_
      show Steps p.tables e below (T143.setTop (mkF m 253 #[.val (.int p1), .val (.int p2), .val (.int p3), .val (.int p4), .val (.ref b2), .val (.int St), .val (.int Ln), .val (.int En), .val (.int H1), .val (.int (1 : Int32)), .val (.int Kk), .val (.int J), .val (.ref b137), .unset, .val (.long (u2.toInt64)), .second, .val (.long rr), .second] [(.int (3 : Int32)), (.ref b137)])) _
      refine XS.iload X143.here hx rfl (hb hby at_253) rfl ?_
      show Steps p.tables e below (T143.setTop (mkF m 255 #[.val (.int p1), .val (.int p2), .val (.int p3), .val (.int p4), .val (.ref b2), .val (.int St), .val (.int Ln), .val (.int En), .val (.int H1), .val (.int (1 : Int32)), .val (.int Kk), .val (.int J), .val (.ref b137), .unset, .val (.long (u2.toInt64)), .second, .val (.long rr), .second] [(.int J), (.int (3 : Int32)), (.ref b137)])) _
      exact kt
    obtain ⟨cl_145, Ar_145, q_145, S_145, M_145, H_145, U_145⟩ := id V_b137_143
    obtain ⟨T145, h145, X145, e145, W145, st145⟩ := stB X143 hx hZ e143 Ar_145 (j := (3 : Int32)) (inb_of S_145 ⟨(by decide : ¬ ((3 : Int32) < (0 : Int32))), (by decide : (3 : Int32) < (16 : Int32))⟩) (g := (mkF m 255 #[.val (.int p1), .val (.int p2), .val (.int p3), .val (.int p4), .val (.ref b2), .val (.int St), .val (.int Ln), .val (.int En), .val (.int H1), .val (.int (1 : Int32)), .val (.int Kk), .val (.int J), .val (.ref b137), .unset, .val (.long (u2.toInt64)), .second, .val (.long rr), .second] [(.int J), (.int (3 : Int32)), (.ref b137)])) rfl rfl (hb hby at_255)
    have V_b137_145 : Arv Z h145 b137 k137 .byte (16 : Int32) [(.int (nar .byte J)), (.int (nar .byte J)), (.int (nar .byte J)), (.int (nar .byte J)), (.int (0 : Int32)), (.int (0 : Int32)), (.int (0 : Int32)), (.int (0 : Int32)), (.int (0 : Int32)), (.int (0 : Int32)), (.int (0 : Int32)), (.int (0 : Int32)), (.int (0 : Int32)), (.int (0 : Int32)), (.int (0 : Int32)), (.int (0 : Int32))] (.int (0 : Int32)) := Arv.set Ar_145 q_145 S_145 M_145 H_145 U_145 (fits_nar_byte _) W145 3 rfl (Nat.le_of_ble_eq_true rfl)
    have VA_145 : Arv Z h145 b2 k2 .byte (8 : Int32) (own_l8 x0 x1 x2 x3 x4 x5 x6 x7) (.int (0 : Int32)) := VA_143.other W145 ne_b2_b137
    have Z145 : n0 ≤ h145.size := Nat.le_trans Z143 (Keep.of_wr W145).1
    have N145 := Fr.snoc X145 N143 g_b137
    have G145 : ∀ t, Steps p.tables e below (T145.setTop (mkF m 256 #[.val (.int p1), .val (.int p2), .val (.int p3), .val (.int p4), .val (.ref b2), .val (.int St), .val (.int Ln), .val (.int En), .val (.int H1), .val (.int (1 : Int32)), .val (.int Kk), .val (.int J), .val (.ref b137), .unset, .val (.long (u2.toInt64)), .second, .val (.long rr), .second] [])) t → Steps p.tables e below (s₁.setTop (entryFrame m #[(.int p1), (.int p2), (.int p3), (.int p4)] maxLocals)) t := fun t kt => G144 t (st145 t kt)
    obtain ⟨LH146, XH146, NH146⟩ : ∃ L', Stand p l e room_1 s m #[(.int p1), (.int p2), (.int p3), (.int p4)] below meth c T145 L' 2 24 ∧ Fr n0 L' := ⟨_, X145, N145⟩
    have G147 : ∀ t, Steps p.tables e below (T145.setTop (mkF m 261 #[.val (.int p1), .val (.int p2), .val (.int p3), .val (.int p4), .val (.ref b2), .val (.int St), .val (.int Ln), .val (.int En), .val (.int H1), .val (.int (1 : Int32)), .val (.int Kk), .val (.int J), .val (.ref b137), .unset, .val (.long (u2.toInt64)), .second, .val (.long rr), .second] [(.int J), (.int (4 : Int32)), (.ref b137)])) t → Steps p.tables e below (s₁.setTop (entryFrame m #[(.int p1), (.int p2), (.int p3), (.int p4)] maxLocals)) t := by
      intro t kt
      refine G145 t ?_
      show Steps p.tables e below (T145.setTop (mkF m 256 #[.val (.int p1), .val (.int p2), .val (.int p3), .val (.int p4), .val (.ref b2), .val (.int St), .val (.int Ln), .val (.int En), .val (.int H1), .val (.int (1 : Int32)), .val (.int Kk), .val (.int J), .val (.ref b137), .unset, .val (.long (u2.toInt64)), .second, .val (.long rr), .second] [])) _
      refine XS.aload XH146.here hx rfl (hb hby at_256) rfl rfl ?_
      show Steps p.tables e below (T145.setTop (mkF m 258 #[.val (.int p1), .val (.int p2), .val (.int p3), .val (.int p4), .val (.ref b2), .val (.int St), .val (.int Ln), .val (.int En), .val (.int H1), .val (.int (1 : Int32)), .val (.int Kk), .val (.int J), .val (.ref b137), .unset, .val (.long (u2.toInt64)), .second, .val (.long rr), .second] [(.ref b137)])) _
      refine XS.iconst XH146.here hx rfl (hb hby at_258) ?_
      show Steps p.tables e below (T145.setTop (mkF m 259 #[.val (.int p1), .val (.int p2), .val (.int p3), .val (.int p4), .val (.ref b2), .val (.int St), .val (.int Ln), .val (.int En), .val (.int H1), .val (.int (1 : Int32)), .val (.int Kk), .val (.int J), .val (.ref b137), .unset, .val (.long (u2.toInt64)), .second, .val (.long rr), .second] [(.int (4 : Int32)), (.ref b137)])) _
      refine XS.iload XH146.here hx rfl (hb hby at_259) rfl ?_
      show Steps p.tables e below (T145.setTop (mkF m 261 #[.val (.int p1), .val (.int p2), .val (.int p3), .val (.int p4), .val (.ref b2), .val (.int St), .val (.int Ln), .val (.int En), .val (.int H1), .val (.int (1 : Int32)), .val (.int Kk), .val (.int J), .val (.ref b137), .unset, .val (.long (u2.toInt64)), .second, .val (.long rr), .second] [(.int J), (.int (4 : Int32)), (.ref b137)])) _
      exact kt
    obtain ⟨cl_148, Ar_148, q_148, S_148, M_148, H_148, U_148⟩ := id V_b137_145
    obtain ⟨T148, h148, X148, e148, W148, st148⟩ := stB XH146 hx hZ e145 Ar_148 (j := (4 : Int32)) (inb_of S_148 ⟨(by decide : ¬ ((4 : Int32) < (0 : Int32))), (by decide : (4 : Int32) < (16 : Int32))⟩) (g := (mkF m 261 #[.val (.int p1), .val (.int p2), .val (.int p3), .val (.int p4), .val (.ref b2), .val (.int St), .val (.int Ln), .val (.int En), .val (.int H1), .val (.int (1 : Int32)), .val (.int Kk), .val (.int J), .val (.ref b137), .unset, .val (.long (u2.toInt64)), .second, .val (.long rr), .second] [(.int J), (.int (4 : Int32)), (.ref b137)])) rfl rfl (hb hby at_261)
    have V_b137_148 : Arv Z h148 b137 k137 .byte (16 : Int32) [(.int (nar .byte J)), (.int (nar .byte J)), (.int (nar .byte J)), (.int (nar .byte J)), (.int (nar .byte J)), (.int (0 : Int32)), (.int (0 : Int32)), (.int (0 : Int32)), (.int (0 : Int32)), (.int (0 : Int32)), (.int (0 : Int32)), (.int (0 : Int32)), (.int (0 : Int32)), (.int (0 : Int32)), (.int (0 : Int32)), (.int (0 : Int32))] (.int (0 : Int32)) := Arv.set Ar_148 q_148 S_148 M_148 H_148 U_148 (fits_nar_byte _) W148 4 rfl (Nat.le_of_ble_eq_true rfl)
    have VA_148 : Arv Z h148 b2 k2 .byte (8 : Int32) (own_l8 x0 x1 x2 x3 x4 x5 x6 x7) (.int (0 : Int32)) := VA_145.other W148 ne_b2_b137
    have Z148 : n0 ≤ h148.size := Nat.le_trans Z145 (Keep.of_wr W148).1
    have N148 := Fr.snoc X148 NH146 g_b137
    have G148 : ∀ t, Steps p.tables e below (T148.setTop (mkF m 262 #[.val (.int p1), .val (.int p2), .val (.int p3), .val (.int p4), .val (.ref b2), .val (.int St), .val (.int Ln), .val (.int En), .val (.int H1), .val (.int (1 : Int32)), .val (.int Kk), .val (.int J), .val (.ref b137), .unset, .val (.long (u2.toInt64)), .second, .val (.long rr), .second] [])) t → Steps p.tables e below (s₁.setTop (entryFrame m #[(.int p1), (.int p2), (.int p3), (.int p4)] maxLocals)) t := fun t kt => G147 t (st148 t kt)
    have G149 : ∀ t, Steps p.tables e below (T148.setTop (mkF m 267 #[.val (.int p1), .val (.int p2), .val (.int p3), .val (.int p4), .val (.ref b2), .val (.int St), .val (.int Ln), .val (.int En), .val (.int H1), .val (.int (1 : Int32)), .val (.int Kk), .val (.int J), .val (.ref b137), .unset, .val (.long (u2.toInt64)), .second, .val (.long rr), .second] [(.int J), (.int (5 : Int32)), (.ref b137)])) t → Steps p.tables e below (s₁.setTop (entryFrame m #[(.int p1), (.int p2), (.int p3), (.int p4)] maxLocals)) t := by
      intro t kt
      refine G148 t ?_
      show Steps p.tables e below (T148.setTop (mkF m 262 #[.val (.int p1), .val (.int p2), .val (.int p3), .val (.int p4), .val (.ref b2), .val (.int St), .val (.int Ln), .val (.int En), .val (.int H1), .val (.int (1 : Int32)), .val (.int Kk), .val (.int J), .val (.ref b137), .unset, .val (.long (u2.toInt64)), .second, .val (.long rr), .second] [])) _
      refine XS.aload X148.here hx rfl (hb hby at_262) rfl rfl ?_
      show Steps p.tables e below (T148.setTop (mkF m 264 #[.val (.int p1), .val (.int p2), .val (.int p3), .val (.int p4), .val (.ref b2), .val (.int St), .val (.int Ln), .val (.int En), .val (.int H1), .val (.int (1 : Int32)), .val (.int Kk), .val (.int J), .val (.ref b137), .unset, .val (.long (u2.toInt64)), .second, .val (.long rr), .second] [(.ref b137)])) _
      refine XS.iconst X148.here hx rfl (hb hby at_264) ?_
      show Steps p.tables e below (T148.setTop (mkF m 265 #[.val (.int p1), .val (.int p2), .val (.int p3), .val (.int p4), .val (.ref b2), .val (.int St), .val (.int Ln), .val (.int En), .val (.int H1), .val (.int (1 : Int32)), .val (.int Kk), .val (.int J), .val (.ref b137), .unset, .val (.long (u2.toInt64)), .second, .val (.long rr), .second] [(.int (5 : Int32)), (.ref b137)])) _
      refine XS.iload X148.here hx rfl (hb hby at_265) rfl ?_
      show Steps p.tables e below (T148.setTop (mkF m 267 #[.val (.int p1), .val (.int p2), .val (.int p3), .val (.int p4), .val (.ref b2), .val (.int St), .val (.int Ln), .val (.int En), .val (.int H1), .val (.int (1 : Int32)), .val (.int Kk), .val (.int J), .val (.ref b137), .unset, .val (.long (u2.toInt64)), .second, .val (.long rr), .second] [(.int J), (.int (5 : Int32)), (.ref b137)])) _
      exact kt
    obtain ⟨cl_150, Ar_150, q_150, S_150, M_150, H_150, U_150⟩ := id V_b137_148
    obtain ⟨T150, h150, X150, e150, W150, st150⟩ := stB X148 hx hZ e148 Ar_150 (j := (5 : Int32)) (inb_of S_150 ⟨(by decide : ¬ ((5 : Int32) < (0 : Int32))), (by decide : (5 : Int32) < (16 : Int32))⟩) (g := (mkF m 267 #[.val (.int p1), .val (.int p2), .val (.int p3), .val (.int p4), .val (.ref b2), .val (.int St), .val (.int Ln), .val (.int En), .val (.int H1), .val (.int (1 : Int32)), .val (.int Kk), .val (.int J), .val (.ref b137), .unset, .val (.long (u2.toInt64)), .second, .val (.long rr), .second] [(.int J), (.int (5 : Int32)), (.ref b137)])) rfl rfl (hb hby at_267)
    have V_b137_150 : Arv Z h150 b137 k137 .byte (16 : Int32) [(.int (nar .byte J)), (.int (nar .byte J)), (.int (nar .byte J)), (.int (nar .byte J)), (.int (nar .byte J)), (.int (nar .byte J)), (.int (0 : Int32)), (.int (0 : Int32)), (.int (0 : Int32)), (.int (0 : Int32)), (.int (0 : Int32)), (.int (0 : Int32)), (.int (0 : Int32)), (.int (0 : Int32)), (.int (0 : Int32)), (.int (0 : Int32))] (.int (0 : Int32)) := Arv.set Ar_150 q_150 S_150 M_150 H_150 U_150 (fits_nar_byte _) W150 5 rfl (Nat.le_of_ble_eq_true rfl)
    have VA_150 : Arv Z h150 b2 k2 .byte (8 : Int32) (own_l8 x0 x1 x2 x3 x4 x5 x6 x7) (.int (0 : Int32)) := VA_148.other W150 ne_b2_b137
    have Z150 : n0 ≤ h150.size := Nat.le_trans Z148 (Keep.of_wr W150).1
    have N150 := Fr.snoc X150 N148 g_b137
    have G150 : ∀ t, Steps p.tables e below (T150.setTop (mkF m 268 #[.val (.int p1), .val (.int p2), .val (.int p3), .val (.int p4), .val (.ref b2), .val (.int St), .val (.int Ln), .val (.int En), .val (.int H1), .val (.int (1 : Int32)), .val (.int Kk), .val (.int J), .val (.ref b137), .unset, .val (.long (u2.toInt64)), .second, .val (.long rr), .second] [])) t → Steps p.tables e below (s₁.setTop (entryFrame m #[(.int p1), (.int p2), (.int p3), (.int p4)] maxLocals)) t := fun t kt => G149 t (st150 t kt)
    have G151 : ∀ t, Steps p.tables e below (T150.setTop (mkF m 274 #[.val (.int p1), .val (.int p2), .val (.int p3), .val (.int p4), .val (.ref b2), .val (.int St), .val (.int Ln), .val (.int En), .val (.int H1), .val (.int (1 : Int32)), .val (.int Kk), .val (.int J), .val (.ref b137), .unset, .val (.long (u2.toInt64)), .second, .val (.long rr), .second] [(.int J), (.int (6 : Int32)), (.ref b137)])) t → Steps p.tables e below (s₁.setTop (entryFrame m #[(.int p1), (.int p2), (.int p3), (.int p4)] maxLocals)) t := by
      intro t kt
      refine G150 t ?_
      show Steps p.tables e below (T150.setTop (mkF m 268 #[.val (.int p1), .val (.int p2), .val (.int p3), .val (.int p4), .val (.ref b2), .val (.int St), .val (.int Ln), .val (.int En), .val (.int H1), .val (.int (1 : Int32)), .val (.int Kk), .val (.int J), .val (.ref b137), .unset, .val (.long (u2.toInt64)), .second, .val (.long rr), .second] [])) _
      refine XS.aload X150.here hx rfl (hb hby at_268) rfl rfl ?_
      show Steps p.tables e below (T150.setTop (mkF m 270 #[.val (.int p1), .val (.int p2), .val (.int p3), .val (.int p4), .val (.ref b2), .val (.int St), .val (.int Ln), .val (.int En), .val (.int H1), .val (.int (1 : Int32)), .val (.int Kk), .val (.int J), .val (.ref b137), .unset, .val (.long (u2.toInt64)), .second, .val (.long rr), .second] [(.ref b137)])) _
      refine XS.bipush X150.here hx rfl (hb hby at_270) ?_
      show Steps p.tables e below (T150.setTop (mkF m 272 #[.val (.int p1), .val (.int p2), .val (.int p3), .val (.int p4), .val (.ref b2), .val (.int St), .val (.int Ln), .val (.int En), .val (.int H1), .val (.int (1 : Int32)), .val (.int Kk), .val (.int J), .val (.ref b137), .unset, .val (.long (u2.toInt64)), .second, .val (.long rr), .second] [(.int (6 : Int32)), (.ref b137)])) _
      refine XS.iload X150.here hx rfl (hb hby at_272) rfl ?_
      show Steps p.tables e below (T150.setTop (mkF m 274 #[.val (.int p1), .val (.int p2), .val (.int p3), .val (.int p4), .val (.ref b2), .val (.int St), .val (.int Ln), .val (.int En), .val (.int H1), .val (.int (1 : Int32)), .val (.int Kk), .val (.int J), .val (.ref b137), .unset, .val (.long (u2.toInt64)), .second, .val (.long rr), .second] [(.int J), (.int (6 : Int32)), (.ref b137)])) _
      exact kt
    obtain ⟨cl_152, Ar_152, q_152, S_152, M_152, H_152, U_152⟩ := id V_b137_150
    obtain ⟨T152, h152, X152, e152, W152, st152⟩ := stB X150 hx hZ e150 Ar_152 (j := (6 : Int32)) (inb_of S_152 ⟨(by decide : ¬ ((6 : Int32) < (0 : Int32))), (by decide : (6 : Int32) < (16 : Int32))⟩) (g := (mkF m 274 #[.val (.int p1), .val (.int p2), .val (.int p3), .val (.int p4), .val (.ref b2), .val (.int St), .val (.int Ln), .val (.int En), .val (.int H1), .val (.int (1 : Int32)), .val (.int Kk), .val (.int J), .val (.ref b137), .unset, .val (.long (u2.toInt64)), .second, .val (.long rr), .second] [(.int J), (.int (6 : Int32)), (.ref b137)])) rfl rfl (hb hby at_274)
    have V_b137_152 : Arv Z h152 b137 k137 .byte (16 : Int32) [(.int (nar .byte J)), (.int (nar .byte J)), (.int (nar .byte J)), (.int (nar .byte J)), (.int (nar .byte J)), (.int (nar .byte J)), (.int (nar .byte J)), (.int (0 : Int32)), (.int (0 : Int32)), (.int (0 : Int32)), (.int (0 : Int32)), (.int (0 : Int32)), (.int (0 : Int32)), (.int (0 : Int32)), (.int (0 : Int32)), (.int (0 : Int32))] (.int (0 : Int32)) := Arv.set Ar_152 q_152 S_152 M_152 H_152 U_152 (fits_nar_byte _) W152 6 rfl (Nat.le_of_ble_eq_true rfl)
    have VA_152 : Arv Z h152 b2 k2 .byte (8 : Int32) (own_l8 x0 x1 x2 x3 x4 x5 x6 x7) (.int (0 : Int32)) := VA_150.other W152 ne_b2_b137
    have Z152 : n0 ≤ h152.size := Nat.le_trans Z150 (Keep.of_wr W152).1
    have N152 := Fr.snoc X152 N150 g_b137
    have G152 : ∀ t, Steps p.tables e below (T152.setTop (mkF m 275 #[.val (.int p1), .val (.int p2), .val (.int p3), .val (.int p4), .val (.ref b2), .val (.int St), .val (.int Ln), .val (.int En), .val (.int H1), .val (.int (1 : Int32)), .val (.int Kk), .val (.int J), .val (.ref b137), .unset, .val (.long (u2.toInt64)), .second, .val (.long rr), .second] [])) t → Steps p.tables e below (s₁.setTop (entryFrame m #[(.int p1), (.int p2), (.int p3), (.int p4)] maxLocals)) t := fun t kt => G151 t (st152 t kt)
    have G153 : ∀ t, Steps p.tables e below (T152.setTop (mkF m 281 #[.val (.int p1), .val (.int p2), .val (.int p3), .val (.int p4), .val (.ref b2), .val (.int St), .val (.int Ln), .val (.int En), .val (.int H1), .val (.int (1 : Int32)), .val (.int Kk), .val (.int J), .val (.ref b137), .unset, .val (.long (u2.toInt64)), .second, .val (.long rr), .second] [(.int J), (.int (7 : Int32)), (.ref b137)])) t → Steps p.tables e below (s₁.setTop (entryFrame m #[(.int p1), (.int p2), (.int p3), (.int p4)] maxLocals)) t := by
      intro t kt
      refine G152 t ?_
      show Steps p.tables e below (T152.setTop (mkF m 275 #[.val (.int p1), .val (.int p2), .val (.int p3), .val (.int p4), .val (.ref b2), .val (.int St), .val (.int Ln), .val (.int En), .val (.int H1), .val (.int (1 : Int32)), .val (.int Kk), .val (.int J), .val (.ref b137), .unset, .val (.long (u2.toInt64)), .second, .val (.long rr), .second] [])) _
      refine XS.aload X152.here hx rfl (hb hby at_275) rfl rfl ?_
      show Steps p.tables e below (T152.setTop (mkF m 277 #[.val (.int p1), .val (.int p2), .val (.int p3), .val (.int p4), .val (.ref b2), .val (.int St), .val (.int Ln), .val (.int En), .val (.int H1), .val (.int (1 : Int32)), .val (.int Kk), .val (.int J), .val (.ref b137), .unset, .val (.long (u2.toInt64)), .second, .val (.long rr), .second] [(.ref b137)])) _
      refine XS.bipush X152.here hx rfl (hb hby at_277) ?_
      show Steps p.tables e below (T152.setTop (mkF m 279 #[.val (.int p1), .val (.int p2), .val (.int p3), .val (.int p4), .val (.ref b2), .val (.int St), .val (.int Ln), .val (.int En), .val (.int H1), .val (.int (1 : Int32)), .val (.int Kk), .val (.int J), .val (.ref b137), .unset, .val (.long (u2.toInt64)), .second, .val (.long rr), .second] [(.int (7 : Int32)), (.ref b137)])) _
      refine XS.iload X152.here hx rfl (hb hby at_279) rfl ?_
      show Steps p.tables e below (T152.setTop (mkF m 281 #[.val (.int p1), .val (.int p2), .val (.int p3), .val (.int p4), .val (.ref b2), .val (.int St), .val (.int Ln), .val (.int En), .val (.int H1), .val (.int (1 : Int32)), .val (.int Kk), .val (.int J), .val (.ref b137), .unset, .val (.long (u2.toInt64)), .second, .val (.long rr), .second] [(.int J), (.int (7 : Int32)), (.ref b137)])) _
      exact kt
    obtain ⟨cl_154, Ar_154, q_154, S_154, M_154, H_154, U_154⟩ := id V_b137_152
    obtain ⟨T154, h154, X154, e154, W154, st154⟩ := stB X152 hx hZ e152 Ar_154 (j := (7 : Int32)) (inb_of S_154 ⟨(by decide : ¬ ((7 : Int32) < (0 : Int32))), (by decide : (7 : Int32) < (16 : Int32))⟩) (g := (mkF m 281 #[.val (.int p1), .val (.int p2), .val (.int p3), .val (.int p4), .val (.ref b2), .val (.int St), .val (.int Ln), .val (.int En), .val (.int H1), .val (.int (1 : Int32)), .val (.int Kk), .val (.int J), .val (.ref b137), .unset, .val (.long (u2.toInt64)), .second, .val (.long rr), .second] [(.int J), (.int (7 : Int32)), (.ref b137)])) rfl rfl (hb hby at_281)
    have V_b137_154 : Arv Z h154 b137 k137 .byte (16 : Int32) [(.int (nar .byte J)), (.int (nar .byte J)), (.int (nar .byte J)), (.int (nar .byte J)), (.int (nar .byte J)), (.int (nar .byte J)), (.int (nar .byte J)), (.int (nar .byte J)), (.int (0 : Int32)), (.int (0 : Int32)), (.int (0 : Int32)), (.int (0 : Int32)), (.int (0 : Int32)), (.int (0 : Int32)), (.int (0 : Int32)), (.int (0 : Int32))] (.int (0 : Int32)) := Arv.set Ar_154 q_154 S_154 M_154 H_154 U_154 (fits_nar_byte _) W154 7 rfl (Nat.le_of_ble_eq_true rfl)
    have VA_154 : Arv Z h154 b2 k2 .byte (8 : Int32) (own_l8 x0 x1 x2 x3 x4 x5 x6 x7) (.int (0 : Int32)) := VA_152.other W154 ne_b2_b137
    have Z154 : n0 ≤ h154.size := Nat.le_trans Z152 (Keep.of_wr W154).1
    have N154 := Fr.snoc X154 N152 g_b137
    have G154 : ∀ t, Steps p.tables e below (T154.setTop (mkF m 282 #[.val (.int p1), .val (.int p2), .val (.int p3), .val (.int p4), .val (.ref b2), .val (.int St), .val (.int Ln), .val (.int En), .val (.int H1), .val (.int (1 : Int32)), .val (.int Kk), .val (.int J), .val (.ref b137), .unset, .val (.long (u2.toInt64)), .second, .val (.long rr), .second] [])) t → Steps p.tables e below (s₁.setTop (entryFrame m #[(.int p1), (.int p2), (.int p3), (.int p4)] maxLocals)) t := fun t kt => G153 t (st154 t kt)
    obtain ⟨LH155, XH155, NH155⟩ : ∃ L', Stand p l e room_1 s m #[(.int p1), (.int p2), (.int p3), (.int p4)] below meth c T154 L' 2 24 ∧ Fr n0 L' := ⟨_, X154, N154⟩
    have G156 : ∀ t, Steps p.tables e below (T154.setTop (mkF m 288 #[.val (.int p1), .val (.int p2), .val (.int p3), .val (.int p4), .val (.ref b2), .val (.int St), .val (.int Ln), .val (.int En), .val (.int H1), .val (.int (1 : Int32)), .val (.int Kk), .val (.int J), .val (.ref b137), .unset, .val (.long (u2.toInt64)), .second, .val (.long rr), .second] [(.int J), (.int (8 : Int32)), (.ref b137)])) t → Steps p.tables e below (s₁.setTop (entryFrame m #[(.int p1), (.int p2), (.int p3), (.int p4)] maxLocals)) t := by
      intro t kt
      refine G154 t ?_
      show Steps p.tables e below (T154.setTop (mkF m 282 #[.val (.int p1), .val (.int p2), .val (.int p3), .val (.int p4), .val (.ref b2), .val (.int St), .val (.int Ln), .val (.int En), .val (.int H1), .val (.int (1 : Int32)), .val (.int Kk), .val (.int J), .val (.ref b137), .unset, .val (.long (u2.toInt64)), .second, .val (.long rr), .second] [])) _
      refine XS.aload XH155.here hx rfl (hb hby at_282) rfl rfl ?_
      show Steps p.tables e below (T154.setTop (mkF m 284 #[.val (.int p1), .val (.int p2), .val (.int p3), .val (.int p4), .val (.ref b2), .val (.int St), .val (.int Ln), .val (.int En), .val (.int H1), .val (.int (1 : Int32)), .val (.int Kk), .val (.int J), .val (.ref b137), .unset, .val (.long (u2.toInt64)), .second, .val (.long rr), .second] [(.ref b137)])) _
      refine XS.bipush XH155.here hx rfl (hb hby at_284) ?_
      show Steps p.tables e below (T154.setTop (mkF m 286 #[.val (.int p1), .val (.int p2), .val (.int p3), .val (.int p4), .val (.ref b2), .val (.int St), .val (.int Ln), .val (.int En), .val (.int H1), .val (.int (1 : Int32)), .val (.int Kk), .val (.int J), .val (.ref b137), .unset, .val (.long (u2.toInt64)), .second, .val (.long rr), .second] [(.int (8 : Int32)), (.ref b137)])) _
      refine XS.iload XH155.here hx rfl (hb hby at_286) rfl ?_
      show Steps p.tables e below (T154.setTop (mkF m 288 #[.val (.int p1), .val (.int p2), .val (.int p3), .val (.int p4), .val (.ref b2), .val (.int St), .val (.int Ln), .val (.int En), .val (.int H1), .val (.int (1 : Int32)), .val (.int Kk), .val (.int J), .val (.ref b137), .unset, .val (.long (u2.toInt64)), .second, .val (.long rr), .second] [(.int J), (.int (8 : Int32)), (.ref b137)])) _
      exact kt
    obtain ⟨cl_157, Ar_157, q_157, S_157, M_157, H_157, U_157⟩ := id V_b137_154
    obtain ⟨T157, h157, X157, e157, W157, st157⟩ := stB XH155 hx hZ e154 Ar_157 (j := (8 : Int32)) (inb_of S_157 ⟨(by decide : ¬ ((8 : Int32) < (0 : Int32))), (by decide : (8 : Int32) < (16 : Int32))⟩) (g := (mkF m 288 #[.val (.int p1), .val (.int p2), .val (.int p3), .val (.int p4), .val (.ref b2), .val (.int St), .val (.int Ln), .val (.int En), .val (.int H1), .val (.int (1 : Int32)), .val (.int Kk), .val (.int J), .val (.ref b137), .unset, .val (.long (u2.toInt64)), .second, .val (.long rr), .second] [(.int J), (.int (8 : Int32)), (.ref b137)])) rfl rfl (hb hby at_288)
    have V_b137_157 : Arv Z h157 b137 k137 .byte (16 : Int32) [(.int (nar .byte J)), (.int (nar .byte J)), (.int (nar .byte J)), (.int (nar .byte J)), (.int (nar .byte J)), (.int (nar .byte J)), (.int (nar .byte J)), (.int (nar .byte J)), (.int (nar .byte J)), (.int (0 : Int32)), (.int (0 : Int32)), (.int (0 : Int32)), (.int (0 : Int32)), (.int (0 : Int32)), (.int (0 : Int32)), (.int (0 : Int32))] (.int (0 : Int32)) := Arv.set Ar_157 q_157 S_157 M_157 H_157 U_157 (fits_nar_byte _) W157 8 rfl (Nat.le_of_ble_eq_true rfl)
    have VA_157 : Arv Z h157 b2 k2 .byte (8 : Int32) (own_l8 x0 x1 x2 x3 x4 x5 x6 x7) (.int (0 : Int32)) := VA_154.other W157 ne_b2_b137
    have Z157 : n0 ≤ h157.size := Nat.le_trans Z154 (Keep.of_wr W157).1
    have N157 := Fr.snoc X157 NH155 g_b137
    have G157 : ∀ t, Steps p.tables e below (T157.setTop (mkF m 289 #[.val (.int p1), .val (.int p2), .val (.int p3), .val (.int p4), .val (.ref b2), .val (.int St), .val (.int Ln), .val (.int En), .val (.int H1), .val (.int (1 : Int32)), .val (.int Kk), .val (.int J), .val (.ref b137), .unset, .val (.long (u2.toInt64)), .second, .val (.long rr), .second] [])) t → Steps p.tables e below (s₁.setTop (entryFrame m #[(.int p1), (.int p2), (.int p3), (.int p4)] maxLocals)) t := fun t kt => G156 t (st157 t kt)
    have G158 : ∀ t, Steps p.tables e below (T157.setTop (mkF m 295 #[.val (.int p1), .val (.int p2), .val (.int p3), .val (.int p4), .val (.ref b2), .val (.int St), .val (.int Ln), .val (.int En), .val (.int H1), .val (.int (1 : Int32)), .val (.int Kk), .val (.int J), .val (.ref b137), .unset, .val (.long (u2.toInt64)), .second, .val (.long rr), .second] [(.int J), (.int (9 : Int32)), (.ref b137)])) t → Steps p.tables e below (s₁.setTop (entryFrame m #[(.int p1), (.int p2), (.int p3), (.int p4)] maxLocals)) t := by
      intro t kt
      refine G157 t ?_
      show Steps p.tables e below (T157.setTop (mkF m 289 #[.val (.int p1), .val (.int p2), .val (.int p3), .val (.int p4), .val (.ref b2), .val (.int St), .val (.int Ln), .val (.int En), .val (.int H1), .val (.int (1 : Int32)), .val (.int Kk), .val (.int J), .val (.ref b137), .unset, .val (.long (u2.toInt64)), .second, .val (.long rr), .second] [])) _
      refine XS.aload X157.here hx rfl (hb hby at_289) rfl rfl ?_
      show Steps p.tables e below (T157.setTop (mkF m 291 #[.val (.int p1), .val (.int p2), .val (.int p3), .val (.int p4), .val (.ref b2), .val (.int St), .val (.int Ln), .val (.int En), .val (.int H1), .val (.int (1 : Int32)), .val (.int Kk), .val (.int J), .val (.ref b137), .unset, .val (.long (u2.toInt64)), .second, .val (.long rr), .second] [(.ref b137)])) _
      refine XS.bipush X157.here hx rfl (hb hby at_291) ?_
      show Steps p.tables e below (T157.setTop (mkF m 293 #[.val (.int p1), .val (.int p2), .val (.int p3), .val (.int p4), .val (.ref b2), .val (.int St), .val (.int Ln), .val (.int En), .val (.int H1), .val (.int (1 : Int32)), .val (.int Kk), .val (.int J), .val (.ref b137), .unset, .val (.long (u2.toInt64)), .second, .val (.long rr), .second] [(.int (9 : Int32)), (.ref b137)])) _
      refine XS.iload X157.here hx rfl (hb hby at_293) rfl ?_
      show Steps p.tables e below (T157.setTop (mkF m 295 #[.val (.int p1), .val (.int p2), .val (.int p3), .val (.int p4), .val (.ref b2), .val (.int St), .val (.int Ln), .val (.int En), .val (.int H1), .val (.int (1 : Int32)), .val (.int Kk), .val (.int J), .val (.ref b137), .unset, .val (.long (u2.toInt64)), .second, .val (.long rr), .second] [(.int J), (.int (9 : Int32)), (.ref b137)])) _
      exact kt
    obtain ⟨cl_159, Ar_159, q_159, S_159, M_159, H_159, U_159⟩ := id V_b137_157
    obtain ⟨T159, h159, X159, e159, W159, st159⟩ := stB X157 hx hZ e157 Ar_159 (j := (9 : Int32)) (inb_of S_159 ⟨(by decide : ¬ ((9 : Int32) < (0 : Int32))), (by decide : (9 : Int32) < (16 : Int32))⟩) (g := (mkF m 295 #[.val (.int p1), .val (.int p2), .val (.int p3), .val (.int p4), .val (.ref b2), .val (.int St), .val (.int Ln), .val (.int En), .val (.int H1), .val (.int (1 : Int32)), .val (.int Kk), .val (.int J), .val (.ref b137), .unset, .val (.long (u2.toInt64)), .second, .val (.long rr), .second] [(.int J), (.int (9 : Int32)), (.ref b137)])) rfl rfl (hb hby at_295)
    have V_b137_159 : Arv Z h159 b137 k137 .byte (16 : Int32) [(.int (nar .byte J)), (.int (nar .byte J)), (.int (nar .byte J)), (.int (nar .byte J)), (.int (nar .byte J)), (.int (nar .byte J)), (.int (nar .byte J)), (.int (nar .byte J)), (.int (nar .byte J)), (.int (nar .byte J)), (.int (0 : Int32)), (.int (0 : Int32)), (.int (0 : Int32)), (.int (0 : Int32)), (.int (0 : Int32)), (.int (0 : Int32))] (.int (0 : Int32)) := Arv.set Ar_159 q_159 S_159 M_159 H_159 U_159 (fits_nar_byte _) W159 9 rfl (Nat.le_of_ble_eq_true rfl)
    have VA_159 : Arv Z h159 b2 k2 .byte (8 : Int32) (own_l8 x0 x1 x2 x3 x4 x5 x6 x7) (.int (0 : Int32)) := VA_157.other W159 ne_b2_b137
    have Z159 : n0 ≤ h159.size := Nat.le_trans Z157 (Keep.of_wr W159).1
    have N159 := Fr.snoc X159 N157 g_b137
    have G159 : ∀ t, Steps p.tables e below (T159.setTop (mkF m 296 #[.val (.int p1), .val (.int p2), .val (.int p3), .val (.int p4), .val (.ref b2), .val (.int St), .val (.int Ln), .val (.int En), .val (.int H1), .val (.int (1 : Int32)), .val (.int Kk), .val (.int J), .val (.ref b137), .unset, .val (.long (u2.toInt64)), .second, .val (.long rr), .second] [])) t → Steps p.tables e below (s₁.setTop (entryFrame m #[(.int p1), (.int p2), (.int p3), (.int p4)] maxLocals)) t := fun t kt => G158 t (st159 t kt)
    have G160 : ∀ t, Steps p.tables e below (T159.setTop (mkF m 302 #[.val (.int p1), .val (.int p2), .val (.int p3), .val (.int p4), .val (.ref b2), .val (.int St), .val (.int Ln), .val (.int En), .val (.int H1), .val (.int (1 : Int32)), .val (.int Kk), .val (.int J), .val (.ref b137), .unset, .val (.long (u2.toInt64)), .second, .val (.long rr), .second] [(.int J), (.int (10 : Int32)), (.ref b137)])) t → Steps p.tables e below (s₁.setTop (entryFrame m #[(.int p1), (.int p2), (.int p3), (.int p4)] maxLocals)) t := by
      intro t kt
      refine G159 t ?_
      show Steps p.tables e below (T159.setTop (mkF m 296 #[.val (.int p1), .val (.int p2), .val (.int p3), .val (.int p4), .val (.ref b2), .val (.int St), .val (.int Ln), .val (.int En), .val (.int H1), .val (.int (1 : Int32)), .val (.int Kk), .val (.int J), .val (.ref b137), .unset, .val (.long (u2.toInt64)), .second, .val (.long rr), .second] [])) _
      refine XS.aload X159.here hx rfl (hb hby at_296) rfl rfl ?_
      show Steps p.tables e below (T159.setTop (mkF m 298 #[.val (.int p1), .val (.int p2), .val (.int p3), .val (.int p4), .val (.ref b2), .val (.int St), .val (.int Ln), .val (.int En), .val (.int H1), .val (.int (1 : Int32)), .val (.int Kk), .val (.int J), .val (.ref b137), .unset, .val (.long (u2.toInt64)), .second, .val (.long rr), .second] [(.ref b137)])) _
      refine XS.bipush X159.here hx rfl (hb hby at_298) ?_
      show Steps p.tables e below (T159.setTop (mkF m 300 #[.val (.int p1), .val (.int p2), .val (.int p3), .val (.int p4), .val (.ref b2), .val (.int St), .val (.int Ln), .val (.int En), .val (.int H1), .val (.int (1 : Int32)), .val (.int Kk), .val (.int J), .val (.ref b137), .unset, .val (.long (u2.toInt64)), .second, .val (.long rr), .second] [(.int (10 : Int32)), (.ref b137)])) _
      refine XS.iload X159.here hx rfl (hb hby at_300) rfl ?_
      show Steps p.tables e below (T159.setTop (mkF m 302 #[.val (.int p1), .val (.int p2), .val (.int p3), .val (.int p4), .val (.ref b2), .val (.int St), .val (.int Ln), .val (.int En), .val (.int H1), .val (.int (1 : Int32)), .val (.int Kk), .val (.int J), .val (.ref b137), .unset, .val (.long (u2.toInt64)), .second, .val (.long rr), .second] [(.int J), (.int (10 : Int32)), (.ref b137)])) _
      exact kt
    obtain ⟨cl_161, Ar_161, q_161, S_161, M_161, H_161, U_161⟩ := id V_b137_159
    obtain ⟨T161, h161, X161, e161, W161, st161⟩ := stB X159 hx hZ e159 Ar_161 (j := (10 : Int32)) (inb_of S_161 ⟨(by decide : ¬ ((10 : Int32) < (0 : Int32))), (by decide : (10 : Int32) < (16 : Int32))⟩) (g := (mkF m 302 #[.val (.int p1), .val (.int p2), .val (.int p3), .val (.int p4), .val (.ref b2), .val (.int St), .val (.int Ln), .val (.int En), .val (.int H1), .val (.int (1 : Int32)), .val (.int Kk), .val (.int J), .val (.ref b137), .unset, .val (.long (u2.toInt64)), .second, .val (.long rr), .second] [(.int J), (.int (10 : Int32)), (.ref b137)])) rfl rfl (hb hby at_302)
    have V_b137_161 : Arv Z h161 b137 k137 .byte (16 : Int32) [(.int (nar .byte J)), (.int (nar .byte J)), (.int (nar .byte J)), (.int (nar .byte J)), (.int (nar .byte J)), (.int (nar .byte J)), (.int (nar .byte J)), (.int (nar .byte J)), (.int (nar .byte J)), (.int (nar .byte J)), (.int (nar .byte J)), (.int (0 : Int32)), (.int (0 : Int32)), (.int (0 : Int32)), (.int (0 : Int32)), (.int (0 : Int32))] (.int (0 : Int32)) := Arv.set Ar_161 q_161 S_161 M_161 H_161 U_161 (fits_nar_byte _) W161 10 rfl (Nat.le_of_ble_eq_true rfl)
    have VA_161 : Arv Z h161 b2 k2 .byte (8 : Int32) (own_l8 x0 x1 x2 x3 x4 x5 x6 x7) (.int (0 : Int32)) := VA_159.other W161 ne_b2_b137
    have Z161 : n0 ≤ h161.size := Nat.le_trans Z159 (Keep.of_wr W161).1
    have N161 := Fr.snoc X161 N159 g_b137
    have G161 : ∀ t, Steps p.tables e below (T161.setTop (mkF m 303 #[.val (.int p1), .val (.int p2), .val (.int p3), .val (.int p4), .val (.ref b2), .val (.int St), .val (.int Ln), .val (.int En), .val (.int H1), .val (.int (1 : Int32)), .val (.int Kk), .val (.int J), .val (.ref b137), .unset, .val (.long (u2.toInt64)), .second, .val (.long rr), .second] [])) t → Steps p.tables e below (s₁.setTop (entryFrame m #[(.int p1), (.int p2), (.int p3), (.int p4)] maxLocals)) t := fun t kt => G160 t (st161 t kt)
    have G162 : ∀ t, Steps p.tables e below (T161.setTop (mkF m 309 #[.val (.int p1), .val (.int p2), .val (.int p3), .val (.int p4), .val (.ref b2), .val (.int St), .val (.int Ln), .val (.int En), .val (.int H1), .val (.int (1 : Int32)), .val (.int Kk), .val (.int J), .val (.ref b137), .unset, .val (.long (u2.toInt64)), .second, .val (.long rr), .second] [(.int J), (.int (11 : Int32)), (.ref b137)])) t → Steps p.tables e below (s₁.setTop (entryFrame m #[(.int p1), (.int p2), (.int p3), (.int p4)] maxLocals)) t := by
      intro t kt
      refine G161 t ?_
      show Steps p.tables e below (T161.setTop (mkF m 303 #[.val (.int p1), .val (.int p2), .val (.int p3), .val (.int p4), .val (.ref b2), .val (.int St), .val (.int Ln), .val (.int En), .val (.int H1), .val (.int (1 : Int32)), .val (.int Kk), .val (.int J), .val (.ref b137), .unset, .val (.long (u2.toInt64)), .second, .val (.long rr), .second] [])) _
      refine XS.aload X161.here hx rfl (hb hby at_303) rfl rfl ?_
      show Steps p.tables e below (T161.setTop (mkF m 305 #[.val (.int p1), .val (.int p2), .val (.int p3), .val (.int p4), .val (.ref b2), .val (.int St), .val (.int Ln), .val (.int En), .val (.int H1), .val (.int (1 : Int32)), .val (.int Kk), .val (.int J), .val (.ref b137), .unset, .val (.long (u2.toInt64)), .second, .val (.long rr), .second] [(.ref b137)])) _
      refine XS.bipush X161.here hx rfl (hb hby at_305) ?_
      show Steps p.tables e below (T161.setTop (mkF m 307 #[.val (.int p1), .val (.int p2), .val (.int p3), .val (.int p4), .val (.ref b2), .val (.int St), .val (.int Ln), .val (.int En), .val (.int H1), .val (.int (1 : Int32)), .val (.int Kk), .val (.int J), .val (.ref b137), .unset, .val (.long (u2.toInt64)), .second, .val (.long rr), .second] [(.int (11 : Int32)), (.ref b137)])) _
      refine XS.iload X161.here hx rfl (hb hby at_307) rfl ?_
      show Steps p.tables e below (T161.setTop (mkF m 309 #[.val (.int p1), .val (.int p2), .val (.int p3), .val (.int p4), .val (.ref b2), .val (.int St), .val (.int Ln), .val (.int En), .val (.int H1), .val (.int (1 : Int32)), .val (.int Kk), .val (.int J), .val (.ref b137), .unset, .val (.long (u2.toInt64)), .second, .val (.long rr), .second] [(.int J), (.int (11 : Int32)), (.ref b137)])) _
      exact kt
    obtain ⟨cl_163, Ar_163, q_163, S_163, M_163, H_163, U_163⟩ := id V_b137_161
    obtain ⟨T163, h163, X163, e163, W163, st163⟩ := stB X161 hx hZ e161 Ar_163 (j := (11 : Int32)) (inb_of S_163 ⟨(by decide : ¬ ((11 : Int32) < (0 : Int32))), (by decide : (11 : Int32) < (16 : Int32))⟩) (g := (mkF m 309 #[.val (.int p1), .val (.int p2), .val (.int p3), .val (.int p4), .val (.ref b2), .val (.int St), .val (.int Ln), .val (.int En), .val (.int H1), .val (.int (1 : Int32)), .val (.int Kk), .val (.int J), .val (.ref b137), .unset, .val (.long (u2.toInt64)), .second, .val (.long rr), .second] [(.int J), (.int (11 : Int32)), (.ref b137)])) rfl rfl (hb hby at_309)
    have V_b137_163 : Arv Z h163 b137 k137 .byte (16 : Int32) [(.int (nar .byte J)), (.int (nar .byte J)), (.int (nar .byte J)), (.int (nar .byte J)), (.int (nar .byte J)), (.int (nar .byte J)), (.int (nar .byte J)), (.int (nar .byte J)), (.int (nar .byte J)), (.int (nar .byte J)), (.int (nar .byte J)), (.int (nar .byte J)), (.int (0 : Int32)), (.int (0 : Int32)), (.int (0 : Int32)), (.int (0 : Int32))] (.int (0 : Int32)) := Arv.set Ar_163 q_163 S_163 M_163 H_163 U_163 (fits_nar_byte _) W163 11 rfl (Nat.le_of_ble_eq_true rfl)
    have VA_163 : Arv Z h163 b2 k2 .byte (8 : Int32) (own_l8 x0 x1 x2 x3 x4 x5 x6 x7) (.int (0 : Int32)) := VA_161.other W163 ne_b2_b137
    have Z163 : n0 ≤ h163.size := Nat.le_trans Z161 (Keep.of_wr W163).1
    have N163 := Fr.snoc X163 N161 g_b137
    have G163 : ∀ t, Steps p.tables e below (T163.setTop (mkF m 310 #[.val (.int p1), .val (.int p2), .val (.int p3), .val (.int p4), .val (.ref b2), .val (.int St), .val (.int Ln), .val (.int En), .val (.int H1), .val (.int (1 : Int32)), .val (.int Kk), .val (.int J), .val (.ref b137), .unset, .val (.long (u2.toInt64)), .second, .val (.long rr), .second] [])) t → Steps p.tables e below (s₁.setTop (entryFrame m #[(.int p1), (.int p2), (.int p3), (.int p4)] maxLocals)) t := fun t kt => G162 t (st163 t kt)
    obtain ⟨LH164, XH164, NH164⟩ : ∃ L', Stand p l e room_1 s m #[(.int p1), (.int p2), (.int p3), (.int p4)] below meth c T163 L' 2 24 ∧ Fr n0 L' := ⟨_, X163, N163⟩
    have G165 : ∀ t, Steps p.tables e below (T163.setTop (mkF m 316 #[.val (.int p1), .val (.int p2), .val (.int p3), .val (.int p4), .val (.ref b2), .val (.int St), .val (.int Ln), .val (.int En), .val (.int H1), .val (.int (1 : Int32)), .val (.int Kk), .val (.int J), .val (.ref b137), .unset, .val (.long (u2.toInt64)), .second, .val (.long rr), .second] [(.int J), (.int (12 : Int32)), (.ref b137)])) t → Steps p.tables e below (s₁.setTop (entryFrame m #[(.int p1), (.int p2), (.int p3), (.int p4)] maxLocals)) t := by
      intro t kt
      refine G163 t ?_
      show Steps p.tables e below (T163.setTop (mkF m 310 #[.val (.int p1), .val (.int p2), .val (.int p3), .val (.int p4), .val (.ref b2), .val (.int St), .val (.int Ln), .val (.int En), .val (.int H1), .val (.int (1 : Int32)), .val (.int Kk), .val (.int J), .val (.ref b137), .unset, .val (.long (u2.toInt64)), .second, .val (.long rr), .second] [])) _
      refine XS.aload XH164.here hx rfl (hb hby at_310) rfl rfl ?_
      show Steps p.tables e below (T163.setTop (mkF m 312 #[.val (.int p1), .val (.int p2), .val (.int p3), .val (.int p4), .val (.ref b2), .val (.int St), .val (.int Ln), .val (.int En), .val (.int H1), .val (.int (1 : Int32)), .val (.int Kk), .val (.int J), .val (.ref b137), .unset, .val (.long (u2.toInt64)), .second, .val (.long rr), .second] [(.ref b137)])) _
      refine XS.bipush XH164.here hx rfl (hb hby at_312) ?_
      show Steps p.tables e below (T163.setTop (mkF m 314 #[.val (.int p1), .val (.int p2), .val (.int p3), .val (.int p4), .val (.ref b2), .val (.int St), .val (.int Ln), .val (.int En), .val (.int H1), .val (.int (1 : Int32)), .val (.int Kk), .val (.int J), .val (.ref b137), .unset, .val (.long (u2.toInt64)), .second, .val (.long rr), .second] [(.int (12 : Int32)), (.ref b137)])) _
      refine XS.iload XH164.here hx rfl (hb hby at_314) rfl ?_
      show Steps p.tables e below (T163.setTop (mkF m 316 #[.val (.int p1), .val (.int p2), .val (.int p3), .val (.int p4), .val (.ref b2), .val (.int St), .val (.int Ln), .val (.int En), .val (.int H1), .val (.int (1 : Int32)), .val (.int Kk), .val (.int J), .val (.ref b137), .unset, .val (.long (u2.toInt64)), .second, .val (.long rr), .second] [(.int J), (.int (12 : Int32)), (.ref b137)])) _
      exact kt
    obtain ⟨cl_166, Ar_166, q_166, S_166, M_166, H_166, U_166⟩ := id V_b137_163
    obtain ⟨T166, h166, X166, e166, W166, st166⟩ := stB XH164 hx hZ e163 Ar_166 (j := (12 : Int32)) (inb_of S_166 ⟨(by decide : ¬ ((12 : Int32) < (0 : Int32))), (by decide : (12 : Int32) < (16 : Int32))⟩) (g := (mkF m 316 #[.val (.int p1), .val (.int p2), .val (.int p3), .val (.int p4), .val (.ref b2), .val (.int St), .val (.int Ln), .val (.int En), .val (.int H1), .val (.int (1 : Int32)), .val (.int Kk), .val (.int J), .val (.ref b137), .unset, .val (.long (u2.toInt64)), .second, .val (.long rr), .second] [(.int J), (.int (12 : Int32)), (.ref b137)])) rfl rfl (hb hby at_316)
    have V_b137_166 : Arv Z h166 b137 k137 .byte (16 : Int32) [(.int (nar .byte J)), (.int (nar .byte J)), (.int (nar .byte J)), (.int (nar .byte J)), (.int (nar .byte J)), (.int (nar .byte J)), (.int (nar .byte J)), (.int (nar .byte J)), (.int (nar .byte J)), (.int (nar .byte J)), (.int (nar .byte J)), (.int (nar .byte J)), (.int (nar .byte J)), (.int (0 : Int32)), (.int (0 : Int32)), (.int (0 : Int32))] (.int (0 : Int32)) := Arv.set Ar_166 q_166 S_166 M_166 H_166 U_166 (fits_nar_byte _) W166 12 rfl (Nat.le_of_ble_eq_true rfl)
    have VA_166 : Arv Z h166 b2 k2 .byte (8 : Int32) (own_l8 x0 x1 x2 x3 x4 x5 x6 x7) (.int (0 : Int32)) := VA_163.other W166 ne_b2_b137
    have Z166 : n0 ≤ h166.size := Nat.le_trans Z163 (Keep.of_wr W166).1
    have N166 := Fr.snoc X166 NH164 g_b137
    have G166 : ∀ t, Steps p.tables e below (T166.setTop (mkF m 317 #[.val (.int p1), .val (.int p2), .val (.int p3), .val (.int p4), .val (.ref b2), .val (.int St), .val (.int Ln), .val (.int En), .val (.int H1), .val (.int (1 : Int32)), .val (.int Kk), .val (.int J), .val (.ref b137), .unset, .val (.long (u2.toInt64)), .second, .val (.long rr), .second] [])) t → Steps p.tables e below (s₁.setTop (entryFrame m #[(.int p1), (.int p2), (.int p3), (.int p4)] maxLocals)) t := fun t kt => G165 t (st166 t kt)
    have G167 : ∀ t, Steps p.tables e below (T166.setTop (mkF m 323 #[.val (.int p1), .val (.int p2), .val (.int p3), .val (.int p4), .val (.ref b2), .val (.int St), .val (.int Ln), .val (.int En), .val (.int H1), .val (.int (1 : Int32)), .val (.int Kk), .val (.int J), .val (.ref b137), .unset, .val (.long (u2.toInt64)), .second, .val (.long rr), .second] [(.int J), (.int (13 : Int32)), (.ref b137)])) t → Steps p.tables e below (s₁.setTop (entryFrame m #[(.int p1), (.int p2), (.int p3), (.int p4)] maxLocals)) t := by
      intro t kt
      refine G166 t ?_
      show Steps p.tables e below (T166.setTop (mkF m 317 #[.val (.int p1), .val (.int p2), .val (.int p3), .val (.int p4), .val (.ref b2), .val (.int St), .val (.int Ln), .val (.int En), .val (.int H1), .val (.int (1 : Int32)), .val (.int Kk), .val (.int J), .val (.ref b137), .unset, .val (.long (u2.toInt64)), .second, .val (.long rr), .second] [])) _
      refine XS.aload X166.here hx rfl (hb hby at_317) rfl rfl ?_
      show Steps p.tables e below (T166.setTop (mkF m 319 #[.val (.int p1), .val (.int p2), .val (.int p3), .val (.int p4), .val (.ref b2), .val (.int St), .val (.int Ln), .val (.int En), .val (.int H1), .val (.int (1 : Int32)), .val (.int Kk), .val (.int J), .val (.ref b137), .unset, .val (.long (u2.toInt64)), .second, .val (.long rr), .second] [(.ref b137)])) _
      refine XS.bipush X166.here hx rfl (hb hby at_319) ?_
      show Steps p.tables e below (T166.setTop (mkF m 321 #[.val (.int p1), .val (.int p2), .val (.int p3), .val (.int p4), .val (.ref b2), .val (.int St), .val (.int Ln), .val (.int En), .val (.int H1), .val (.int (1 : Int32)), .val (.int Kk), .val (.int J), .val (.ref b137), .unset, .val (.long (u2.toInt64)), .second, .val (.long rr), .second] [(.int (13 : Int32)), (.ref b137)])) _
      refine XS.iload X166.here hx rfl (hb hby at_321) rfl ?_
      show Steps p.tables e below (T166.setTop (mkF m 323 #[.val (.int p1), .val (.int p2), .val (.int p3), .val (.int p4), .val (.ref b2), .val (.int St), .val (.int Ln), .val (.int En), .val (.int H1), .val (.int (1 : Int32)), .val (.int Kk), .val (.int J), .val (.ref b137), .unset, .val (.long (u2.toInt64)), .second, .val (.long rr), .second] [(.int J), (.int (13 : Int32)), (.ref b137)])) _
      exact kt
    obtain ⟨cl_168, Ar_168, q_168, S_168, M_168, H_168, U_168⟩ := id V_b137_166
    obtain ⟨T168, h168, X168, e168, W168, st168⟩ := stB X166 hx hZ e166 Ar_168 (j := (13 : Int32)) (inb_of S_168 ⟨(by decide : ¬ ((13 : Int32) < (0 : Int32))), (by decide : (13 : Int32) < (16 : Int32))⟩) (g := (mkF m 323 #[.val (.int p1), .val (.int p2), .val (.int p3), .val (.int p4), .val (.ref b2), .val (.int St), .val (.int Ln), .val (.int En), .val (.int H1), .val (.int (1 : Int32)), .val (.int Kk), .val (.int J), .val (.ref b137), .unset, .val (.long (u2.toInt64)), .second, .val (.long rr), .second] [(.int J), (.int (13 : Int32)), (.ref b137)])) rfl rfl (hb hby at_323)
    have V_b137_168 : Arv Z h168 b137 k137 .byte (16 : Int32) [(.int (nar .byte J)), (.int (nar .byte J)), (.int (nar .byte J)), (.int (nar .byte J)), (.int (nar .byte J)), (.int (nar .byte J)), (.int (nar .byte J)), (.int (nar .byte J)), (.int (nar .byte J)), (.int (nar .byte J)), (.int (nar .byte J)), (.int (nar .byte J)), (.int (nar .byte J)), (.int (nar .byte J)), (.int (0 : Int32)), (.int (0 : Int32))] (.int (0 : Int32)) := Arv.set Ar_168 q_168 S_168 M_168 H_168 U_168 (fits_nar_byte _) W168 13 rfl (Nat.le_of_ble_eq_true rfl)
    have VA_168 : Arv Z h168 b2 k2 .byte (8 : Int32) (own_l8 x0 x1 x2 x3 x4 x5 x6 x7) (.int (0 : Int32)) := VA_166.other W168 ne_b2_b137
    have Z168 : n0 ≤ h168.size := Nat.le_trans Z166 (Keep.of_wr W168).1
    have N168 := Fr.snoc X168 N166 g_b137
    have G168 : ∀ t, Steps p.tables e below (T168.setTop (mkF m 324 #[.val (.int p1), .val (.int p2), .val (.int p3), .val (.int p4), .val (.ref b2), .val (.int St), .val (.int Ln), .val (.int En), .val (.int H1), .val (.int (1 : Int32)), .val (.int Kk), .val (.int J), .val (.ref b137), .unset, .val (.long (u2.toInt64)), .second, .val (.long rr), .second] [])) t → Steps p.tables e below (s₁.setTop (entryFrame m #[(.int p1), (.int p2), (.int p3), (.int p4)] maxLocals)) t := fun t kt => G167 t (st168 t kt)
    have G169 : ∀ t, Steps p.tables e below (T168.setTop (mkF m 330 #[.val (.int p1), .val (.int p2), .val (.int p3), .val (.int p4), .val (.ref b2), .val (.int St), .val (.int Ln), .val (.int En), .val (.int H1), .val (.int (1 : Int32)), .val (.int Kk), .val (.int J), .val (.ref b137), .unset, .val (.long (u2.toInt64)), .second, .val (.long rr), .second] [(.int J), (.int (14 : Int32)), (.ref b137)])) t → Steps p.tables e below (s₁.setTop (entryFrame m #[(.int p1), (.int p2), (.int p3), (.int p4)] maxLocals)) t := by
      intro t kt
      refine G168 t ?_
      show Steps p.tables e below (T168.setTop (mkF m 324 #[.val (.int p1), .val (.int p2), .val (.int p3), .val (.int p4), .val (.ref b2), .val (.int St), .val (.int Ln), .val (.int En), .val (.int H1), .val (.int (1 : Int32)), .val (.int Kk), .val (.int J), .val (.ref b137), .unset, .val (.long (u2.toInt64)), .second, .val (.long rr), .second] [])) _
      refine XS.aload X168.here hx rfl (hb hby at_324) rfl rfl ?_
      show Steps p.tables e below (T168.setTop (mkF m 326 #[.val (.int p1), .val (.int p2), .val (.int p3), .val (.int p4), .val (.ref b2), .val (.int St), .val (.int Ln), .val (.int En), .val (.int H1), .val (.int (1 : Int32)), .val (.int Kk), .val (.int J), .val (.ref b137), .unset, .val (.long (u2.toInt64)), .second, .val (.long rr), .second] [(.ref b137)])) _
      refine XS.bipush X168.here hx rfl (hb hby at_326) ?_
      show Steps p.tables e below (T168.setTop (mkF m 328 #[.val (.int p1), .val (.int p2), .val (.int p3), .val (.int p4), .val (.ref b2), .val (.int St), .val (.int Ln), .val (.int En), .val (.int H1), .val (.int (1 : Int32)), .val (.int Kk), .val (.int J), .val (.ref b137), .unset, .val (.long (u2.toInt64)), .second, .val (.long rr), .second] [(.int (14 : Int32)), (.ref b137)])) _
      refine XS.iload X168.here hx rfl (hb hby at_328) rfl ?_
      show Steps p.tables e below (T168.setTop (mkF m 330 #[.val (.int p1), .val (.int p2), .val (.int p3), .val (.int p4), .val (.ref b2), .val (.int St), .val (.int Ln), .val (.int En), .val (.int H1), .val (.int (1 : Int32)), .val (.int Kk), .val (.int J), .val (.ref b137), .unset, .val (.long (u2.toInt64)), .second, .val (.long rr), .second] [(.int J), (.int (14 : Int32)), (.ref b137)])) _
      exact kt
    obtain ⟨cl_170, Ar_170, q_170, S_170, M_170, H_170, U_170⟩ := id V_b137_168
    obtain ⟨T170, h170, X170, e170, W170, st170⟩ := stB X168 hx hZ e168 Ar_170 (j := (14 : Int32)) (inb_of S_170 ⟨(by decide : ¬ ((14 : Int32) < (0 : Int32))), (by decide : (14 : Int32) < (16 : Int32))⟩) (g := (mkF m 330 #[.val (.int p1), .val (.int p2), .val (.int p3), .val (.int p4), .val (.ref b2), .val (.int St), .val (.int Ln), .val (.int En), .val (.int H1), .val (.int (1 : Int32)), .val (.int Kk), .val (.int J), .val (.ref b137), .unset, .val (.long (u2.toInt64)), .second, .val (.long rr), .second] [(.int J), (.int (14 : Int32)), (.ref b137)])) rfl rfl (hb hby at_330)
    have V_b137_170 : Arv Z h170 b137 k137 .byte (16 : Int32) [(.int (nar .byte J)), (.int (nar .byte J)), (.int (nar .byte J)), (.int (nar .byte J)), (.int (nar .byte J)), (.int (nar .byte J)), (.int (nar .byte J)), (.int (nar .byte J)), (.int (nar .byte J)), (.int (nar .byte J)), (.int (nar .byte J)), (.int (nar .byte J)), (.int (nar .byte J)), (.int (nar .byte J)), (.int (nar .byte J)), (.int (0 : Int32))] (.int (0 : Int32)) := Arv.set Ar_170 q_170 S_170 M_170 H_170 U_170 (fits_nar_byte _) W170 14 rfl (Nat.le_of_ble_eq_true rfl)
    have VA_170 : Arv Z h170 b2 k2 .byte (8 : Int32) (own_l8 x0 x1 x2 x3 x4 x5 x6 x7) (.int (0 : Int32)) := VA_168.other W170 ne_b2_b137
    have Z170 : n0 ≤ h170.size := Nat.le_trans Z168 (Keep.of_wr W170).1
    have N170 := Fr.snoc X170 N168 g_b137
    have G170 : ∀ t, Steps p.tables e below (T170.setTop (mkF m 331 #[.val (.int p1), .val (.int p2), .val (.int p3), .val (.int p4), .val (.ref b2), .val (.int St), .val (.int Ln), .val (.int En), .val (.int H1), .val (.int (1 : Int32)), .val (.int Kk), .val (.int J), .val (.ref b137), .unset, .val (.long (u2.toInt64)), .second, .val (.long rr), .second] [])) t → Steps p.tables e below (s₁.setTop (entryFrame m #[(.int p1), (.int p2), (.int p3), (.int p4)] maxLocals)) t := fun t kt => G169 t (st170 t kt)
    have G171 : ∀ t, Steps p.tables e below (T170.setTop (mkF m 337 #[.val (.int p1), .val (.int p2), .val (.int p3), .val (.int p4), .val (.ref b2), .val (.int St), .val (.int Ln), .val (.int En), .val (.int H1), .val (.int (1 : Int32)), .val (.int Kk), .val (.int J), .val (.ref b137), .unset, .val (.long (u2.toInt64)), .second, .val (.long rr), .second] [(.int J), (.int (15 : Int32)), (.ref b137)])) t → Steps p.tables e below (s₁.setTop (entryFrame m #[(.int p1), (.int p2), (.int p3), (.int p4)] maxLocals)) t := by
      intro t kt
      refine G170 t ?_
      show Steps p.tables e below (T170.setTop (mkF m 331 #[.val (.int p1), .val (.int p2), .val (.int p3), .val (.int p4), .val (.ref b2), .val (.int St), .val (.int Ln), .val (.int En), .val (.int H1), .val (.int (1 : Int32)), .val (.int Kk), .val (.int J), .val (.ref b137), .unset, .val (.long (u2.toInt64)), .second, .val (.long rr), .second] [])) _
      refine XS.aload X170.here hx rfl (hb hby at_331) rfl rfl ?_
      show Steps p.tables e below (T170.setTop (mkF m 333 #[.val (.int p1), .val (.int p2), .val (.int p3), .val (.int p4), .val (.ref b2), .val (.int St), .val (.int Ln), .val (.int En), .val (.int H1), .val (.int (1 : Int32)), .val (.int Kk), .val (.int J), .val (.ref b137), .unset, .val (.long (u2.toInt64)), .second, .val (.long rr), .second] [(.ref b137)])) _
      refine XS.bipush X170.here hx rfl (hb hby at_333) ?_
      show Steps p.tables e below (T170.setTop (mkF m 335 #[.val (.int p1), .val (.int p2), .val (.int p3), .val (.int p4), .val (.ref b2), .val (.int St), .val (.int Ln), .val (.int En), .val (.int H1), .val (.int (1 : Int32)), .val (.int Kk), .val (.int J), .val (.ref b137), .unset, .val (.long (u2.toInt64)), .second, .val (.long rr), .second] [(.int (15 : Int32)), (.ref b137)])) _
      refine XS.iload X170.here hx rfl (hb hby at_335) rfl ?_
      show Steps p.tables e below (T170.setTop (mkF m 337 #[.val (.int p1), .val (.int p2), .val (.int p3), .val (.int p4), .val (.ref b2), .val (.int St), .val (.int Ln), .val (.int En), .val (.int H1), .val (.int (1 : Int32)), .val (.int Kk), .val (.int J), .val (.ref b137), .unset, .val (.long (u2.toInt64)), .second, .val (.long rr), .second] [(.int J), (.int (15 : Int32)), (.ref b137)])) _
      exact kt
    obtain ⟨cl_172, Ar_172, q_172, S_172, M_172, H_172, U_172⟩ := id V_b137_170
    obtain ⟨T172, h172, X172, e172, W172, st172⟩ := stB X170 hx hZ e170 Ar_172 (j := (15 : Int32)) (inb_of S_172 ⟨(by decide : ¬ ((15 : Int32) < (0 : Int32))), (by decide : (15 : Int32) < (16 : Int32))⟩) (g := (mkF m 337 #[.val (.int p1), .val (.int p2), .val (.int p3), .val (.int p4), .val (.ref b2), .val (.int St), .val (.int Ln), .val (.int En), .val (.int H1), .val (.int (1 : Int32)), .val (.int Kk), .val (.int J), .val (.ref b137), .unset, .val (.long (u2.toInt64)), .second, .val (.long rr), .second] [(.int J), (.int (15 : Int32)), (.ref b137)])) rfl rfl (hb hby at_337)
    have V_b137_172 : Arv Z h172 b137 k137 .byte (16 : Int32) [(.int (nar .byte J)), (.int (nar .byte J)), (.int (nar .byte J)), (.int (nar .byte J)), (.int (nar .byte J)), (.int (nar .byte J)), (.int (nar .byte J)), (.int (nar .byte J)), (.int (nar .byte J)), (.int (nar .byte J)), (.int (nar .byte J)), (.int (nar .byte J)), (.int (nar .byte J)), (.int (nar .byte J)), (.int (nar .byte J)), (.int (nar .byte J))] (.int (0 : Int32)) := Arv.set Ar_172 q_172 S_172 M_172 H_172 U_172 (fits_nar_byte _) W172 15 rfl (Nat.le_of_ble_eq_true rfl)
    have VA_172 : Arv Z h172 b2 k2 .byte (8 : Int32) (own_l8 x0 x1 x2 x3 x4 x5 x6 x7) (.int (0 : Int32)) := VA_170.other W172 ne_b2_b137
    have Z172 : n0 ≤ h172.size := Nat.le_trans Z170 (Keep.of_wr W172).1
    have N172 := Fr.snoc X172 N170 g_b137
    have G172 : ∀ t, Steps p.tables e below (T172.setTop (mkF m 338 #[.val (.int p1), .val (.int p2), .val (.int p3), .val (.int p4), .val (.ref b2), .val (.int St), .val (.int Ln), .val (.int En), .val (.int H1), .val (.int (1 : Int32)), .val (.int Kk), .val (.int J), .val (.ref b137), .unset, .val (.long (u2.toInt64)), .second, .val (.long rr), .second] [])) t → Steps p.tables e below (s₁.setTop (entryFrame m #[(.int p1), (.int p2), (.int p3), (.int p4)] maxLocals)) t := fun t kt => G171 t (st172 t kt)
    obtain ⟨LH173, XH173, NH173⟩ : ∃ L', Stand p l e room_1 s m #[(.int p1), (.int p2), (.int p3), (.int p4)] below meth c T172 L' 2 24 ∧ Fr n0 L' := ⟨_, X172, N172⟩
    have G174 : ∀ t, Steps p.tables e below (T172.setTop (mkF m 345 #[.val (.int p1), .val (.int p2), .val (.int p3), .val (.int p4), .val (.ref b2), .val (.int St), .val (.int Ln), .val (.int En), .val (.int H1), .val (.int (1 : Int32)), .val (.int Kk), .val (.int J), .val (.ref b137), .unset, .val (.long (u2.toInt64)), .second, .val (.long rr), .second] [(.int (0 : Int32)), (.ref b2), (.int Kk), (.ref b137)])) t → Steps p.tables e below (s₁.setTop (entryFrame m #[(.int p1), (.int p2), (.int p3), (.int p4)] maxLocals)) t := by
      intro t kt
      refine G172 t ?_
      show Steps p.tables e below (T172.setTop (mkF m 338 #[.val (.int p1), .val (.int p2), .val (.int p3), .val (.int p4), .val (.ref b2), .val (.int St), .val (.int Ln), .val (.int En), .val (.int H1), .val (.int (1 : Int32)), .val (.int Kk), .val (.int J), .val (.ref b137), .unset, .val (.long (u2.toInt64)), .second, .val (.long rr), .second] [])) _
      refine XS.aload XH173.here hx rfl (hb hby at_338) rfl rfl ?_
      show Steps p.tables e below (T172.setTop (mkF m 340 #[.val (.int p1), .val (.int p2), .val (.int p3), .val (.int p4), .val (.ref b2), .val (.int St), .val (.int Ln), .val (.int En), .val (.int H1), .val (.int (1 : Int32)), .val (.int Kk), .val (.int J), .val (.ref b137), .unset, .val (.long (u2.toInt64)), .second, .val (.long rr), .second] [(.ref b137)])) _
      refine XS.iload XH173.here hx rfl (hb hby at_340) rfl ?_
      show Steps p.tables e below (T172.setTop (mkF m 342 #[.val (.int p1), .val (.int p2), .val (.int p3), .val (.int p4), .val (.ref b2), .val (.int St), .val (.int Ln), .val (.int En), .val (.int H1), .val (.int (1 : Int32)), .val (.int Kk), .val (.int J), .val (.ref b137), .unset, .val (.long (u2.toInt64)), .second, .val (.long rr), .second] [(.int Kk), (.ref b137)])) _
      refine XS.aload XH173.here hx rfl (hb hby at_342) rfl rfl ?_
      show Steps p.tables e below (T172.setTop (mkF m 344 #[.val (.int p1), .val (.int p2), .val (.int p3), .val (.int p4), .val (.ref b2), .val (.int St), .val (.int Ln), .val (.int En), .val (.int H1), .val (.int (1 : Int32)), .val (.int Kk), .val (.int J), .val (.ref b137), .unset, .val (.long (u2.toInt64)), .second, .val (.long rr), .second] [(.ref b2), (.int Kk), (.ref b137)])) _
      refine XS.iconst XH173.here hx rfl (hb hby at_344) ?_
      show Steps p.tables e below (T172.setTop (mkF m 345 #[.val (.int p1), .val (.int p2), .val (.int p3), .val (.int p4), .val (.ref b2), .val (.int St), .val (.int Ln), .val (.int En), .val (.int H1), .val (.int (1 : Int32)), .val (.int Kk), .val (.int J), .val (.ref b137), .unset, .val (.long (u2.toInt64)), .second, .val (.long rr), .second] [(.int (0 : Int32)), (.ref b2), (.int Kk), (.ref b137)])) _
      exact kt
    obtain ⟨clA_c0, ArA_c0, qA_c0, SA_c0, MA_c0, HA_c0, UA_c0⟩ := id VA_172
    have hin_c0 := inb_of SA_c0 (own_bd8 (I := (0 : Int32)) (n := 0) rfl (by decide))
    have hat_c0 : clA_c0.slots[((0 : Int32)).toNatClampNeg]? = some (.int x0) := HA_c0.at hin_c0 rfl
    have G175 : ∀ t, Steps p.tables e below (T172.setTop (mkF m 346 #[.val (.int p1), .val (.int p2), .val (.int p3), .val (.int p4), .val (.ref b2), .val (.int St), .val (.int Ln), .val (.int En), .val (.int H1), .val (.int (1 : Int32)), .val (.int Kk), .val (.int J), .val (.ref b137), .unset, .val (.long (u2.toInt64)), .second, .val (.long rr), .second] [(.int x0), (.int Kk), (.ref b137)])) t → Steps p.tables e below (s₁.setTop (entryFrame m #[(.int p1), (.int p2), (.int p3), (.int p4)] maxLocals)) t := by
      intro t kt
      refine G174 t ?_
      show Steps p.tables e below (T172.setTop (mkF m 345 #[.val (.int p1), .val (.int p2), .val (.int p3), .val (.int p4), .val (.ref b2), .val (.int St), .val (.int Ln), .val (.int En), .val (.int H1), .val (.int (1 : Int32)), .val (.int Kk), .val (.int J), .val (.ref b137), .unset, .val (.long (u2.toInt64)), .second, .val (.long rr), .second] [(.int (0 : Int32)), (.ref b2), (.int Kk), (.ref b137)])) _
      refine XH173.baloadBytes hx (j := (0 : Int32)) (v := (.int x0)) (by rw [e172]; exact ArA_c0.1) (State.isArrayOf_alike hZ.alike ArA_c0.2.1) ArA_c0.2.2 hin_c0 hat_c0 (g := (mkF m 345 #[.val (.int p1), .val (.int p2), .val (.int p3), .val (.int p4), .val (.ref b2), .val (.int St), .val (.int Ln), .val (.int En), .val (.int H1), .val (.int (1 : Int32)), .val (.int Kk), .val (.int J), .val (.ref b137), .unset, .val (.long (u2.toInt64)), .second, .val (.long rr), .second] [(.int (0 : Int32)), (.ref b2), (.int Kk), (.ref b137)])) rfl rfl (hb hby at_345) _ ?_
      show Steps p.tables e below (T172.setTop (mkF m 346 #[.val (.int p1), .val (.int p2), .val (.int p3), .val (.int p4), .val (.ref b2), .val (.int St), .val (.int Ln), .val (.int En), .val (.int H1), .val (.int (1 : Int32)), .val (.int Kk), .val (.int J), .val (.ref b137), .unset, .val (.long (u2.toInt64)), .second, .val (.long rr), .second] [(.int x0), (.int Kk), (.ref b137)])) _
      exact kt
    obtain ⟨_, _, ⟨T176, L176, k176, n176⟩, -, X176, ⟨Lc176, hQ176, l176, y176, z176⟩, st176⟩ := Jvm.LawKit.callS XH173 hx (y := (⟨"com/example/evenkeel/evenkeel/http/HeaderNameHashPinLaw", "flip", "(B)B"⟩ : MethodName)) hown (mvT hZ (hw _ (List.mem_of_getElem? (i := 6) rfl))) (mvT hZ (hw _ (List.mem_of_getElem? (i := 7) rfl))) (mvT hZ (hw _ (List.mem_of_getElem? (i := 8) rfl))) (mvT hZ (hw _ (List.mem_of_getElem? (i := 9) rfl))) (by decide) (backOf (W := 2) (rm2 l Z a0 hw [] x0  h172 n0 Z172 ) hZ (hw _ (List.mem_of_getElem? (i := 9) rfl)) (hw _ (List.mem_of_getElem? (i := 8) rfl)) (by decide) (by decide)) (g := (mkF m 346 #[.val (.int p1), .val (.int p2), .val (.int p3), .val (.int p4), .val (.ref b2), .val (.int St), .val (.int Ln), .val (.int En), .val (.int H1), .val (.int (1 : Int32)), .val (.int Kk), .val (.int J), .val (.ref b137), .unset, .val (.long (u2.toInt64)), .second, .val (.long rr), .second] [(.int x0), (.int Kk), (.ref b137)])) rfl (by rw [hml]; rfl) (argsL := [(.int x0)]) (rest := [(.int Kk), (.ref b137)]) (lenOf pd_1 rfl) rfl (by show 2 * 0 + _ ≤ _; exact Nat.le_of_eq rfl) (hb hby at_346) (fun _ _ => ⟨rfl, e172, (by decide : 2 + 0 ≤ _), (by decide : 24 + 0 ≤ _)⟩)
    dsimp only [Pt.U, Pt.locs, Pt.cells, Pt.slots] at X176 l176 y176 z176 st176 hQ176
    subst l176 y176 z176
    obtain ⟨rfl, N176q, e176⟩ := hQ176
    have N176 := Fr.app NH173 N176q
    have G176 : ∀ t, Steps p.tables e below (T176.setTop (mkF m 349 #[.val (.int p1), .val (.int p2), .val (.int p3), .val (.int p4), .val (.ref b2), .val (.int St), .val (.int Ln), .val (.int En), .val (.int H1), .val (.int (1 : Int32)), .val (.int Kk), .val (.int J), .val (.ref b137), .unset, .val (.long (u2.toInt64)), .second, .val (.long rr), .second] [(.int (g2_0 x0)), (.int Kk), (.ref b137)])) t → Steps p.tables e below (s₁.setTop (entryFrame m #[(.int p1), (.int p2), (.int p3), (.int p4)] maxLocals)) t := fun t kt => G175 t (st176 t kt)
    obtain ⟨cl_177, Ar_177, q_177, S_177, M_177, H_177, U_177⟩ := id V_b137_172
    obtain ⟨T177, h177, X177, e177, W177, st177⟩ := stB X176 hx hZ e176 Ar_177 (j := Kk) (inb_of S_177 (own_bd16 hKs (by omega))) (g := (mkF m 349 #[.val (.int p1), .val (.int p2), .val (.int p3), .val (.int p4), .val (.ref b2), .val (.int St), .val (.int Ln), .val (.int En), .val (.int H1), .val (.int (1 : Int32)), .val (.int Kk), .val (.int J), .val (.ref b137), .unset, .val (.long (u2.toInt64)), .second, .val (.long rr), .second] [(.int (g2_0 x0)), (.int Kk), (.ref b137)])) rfl rfl (hb hby at_349)
    have V_b137_177 : Arv Z h177 b137 k137 .byte (16 : Int32) (List.set [(.int (nar .byte J)), (.int (nar .byte J)), (.int (nar .byte J)), (.int (nar .byte J)), (.int (nar .byte J)), (.int (nar .byte J)), (.int (nar .byte J)), (.int (nar .byte J)), (.int (nar .byte J)), (.int (nar .byte J)), (.int (nar .byte J)), (.int (nar .byte J)), (.int (nar .byte J)), (.int (nar .byte J)), (.int (nar .byte J)), (.int (nar .byte J))] k (.int (nar .byte (g2_0 x0)))) (.int (0 : Int32)) := Arv.set Ar_177 q_177 S_177 M_177 H_177 U_177 (fits_nar_byte _) W177 k (own_nn hKs) (by simp only [List.length_set, List.length_cons, List.length_nil]; omega)
    have VA_177 : Arv Z h177 b2 k2 .byte (8 : Int32) (own_l8 x0 x1 x2 x3 x4 x5 x6 x7) (.int (0 : Int32)) := VA_172.other W177 ne_b2_b137
    have Z177 : n0 ≤ h177.size := Nat.le_trans Z172 (Keep.of_wr W177).1
    have N177 := Fr.snoc X177 N176 g_b137
    have G177 : ∀ t, Steps p.tables e below (T177.setTop (mkF m 350 #[.val (.int p1), .val (.int p2), .val (.int p3), .val (.int p4), .val (.ref b2), .val (.int St), .val (.int Ln), .val (.int En), .val (.int H1), .val (.int (1 : Int32)), .val (.int Kk), .val (.int J), .val (.ref b137), .unset, .val (.long (u2.toInt64)), .second, .val (.long rr), .second] [])) t → Steps p.tables e below (s₁.setTop (entryFrame m #[(.int p1), (.int p2), (.int p3), (.int p4)] maxLocals)) t := fun t kt => G176 t (st177 t kt)
    obtain ⟨LH178, XH178, NH178⟩ : ∃ L', Stand p l e room_1 s m #[(.int p1), (.int p2), (.int p3), (.int p4)] below meth c T177 L' 2 24 ∧ Fr n0 L' := ⟨_, X177, N177⟩
    have G179 : ∀ t, Steps p.tables e below (T177.setTop (mkF m 359 #[.val (.int p1), .val (.int p2), .val (.int p3), .val (.int p4), .val (.ref b2), .val (.int St), .val (.int Ln), .val (.int En), .val (.int H1), .val (.int (1 : Int32)), .val (.int Kk), .val (.int J), .val (.ref b137), .unset, .val (.long (u2.toInt64)), .second, .val (.long rr), .second] [(.int (1 : Int32)), (.ref b2), (.int (Kk + (1 : Int32))), (.ref b137)])) t → Steps p.tables e below (s₁.setTop (entryFrame m #[(.int p1), (.int p2), (.int p3), (.int p4)] maxLocals)) t := by
      intro t kt
      refine G177 t ?_
      show Steps p.tables e below (T177.setTop (mkF m 350 #[.val (.int p1), .val (.int p2), .val (.int p3), .val (.int p4), .val (.ref b2), .val (.int St), .val (.int Ln), .val (.int En), .val (.int H1), .val (.int (1 : Int32)), .val (.int Kk), .val (.int J), .val (.ref b137), .unset, .val (.long (u2.toInt64)), .second, .val (.long rr), .second] [])) _
      refine XS.aload XH178.here hx rfl (hb hby at_350) rfl rfl ?_
      show Steps p.tables e below (T177.setTop (mkF m 352 #[.val (.int p1), .val (.int p2), .val (.int p3), .val (.int p4), .val (.ref b2), .val (.int St), .val (.int Ln), .val (.int En), .val (.int H1), .val (.int (1 : Int32)), .val (.int Kk), .val (.int J), .val (.ref b137), .unset, .val (.long (u2.toInt64)), .second, .val (.long rr), .second] [(.ref b137)])) _
      refine XS.iload XH178.here hx rfl (hb hby at_352) rfl ?_
      show Steps p.tables e below (T177.setTop (mkF m 354 #[.val (.int p1), .val (.int p2), .val (.int p3), .val (.int p4), .val (.ref b2), .val (.int St), .val (.int Ln), .val (.int En), .val (.int H1), .val (.int (1 : Int32)), .val (.int Kk), .val (.int J), .val (.ref b137), .unset, .val (.long (u2.toInt64)), .second, .val (.long rr), .second] [(.int Kk), (.ref b137)])) _
      refine XS.iconst XH178.here hx rfl (hb hby at_354) ?_
      show Steps p.tables e below (T177.setTop (mkF m 355 #[.val (.int p1), .val (.int p2), .val (.int p3), .val (.int p4), .val (.ref b2), .val (.int St), .val (.int Ln), .val (.int En), .val (.int H1), .val (.int (1 : Int32)), .val (.int Kk), .val (.int J), .val (.ref b137), .unset, .val (.long (u2.toInt64)), .second, .val (.long rr), .second] [(.int (1 : Int32)), (.int Kk), (.ref b137)])) _
      refine XS.iadd XH178.here hx rfl (hb hby at_355) rfl ?_
      show Steps p.tables e below (T177.setTop (mkF m 356 #[.val (.int p1), .val (.int p2), .val (.int p3), .val (.int p4), .val (.ref b2), .val (.int St), .val (.int Ln), .val (.int En), .val (.int H1), .val (.int (1 : Int32)), .val (.int Kk), .val (.int J), .val (.ref b137), .unset, .val (.long (u2.toInt64)), .second, .val (.long rr), .second] [(.int (Kk + (1 : Int32))), (.ref b137)])) _
      refine XS.aload XH178.here hx rfl (hb hby at_356) rfl rfl ?_
      show Steps p.tables e below (T177.setTop (mkF m 358 #[.val (.int p1), .val (.int p2), .val (.int p3), .val (.int p4), .val (.ref b2), .val (.int St), .val (.int Ln), .val (.int En), .val (.int H1), .val (.int (1 : Int32)), .val (.int Kk), .val (.int J), .val (.ref b137), .unset, .val (.long (u2.toInt64)), .second, .val (.long rr), .second] [(.ref b2), (.int (Kk + (1 : Int32))), (.ref b137)])) _
      refine XS.iconst XH178.here hx rfl (hb hby at_358) ?_
      show Steps p.tables e below (T177.setTop (mkF m 359 #[.val (.int p1), .val (.int p2), .val (.int p3), .val (.int p4), .val (.ref b2), .val (.int St), .val (.int Ln), .val (.int En), .val (.int H1), .val (.int (1 : Int32)), .val (.int Kk), .val (.int J), .val (.ref b137), .unset, .val (.long (u2.toInt64)), .second, .val (.long rr), .second] [(.int (1 : Int32)), (.ref b2), (.int (Kk + (1 : Int32))), (.ref b137)])) _
      exact kt
    obtain ⟨clA_c1, ArA_c1, qA_c1, SA_c1, MA_c1, HA_c1, UA_c1⟩ := id VA_177
    have hin_c1 := inb_of SA_c1 (own_bd8 (I := (1 : Int32)) (n := 1) rfl (by decide))
    have hat_c1 : clA_c1.slots[((1 : Int32)).toNatClampNeg]? = some (.int x1) := HA_c1.at hin_c1 rfl
    have G180 : ∀ t, Steps p.tables e below (T177.setTop (mkF m 360 #[.val (.int p1), .val (.int p2), .val (.int p3), .val (.int p4), .val (.ref b2), .val (.int St), .val (.int Ln), .val (.int En), .val (.int H1), .val (.int (1 : Int32)), .val (.int Kk), .val (.int J), .val (.ref b137), .unset, .val (.long (u2.toInt64)), .second, .val (.long rr), .second] [(.int x1), (.int (Kk + (1 : Int32))), (.ref b137)])) t → Steps p.tables e below (s₁.setTop (entryFrame m #[(.int p1), (.int p2), (.int p3), (.int p4)] maxLocals)) t := by
      intro t kt
      refine G179 t ?_
      show Steps p.tables e below (T177.setTop (mkF m 359 #[.val (.int p1), .val (.int p2), .val (.int p3), .val (.int p4), .val (.ref b2), .val (.int St), .val (.int Ln), .val (.int En), .val (.int H1), .val (.int (1 : Int32)), .val (.int Kk), .val (.int J), .val (.ref b137), .unset, .val (.long (u2.toInt64)), .second, .val (.long rr), .second] [(.int (1 : Int32)), (.ref b2), (.int (Kk + (1 : Int32))), (.ref b137)])) _
      refine XH178.baloadBytes hx (j := (1 : Int32)) (v := (.int x1)) (by rw [e177]; exact ArA_c1.1) (State.isArrayOf_alike hZ.alike ArA_c1.2.1) ArA_c1.2.2 hin_c1 hat_c1 (g := (mkF m 359 #[.val (.int p1), .val (.int p2), .val (.int p3), .val (.int p4), .val (.ref b2), .val (.int St), .val (.int Ln), .val (.int En), .val (.int H1), .val (.int (1 : Int32)), .val (.int Kk), .val (.int J), .val (.ref b137), .unset, .val (.long (u2.toInt64)), .second, .val (.long rr), .second] [(.int (1 : Int32)), (.ref b2), (.int (Kk + (1 : Int32))), (.ref b137)])) rfl rfl (hb hby at_359) _ ?_
      show Steps p.tables e below (T177.setTop (mkF m 360 #[.val (.int p1), .val (.int p2), .val (.int p3), .val (.int p4), .val (.ref b2), .val (.int St), .val (.int Ln), .val (.int En), .val (.int H1), .val (.int (1 : Int32)), .val (.int Kk), .val (.int J), .val (.ref b137), .unset, .val (.long (u2.toInt64)), .second, .val (.long rr), .second] [(.int x1), (.int (Kk + (1 : Int32))), (.ref b137)])) _
      exact kt
    obtain ⟨_, _, ⟨T181, L181, k181, n181⟩, -, X181, ⟨Lc181, hQ181, l181, y181, z181⟩, st181⟩ := Jvm.LawKit.callS XH178 hx (y := (⟨"com/example/evenkeel/evenkeel/http/HeaderNameHashPinLaw", "flip", "(B)B"⟩ : MethodName)) hown (mvT hZ (hw _ (List.mem_of_getElem? (i := 6) rfl))) (mvT hZ (hw _ (List.mem_of_getElem? (i := 7) rfl))) (mvT hZ (hw _ (List.mem_of_getElem? (i := 8) rfl))) (mvT hZ (hw _ (List.mem_of_getElem? (i := 9) rfl))) (by decide) (backOf (W := 2) (rm2 l Z a0 hw [] x1  h177 n0 Z177 ) hZ (hw _ (List.mem_of_getElem? (i := 9) rfl)) (hw _ (List.mem_of_getElem? (i := 8) rfl)) (by decide) (by decide)) (g := (mkF m 360 #[.val (.int p1), .val (.int p2), .val (.int p3), .val (.int p4), .val (.ref b2), .val (.int St), .val (.int Ln), .val (.int En), .val (.int H1), .val (.int (1 : Int32)), .val (.int Kk), .val (.int J), .val (.ref b137), .unset, .val (.long (u2.toInt64)), .second, .val (.long rr), .second] [(.int x1), (.int (Kk + (1 : Int32))), (.ref b137)])) rfl (by rw [hml]; rfl) (argsL := [(.int x1)]) (rest := [(.int (Kk + (1 : Int32))), (.ref b137)]) (lenOf pd_1 rfl) rfl (by show 2 * 0 + _ ≤ _; exact Nat.le_of_eq rfl) (hb hby at_360) (fun _ _ => ⟨rfl, e177, (by decide : 2 + 0 ≤ _), (by decide : 24 + 0 ≤ _)⟩)
    dsimp only [Pt.U, Pt.locs, Pt.cells, Pt.slots] at X181 l181 y181 z181 st181 hQ181
    subst l181 y181 z181
    obtain ⟨rfl, N181q, e181⟩ := hQ181
    have N181 := Fr.app NH178 N181q
    have G181 : ∀ t, Steps p.tables e below (T181.setTop (mkF m 363 #[.val (.int p1), .val (.int p2), .val (.int p3), .val (.int p4), .val (.ref b2), .val (.int St), .val (.int Ln), .val (.int En), .val (.int H1), .val (.int (1 : Int32)), .val (.int Kk), .val (.int J), .val (.ref b137), .unset, .val (.long (u2.toInt64)), .second, .val (.long rr), .second] [(.int (g2_0 x1)), (.int (Kk + (1 : Int32))), (.ref b137)])) t → Steps p.tables e below (s₁.setTop (entryFrame m #[(.int p1), (.int p2), (.int p3), (.int p4)] maxLocals)) t := fun t kt => G180 t (st181 t kt)
    obtain ⟨cl_182, Ar_182, q_182, S_182, M_182, H_182, U_182⟩ := id V_b137_177
    obtain ⟨T182, h182, X182, e182, W182, st182⟩ := stB X181 hx hZ e181 Ar_182 (j := (Kk + (1 : Int32))) (inb_of S_182 (own_bd16 (own_add hKs (m := 1) rfl (by omega)) (by omega))) (g := (mkF m 363 #[.val (.int p1), .val (.int p2), .val (.int p3), .val (.int p4), .val (.ref b2), .val (.int St), .val (.int Ln), .val (.int En), .val (.int H1), .val (.int (1 : Int32)), .val (.int Kk), .val (.int J), .val (.ref b137), .unset, .val (.long (u2.toInt64)), .second, .val (.long rr), .second] [(.int (g2_0 x1)), (.int (Kk + (1 : Int32))), (.ref b137)])) rfl rfl (hb hby at_363)
    have V_b137_182 : Arv Z h182 b137 k137 .byte (16 : Int32) (List.set (List.set [(.int (nar .byte J)), (.int (nar .byte J)), (.int (nar .byte J)), (.int (nar .byte J)), (.int (nar .byte J)), (.int (nar .byte J)), (.int (nar .byte J)), (.int (nar .byte J)), (.int (nar .byte J)), (.int (nar .byte J)), (.int (nar .byte J)), (.int (nar .byte J)), (.int (nar .byte J)), (.int (nar .byte J)), (.int (nar .byte J)), (.int (nar .byte J))] k (.int (nar .byte (g2_0 x0)))) (k + 1) (.int (nar .byte (g2_0 x1)))) (.int (0 : Int32)) := Arv.set Ar_182 q_182 S_182 M_182 H_182 U_182 (fits_nar_byte _) W182 (k + 1) (own_nn (own_add hKs (m := 1) rfl (by omega))) (by simp only [List.length_set, List.length_cons, List.length_nil]; omega)
    have VA_182 : Arv Z h182 b2 k2 .byte (8 : Int32) (own_l8 x0 x1 x2 x3 x4 x5 x6 x7) (.int (0 : Int32)) := VA_177.other W182 ne_b2_b137
    have Z182 : n0 ≤ h182.size := Nat.le_trans Z177 (Keep.of_wr W182).1
    have N182 := Fr.snoc X182 N181 g_b137
    have G182 : ∀ t, Steps p.tables e below (T182.setTop (mkF m 364 #[.val (.int p1), .val (.int p2), .val (.int p3), .val (.int p4), .val (.ref b2), .val (.int St), .val (.int Ln), .val (.int En), .val (.int H1), .val (.int (1 : Int32)), .val (.int Kk), .val (.int J), .val (.ref b137), .unset, .val (.long (u2.toInt64)), .second, .val (.long rr), .second] [])) t → Steps p.tables e below (s₁.setTop (entryFrame m #[(.int p1), (.int p2), (.int p3), (.int p4)] maxLocals)) t := fun t kt => G181 t (st182 t kt)
    obtain ⟨LH183, XH183, NH183⟩ : ∃ L', Stand p l e room_1 s m #[(.int p1), (.int p2), (.int p3), (.int p4)] below meth c T182 L' 2 24 ∧ Fr n0 L' := ⟨_, X182, N182⟩
    have G184 : ∀ t, Steps p.tables e below (T182.setTop (mkF m 373 #[.val (.int p1), .val (.int p2), .val (.int p3), .val (.int p4), .val (.ref b2), .val (.int St), .val (.int Ln), .val (.int En), .val (.int H1), .val (.int (1 : Int32)), .val (.int Kk), .val (.int J), .val (.ref b137), .unset, .val (.long (u2.toInt64)), .second, .val (.long rr), .second] [(.int (2 : Int32)), (.ref b2), (.int (Kk + (2 : Int32))), (.ref b137)])) t → Steps p.tables e below (s₁.setTop (entryFrame m #[(.int p1), (.int p2), (.int p3), (.int p4)] maxLocals)) t := by
      intro t kt
      refine G182 t ?_
      show Steps p.tables e below (T182.setTop (mkF m 364 #[.val (.int p1), .val (.int p2), .val (.int p3), .val (.int p4), .val (.ref b2), .val (.int St), .val (.int Ln), .val (.int En), .val (.int H1), .val (.int (1 : Int32)), .val (.int Kk), .val (.int J), .val (.ref b137), .unset, .val (.long (u2.toInt64)), .second, .val (.long rr), .second] [])) _
      refine XS.aload XH183.here hx rfl (hb hby at_364) rfl rfl ?_
      show Steps p.tables e below (T182.setTop (mkF m 366 #[.val (.int p1), .val (.int p2), .val (.int p3), .val (.int p4), .val (.ref b2), .val (.int St), .val (.int Ln), .val (.int En), .val (.int H1), .val (.int (1 : Int32)), .val (.int Kk), .val (.int J), .val (.ref b137), .unset, .val (.long (u2.toInt64)), .second, .val (.long rr), .second] [(.ref b137)])) _
      refine XS.iload XH183.here hx rfl (hb hby at_366) rfl ?_
      show Steps p.tables e below (T182.setTop (mkF m 368 #[.val (.int p1), .val (.int p2), .val (.int p3), .val (.int p4), .val (.ref b2), .val (.int St), .val (.int Ln), .val (.int En), .val (.int H1), .val (.int (1 : Int32)), .val (.int Kk), .val (.int J), .val (.ref b137), .unset, .val (.long (u2.toInt64)), .second, .val (.long rr), .second] [(.int Kk), (.ref b137)])) _
      refine XS.iconst XH183.here hx rfl (hb hby at_368) ?_
      show Steps p.tables e below (T182.setTop (mkF m 369 #[.val (.int p1), .val (.int p2), .val (.int p3), .val (.int p4), .val (.ref b2), .val (.int St), .val (.int Ln), .val (.int En), .val (.int H1), .val (.int (1 : Int32)), .val (.int Kk), .val (.int J), .val (.ref b137), .unset, .val (.long (u2.toInt64)), .second, .val (.long rr), .second] [(.int (2 : Int32)), (.int Kk), (.ref b137)])) _
      refine XS.iadd XH183.here hx rfl (hb hby at_369) rfl ?_
      show Steps p.tables e below (T182.setTop (mkF m 370 #[.val (.int p1), .val (.int p2), .val (.int p3), .val (.int p4), .val (.ref b2), .val (.int St), .val (.int Ln), .val (.int En), .val (.int H1), .val (.int (1 : Int32)), .val (.int Kk), .val (.int J), .val (.ref b137), .unset, .val (.long (u2.toInt64)), .second, .val (.long rr), .second] [(.int (Kk + (2 : Int32))), (.ref b137)])) _
      refine XS.aload XH183.here hx rfl (hb hby at_370) rfl rfl ?_
      show Steps p.tables e below (T182.setTop (mkF m 372 #[.val (.int p1), .val (.int p2), .val (.int p3), .val (.int p4), .val (.ref b2), .val (.int St), .val (.int Ln), .val (.int En), .val (.int H1), .val (.int (1 : Int32)), .val (.int Kk), .val (.int J), .val (.ref b137), .unset, .val (.long (u2.toInt64)), .second, .val (.long rr), .second] [(.ref b2), (.int (Kk + (2 : Int32))), (.ref b137)])) _
      refine XS.iconst XH183.here hx rfl (hb hby at_372) ?_
      show Steps p.tables e below (T182.setTop (mkF m 373 #[.val (.int p1), .val (.int p2), .val (.int p3), .val (.int p4), .val (.ref b2), .val (.int St), .val (.int Ln), .val (.int En), .val (.int H1), .val (.int (1 : Int32)), .val (.int Kk), .val (.int J), .val (.ref b137), .unset, .val (.long (u2.toInt64)), .second, .val (.long rr), .second] [(.int (2 : Int32)), (.ref b2), (.int (Kk + (2 : Int32))), (.ref b137)])) _
      exact kt
    obtain ⟨clA_c2, ArA_c2, qA_c2, SA_c2, MA_c2, HA_c2, UA_c2⟩ := id VA_182
    have hin_c2 := inb_of SA_c2 (own_bd8 (I := (2 : Int32)) (n := 2) rfl (by decide))
    have hat_c2 : clA_c2.slots[((2 : Int32)).toNatClampNeg]? = some (.int x2) := HA_c2.at hin_c2 rfl
    have G185 : ∀ t, Steps p.tables e below (T182.setTop (mkF m 374 #[.val (.int p1), .val (.int p2), .val (.int p3), .val (.int p4), .val (.ref b2), .val (.int St), .val (.int Ln), .val (.int En), .val (.int H1), .val (.int (1 : Int32)), .val (.int Kk), .val (.int J), .val (.ref b137), .unset, .val (.long (u2.toInt64)), .second, .val (.long rr), .second] [(.int x2), (.int (Kk + (2 : Int32))), (.ref b137)])) t → Steps p.tables e below (s₁.setTop (entryFrame m #[(.int p1), (.int p2), (.int p3), (.int p4)] maxLocals)) t := by
      intro t kt
      refine G184 t ?_
      show Steps p.tables e below (T182.setTop (mkF m 373 #[.val (.int p1), .val (.int p2), .val (.int p3), .val (.int p4), .val (.ref b2), .val (.int St), .val (.int Ln), .val (.int En), .val (.int H1), .val (.int (1 : Int32)), .val (.int Kk), .val (.int J), .val (.ref b137), .unset, .val (.long (u2.toInt64)), .second, .val (.long rr), .second] [(.int (2 : Int32)), (.ref b2), (.int (Kk + (2 : Int32))), (.ref b137)])) _
      refine XH183.baloadBytes hx (j := (2 : Int32)) (v := (.int x2)) (by rw [e182]; exact ArA_c2.1) (State.isArrayOf_alike hZ.alike ArA_c2.2.1) ArA_c2.2.2 hin_c2 hat_c2 (g := (mkF m 373 #[.val (.int p1), .val (.int p2), .val (.int p3), .val (.int p4), .val (.ref b2), .val (.int St), .val (.int Ln), .val (.int En), .val (.int H1), .val (.int (1 : Int32)), .val (.int Kk), .val (.int J), .val (.ref b137), .unset, .val (.long (u2.toInt64)), .second, .val (.long rr), .second] [(.int (2 : Int32)), (.ref b2), (.int (Kk + (2 : Int32))), (.ref b137)])) rfl rfl (hb hby at_373) _ ?_
      show Steps p.tables e below (T182.setTop (mkF m 374 #[.val (.int p1), .val (.int p2), .val (.int p3), .val (.int p4), .val (.ref b2), .val (.int St), .val (.int Ln), .val (.int En), .val (.int H1), .val (.int (1 : Int32)), .val (.int Kk), .val (.int J), .val (.ref b137), .unset, .val (.long (u2.toInt64)), .second, .val (.long rr), .second] [(.int x2), (.int (Kk + (2 : Int32))), (.ref b137)])) _
      exact kt
    obtain ⟨_, _, ⟨T186, L186, k186, n186⟩, -, X186, ⟨Lc186, hQ186, l186, y186, z186⟩, st186⟩ := Jvm.LawKit.callS XH183 hx (y := (⟨"com/example/evenkeel/evenkeel/http/HeaderNameHashPinLaw", "flip", "(B)B"⟩ : MethodName)) hown (mvT hZ (hw _ (List.mem_of_getElem? (i := 6) rfl))) (mvT hZ (hw _ (List.mem_of_getElem? (i := 7) rfl))) (mvT hZ (hw _ (List.mem_of_getElem? (i := 8) rfl))) (mvT hZ (hw _ (List.mem_of_getElem? (i := 9) rfl))) (by decide) (backOf (W := 2) (rm2 l Z a0 hw [] x2  h182 n0 Z182 ) hZ (hw _ (List.mem_of_getElem? (i := 9) rfl)) (hw _ (List.mem_of_getElem? (i := 8) rfl)) (by decide) (by decide)) (g := (mkF m 374 #[.val (.int p1), .val (.int p2), .val (.int p3), .val (.int p4), .val (.ref b2), .val (.int St), .val (.int Ln), .val (.int En), .val (.int H1), .val (.int (1 : Int32)), .val (.int Kk), .val (.int J), .val (.ref b137), .unset, .val (.long (u2.toInt64)), .second, .val (.long rr), .second] [(.int x2), (.int (Kk + (2 : Int32))), (.ref b137)])) rfl (by rw [hml]; rfl) (argsL := [(.int x2)]) (rest := [(.int (Kk + (2 : Int32))), (.ref b137)]) (lenOf pd_1 rfl) rfl (by show 2 * 0 + _ ≤ _; exact Nat.le_of_eq rfl) (hb hby at_374) (fun _ _ => ⟨rfl, e182, (by decide : 2 + 0 ≤ _), (by decide : 24 + 0 ≤ _)⟩)
    dsimp only [Pt.U, Pt.locs, Pt.cells, Pt.slots] at X186 l186 y186 z186 st186 hQ186
    subst l186 y186 z186
    obtain ⟨rfl, N186q, e186⟩ := hQ186
    have N186 := Fr.app NH183 N186q
    have G186 : ∀ t, Steps p.tables e below (T186.setTop (mkF m 377 #[.val (.int p1), .val (.int p2), .val (.int p3), .val (.int p4), .val (.ref b2), .val (.int St), .val (.int Ln), .val (.int En), .val (.int H1), .val (.int (1 : Int32)), .val (.int Kk), .val (.int J), .val (.ref b137), .unset, .val (.long (u2.toInt64)), .second, .val (.long rr), .second] [(.int (g2_0 x2)), (.int (Kk + (2 : Int32))), (.ref b137)])) t → Steps p.tables e below (s₁.setTop (entryFrame m #[(.int p1), (.int p2), (.int p3), (.int p4)] maxLocals)) t := fun t kt => G185 t (st186 t kt)
    obtain ⟨cl_187, Ar_187, q_187, S_187, M_187, H_187, U_187⟩ := id V_b137_182
    obtain ⟨T187, h187, X187, e187, W187, st187⟩ := stB X186 hx hZ e186 Ar_187 (j := (Kk + (2 : Int32))) (inb_of S_187 (own_bd16 (own_add hKs (m := 2) rfl (by omega)) (by omega))) (g := (mkF m 377 #[.val (.int p1), .val (.int p2), .val (.int p3), .val (.int p4), .val (.ref b2), .val (.int St), .val (.int Ln), .val (.int En), .val (.int H1), .val (.int (1 : Int32)), .val (.int Kk), .val (.int J), .val (.ref b137), .unset, .val (.long (u2.toInt64)), .second, .val (.long rr), .second] [(.int (g2_0 x2)), (.int (Kk + (2 : Int32))), (.ref b137)])) rfl rfl (hb hby at_377)
    have V_b137_187 : Arv Z h187 b137 k137 .byte (16 : Int32) (List.set (List.set (List.set [(.int (nar .byte J)), (.int (nar .byte J)), (.int (nar .byte J)), (.int (nar .byte J)), (.int (nar .byte J)), (.int (nar .byte J)), (.int (nar .byte J)), (.int (nar .byte J)), (.int (nar .byte J)), (.int (nar .byte J)), (.int (nar .byte J)), (.int (nar .byte J)), (.int (nar .byte J)), (.int (nar .byte J)), (.int (nar .byte J)), (.int (nar .byte J))] k (.int (nar .byte (g2_0 x0)))) (k + 1) (.int (nar .byte (g2_0 x1)))) (k + 2) (.int (nar .byte (g2_0 x2)))) (.int (0 : Int32)) := Arv.set Ar_187 q_187 S_187 M_187 H_187 U_187 (fits_nar_byte _) W187 (k + 2) (own_nn (own_add hKs (m := 2) rfl (by omega))) (by simp only [List.length_set, List.length_cons, List.length_nil]; omega)
    have VA_187 : Arv Z h187 b2 k2 .byte (8 : Int32) (own_l8 x0 x1 x2 x3 x4 x5 x6 x7) (.int (0 : Int32)) := VA_182.other W187 ne_b2_b137
    have Z187 : n0 ≤ h187.size := Nat.le_trans Z182 (Keep.of_wr W187).1
    have N187 := Fr.snoc X187 N186 g_b137
    have G187 : ∀ t, Steps p.tables e below (T187.setTop (mkF m 378 #[.val (.int p1), .val (.int p2), .val (.int p3), .val (.int p4), .val (.ref b2), .val (.int St), .val (.int Ln), .val (.int En), .val (.int H1), .val (.int (1 : Int32)), .val (.int Kk), .val (.int J), .val (.ref b137), .unset, .val (.long (u2.toInt64)), .second, .val (.long rr), .second] [])) t → Steps p.tables e below (s₁.setTop (entryFrame m #[(.int p1), (.int p2), (.int p3), (.int p4)] maxLocals)) t := fun t kt => G186 t (st187 t kt)
    obtain ⟨LH188, XH188, NH188⟩ : ∃ L', Stand p l e room_1 s m #[(.int p1), (.int p2), (.int p3), (.int p4)] below meth c T187 L' 2 24 ∧ Fr n0 L' := ⟨_, X187, N187⟩
    have G189 : ∀ t, Steps p.tables e below (T187.setTop (mkF m 387 #[.val (.int p1), .val (.int p2), .val (.int p3), .val (.int p4), .val (.ref b2), .val (.int St), .val (.int Ln), .val (.int En), .val (.int H1), .val (.int (1 : Int32)), .val (.int Kk), .val (.int J), .val (.ref b137), .unset, .val (.long (u2.toInt64)), .second, .val (.long rr), .second] [(.int (3 : Int32)), (.ref b2), (.int (Kk + (3 : Int32))), (.ref b137)])) t → Steps p.tables e below (s₁.setTop (entryFrame m #[(.int p1), (.int p2), (.int p3), (.int p4)] maxLocals)) t := by
      intro t kt
      refine G187 t ?_
      show Steps p.tables e below (T187.setTop (mkF m 378 #[.val (.int p1), .val (.int p2), .val (.int p3), .val (.int p4), .val (.ref b2), .val (.int St), .val (.int Ln), .val (.int En), .val (.int H1), .val (.int (1 : Int32)), .val (.int Kk), .val (.int J), .val (.ref b137), .unset, .val (.long (u2.toInt64)), .second, .val (.long rr), .second] [])) _
      refine XS.aload XH188.here hx rfl (hb hby at_378) rfl rfl ?_
      show Steps p.tables e below (T187.setTop (mkF m 380 #[.val (.int p1), .val (.int p2), .val (.int p3), .val (.int p4), .val (.ref b2), .val (.int St), .val (.int Ln), .val (.int En), .val (.int H1), .val (.int (1 : Int32)), .val (.int Kk), .val (.int J), .val (.ref b137), .unset, .val (.long (u2.toInt64)), .second, .val (.long rr), .second] [(.ref b137)])) _
      refine XS.iload XH188.here hx rfl (hb hby at_380) rfl ?_
      show Steps p.tables e below (T187.setTop (mkF m 382 #[.val (.int p1), .val (.int p2), .val (.int p3), .val (.int p4), .val (.ref b2), .val (.int St), .val (.int Ln), .val (.int En), .val (.int H1), .val (.int (1 : Int32)), .val (.int Kk), .val (.int J), .val (.ref b137), .unset, .val (.long (u2.toInt64)), .second, .val (.long rr), .second] [(.int Kk), (.ref b137)])) _
      refine XS.iconst XH188.here hx rfl (hb hby at_382) ?_
      show Steps p.tables e below (T187.setTop (mkF m 383 #[.val (.int p1), .val (.int p2), .val (.int p3), .val (.int p4), .val (.ref b2), .val (.int St), .val (.int Ln), .val (.int En), .val (.int H1), .val (.int (1 : Int32)), .val (.int Kk), .val (.int J), .val (.ref b137), .unset, .val (.long (u2.toInt64)), .second, .val (.long rr), .second] [(.int (3 : Int32)), (.int Kk), (.ref b137)])) _
      refine XS.iadd XH188.here hx rfl (hb hby at_383) rfl ?_
      show Steps p.tables e below (T187.setTop (mkF m 384 #[.val (.int p1), .val (.int p2), .val (.int p3), .val (.int p4), .val (.ref b2), .val (.int St), .val (.int Ln), .val (.int En), .val (.int H1), .val (.int (1 : Int32)), .val (.int Kk), .val (.int J), .val (.ref b137), .unset, .val (.long (u2.toInt64)), .second, .val (.long rr), .second] [(.int (Kk + (3 : Int32))), (.ref b137)])) _
      refine XS.aload XH188.here hx rfl (hb hby at_384) rfl rfl ?_
      show Steps p.tables e below (T187.setTop (mkF m 386 #[.val (.int p1), .val (.int p2), .val (.int p3), .val (.int p4), .val (.ref b2), .val (.int St), .val (.int Ln), .val (.int En), .val (.int H1), .val (.int (1 : Int32)), .val (.int Kk), .val (.int J), .val (.ref b137), .unset, .val (.long (u2.toInt64)), .second, .val (.long rr), .second] [(.ref b2), (.int (Kk + (3 : Int32))), (.ref b137)])) _
      refine XS.iconst XH188.here hx rfl (hb hby at_386) ?_
      show Steps p.tables e below (T187.setTop (mkF m 387 #[.val (.int p1), .val (.int p2), .val (.int p3), .val (.int p4), .val (.ref b2), .val (.int St), .val (.int Ln), .val (.int En), .val (.int H1), .val (.int (1 : Int32)), .val (.int Kk), .val (.int J), .val (.ref b137), .unset, .val (.long (u2.toInt64)), .second, .val (.long rr), .second] [(.int (3 : Int32)), (.ref b2), (.int (Kk + (3 : Int32))), (.ref b137)])) _
      exact kt
    obtain ⟨clA_c3, ArA_c3, qA_c3, SA_c3, MA_c3, HA_c3, UA_c3⟩ := id VA_187
    have hin_c3 := inb_of SA_c3 (own_bd8 (I := (3 : Int32)) (n := 3) rfl (by decide))
    have hat_c3 : clA_c3.slots[((3 : Int32)).toNatClampNeg]? = some (.int x3) := HA_c3.at hin_c3 rfl
    have G190 : ∀ t, Steps p.tables e below (T187.setTop (mkF m 388 #[.val (.int p1), .val (.int p2), .val (.int p3), .val (.int p4), .val (.ref b2), .val (.int St), .val (.int Ln), .val (.int En), .val (.int H1), .val (.int (1 : Int32)), .val (.int Kk), .val (.int J), .val (.ref b137), .unset, .val (.long (u2.toInt64)), .second, .val (.long rr), .second] [(.int x3), (.int (Kk + (3 : Int32))), (.ref b137)])) t → Steps p.tables e below (s₁.setTop (entryFrame m #[(.int p1), (.int p2), (.int p3), (.int p4)] maxLocals)) t := by
      intro t kt
      refine G189 t ?_
      show Steps p.tables e below (T187.setTop (mkF m 387 #[.val (.int p1), .val (.int p2), .val (.int p3), .val (.int p4), .val (.ref b2), .val (.int St), .val (.int Ln), .val (.int En), .val (.int H1), .val (.int (1 : Int32)), .val (.int Kk), .val (.int J), .val (.ref b137), .unset, .val (.long (u2.toInt64)), .second, .val (.long rr), .second] [(.int (3 : Int32)), (.ref b2), (.int (Kk + (3 : Int32))), (.ref b137)])) _
      refine XH188.baloadBytes hx (j := (3 : Int32)) (v := (.int x3)) (by rw [e187]; exact ArA_c3.1) (State.isArrayOf_alike hZ.alike ArA_c3.2.1) ArA_c3.2.2 hin_c3 hat_c3 (g := (mkF m 387 #[.val (.int p1), .val (.int p2), .val (.int p3), .val (.int p4), .val (.ref b2), .val (.int St), .val (.int Ln), .val (.int En), .val (.int H1), .val (.int (1 : Int32)), .val (.int Kk), .val (.int J), .val (.ref b137), .unset, .val (.long (u2.toInt64)), .second, .val (.long rr), .second] [(.int (3 : Int32)), (.ref b2), (.int (Kk + (3 : Int32))), (.ref b137)])) rfl rfl (hb hby at_387) _ ?_
      show Steps p.tables e below (T187.setTop (mkF m 388 #[.val (.int p1), .val (.int p2), .val (.int p3), .val (.int p4), .val (.ref b2), .val (.int St), .val (.int Ln), .val (.int En), .val (.int H1), .val (.int (1 : Int32)), .val (.int Kk), .val (.int J), .val (.ref b137), .unset, .val (.long (u2.toInt64)), .second, .val (.long rr), .second] [(.int x3), (.int (Kk + (3 : Int32))), (.ref b137)])) _
      exact kt
    obtain ⟨_, _, ⟨T191, L191, k191, n191⟩, -, X191, ⟨Lc191, hQ191, l191, y191, z191⟩, st191⟩ := Jvm.LawKit.callS XH188 hx (y := (⟨"com/example/evenkeel/evenkeel/http/HeaderNameHashPinLaw", "flip", "(B)B"⟩ : MethodName)) hown (mvT hZ (hw _ (List.mem_of_getElem? (i := 6) rfl))) (mvT hZ (hw _ (List.mem_of_getElem? (i := 7) rfl))) (mvT hZ (hw _ (List.mem_of_getElem? (i := 8) rfl))) (mvT hZ (hw _ (List.mem_of_getElem? (i := 9) rfl))) (by decide) (backOf (W := 2) (rm2 l Z a0 hw [] x3  h187 n0 Z187 ) hZ (hw _ (List.mem_of_getElem? (i := 9) rfl)) (hw _ (List.mem_of_getElem? (i := 8) rfl)) (by decide) (by decide)) (g := (mkF m 388 #[.val (.int p1), .val (.int p2), .val (.int p3), .val (.int p4), .val (.ref b2), .val (.int St), .val (.int Ln), .val (.int En), .val (.int H1), .val (.int (1 : Int32)), .val (.int Kk), .val (.int J), .val (.ref b137), .unset, .val (.long (u2.toInt64)), .second, .val (.long rr), .second] [(.int x3), (.int (Kk + (3 : Int32))), (.ref b137)])) rfl (by rw [hml]; rfl) (argsL := [(.int x3)]) (rest := [(.int (Kk + (3 : Int32))), (.ref b137)]) (lenOf pd_1 rfl) rfl (by show 2 * 0 + _ ≤ _; exact Nat.le_of_eq rfl) (hb hby at_388) (fun _ _ => ⟨rfl, e187, (by decide : 2 + 0 ≤ _), (by decide : 24 + 0 ≤ _)⟩)
    dsimp only [Pt.U, Pt.locs, Pt.cells, Pt.slots] at X191 l191 y191 z191 st191 hQ191
    subst l191 y191 z191
    obtain ⟨rfl, N191q, e191⟩ := hQ191
    have N191 := Fr.app NH188 N191q
    have G191 : ∀ t, Steps p.tables e below (T191.setTop (mkF m 391 #[.val (.int p1), .val (.int p2), .val (.int p3), .val (.int p4), .val (.ref b2), .val (.int St), .val (.int Ln), .val (.int En), .val (.int H1), .val (.int (1 : Int32)), .val (.int Kk), .val (.int J), .val (.ref b137), .unset, .val (.long (u2.toInt64)), .second, .val (.long rr), .second] [(.int (g2_0 x3)), (.int (Kk + (3 : Int32))), (.ref b137)])) t → Steps p.tables e below (s₁.setTop (entryFrame m #[(.int p1), (.int p2), (.int p3), (.int p4)] maxLocals)) t := fun t kt => G190 t (st191 t kt)
    obtain ⟨cl_192, Ar_192, q_192, S_192, M_192, H_192, U_192⟩ := id V_b137_187
    obtain ⟨T192, h192, X192, e192, W192, st192⟩ := stB X191 hx hZ e191 Ar_192 (j := (Kk + (3 : Int32))) (inb_of S_192 (own_bd16 (own_add hKs (m := 3) rfl (by omega)) (by omega))) (g := (mkF m 391 #[.val (.int p1), .val (.int p2), .val (.int p3), .val (.int p4), .val (.ref b2), .val (.int St), .val (.int Ln), .val (.int En), .val (.int H1), .val (.int (1 : Int32)), .val (.int Kk), .val (.int J), .val (.ref b137), .unset, .val (.long (u2.toInt64)), .second, .val (.long rr), .second] [(.int (g2_0 x3)), (.int (Kk + (3 : Int32))), (.ref b137)])) rfl rfl (hb hby at_391)
    have V_b137_192 : Arv Z h192 b137 k137 .byte (16 : Int32) (List.set (List.set (List.set (List.set [(.int (nar .byte J)), (.int (nar .byte J)), (.int (nar .byte J)), (.int (nar .byte J)), (.int (nar .byte J)), (.int (nar .byte J)), (.int (nar .byte J)), (.int (nar .byte J)), (.int (nar .byte J)), (.int (nar .byte J)), (.int (nar .byte J)), (.int (nar .byte J)), (.int (nar .byte J)), (.int (nar .byte J)), (.int (nar .byte J)), (.int (nar .byte J))] k (.int (nar .byte (g2_0 x0)))) (k + 1) (.int (nar .byte (g2_0 x1)))) (k + 2) (.int (nar .byte (g2_0 x2)))) (k + 3) (.int (nar .byte (g2_0 x3)))) (.int (0 : Int32)) := Arv.set Ar_192 q_192 S_192 M_192 H_192 U_192 (fits_nar_byte _) W192 (k + 3) (own_nn (own_add hKs (m := 3) rfl (by omega))) (by simp only [List.length_set, List.length_cons, List.length_nil]; omega)
    have VA_192 : Arv Z h192 b2 k2 .byte (8 : Int32) (own_l8 x0 x1 x2 x3 x4 x5 x6 x7) (.int (0 : Int32)) := VA_187.other W192 ne_b2_b137
    have Z192 : n0 ≤ h192.size := Nat.le_trans Z187 (Keep.of_wr W192).1
    have N192 := Fr.snoc X192 N191 g_b137
    have G192 : ∀ t, Steps p.tables e below (T192.setTop (mkF m 392 #[.val (.int p1), .val (.int p2), .val (.int p3), .val (.int p4), .val (.ref b2), .val (.int St), .val (.int Ln), .val (.int En), .val (.int H1), .val (.int (1 : Int32)), .val (.int Kk), .val (.int J), .val (.ref b137), .unset, .val (.long (u2.toInt64)), .second, .val (.long rr), .second] [])) t → Steps p.tables e below (s₁.setTop (entryFrame m #[(.int p1), (.int p2), (.int p3), (.int p4)] maxLocals)) t := fun t kt => G191 t (st192 t kt)
    obtain ⟨LH193, XH193, NH193⟩ : ∃ L', Stand p l e room_1 s m #[(.int p1), (.int p2), (.int p3), (.int p4)] below meth c T192 L' 2 24 ∧ Fr n0 L' := ⟨_, X192, N192⟩
    have G194 : ∀ t, Steps p.tables e below (T192.setTop (mkF m 401 #[.val (.int p1), .val (.int p2), .val (.int p3), .val (.int p4), .val (.ref b2), .val (.int St), .val (.int Ln), .val (.int En), .val (.int H1), .val (.int (1 : Int32)), .val (.int Kk), .val (.int J), .val (.ref b137), .unset, .val (.long (u2.toInt64)), .second, .val (.long rr), .second] [(.int (4 : Int32)), (.ref b2), (.int (Kk + (4 : Int32))), (.ref b137)])) t → Steps p.tables e below (s₁.setTop (entryFrame m #[(.int p1), (.int p2), (.int p3), (.int p4)] maxLocals)) t := by
      intro t kt
      refine G192 t ?_
      show Steps p.tables e below (T192.setTop (mkF m 392 #[.val (.int p1), .val (.int p2), .val (.int p3), .val (.int p4), .val (.ref b2), .val (.int St), .val (.int Ln), .val (.int En), .val (.int H1), .val (.int (1 : Int32)), .val (.int Kk), .val (.int J), .val (.ref b137), .unset, .val (.long (u2.toInt64)), .second, .val (.long rr), .second] [])) _
      refine XS.aload XH193.here hx rfl (hb hby at_392) rfl rfl ?_
      show Steps p.tables e below (T192.setTop (mkF m 394 #[.val (.int p1), .val (.int p2), .val (.int p3), .val (.int p4), .val (.ref b2), .val (.int St), .val (.int Ln), .val (.int En), .val (.int H1), .val (.int (1 : Int32)), .val (.int Kk), .val (.int J), .val (.ref b137), .unset, .val (.long (u2.toInt64)), .second, .val (.long rr), .second] [(.ref b137)])) _
      refine XS.iload XH193.here hx rfl (hb hby at_394) rfl ?_
      show Steps p.tables e below (T192.setTop (mkF m 396 #[.val (.int p1), .val (.int p2), .val (.int p3), .val (.int p4), .val (.ref b2), .val (.int St), .val (.int Ln), .val (.int En), .val (.int H1), .val (.int (1 : Int32)), .val (.int Kk), .val (.int J), .val (.ref b137), .unset, .val (.long (u2.toInt64)), .second, .val (.long rr), .second] [(.int Kk), (.ref b137)])) _
      refine XS.iconst XH193.here hx rfl (hb hby at_396) ?_
      show Steps p.tables e below (T192.setTop (mkF m 397 #[.val (.int p1), .val (.int p2), .val (.int p3), .val (.int p4), .val (.ref b2), .val (.int St), .val (.int Ln), .val (.int En), .val (.int H1), .val (.int (1 : Int32)), .val (.int Kk), .val (.int J), .val (.ref b137), .unset, .val (.long (u2.toInt64)), .second, .val (.long rr), .second] [(.int (4 : Int32)), (.int Kk), (.ref b137)])) _
      refine XS.iadd XH193.here hx rfl (hb hby at_397) rfl ?_
      show Steps p.tables e below (T192.setTop (mkF m 398 #[.val (.int p1), .val (.int p2), .val (.int p3), .val (.int p4), .val (.ref b2), .val (.int St), .val (.int Ln), .val (.int En), .val (.int H1), .val (.int (1 : Int32)), .val (.int Kk), .val (.int J), .val (.ref b137), .unset, .val (.long (u2.toInt64)), .second, .val (.long rr), .second] [(.int (Kk + (4 : Int32))), (.ref b137)])) _
      refine XS.aload XH193.here hx rfl (hb hby at_398) rfl rfl ?_
      show Steps p.tables e below (T192.setTop (mkF m 400 #[.val (.int p1), .val (.int p2), .val (.int p3), .val (.int p4), .val (.ref b2), .val (.int St), .val (.int Ln), .val (.int En), .val (.int H1), .val (.int (1 : Int32)), .val (.int Kk), .val (.int J), .val (.ref b137), .unset, .val (.long (u2.toInt64)), .second, .val (.long rr), .second] [(.ref b2), (.int (Kk + (4 : Int32))), (.ref b137)])) _
      refine XS.iconst XH193.here hx rfl (hb hby at_400) ?_
      show Steps p.tables e below (T192.setTop (mkF m 401 #[.val (.int p1), .val (.int p2), .val (.int p3), .val (.int p4), .val (.ref b2), .val (.int St), .val (.int Ln), .val (.int En), .val (.int H1), .val (.int (1 : Int32)), .val (.int Kk), .val (.int J), .val (.ref b137), .unset, .val (.long (u2.toInt64)), .second, .val (.long rr), .second] [(.int (4 : Int32)), (.ref b2), (.int (Kk + (4 : Int32))), (.ref b137)])) _
      exact kt
    obtain ⟨clA_c4, ArA_c4, qA_c4, SA_c4, MA_c4, HA_c4, UA_c4⟩ := id VA_192
    have hin_c4 := inb_of SA_c4 (own_bd8 (I := (4 : Int32)) (n := 4) rfl (by decide))
    have hat_c4 : clA_c4.slots[((4 : Int32)).toNatClampNeg]? = some (.int x4) := HA_c4.at hin_c4 rfl
    have G195 : ∀ t, Steps p.tables e below (T192.setTop (mkF m 402 #[.val (.int p1), .val (.int p2), .val (.int p3), .val (.int p4), .val (.ref b2), .val (.int St), .val (.int Ln), .val (.int En), .val (.int H1), .val (.int (1 : Int32)), .val (.int Kk), .val (.int J), .val (.ref b137), .unset, .val (.long (u2.toInt64)), .second, .val (.long rr), .second] [(.int x4), (.int (Kk + (4 : Int32))), (.ref b137)])) t → Steps p.tables e below (s₁.setTop (entryFrame m #[(.int p1), (.int p2), (.int p3), (.int p4)] maxLocals)) t := by
      intro t kt
      refine G194 t ?_
      show Steps p.tables e below (T192.setTop (mkF m 401 #[.val (.int p1), .val (.int p2), .val (.int p3), .val (.int p4), .val (.ref b2), .val (.int St), .val (.int Ln), .val (.int En), .val (.int H1), .val (.int (1 : Int32)), .val (.int Kk), .val (.int J), .val (.ref b137), .unset, .val (.long (u2.toInt64)), .second, .val (.long rr), .second] [(.int (4 : Int32)), (.ref b2), (.int (Kk + (4 : Int32))), (.ref b137)])) _
      refine XH193.baloadBytes hx (j := (4 : Int32)) (v := (.int x4)) (by rw [e192]; exact ArA_c4.1) (State.isArrayOf_alike hZ.alike ArA_c4.2.1) ArA_c4.2.2 hin_c4 hat_c4 (g := (mkF m 401 #[.val (.int p1), .val (.int p2), .val (.int p3), .val (.int p4), .val (.ref b2), .val (.int St), .val (.int Ln), .val (.int En), .val (.int H1), .val (.int (1 : Int32)), .val (.int Kk), .val (.int J), .val (.ref b137), .unset, .val (.long (u2.toInt64)), .second, .val (.long rr), .second] [(.int (4 : Int32)), (.ref b2), (.int (Kk + (4 : Int32))), (.ref b137)])) rfl rfl (hb hby at_401) _ ?_
      show Steps p.tables e below (T192.setTop (mkF m 402 #[.val (.int p1), .val (.int p2), .val (.int p3), .val (.int p4), .val (.ref b2), .val (.int St), .val (.int Ln), .val (.int En), .val (.int H1), .val (.int (1 : Int32)), .val (.int Kk), .val (.int J), .val (.ref b137), .unset, .val (.long (u2.toInt64)), .second, .val (.long rr), .second] [(.int x4), (.int (Kk + (4 : Int32))), (.ref b137)])) _
      exact kt
    obtain ⟨_, _, ⟨T196, L196, k196, n196⟩, -, X196, ⟨Lc196, hQ196, l196, y196, z196⟩, st196⟩ := Jvm.LawKit.callS XH193 hx (y := (⟨"com/example/evenkeel/evenkeel/http/HeaderNameHashPinLaw", "flip", "(B)B"⟩ : MethodName)) hown (mvT hZ (hw _ (List.mem_of_getElem? (i := 6) rfl))) (mvT hZ (hw _ (List.mem_of_getElem? (i := 7) rfl))) (mvT hZ (hw _ (List.mem_of_getElem? (i := 8) rfl))) (mvT hZ (hw _ (List.mem_of_getElem? (i := 9) rfl))) (by decide) (backOf (W := 2) (rm2 l Z a0 hw [] x4  h192 n0 Z192 ) hZ (hw _ (List.mem_of_getElem? (i := 9) rfl)) (hw _ (List.mem_of_getElem? (i := 8) rfl)) (by decide) (by decide)) (g := (mkF m 402 #[.val (.int p1), .val (.int p2), .val (.int p3), .val (.int p4), .val (.ref b2), .val (.int St), .val (.int Ln), .val (.int En), .val (.int H1), .val (.int (1 : Int32)), .val (.int Kk), .val (.int J), .val (.ref b137), .unset, .val (.long (u2.toInt64)), .second, .val (.long rr), .second] [(.int x4), (.int (Kk + (4 : Int32))), (.ref b137)])) rfl (by rw [hml]; rfl) (argsL := [(.int x4)]) (rest := [(.int (Kk + (4 : Int32))), (.ref b137)]) (lenOf pd_1 rfl) rfl (by show 2 * 0 + _ ≤ _; exact Nat.le_of_eq rfl) (hb hby at_402) (fun _ _ => ⟨rfl, e192, (by decide : 2 + 0 ≤ _), (by decide : 24 + 0 ≤ _)⟩)
    dsimp only [Pt.U, Pt.locs, Pt.cells, Pt.slots] at X196 l196 y196 z196 st196 hQ196
    subst l196 y196 z196
    obtain ⟨rfl, N196q, e196⟩ := hQ196
    have N196 := Fr.app NH193 N196q
    have G196 : ∀ t, Steps p.tables e below (T196.setTop (mkF m 405 #[.val (.int p1), .val (.int p2), .val (.int p3), .val (.int p4), .val (.ref b2), .val (.int St), .val (.int Ln), .val (.int En), .val (.int H1), .val (.int (1 : Int32)), .val (.int Kk), .val (.int J), .val (.ref b137), .unset, .val (.long (u2.toInt64)), .second, .val (.long rr), .second] [(.int (g2_0 x4)), (.int (Kk + (4 : Int32))), (.ref b137)])) t → Steps p.tables e below (s₁.setTop (entryFrame m #[(.int p1), (.int p2), (.int p3), (.int p4)] maxLocals)) t := fun t kt => G195 t (st196 t kt)
    obtain ⟨cl_197, Ar_197, q_197, S_197, M_197, H_197, U_197⟩ := id V_b137_192
    obtain ⟨T197, h197, X197, e197, W197, st197⟩ := stB X196 hx hZ e196 Ar_197 (j := (Kk + (4 : Int32))) (inb_of S_197 (own_bd16 (own_add hKs (m := 4) rfl (by omega)) (by omega))) (g := (mkF m 405 #[.val (.int p1), .val (.int p2), .val (.int p3), .val (.int p4), .val (.ref b2), .val (.int St), .val (.int Ln), .val (.int En), .val (.int H1), .val (.int (1 : Int32)), .val (.int Kk), .val (.int J), .val (.ref b137), .unset, .val (.long (u2.toInt64)), .second, .val (.long rr), .second] [(.int (g2_0 x4)), (.int (Kk + (4 : Int32))), (.ref b137)])) rfl rfl (hb hby at_405)
    have V_b137_197 : Arv Z h197 b137 k137 .byte (16 : Int32) (List.set (List.set (List.set (List.set (List.set [(.int (nar .byte J)), (.int (nar .byte J)), (.int (nar .byte J)), (.int (nar .byte J)), (.int (nar .byte J)), (.int (nar .byte J)), (.int (nar .byte J)), (.int (nar .byte J)), (.int (nar .byte J)), (.int (nar .byte J)), (.int (nar .byte J)), (.int (nar .byte J)), (.int (nar .byte J)), (.int (nar .byte J)), (.int (nar .byte J)), (.int (nar .byte J))] k (.int (nar .byte (g2_0 x0)))) (k + 1) (.int (nar .byte (g2_0 x1)))) (k + 2) (.int (nar .byte (g2_0 x2)))) (k + 3) (.int (nar .byte (g2_0 x3)))) (k + 4) (.int (nar .byte (g2_0 x4)))) (.int (0 : Int32)) := Arv.set Ar_197 q_197 S_197 M_197 H_197 U_197 (fits_nar_byte _) W197 (k + 4) (own_nn (own_add hKs (m := 4) rfl (by omega))) (by simp only [List.length_set, List.length_cons, List.length_nil]; omega)
    have VA_197 : Arv Z h197 b2 k2 .byte (8 : Int32) (own_l8 x0 x1 x2 x3 x4 x5 x6 x7) (.int (0 : Int32)) := VA_192.other W197 ne_b2_b137
    have Z197 : n0 ≤ h197.size := Nat.le_trans Z192 (Keep.of_wr W197).1
    have N197 := Fr.snoc X197 N196 g_b137
    have G197 : ∀ t, Steps p.tables e below (T197.setTop (mkF m 406 #[.val (.int p1), .val (.int p2), .val (.int p3), .val (.int p4), .val (.ref b2), .val (.int St), .val (.int Ln), .val (.int En), .val (.int H1), .val (.int (1 : Int32)), .val (.int Kk), .val (.int J), .val (.ref b137), .unset, .val (.long (u2.toInt64)), .second, .val (.long rr), .second] [])) t → Steps p.tables e below (s₁.setTop (entryFrame m #[(.int p1), (.int p2), (.int p3), (.int p4)] maxLocals)) t := fun t kt => G196 t (st197 t kt)
    obtain ⟨LH198, XH198, NH198⟩ : ∃ L', Stand p l e room_1 s m #[(.int p1), (.int p2), (.int p3), (.int p4)] below meth c T197 L' 2 24 ∧ Fr n0 L' := ⟨_, X197, N197⟩
    have G199 : ∀ t, Steps p.tables e below (T197.setTop (mkF m 415 #[.val (.int p1), .val (.int p2), .val (.int p3), .val (.int p4), .val (.ref b2), .val (.int St), .val (.int Ln), .val (.int En), .val (.int H1), .val (.int (1 : Int32)), .val (.int Kk), .val (.int J), .val (.ref b137), .unset, .val (.long (u2.toInt64)), .second, .val (.long rr), .second] [(.int (5 : Int32)), (.ref b2), (.int (Kk + (5 : Int32))), (.ref b137)])) t → Steps p.tables e below (s₁.setTop (entryFrame m #[(.int p1), (.int p2), (.int p3), (.int p4)] maxLocals)) t := by
      intro t kt
      refine G197 t ?_
      show Steps p.tables e below (T197.setTop (mkF m 406 #[.val (.int p1), .val (.int p2), .val (.int p3), .val (.int p4), .val (.ref b2), .val (.int St), .val (.int Ln), .val (.int En), .val (.int H1), .val (.int (1 : Int32)), .val (.int Kk), .val (.int J), .val (.ref b137), .unset, .val (.long (u2.toInt64)), .second, .val (.long rr), .second] [])) _
      refine XS.aload XH198.here hx rfl (hb hby at_406) rfl rfl ?_
      show Steps p.tables e below (T197.setTop (mkF m 408 #[.val (.int p1), .val (.int p2), .val (.int p3), .val (.int p4), .val (.ref b2), .val (.int St), .val (.int Ln), .val (.int En), .val (.int H1), .val (.int (1 : Int32)), .val (.int Kk), .val (.int J), .val (.ref b137), .unset, .val (.long (u2.toInt64)), .second, .val (.long rr), .second] [(.ref b137)])) _
      refine XS.iload XH198.here hx rfl (hb hby at_408) rfl ?_
      show Steps p.tables e below (T197.setTop (mkF m 410 #[.val (.int p1), .val (.int p2), .val (.int p3), .val (.int p4), .val (.ref b2), .val (.int St), .val (.int Ln), .val (.int En), .val (.int H1), .val (.int (1 : Int32)), .val (.int Kk), .val (.int J), .val (.ref b137), .unset, .val (.long (u2.toInt64)), .second, .val (.long rr), .second] [(.int Kk), (.ref b137)])) _
      refine XS.iconst XH198.here hx rfl (hb hby at_410) ?_
      show Steps p.tables e below (T197.setTop (mkF m 411 #[.val (.int p1), .val (.int p2), .val (.int p3), .val (.int p4), .val (.ref b2), .val (.int St), .val (.int Ln), .val (.int En), .val (.int H1), .val (.int (1 : Int32)), .val (.int Kk), .val (.int J), .val (.ref b137), .unset, .val (.long (u2.toInt64)), .second, .val (.long rr), .second] [(.int (5 : Int32)), (.int Kk), (.ref b137)])) _
      refine XS.iadd XH198.here hx rfl (hb hby at_411) rfl ?_
      show Steps p.tables e below (T197.setTop (mkF m 412 #[.val (.int p1), .val (.int p2), .val (.int p3), .val (.int p4), .val (.ref b2), .val (.int St), .val (.int Ln), .val (.int En), .val (.int H1), .val (.int (1 : Int32)), .val (.int Kk), .val (.int J), .val (.ref b137), .unset, .val (.long (u2.toInt64)), .second, .val (.long rr), .second] [(.int (Kk + (5 : Int32))), (.ref b137)])) _
      refine XS.aload XH198.here hx rfl (hb hby at_412) rfl rfl ?_
      show Steps p.tables e below (T197.setTop (mkF m 414 #[.val (.int p1), .val (.int p2), .val (.int p3), .val (.int p4), .val (.ref b2), .val (.int St), .val (.int Ln), .val (.int En), .val (.int H1), .val (.int (1 : Int32)), .val (.int Kk), .val (.int J), .val (.ref b137), .unset, .val (.long (u2.toInt64)), .second, .val (.long rr), .second] [(.ref b2), (.int (Kk + (5 : Int32))), (.ref b137)])) _
      refine XS.iconst XH198.here hx rfl (hb hby at_414) ?_
      show Steps p.tables e below (T197.setTop (mkF m 415 #[.val (.int p1), .val (.int p2), .val (.int p3), .val (.int p4), .val (.ref b2), .val (.int St), .val (.int Ln), .val (.int En), .val (.int H1), .val (.int (1 : Int32)), .val (.int Kk), .val (.int J), .val (.ref b137), .unset, .val (.long (u2.toInt64)), .second, .val (.long rr), .second] [(.int (5 : Int32)), (.ref b2), (.int (Kk + (5 : Int32))), (.ref b137)])) _
      exact kt
    obtain ⟨clA_c5, ArA_c5, qA_c5, SA_c5, MA_c5, HA_c5, UA_c5⟩ := id VA_197
    have hin_c5 := inb_of SA_c5 (own_bd8 (I := (5 : Int32)) (n := 5) rfl (by decide))
    have hat_c5 : clA_c5.slots[((5 : Int32)).toNatClampNeg]? = some (.int x5) := HA_c5.at hin_c5 rfl
    have G200 : ∀ t, Steps p.tables e below (T197.setTop (mkF m 416 #[.val (.int p1), .val (.int p2), .val (.int p3), .val (.int p4), .val (.ref b2), .val (.int St), .val (.int Ln), .val (.int En), .val (.int H1), .val (.int (1 : Int32)), .val (.int Kk), .val (.int J), .val (.ref b137), .unset, .val (.long (u2.toInt64)), .second, .val (.long rr), .second] [(.int x5), (.int (Kk + (5 : Int32))), (.ref b137)])) t → Steps p.tables e below (s₁.setTop (entryFrame m #[(.int p1), (.int p2), (.int p3), (.int p4)] maxLocals)) t := by
      intro t kt
      refine G199 t ?_
      show Steps p.tables e below (T197.setTop (mkF m 415 #[.val (.int p1), .val (.int p2), .val (.int p3), .val (.int p4), .val (.ref b2), .val (.int St), .val (.int Ln), .val (.int En), .val (.int H1), .val (.int (1 : Int32)), .val (.int Kk), .val (.int J), .val (.ref b137), .unset, .val (.long (u2.toInt64)), .second, .val (.long rr), .second] [(.int (5 : Int32)), (.ref b2), (.int (Kk + (5 : Int32))), (.ref b137)])) _
      refine XH198.baloadBytes hx (j := (5 : Int32)) (v := (.int x5)) (by rw [e197]; exact ArA_c5.1) (State.isArrayOf_alike hZ.alike ArA_c5.2.1) ArA_c5.2.2 hin_c5 hat_c5 (g := (mkF m 415 #[.val (.int p1), .val (.int p2), .val (.int p3), .val (.int p4), .val (.ref b2), .val (.int St), .val (.int Ln), .val (.int En), .val (.int H1), .val (.int (1 : Int32)), .val (.int Kk), .val (.int J), .val (.ref b137), .unset, .val (.long (u2.toInt64)), .second, .val (.long rr), .second] [(.int (5 : Int32)), (.ref b2), (.int (Kk + (5 : Int32))), (.ref b137)])) rfl rfl (hb hby at_415) _ ?_
      show Steps p.tables e below (T197.setTop (mkF m 416 #[.val (.int p1), .val (.int p2), .val (.int p3), .val (.int p4), .val (.ref b2), .val (.int St), .val (.int Ln), .val (.int En), .val (.int H1), .val (.int (1 : Int32)), .val (.int Kk), .val (.int J), .val (.ref b137), .unset, .val (.long (u2.toInt64)), .second, .val (.long rr), .second] [(.int x5), (.int (Kk + (5 : Int32))), (.ref b137)])) _
      exact kt
    obtain ⟨_, _, ⟨T201, L201, k201, n201⟩, -, X201, ⟨Lc201, hQ201, l201, y201, z201⟩, st201⟩ := Jvm.LawKit.callS XH198 hx (y := (⟨"com/example/evenkeel/evenkeel/http/HeaderNameHashPinLaw", "flip", "(B)B"⟩ : MethodName)) hown (mvT hZ (hw _ (List.mem_of_getElem? (i := 6) rfl))) (mvT hZ (hw _ (List.mem_of_getElem? (i := 7) rfl))) (mvT hZ (hw _ (List.mem_of_getElem? (i := 8) rfl))) (mvT hZ (hw _ (List.mem_of_getElem? (i := 9) rfl))) (by decide) (backOf (W := 2) (rm2 l Z a0 hw [] x5  h197 n0 Z197 ) hZ (hw _ (List.mem_of_getElem? (i := 9) rfl)) (hw _ (List.mem_of_getElem? (i := 8) rfl)) (by decide) (by decide)) (g := (mkF m 416 #[.val (.int p1), .val (.int p2), .val (.int p3), .val (.int p4), .val (.ref b2), .val (.int St), .val (.int Ln), .val (.int En), .val (.int H1), .val (.int (1 : Int32)), .val (.int Kk), .val (.int J), .val (.ref b137), .unset, .val (.long (u2.toInt64)), .second, .val (.long rr), .second] [(.int x5), (.int (Kk + (5 : Int32))), (.ref b137)])) rfl (by rw [hml]; rfl) (argsL := [(.int x5)]) (rest := [(.int (Kk + (5 : Int32))), (.ref b137)]) (lenOf pd_1 rfl) rfl (by show 2 * 0 + _ ≤ _; exact Nat.le_of_eq rfl) (hb hby at_416) (fun _ _ => ⟨rfl, e197, (by decide : 2 + 0 ≤ _), (by decide : 24 + 0 ≤ _)⟩)
    dsimp only [Pt.U, Pt.locs, Pt.cells, Pt.slots] at X201 l201 y201 z201 st201 hQ201
    subst l201 y201 z201
    obtain ⟨rfl, N201q, e201⟩ := hQ201
    have N201 := Fr.app NH198 N201q
    have G201 : ∀ t, Steps p.tables e below (T201.setTop (mkF m 419 #[.val (.int p1), .val (.int p2), .val (.int p3), .val (.int p4), .val (.ref b2), .val (.int St), .val (.int Ln), .val (.int En), .val (.int H1), .val (.int (1 : Int32)), .val (.int Kk), .val (.int J), .val (.ref b137), .unset, .val (.long (u2.toInt64)), .second, .val (.long rr), .second] [(.int (g2_0 x5)), (.int (Kk + (5 : Int32))), (.ref b137)])) t → Steps p.tables e below (s₁.setTop (entryFrame m #[(.int p1), (.int p2), (.int p3), (.int p4)] maxLocals)) t := fun t kt => G200 t (st201 t kt)
    obtain ⟨cl_202, Ar_202, q_202, S_202, M_202, H_202, U_202⟩ := id V_b137_197
    obtain ⟨T202, h202, X202, e202, W202, st202⟩ := stB X201 hx hZ e201 Ar_202 (j := (Kk + (5 : Int32))) (inb_of S_202 (own_bd16 (own_add hKs (m := 5) rfl (by omega)) (by omega))) (g := (mkF m 419 #[.val (.int p1), .val (.int p2), .val (.int p3), .val (.int p4), .val (.ref b2), .val (.int St), .val (.int Ln), .val (.int En), .val (.int H1), .val (.int (1 : Int32)), .val (.int Kk), .val (.int J), .val (.ref b137), .unset, .val (.long (u2.toInt64)), .second, .val (.long rr), .second] [(.int (g2_0 x5)), (.int (Kk + (5 : Int32))), (.ref b137)])) rfl rfl (hb hby at_419)
    have V_b137_202 : Arv Z h202 b137 k137 .byte (16 : Int32) (List.set (List.set (List.set (List.set (List.set (List.set [(.int (nar .byte J)), (.int (nar .byte J)), (.int (nar .byte J)), (.int (nar .byte J)), (.int (nar .byte J)), (.int (nar .byte J)), (.int (nar .byte J)), (.int (nar .byte J)), (.int (nar .byte J)), (.int (nar .byte J)), (.int (nar .byte J)), (.int (nar .byte J)), (.int (nar .byte J)), (.int (nar .byte J)), (.int (nar .byte J)), (.int (nar .byte J))] k (.int (nar .byte (g2_0 x0)))) (k + 1) (.int (nar .byte (g2_0 x1)))) (k + 2) (.int (nar .byte (g2_0 x2)))) (k + 3) (.int (nar .byte (g2_0 x3)))) (k + 4) (.int (nar .byte (g2_0 x4)))) (k + 5) (.int (nar .byte (g2_0 x5)))) (.int (0 : Int32)) := Arv.set Ar_202 q_202 S_202 M_202 H_202 U_202 (fits_nar_byte _) W202 (k + 5) (own_nn (own_add hKs (m := 5) rfl (by omega))) (by simp only [List.length_set, List.length_cons, List.length_nil]; omega)
    have VA_202 : Arv Z h202 b2 k2 .byte (8 : Int32) (own_l8 x0 x1 x2 x3 x4 x5 x6 x7) (.int (0 : Int32)) := VA_197.other W202 ne_b2_b137
    have Z202 : n0 ≤ h202.size := Nat.le_trans Z197 (Keep.of_wr W202).1
    have N202 := Fr.snoc X202 N201 g_b137
    have G202 : ∀ t, Steps p.tables e below (T202.setTop (mkF m 420 #[.val (.int p1), .val (.int p2), .val (.int p3), .val (.int p4), .val (.ref b2), .val (.int St), .val (.int Ln), .val (.int En), .val (.int H1), .val (.int (1 : Int32)), .val (.int Kk), .val (.int J), .val (.ref b137), .unset, .val (.long (u2.toInt64)), .second, .val (.long rr), .second] [])) t → Steps p.tables e below (s₁.setTop (entryFrame m #[(.int p1), (.int p2), (.int p3), (.int p4)] maxLocals)) t := fun t kt => G201 t (st202 t kt)
    obtain ⟨LH203, XH203, NH203⟩ : ∃ L', Stand p l e room_1 s m #[(.int p1), (.int p2), (.int p3), (.int p4)] below meth c T202 L' 2 24 ∧ Fr n0 L' := ⟨_, X202, N202⟩
    have G204 : ∀ t, Steps p.tables e below (T202.setTop (mkF m 431 #[.val (.int p1), .val (.int p2), .val (.int p3), .val (.int p4), .val (.ref b2), .val (.int St), .val (.int Ln), .val (.int En), .val (.int H1), .val (.int (1 : Int32)), .val (.int Kk), .val (.int J), .val (.ref b137), .unset, .val (.long (u2.toInt64)), .second, .val (.long rr), .second] [(.int (6 : Int32)), (.ref b2), (.int (Kk + (6 : Int32))), (.ref b137)])) t → Steps p.tables e below (s₁.setTop (entryFrame m #[(.int p1), (.int p2), (.int p3), (.int p4)] maxLocals)) t := by
      intro t kt
      refine G202 t ?_
      show Steps p.tables e below (T202.setTop (mkF m 420 #[.val (.int p1), .val (.int p2), .val (.int p3), .val (.int p4), .val (.ref b2), .val (.int St), .val (.int Ln), .val (.int En), .val (.int H1), .val (.int (1 : Int32)), .val (.int Kk), .val (.int J), .val (.ref b137), .unset, .val (.long (u2.toInt64)), .second, .val (.long rr), .second] [])) _
      refine XS.aload XH203.here hx rfl (hb hby at_420) rfl rfl ?_
      show Steps p.tables e below (T202.setTop (mkF m 422 #[.val (.int p1), .val (.int p2), .val (.int p3), .val (.int p4), .val (.ref b2), .val (.int St), .val (.int Ln), .val (.int En), .val (.int H1), .val (.int (1 : Int32)), .val (.int Kk), .val (.int J), .val (.ref b137), .unset, .val (.long (u2.toInt64)), .second, .val (.long rr), .second] [(.ref b137)])) _
      refine XS.iload XH203.here hx rfl (hb hby at_422) rfl ?_
      show Steps p.tables e below (T202.setTop (mkF m 424 #[.val (.int p1), .val (.int p2), .val (.int p3), .val (.int p4), .val (.ref b2), .val (.int St), .val (.int Ln), .val (.int En), .val (.int H1), .val (.int (1 : Int32)), .val (.int Kk), .val (.int J), .val (.ref b137), .unset, .val (.long (u2.toInt64)), .second, .val (.long rr), .second] [(.int Kk), (.ref b137)])) _
      refine XS.bipush XH203.here hx rfl (hb hby at_424) ?_
      show Steps p.tables e below (T202.setTop (mkF m 426 #[.val (.int p1), .val (.int p2), .val (.int p3), .val (.int p4), .val (.ref b2), .val (.int St), .val (.int Ln), .val (.int En), .val (.int H1), .val (.int (1 : Int32)), .val (.int Kk), .val (.int J), .val (.ref b137), .unset, .val (.long (u2.toInt64)), .second, .val (.long rr), .second] [(.int (6 : Int32)), (.int Kk), (.ref b137)])) _
      refine XS.iadd XH203.here hx rfl (hb hby at_426) rfl ?_
      show Steps p.tables e below (T202.setTop (mkF m 427 #[.val (.int p1), .val (.int p2), .val (.int p3), .val (.int p4), .val (.ref b2), .val (.int St), .val (.int Ln), .val (.int En), .val (.int H1), .val (.int (1 : Int32)), .val (.int Kk), .val (.int J), .val (.ref b137), .unset, .val (.long (u2.toInt64)), .second, .val (.long rr), .second] [(.int (Kk + (6 : Int32))), (.ref b137)])) _
      refine XS.aload XH203.here hx rfl (hb hby at_427) rfl rfl ?_
      show Steps p.tables e below (T202.setTop (mkF m 429 #[.val (.int p1), .val (.int p2), .val (.int p3), .val (.int p4), .val (.ref b2), .val (.int St), .val (.int Ln), .val (.int En), .val (.int H1), .val (.int (1 : Int32)), .val (.int Kk), .val (.int J), .val (.ref b137), .unset, .val (.long (u2.toInt64)), .second, .val (.long rr), .second] [(.ref b2), (.int (Kk + (6 : Int32))), (.ref b137)])) _
      refine XS.bipush XH203.here hx rfl (hb hby at_429) ?_
      show Steps p.tables e below (T202.setTop (mkF m 431 #[.val (.int p1), .val (.int p2), .val (.int p3), .val (.int p4), .val (.ref b2), .val (.int St), .val (.int Ln), .val (.int En), .val (.int H1), .val (.int (1 : Int32)), .val (.int Kk), .val (.int J), .val (.ref b137), .unset, .val (.long (u2.toInt64)), .second, .val (.long rr), .second] [(.int (6 : Int32)), (.ref b2), (.int (Kk + (6 : Int32))), (.ref b137)])) _
      exact kt
    obtain ⟨clA_c6, ArA_c6, qA_c6, SA_c6, MA_c6, HA_c6, UA_c6⟩ := id VA_202
    have hin_c6 := inb_of SA_c6 (own_bd8 (I := (6 : Int32)) (n := 6) rfl (by decide))
    have hat_c6 : clA_c6.slots[((6 : Int32)).toNatClampNeg]? = some (.int x6) := HA_c6.at hin_c6 rfl
    have G205 : ∀ t, Steps p.tables e below (T202.setTop (mkF m 432 #[.val (.int p1), .val (.int p2), .val (.int p3), .val (.int p4), .val (.ref b2), .val (.int St), .val (.int Ln), .val (.int En), .val (.int H1), .val (.int (1 : Int32)), .val (.int Kk), .val (.int J), .val (.ref b137), .unset, .val (.long (u2.toInt64)), .second, .val (.long rr), .second] [(.int x6), (.int (Kk + (6 : Int32))), (.ref b137)])) t → Steps p.tables e below (s₁.setTop (entryFrame m #[(.int p1), (.int p2), (.int p3), (.int p4)] maxLocals)) t := by
      intro t kt
      refine G204 t ?_
      show Steps p.tables e below (T202.setTop (mkF m 431 #[.val (.int p1), .val (.int p2), .val (.int p3), .val (.int p4), .val (.ref b2), .val (.int St), .val (.int Ln), .val (.int En), .val (.int H1), .val (.int (1 : Int32)), .val (.int Kk), .val (.int J), .val (.ref b137), .unset, .val (.long (u2.toInt64)), .second, .val (.long rr), .second] [(.int (6 : Int32)), (.ref b2), (.int (Kk + (6 : Int32))), (.ref b137)])) _
      refine XH203.baloadBytes hx (j := (6 : Int32)) (v := (.int x6)) (by rw [e202]; exact ArA_c6.1) (State.isArrayOf_alike hZ.alike ArA_c6.2.1) ArA_c6.2.2 hin_c6 hat_c6 (g := (mkF m 431 #[.val (.int p1), .val (.int p2), .val (.int p3), .val (.int p4), .val (.ref b2), .val (.int St), .val (.int Ln), .val (.int En), .val (.int H1), .val (.int (1 : Int32)), .val (.int Kk), .val (.int J), .val (.ref b137), .unset, .val (.long (u2.toInt64)), .second, .val (.long rr), .second] [(.int (6 : Int32)), (.ref b2), (.int (Kk + (6 : Int32))), (.ref b137)])) rfl rfl (hb hby at_431) _ ?_
      show Steps p.tables e below (T202.setTop (mkF m 432 #[.val (.int p1), .val (.int p2), .val (.int p3), .val (.int p4), .val (.ref b2), .val (.int St), .val (.int Ln), .val (.int En), .val (.int H1), .val (.int (1 : Int32)), .val (.int Kk), .val (.int J), .val (.ref b137), .unset, .val (.long (u2.toInt64)), .second, .val (.long rr), .second] [(.int x6), (.int (Kk + (6 : Int32))), (.ref b137)])) _
      exact kt
    obtain ⟨_, _, ⟨T206, L206, k206, n206⟩, -, X206, ⟨Lc206, hQ206, l206, y206, z206⟩, st206⟩ := Jvm.LawKit.callS XH203 hx (y := (⟨"com/example/evenkeel/evenkeel/http/HeaderNameHashPinLaw", "flip", "(B)B"⟩ : MethodName)) hown (mvT hZ (hw _ (List.mem_of_getElem? (i := 6) rfl))) (mvT hZ (hw _ (List.mem_of_getElem? (i := 7) rfl))) (mvT hZ (hw _ (List.mem_of_getElem? (i := 8) rfl))) (mvT hZ (hw _ (List.mem_of_getElem? (i := 9) rfl))) (by decide) (backOf (W := 2) (rm2 l Z a0 hw [] x6  h202 n0 Z202 ) hZ (hw _ (List.mem_of_getElem? (i := 9) rfl)) (hw _ (List.mem_of_getElem? (i := 8) rfl)) (by decide) (by decide)) (g := (mkF m 432 #[.val (.int p1), .val (.int p2), .val (.int p3), .val (.int p4), .val (.ref b2), .val (.int St), .val (.int Ln), .val (.int En), .val (.int H1), .val (.int (1 : Int32)), .val (.int Kk), .val (.int J), .val (.ref b137), .unset, .val (.long (u2.toInt64)), .second, .val (.long rr), .second] [(.int x6), (.int (Kk + (6 : Int32))), (.ref b137)])) rfl (by rw [hml]; rfl) (argsL := [(.int x6)]) (rest := [(.int (Kk + (6 : Int32))), (.ref b137)]) (lenOf pd_1 rfl) rfl (by show 2 * 0 + _ ≤ _; exact Nat.le_of_eq rfl) (hb hby at_432) (fun _ _ => ⟨rfl, e202, (by decide : 2 + 0 ≤ _), (by decide : 24 + 0 ≤ _)⟩)
    dsimp only [Pt.U, Pt.locs, Pt.cells, Pt.slots] at X206 l206 y206 z206 st206 hQ206
    subst l206 y206 z206
    obtain ⟨rfl, N206q, e206⟩ := hQ206
    have N206 := Fr.app NH203 N206q
    have G206 : ∀ t, Steps p.tables e below (T206.setTop (mkF m 435 #[.val (.int p1), .val (.int p2), .val (.int p3), .val (.int p4), .val (.ref b2), .val (.int St), .val (.int Ln), .val (.int En), .val (.int H1), .val (.int (1 : Int32)), .val (.int Kk), .val (.int J), .val (.ref b137), .unset, .val (.long (u2.toInt64)), .second, .val (.long rr), .second] [(.int (g2_0 x6)), (.int (Kk + (6 : Int32))), (.ref b137)])) t → Steps p.tables e below (s₁.setTop (entryFrame m #[(.int p1), (.int p2), (.int p3), (.int p4)] maxLocals)) t := fun t kt => G205 t (st206 t kt)
    obtain ⟨cl_207, Ar_207, q_207, S_207, M_207, H_207, U_207⟩ := id V_b137_202
    obtain ⟨T207, h207, X207, e207, W207, st207⟩ := stB X206 hx hZ e206 Ar_207 (j := (Kk + (6 : Int32))) (inb_of S_207 (own_bd16 (own_add hKs (m := 6) rfl (by omega)) (by omega))) (g := (mkF m 435 #[.val (.int p1), .val (.int p2), .val (.int p3), .val (.int p4), .val (.ref b2), .val (.int St), .val (.int Ln), .val (.int En), .val (.int H1), .val (.int (1 : Int32)), .val (.int Kk), .val (.int J), .val (.ref b137), .unset, .val (.long (u2.toInt64)), .second, .val (.long rr), .second] [(.int (g2_0 x6)), (.int (Kk + (6 : Int32))), (.ref b137)])) rfl rfl (hb hby at_435)
    have V_b137_207 : Arv Z h207 b137 k137 .byte (16 : Int32) (List.set (List.set (List.set (List.set (List.set (List.set (List.set [(.int (nar .byte J)), (.int (nar .byte J)), (.int (nar .byte J)), (.int (nar .byte J)), (.int (nar .byte J)), (.int (nar .byte J)), (.int (nar .byte J)), (.int (nar .byte J)), (.int (nar .byte J)), (.int (nar .byte J)), (.int (nar .byte J)), (.int (nar .byte J)), (.int (nar .byte J)), (.int (nar .byte J)), (.int (nar .byte J)), (.int (nar .byte J))] k (.int (nar .byte (g2_0 x0)))) (k + 1) (.int (nar .byte (g2_0 x1)))) (k + 2) (.int (nar .byte (g2_0 x2)))) (k + 3) (.int (nar .byte (g2_0 x3)))) (k + 4) (.int (nar .byte (g2_0 x4)))) (k + 5) (.int (nar .byte (g2_0 x5)))) (k + 6) (.int (nar .byte (g2_0 x6)))) (.int (0 : Int32)) := Arv.set Ar_207 q_207 S_207 M_207 H_207 U_207 (fits_nar_byte _) W207 (k + 6) (own_nn (own_add hKs (m := 6) rfl (by omega))) (by simp only [List.length_set, List.length_cons, List.length_nil]; omega)
    have VA_207 : Arv Z h207 b2 k2 .byte (8 : Int32) (own_l8 x0 x1 x2 x3 x4 x5 x6 x7) (.int (0 : Int32)) := VA_202.other W207 ne_b2_b137
    have Z207 : n0 ≤ h207.size := Nat.le_trans Z202 (Keep.of_wr W207).1
    have N207 := Fr.snoc X207 N206 g_b137
    have G207 : ∀ t, Steps p.tables e below (T207.setTop (mkF m 436 #[.val (.int p1), .val (.int p2), .val (.int p3), .val (.int p4), .val (.ref b2), .val (.int St), .val (.int Ln), .val (.int En), .val (.int H1), .val (.int (1 : Int32)), .val (.int Kk), .val (.int J), .val (.ref b137), .unset, .val (.long (u2.toInt64)), .second, .val (.long rr), .second] [])) t → Steps p.tables e below (s₁.setTop (entryFrame m #[(.int p1), (.int p2), (.int p3), (.int p4)] maxLocals)) t := fun t kt => G206 t (st207 t kt)
    obtain ⟨LH208, XH208, NH208⟩ : ∃ L', Stand p l e room_1 s m #[(.int p1), (.int p2), (.int p3), (.int p4)] below meth c T207 L' 2 24 ∧ Fr n0 L' := ⟨_, X207, N207⟩
    have G209 : ∀ t, Steps p.tables e below (T207.setTop (mkF m 447 #[.val (.int p1), .val (.int p2), .val (.int p3), .val (.int p4), .val (.ref b2), .val (.int St), .val (.int Ln), .val (.int En), .val (.int H1), .val (.int (1 : Int32)), .val (.int Kk), .val (.int J), .val (.ref b137), .unset, .val (.long (u2.toInt64)), .second, .val (.long rr), .second] [(.int (7 : Int32)), (.ref b2), (.int (Kk + (7 : Int32))), (.ref b137)])) t → Steps p.tables e below (s₁.setTop (entryFrame m #[(.int p1), (.int p2), (.int p3), (.int p4)] maxLocals)) t := by
      intro t kt
      refine G207 t ?_
      show Steps p.tables e below (T207.setTop (mkF m 436 #[.val (.int p1), .val (.int p2), .val (.int p3), .val (.int p4), .val (.ref b2), .val (.int St), .val (.int Ln), .val (.int En), .val (.int H1), .val (.int (1 : Int32)), .val (.int Kk), .val (.int J), .val (.ref b137), .unset, .val (.long (u2.toInt64)), .second, .val (.long rr), .second] [])) _
      refine XS.aload XH208.here hx rfl (hb hby at_436) rfl rfl ?_
      show Steps p.tables e below (T207.setTop (mkF m 438 #[.val (.int p1), .val (.int p2), .val (.int p3), .val (.int p4), .val (.ref b2), .val (.int St), .val (.int Ln), .val (.int En), .val (.int H1), .val (.int (1 : Int32)), .val (.int Kk), .val (.int J), .val (.ref b137), .unset, .val (.long (u2.toInt64)), .second, .val (.long rr), .second] [(.ref b137)])) _
      refine XS.iload XH208.here hx rfl (hb hby at_438) rfl ?_
      show Steps p.tables e below (T207.setTop (mkF m 440 #[.val (.int p1), .val (.int p2), .val (.int p3), .val (.int p4), .val (.ref b2), .val (.int St), .val (.int Ln), .val (.int En), .val (.int H1), .val (.int (1 : Int32)), .val (.int Kk), .val (.int J), .val (.ref b137), .unset, .val (.long (u2.toInt64)), .second, .val (.long rr), .second] [(.int Kk), (.ref b137)])) _
      refine XS.bipush XH208.here hx rfl (hb hby at_440) ?_
      show Steps p.tables e below (T207.setTop (mkF m 442 #[.val (.int p1), .val (.int p2), .val (.int p3), .val (.int p4), .val (.ref b2), .val (.int St), .val (.int Ln), .val (.int En), .val (.int H1), .val (.int (1 : Int32)), .val (.int Kk), .val (.int J), .val (.ref b137), .unset, .val (.long (u2.toInt64)), .second, .val (.long rr), .second] [(.int (7 : Int32)), (.int Kk), (.ref b137)])) _
      refine XS.iadd XH208.here hx rfl (hb hby at_442) rfl ?_
      show Steps p.tables e below (T207.setTop (mkF m 443 #[.val (.int p1), .val (.int p2), .val (.int p3), .val (.int p4), .val (.ref b2), .val (.int St), .val (.int Ln), .val (.int En), .val (.int H1), .val (.int (1 : Int32)), .val (.int Kk), .val (.int J), .val (.ref b137), .unset, .val (.long (u2.toInt64)), .second, .val (.long rr), .second] [(.int (Kk + (7 : Int32))), (.ref b137)])) _
      refine XS.aload XH208.here hx rfl (hb hby at_443) rfl rfl ?_
      show Steps p.tables e below (T207.setTop (mkF m 445 #[.val (.int p1), .val (.int p2), .val (.int p3), .val (.int p4), .val (.ref b2), .val (.int St), .val (.int Ln), .val (.int En), .val (.int H1), .val (.int (1 : Int32)), .val (.int Kk), .val (.int J), .val (.ref b137), .unset, .val (.long (u2.toInt64)), .second, .val (.long rr), .second] [(.ref b2), (.int (Kk + (7 : Int32))), (.ref b137)])) _
      refine XS.bipush XH208.here hx rfl (hb hby at_445) ?_
      show Steps p.tables e below (T207.setTop (mkF m 447 #[.val (.int p1), .val (.int p2), .val (.int p3), .val (.int p4), .val (.ref b2), .val (.int St), .val (.int Ln), .val (.int En), .val (.int H1), .val (.int (1 : Int32)), .val (.int Kk), .val (.int J), .val (.ref b137), .unset, .val (.long (u2.toInt64)), .second, .val (.long rr), .second] [(.int (7 : Int32)), (.ref b2), (.int (Kk + (7 : Int32))), (.ref b137)])) _
      exact kt
    obtain ⟨clA_c7, ArA_c7, qA_c7, SA_c7, MA_c7, HA_c7, UA_c7⟩ := id VA_207
    have hin_c7 := inb_of SA_c7 (own_bd8 (I := (7 : Int32)) (n := 7) rfl (by decide))
    have hat_c7 : clA_c7.slots[((7 : Int32)).toNatClampNeg]? = some (.int x7) := HA_c7.at hin_c7 rfl
    have G210 : ∀ t, Steps p.tables e below (T207.setTop (mkF m 448 #[.val (.int p1), .val (.int p2), .val (.int p3), .val (.int p4), .val (.ref b2), .val (.int St), .val (.int Ln), .val (.int En), .val (.int H1), .val (.int (1 : Int32)), .val (.int Kk), .val (.int J), .val (.ref b137), .unset, .val (.long (u2.toInt64)), .second, .val (.long rr), .second] [(.int x7), (.int (Kk + (7 : Int32))), (.ref b137)])) t → Steps p.tables e below (s₁.setTop (entryFrame m #[(.int p1), (.int p2), (.int p3), (.int p4)] maxLocals)) t := by
      intro t kt
      refine G209 t ?_
      show Steps p.tables e below (T207.setTop (mkF m 447 #[.val (.int p1), .val (.int p2), .val (.int p3), .val (.int p4), .val (.ref b2), .val (.int St), .val (.int Ln), .val (.int En), .val (.int H1), .val (.int (1 : Int32)), .val (.int Kk), .val (.int J), .val (.ref b137), .unset, .val (.long (u2.toInt64)), .second, .val (.long rr), .second] [(.int (7 : Int32)), (.ref b2), (.int (Kk + (7 : Int32))), (.ref b137)])) _
      refine XH208.baloadBytes hx (j := (7 : Int32)) (v := (.int x7)) (by rw [e207]; exact ArA_c7.1) (State.isArrayOf_alike hZ.alike ArA_c7.2.1) ArA_c7.2.2 hin_c7 hat_c7 (g := (mkF m 447 #[.val (.int p1), .val (.int p2), .val (.int p3), .val (.int p4), .val (.ref b2), .val (.int St), .val (.int Ln), .val (.int En), .val (.int H1), .val (.int (1 : Int32)), .val (.int Kk), .val (.int J), .val (.ref b137), .unset, .val (.long (u2.toInt64)), .second, .val (.long rr), .second] [(.int (7 : Int32)), (.ref b2), (.int (Kk + (7 : Int32))), (.ref b137)])) rfl rfl (hb hby at_447) _ ?_
      show Steps p.tables e below (T207.setTop (mkF m 448 #[.val (.int p1), .val (.int p2), .val (.int p3), .val (.int p4), .val (.ref b2), .val (.int St), .val (.int Ln), .val (.int En), .val (.int H1), .val (.int (1 : Int32)), .val (.int Kk), .val (.int J), .val (.ref b137), .unset, .val (.long (u2.toInt64)), .second, .val (.long rr), .second] [(.int x7), (.int (Kk + (7 : Int32))), (.ref b137)])) _
      exact kt
    obtain ⟨_, _, ⟨T211, L211, k211, n211⟩, -, X211, ⟨Lc211, hQ211, l211, y211, z211⟩, st211⟩ := Jvm.LawKit.callS XH208 hx (y := (⟨"com/example/evenkeel/evenkeel/http/HeaderNameHashPinLaw", "flip", "(B)B"⟩ : MethodName)) hown (mvT hZ (hw _ (List.mem_of_getElem? (i := 6) rfl))) (mvT hZ (hw _ (List.mem_of_getElem? (i := 7) rfl))) (mvT hZ (hw _ (List.mem_of_getElem? (i := 8) rfl))) (mvT hZ (hw _ (List.mem_of_getElem? (i := 9) rfl))) (by decide) (backOf (W := 2) (rm2 l Z a0 hw [] x7  h207 n0 Z207 ) hZ (hw _ (List.mem_of_getElem? (i := 9) rfl)) (hw _ (List.mem_of_getElem? (i := 8) rfl)) (by decide) (by decide)) (g := (mkF m 448 #[.val (.int p1), .val (.int p2), .val (.int p3), .val (.int p4), .val (.ref b2), .val (.int St), .val (.int Ln), .val (.int En), .val (.int H1), .val (.int (1 : Int32)), .val (.int Kk), .val (.int J), .val (.ref b137), .unset, .val (.long (u2.toInt64)), .second, .val (.long rr), .second] [(.int x7), (.int (Kk + (7 : Int32))), (.ref b137)])) rfl (by rw [hml]; rfl) (argsL := [(.int x7)]) (rest := [(.int (Kk + (7 : Int32))), (.ref b137)]) (lenOf pd_1 rfl) rfl (by show 2 * 0 + _ ≤ _; exact Nat.le_of_eq rfl) (hb hby at_448) (fun _ _ => ⟨rfl, e207, (by decide : 2 + 0 ≤ _), (by decide : 24 + 0 ≤ _)⟩)
    dsimp only [Pt.U, Pt.locs, Pt.cells, Pt.slots] at X211 l211 y211 z211 st211 hQ211
    subst l211 y211 z211
    obtain ⟨rfl, N211q, e211⟩ := hQ211
    have N211 := Fr.app NH208 N211q
    have G211 : ∀ t, Steps p.tables e below (T211.setTop (mkF m 451 #[.val (.int p1), .val (.int p2), .val (.int p3), .val (.int p4), .val (.ref b2), .val (.int St), .val (.int Ln), .val (.int En), .val (.int H1), .val (.int (1 : Int32)), .val (.int Kk), .val (.int J), .val (.ref b137), .unset, .val (.long (u2.toInt64)), .second, .val (.long rr), .second] [(.int (g2_0 x7)), (.int (Kk + (7 : Int32))), (.ref b137)])) t → Steps p.tables e below (s₁.setTop (entryFrame m #[(.int p1), (.int p2), (.int p3), (.int p4)] maxLocals)) t := fun t kt => G210 t (st211 t kt)
    obtain ⟨cl_212, Ar_212, q_212, S_212, M_212, H_212, U_212⟩ := id V_b137_207
    obtain ⟨T212, h212, X212, e212, W212, st212⟩ := stB X211 hx hZ e211 Ar_212 (j := (Kk + (7 : Int32))) (inb_of S_212 (own_bd16 (own_add hKs (m := 7) rfl (by omega)) (by omega))) (g := (mkF m 451 #[.val (.int p1), .val (.int p2), .val (.int p3), .val (.int p4), .val (.ref b2), .val (.int St), .val (.int Ln), .val (.int En), .val (.int H1), .val (.int (1 : Int32)), .val (.int Kk), .val (.int J), .val (.ref b137), .unset, .val (.long (u2.toInt64)), .second, .val (.long rr), .second] [(.int (g2_0 x7)), (.int (Kk + (7 : Int32))), (.ref b137)])) rfl rfl (hb hby at_451)
    have V_b137_212 : Arv Z h212 b137 k137 .byte (16 : Int32) (List.set (List.set (List.set (List.set (List.set (List.set (List.set (List.set [(.int (nar .byte J)), (.int (nar .byte J)), (.int (nar .byte J)), (.int (nar .byte J)), (.int (nar .byte J)), (.int (nar .byte J)), (.int (nar .byte J)), (.int (nar .byte J)), (.int (nar .byte J)), (.int (nar .byte J)), (.int (nar .byte J)), (.int (nar .byte J)), (.int (nar .byte J)), (.int (nar .byte J)), (.int (nar .byte J)), (.int (nar .byte J))] k (.int (nar .byte (g2_0 x0)))) (k + 1) (.int (nar .byte (g2_0 x1)))) (k + 2) (.int (nar .byte (g2_0 x2)))) (k + 3) (.int (nar .byte (g2_0 x3)))) (k + 4) (.int (nar .byte (g2_0 x4)))) (k + 5) (.int (nar .byte (g2_0 x5)))) (k + 6) (.int (nar .byte (g2_0 x6)))) (k + 7) (.int (nar .byte (g2_0 x7)))) (.int (0 : Int32)) := Arv.set Ar_212 q_212 S_212 M_212 H_212 U_212 (fits_nar_byte _) W212 (k + 7) (own_nn (own_add hKs (m := 7) rfl (by omega))) (by simp only [List.length_set, List.length_cons, List.length_nil]; omega)
    have VA_212 : Arv Z h212 b2 k2 .byte (8 : Int32) (own_l8 x0 x1 x2 x3 x4 x5 x6 x7) (.int (0 : Int32)) := VA_207.other W212 ne_b2_b137
    have Z212 : n0 ≤ h212.size := Nat.le_trans Z207 (Keep.of_wr W212).1
    have N212 := Fr.snoc X212 N211 g_b137
    have G212 : ∀ t, Steps p.tables e below (T212.setTop (mkF m 452 #[.val (.int p1), .val (.int p2), .val (.int p3), .val (.int p4), .val (.ref b2), .val (.int St), .val (.int Ln), .val (.int En), .val (.int H1), .val (.int (1 : Int32)), .val (.int Kk), .val (.int J), .val (.ref b137), .unset, .val (.long (u2.toInt64)), .second, .val (.long rr), .second] [])) t → Steps p.tables e below (s₁.setTop (entryFrame m #[(.int p1), (.int p2), (.int p3), (.int p4)] maxLocals)) t := fun t kt => G211 t (st212 t kt)
    obtain ⟨LH213, XH213, NH213⟩ : ∃ L', Stand p l e room_1 s m #[(.int p1), (.int p2), (.int p3), (.int p4)] below meth c T212 L' 2 24 ∧ Fr n0 L' := ⟨_, X212, N212⟩
    have G214 : ∀ t, Steps p.tables e below (T212.setTop (mkF m 464 #[.val (.int p1), .val (.int p2), .val (.int p3), .val (.int p4), .val (.ref b2), .val (.int St), .val (.int Ln), .val (.int En), .val (.int H1), .val (.int (1 : Int32)), .val (.int Kk), .val (.int J), .val (.ref b137), .unset, .val (.long (u2.toInt64)), .second, .val (.long rr), .second] [(.int (En + Kk)), (.int (St + Kk)), (.ref b137)])) t → Steps p.tables e below (s₁.setTop (entryFrame m #[(.int p1), (.int p2), (.int p3), (.int p4)] maxLocals)) t := by
      intro t kt
      refine G212 t ?_
      show Steps p.tables e below (T212.setTop (mkF m 452 #[.val (.int p1), .val (.int p2), .val (.int p3), .val (.int p4), .val (.ref b2), .val (.int St), .val (.int Ln), .val (.int En), .val (.int H1), .val (.int (1 : Int32)), .val (.int Kk), .val (.int J), .val (.ref b137), .unset, .val (.long (u2.toInt64)), .second, .val (.long rr), .second] [])) _
      refine XS.aload XH213.here hx rfl (hb hby at_452) rfl rfl ?_
      show Steps p.tables e below (T212.setTop (mkF m 454 #[.val (.int p1), .val (.int p2), .val (.int p3), .val (.int p4), .val (.ref b2), .val (.int St), .val (.int Ln), .val (.int En), .val (.int H1), .val (.int (1 : Int32)), .val (.int Kk), .val (.int J), .val (.ref b137), .unset, .val (.long (u2.toInt64)), .second, .val (.long rr), .second] [(.ref b137)])) _
      refine XS.iload XH213.here hx rfl (hb hby at_454) rfl ?_
      show Steps p.tables e below (T212.setTop (mkF m 456 #[.val (.int p1), .val (.int p2), .val (.int p3), .val (.int p4), .val (.ref b2), .val (.int St), .val (.int Ln), .val (.int En), .val (.int H1), .val (.int (1 : Int32)), .val (.int Kk), .val (.int J), .val (.ref b137), .unset, .val (.long (u2.toInt64)), .second, .val (.long rr), .second] [(.int St), (.ref b137)])) _
      refine XS.iload XH213.here hx rfl (hb hby at_456) rfl ?_
      show Steps p.tables e below (T212.setTop (mkF m 458 #[.val (.int p1), .val (.int p2), .val (.int p3), .val (.int p4), .val (.ref b2), .val (.int St), .val (.int Ln), .val (.int En), .val (.int H1), .val (.int (1 : Int32)), .val (.int Kk), .val (.int J), .val (.ref b137), .unset, .val (.long (u2.toInt64)), .second, .val (.long rr), .second] [(.int Kk), (.int St), (.ref b137)])) _
      refine XS.iadd XH213.here hx rfl (hb hby at_458) rfl ?_
      show Steps p.tables e below (T212.setTop (mkF m 459 #[.val (.int p1), .val (.int p2), .val (.int p3), .val (.int p4), .val (.ref b2), .val (.int St), .val (.int Ln), .val (.int En), .val (.int H1), .val (.int (1 : Int32)), .val (.int Kk), .val (.int J), .val (.ref b137), .unset, .val (.long (u2.toInt64)), .second, .val (.long rr), .second] [(.int (St + Kk)), (.ref b137)])) _
      refine XS.iload XH213.here hx rfl (hb hby at_459) rfl ?_
      show Steps p.tables e below (T212.setTop (mkF m 461 #[.val (.int p1), .val (.int p2), .val (.int p3), .val (.int p4), .val (.ref b2), .val (.int St), .val (.int Ln), .val (.int En), .val (.int H1), .val (.int (1 : Int32)), .val (.int Kk), .val (.int J), .val (.ref b137), .unset, .val (.long (u2.toInt64)), .second, .val (.long rr), .second] [(.int En), (.int (St + Kk)), (.ref b137)])) _
      refine XS.iload XH213.here hx rfl (hb hby at_461) rfl ?_
      show Steps p.tables e below (T212.setTop (mkF m 463 #[.val (.int p1), .val (.int p2), .val (.int p3), .val (.int p4), .val (.ref b2), .val (.int St), .val (.int Ln), .val (.int En), .val (.int H1), .val (.int (1 : Int32)), .val (.int Kk), .val (.int J), .val (.ref b137), .unset, .val (.long (u2.toInt64)), .second, .val (.long rr), .second] [(.int Kk), (.int En), (.int (St + Kk)), (.ref b137)])) _
      refine XS.iadd XH213.here hx rfl (hb hby at_463) rfl ?_
      show Steps p.tables e below (T212.setTop (mkF m 464 #[.val (.int p1), .val (.int p2), .val (.int p3), .val (.int p4), .val (.ref b2), .val (.int St), .val (.int Ln), .val (.int En), .val (.int H1), .val (.int (1 : Int32)), .val (.int Kk), .val (.int J), .val (.ref b137), .unset, .val (.long (u2.toInt64)), .second, .val (.long rr), .second] [(.int (En + Kk)), (.int (St + Kk)), (.ref b137)])) _
      exact kt
    have VB : Arv Z h212 b137 k137 .byte (16 : Int32) (own_l16 J x0 x1 x2 x3 x4 x5 x6 x7 k) (.int (0 : Int32)) := V_b137_212
    have hS2 : (St + Kk).toInt = (s' + k : Nat) := own_add hSs hKs (by omega)
    have hE2 : (En + Kk).toInt = ((s' + k) + m' : Nat) := by rw [own_add hEs hKs (by omega)]; omega
    have hlen2 : ((En + Kk) - (St + Kk)).toInt = m' := own_sub hE2 hS2 (by omega)
    obtain ⟨clB, ArB, qB, SB, MB, HB, UB⟩ := id VB
    have j0 : (St + Kk).toInt = (s' + k : Nat) := hS2
    have j1 : ((St + Kk) + (((En + Kk) - (St + Kk)) / (2 : Int32))).toInt = ((s' + m' / 2) + k : Nat) := by rw [own_add hS2 (own_half hlen2) (by omega)]; omega
    have j2 : ((En + Kk) - (1 : Int32)).toInt = ((s' + m' - 1) + k : Nat) := by rw [own_pred hE2 (by omega)]; omega
    have hi2_0 := inb_of SB (own_bd16 j0 (by omega))
    have ha2_0 : clB.slots[((St + Kk)).toNatClampNeg]? = some (.int (nar .byte (g2_0 (own_sel x0 x1 x2 x3 x4 x5 x6 x7 s')))) := HB.at hi2_0 (by rw [own_nn j0]; exact own_get16 J x0 x1 x2 x3 x4 x5 x6 x7 (by omega) hk)
    have hi2_1 := inb_of SB (own_bd16 j1 (by omega))
    have ha2_1 : clB.slots[(((St + Kk) + (((En + Kk) - (St + Kk)) / (2 : Int32)))).toNatClampNeg]? = some (.int (nar .byte (g2_0 (own_sel x0 x1 x2 x3 x4 x5 x6 x7 (s' + m' / 2))))) := HB.at hi2_1 (by rw [own_nn j1]; exact own_get16 J x0 x1 x2 x3 x4 x5 x6 x7 (by omega) hk)
    have hi2_2 := inb_of SB (own_bd16 j2 (by omega))
    have ha2_2 : clB.slots[(((En + Kk) - (1 : Int32))).toNatClampNeg]? = some (.int (nar .byte (g2_0 (own_sel x0 x1 x2 x3 x4 x5 x6 x7 (s' + m' - 1))))) := HB.at hi2_2 (by rw [own_nn j2]; exact own_get16 J x0 x1 x2 x3 x4 x5 x6 x7 (by omega) hk)
    obtain ⟨_, _, ⟨T215, L215, k215, n215⟩, -, X215, ⟨Lc215, hQ215, l215, y215, z215⟩, st215⟩ := Jvm.LawKit.callS XH213 hx (y := (⟨"com/example/evenkeel/evenkeel/http/HeaderName", "hash", "([BII)I"⟩ : MethodName)) hown (mvT hZ (hw _ (List.mem_of_getElem? (i := 2) rfl))) (mvT hZ (hw _ (List.mem_of_getElem? (i := 3) rfl))) (mvT hZ (hw _ (List.mem_of_getElem? (i := 4) rfl))) (mvT hZ (hw _ (List.mem_of_getElem? (i := 5) rfl))) (by decide) (backOf (W := 0) (rm1b l Z a0 hw [] b137 (St + Kk) (En + Kk) clB (nar .byte (g2_0 (own_sel x0 x1 x2 x3 x4 x5 x6 x7 s'))) (nar .byte (g2_0 (own_sel x0 x1 x2 x3 x4 x5 x6 x7 (s' + m' / 2)))) (nar .byte (g2_0 (own_sel x0 x1 x2 x3 x4 x5 x6 x7 (s' + m' - 1)))) h212 n0 Z212 (fun q => hz ((own_zero hlen2).mp q)) ArB hi2_0 ha2_0 hi2_1 ha2_1 hi2_2 ha2_2) hZ (hw _ (List.mem_of_getElem? (i := 5) rfl)) (hw _ (List.mem_of_getElem? (i := 4) rfl)) (by decide) (by decide)) (g := (mkF m 464 #[.val (.int p1), .val (.int p2), .val (.int p3), .val (.int p4), .val (.ref b2), .val (.int St), .val (.int Ln), .val (.int En), .val (.int H1), .val (.int (1 : Int32)), .val (.int Kk), .val (.int J), .val (.ref b137), .unset, .val (.long (u2.toInt64)), .second, .val (.long rr), .second] [(.int (En + Kk)), (.int (St + Kk)), (.ref b137)])) rfl (by rw [hml]; rfl) (argsL := [(.ref b137), (.int (St + Kk)), (.int (En + Kk))]) (rest := []) (lenOf pd_0 rfl) rfl (by show 2 * 0 + _ ≤ _; exact Nat.le_of_eq rfl) (hb hby at_464) (fun _ _ => ⟨rfl, e212, (by decide : 2 + 0 ≤ _), (by decide : 24 + 0 ≤ _)⟩)
    dsimp only [Pt.U, Pt.locs, Pt.cells, Pt.slots] at X215 l215 y215 z215 st215 hQ215
    subst l215 y215 z215
    obtain ⟨rfl, N215q, e215⟩ := hQ215
    have N215 := Fr.app NH213 N215q
    have G215 : ∀ t, Steps p.tables e below (T215.setTop (mkF m 467 #[.val (.int p1), .val (.int p2), .val (.int p3), .val (.int p4), .val (.ref b2), .val (.int St), .val (.int Ln), .val (.int En), .val (.int H1), .val (.int (1 : Int32)), .val (.int Kk), .val (.int J), .val (.ref b137), .unset, .val (.long (u2.toInt64)), .second, .val (.long rr), .second] [(.int (g1b_0 b137 (St + Kk) (En + Kk) (nar .byte (g2_0 (own_sel x0 x1 x2 x3 x4 x5 x6 x7 s'))) (nar .byte (g2_0 (own_sel x0 x1 x2 x3 x4 x5 x6 x7 (s' + m' / 2)))) (nar .byte (g2_0 (own_sel x0 x1 x2 x3 x4 x5 x6 x7 (s' + m' - 1))))))])) t → Steps p.tables e below (s₁.setTop (entryFrame m #[(.int p1), (.int p2), (.int p3), (.int p4)] maxLocals)) t := fun t kt => G214 t (st215 t kt)
    have G216 : ∀ t, Steps p.tables e below (T215.setTop (mkF m 486 #[.val (.int p1), .val (.int p2), .val (.int p3), .val (.int p4), .val (.ref b2), .val (.int St), .val (.int Ln), .val (.int En), .val (.int H1), .val (.int (1 : Int32)), .val (.int Kk), .val (.int J), .val (.ref b137), .val (.int (g1b_0 b137 (St + Kk) (En + Kk) (nar .byte (g2_0 (own_sel x0 x1 x2 x3 x4 x5 x6 x7 s'))) (nar .byte (g2_0 (own_sel x0 x1 x2 x3 x4 x5 x6 x7 (s' + m' / 2)))) (nar .byte (g2_0 (own_sel x0 x1 x2 x3 x4 x5 x6 x7 (s' + m' - 1)))))), .val (.long (u2.toInt64)), .second, .val (.long rr), .second] [(.int (1 : Int32))])) t → Steps p.tables e below (s₁.setTop (entryFrame m #[(.int p1), (.int p2), (.int p3), (.int p4)] maxLocals)) t := by
      intro t kt
      refine G215 t ?_
      show Steps p.tables e below (T215.setTop (mkF m 467 #[.val (.int p1), .val (.int p2), .val (.int p3), .val (.int p4), .val (.ref b2), .val (.int St), .val (.int Ln), .val (.int En), .val (.int H1), .val (.int (1 : Int32)), .val (.int Kk), .val (.int J), .val (.ref b137), .unset, .val (.long (u2.toInt64)), .second, .val (.long rr), .second] [(.int (g1b_0 b137 (St + Kk) (En + Kk) (nar .byte (g2_0 (own_sel x0 x1 x2 x3 x4 x5 x6 x7 s'))) (nar .byte (g2_0 (own_sel x0 x1 x2 x3 x4 x5 x6 x7 (s' + m' / 2)))) (nar .byte (g2_0 (own_sel x0 x1 x2 x3 x4 x5 x6 x7 (s' + m' - 1))))))])) _
      refine XS.istore X215.here hx rfl (hb hby at_467) rfl (l' := #[.val (.int p1), .val (.int p2), .val (.int p3), .val (.int p4), .val (.ref b2), .val (.int St), .val (.int Ln), .val (.int En), .val (.int H1), .val (.int (1 : Int32)), .val (.int Kk), .val (.int J), .val (.ref b137), .val (.int (g1b_0 b137 (St + Kk) (En + Kk) (nar .byte (g2_0 (own_sel x0 x1 x2 x3 x4 x5 x6 x7 s'))) (nar .byte (g2_0 (own_sel x0 x1 x2 x3 x4 x5 x6 x7 (s' + m' / 2)))) (nar .byte (g2_0 (own_sel x0 x1 x2 x3 x4 x5 x6 x7 (s' + m' - 1)))))), .val (.long (u2.toInt64)), .second, .val (.long rr), .second]) rfl ?_
      show Steps p.tables e below (T215.setTop (mkF m 469 #[.val (.int p1), .val (.int p2), .val (.int p3), .val (.int p4), .val (.ref b2), .val (.int St), .val (.int Ln), .val (.int En), .val (.int H1), .val (.int (1 : Int32)), .val (.int Kk), .val (.int J), .val (.ref b137), .val (.int (g1b_0 b137 (St + Kk) (En + Kk) (nar .byte (g2_0 (own_sel x0 x1 x2 x3 x4 x5 x6 x7 s'))) (nar .byte (g2_0 (own_sel x0 x1 x2 x3 x4 x5 x6 x7 (s' + m' / 2)))) (nar .byte (g2_0 (own_sel x0 x1 x2 x3 x4 x5 x6 x7 (s' + m' - 1)))))), .val (.long (u2.toInt64)), .second, .val (.long rr), .second] [])) _
      refine XS.iload X215.here hx rfl (hb hby at_469) rfl ?_
      show Steps p.tables e below (T215.setTop (mkF m 471 #[.val (.int p1), .val (.int p2), .val (.int p3), .val (.int p4), .val (.ref b2), .val (.int St), .val (.int Ln), .val (.int En), .val (.int H1), .val (.int (1 : Int32)), .val (.int Kk), .val (.int J), .val (.ref b137), .val (.int (g1b_0 b137 (St + Kk) (En + Kk) (nar .byte (g2_0 (own_sel x0 x1 x2 x3 x4 x5 x6 x7 s'))) (nar .byte (g2_0 (own_sel x0 x1 x2 x3 x4 x5 x6 x7 (s' + m' / 2)))) (nar .byte (g2_0 (own_sel x0 x1 x2 x3 x4 x5 x6 x7 (s' + m' - 1)))))), .val (.long (u2.toInt64)), .second, .val (.long rr), .second] [(.int (1 : Int32))])) _
      refine XS.ifNo X215.here hx rfl (hb hby at_471) rfl ((if0 _ _).trans (feq (by decide : ¬ ((1 : Int32) = (0 : Int32)))).1) ?_
      show Steps p.tables e below (T215.setTop (mkF m 474 #[.val (.int p1), .val (.int p2), .val (.int p3), .val (.int p4), .val (.ref b2), .val (.int St), .val (.int Ln), .val (.int En), .val (.int H1), .val (.int (1 : Int32)), .val (.int Kk), .val (.int J), .val (.ref b137), .val (.int (g1b_0 b137 (St + Kk) (En + Kk) (nar .byte (g2_0 (own_sel x0 x1 x2 x3 x4 x5 x6 x7 s'))) (nar .byte (g2_0 (own_sel x0 x1 x2 x3 x4 x5 x6 x7 (s' + m' / 2)))) (nar .byte (g2_0 (own_sel x0 x1 x2 x3 x4 x5 x6 x7 (s' + m' - 1)))))), .val (.long (u2.toInt64)), .second, .val (.long rr), .second] [])) _
      refine XS.iload X215.here hx rfl (hb hby at_474) rfl ?_
      show Steps p.tables e below (T215.setTop (mkF m 476 #[.val (.int p1), .val (.int p2), .val (.int p3), .val (.int p4), .val (.ref b2), .val (.int St), .val (.int Ln), .val (.int En), .val (.int H1), .val (.int (1 : Int32)), .val (.int Kk), .val (.int J), .val (.ref b137), .val (.int (g1b_0 b137 (St + Kk) (En + Kk) (nar .byte (g2_0 (own_sel x0 x1 x2 x3 x4 x5 x6 x7 s'))) (nar .byte (g2_0 (own_sel x0 x1 x2 x3 x4 x5 x6 x7 (s' + m' / 2)))) (nar .byte (g2_0 (own_sel x0 x1 x2 x3 x4 x5 x6 x7 (s' + m' - 1)))))), .val (.long (u2.toInt64)), .second, .val (.long rr), .second] [(.int (g1b_0 b137 (St + Kk) (En + Kk) (nar .byte (g2_0 (own_sel x0 x1 x2 x3 x4 x5 x6 x7 s'))) (nar .byte (g2_0 (own_sel x0 x1 x2 x3 x4 x5 x6 x7 (s' + m' / 2)))) (nar .byte (g2_0 (own_sel x0 x1 x2 x3 x4 x5 x6 x7 (s' + m' - 1))))))])) _
      refine XS.iload X215.here hx rfl (hb hby at_476) rfl ?_
      show Steps p.tables e below (T215.setTop (mkF m 478 #[.val (.int p1), .val (.int p2), .val (.int p3), .val (.int p4), .val (.ref b2), .val (.int St), .val (.int Ln), .val (.int En), .val (.int H1), .val (.int (1 : Int32)), .val (.int Kk), .val (.int J), .val (.ref b137), .val (.int (g1b_0 b137 (St + Kk) (En + Kk) (nar .byte (g2_0 (own_sel x0 x1 x2 x3 x4 x5 x6 x7 s'))) (nar .byte (g2_0 (own_sel x0 x1 x2 x3 x4 x5 x6 x7 (s' + m' / 2)))) (nar .byte (g2_0 (own_sel x0 x1 x2 x3 x4 x5 x6 x7 (s' + m' - 1)))))), .val (.long (u2.toInt64)), .second, .val (.long rr), .second] [(.int H1), (.int (g1b_0 b137 (St + Kk) (En + Kk) (nar .byte (g2_0 (own_sel x0 x1 x2 x3 x4 x5 x6 x7 s'))) (nar .byte (g2_0 (own_sel x0 x1 x2 x3 x4 x5 x6 x7 (s' + m' / 2)))) (nar .byte (g2_0 (own_sel x0 x1 x2 x3 x4 x5 x6 x7 (s' + m' - 1))))))])) _
      refine XS.icmpNo X215.here hx rfl (hb hby at_478) rfl (teq ((own_same hlen2 hlen (hB _) (hB _) (hB _)).trans e_H1.symm)).2 ?_
      show Steps p.tables e below (T215.setTop (mkF m 481 #[.val (.int p1), .val (.int p2), .val (.int p3), .val (.int p4), .val (.ref b2), .val (.int St), .val (.int Ln), .val (.int En), .val (.int H1), .val (.int (1 : Int32)), .val (.int Kk), .val (.int J), .val (.ref b137), .val (.int (g1b_0 b137 (St + Kk) (En + Kk) (nar .byte (g2_0 (own_sel x0 x1 x2 x3 x4 x5 x6 x7 s'))) (nar .byte (g2_0 (own_sel x0 x1 x2 x3 x4 x5 x6 x7 (s' + m' / 2)))) (nar .byte (g2_0 (own_sel x0 x1 x2 x3 x4 x5 x6 x7 (s' + m' - 1)))))), .val (.long (u2.toInt64)), .second, .val (.long rr), .second] [])) _
      refine XS.iconst X215.here hx rfl (hb hby at_481) ?_
      show Steps p.tables e below (T215.setTop (mkF m 482 #[.val (.int p1), .val (.int p2), .val (.int p3), .val (.int p4), .val (.ref b2), .val (.int St), .val (.int Ln), .val (.int En), .val (.int H1), .val (.int (1 : Int32)), .val (.int Kk), .val (.int J), .val (.ref b137), .val (.int (g1b_0 b137 (St + Kk) (En + Kk) (nar .byte (g2_0 (own_sel x0 x1 x2 x3 x4 x5 x6 x7 s'))) (nar .byte (g2_0 (own_sel x0 x1 x2 x3 x4 x5 x6 x7 (s' + m' / 2)))) (nar .byte (g2_0 (own_sel x0 x1 x2 x3 x4 x5 x6 x7 (s' + m' - 1)))))), .val (.long (u2.toInt64)), .second, .val (.long rr), .second] [(.int (1 : Int32))])) _
      refine XS.goto X215.here hx rfl (pc0 := 482) (pc' := 486) rfl (hb hby at_482) (by decide) (by decide) ?_
      show Steps p.tables e below (T215.setTop (mkF m 486 #[.val (.int p1), .val (.int p2), .val (.int p3), .val (.int p4), .val (.ref b2), .val (.int St), .val (.int Ln), .val (.int En), .val (.int H1), .val (.int (1 : Int32)), .val (.int Kk), .val (.int J), .val (.ref b137), .val (.int (g1b_0 b137 (St + Kk) (En + Kk) (nar .byte (g2_0 (own_sel x0 x1 x2 x3 x4 x5 x6 x7 s'))) (nar .byte (g2_0 (own_sel x0 x1 x2 x3 x4 x5 x6 x7 (s' + m' / 2)))) (nar .byte (g2_0 (own_sel x0 x1 x2 x3 x4 x5 x6 x7 (s' + m' - 1)))))), .val (.long (u2.toInt64)), .second, .val (.long rr), .second] [(.int (1 : Int32))])) _
      exact kt
    obtain ⟨fs, hr, hrun, hended, hW, hsame⟩ := X215.leave (v := some (.int (1 : Int32))) (fun h => by rw [Bd.returns] at h; cases h)
    refine ⟨_, _, G216 _ ?_, hrun, hended, _, _, rfl, ?_, ⟨_, rfl⟩, hW, hsame.mono (by decide) (by decide)⟩
    · show Steps p.tables e below (T215.setTop (mkF m 486 #[.val (.int p1), .val (.int p2), .val (.int p3), .val (.int p4), .val (.ref b2), .val (.int St), .val (.int Ln), .val (.int En), .val (.int H1), .val (.int (1 : Int32)), .val (.int Kk), .val (.int J), .val (.ref b137), .val (.int (g1b_0 b137 (St + Kk) (En + Kk) (nar .byte (g2_0 (own_sel x0 x1 x2 x3 x4 x5 x6 x7 s'))) (nar .byte (g2_0 (own_sel x0 x1 x2 x3 x4 x5 x6 x7 (s' + m' / 2)))) (nar .byte (g2_0 (own_sel x0 x1 x2 x3 x4 x5 x6 x7 (s' + m' - 1)))))), .val (.long (u2.toInt64)), .second, .val (.long rr), .second] [(.int (1 : Int32))])) _
      exact retN X215 hx (t := .boolean) Bd.returns (by simp) (hb hby at_486) hr
    · show Q0 Z p1 p2 p3 p4 h0 n0 _ T215.heap _
      rw [e215]
      exact ⟨rfl, N215⟩
set_option maxRecDepth 65536 in
set_option maxHeartbeats 40000000 in
theorem comes_1 {Post : Tables → Env → Array Value → State → Outcome → State → Prop} (hpost : ∀ tb e args s v u, (limb_1_1.after args s (.returned v) u = true ∧ limb_1_2.after args s (.returned v) u = true ∧ True) → FrameEnd s (.returned v) u (Jvm.fieldLocs frame_1_writes args s ++ Jvm.arrayLocs frame_1_arrays args s ++ Jvm.staticLocs frame_1_statics s) 16 128 → Post tb e args s (.returned v) u) :
    ArmFor flags0 classFile x code maxLocals ret World_1 tables_1 room_1 Calls_1 rest_1 Pre_1 Post := by
  intro l hfl _ _ p e ha hc hk s m args below hf hA hF happ hP
  obtain ⟨hcalls, hrest, hpre⟩ := hP
  obtain ⟨-, -, -, hnamed, -, -, -, hat⟩ := (Spec.applies_iff hf).mp happ
  obtain ⟨hg, hn⟩ := and_e (Cond.before_iff.mp (show (Jvm.Cond.and given_1 narrow_1).before args s = true from hpre))
  obtain ⟨hcnt, r0⟩ := and_e hg
  obtain ⟨c0, r1⟩ := and_e r0
  obtain ⟨c1, r2⟩ := and_e r1
  obtain ⟨c2, r3⟩ := and_e r2
  obtain ⟨w0, w1, w2, w3, rfl⟩ : ∃ w0 w1 w2 w3 : Value, args = #[w0, w1, w2, w3] := by
    have hs : args.size = 4 := by simpa [Cond.value, given_1] using hcnt
    obtain ⟨L⟩ := args
    match L, hs with
    | [w0, w1, w2, w3], _ => exact ⟨w0, w1, w2, w3, rfl⟩
  have hw := fun d (hd : d ∈ tables_1) => atoms_spec (ws := Jvm.Cond.code x code maxLocals ret :: tables_1) hat d (List.mem_cons_of_mem _ hd)
  obtain ⟨i0, j0⟩ := is_v c0
  obtain rfl : w0 = (.int i0) := Option.some.inj j0
  obtain ⟨i1, j1⟩ := is_v c1
  obtain rfl : w1 = (.int i1) := Option.some.inj j1
  obtain ⟨i2, j2⟩ := is_v c2
  obtain rfl : w2 = (.int i2) := Option.some.inj j2
  obtain ⟨i3, j3⟩ := is_v r3
  obtain rfl : w3 = (.int i3) := Option.some.inj j3
  obtain ⟨n, o, h1, h2, h3, _, L, rfl, ⟨rfl, N⟩, hq⟩ := rm0 l s _ hw tables_1 i0 i1 i2 i3 s.heap s.heap.size (Nat.le_refl _) p e ha hc hk s m _ below hf ((Spec.applies_iff_loose hf).mp happ).1 ⟨rfl, State.Warmed39.refl s, rfl⟩ trivial
  refine ⟨n, _, h1, h2, h3, hpost _ _ _ _ _ _ ⟨Cond.after_iff.mpr rfl, Cond.after_iff.mpr (eq_i res_at (Term.int_eval (1)) rfl), trivial⟩ ⟨hq.1, hq.2.1, (hq.2.2.sift fun y hy => Or.inr (N y hy)).mono (by decide) (by decide)⟩⟩
theorem main_1_1 : Claimed_1_1 := comes_1 fun _ _ _ _ _ _ h hF => ⟨h.1, hF⟩
theorem main_1_2 : Claimed_1_2 := comes_1 fun _ _ _ _ _ _ h hF => ⟨h.2.1, hF⟩
end Jvm.Pilot.@@N@@
namespace Jvm.Pilot.@@N@@
open Jvm Jvm.ClassFile Sem Op Lib Jvm.Free Jvm.Stand Jvm.Pilot.@@N@@.Jvm.D
/-! MADE BY PROGRAM (witnessworld.py) out of the Statement's table words and the real class files: 10 classes; the members and pool entries that the words name. The judged class is class 1, her method 3. -/
namespace start1
open Jvm.ClassFile
def u (s : String) : CpInfo := .utf8 (stringToUtf16 s)
/-- a pool by its gaps: so many unusable entries, then the entry; so many at the end -/
def gap : Nat → List CpInfo → List CpInfo
  | 0, r => r
  | n + 1, r => .unusable :: gap n r
def poolList (es : List (Nat × CpInfo)) (last : Nat) : List CpInfo := es.foldr (fun e r => gap e.1 (e.2 :: r)) (gap last [])
def pool (es : List (Nat × CpInfo)) (last : Nat) : Array CpInfo := ⟨poolList es last⟩
def fileOf (pool : Array CpInfo) (this : Nat) (attrs : Array Attribute := #[]) (ms : Array MethodInfo := #[]) (fl : Nat := 33) (sup : Nat := 0) (ifs : Array Nat := #[]) (fds : Array FieldInfo := #[]) : ClassFile where
  minorVersion := 0
  majorVersion := 65
  constantPool := pool
  accessFlags := fl
  thisClass := this
  superClass := sup
  interfaces := ifs
  fields := fds
  methods := ms
  attributes := attrs
def plain (name : String) (sup : Option ClassId) : Class where
  name := name
  kind := .ordinary
  loader := none
  accessFlags := 33
  super := sup
  interfaces := #[]
  cf := none
  fields := #[]
  methods := #[]
  instanceTypes := #[]
  staticTypes := #[]
  resolved := #[]
  callSites := []
  init := .initialized
  statics := none
  mirror := none

def pool0 : Array CpInfo := pool [(5, u "<init>"), (0, u "()V"), (1, .class_ 10), (1, u "java/lang/Object")] 113

def k0m0 : Method := { name := "<init>", desc := "()V", sig := { parameters := [], returnType := none }, accessFlags := 1, code := none }
/-- java/lang/Object -/
def k0 : Class := { plain "java/lang/Object" none with
  accessFlags := 33
  interfaces := #[]
  cf := some (fileOf pool0 8 #[] #[{ accessFlags := 1, nameIndex := 5, descriptorIndex := 6, attributes := #[] }] 33 0 #[] #[])
  fields := #[]
  methods := #[k0m0]
  instanceTypes := #[]
  staticTypes := #[]
  resolved := Array.replicate 124 none
  statics := none }

def pool1 : Array CpInfo := pool [(2, .class_ 4), (1, u "java/lang/Object"), (0, u "<init>"), (0, u "()V"), (0, .integer 65535), (0, .methodref 9 10), (0, .class_ 11), (0, .nameAndType 12 13), (0, u "com/example/evenkeel/evenkeel/http/HeaderName"), (0, u "hash"), (0, u "([BII)I"), (0, .methodref 15 16), (0, .class_ 17), (0, .nameAndType 18 19), (0, u "com/example/evenkeel/evenkeel/http/HeaderNameHashPinLaw"), (0, u "fold"), (0, u "(B)I"), (0, .long 29791), (1, .long 961), (1, .long 31), (1, .methodref 15 27), (0, .nameAndType 28 29), (0, u "flip"), (0, u "(B)B"), (3, u "law"), (0, u "(IIII)Z")] 4

def k1m0 : Method := { name := "<init>", desc := "()V", sig := { parameters := [], returnType := none }, accessFlags := 2, code := none }
def k1c1 : Code := { maxStack := 2, maxLocals := 2, code := method_2_code, exceptionTable := #[], attributes := #[] }
def k1m1 : Method := { name := "fold", desc := "(B)I", sig := { parameters := [.byte], returnType := some .int }, accessFlags := 10, code := some k1c1 }
def k1c2 : Code := { maxStack := 2, maxLocals := 2, code := method_3_code, exceptionTable := #[], attributes := #[] }
def k1m2 : Method := { name := "flip", desc := "(B)B", sig := { parameters := [.byte], returnType := some .byte }, accessFlags := 10, code := some k1c2 }
def k1c3 : Code := { maxStack := 6, maxLocals := 18, code := code, exceptionTable := #[], attributes := #[] }
def k1m3 : Method := { name := "law", desc := "(IIII)Z", sig := { parameters := [.int, .int, .int, .int], returnType := some .boolean }, accessFlags := 9, code := some k1c3 }
/-- com/example/evenkeel/evenkeel/http/HeaderNameHashPinLaw -/
def k1 : Class := { plain "com/example/evenkeel/evenkeel/http/HeaderNameHashPinLaw" (some 0) with
  accessFlags := 49
  interfaces := #[]
  cf := some (fileOf pool1 15 #[] #[{ accessFlags := 2, nameIndex := 5, descriptorIndex := 6, attributes := #[] }, { accessFlags := 10, nameIndex := 18, descriptorIndex := 19, attributes := #[] }, { accessFlags := 10, nameIndex := 28, descriptorIndex := 29, attributes := #[] }, { accessFlags := 9, nameIndex := 33, descriptorIndex := 34, attributes := #[] }] 49 2 #[] #[])
  fields := #[]
  methods := #[k1m0, k1m1, k1m2, k1m3]
  instanceTypes := #[]
  staticTypes := #[]
  resolved := Array.replicate 39 none
  statics := none }

def pool2 : Array CpInfo := pool [(1, .class_ 2), (0, u "java/lang/Comparable"), (0, .class_ 4), (0, u "java/lang/Object")] 7

/-- java/lang/Comparable -/
def k2 : Class := { plain "java/lang/Comparable" (some 0) with
  accessFlags := 1537
  interfaces := #[]
  cf := some (fileOf pool2 1 #[] #[] 1537 3 #[] #[])
  fields := #[]
  methods := #[]
  instanceTypes := #[]
  staticTypes := #[]
  resolved := Array.replicate 12 none
  statics := none }

def pool3 : Array CpInfo := pool [(2, .class_ 4), (1, u "java/lang/Object"), (3, .class_ 10), (1, u "com/example/evenkeel/evenkeel/http/HeaderName"), (0, u "text"), (0, u "Ljava/lang/String;"), (2, u "characters"), (0, u "[B"), (2, u "hash"), (0, u "([BII)I"), (2, u "I"), (48, u "CONNECTION"), (0, u "Lcom/example/evenkeel/evenkeel/http/HeaderName;"), (4, u "CONTENT_LENGTH"), (4, u "TRANSFER_ENCODING"), (4, u "HOST"), (4, u "DATE"), (4, u "EXPECT"), (0, .class_ 100), (0, u "java/lang/Comparable"), (0, u "CASE")] 19

def k3c0 : Code := { maxStack := 4, maxLocals := 7, code := prog_30_method_6_code, exceptionTable := #[], attributes := #[] }
def k3m0 : Method := { name := "hash", desc := "([BII)I", sig := { parameters := [(.array .byte), .int, .int], returnType := some .int }, accessFlags := 8, code := some k3c0 }
/-- com/example/evenkeel/evenkeel/http/HeaderName -/
def k3 : Class := { plain "com/example/evenkeel/evenkeel/http/HeaderName" (some 0) with
  accessFlags := 49
  interfaces := #[2]
  cf := some (fileOf pool3 8 #[] #[{ accessFlags := 8, nameIndex := 19, descriptorIndex := 20, attributes := #[] }] 49 2 #[99] #[{ accessFlags := 25, nameIndex := 72, descriptorIndex := 73, attributes := #[] }, { accessFlags := 25, nameIndex := 78, descriptorIndex := 73, attributes := #[] }, { accessFlags := 25, nameIndex := 83, descriptorIndex := 73, attributes := #[] }, { accessFlags := 25, nameIndex := 88, descriptorIndex := 73, attributes := #[] }, { accessFlags := 25, nameIndex := 93, descriptorIndex := 73, attributes := #[] }, { accessFlags := 25, nameIndex := 98, descriptorIndex := 73, attributes := #[] }, { accessFlags := 26, nameIndex := 101, descriptorIndex := 23, attributes := #[] }, { accessFlags := 18, nameIndex := 11, descriptorIndex := 12, attributes := #[] }, { accessFlags := 18, nameIndex := 15, descriptorIndex := 16, attributes := #[] }, { accessFlags := 18, nameIndex := 19, descriptorIndex := 23, attributes := #[] }])
  fields := #[{ name := "CONNECTION", type := (.object "com/example/evenkeel/evenkeel/http/HeaderName"), accessFlags := 25, slot := 0, constantValue := 0 }, { name := "CONTENT_LENGTH", type := (.object "com/example/evenkeel/evenkeel/http/HeaderName"), accessFlags := 25, slot := 1, constantValue := 0 }, { name := "TRANSFER_ENCODING", type := (.object "com/example/evenkeel/evenkeel/http/HeaderName"), accessFlags := 25, slot := 2, constantValue := 0 }, { name := "HOST", type := (.object "com/example/evenkeel/evenkeel/http/HeaderName"), accessFlags := 25, slot := 3, constantValue := 0 }, { name := "DATE", type := (.object "com/example/evenkeel/evenkeel/http/HeaderName"), accessFlags := 25, slot := 4, constantValue := 0 }, { name := "EXPECT", type := (.object "com/example/evenkeel/evenkeel/http/HeaderName"), accessFlags := 25, slot := 5, constantValue := 0 }, { name := "CASE", type := .int, accessFlags := 26, slot := 6, constantValue := 0 }, { name := "text", type := (.object "java/lang/String"), accessFlags := 18, slot := 0, constantValue := 0 }, { name := "characters", type := (.array .byte), accessFlags := 18, slot := 1, constantValue := 0 }, { name := "hash", type := .int, accessFlags := 18, slot := 2, constantValue := 0 }]
  methods := #[k3m0]
  instanceTypes := #[(.object "java/lang/String"), (.array .byte), .int]
  staticTypes := #[(.object "com/example/evenkeel/evenkeel/http/HeaderName"), (.object "com/example/evenkeel/evenkeel/http/HeaderName"), (.object "com/example/evenkeel/evenkeel/http/HeaderName"), (.object "com/example/evenkeel/evenkeel/http/HeaderName"), (.object "com/example/evenkeel/evenkeel/http/HeaderName"), (.object "com/example/evenkeel/evenkeel/http/HeaderName"), .int]
  resolved := Array.replicate 121 none
  statics := none }

def pool4 : Array CpInfo := pool [(1, u "java/lang/Cloneable"), (0, .class_ 1), (0, u "java/lang/Object"), (0, .class_ 3)] 3

/-- java/lang/Cloneable -/
def k4 : Class := { plain "java/lang/Cloneable" (some 0) with
  accessFlags := 1537
  interfaces := #[]
  cf := some (fileOf pool4 2 #[] #[] 1537 4 #[] #[])
  fields := #[]
  methods := #[]
  instanceTypes := #[]
  staticTypes := #[]
  resolved := Array.replicate 8 none
  statics := none }

def pool5 : Array CpInfo := pool [(1, u "java/io/Serializable"), (0, .class_ 1), (0, u "java/lang/Object"), (0, .class_ 3)] 3

/-- java/io/Serializable -/
def k5 : Class := { plain "java/io/Serializable" (some 0) with
  accessFlags := 1537
  interfaces := #[]
  cf := some (fileOf pool5 2 #[] #[] 1537 4 #[] #[])
  fields := #[]
  methods := #[]
  instanceTypes := #[]
  staticTypes := #[]
  resolved := Array.replicate 8 none
  statics := none }

/-- the primitive byte -/
def k6 : Class := { plain "byte" none with kind := .primitive 'B', accessFlags := 0x411 }
/-- [B -/
def k7 : Class := { plain "[B" (some 0) with kind := .array 6 .byte, interfaces := #[4, 5], accessFlags := 1041 }

/-- the primitive int -/
def k8 : Class := { plain "int" none with kind := .primitive 'I', accessFlags := 0x411 }
/-- [I -/
def k9 : Class := { plain "[I" (some 0) with kind := .array 8 .int, interfaces := #[4, 5], accessFlags := 1041 }

def heap : Heap := #[]
def classes : Array Class := #[k0, k1, k2, k3, k4, k5, k6, k7, k8, k9]
def interned : List (Array UInt16 × Addr) := []
def slotsUsed : Nat := 0
def theMethod : MethodId := ⟨1, 3⟩
def args0 : Array Value := #[.int 5, .int 6, .int 7, .int 8]
def aboutOver (below : List Frame) : State where
  vm := { classes := classes, interned := interned.toArray }
  heap := heap
  slotsUsed := slotsUsed
  threads := #[{ frames := .invoking theMethod args0 :: below }]
def below0 : List Frame := [.native { method := ⟨0, 0⟩, args := #[] }]
def about1 : State := aboutOver below0
def p0 : Program := .bare "" "" ""
def e0 : Env := launch0.env 0 0 0
theorem w_frames : about1.frames = Frame.invoking theMethod args0 :: below0 := rfl
set_option maxRecDepth 65536 in
theorem w_args : argsFit about1.vm theMethod args0 = true := by decide +kernel
set_option maxRecDepth 65536 in
theorem w_heap : heapFits about1 = true := by decide +kernel
set_option maxRecDepth 65536 in
theorem w_runnable : about1.curStatus? = some .runnable := by decide +kernel
set_option maxRecDepth 65536 in
theorem w_alone : about1.alone = true := by decide +kernel
set_option maxRecDepth 65536 in
theorem w_named : about1.methodNamed? x = some theMethod := by decide +kernel
set_option maxRecDepth 65536 in
theorem w_hears : about1.hears theMethod below0 = true := by decide +kernel
set_option maxRecDepth 65536 in
theorem w_ripe : about1.ripe theMethod args0 below0 = true := by decide +kernel
theorem w_running : about1.status = .running := rfl
set_option maxRecDepth 65536 in
theorem w_room : about1.hasRoom e0.platform room_1 = true :=
  launch0.hasRoom_least _ room_1 (by decide +kernel) (by decide +kernel) (by decide +kernel) (by decide +kernel) (by decide +kernel) (by decide +kernel)
theorem allAtoms_all (ts : List Jvm.Cond) (a : Array Jvm.Value) (st : Jvm.State) : (allAtoms ts).before a st = ts.all (fun c => c.before a st) := by
  induction ts with
  | nil => rfl
  | cons c t ih =>
    show (Jvm.Cond.and c (allAtoms t)).before a st = _
    rw [Jvm.Cond.before_and, ih, List.all_cons]
def words1 : List Jvm.Cond := Jvm.Cond.code x code maxLocals ret :: tables_1
/-- a 'code' word, met by the world's own term for the bytes: nothing is compared byte by byte -/
theorem code_word {y : MethodName} {bytes : ByteArray} {mx : Nat} {rt : Option FieldType} {a : Array Value} {s : State} {m : MethodId} {meth : Method} {c : Code} (h1 : s.methodNamed? y = some m) (h2 : s.vm.method? m = some meth) (h3 : meth.code = some c) (h4 : c.code = bytes)
    (h5 : (c.maxLocals == mx && c.exceptionTable.isEmpty && decide (c.maxStack ≤ mostOperands) && decide (meth.sig.returnType = rt) && !meth.locks && decide (parseMethodDescriptor y.desc = some meth.sig)) = true) : (Jvm.Cond.code y bytes mx rt).before a s = true := by
  simp only [Bool.and_eq_true, beq_iff_eq, Bool.not_eq_true', decide_eq_true_eq] at h5
  obtain ⟨⟨⟨⟨⟨g1, g2⟩, g3⟩, g4⟩, g5⟩, g6⟩ := h5
  simp [Cond.before, Cond.holds, Cond.value, h1, h2, h3, h4, g1, g2, g3, g4, g5, g6]
def isCode : Jvm.Cond → Bool
  | .code _ _ _ _ => true
  | _ => false
theorem all_split {L : List Jvm.Cond} {P : Jvm.Cond → Bool} (h1 : L.all (fun c => isCode c || P c) = true) (h2 : ∀ c ∈ L.filter isCode, P c = true) : L.all P = true := by
  refine List.all_eq_true.mpr fun c hc => ?_
  have h := List.all_eq_true.mp h1 c hc
  rcases Bool.eq_false_or_eq_true (isCode c) with hi | hi
  · exact h2 c (List.mem_filter.mpr ⟨hc, hi⟩)
  · simpa [hi] using h
set_option maxRecDepth 65536 in
theorem w_c0 : (Jvm.Cond.code x code maxLocals ret).before args0 about1 = true := code_word (m := ⟨1, 3⟩) (meth := k1m3) (c := k1c3) (by decide +kernel) rfl rfl rfl (by decide +kernel)
set_option maxRecDepth 65536 in
theorem w_c1 : (Jvm.Cond.code ({ cls := "com/example/evenkeel/evenkeel/http/HeaderName", name := "hash", desc := "([BII)I" } : Jvm.MethodName) prog_30_method_6_code (7 : Nat) (Option.some Jvm.ClassFile.FieldType.int)).before args0 about1 = true := code_word (m := ⟨3, 0⟩) (meth := k3m0) (c := k3c0) (by decide +kernel) rfl rfl rfl (by decide +kernel)
set_option maxRecDepth 65536 in
theorem w_c2 : (Jvm.Cond.code ({ cls := "com/example/evenkeel/evenkeel/http/HeaderNameHashPinLaw", name := "flip", desc := "(B)B" } : Jvm.MethodName) method_3_code (2 : Nat) (Option.some Jvm.ClassFile.FieldType.byte)).before args0 about1 = true := code_word (m := ⟨1, 2⟩) (meth := k1m2) (c := k1c2) (by decide +kernel) rfl rfl rfl (by decide +kernel)
set_option maxRecDepth 65536 in
theorem w_c3 : (Jvm.Cond.code ({ cls := "com/example/evenkeel/evenkeel/http/HeaderNameHashPinLaw", name := "fold", desc := "(B)I" } : Jvm.MethodName) method_2_code (2 : Nat) (Option.some Jvm.ClassFile.FieldType.int)).before args0 about1 = true := code_word (m := ⟨1, 1⟩) (meth := k1m1) (c := k1c1) (by decide +kernel) rfl rfl rfl (by decide +kernel)
def codes1 : List Jvm.Cond := [Jvm.Cond.code x code maxLocals ret, Jvm.Cond.code ({ cls := "com/example/evenkeel/evenkeel/http/HeaderName", name := "hash", desc := "([BII)I" } : Jvm.MethodName) prog_30_method_6_code (7 : Nat) (Option.some Jvm.ClassFile.FieldType.int), Jvm.Cond.code ({ cls := "com/example/evenkeel/evenkeel/http/HeaderNameHashPinLaw", name := "flip", desc := "(B)B" } : Jvm.MethodName) method_3_code (2 : Nat) (Option.some Jvm.ClassFile.FieldType.byte), Jvm.Cond.code ({ cls := "com/example/evenkeel/evenkeel/http/HeaderNameHashPinLaw", name := "fold", desc := "(B)I" } : Jvm.MethodName) method_2_code (2 : Nat) (Option.some Jvm.ClassFile.FieldType.int)]
set_option maxRecDepth 65536 in
theorem codes_eq : words1.filter isCode = codes1 := rfl
theorem w_codes : ∀ c ∈ words1.filter isCode, c.before args0 about1 = true := by
  rw [codes_eq]
  intro c hc
  simp only [codes1, List.mem_cons, List.not_mem_nil, or_false] at hc
  rcases hc with rfl | rfl | rfl | rfl
  · exact w_c0
  · exact w_c1
  · exact w_c2
  · exact w_c3
set_option maxRecDepth 65536 in
theorem w_t1 : words1.all (fun c => isCode c || c.before args0 about1) = true := by decide +kernel
theorem w_tables : (allAtoms (Jvm.Cond.code x code maxLocals ret :: tables_1)).before args0 about1 = true := by
  rw [allAtoms_all]
  show words1.all (fun c => c.before args0 about1) = true
  refine all_split ?_ w_codes
  rw [w_t1]
set_option maxRecDepth 65536 in
theorem w_case : (Jvm.Cond.and given_1 narrow_1).before args0 about1 = true := by decide +kernel
theorem w_applies : (headSpec (Jvm.Cond.code x code maxLocals ret :: tables_1) room_1).applies x e0.platform about1 = true :=
  (Spec.applies_iff w_frames).mpr ⟨w_running, w_runnable, w_alone, w_named, w_hears, w_ripe, w_room, w_tables⟩
theorem atStart : AtStart classFile x code maxLocals ret World_1 tables_1 room_1 Calls_1 rest_1 Pre_1 launch0 p0 e0 about1 theMethod args0 below0 :=
  ⟨lists_1, trivial, launch0.admits_env _ _ _, launch0.least_env, fairChoices_fair.cas, fairChoices_fair.clock, w_frames, w_args, w_heap, w_applies, trivial, trivial, w_case⟩
end start1
theorem witness_1 : WitnessClaimed_1 := ⟨start1.p0, start1.e0, start1.about1, start1.theMethod, start1.args0, start1.below0, start1.atStart⟩
end Jvm.Pilot.@@N@@
