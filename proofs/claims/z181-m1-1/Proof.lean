import JvmDerived
import JvmDerived.Pilot.@@N@@Statement
import JvmDerived.Pilot.@@N@@Code
set_option linter.unusedVariables false
set_option linter.unusedSimpArgs false
namespace Jvm.RoadKit
open Sem ClassFile Op Lib Jvm.Stand Jvm.Free Jvm.LawKit
section New
variable {p : Program} {l : Launch} {e : Env} {R : Room} {s : State} {m : MethodId} {args : Array Value} {below : List Frame} {meth : Method} {c : Code} {T : State} {locs : List Loc} {cells slots : Nat}
theorem retI (X : Stand p l e R s m args below meth c T locs cells slots) (hx : p.tables.exec = Jvm.exec) {pc : Nat} {Ls : Array Slot} {z : Int32} {rest : List Value} (hret : meth.sig.returnType = some .int) (hd : decode c.code pc = .ok (.ireturn, 1)) {fs : List Frame}
    (hl : ∀ (f : JFrame) (acts : List Action), f.method = m → f.locked = none → f.entered = [] → (doReturn e (T.setTop f) acts (some (.int z))).1 = T.setFrames fs) : Steps p.tables e below (T.setTop (mkF m pc Ls (.int z :: rest))) (T.setFrames fs) := by
  have hm' : T.vm.method? m = some meth := X.method'
  have hn : narrow .int (.int z) = .int z := rfl
  show Steps p.tables e below (T.setTop { method := m, pc := pc, locals := Ls, stack := _ :: rest, locked := none }) _
  jvm_step X.here [X.here.top, hx, hd, hm', hret, hn]
  first | (intro acts; rw [hl _ acts rfl rfl rfl]) | rw [hl _ _ rfl rfl rfl]
  exact Steps.refl _
end New
end Jvm.RoadKit
namespace Jvm.Pilot.@@N@@
open Jvm Jvm.ClassFile Sem Op Lib Jvm.Free Jvm.Stand Jvm.LawKit Jvm.RoadKit Bundle Jvm.Pilot.@@N@@.Jvm.D
theorem pn_0 : plainName "com/example/sloj/sloj/model/Names" = true := by first | (simp [plainName, overriddenIn]; done) | decide +kernel
theorem pn_1 : plainName "com/example/sloj/sloj/model/NamesIsNameStartPinLaw" = true := by first | (simp [plainName, overriddenIn]; done) | decide +kernel
theorem pd_0 : parseMethodDescriptor "(I)Z" = some ⟨[.int], some .boolean⟩ := by decide +kernel
theorem d1_0 : decode prog_111_method_4_code 0 = .ok (.iload_n 0, 1) := by decide +kernel
theorem d1_1 : decode prog_111_method_4_code 1 = .ok (.bipush 97, 2) := by decide +kernel
theorem d1_3 : decode prog_111_method_4_code 3 = .ok (.if_icmp .lt 9, 3) := by decide +kernel
theorem d1_6 : decode prog_111_method_4_code 6 = .ok (.iload_n 0, 1) := by decide +kernel
theorem d1_7 : decode prog_111_method_4_code 7 = .ok (.bipush 122, 2) := by decide +kernel
theorem d1_9 : decode prog_111_method_4_code 9 = .ok (.if_icmp .le 182, 3) := by decide +kernel
theorem d1_12 : decode prog_111_method_4_code 12 = .ok (.iload_n 0, 1) := by decide +kernel
theorem d1_13 : decode prog_111_method_4_code 13 = .ok (.bipush 65, 2) := by decide +kernel
theorem d1_15 : decode prog_111_method_4_code 15 = .ok (.if_icmp .lt 9, 3) := by decide +kernel
theorem d1_18 : decode prog_111_method_4_code 18 = .ok (.iload_n 0, 1) := by decide +kernel
theorem d1_19 : decode prog_111_method_4_code 19 = .ok (.bipush 90, 2) := by decide +kernel
theorem d1_21 : decode prog_111_method_4_code 21 = .ok (.if_icmp .le 170, 3) := by decide +kernel
theorem d1_24 : decode prog_111_method_4_code 24 = .ok (.iload_n 0, 1) := by decide +kernel
theorem d1_25 : decode prog_111_method_4_code 25 = .ok (.bipush 95, 2) := by decide +kernel
theorem d1_27 : decode prog_111_method_4_code 27 = .ok (.if_icmp .eq 164, 3) := by decide +kernel
theorem d1_30 : decode prog_111_method_4_code 30 = .ok (.iload_n 0, 1) := by decide +kernel
theorem d1_31 : decode prog_111_method_4_code 31 = .ok (.sipush 192, 3) := by decide +kernel
theorem d1_34 : decode prog_111_method_4_code 34 = .ok (.if_icmp .lt 10, 3) := by decide +kernel
theorem d1_37 : decode prog_111_method_4_code 37 = .ok (.iload_n 0, 1) := by decide +kernel
theorem d1_38 : decode prog_111_method_4_code 38 = .ok (.sipush 214, 3) := by decide +kernel
theorem d1_41 : decode prog_111_method_4_code 41 = .ok (.if_icmp .le 150, 3) := by decide +kernel
theorem d1_44 : decode prog_111_method_4_code 44 = .ok (.iload_n 0, 1) := by decide +kernel
theorem d1_45 : decode prog_111_method_4_code 45 = .ok (.sipush 216, 3) := by decide +kernel
theorem d1_48 : decode prog_111_method_4_code 48 = .ok (.if_icmp .lt 10, 3) := by decide +kernel
theorem d1_51 : decode prog_111_method_4_code 51 = .ok (.iload_n 0, 1) := by decide +kernel
theorem d1_52 : decode prog_111_method_4_code 52 = .ok (.sipush 246, 3) := by decide +kernel
theorem d1_55 : decode prog_111_method_4_code 55 = .ok (.if_icmp .le 136, 3) := by decide +kernel
theorem d1_58 : decode prog_111_method_4_code 58 = .ok (.iload_n 0, 1) := by decide +kernel
theorem d1_59 : decode prog_111_method_4_code 59 = .ok (.sipush 248, 3) := by decide +kernel
theorem d1_62 : decode prog_111_method_4_code 62 = .ok (.if_icmp .lt 10, 3) := by decide +kernel
theorem d1_65 : decode prog_111_method_4_code 65 = .ok (.iload_n 0, 1) := by decide +kernel
theorem d1_66 : decode prog_111_method_4_code 66 = .ok (.sipush 767, 3) := by decide +kernel
theorem d1_69 : decode prog_111_method_4_code 69 = .ok (.if_icmp .le 122, 3) := by decide +kernel
theorem d1_72 : decode prog_111_method_4_code 72 = .ok (.iload_n 0, 1) := by decide +kernel
theorem d1_73 : decode prog_111_method_4_code 73 = .ok (.sipush 880, 3) := by decide +kernel
theorem d1_76 : decode prog_111_method_4_code 76 = .ok (.if_icmp .lt 10, 3) := by decide +kernel
theorem d1_79 : decode prog_111_method_4_code 79 = .ok (.iload_n 0, 1) := by decide +kernel
theorem d1_80 : decode prog_111_method_4_code 80 = .ok (.sipush 893, 3) := by decide +kernel
theorem d1_83 : decode prog_111_method_4_code 83 = .ok (.if_icmp .le 108, 3) := by decide +kernel
theorem d1_86 : decode prog_111_method_4_code 86 = .ok (.iload_n 0, 1) := by decide +kernel
theorem d1_87 : decode prog_111_method_4_code 87 = .ok (.sipush 895, 3) := by decide +kernel
theorem d1_90 : decode prog_111_method_4_code 90 = .ok (.if_icmp .lt 10, 3) := by decide +kernel
theorem d1_93 : decode prog_111_method_4_code 93 = .ok (.iload_n 0, 1) := by decide +kernel
theorem d1_94 : decode prog_111_method_4_code 94 = .ok (.sipush 8191, 3) := by decide +kernel
theorem d1_97 : decode prog_111_method_4_code 97 = .ok (.if_icmp .le 94, 3) := by decide +kernel
theorem d1_100 : decode prog_111_method_4_code 100 = .ok (.iload_n 0, 1) := by decide +kernel
theorem d1_101 : decode prog_111_method_4_code 101 = .ok (.sipush 8204, 3) := by decide +kernel
theorem d1_104 : decode prog_111_method_4_code 104 = .ok (.if_icmp .lt 10, 3) := by decide +kernel
theorem d1_107 : decode prog_111_method_4_code 107 = .ok (.iload_n 0, 1) := by decide +kernel
theorem d1_108 : decode prog_111_method_4_code 108 = .ok (.sipush 8205, 3) := by decide +kernel
theorem d1_111 : decode prog_111_method_4_code 111 = .ok (.if_icmp .le 80, 3) := by decide +kernel
theorem d1_114 : decode prog_111_method_4_code 114 = .ok (.iload_n 0, 1) := by decide +kernel
theorem d1_115 : decode prog_111_method_4_code 115 = .ok (.sipush 8304, 3) := by decide +kernel
theorem d1_118 : decode prog_111_method_4_code 118 = .ok (.if_icmp .lt 10, 3) := by decide +kernel
theorem d1_121 : decode prog_111_method_4_code 121 = .ok (.iload_n 0, 1) := by decide +kernel
theorem d1_122 : decode prog_111_method_4_code 122 = .ok (.sipush 8591, 3) := by decide +kernel
theorem d1_125 : decode prog_111_method_4_code 125 = .ok (.if_icmp .le 66, 3) := by decide +kernel
theorem d1_128 : decode prog_111_method_4_code 128 = .ok (.iload_n 0, 1) := by decide +kernel
theorem d1_129 : decode prog_111_method_4_code 129 = .ok (.sipush 11264, 3) := by decide +kernel
theorem d1_132 : decode prog_111_method_4_code 132 = .ok (.if_icmp .lt 10, 3) := by decide +kernel
theorem d1_135 : decode prog_111_method_4_code 135 = .ok (.iload_n 0, 1) := by decide +kernel
theorem d1_136 : decode prog_111_method_4_code 136 = .ok (.sipush 12271, 3) := by decide +kernel
theorem d1_139 : decode prog_111_method_4_code 139 = .ok (.if_icmp .le 52, 3) := by decide +kernel
theorem d1_142 : decode prog_111_method_4_code 142 = .ok (.iload_n 0, 1) := by decide +kernel
theorem d1_143 : decode prog_111_method_4_code 143 = .ok (.sipush 12289, 3) := by decide +kernel
theorem d1_146 : decode prog_111_method_4_code 146 = .ok (.if_icmp .lt 9, 3) := by decide +kernel
theorem d1_149 : decode prog_111_method_4_code 149 = .ok (.iload_n 0, 1) := by decide +kernel
theorem d1_150 : decode prog_111_method_4_code 150 = .ok (.ldc 45, 2) := by decide +kernel
theorem d1_152 : decode prog_111_method_4_code 152 = .ok (.if_icmp .le 39, 3) := by decide +kernel
theorem d1_155 : decode prog_111_method_4_code 155 = .ok (.iload_n 0, 1) := by decide +kernel
theorem d1_156 : decode prog_111_method_4_code 156 = .ok (.ldc 46, 2) := by decide +kernel
theorem d1_158 : decode prog_111_method_4_code 158 = .ok (.if_icmp .lt 9, 3) := by decide +kernel
theorem d1_161 : decode prog_111_method_4_code 161 = .ok (.iload_n 0, 1) := by decide +kernel
theorem d1_162 : decode prog_111_method_4_code 162 = .ok (.ldc 47, 2) := by decide +kernel
theorem d1_164 : decode prog_111_method_4_code 164 = .ok (.if_icmp .le 27, 3) := by decide +kernel
theorem d1_167 : decode prog_111_method_4_code 167 = .ok (.iload_n 0, 1) := by decide +kernel
theorem d1_168 : decode prog_111_method_4_code 168 = .ok (.ldc 48, 2) := by decide +kernel
theorem d1_170 : decode prog_111_method_4_code 170 = .ok (.if_icmp .lt 9, 3) := by decide +kernel
theorem d1_173 : decode prog_111_method_4_code 173 = .ok (.iload_n 0, 1) := by decide +kernel
theorem d1_174 : decode prog_111_method_4_code 174 = .ok (.ldc 49, 2) := by decide +kernel
theorem d1_176 : decode prog_111_method_4_code 176 = .ok (.if_icmp .le 15, 3) := by decide +kernel
theorem d1_179 : decode prog_111_method_4_code 179 = .ok (.iload_n 0, 1) := by decide +kernel
theorem d1_180 : decode prog_111_method_4_code 180 = .ok (.ldc 50, 2) := by decide +kernel
theorem d1_182 : decode prog_111_method_4_code 182 = .ok (.if_icmp .lt 13, 3) := by decide +kernel
theorem d1_185 : decode prog_111_method_4_code 185 = .ok (.iload_n 0, 1) := by decide +kernel
theorem d1_186 : decode prog_111_method_4_code 186 = .ok (.ldc 51, 2) := by decide +kernel
theorem d1_188 : decode prog_111_method_4_code 188 = .ok (.if_icmp .gt 7, 3) := by decide +kernel
theorem d1_191 : decode prog_111_method_4_code 191 = .ok (.iconst 1, 1) := by decide +kernel
theorem d1_192 : decode prog_111_method_4_code 192 = .ok (.goto 4, 3) := by decide +kernel
theorem d1_195 : decode prog_111_method_4_code 195 = .ok (.iconst 0, 1) := by decide +kernel
theorem d1_196 : decode prog_111_method_4_code 196 = .ok (.ireturn, 1) := by decide +kernel
def g1_196 (p1 : Int32)  (z196_0 : Int32) : Int32 := (nar .boolean z196_0)
def g1_195 (p1 : Int32)   : Int32 := (g1_196 p1  (0 : Int32))
def g1_191 (p1 : Int32)   : Int32 := (g1_196 p1  (1 : Int32))
def g1_185 (p1 : Int32)   : Int32 := if (983039 : Int32) < p1 then (g1_195 p1  ) else (g1_191 p1  )
def g1_179 (p1 : Int32)   : Int32 := if p1 < (65536 : Int32) then (g1_195 p1  ) else (g1_185 p1  )
def g1_173 (p1 : Int32)   : Int32 := if (65533 : Int32) < p1 then (g1_179 p1  ) else (g1_191 p1  )
def g1_167 (p1 : Int32)   : Int32 := if p1 < (65008 : Int32) then (g1_179 p1  ) else (g1_173 p1  )
def g1_161 (p1 : Int32)   : Int32 := if (64975 : Int32) < p1 then (g1_167 p1  ) else (g1_191 p1  )
def g1_155 (p1 : Int32)   : Int32 := if p1 < (63744 : Int32) then (g1_167 p1  ) else (g1_161 p1  )
def g1_149 (p1 : Int32)   : Int32 := if (55295 : Int32) < p1 then (g1_155 p1  ) else (g1_191 p1  )
def g1_142 (p1 : Int32)   : Int32 := if p1 < (12289 : Int32) then (g1_155 p1  ) else (g1_149 p1  )
def g1_135 (p1 : Int32)   : Int32 := if (12271 : Int32) < p1 then (g1_142 p1  ) else (g1_191 p1  )
def g1_128 (p1 : Int32)   : Int32 := if p1 < (11264 : Int32) then (g1_142 p1  ) else (g1_135 p1  )
def g1_121 (p1 : Int32)   : Int32 := if (8591 : Int32) < p1 then (g1_128 p1  ) else (g1_191 p1  )
def g1_114 (p1 : Int32)   : Int32 := if p1 < (8304 : Int32) then (g1_128 p1  ) else (g1_121 p1  )
def g1_107 (p1 : Int32)   : Int32 := if (8205 : Int32) < p1 then (g1_114 p1  ) else (g1_191 p1  )
def g1_100 (p1 : Int32)   : Int32 := if p1 < (8204 : Int32) then (g1_114 p1  ) else (g1_107 p1  )
def g1_93 (p1 : Int32)   : Int32 := if (8191 : Int32) < p1 then (g1_100 p1  ) else (g1_191 p1  )
def g1_86 (p1 : Int32)   : Int32 := if p1 < (895 : Int32) then (g1_100 p1  ) else (g1_93 p1  )
def g1_79 (p1 : Int32)   : Int32 := if (893 : Int32) < p1 then (g1_86 p1  ) else (g1_191 p1  )
def g1_72 (p1 : Int32)   : Int32 := if p1 < (880 : Int32) then (g1_86 p1  ) else (g1_79 p1  )
def g1_65 (p1 : Int32)   : Int32 := if (767 : Int32) < p1 then (g1_72 p1  ) else (g1_191 p1  )
def g1_58 (p1 : Int32)   : Int32 := if p1 < (248 : Int32) then (g1_72 p1  ) else (g1_65 p1  )
def g1_51 (p1 : Int32)   : Int32 := if (246 : Int32) < p1 then (g1_58 p1  ) else (g1_191 p1  )
def g1_44 (p1 : Int32)   : Int32 := if p1 < (216 : Int32) then (g1_58 p1  ) else (g1_51 p1  )
def g1_37 (p1 : Int32)   : Int32 := if (214 : Int32) < p1 then (g1_44 p1  ) else (g1_191 p1  )
def g1_30 (p1 : Int32)   : Int32 := if p1 < (192 : Int32) then (g1_44 p1  ) else (g1_37 p1  )
def g1_24 (p1 : Int32)   : Int32 := if p1 = (95 : Int32) then (g1_191 p1  ) else (g1_30 p1  )
def g1_18 (p1 : Int32)   : Int32 := if (90 : Int32) < p1 then (g1_24 p1  ) else (g1_191 p1  )
def g1_12 (p1 : Int32)   : Int32 := if p1 < (65 : Int32) then (g1_24 p1  ) else (g1_18 p1  )
def g1_6 (p1 : Int32)   : Int32 := if (122 : Int32) < p1 then (g1_12 p1  ) else (g1_191 p1  )
def g1_0 (p1 : Int32)   : Int32 := if p1 < (97 : Int32) then (g1_12 p1  ) else (g1_6 p1  )
def own_P15 (k : Int) : Prop := False
def own_P14 (k : Int) : Prop := (65536 ≤ k ∧ k ≤ 983039) ∨ own_P15 k
def own_P13 (k : Int) : Prop := (65008 ≤ k ∧ k ≤ 65533) ∨ own_P14 k
def own_P12 (k : Int) : Prop := (63744 ≤ k ∧ k ≤ 64975) ∨ own_P13 k
def own_P11 (k : Int) : Prop := (12289 ≤ k ∧ k ≤ 55295) ∨ own_P12 k
def own_P10 (k : Int) : Prop := (11264 ≤ k ∧ k ≤ 12271) ∨ own_P11 k
def own_P9 (k : Int) : Prop := (8304 ≤ k ∧ k ≤ 8591) ∨ own_P10 k
def own_P8 (k : Int) : Prop := (8204 ≤ k ∧ k ≤ 8205) ∨ own_P9 k
def own_P7 (k : Int) : Prop := (895 ≤ k ∧ k ≤ 8191) ∨ own_P8 k
def own_P6 (k : Int) : Prop := (880 ≤ k ∧ k ≤ 893) ∨ own_P7 k
def own_P5 (k : Int) : Prop := (248 ≤ k ∧ k ≤ 767) ∨ own_P6 k
def own_P4 (k : Int) : Prop := (216 ≤ k ∧ k ≤ 246) ∨ own_P5 k
def own_P3 (k : Int) : Prop := (192 ≤ k ∧ k ≤ 214) ∨ own_P4 k
def own_P2 (k : Int) : Prop := (95 ≤ k ∧ k ≤ 95) ∨ own_P3 k
def own_P1 (k : Int) : Prop := (65 ≤ k ∧ k ≤ 90) ∨ own_P2 k
def own_P0 (k : Int) : Prop := (97 ≤ k ∧ k ≤ 122) ∨ own_P1 k
theorem own_y15 (c : Int32) (h : own_P15 c.toInt) : g1_195 c = 1 := h.elim
theorem own_n15 (c : Int32) (h : ¬ own_P15 c.toInt) : g1_195 c = 0 := rfl
theorem own_y14 (c : Int32) (h : own_P14 c.toInt) : g1_179 c = 1 := by
  show (if c < (65536 : Int32) then g1_195 c else (if (983039 : Int32) < c then g1_195 c else g1_191 c)) = 1
  by_cases q1 : c < (65536 : Int32)
  · rw [if_pos q1]; rw [Int32.lt_iff_toInt_lt, show (65536 : Int32).toInt = 65536 from rfl] at q1; exact own_y15 c (h.resolve_left (fun q => by omega))
  · rw [if_neg q1]; rw [Int32.lt_iff_toInt_lt, show (65536 : Int32).toInt = 65536 from rfl] at q1
    by_cases q2 : (983039 : Int32) < c
    · rw [if_pos q2]; rw [Int32.lt_iff_toInt_lt, show (983039 : Int32).toInt = 983039 from rfl] at q2; exact own_y15 c (h.resolve_left (fun q => by omega))
    · rw [if_neg q2]; rw [Int32.lt_iff_toInt_lt, show (983039 : Int32).toInt = 983039 from rfl] at q2; rfl
theorem own_n14 (c : Int32) (h : ¬ own_P14 c.toInt) : g1_179 c = 0 := by
  show (if c < (65536 : Int32) then g1_195 c else (if (983039 : Int32) < c then g1_195 c else g1_191 c)) = 0
  by_cases q1 : c < (65536 : Int32)
  · rw [if_pos q1]; rw [Int32.lt_iff_toInt_lt, show (65536 : Int32).toInt = 65536 from rfl] at q1; exact own_n15 c (fun q => h (Or.inr q))
  · rw [if_neg q1]; rw [Int32.lt_iff_toInt_lt, show (65536 : Int32).toInt = 65536 from rfl] at q1
    by_cases q2 : (983039 : Int32) < c
    · rw [if_pos q2]; rw [Int32.lt_iff_toInt_lt, show (983039 : Int32).toInt = 983039 from rfl] at q2; exact own_n15 c (fun q => h (Or.inr q))
    · rw [if_neg q2]; rw [Int32.lt_iff_toInt_lt, show (983039 : Int32).toInt = 983039 from rfl] at q2; exact absurd (Or.inl ⟨by omega, by omega⟩) h
theorem own_y13 (c : Int32) (h : own_P13 c.toInt) : g1_167 c = 1 := by
  show (if c < (65008 : Int32) then g1_179 c else (if (65533 : Int32) < c then g1_179 c else g1_191 c)) = 1
  by_cases q1 : c < (65008 : Int32)
  · rw [if_pos q1]; rw [Int32.lt_iff_toInt_lt, show (65008 : Int32).toInt = 65008 from rfl] at q1; exact own_y14 c (h.resolve_left (fun q => by omega))
  · rw [if_neg q1]; rw [Int32.lt_iff_toInt_lt, show (65008 : Int32).toInt = 65008 from rfl] at q1
    by_cases q2 : (65533 : Int32) < c
    · rw [if_pos q2]; rw [Int32.lt_iff_toInt_lt, show (65533 : Int32).toInt = 65533 from rfl] at q2; exact own_y14 c (h.resolve_left (fun q => by omega))
    · rw [if_neg q2]; rw [Int32.lt_iff_toInt_lt, show (65533 : Int32).toInt = 65533 from rfl] at q2; rfl
theorem own_n13 (c : Int32) (h : ¬ own_P13 c.toInt) : g1_167 c = 0 := by
  show (if c < (65008 : Int32) then g1_179 c else (if (65533 : Int32) < c then g1_179 c else g1_191 c)) = 0
  by_cases q1 : c < (65008 : Int32)
  · rw [if_pos q1]; rw [Int32.lt_iff_toInt_lt, show (65008 : Int32).toInt = 65008 from rfl] at q1; exact own_n14 c (fun q => h (Or.inr q))
  · rw [if_neg q1]; rw [Int32.lt_iff_toInt_lt, show (65008 : Int32).toInt = 65008 from rfl] at q1
    by_cases q2 : (65533 : Int32) < c
    · rw [if_pos q2]; rw [Int32.lt_iff_toInt_lt, show (65533 : Int32).toInt = 65533 from rfl] at q2; exact own_n14 c (fun q => h (Or.inr q))
    · rw [if_neg q2]; rw [Int32.lt_iff_toInt_lt, show (65533 : Int32).toInt = 65533 from rfl] at q2; exact absurd (Or.inl ⟨by omega, by omega⟩) h
theorem own_y12 (c : Int32) (h : own_P12 c.toInt) : g1_155 c = 1 := by
  show (if c < (63744 : Int32) then g1_167 c else (if (64975 : Int32) < c then g1_167 c else g1_191 c)) = 1
  by_cases q1 : c < (63744 : Int32)
  · rw [if_pos q1]; rw [Int32.lt_iff_toInt_lt, show (63744 : Int32).toInt = 63744 from rfl] at q1; exact own_y13 c (h.resolve_left (fun q => by omega))
  · rw [if_neg q1]; rw [Int32.lt_iff_toInt_lt, show (63744 : Int32).toInt = 63744 from rfl] at q1
    by_cases q2 : (64975 : Int32) < c
    · rw [if_pos q2]; rw [Int32.lt_iff_toInt_lt, show (64975 : Int32).toInt = 64975 from rfl] at q2; exact own_y13 c (h.resolve_left (fun q => by omega))
    · rw [if_neg q2]; rw [Int32.lt_iff_toInt_lt, show (64975 : Int32).toInt = 64975 from rfl] at q2; rfl
theorem own_n12 (c : Int32) (h : ¬ own_P12 c.toInt) : g1_155 c = 0 := by
  show (if c < (63744 : Int32) then g1_167 c else (if (64975 : Int32) < c then g1_167 c else g1_191 c)) = 0
  by_cases q1 : c < (63744 : Int32)
  · rw [if_pos q1]; rw [Int32.lt_iff_toInt_lt, show (63744 : Int32).toInt = 63744 from rfl] at q1; exact own_n13 c (fun q => h (Or.inr q))
  · rw [if_neg q1]; rw [Int32.lt_iff_toInt_lt, show (63744 : Int32).toInt = 63744 from rfl] at q1
    by_cases q2 : (64975 : Int32) < c
    · rw [if_pos q2]; rw [Int32.lt_iff_toInt_lt, show (64975 : Int32).toInt = 64975 from rfl] at q2; exact own_n13 c (fun q => h (Or.inr q))
    · rw [if_neg q2]; rw [Int32.lt_iff_toInt_lt, show (64975 : Int32).toInt = 64975 from rfl] at q2; exact absurd (Or.inl ⟨by omega, by omega⟩) h
theorem own_y11 (c : Int32) (h : own_P11 c.toInt) : g1_142 c = 1 := by
  show (if c < (12289 : Int32) then g1_155 c else (if (55295 : Int32) < c then g1_155 c else g1_191 c)) = 1
  by_cases q1 : c < (12289 : Int32)
  · rw [if_pos q1]; rw [Int32.lt_iff_toInt_lt, show (12289 : Int32).toInt = 12289 from rfl] at q1; exact own_y12 c (h.resolve_left (fun q => by omega))
  · rw [if_neg q1]; rw [Int32.lt_iff_toInt_lt, show (12289 : Int32).toInt = 12289 from rfl] at q1
    by_cases q2 : (55295 : Int32) < c
    · rw [if_pos q2]; rw [Int32.lt_iff_toInt_lt, show (55295 : Int32).toInt = 55295 from rfl] at q2; exact own_y12 c (h.resolve_left (fun q => by omega))
    · rw [if_neg q2]; rw [Int32.lt_iff_toInt_lt, show (55295 : Int32).toInt = 55295 from rfl] at q2; rfl
theorem own_n11 (c : Int32) (h : ¬ own_P11 c.toInt) : g1_142 c = 0 := by
  show (if c < (12289 : Int32) then g1_155 c else (if (55295 : Int32) < c then g1_155 c else g1_191 c)) = 0
  by_cases q1 : c < (12289 : Int32)
  · rw [if_pos q1]; rw [Int32.lt_iff_toInt_lt, show (12289 : Int32).toInt = 12289 from rfl] at q1; exact own_n12 c (fun q => h (Or.inr q))
  · rw [if_neg q1]; rw [Int32.lt_iff_toInt_lt, show (12289 : Int32).toInt = 12289 from rfl] at q1
    by_cases q2 : (55295 : Int32) < c
    · rw [if_pos q2]; rw [Int32.lt_iff_toInt_lt, show (55295 : Int32).toInt = 55295 from rfl] at q2; exact own_n12 c (fun q => h (Or.inr q))
    · rw [if_neg q2]; rw [Int32.lt_iff_toInt_lt, show (55295 : Int32).toInt = 55295 from rfl] at q2; exact absurd (Or.inl ⟨by omega, by omega⟩) h
theorem own_y10 (c : Int32) (h : own_P10 c.toInt) : g1_128 c = 1 := by
  show (if c < (11264 : Int32) then g1_142 c else (if (12271 : Int32) < c then g1_142 c else g1_191 c)) = 1
  by_cases q1 : c < (11264 : Int32)
  · rw [if_pos q1]; rw [Int32.lt_iff_toInt_lt, show (11264 : Int32).toInt = 11264 from rfl] at q1; exact own_y11 c (h.resolve_left (fun q => by omega))
  · rw [if_neg q1]; rw [Int32.lt_iff_toInt_lt, show (11264 : Int32).toInt = 11264 from rfl] at q1
    by_cases q2 : (12271 : Int32) < c
    · rw [if_pos q2]; rw [Int32.lt_iff_toInt_lt, show (12271 : Int32).toInt = 12271 from rfl] at q2; exact own_y11 c (h.resolve_left (fun q => by omega))
    · rw [if_neg q2]; rw [Int32.lt_iff_toInt_lt, show (12271 : Int32).toInt = 12271 from rfl] at q2; rfl
theorem own_n10 (c : Int32) (h : ¬ own_P10 c.toInt) : g1_128 c = 0 := by
  show (if c < (11264 : Int32) then g1_142 c else (if (12271 : Int32) < c then g1_142 c else g1_191 c)) = 0
  by_cases q1 : c < (11264 : Int32)
  · rw [if_pos q1]; rw [Int32.lt_iff_toInt_lt, show (11264 : Int32).toInt = 11264 from rfl] at q1; exact own_n11 c (fun q => h (Or.inr q))
  · rw [if_neg q1]; rw [Int32.lt_iff_toInt_lt, show (11264 : Int32).toInt = 11264 from rfl] at q1
    by_cases q2 : (12271 : Int32) < c
    · rw [if_pos q2]; rw [Int32.lt_iff_toInt_lt, show (12271 : Int32).toInt = 12271 from rfl] at q2; exact own_n11 c (fun q => h (Or.inr q))
    · rw [if_neg q2]; rw [Int32.lt_iff_toInt_lt, show (12271 : Int32).toInt = 12271 from rfl] at q2; exact absurd (Or.inl ⟨by omega, by omega⟩) h
theorem own_y9 (c : Int32) (h : own_P9 c.toInt) : g1_114 c = 1 := by
  show (if c < (8304 : Int32) then g1_128 c else (if (8591 : Int32) < c then g1_128 c else g1_191 c)) = 1
  by_cases q1 : c < (8304 : Int32)
  · rw [if_pos q1]; rw [Int32.lt_iff_toInt_lt, show (8304 : Int32).toInt = 8304 from rfl] at q1; exact own_y10 c (h.resolve_left (fun q => by omega))
  · rw [if_neg q1]; rw [Int32.lt_iff_toInt_lt, show (8304 : Int32).toInt = 8304 from rfl] at q1
    by_cases q2 : (8591 : Int32) < c
    · rw [if_pos q2]; rw [Int32.lt_iff_toInt_lt, show (8591 : Int32).toInt = 8591 from rfl] at q2; exact own_y10 c (h.resolve_left (fun q => by omega))
    · rw [if_neg q2]; rw [Int32.lt_iff_toInt_lt, show (8591 : Int32).toInt = 8591 from rfl] at q2; rfl
theorem own_n9 (c : Int32) (h : ¬ own_P9 c.toInt) : g1_114 c = 0 := by
  show (if c < (8304 : Int32) then g1_128 c else (if (8591 : Int32) < c then g1_128 c else g1_191 c)) = 0
  by_cases q1 : c < (8304 : Int32)
  · rw [if_pos q1]; rw [Int32.lt_iff_toInt_lt, show (8304 : Int32).toInt = 8304 from rfl] at q1; exact own_n10 c (fun q => h (Or.inr q))
  · rw [if_neg q1]; rw [Int32.lt_iff_toInt_lt, show (8304 : Int32).toInt = 8304 from rfl] at q1
    by_cases q2 : (8591 : Int32) < c
    · rw [if_pos q2]; rw [Int32.lt_iff_toInt_lt, show (8591 : Int32).toInt = 8591 from rfl] at q2; exact own_n10 c (fun q => h (Or.inr q))
    · rw [if_neg q2]; rw [Int32.lt_iff_toInt_lt, show (8591 : Int32).toInt = 8591 from rfl] at q2; exact absurd (Or.inl ⟨by omega, by omega⟩) h
theorem own_y8 (c : Int32) (h : own_P8 c.toInt) : g1_100 c = 1 := by
  show (if c < (8204 : Int32) then g1_114 c else (if (8205 : Int32) < c then g1_114 c else g1_191 c)) = 1
  by_cases q1 : c < (8204 : Int32)
  · rw [if_pos q1]; rw [Int32.lt_iff_toInt_lt, show (8204 : Int32).toInt = 8204 from rfl] at q1; exact own_y9 c (h.resolve_left (fun q => by omega))
  · rw [if_neg q1]; rw [Int32.lt_iff_toInt_lt, show (8204 : Int32).toInt = 8204 from rfl] at q1
    by_cases q2 : (8205 : Int32) < c
    · rw [if_pos q2]; rw [Int32.lt_iff_toInt_lt, show (8205 : Int32).toInt = 8205 from rfl] at q2; exact own_y9 c (h.resolve_left (fun q => by omega))
    · rw [if_neg q2]; rw [Int32.lt_iff_toInt_lt, show (8205 : Int32).toInt = 8205 from rfl] at q2; rfl
theorem own_n8 (c : Int32) (h : ¬ own_P8 c.toInt) : g1_100 c = 0 := by
  show (if c < (8204 : Int32) then g1_114 c else (if (8205 : Int32) < c then g1_114 c else g1_191 c)) = 0
  by_cases q1 : c < (8204 : Int32)
  · rw [if_pos q1]; rw [Int32.lt_iff_toInt_lt, show (8204 : Int32).toInt = 8204 from rfl] at q1; exact own_n9 c (fun q => h (Or.inr q))
  · rw [if_neg q1]; rw [Int32.lt_iff_toInt_lt, show (8204 : Int32).toInt = 8204 from rfl] at q1
    by_cases q2 : (8205 : Int32) < c
    · rw [if_pos q2]; rw [Int32.lt_iff_toInt_lt, show (8205 : Int32).toInt = 8205 from rfl] at q2; exact own_n9 c (fun q => h (Or.inr q))
    · rw [if_neg q2]; rw [Int32.lt_iff_toInt_lt, show (8205 : Int32).toInt = 8205 from rfl] at q2; exact absurd (Or.inl ⟨by omega, by omega⟩) h
theorem own_y7 (c : Int32) (h : own_P7 c.toInt) : g1_86 c = 1 := by
  show (if c < (895 : Int32) then g1_100 c else (if (8191 : Int32) < c then g1_100 c else g1_191 c)) = 1
  by_cases q1 : c < (895 : Int32)
  · rw [if_pos q1]; rw [Int32.lt_iff_toInt_lt, show (895 : Int32).toInt = 895 from rfl] at q1; exact own_y8 c (h.resolve_left (fun q => by omega))
  · rw [if_neg q1]; rw [Int32.lt_iff_toInt_lt, show (895 : Int32).toInt = 895 from rfl] at q1
    by_cases q2 : (8191 : Int32) < c
    · rw [if_pos q2]; rw [Int32.lt_iff_toInt_lt, show (8191 : Int32).toInt = 8191 from rfl] at q2; exact own_y8 c (h.resolve_left (fun q => by omega))
    · rw [if_neg q2]; rw [Int32.lt_iff_toInt_lt, show (8191 : Int32).toInt = 8191 from rfl] at q2; rfl
theorem own_n7 (c : Int32) (h : ¬ own_P7 c.toInt) : g1_86 c = 0 := by
  show (if c < (895 : Int32) then g1_100 c else (if (8191 : Int32) < c then g1_100 c else g1_191 c)) = 0
  by_cases q1 : c < (895 : Int32)
  · rw [if_pos q1]; rw [Int32.lt_iff_toInt_lt, show (895 : Int32).toInt = 895 from rfl] at q1; exact own_n8 c (fun q => h (Or.inr q))
  · rw [if_neg q1]; rw [Int32.lt_iff_toInt_lt, show (895 : Int32).toInt = 895 from rfl] at q1
    by_cases q2 : (8191 : Int32) < c
    · rw [if_pos q2]; rw [Int32.lt_iff_toInt_lt, show (8191 : Int32).toInt = 8191 from rfl] at q2; exact own_n8 c (fun q => h (Or.inr q))
    · rw [if_neg q2]; rw [Int32.lt_iff_toInt_lt, show (8191 : Int32).toInt = 8191 from rfl] at q2; exact absurd (Or.inl ⟨by omega, by omega⟩) h
theorem own_y6 (c : Int32) (h : own_P6 c.toInt) : g1_72 c = 1 := by
  show (if c < (880 : Int32) then g1_86 c else (if (893 : Int32) < c then g1_86 c else g1_191 c)) = 1
  by_cases q1 : c < (880 : Int32)
  · rw [if_pos q1]; rw [Int32.lt_iff_toInt_lt, show (880 : Int32).toInt = 880 from rfl] at q1; exact own_y7 c (h.resolve_left (fun q => by omega))
  · rw [if_neg q1]; rw [Int32.lt_iff_toInt_lt, show (880 : Int32).toInt = 880 from rfl] at q1
    by_cases q2 : (893 : Int32) < c
    · rw [if_pos q2]; rw [Int32.lt_iff_toInt_lt, show (893 : Int32).toInt = 893 from rfl] at q2; exact own_y7 c (h.resolve_left (fun q => by omega))
    · rw [if_neg q2]; rw [Int32.lt_iff_toInt_lt, show (893 : Int32).toInt = 893 from rfl] at q2; rfl
theorem own_n6 (c : Int32) (h : ¬ own_P6 c.toInt) : g1_72 c = 0 := by
  show (if c < (880 : Int32) then g1_86 c else (if (893 : Int32) < c then g1_86 c else g1_191 c)) = 0
  by_cases q1 : c < (880 : Int32)
  · rw [if_pos q1]; rw [Int32.lt_iff_toInt_lt, show (880 : Int32).toInt = 880 from rfl] at q1; exact own_n7 c (fun q => h (Or.inr q))
  · rw [if_neg q1]; rw [Int32.lt_iff_toInt_lt, show (880 : Int32).toInt = 880 from rfl] at q1
    by_cases q2 : (893 : Int32) < c
    · rw [if_pos q2]; rw [Int32.lt_iff_toInt_lt, show (893 : Int32).toInt = 893 from rfl] at q2; exact own_n7 c (fun q => h (Or.inr q))
    · rw [if_neg q2]; rw [Int32.lt_iff_toInt_lt, show (893 : Int32).toInt = 893 from rfl] at q2; exact absurd (Or.inl ⟨by omega, by omega⟩) h
theorem own_y5 (c : Int32) (h : own_P5 c.toInt) : g1_58 c = 1 := by
  show (if c < (248 : Int32) then g1_72 c else (if (767 : Int32) < c then g1_72 c else g1_191 c)) = 1
  by_cases q1 : c < (248 : Int32)
  · rw [if_pos q1]; rw [Int32.lt_iff_toInt_lt, show (248 : Int32).toInt = 248 from rfl] at q1; exact own_y6 c (h.resolve_left (fun q => by omega))
  · rw [if_neg q1]; rw [Int32.lt_iff_toInt_lt, show (248 : Int32).toInt = 248 from rfl] at q1
    by_cases q2 : (767 : Int32) < c
    · rw [if_pos q2]; rw [Int32.lt_iff_toInt_lt, show (767 : Int32).toInt = 767 from rfl] at q2; exact own_y6 c (h.resolve_left (fun q => by omega))
    · rw [if_neg q2]; rw [Int32.lt_iff_toInt_lt, show (767 : Int32).toInt = 767 from rfl] at q2; rfl
theorem own_n5 (c : Int32) (h : ¬ own_P5 c.toInt) : g1_58 c = 0 := by
  show (if c < (248 : Int32) then g1_72 c else (if (767 : Int32) < c then g1_72 c else g1_191 c)) = 0
  by_cases q1 : c < (248 : Int32)
  · rw [if_pos q1]; rw [Int32.lt_iff_toInt_lt, show (248 : Int32).toInt = 248 from rfl] at q1; exact own_n6 c (fun q => h (Or.inr q))
  · rw [if_neg q1]; rw [Int32.lt_iff_toInt_lt, show (248 : Int32).toInt = 248 from rfl] at q1
    by_cases q2 : (767 : Int32) < c
    · rw [if_pos q2]; rw [Int32.lt_iff_toInt_lt, show (767 : Int32).toInt = 767 from rfl] at q2; exact own_n6 c (fun q => h (Or.inr q))
    · rw [if_neg q2]; rw [Int32.lt_iff_toInt_lt, show (767 : Int32).toInt = 767 from rfl] at q2; exact absurd (Or.inl ⟨by omega, by omega⟩) h
theorem own_y4 (c : Int32) (h : own_P4 c.toInt) : g1_44 c = 1 := by
  show (if c < (216 : Int32) then g1_58 c else (if (246 : Int32) < c then g1_58 c else g1_191 c)) = 1
  by_cases q1 : c < (216 : Int32)
  · rw [if_pos q1]; rw [Int32.lt_iff_toInt_lt, show (216 : Int32).toInt = 216 from rfl] at q1; exact own_y5 c (h.resolve_left (fun q => by omega))
  · rw [if_neg q1]; rw [Int32.lt_iff_toInt_lt, show (216 : Int32).toInt = 216 from rfl] at q1
    by_cases q2 : (246 : Int32) < c
    · rw [if_pos q2]; rw [Int32.lt_iff_toInt_lt, show (246 : Int32).toInt = 246 from rfl] at q2; exact own_y5 c (h.resolve_left (fun q => by omega))
    · rw [if_neg q2]; rw [Int32.lt_iff_toInt_lt, show (246 : Int32).toInt = 246 from rfl] at q2; rfl
theorem own_n4 (c : Int32) (h : ¬ own_P4 c.toInt) : g1_44 c = 0 := by
  show (if c < (216 : Int32) then g1_58 c else (if (246 : Int32) < c then g1_58 c else g1_191 c)) = 0
  by_cases q1 : c < (216 : Int32)
  · rw [if_pos q1]; rw [Int32.lt_iff_toInt_lt, show (216 : Int32).toInt = 216 from rfl] at q1; exact own_n5 c (fun q => h (Or.inr q))
  · rw [if_neg q1]; rw [Int32.lt_iff_toInt_lt, show (216 : Int32).toInt = 216 from rfl] at q1
    by_cases q2 : (246 : Int32) < c
    · rw [if_pos q2]; rw [Int32.lt_iff_toInt_lt, show (246 : Int32).toInt = 246 from rfl] at q2; exact own_n5 c (fun q => h (Or.inr q))
    · rw [if_neg q2]; rw [Int32.lt_iff_toInt_lt, show (246 : Int32).toInt = 246 from rfl] at q2; exact absurd (Or.inl ⟨by omega, by omega⟩) h
theorem own_y3 (c : Int32) (h : own_P3 c.toInt) : g1_30 c = 1 := by
  show (if c < (192 : Int32) then g1_44 c else (if (214 : Int32) < c then g1_44 c else g1_191 c)) = 1
  by_cases q1 : c < (192 : Int32)
  · rw [if_pos q1]; rw [Int32.lt_iff_toInt_lt, show (192 : Int32).toInt = 192 from rfl] at q1; exact own_y4 c (h.resolve_left (fun q => by omega))
  · rw [if_neg q1]; rw [Int32.lt_iff_toInt_lt, show (192 : Int32).toInt = 192 from rfl] at q1
    by_cases q2 : (214 : Int32) < c
    · rw [if_pos q2]; rw [Int32.lt_iff_toInt_lt, show (214 : Int32).toInt = 214 from rfl] at q2; exact own_y4 c (h.resolve_left (fun q => by omega))
    · rw [if_neg q2]; rw [Int32.lt_iff_toInt_lt, show (214 : Int32).toInt = 214 from rfl] at q2; rfl
theorem own_n3 (c : Int32) (h : ¬ own_P3 c.toInt) : g1_30 c = 0 := by
  show (if c < (192 : Int32) then g1_44 c else (if (214 : Int32) < c then g1_44 c else g1_191 c)) = 0
  by_cases q1 : c < (192 : Int32)
  · rw [if_pos q1]; rw [Int32.lt_iff_toInt_lt, show (192 : Int32).toInt = 192 from rfl] at q1; exact own_n4 c (fun q => h (Or.inr q))
  · rw [if_neg q1]; rw [Int32.lt_iff_toInt_lt, show (192 : Int32).toInt = 192 from rfl] at q1
    by_cases q2 : (214 : Int32) < c
    · rw [if_pos q2]; rw [Int32.lt_iff_toInt_lt, show (214 : Int32).toInt = 214 from rfl] at q2; exact own_n4 c (fun q => h (Or.inr q))
    · rw [if_neg q2]; rw [Int32.lt_iff_toInt_lt, show (214 : Int32).toInt = 214 from rfl] at q2; exact absurd (Or.inl ⟨by omega, by omega⟩) h
theorem own_y2 (c : Int32) (h : own_P2 c.toInt) : g1_24 c = 1 := by
  show (if c = (95 : Int32) then g1_191 c else g1_30 c) = 1
  by_cases q1 : c = (95 : Int32)
  · rw [if_pos q1]; rw [← Int32.toInt_inj, show (95 : Int32).toInt = 95 from rfl] at q1; rfl
  · rw [if_neg q1]; rw [← Int32.toInt_inj, show (95 : Int32).toInt = 95 from rfl] at q1; exact own_y3 c (h.resolve_left (fun q => by omega))
theorem own_n2 (c : Int32) (h : ¬ own_P2 c.toInt) : g1_24 c = 0 := by
  show (if c = (95 : Int32) then g1_191 c else g1_30 c) = 0
  by_cases q1 : c = (95 : Int32)
  · rw [if_pos q1]; rw [← Int32.toInt_inj, show (95 : Int32).toInt = 95 from rfl] at q1; exact absurd (Or.inl ⟨by omega, by omega⟩) h
  · rw [if_neg q1]; rw [← Int32.toInt_inj, show (95 : Int32).toInt = 95 from rfl] at q1; exact own_n3 c (fun q => h (Or.inr q))
theorem own_y1 (c : Int32) (h : own_P1 c.toInt) : g1_12 c = 1 := by
  show (if c < (65 : Int32) then g1_24 c else (if (90 : Int32) < c then g1_24 c else g1_191 c)) = 1
  by_cases q1 : c < (65 : Int32)
  · rw [if_pos q1]; rw [Int32.lt_iff_toInt_lt, show (65 : Int32).toInt = 65 from rfl] at q1; exact own_y2 c (h.resolve_left (fun q => by omega))
  · rw [if_neg q1]; rw [Int32.lt_iff_toInt_lt, show (65 : Int32).toInt = 65 from rfl] at q1
    by_cases q2 : (90 : Int32) < c
    · rw [if_pos q2]; rw [Int32.lt_iff_toInt_lt, show (90 : Int32).toInt = 90 from rfl] at q2; exact own_y2 c (h.resolve_left (fun q => by omega))
    · rw [if_neg q2]; rw [Int32.lt_iff_toInt_lt, show (90 : Int32).toInt = 90 from rfl] at q2; rfl
theorem own_n1 (c : Int32) (h : ¬ own_P1 c.toInt) : g1_12 c = 0 := by
  show (if c < (65 : Int32) then g1_24 c else (if (90 : Int32) < c then g1_24 c else g1_191 c)) = 0
  by_cases q1 : c < (65 : Int32)
  · rw [if_pos q1]; rw [Int32.lt_iff_toInt_lt, show (65 : Int32).toInt = 65 from rfl] at q1; exact own_n2 c (fun q => h (Or.inr q))
  · rw [if_neg q1]; rw [Int32.lt_iff_toInt_lt, show (65 : Int32).toInt = 65 from rfl] at q1
    by_cases q2 : (90 : Int32) < c
    · rw [if_pos q2]; rw [Int32.lt_iff_toInt_lt, show (90 : Int32).toInt = 90 from rfl] at q2; exact own_n2 c (fun q => h (Or.inr q))
    · rw [if_neg q2]; rw [Int32.lt_iff_toInt_lt, show (90 : Int32).toInt = 90 from rfl] at q2; exact absurd (Or.inl ⟨by omega, by omega⟩) h
theorem own_y0 (c : Int32) (h : own_P0 c.toInt) : g1_0 c = 1 := by
  show (if c < (97 : Int32) then g1_12 c else (if (122 : Int32) < c then g1_12 c else g1_191 c)) = 1
  by_cases q1 : c < (97 : Int32)
  · rw [if_pos q1]; rw [Int32.lt_iff_toInt_lt, show (97 : Int32).toInt = 97 from rfl] at q1; exact own_y1 c (h.resolve_left (fun q => by omega))
  · rw [if_neg q1]; rw [Int32.lt_iff_toInt_lt, show (97 : Int32).toInt = 97 from rfl] at q1
    by_cases q2 : (122 : Int32) < c
    · rw [if_pos q2]; rw [Int32.lt_iff_toInt_lt, show (122 : Int32).toInt = 122 from rfl] at q2; exact own_y1 c (h.resolve_left (fun q => by omega))
    · rw [if_neg q2]; rw [Int32.lt_iff_toInt_lt, show (122 : Int32).toInt = 122 from rfl] at q2; rfl
theorem own_n0 (c : Int32) (h : ¬ own_P0 c.toInt) : g1_0 c = 0 := by
  show (if c < (97 : Int32) then g1_12 c else (if (122 : Int32) < c then g1_12 c else g1_191 c)) = 0
  by_cases q1 : c < (97 : Int32)
  · rw [if_pos q1]; rw [Int32.lt_iff_toInt_lt, show (97 : Int32).toInt = 97 from rfl] at q1; exact own_n1 c (fun q => h (Or.inr q))
  · rw [if_neg q1]; rw [Int32.lt_iff_toInt_lt, show (97 : Int32).toInt = 97 from rfl] at q1
    by_cases q2 : (122 : Int32) < c
    · rw [if_pos q2]; rw [Int32.lt_iff_toInt_lt, show (122 : Int32).toInt = 122 from rfl] at q2; exact own_n1 c (fun q => h (Or.inr q))
    · rw [if_neg q2]; rw [Int32.lt_iff_toInt_lt, show (122 : Int32).toInt = 122 from rfl] at q2; exact absurd (Or.inl ⟨by omega, by omega⟩) h
theorem own_none (k : Int) (h : ¬ (97 ≤ k ∧ k ≤ 122) ∧ ¬ (65 ≤ k ∧ k ≤ 90) ∧ ¬ (95 ≤ k ∧ k ≤ 95) ∧ ¬ (192 ≤ k ∧ k ≤ 214) ∧ ¬ (216 ≤ k ∧ k ≤ 246) ∧ ¬ (248 ≤ k ∧ k ≤ 767) ∧ ¬ (880 ≤ k ∧ k ≤ 893) ∧ ¬ (895 ≤ k ∧ k ≤ 8191) ∧ ¬ (8204 ≤ k ∧ k ≤ 8205) ∧ ¬ (8304 ≤ k ∧ k ≤ 8591) ∧ ¬ (11264 ≤ k ∧ k ≤ 12271) ∧ ¬ (12289 ≤ k ∧ k ≤ 55295) ∧ ¬ (63744 ≤ k ∧ k ≤ 64975) ∧ ¬ (65008 ≤ k ∧ k ≤ 65533) ∧ ¬ (65536 ≤ k ∧ k ≤ 983039)) : ¬ own_P0 k := by
  rintro (q | q | q | q | q | q | q | q | q | q | q | q | q | q | q | q)
  all_goals first | omega | exact q
def own_LO : List Value := [(.int (65 : Int32)), (.int (95 : Int32)), (.int (97 : Int32)), (.int (192 : Int32)), (.int (216 : Int32)), (.int (248 : Int32)), (.int (880 : Int32)), (.int (895 : Int32)), (.int (8204 : Int32)), (.int (8304 : Int32)), (.int (11264 : Int32)), (.int (12289 : Int32)), (.int (63744 : Int32)), (.int (65008 : Int32)), (.int (65536 : Int32))]
def own_HI : List Value := [(.int (90 : Int32)), (.int (95 : Int32)), (.int (122 : Int32)), (.int (214 : Int32)), (.int (246 : Int32)), (.int (767 : Int32)), (.int (893 : Int32)), (.int (8191 : Int32)), (.int (8205 : Int32)), (.int (8591 : Int32)), (.int (12271 : Int32)), (.int (55295 : Int32)), (.int (64975 : Int32)), (.int (65533 : Int32)), (.int (983039 : Int32))]
theorem own_tab (n : Nat) (hn : n < 15) : ∃ lo hi : Int32, own_LO.getD n (.int (0 : Int32)) = .int lo ∧ own_HI.getD n (.int (0 : Int32)) = .int hi ∧ 65 ≤ lo.toInt ∧ lo.toInt ≤ hi.toInt ∧ hi.toInt ≤ 983039 ∧ (∀ x : Int32, lo.toInt ≤ x.toInt → x.toInt ≤ hi.toInt → g1_0 x = 1) ∧ (∀ x : Int32, x.toInt = lo.toInt - 1 → g1_0 x = 0) ∧ (∀ x : Int32, x.toInt = hi.toInt + 1 → g1_0 x = 0) ∧ (n < 14 → ∃ lo' : Int32, own_LO.getD (n + 1) (.int (0 : Int32)) = .int lo' ∧ hi.toInt + 2 ≤ lo'.toInt ∧ lo'.toInt ≤ 65536 ∧ ∀ x : Int32, hi.toInt < x.toInt → x.toInt < lo'.toInt → g1_0 x = 0) := by
  obtain rfl | rfl | rfl | rfl | rfl | rfl | rfl | rfl | rfl | rfl | rfl | rfl | rfl | rfl | rfl : n = 0 ∨ n = 1 ∨ n = 2 ∨ n = 3 ∨ n = 4 ∨ n = 5 ∨ n = 6 ∨ n = 7 ∨ n = 8 ∨ n = 9 ∨ n = 10 ∨ n = 11 ∨ n = 12 ∨ n = 13 ∨ n = 14 := by omega
  · have el : (65 : Int32).toInt = 65 := rfl
    have eh : (90 : Int32).toInt = 90 := rfl
    refine ⟨65, 90, rfl, rfl, by omega, by omega, by omega, fun x h1 h2 => ?_, fun x h => ?_, fun x h => ?_, fun hlt => ?_⟩
    · rw [el] at h1; rw [eh] at h2; exact own_y0 x (Or.inr (Or.inl ⟨by omega, by omega⟩))
    · rw [el] at h; refine own_n0 x (own_none _ ?_); omega
    · rw [eh] at h; refine own_n0 x (own_none _ ?_); omega
    · have el' : (95 : Int32).toInt = 95 := rfl
      refine ⟨95, rfl, by omega, by omega, fun x h1 h2 => ?_⟩
      rw [eh] at h1; rw [el'] at h2; refine own_n0 x (own_none _ ?_); omega
  · have el : (95 : Int32).toInt = 95 := rfl
    have eh : (95 : Int32).toInt = 95 := rfl
    refine ⟨95, 95, rfl, rfl, by omega, by omega, by omega, fun x h1 h2 => ?_, fun x h => ?_, fun x h => ?_, fun hlt => ?_⟩
    · rw [el] at h1; rw [eh] at h2; exact own_y0 x (Or.inr (Or.inr (Or.inl ⟨by omega, by omega⟩)))
    · rw [el] at h; refine own_n0 x (own_none _ ?_); omega
    · rw [eh] at h; refine own_n0 x (own_none _ ?_); omega
    · have el' : (97 : Int32).toInt = 97 := rfl
      refine ⟨97, rfl, by omega, by omega, fun x h1 h2 => ?_⟩
      rw [eh] at h1; rw [el'] at h2; refine own_n0 x (own_none _ ?_); omega
  · have el : (97 : Int32).toInt = 97 := rfl
    have eh : (122 : Int32).toInt = 122 := rfl
    refine ⟨97, 122, rfl, rfl, by omega, by omega, by omega, fun x h1 h2 => ?_, fun x h => ?_, fun x h => ?_, fun hlt => ?_⟩
    · rw [el] at h1; rw [eh] at h2; exact own_y0 x (Or.inl ⟨by omega, by omega⟩)
    · rw [el] at h; refine own_n0 x (own_none _ ?_); omega
    · rw [eh] at h; refine own_n0 x (own_none _ ?_); omega
    · have el' : (192 : Int32).toInt = 192 := rfl
      refine ⟨192, rfl, by omega, by omega, fun x h1 h2 => ?_⟩
      rw [eh] at h1; rw [el'] at h2; refine own_n0 x (own_none _ ?_); omega
  · have el : (192 : Int32).toInt = 192 := rfl
    have eh : (214 : Int32).toInt = 214 := rfl
    refine ⟨192, 214, rfl, rfl, by omega, by omega, by omega, fun x h1 h2 => ?_, fun x h => ?_, fun x h => ?_, fun hlt => ?_⟩
    · rw [el] at h1; rw [eh] at h2; exact own_y0 x (Or.inr (Or.inr (Or.inr (Or.inl ⟨by omega, by omega⟩))))
    · rw [el] at h; refine own_n0 x (own_none _ ?_); omega
    · rw [eh] at h; refine own_n0 x (own_none _ ?_); omega
    · have el' : (216 : Int32).toInt = 216 := rfl
      refine ⟨216, rfl, by omega, by omega, fun x h1 h2 => ?_⟩
      rw [eh] at h1; rw [el'] at h2; refine own_n0 x (own_none _ ?_); omega
  · have el : (216 : Int32).toInt = 216 := rfl
    have eh : (246 : Int32).toInt = 246 := rfl
    refine ⟨216, 246, rfl, rfl, by omega, by omega, by omega, fun x h1 h2 => ?_, fun x h => ?_, fun x h => ?_, fun hlt => ?_⟩
    · rw [el] at h1; rw [eh] at h2; exact own_y0 x (Or.inr (Or.inr (Or.inr (Or.inr (Or.inl ⟨by omega, by omega⟩)))))
    · rw [el] at h; refine own_n0 x (own_none _ ?_); omega
    · rw [eh] at h; refine own_n0 x (own_none _ ?_); omega
    · have el' : (248 : Int32).toInt = 248 := rfl
      refine ⟨248, rfl, by omega, by omega, fun x h1 h2 => ?_⟩
      rw [eh] at h1; rw [el'] at h2; refine own_n0 x (own_none _ ?_); omega
  · have el : (248 : Int32).toInt = 248 := rfl
    have eh : (767 : Int32).toInt = 767 := rfl
    refine ⟨248, 767, rfl, rfl, by omega, by omega, by omega, fun x h1 h2 => ?_, fun x h => ?_, fun x h => ?_, fun hlt => ?_⟩
    · rw [el] at h1; rw [eh] at h2; exact own_y0 x (Or.inr (Or.inr (Or.inr (Or.inr (Or.inr (Or.inl ⟨by omega, by omega⟩))))))
    · rw [el] at h; refine own_n0 x (own_none _ ?_); omega
    · rw [eh] at h; refine own_n0 x (own_none _ ?_); omega
    · have el' : (880 : Int32).toInt = 880 := rfl
      refine ⟨880, rfl, by omega, by omega, fun x h1 h2 => ?_⟩
      rw [eh] at h1; rw [el'] at h2; refine own_n0 x (own_none _ ?_); omega
  · have el : (880 : Int32).toInt = 880 := rfl
    have eh : (893 : Int32).toInt = 893 := rfl
    refine ⟨880, 893, rfl, rfl, by omega, by omega, by omega, fun x h1 h2 => ?_, fun x h => ?_, fun x h => ?_, fun hlt => ?_⟩
    · rw [el] at h1; rw [eh] at h2; exact own_y0 x (Or.inr (Or.inr (Or.inr (Or.inr (Or.inr (Or.inr (Or.inl ⟨by omega, by omega⟩)))))))
    · rw [el] at h; refine own_n0 x (own_none _ ?_); omega
    · rw [eh] at h; refine own_n0 x (own_none _ ?_); omega
    · have el' : (895 : Int32).toInt = 895 := rfl
      refine ⟨895, rfl, by omega, by omega, fun x h1 h2 => ?_⟩
      rw [eh] at h1; rw [el'] at h2; refine own_n0 x (own_none _ ?_); omega
  · have el : (895 : Int32).toInt = 895 := rfl
    have eh : (8191 : Int32).toInt = 8191 := rfl
    refine ⟨895, 8191, rfl, rfl, by omega, by omega, by omega, fun x h1 h2 => ?_, fun x h => ?_, fun x h => ?_, fun hlt => ?_⟩
    · rw [el] at h1; rw [eh] at h2; exact own_y0 x (Or.inr (Or.inr (Or.inr (Or.inr (Or.inr (Or.inr (Or.inr (Or.inl ⟨by omega, by omega⟩))))))))
    · rw [el] at h; refine own_n0 x (own_none _ ?_); omega
    · rw [eh] at h; refine own_n0 x (own_none _ ?_); omega
    · have el' : (8204 : Int32).toInt = 8204 := rfl
      refine ⟨8204, rfl, by omega, by omega, fun x h1 h2 => ?_⟩
      rw [eh] at h1; rw [el'] at h2; refine own_n0 x (own_none _ ?_); omega
  · have el : (8204 : Int32).toInt = 8204 := rfl
    have eh : (8205 : Int32).toInt = 8205 := rfl
    refine ⟨8204, 8205, rfl, rfl, by omega, by omega, by omega, fun x h1 h2 => ?_, fun x h => ?_, fun x h => ?_, fun hlt => ?_⟩
    · rw [el] at h1; rw [eh] at h2; exact own_y0 x (Or.inr (Or.inr (Or.inr (Or.inr (Or.inr (Or.inr (Or.inr (Or.inr (Or.inl ⟨by omega, by omega⟩)))))))))
    · rw [el] at h; refine own_n0 x (own_none _ ?_); omega
    · rw [eh] at h; refine own_n0 x (own_none _ ?_); omega
    · have el' : (8304 : Int32).toInt = 8304 := rfl
      refine ⟨8304, rfl, by omega, by omega, fun x h1 h2 => ?_⟩
      rw [eh] at h1; rw [el'] at h2; refine own_n0 x (own_none _ ?_); omega
  · have el : (8304 : Int32).toInt = 8304 := rfl
    have eh : (8591 : Int32).toInt = 8591 := rfl
    refine ⟨8304, 8591, rfl, rfl, by omega, by omega, by omega, fun x h1 h2 => ?_, fun x h => ?_, fun x h => ?_, fun hlt => ?_⟩
    · rw [el] at h1; rw [eh] at h2; exact own_y0 x (Or.inr (Or.inr (Or.inr (Or.inr (Or.inr (Or.inr (Or.inr (Or.inr (Or.inr (Or.inl ⟨by omega, by omega⟩))))))))))
    · rw [el] at h; refine own_n0 x (own_none _ ?_); omega
    · rw [eh] at h; refine own_n0 x (own_none _ ?_); omega
    · have el' : (11264 : Int32).toInt = 11264 := rfl
      refine ⟨11264, rfl, by omega, by omega, fun x h1 h2 => ?_⟩
      rw [eh] at h1; rw [el'] at h2; refine own_n0 x (own_none _ ?_); omega
  · have el : (11264 : Int32).toInt = 11264 := rfl
    have eh : (12271 : Int32).toInt = 12271 := rfl
    refine ⟨11264, 12271, rfl, rfl, by omega, by omega, by omega, fun x h1 h2 => ?_, fun x h => ?_, fun x h => ?_, fun hlt => ?_⟩
    · rw [el] at h1; rw [eh] at h2; exact own_y0 x (Or.inr (Or.inr (Or.inr (Or.inr (Or.inr (Or.inr (Or.inr (Or.inr (Or.inr (Or.inr (Or.inl ⟨by omega, by omega⟩)))))))))))
    · rw [el] at h; refine own_n0 x (own_none _ ?_); omega
    · rw [eh] at h; refine own_n0 x (own_none _ ?_); omega
    · have el' : (12289 : Int32).toInt = 12289 := rfl
      refine ⟨12289, rfl, by omega, by omega, fun x h1 h2 => ?_⟩
      rw [eh] at h1; rw [el'] at h2; refine own_n0 x (own_none _ ?_); omega
  · have el : (12289 : Int32).toInt = 12289 := rfl
    have eh : (55295 : Int32).toInt = 55295 := rfl
    refine ⟨12289, 55295, rfl, rfl, by omega, by omega, by omega, fun x h1 h2 => ?_, fun x h => ?_, fun x h => ?_, fun hlt => ?_⟩
    · rw [el] at h1; rw [eh] at h2; exact own_y0 x (Or.inr (Or.inr (Or.inr (Or.inr (Or.inr (Or.inr (Or.inr (Or.inr (Or.inr (Or.inr (Or.inr (Or.inl ⟨by omega, by omega⟩))))))))))))
    · rw [el] at h; refine own_n0 x (own_none _ ?_); omega
    · rw [eh] at h; refine own_n0 x (own_none _ ?_); omega
    · have el' : (63744 : Int32).toInt = 63744 := rfl
      refine ⟨63744, rfl, by omega, by omega, fun x h1 h2 => ?_⟩
      rw [eh] at h1; rw [el'] at h2; refine own_n0 x (own_none _ ?_); omega
  · have el : (63744 : Int32).toInt = 63744 := rfl
    have eh : (64975 : Int32).toInt = 64975 := rfl
    refine ⟨63744, 64975, rfl, rfl, by omega, by omega, by omega, fun x h1 h2 => ?_, fun x h => ?_, fun x h => ?_, fun hlt => ?_⟩
    · rw [el] at h1; rw [eh] at h2; exact own_y0 x (Or.inr (Or.inr (Or.inr (Or.inr (Or.inr (Or.inr (Or.inr (Or.inr (Or.inr (Or.inr (Or.inr (Or.inr (Or.inl ⟨by omega, by omega⟩)))))))))))))
    · rw [el] at h; refine own_n0 x (own_none _ ?_); omega
    · rw [eh] at h; refine own_n0 x (own_none _ ?_); omega
    · have el' : (65008 : Int32).toInt = 65008 := rfl
      refine ⟨65008, rfl, by omega, by omega, fun x h1 h2 => ?_⟩
      rw [eh] at h1; rw [el'] at h2; refine own_n0 x (own_none _ ?_); omega
  · have el : (65008 : Int32).toInt = 65008 := rfl
    have eh : (65533 : Int32).toInt = 65533 := rfl
    refine ⟨65008, 65533, rfl, rfl, by omega, by omega, by omega, fun x h1 h2 => ?_, fun x h => ?_, fun x h => ?_, fun hlt => ?_⟩
    · rw [el] at h1; rw [eh] at h2; exact own_y0 x (Or.inr (Or.inr (Or.inr (Or.inr (Or.inr (Or.inr (Or.inr (Or.inr (Or.inr (Or.inr (Or.inr (Or.inr (Or.inr (Or.inl ⟨by omega, by omega⟩))))))))))))))
    · rw [el] at h; refine own_n0 x (own_none _ ?_); omega
    · rw [eh] at h; refine own_n0 x (own_none _ ?_); omega
    · have el' : (65536 : Int32).toInt = 65536 := rfl
      refine ⟨65536, rfl, by omega, by omega, fun x h1 h2 => ?_⟩
      rw [eh] at h1; rw [el'] at h2; refine own_n0 x (own_none _ ?_); omega
  · have el : (65536 : Int32).toInt = 65536 := rfl
    have eh : (983039 : Int32).toInt = 983039 := rfl
    refine ⟨65536, 983039, rfl, rfl, by omega, by omega, by omega, fun x h1 h2 => ?_, fun x h => ?_, fun x h => ?_, fun hlt => ?_⟩
    · rw [el] at h1; rw [eh] at h2; exact own_y0 x (Or.inr (Or.inr (Or.inr (Or.inr (Or.inr (Or.inr (Or.inr (Or.inr (Or.inr (Or.inr (Or.inr (Or.inr (Or.inr (Or.inr (Or.inl ⟨by omega, by omega⟩)))))))))))))))
    · rw [el] at h; refine own_n0 x (own_none _ ?_); omega
    · rw [eh] at h; refine own_n0 x (own_none _ ?_); omega
    · omega
theorem own_rem (x m : Int32) (h : 0 < m.toInt) : 0 ≤ ((x &&& (2147483647 : Int32)) - ((x &&& (2147483647 : Int32)) / m) * m).toInt ∧ ((x &&& (2147483647 : Int32)) - ((x &&& (2147483647 : Int32)) / m) * m).toInt < m.toInt := by
  have m1 := (c_and x 2147483647 (by decide)).1
  rw [rem_toInt, Int.tmod_eq_emod_of_nonneg m1]
  exact ⟨Int.emod_nonneg _ (by omega), Int.emod_lt_of_pos _ h⟩
theorem own_idx (x : Int32) {I : Int32} (h : I = (x &&& (2147483647 : Int32)) - ((x &&& (2147483647 : Int32)) / (15 : Int32)) * (15 : Int32)) : ∃ n : Nat, n < 15 ∧ I.toInt = n := by
  have q := own_rem x 15 (by decide)
  rw [← h, show (15 : Int32).toInt = 15 from rfl] at q
  exact ⟨I.toInt.toNat, by omega, by omega⟩
theorem own_sz {lo hi : Int32} (h1 : 65 ≤ lo.toInt) (h2 : lo.toInt ≤ hi.toInt) (h3 : hi.toInt ≤ 983039) : ((hi - lo) + (1 : Int32)).toInt = hi.toInt - lo.toInt + 1 := by
  have a := c_isub hi lo
  have b := c_iadd (hi - lo) 1
  have e1 : (1 : Int32).toInt = 1 := rfl
  have := rng32 (hi - lo); have := rng32 ((hi - lo) + (1 : Int32))
  omega
theorem own_nz {lo hi : Int32} (h1 : 65 ≤ lo.toInt) (h2 : lo.toInt ≤ hi.toInt) (h3 : hi.toInt ≤ 983039) : ¬ (((hi - lo) + (1 : Int32)) = (0 : Int32)) := by
  intro q
  have a := own_sz h1 h2 h3
  rw [q, show (0 : Int32).toInt = 0 from rfl] at a
  omega
theorem own_in {lo hi D : Int32} (x : Int32) (h1 : 65 ≤ lo.toInt) (h2 : lo.toInt ≤ hi.toInt) (h3 : hi.toInt ≤ 983039) (hD : D = lo + ((x &&& (2147483647 : Int32)) - ((x &&& (2147483647 : Int32)) / ((hi - lo) + (1 : Int32))) * ((hi - lo) + (1 : Int32)))) : lo.toInt ≤ D.toInt ∧ D.toInt ≤ hi.toInt := by
  have a := own_sz h1 h2 h3
  have q := own_rem x ((hi - lo) + (1 : Int32)) (by omega)
  generalize ((x &&& (2147483647 : Int32)) - ((x &&& (2147483647 : Int32)) / ((hi - lo) + (1 : Int32))) * ((hi - lo) + (1 : Int32))) = y at q hD
  have b := c_iadd lo y
  rw [← hD] at b
  have := rng32 D
  omega
theorem own_m1 {lo : Int32} (h1 : 65 ≤ lo.toInt) : (lo - (1 : Int32)).toInt = lo.toInt - 1 := by
  have a := c_isub lo 1
  have e1 : (1 : Int32).toInt = 1 := rfl
  have := rng32 (lo - 1); have := rng32 lo
  omega
theorem own_p1 {hi : Int32} (h1 : 0 ≤ hi.toInt) (h3 : hi.toInt ≤ 983039) : (hi + (1 : Int32)).toInt = hi.toInt + 1 := by
  have a := c_iadd hi 1
  have e1 : (1 : Int32).toInt = 1 := rfl
  have := rng32 (hi + 1)
  omega
theorem own_gs {lo hi : Int32} (h1 : 0 ≤ hi.toInt) (h2 : hi.toInt + 2 ≤ lo.toInt) (h3 : lo.toInt ≤ 65536) : ((lo - hi) - (1 : Int32)).toInt = lo.toInt - hi.toInt - 1 := by
  have a := c_isub lo hi
  have b := c_isub (lo - hi) 1
  have e1 : (1 : Int32).toInt = 1 := rfl
  have := rng32 (lo - hi); have := rng32 ((lo - hi) - (1 : Int32))
  omega
theorem own_gnz {lo hi : Int32} (h1 : 0 ≤ hi.toInt) (h2 : hi.toInt + 2 ≤ lo.toInt) (h3 : lo.toInt ≤ 65536) : ¬ (((lo - hi) - (1 : Int32)) = (0 : Int32)) := by
  intro q
  have a := own_gs h1 h2 h3
  rw [q, show (0 : Int32).toInt = 0 from rfl] at a
  omega
theorem own_gap {lo hi D : Int32} (x : Int32) (h1 : 0 ≤ hi.toInt) (h2 : hi.toInt + 2 ≤ lo.toInt) (h3 : lo.toInt ≤ 65536) (hD : D = (hi + (1 : Int32)) + ((x &&& (2147483647 : Int32)) - ((x &&& (2147483647 : Int32)) / ((lo - hi) - (1 : Int32))) * ((lo - hi) - (1 : Int32)))) : hi.toInt < D.toInt ∧ D.toInt < lo.toInt := by
  have a := own_gs h1 h2 h3
  have q := own_rem x ((lo - hi) - (1 : Int32)) (by omega)
  generalize ((x &&& (2147483647 : Int32)) - ((x &&& (2147483647 : Int32)) / ((lo - hi) - (1 : Int32))) * ((lo - hi) - (1 : Int32))) = y at q hD
  have p1 := own_p1 h1 (by omega : hi.toInt ≤ 983039)
  have b := c_iadd (hi + 1) y
  rw [← hD] at b
  have := rng32 D
  omega
theorem own_out (c : Int32) (h : c < (65 : Int32) ∨ (983039 : Int32) < c) : g1_0 c = 0 := by
  rw [Int32.lt_iff_toInt_lt, Int32.lt_iff_toInt_lt, show (65 : Int32).toInt = 65 from rfl, show (983039 : Int32).toInt = 983039 from rfl] at h
  refine own_n0 c (own_none _ ?_)
  omega
theorem own_nn {I : Int32} {n : Nat} (h : I.toInt = n) : I.toNatClampNeg = n := by show I.toInt.toNat = n; omega
theorem own_bd {I : Int32} {n : Nat} (h : I.toInt = n) (hn : n < 15) : ¬ I < 0 ∧ I < (15 : Int32) := by
  rw [Int32.lt_iff_toInt_lt, Int32.lt_iff_toInt_lt, show (15 : Int32).toInt = 15 from rfl, show (0 : Int32).toInt = 0 from rfl]
  omega
theorem own_i14 {I : Int32} {n : Nat} (h : I.toInt = n) (q : I < (14 : Int32)) : n < 14 := by
  rw [Int32.lt_iff_toInt_lt, show (14 : Int32).toInt = 14 from rfl] at q
  omega
theorem own_next {I : Int32} {n : Nat} (h : I.toInt = n) (hn : n < 15) : (I + (1 : Int32)).toInt = (n + 1 : Nat) := by
  have a := c_iadd I 1
  have e1 : (1 : Int32).toInt = 1 := rfl
  have := rng32 (I + 1)
  omega
theorem ef_1 (m : MethodId) (p1 : Int32) : entryFrame m #[(.int p1)] 1 = mkF m 0 #[.val (.int p1)] [] := by first | (simp [entryFrame, mkF, argsToLocals, Value.category]; done) | rfl
def Q1 (Z : State) (p1 : Int32)  (h0 : Heap) (n0 : Nat) (v : Option Value) (h : Heap) (L : List Loc) : Prop := v = some (.int (g1_0 p1 )) ∧ Fr n0 L ∧ h = h0
set_option maxRecDepth 65536 in
set_option maxHeartbeats 40000000 in
theorem rm1 (l : Launch) (Z : State) (a0 : Array Value) (hw : ∀ d ∈ tables_1, d.before a0 Z = true) (ws : List Jvm.Cond) (p1 : Int32)  (h0 : Heap) (n0 : Nat) (Z0 : n0 ≤ h0.size) :
    MetFree l (⟨"com/example/sloj/sloj/model/Names", "isNameStart", "(I)Z"⟩ : MethodName) (head1 (Jvm.Cond.code (⟨"com/example/sloj/sloj/model/Names", "isNameStart", "(I)Z"⟩ : MethodName) prog_111_method_4_code 1 (some .boolean) :: ws) ({ frames := 0, cells := 0, slots := 0, locals := 0 } : Room)) (fun a U => a = #[(.int p1)] ∧ Z.Warmed39 U.vm ∧ U.heap = h0) (fun _ _ _ _ _ => True) (fun _ U o U' => ∃ v L, o = .returned v ∧ Q1 Z p1 h0 n0 v U'.heap L ∧ FrameEnd U o U' L ({ frames := 0, cells := 0, slots := 0, locals := 0 } : Room).cells ({ frames := 0, cells := 0, slots := 0, locals := 0 } : Room).slots) := by
  refine MetFree.of_bodySF (plainFor_of_name pn_0) hisR ?_
  intro p e s m args below meth c s₁ Bd hml0 hP hK
  obtain ⟨rfl, hZ, hh⟩ := hP
  have hx := Bd.exec
  have hby := Bd.bytes
  have hml : c.maxLocals = 1 := hml0
  have hown : s.vm.findClass "com/example/sloj/sloj/model/Names" = some m.cls := findClass_of_methodNamed Bd.named
  have hnm := (name_of_methodNamed Bd.named Bd.method).1
  have X0 : Stand p l e ({ frames := 0, cells := 0, slots := 0, locals := 0 } : Room) s m #[(.int p1)] below meth c s₁ [] 0 0 := Stand.of_body Bd
  have e0 : s₁.heap = h0 := by rw [← hh, Bd.state]; rfl
  have N0 := Fr.nil n0
  have pre0 : ∀ t, Steps p.tables e below (s₁.setTop (mkF m 0 #[.val (.int p1)] [])) t → Steps p.tables e below (s₁.setTop (entryFrame m #[(.int p1)] 1)) t := fun t k => castTop (ef_1 m p1) k
  obtain ⟨V, hV⟩ : ∃ V : Int32, V = g1_0 p1  := ⟨_, rfl⟩
  obtain ⟨fs, hr, hrun, hended, hW, hsame⟩ := X0.leave (v := some (.int V)) (fun h => by rw [Bd.returns] at h; cases h)
  have b196 : ∀ (z196_0 : Int32), V = (g1_196 p1  z196_0) → Steps p.tables e below (s₁.setTop (mkF m 196 #[.val (.int p1)] [(.int z196_0)])) (s₁.setFrames fs) := by
    intro z196_0 hv
    show Steps p.tables e below (s₁.setTop (mkF m 196 #[.val (.int p1)] [(.int z196_0)])) _
    have hv' : V = (nar .boolean z196_0) := hv
    clear hv
    subst hv'
    exact retN X0 hx (t := .boolean) Bd.returns (by simp) (hb hby d1_196) hr
  have b195 : V = (g1_195 p1  ) → Steps p.tables e below (s₁.setTop (mkF m 195 #[.val (.int p1)] [])) (s₁.setFrames fs) := by
    intro  hv
    show Steps p.tables e below (s₁.setTop (mkF m 195 #[.val (.int p1)] [])) _
    refine XS.iconst X0.here hx rfl (hb hby d1_195) ?_
    show Steps p.tables e below (s₁.setTop (mkF m 196 #[.val (.int p1)] [(.int (0 : Int32))])) _
    exact b196 (0 : Int32) hv
  have b191 : V = (g1_191 p1  ) → Steps p.tables e below (s₁.setTop (mkF m 191 #[.val (.int p1)] [])) (s₁.setFrames fs) := by
    intro  hv
    show Steps p.tables e below (s₁.setTop (mkF m 191 #[.val (.int p1)] [])) _
    refine XS.iconst X0.here hx rfl (hb hby d1_191) ?_
    show Steps p.tables e below (s₁.setTop (mkF m 192 #[.val (.int p1)] [(.int (1 : Int32))])) _
    refine XS.goto X0.here hx rfl (pc0 := 192) (pc' := 196) rfl (hb hby d1_192) (by decide) (by decide) ?_
    show Steps p.tables e below (s₁.setTop (mkF m 196 #[.val (.int p1)] [(.int (1 : Int32))])) _
    exact b196 (1 : Int32) hv
  have b185 : V = (g1_185 p1  ) → Steps p.tables e below (s₁.setTop (mkF m 185 #[.val (.int p1)] [])) (s₁.setFrames fs) := by
    intro  hv
    show Steps p.tables e below (s₁.setTop (mkF m 185 #[.val (.int p1)] [])) _
    refine XS.iloadN X0.here hx rfl (hb hby d1_185) rfl ?_
    show Steps p.tables e below (s₁.setTop (mkF m 186 #[.val (.int p1)] [(.int p1)])) _
    refine X0.ldcInt hx hown (mvT hZ (hw _ (List.mem_of_getElem? (i := 19) rfl))) (g := (mkF m 186 #[.val (.int p1)] [(.int p1)])) rfl (hb hby d1_186) _ ?_
    show Steps p.tables e below (s₁.setTop (mkF m 188 #[.val (.int p1)] [(.int (983039 : Int32)), (.int p1)])) _
    by_cases hc : (983039 : Int32) < p1
    · refine XS.icmpYes X0.here hx rfl (pc0 := 188) (pc' := 195) rfl (hb hby d1_188) rfl (tlt hc).2.2.1 (by decide) (by decide) ?_
      show Steps p.tables e below (s₁.setTop (mkF m 195 #[.val (.int p1)] [])) _
      exact b195  (hv.trans (show (g1_185 p1  ) = (g1_195 p1  ) from if_pos hc))
    · refine XS.icmpNo X0.here hx rfl (hb hby d1_188) rfl (flt hc).2.2.1 ?_
      show Steps p.tables e below (s₁.setTop (mkF m 191 #[.val (.int p1)] [])) _
      exact b191  (hv.trans (show (g1_185 p1  ) = (g1_191 p1  ) from if_neg hc))
  have b179 : V = (g1_179 p1  ) → Steps p.tables e below (s₁.setTop (mkF m 179 #[.val (.int p1)] [])) (s₁.setFrames fs) := by
    intro  hv
    show Steps p.tables e below (s₁.setTop (mkF m 179 #[.val (.int p1)] [])) _
    refine XS.iloadN X0.here hx rfl (hb hby d1_179) rfl ?_
    show Steps p.tables e below (s₁.setTop (mkF m 180 #[.val (.int p1)] [(.int p1)])) _
    refine X0.ldcInt hx hown (mvT hZ (hw _ (List.mem_of_getElem? (i := 15) rfl))) (g := (mkF m 180 #[.val (.int p1)] [(.int p1)])) rfl (hb hby d1_180) _ ?_
    show Steps p.tables e below (s₁.setTop (mkF m 182 #[.val (.int p1)] [(.int (65536 : Int32)), (.int p1)])) _
    by_cases hc : p1 < (65536 : Int32)
    · refine XS.icmpYes X0.here hx rfl (pc0 := 182) (pc' := 195) rfl (hb hby d1_182) rfl (tlt hc).1 (by decide) (by decide) ?_
      show Steps p.tables e below (s₁.setTop (mkF m 195 #[.val (.int p1)] [])) _
      exact b195  (hv.trans (show (g1_179 p1  ) = (g1_195 p1  ) from if_pos hc))
    · refine XS.icmpNo X0.here hx rfl (hb hby d1_182) rfl (flt hc).1 ?_
      show Steps p.tables e below (s₁.setTop (mkF m 185 #[.val (.int p1)] [])) _
      exact b185  (hv.trans (show (g1_179 p1  ) = (g1_185 p1  ) from if_neg hc))
  have b173 : V = (g1_173 p1  ) → Steps p.tables e below (s₁.setTop (mkF m 173 #[.val (.int p1)] [])) (s₁.setFrames fs) := by
    intro  hv
    show Steps p.tables e below (s₁.setTop (mkF m 173 #[.val (.int p1)] [])) _
    refine XS.iloadN X0.here hx rfl (hb hby d1_173) rfl ?_
    show Steps p.tables e below (s₁.setTop (mkF m 174 #[.val (.int p1)] [(.int p1)])) _
    refine X0.ldcInt hx hown (mvT hZ (hw _ (List.mem_of_getElem? (i := 18) rfl))) (g := (mkF m 174 #[.val (.int p1)] [(.int p1)])) rfl (hb hby d1_174) _ ?_
    show Steps p.tables e below (s₁.setTop (mkF m 176 #[.val (.int p1)] [(.int (65533 : Int32)), (.int p1)])) _
    by_cases hc : (65533 : Int32) < p1
    · refine XS.icmpNo X0.here hx rfl (hb hby d1_176) rfl (tlt hc).2.2.2 ?_
      show Steps p.tables e below (s₁.setTop (mkF m 179 #[.val (.int p1)] [])) _
      exact b179  (hv.trans (show (g1_173 p1  ) = (g1_179 p1  ) from if_pos hc))
    · refine XS.icmpYes X0.here hx rfl (pc0 := 176) (pc' := 191) rfl (hb hby d1_176) rfl (flt hc).2.2.2 (by decide) (by decide) ?_
      show Steps p.tables e below (s₁.setTop (mkF m 191 #[.val (.int p1)] [])) _
      exact b191  (hv.trans (show (g1_173 p1  ) = (g1_191 p1  ) from if_neg hc))
  have b167 : V = (g1_167 p1  ) → Steps p.tables e below (s₁.setTop (mkF m 167 #[.val (.int p1)] [])) (s₁.setFrames fs) := by
    intro  hv
    show Steps p.tables e below (s₁.setTop (mkF m 167 #[.val (.int p1)] [])) _
    refine XS.iloadN X0.here hx rfl (hb hby d1_167) rfl ?_
    show Steps p.tables e below (s₁.setTop (mkF m 168 #[.val (.int p1)] [(.int p1)])) _
    refine X0.ldcInt hx hown (mvT hZ (hw _ (List.mem_of_getElem? (i := 14) rfl))) (g := (mkF m 168 #[.val (.int p1)] [(.int p1)])) rfl (hb hby d1_168) _ ?_
    show Steps p.tables e below (s₁.setTop (mkF m 170 #[.val (.int p1)] [(.int (65008 : Int32)), (.int p1)])) _
    by_cases hc : p1 < (65008 : Int32)
    · refine XS.icmpYes X0.here hx rfl (pc0 := 170) (pc' := 179) rfl (hb hby d1_170) rfl (tlt hc).1 (by decide) (by decide) ?_
      show Steps p.tables e below (s₁.setTop (mkF m 179 #[.val (.int p1)] [])) _
      exact b179  (hv.trans (show (g1_167 p1  ) = (g1_179 p1  ) from if_pos hc))
    · refine XS.icmpNo X0.here hx rfl (hb hby d1_170) rfl (flt hc).1 ?_
      show Steps p.tables e below (s₁.setTop (mkF m 173 #[.val (.int p1)] [])) _
      exact b173  (hv.trans (show (g1_167 p1  ) = (g1_173 p1  ) from if_neg hc))
  have b161 : V = (g1_161 p1  ) → Steps p.tables e below (s₁.setTop (mkF m 161 #[.val (.int p1)] [])) (s₁.setFrames fs) := by
    intro  hv
    show Steps p.tables e below (s₁.setTop (mkF m 161 #[.val (.int p1)] [])) _
    refine XS.iloadN X0.here hx rfl (hb hby d1_161) rfl ?_
    show Steps p.tables e below (s₁.setTop (mkF m 162 #[.val (.int p1)] [(.int p1)])) _
    refine X0.ldcInt hx hown (mvT hZ (hw _ (List.mem_of_getElem? (i := 17) rfl))) (g := (mkF m 162 #[.val (.int p1)] [(.int p1)])) rfl (hb hby d1_162) _ ?_
    show Steps p.tables e below (s₁.setTop (mkF m 164 #[.val (.int p1)] [(.int (64975 : Int32)), (.int p1)])) _
    by_cases hc : (64975 : Int32) < p1
    · refine XS.icmpNo X0.here hx rfl (hb hby d1_164) rfl (tlt hc).2.2.2 ?_
      show Steps p.tables e below (s₁.setTop (mkF m 167 #[.val (.int p1)] [])) _
      exact b167  (hv.trans (show (g1_161 p1  ) = (g1_167 p1  ) from if_pos hc))
    · refine XS.icmpYes X0.here hx rfl (pc0 := 164) (pc' := 191) rfl (hb hby d1_164) rfl (flt hc).2.2.2 (by decide) (by decide) ?_
      show Steps p.tables e below (s₁.setTop (mkF m 191 #[.val (.int p1)] [])) _
      exact b191  (hv.trans (show (g1_161 p1  ) = (g1_191 p1  ) from if_neg hc))
  have b155 : V = (g1_155 p1  ) → Steps p.tables e below (s₁.setTop (mkF m 155 #[.val (.int p1)] [])) (s₁.setFrames fs) := by
    intro  hv
    show Steps p.tables e below (s₁.setTop (mkF m 155 #[.val (.int p1)] [])) _
    refine XS.iloadN X0.here hx rfl (hb hby d1_155) rfl ?_
    show Steps p.tables e below (s₁.setTop (mkF m 156 #[.val (.int p1)] [(.int p1)])) _
    refine X0.ldcInt hx hown (mvT hZ (hw _ (List.mem_of_getElem? (i := 13) rfl))) (g := (mkF m 156 #[.val (.int p1)] [(.int p1)])) rfl (hb hby d1_156) _ ?_
    show Steps p.tables e below (s₁.setTop (mkF m 158 #[.val (.int p1)] [(.int (63744 : Int32)), (.int p1)])) _
    by_cases hc : p1 < (63744 : Int32)
    · refine XS.icmpYes X0.here hx rfl (pc0 := 158) (pc' := 167) rfl (hb hby d1_158) rfl (tlt hc).1 (by decide) (by decide) ?_
      show Steps p.tables e below (s₁.setTop (mkF m 167 #[.val (.int p1)] [])) _
      exact b167  (hv.trans (show (g1_155 p1  ) = (g1_167 p1  ) from if_pos hc))
    · refine XS.icmpNo X0.here hx rfl (hb hby d1_158) rfl (flt hc).1 ?_
      show Steps p.tables e below (s₁.setTop (mkF m 161 #[.val (.int p1)] [])) _
      exact b161  (hv.trans (show (g1_155 p1  ) = (g1_161 p1  ) from if_neg hc))
  have b149 : V = (g1_149 p1  ) → Steps p.tables e below (s₁.setTop (mkF m 149 #[.val (.int p1)] [])) (s₁.setFrames fs) := by
    intro  hv
    show Steps p.tables e below (s₁.setTop (mkF m 149 #[.val (.int p1)] [])) _
    refine XS.iloadN X0.here hx rfl (hb hby d1_149) rfl ?_
    show Steps p.tables e below (s₁.setTop (mkF m 150 #[.val (.int p1)] [(.int p1)])) _
    refine X0.ldcInt hx hown (mvT hZ (hw _ (List.mem_of_getElem? (i := 16) rfl))) (g := (mkF m 150 #[.val (.int p1)] [(.int p1)])) rfl (hb hby d1_150) _ ?_
    show Steps p.tables e below (s₁.setTop (mkF m 152 #[.val (.int p1)] [(.int (55295 : Int32)), (.int p1)])) _
    by_cases hc : (55295 : Int32) < p1
    · refine XS.icmpNo X0.here hx rfl (hb hby d1_152) rfl (tlt hc).2.2.2 ?_
      show Steps p.tables e below (s₁.setTop (mkF m 155 #[.val (.int p1)] [])) _
      exact b155  (hv.trans (show (g1_149 p1  ) = (g1_155 p1  ) from if_pos hc))
    · refine XS.icmpYes X0.here hx rfl (pc0 := 152) (pc' := 191) rfl (hb hby d1_152) rfl (flt hc).2.2.2 (by decide) (by decide) ?_
      show Steps p.tables e below (s₁.setTop (mkF m 191 #[.val (.int p1)] [])) _
      exact b191  (hv.trans (show (g1_149 p1  ) = (g1_191 p1  ) from if_neg hc))
  have b142 : V = (g1_142 p1  ) → Steps p.tables e below (s₁.setTop (mkF m 142 #[.val (.int p1)] [])) (s₁.setFrames fs) := by
    intro  hv
    show Steps p.tables e below (s₁.setTop (mkF m 142 #[.val (.int p1)] [])) _
    refine XS.iloadN X0.here hx rfl (hb hby d1_142) rfl ?_
    show Steps p.tables e below (s₁.setTop (mkF m 143 #[.val (.int p1)] [(.int p1)])) _
    refine XS.sipush X0.here hx rfl (hb hby d1_143) ?_
    show Steps p.tables e below (s₁.setTop (mkF m 146 #[.val (.int p1)] [(.int (12289 : Int32)), (.int p1)])) _
    by_cases hc : p1 < (12289 : Int32)
    · refine XS.icmpYes X0.here hx rfl (pc0 := 146) (pc' := 155) rfl (hb hby d1_146) rfl (tlt hc).1 (by decide) (by decide) ?_
      show Steps p.tables e below (s₁.setTop (mkF m 155 #[.val (.int p1)] [])) _
      exact b155  (hv.trans (show (g1_142 p1  ) = (g1_155 p1  ) from if_pos hc))
    · refine XS.icmpNo X0.here hx rfl (hb hby d1_146) rfl (flt hc).1 ?_
      show Steps p.tables e below (s₁.setTop (mkF m 149 #[.val (.int p1)] [])) _
      exact b149  (hv.trans (show (g1_142 p1  ) = (g1_149 p1  ) from if_neg hc))
  have b135 : V = (g1_135 p1  ) → Steps p.tables e below (s₁.setTop (mkF m 135 #[.val (.int p1)] [])) (s₁.setFrames fs) := by
    intro  hv
    show Steps p.tables e below (s₁.setTop (mkF m 135 #[.val (.int p1)] [])) _
    refine XS.iloadN X0.here hx rfl (hb hby d1_135) rfl ?_
    show Steps p.tables e below (s₁.setTop (mkF m 136 #[.val (.int p1)] [(.int p1)])) _
    refine XS.sipush X0.here hx rfl (hb hby d1_136) ?_
    show Steps p.tables e below (s₁.setTop (mkF m 139 #[.val (.int p1)] [(.int (12271 : Int32)), (.int p1)])) _
    by_cases hc : (12271 : Int32) < p1
    · refine XS.icmpNo X0.here hx rfl (hb hby d1_139) rfl (tlt hc).2.2.2 ?_
      show Steps p.tables e below (s₁.setTop (mkF m 142 #[.val (.int p1)] [])) _
      exact b142  (hv.trans (show (g1_135 p1  ) = (g1_142 p1  ) from if_pos hc))
    · refine XS.icmpYes X0.here hx rfl (pc0 := 139) (pc' := 191) rfl (hb hby d1_139) rfl (flt hc).2.2.2 (by decide) (by decide) ?_
      show Steps p.tables e below (s₁.setTop (mkF m 191 #[.val (.int p1)] [])) _
      exact b191  (hv.trans (show (g1_135 p1  ) = (g1_191 p1  ) from if_neg hc))
  have b128 : V = (g1_128 p1  ) → Steps p.tables e below (s₁.setTop (mkF m 128 #[.val (.int p1)] [])) (s₁.setFrames fs) := by
    intro  hv
    show Steps p.tables e below (s₁.setTop (mkF m 128 #[.val (.int p1)] [])) _
    refine XS.iloadN X0.here hx rfl (hb hby d1_128) rfl ?_
    show Steps p.tables e below (s₁.setTop (mkF m 129 #[.val (.int p1)] [(.int p1)])) _
    refine XS.sipush X0.here hx rfl (hb hby d1_129) ?_
    show Steps p.tables e below (s₁.setTop (mkF m 132 #[.val (.int p1)] [(.int (11264 : Int32)), (.int p1)])) _
    by_cases hc : p1 < (11264 : Int32)
    · refine XS.icmpYes X0.here hx rfl (pc0 := 132) (pc' := 142) rfl (hb hby d1_132) rfl (tlt hc).1 (by decide) (by decide) ?_
      show Steps p.tables e below (s₁.setTop (mkF m 142 #[.val (.int p1)] [])) _
      exact b142  (hv.trans (show (g1_128 p1  ) = (g1_142 p1  ) from if_pos hc))
    · refine XS.icmpNo X0.here hx rfl (hb hby d1_132) rfl (flt hc).1 ?_
      show Steps p.tables e below (s₁.setTop (mkF m 135 #[.val (.int p1)] [])) _
      exact b135  (hv.trans (show (g1_128 p1  ) = (g1_135 p1  ) from if_neg hc))
  have b121 : V = (g1_121 p1  ) → Steps p.tables e below (s₁.setTop (mkF m 121 #[.val (.int p1)] [])) (s₁.setFrames fs) := by
    intro  hv
    show Steps p.tables e below (s₁.setTop (mkF m 121 #[.val (.int p1)] [])) _
    refine XS.iloadN X0.here hx rfl (hb hby d1_121) rfl ?_
    show Steps p.tables e below (s₁.setTop (mkF m 122 #[.val (.int p1)] [(.int p1)])) _
    refine XS.sipush X0.here hx rfl (hb hby d1_122) ?_
    show Steps p.tables e below (s₁.setTop (mkF m 125 #[.val (.int p1)] [(.int (8591 : Int32)), (.int p1)])) _
    by_cases hc : (8591 : Int32) < p1
    · refine XS.icmpNo X0.here hx rfl (hb hby d1_125) rfl (tlt hc).2.2.2 ?_
      show Steps p.tables e below (s₁.setTop (mkF m 128 #[.val (.int p1)] [])) _
      exact b128  (hv.trans (show (g1_121 p1  ) = (g1_128 p1  ) from if_pos hc))
    · refine XS.icmpYes X0.here hx rfl (pc0 := 125) (pc' := 191) rfl (hb hby d1_125) rfl (flt hc).2.2.2 (by decide) (by decide) ?_
      show Steps p.tables e below (s₁.setTop (mkF m 191 #[.val (.int p1)] [])) _
      exact b191  (hv.trans (show (g1_121 p1  ) = (g1_191 p1  ) from if_neg hc))
  have b114 : V = (g1_114 p1  ) → Steps p.tables e below (s₁.setTop (mkF m 114 #[.val (.int p1)] [])) (s₁.setFrames fs) := by
    intro  hv
    show Steps p.tables e below (s₁.setTop (mkF m 114 #[.val (.int p1)] [])) _
    refine XS.iloadN X0.here hx rfl (hb hby d1_114) rfl ?_
    show Steps p.tables e below (s₁.setTop (mkF m 115 #[.val (.int p1)] [(.int p1)])) _
    refine XS.sipush X0.here hx rfl (hb hby d1_115) ?_
    show Steps p.tables e below (s₁.setTop (mkF m 118 #[.val (.int p1)] [(.int (8304 : Int32)), (.int p1)])) _
    by_cases hc : p1 < (8304 : Int32)
    · refine XS.icmpYes X0.here hx rfl (pc0 := 118) (pc' := 128) rfl (hb hby d1_118) rfl (tlt hc).1 (by decide) (by decide) ?_
      show Steps p.tables e below (s₁.setTop (mkF m 128 #[.val (.int p1)] [])) _
      exact b128  (hv.trans (show (g1_114 p1  ) = (g1_128 p1  ) from if_pos hc))
    · refine XS.icmpNo X0.here hx rfl (hb hby d1_118) rfl (flt hc).1 ?_
      show Steps p.tables e below (s₁.setTop (mkF m 121 #[.val (.int p1)] [])) _
      exact b121  (hv.trans (show (g1_114 p1  ) = (g1_121 p1  ) from if_neg hc))
  have b107 : V = (g1_107 p1  ) → Steps p.tables e below (s₁.setTop (mkF m 107 #[.val (.int p1)] [])) (s₁.setFrames fs) := by
    intro  hv
    show Steps p.tables e below (s₁.setTop (mkF m 107 #[.val (.int p1)] [])) _
    refine XS.iloadN X0.here hx rfl (hb hby d1_107) rfl ?_
    show Steps p.tables e below (s₁.setTop (mkF m 108 #[.val (.int p1)] [(.int p1)])) _
    refine XS.sipush X0.here hx rfl (hb hby d1_108) ?_
    show Steps p.tables e below (s₁.setTop (mkF m 111 #[.val (.int p1)] [(.int (8205 : Int32)), (.int p1)])) _
    by_cases hc : (8205 : Int32) < p1
    · refine XS.icmpNo X0.here hx rfl (hb hby d1_111) rfl (tlt hc).2.2.2 ?_
      show Steps p.tables e below (s₁.setTop (mkF m 114 #[.val (.int p1)] [])) _
      exact b114  (hv.trans (show (g1_107 p1  ) = (g1_114 p1  ) from if_pos hc))
    · refine XS.icmpYes X0.here hx rfl (pc0 := 111) (pc' := 191) rfl (hb hby d1_111) rfl (flt hc).2.2.2 (by decide) (by decide) ?_
      show Steps p.tables e below (s₁.setTop (mkF m 191 #[.val (.int p1)] [])) _
      exact b191  (hv.trans (show (g1_107 p1  ) = (g1_191 p1  ) from if_neg hc))
  have b100 : V = (g1_100 p1  ) → Steps p.tables e below (s₁.setTop (mkF m 100 #[.val (.int p1)] [])) (s₁.setFrames fs) := by
    intro  hv
    show Steps p.tables e below (s₁.setTop (mkF m 100 #[.val (.int p1)] [])) _
    refine XS.iloadN X0.here hx rfl (hb hby d1_100) rfl ?_
    show Steps p.tables e below (s₁.setTop (mkF m 101 #[.val (.int p1)] [(.int p1)])) _
    refine XS.sipush X0.here hx rfl (hb hby d1_101) ?_
    show Steps p.tables e below (s₁.setTop (mkF m 104 #[.val (.int p1)] [(.int (8204 : Int32)), (.int p1)])) _
    by_cases hc : p1 < (8204 : Int32)
    · refine XS.icmpYes X0.here hx rfl (pc0 := 104) (pc' := 114) rfl (hb hby d1_104) rfl (tlt hc).1 (by decide) (by decide) ?_
      show Steps p.tables e below (s₁.setTop (mkF m 114 #[.val (.int p1)] [])) _
      exact b114  (hv.trans (show (g1_100 p1  ) = (g1_114 p1  ) from if_pos hc))
    · refine XS.icmpNo X0.here hx rfl (hb hby d1_104) rfl (flt hc).1 ?_
      show Steps p.tables e below (s₁.setTop (mkF m 107 #[.val (.int p1)] [])) _
      exact b107  (hv.trans (show (g1_100 p1  ) = (g1_107 p1  ) from if_neg hc))
  have b93 : V = (g1_93 p1  ) → Steps p.tables e below (s₁.setTop (mkF m 93 #[.val (.int p1)] [])) (s₁.setFrames fs) := by
    intro  hv
    show Steps p.tables e below (s₁.setTop (mkF m 93 #[.val (.int p1)] [])) _
    refine XS.iloadN X0.here hx rfl (hb hby d1_93) rfl ?_
    show Steps p.tables e below (s₁.setTop (mkF m 94 #[.val (.int p1)] [(.int p1)])) _
    refine XS.sipush X0.here hx rfl (hb hby d1_94) ?_
    show Steps p.tables e below (s₁.setTop (mkF m 97 #[.val (.int p1)] [(.int (8191 : Int32)), (.int p1)])) _
    by_cases hc : (8191 : Int32) < p1
    · refine XS.icmpNo X0.here hx rfl (hb hby d1_97) rfl (tlt hc).2.2.2 ?_
      show Steps p.tables e below (s₁.setTop (mkF m 100 #[.val (.int p1)] [])) _
      exact b100  (hv.trans (show (g1_93 p1  ) = (g1_100 p1  ) from if_pos hc))
    · refine XS.icmpYes X0.here hx rfl (pc0 := 97) (pc' := 191) rfl (hb hby d1_97) rfl (flt hc).2.2.2 (by decide) (by decide) ?_
      show Steps p.tables e below (s₁.setTop (mkF m 191 #[.val (.int p1)] [])) _
      exact b191  (hv.trans (show (g1_93 p1  ) = (g1_191 p1  ) from if_neg hc))
  have b86 : V = (g1_86 p1  ) → Steps p.tables e below (s₁.setTop (mkF m 86 #[.val (.int p1)] [])) (s₁.setFrames fs) := by
    intro  hv
    show Steps p.tables e below (s₁.setTop (mkF m 86 #[.val (.int p1)] [])) _
    refine XS.iloadN X0.here hx rfl (hb hby d1_86) rfl ?_
    show Steps p.tables e below (s₁.setTop (mkF m 87 #[.val (.int p1)] [(.int p1)])) _
    refine XS.sipush X0.here hx rfl (hb hby d1_87) ?_
    show Steps p.tables e below (s₁.setTop (mkF m 90 #[.val (.int p1)] [(.int (895 : Int32)), (.int p1)])) _
    by_cases hc : p1 < (895 : Int32)
    · refine XS.icmpYes X0.here hx rfl (pc0 := 90) (pc' := 100) rfl (hb hby d1_90) rfl (tlt hc).1 (by decide) (by decide) ?_
      show Steps p.tables e below (s₁.setTop (mkF m 100 #[.val (.int p1)] [])) _
      exact b100  (hv.trans (show (g1_86 p1  ) = (g1_100 p1  ) from if_pos hc))
    · refine XS.icmpNo X0.here hx rfl (hb hby d1_90) rfl (flt hc).1 ?_
      show Steps p.tables e below (s₁.setTop (mkF m 93 #[.val (.int p1)] [])) _
      exact b93  (hv.trans (show (g1_86 p1  ) = (g1_93 p1  ) from if_neg hc))
  have b79 : V = (g1_79 p1  ) → Steps p.tables e below (s₁.setTop (mkF m 79 #[.val (.int p1)] [])) (s₁.setFrames fs) := by
    intro  hv
    show Steps p.tables e below (s₁.setTop (mkF m 79 #[.val (.int p1)] [])) _
    refine XS.iloadN X0.here hx rfl (hb hby d1_79) rfl ?_
    show Steps p.tables e below (s₁.setTop (mkF m 80 #[.val (.int p1)] [(.int p1)])) _
    refine XS.sipush X0.here hx rfl (hb hby d1_80) ?_
    show Steps p.tables e below (s₁.setTop (mkF m 83 #[.val (.int p1)] [(.int (893 : Int32)), (.int p1)])) _
    by_cases hc : (893 : Int32) < p1
    · refine XS.icmpNo X0.here hx rfl (hb hby d1_83) rfl (tlt hc).2.2.2 ?_
      show Steps p.tables e below (s₁.setTop (mkF m 86 #[.val (.int p1)] [])) _
      exact b86  (hv.trans (show (g1_79 p1  ) = (g1_86 p1  ) from if_pos hc))
    · refine XS.icmpYes X0.here hx rfl (pc0 := 83) (pc' := 191) rfl (hb hby d1_83) rfl (flt hc).2.2.2 (by decide) (by decide) ?_
      show Steps p.tables e below (s₁.setTop (mkF m 191 #[.val (.int p1)] [])) _
      exact b191  (hv.trans (show (g1_79 p1  ) = (g1_191 p1  ) from if_neg hc))
  have b72 : V = (g1_72 p1  ) → Steps p.tables e below (s₁.setTop (mkF m 72 #[.val (.int p1)] [])) (s₁.setFrames fs) := by
    intro  hv
    show Steps p.tables e below (s₁.setTop (mkF m 72 #[.val (.int p1)] [])) _
    refine XS.iloadN X0.here hx rfl (hb hby d1_72) rfl ?_
    show Steps p.tables e below (s₁.setTop (mkF m 73 #[.val (.int p1)] [(.int p1)])) _
    refine XS.sipush X0.here hx rfl (hb hby d1_73) ?_
    show Steps p.tables e below (s₁.setTop (mkF m 76 #[.val (.int p1)] [(.int (880 : Int32)), (.int p1)])) _
    by_cases hc : p1 < (880 : Int32)
    · refine XS.icmpYes X0.here hx rfl (pc0 := 76) (pc' := 86) rfl (hb hby d1_76) rfl (tlt hc).1 (by decide) (by decide) ?_
      show Steps p.tables e below (s₁.setTop (mkF m 86 #[.val (.int p1)] [])) _
      exact b86  (hv.trans (show (g1_72 p1  ) = (g1_86 p1  ) from if_pos hc))
    · refine XS.icmpNo X0.here hx rfl (hb hby d1_76) rfl (flt hc).1 ?_
      show Steps p.tables e below (s₁.setTop (mkF m 79 #[.val (.int p1)] [])) _
      exact b79  (hv.trans (show (g1_72 p1  ) = (g1_79 p1  ) from if_neg hc))
  have b65 : V = (g1_65 p1  ) → Steps p.tables e below (s₁.setTop (mkF m 65 #[.val (.int p1)] [])) (s₁.setFrames fs) := by
    intro  hv
    show Steps p.tables e below (s₁.setTop (mkF m 65 #[.val (.int p1)] [])) _
    refine XS.iloadN X0.here hx rfl (hb hby d1_65) rfl ?_
    show Steps p.tables e below (s₁.setTop (mkF m 66 #[.val (.int p1)] [(.int p1)])) _
    refine XS.sipush X0.here hx rfl (hb hby d1_66) ?_
    show Steps p.tables e below (s₁.setTop (mkF m 69 #[.val (.int p1)] [(.int (767 : Int32)), (.int p1)])) _
    by_cases hc : (767 : Int32) < p1
    · refine XS.icmpNo X0.here hx rfl (hb hby d1_69) rfl (tlt hc).2.2.2 ?_
      show Steps p.tables e below (s₁.setTop (mkF m 72 #[.val (.int p1)] [])) _
      exact b72  (hv.trans (show (g1_65 p1  ) = (g1_72 p1  ) from if_pos hc))
    · refine XS.icmpYes X0.here hx rfl (pc0 := 69) (pc' := 191) rfl (hb hby d1_69) rfl (flt hc).2.2.2 (by decide) (by decide) ?_
      show Steps p.tables e below (s₁.setTop (mkF m 191 #[.val (.int p1)] [])) _
      exact b191  (hv.trans (show (g1_65 p1  ) = (g1_191 p1  ) from if_neg hc))
  have b58 : V = (g1_58 p1  ) → Steps p.tables e below (s₁.setTop (mkF m 58 #[.val (.int p1)] [])) (s₁.setFrames fs) := by
    intro  hv
    show Steps p.tables e below (s₁.setTop (mkF m 58 #[.val (.int p1)] [])) _
    refine XS.iloadN X0.here hx rfl (hb hby d1_58) rfl ?_
    show Steps p.tables e below (s₁.setTop (mkF m 59 #[.val (.int p1)] [(.int p1)])) _
    refine XS.sipush X0.here hx rfl (hb hby d1_59) ?_
    show Steps p.tables e below (s₁.setTop (mkF m 62 #[.val (.int p1)] [(.int (248 : Int32)), (.int p1)])) _
    by_cases hc : p1 < (248 : Int32)
    · refine XS.icmpYes X0.here hx rfl (pc0 := 62) (pc' := 72) rfl (hb hby d1_62) rfl (tlt hc).1 (by decide) (by decide) ?_
      show Steps p.tables e below (s₁.setTop (mkF m 72 #[.val (.int p1)] [])) _
      exact b72  (hv.trans (show (g1_58 p1  ) = (g1_72 p1  ) from if_pos hc))
    · refine XS.icmpNo X0.here hx rfl (hb hby d1_62) rfl (flt hc).1 ?_
      show Steps p.tables e below (s₁.setTop (mkF m 65 #[.val (.int p1)] [])) _
      exact b65  (hv.trans (show (g1_58 p1  ) = (g1_65 p1  ) from if_neg hc))
  have b51 : V = (g1_51 p1  ) → Steps p.tables e below (s₁.setTop (mkF m 51 #[.val (.int p1)] [])) (s₁.setFrames fs) := by
    intro  hv
    show Steps p.tables e below (s₁.setTop (mkF m 51 #[.val (.int p1)] [])) _
    refine XS.iloadN X0.here hx rfl (hb hby d1_51) rfl ?_
    show Steps p.tables e below (s₁.setTop (mkF m 52 #[.val (.int p1)] [(.int p1)])) _
    refine XS.sipush X0.here hx rfl (hb hby d1_52) ?_
    show Steps p.tables e below (s₁.setTop (mkF m 55 #[.val (.int p1)] [(.int (246 : Int32)), (.int p1)])) _
    by_cases hc : (246 : Int32) < p1
    · refine XS.icmpNo X0.here hx rfl (hb hby d1_55) rfl (tlt hc).2.2.2 ?_
      show Steps p.tables e below (s₁.setTop (mkF m 58 #[.val (.int p1)] [])) _
      exact b58  (hv.trans (show (g1_51 p1  ) = (g1_58 p1  ) from if_pos hc))
    · refine XS.icmpYes X0.here hx rfl (pc0 := 55) (pc' := 191) rfl (hb hby d1_55) rfl (flt hc).2.2.2 (by decide) (by decide) ?_
      show Steps p.tables e below (s₁.setTop (mkF m 191 #[.val (.int p1)] [])) _
      exact b191  (hv.trans (show (g1_51 p1  ) = (g1_191 p1  ) from if_neg hc))
  have b44 : V = (g1_44 p1  ) → Steps p.tables e below (s₁.setTop (mkF m 44 #[.val (.int p1)] [])) (s₁.setFrames fs) := by
    intro  hv
    show Steps p.tables e below (s₁.setTop (mkF m 44 #[.val (.int p1)] [])) _
    refine XS.iloadN X0.here hx rfl (hb hby d1_44) rfl ?_
    show Steps p.tables e below (s₁.setTop (mkF m 45 #[.val (.int p1)] [(.int p1)])) _
    refine XS.sipush X0.here hx rfl (hb hby d1_45) ?_
    show Steps p.tables e below (s₁.setTop (mkF m 48 #[.val (.int p1)] [(.int (216 : Int32)), (.int p1)])) _
    by_cases hc : p1 < (216 : Int32)
    · refine XS.icmpYes X0.here hx rfl (pc0 := 48) (pc' := 58) rfl (hb hby d1_48) rfl (tlt hc).1 (by decide) (by decide) ?_
      show Steps p.tables e below (s₁.setTop (mkF m 58 #[.val (.int p1)] [])) _
      exact b58  (hv.trans (show (g1_44 p1  ) = (g1_58 p1  ) from if_pos hc))
    · refine XS.icmpNo X0.here hx rfl (hb hby d1_48) rfl (flt hc).1 ?_
      show Steps p.tables e below (s₁.setTop (mkF m 51 #[.val (.int p1)] [])) _
      exact b51  (hv.trans (show (g1_44 p1  ) = (g1_51 p1  ) from if_neg hc))
  have b37 : V = (g1_37 p1  ) → Steps p.tables e below (s₁.setTop (mkF m 37 #[.val (.int p1)] [])) (s₁.setFrames fs) := by
    intro  hv
    show Steps p.tables e below (s₁.setTop (mkF m 37 #[.val (.int p1)] [])) _
    refine XS.iloadN X0.here hx rfl (hb hby d1_37) rfl ?_
    show Steps p.tables e below (s₁.setTop (mkF m 38 #[.val (.int p1)] [(.int p1)])) _
    refine XS.sipush X0.here hx rfl (hb hby d1_38) ?_
    show Steps p.tables e below (s₁.setTop (mkF m 41 #[.val (.int p1)] [(.int (214 : Int32)), (.int p1)])) _
    by_cases hc : (214 : Int32) < p1
    · refine XS.icmpNo X0.here hx rfl (hb hby d1_41) rfl (tlt hc).2.2.2 ?_
      show Steps p.tables e below (s₁.setTop (mkF m 44 #[.val (.int p1)] [])) _
      exact b44  (hv.trans (show (g1_37 p1  ) = (g1_44 p1  ) from if_pos hc))
    · refine XS.icmpYes X0.here hx rfl (pc0 := 41) (pc' := 191) rfl (hb hby d1_41) rfl (flt hc).2.2.2 (by decide) (by decide) ?_
      show Steps p.tables e below (s₁.setTop (mkF m 191 #[.val (.int p1)] [])) _
      exact b191  (hv.trans (show (g1_37 p1  ) = (g1_191 p1  ) from if_neg hc))
  have b30 : V = (g1_30 p1  ) → Steps p.tables e below (s₁.setTop (mkF m 30 #[.val (.int p1)] [])) (s₁.setFrames fs) := by
    intro  hv
    show Steps p.tables e below (s₁.setTop (mkF m 30 #[.val (.int p1)] [])) _
    refine XS.iloadN X0.here hx rfl (hb hby d1_30) rfl ?_
    show Steps p.tables e below (s₁.setTop (mkF m 31 #[.val (.int p1)] [(.int p1)])) _
    refine XS.sipush X0.here hx rfl (hb hby d1_31) ?_
    show Steps p.tables e below (s₁.setTop (mkF m 34 #[.val (.int p1)] [(.int (192 : Int32)), (.int p1)])) _
    by_cases hc : p1 < (192 : Int32)
    · refine XS.icmpYes X0.here hx rfl (pc0 := 34) (pc' := 44) rfl (hb hby d1_34) rfl (tlt hc).1 (by decide) (by decide) ?_
      show Steps p.tables e below (s₁.setTop (mkF m 44 #[.val (.int p1)] [])) _
      exact b44  (hv.trans (show (g1_30 p1  ) = (g1_44 p1  ) from if_pos hc))
    · refine XS.icmpNo X0.here hx rfl (hb hby d1_34) rfl (flt hc).1 ?_
      show Steps p.tables e below (s₁.setTop (mkF m 37 #[.val (.int p1)] [])) _
      exact b37  (hv.trans (show (g1_30 p1  ) = (g1_37 p1  ) from if_neg hc))
  have b24 : V = (g1_24 p1  ) → Steps p.tables e below (s₁.setTop (mkF m 24 #[.val (.int p1)] [])) (s₁.setFrames fs) := by
    intro  hv
    show Steps p.tables e below (s₁.setTop (mkF m 24 #[.val (.int p1)] [])) _
    refine XS.iloadN X0.here hx rfl (hb hby d1_24) rfl ?_
    show Steps p.tables e below (s₁.setTop (mkF m 25 #[.val (.int p1)] [(.int p1)])) _
    refine XS.bipush X0.here hx rfl (hb hby d1_25) ?_
    show Steps p.tables e below (s₁.setTop (mkF m 27 #[.val (.int p1)] [(.int (95 : Int32)), (.int p1)])) _
    by_cases hc : p1 = (95 : Int32)
    · refine XS.icmpYes X0.here hx rfl (pc0 := 27) (pc' := 191) rfl (hb hby d1_27) rfl (teq hc).1 (by decide) (by decide) ?_
      show Steps p.tables e below (s₁.setTop (mkF m 191 #[.val (.int p1)] [])) _
      exact b191  (hv.trans (show (g1_24 p1  ) = (g1_191 p1  ) from if_pos hc))
    · refine XS.icmpNo X0.here hx rfl (hb hby d1_27) rfl (feq hc).1 ?_
      show Steps p.tables e below (s₁.setTop (mkF m 30 #[.val (.int p1)] [])) _
      exact b30  (hv.trans (show (g1_24 p1  ) = (g1_30 p1  ) from if_neg hc))
  have b18 : V = (g1_18 p1  ) → Steps p.tables e below (s₁.setTop (mkF m 18 #[.val (.int p1)] [])) (s₁.setFrames fs) := by
    intro  hv
    show Steps p.tables e below (s₁.setTop (mkF m 18 #[.val (.int p1)] [])) _
    refine XS.iloadN X0.here hx rfl (hb hby d1_18) rfl ?_
    show Steps p.tables e below (s₁.setTop (mkF m 19 #[.val (.int p1)] [(.int p1)])) _
    refine XS.bipush X0.here hx rfl (hb hby d1_19) ?_
    show Steps p.tables e below (s₁.setTop (mkF m 21 #[.val (.int p1)] [(.int (90 : Int32)), (.int p1)])) _
    by_cases hc : (90 : Int32) < p1
    · refine XS.icmpNo X0.here hx rfl (hb hby d1_21) rfl (tlt hc).2.2.2 ?_
      show Steps p.tables e below (s₁.setTop (mkF m 24 #[.val (.int p1)] [])) _
      exact b24  (hv.trans (show (g1_18 p1  ) = (g1_24 p1  ) from if_pos hc))
    · refine XS.icmpYes X0.here hx rfl (pc0 := 21) (pc' := 191) rfl (hb hby d1_21) rfl (flt hc).2.2.2 (by decide) (by decide) ?_
      show Steps p.tables e below (s₁.setTop (mkF m 191 #[.val (.int p1)] [])) _
      exact b191  (hv.trans (show (g1_18 p1  ) = (g1_191 p1  ) from if_neg hc))
  have b12 : V = (g1_12 p1  ) → Steps p.tables e below (s₁.setTop (mkF m 12 #[.val (.int p1)] [])) (s₁.setFrames fs) := by
    intro  hv
    show Steps p.tables e below (s₁.setTop (mkF m 12 #[.val (.int p1)] [])) _
    refine XS.iloadN X0.here hx rfl (hb hby d1_12) rfl ?_
    show Steps p.tables e below (s₁.setTop (mkF m 13 #[.val (.int p1)] [(.int p1)])) _
    refine XS.bipush X0.here hx rfl (hb hby d1_13) ?_
    show Steps p.tables e below (s₁.setTop (mkF m 15 #[.val (.int p1)] [(.int (65 : Int32)), (.int p1)])) _
    by_cases hc : p1 < (65 : Int32)
    · refine XS.icmpYes X0.here hx rfl (pc0 := 15) (pc' := 24) rfl (hb hby d1_15) rfl (tlt hc).1 (by decide) (by decide) ?_
      show Steps p.tables e below (s₁.setTop (mkF m 24 #[.val (.int p1)] [])) _
      exact b24  (hv.trans (show (g1_12 p1  ) = (g1_24 p1  ) from if_pos hc))
    · refine XS.icmpNo X0.here hx rfl (hb hby d1_15) rfl (flt hc).1 ?_
      show Steps p.tables e below (s₁.setTop (mkF m 18 #[.val (.int p1)] [])) _
      exact b18  (hv.trans (show (g1_12 p1  ) = (g1_18 p1  ) from if_neg hc))
  have b6 : V = (g1_6 p1  ) → Steps p.tables e below (s₁.setTop (mkF m 6 #[.val (.int p1)] [])) (s₁.setFrames fs) := by
    intro  hv
    show Steps p.tables e below (s₁.setTop (mkF m 6 #[.val (.int p1)] [])) _
    refine XS.iloadN X0.here hx rfl (hb hby d1_6) rfl ?_
    show Steps p.tables e below (s₁.setTop (mkF m 7 #[.val (.int p1)] [(.int p1)])) _
    refine XS.bipush X0.here hx rfl (hb hby d1_7) ?_
    show Steps p.tables e below (s₁.setTop (mkF m 9 #[.val (.int p1)] [(.int (122 : Int32)), (.int p1)])) _
    by_cases hc : (122 : Int32) < p1
    · refine XS.icmpNo X0.here hx rfl (hb hby d1_9) rfl (tlt hc).2.2.2 ?_
      show Steps p.tables e below (s₁.setTop (mkF m 12 #[.val (.int p1)] [])) _
      exact b12  (hv.trans (show (g1_6 p1  ) = (g1_12 p1  ) from if_pos hc))
    · refine XS.icmpYes X0.here hx rfl (pc0 := 9) (pc' := 191) rfl (hb hby d1_9) rfl (flt hc).2.2.2 (by decide) (by decide) ?_
      show Steps p.tables e below (s₁.setTop (mkF m 191 #[.val (.int p1)] [])) _
      exact b191  (hv.trans (show (g1_6 p1  ) = (g1_191 p1  ) from if_neg hc))
  have b0 : V = (g1_0 p1  ) → Steps p.tables e below (s₁.setTop (mkF m 0 #[.val (.int p1)] [])) (s₁.setFrames fs) := by
    intro  hv
    show Steps p.tables e below (s₁.setTop (mkF m 0 #[.val (.int p1)] [])) _
    refine XS.iloadN X0.here hx rfl (hb hby d1_0) rfl ?_
    show Steps p.tables e below (s₁.setTop (mkF m 1 #[.val (.int p1)] [(.int p1)])) _
    refine XS.bipush X0.here hx rfl (hb hby d1_1) ?_
    show Steps p.tables e below (s₁.setTop (mkF m 3 #[.val (.int p1)] [(.int (97 : Int32)), (.int p1)])) _
    by_cases hc : p1 < (97 : Int32)
    · refine XS.icmpYes X0.here hx rfl (pc0 := 3) (pc' := 12) rfl (hb hby d1_3) rfl (tlt hc).1 (by decide) (by decide) ?_
      show Steps p.tables e below (s₁.setTop (mkF m 12 #[.val (.int p1)] [])) _
      exact b12  (hv.trans (show (g1_0 p1  ) = (g1_12 p1  ) from if_pos hc))
    · refine XS.icmpNo X0.here hx rfl (hb hby d1_3) rfl (flt hc).1 ?_
      show Steps p.tables e below (s₁.setTop (mkF m 6 #[.val (.int p1)] [])) _
      exact b6  (hv.trans (show (g1_0 p1  ) = (g1_6 p1  ) from if_neg hc))
  refine ⟨_, _, pre0 _ (b0 hV), hrun, hended, _, _, rfl, ?_, ⟨_, rfl⟩, hW, hsame.mono (by decide) (by decide)⟩
  show Q1 Z p1  h0 n0 _ s₁.heap _
  rw [e0, hV]
  exact ⟨rfl, N0, rfl⟩
theorem ef_0 (m : MethodId) (p1 : Int32) (p2 : Int32) (p3 : Int32) (p4 : Int32) : entryFrame m #[(.int p1), (.int p2), (.int p3), (.int p4)] maxLocals = mkF m 0 #[.val (.int p1), .val (.int p2), .val (.int p3), .val (.int p4), .unset, .unset, .unset, .unset, .unset, .unset, .unset] [] := by first | (simp [entryFrame, mkF, argsToLocals, Value.category, maxLocals]; done) | rfl
def Q0 (Z : State) (p1 : Int32) (p2 : Int32) (p3 : Int32) (p4 : Int32)  (h0 : Heap) (n0 : Nat) (v : Option Value) (h : Heap) (L : List Loc) : Prop := v = some (.int (1 : Int32)) ∧ Fr n0 L
set_option maxRecDepth 65536 in
set_option maxHeartbeats 40000000 in
theorem rm0 (l : Launch) (Z : State) (a0 : Array Value) (hw : ∀ d ∈ tables_1, d.before a0 Z = true) (ws : List Jvm.Cond) (p1 : Int32) (p2 : Int32) (p3 : Int32) (p4 : Int32)  (h0 : Heap) (n0 : Nat) (Z0 : n0 ≤ h0.size) :
    MetFree l x (head1 (Jvm.Cond.code x code maxLocals ret :: ws) room_1) (fun a U => a = #[(.int p1), (.int p2), (.int p3), (.int p4)] ∧ Z.Warmed39 U.vm ∧ U.heap = h0) (fun _ _ _ _ _ => True) (fun _ U o U' => ∃ v L, o = .returned v ∧ Q0 Z p1 p2 p3 p4 h0 n0 v U'.heap L ∧ FrameEnd U o U' L room_1.cells room_1.slots) := by
  refine MetFree.of_bodySF (plainFor_of_name pn_1) hisR ?_
  intro p e s m args below meth c s₁ Bd hml0 hP hK
  obtain ⟨rfl, hZ, hh⟩ := hP
  have hx := Bd.exec
  have hby := Bd.bytes
  have hml : c.maxLocals = 11 := hml0
  have hown : s.vm.findClass "com/example/sloj/sloj/model/NamesIsNameStartPinLaw" = some m.cls := findClass_of_methodNamed Bd.named
  have hnm := (name_of_methodNamed Bd.named Bd.method).1
  have X0 : Stand p l e room_1 s m #[(.int p1), (.int p2), (.int p3), (.int p4)] below meth c s₁ [] 0 0 := Stand.of_body Bd
  have e0 : s₁.heap = h0 := by rw [← hh, Bd.state]; rfl
  have N0 := Fr.nil n0
  have pre0 : ∀ t, Steps p.tables e below (s₁.setTop (mkF m 0 #[.val (.int p1), .val (.int p2), .val (.int p3), .val (.int p4), .unset, .unset, .unset, .unset, .unset, .unset, .unset] [])) t → Steps p.tables e below (s₁.setTop (entryFrame m #[(.int p1), (.int p2), (.int p3), (.int p4)] maxLocals)) t := fun t k => castTop (ef_0 m p1 p2 p3 p4) k
  have G1 : ∀ t, Steps p.tables e below (s₁.setTop (mkF m 2 #[.val (.int p1), .val (.int p2), .val (.int p3), .val (.int p4), .unset, .unset, .unset, .unset, .unset, .unset, .unset] [(.int (15 : Int32))])) t → Steps p.tables e below (s₁.setTop (entryFrame m #[(.int p1), (.int p2), (.int p3), (.int p4)] maxLocals)) t := by
    intro t kt
    refine pre0 t ?_
    show Steps p.tables e below (s₁.setTop (mkF m 0 #[.val (.int p1), .val (.int p2), .val (.int p3), .val (.int p4), .unset, .unset, .unset, .unset, .unset, .unset, .unset] [])) _
    refine XS.bipush X0.here hx rfl (hb hby at_0) ?_
    show Steps p.tables e below (s₁.setTop (mkF m 2 #[.val (.int p1), .val (.int p2), .val (.int p3), .val (.int p4), .unset, .unset, .unset, .unset, .unset, .unset, .unset] [(.int (15 : Int32))])) _
    exact kt
  obtain ⟨T2, h2, k2, X2, e2, E2, A2, st2⟩ := newP X0 hx hZ (hw _ (List.mem_of_getElem? (i := 0) rfl)) e0 (g := (mkF m 2 #[.val (.int p1), .val (.int p2), .val (.int p3), .val (.int p4), .unset, .unset, .unset, .unset, .unset, .unset, .unset] [(.int (15 : Int32))])) rfl (hb hby at_2) rfl (by decide) (cap := 15) (by decide) (by decide) (by decide) (by decide)
  obtain ⟨b2, g2⟩ : ∃ z, z = h0.size := ⟨_, rfl⟩
  rw [← g2] at A2 st2
  have g_b2 : n0 ≤ b2 := Nat.le_trans Z0 (Nat.le_of_eq g2.symm)
  have Z2 : n0 ≤ h2.size := Nat.le_trans Z0 E2.1
  have V_b2 : Arv Z h2 b2 k2 .int (15 : Int32) [(.int (0 : Int32)), (.int (0 : Int32)), (.int (0 : Int32)), (.int (0 : Int32)), (.int (0 : Int32)), (.int (0 : Int32)), (.int (0 : Int32)), (.int (0 : Int32)), (.int (0 : Int32)), (.int (0 : Int32)), (.int (0 : Int32)), (.int (0 : Int32)), (.int (0 : Int32)), (.int (0 : Int32)), (.int (0 : Int32))] (.int (0 : Int32)) := (Arv.new A2 (by decide)).pad (pad_rep [] (.int (0 : Int32)) 15)
  have G2 : ∀ t, Steps p.tables e below (T2.setTop (mkF m 4 #[.val (.int p1), .val (.int p2), .val (.int p3), .val (.int p4), .unset, .unset, .unset, .unset, .unset, .unset, .unset] [(.ref b2)])) t → Steps p.tables e below (s₁.setTop (entryFrame m #[(.int p1), (.int p2), (.int p3), (.int p4)] maxLocals)) t := fun t kt => G1 t (st2 t kt)
  have G3 : ∀ t, Steps p.tables e below (T2.setTop (mkF m 8 #[.val (.int p1), .val (.int p2), .val (.int p3), .val (.int p4), .unset, .unset, .unset, .unset, .unset, .unset, .unset] [(.int (65 : Int32)), (.int (0 : Int32)), (.ref b2), (.ref b2)])) t → Steps p.tables e below (s₁.setTop (entryFrame m #[(.int p1), (.int p2), (.int p3), (.int p4)] maxLocals)) t := by
    intro t kt
    refine G2 t ?_
    show Steps p.tables e below (T2.setTop (mkF m 4 #[.val (.int p1), .val (.int p2), .val (.int p3), .val (.int p4), .unset, .unset, .unset, .unset, .unset, .unset, .unset] [(.ref b2)])) _
    refine XS.dup X2.here hx rfl (hb hby at_4) rfl rfl ?_
    show Steps p.tables e below (T2.setTop (mkF m 5 #[.val (.int p1), .val (.int p2), .val (.int p3), .val (.int p4), .unset, .unset, .unset, .unset, .unset, .unset, .unset] [(.ref b2), (.ref b2)])) _
    refine XS.iconst X2.here hx rfl (hb hby at_5) ?_
    show Steps p.tables e below (T2.setTop (mkF m 6 #[.val (.int p1), .val (.int p2), .val (.int p3), .val (.int p4), .unset, .unset, .unset, .unset, .unset, .unset, .unset] [(.int (0 : Int32)), (.ref b2), (.ref b2)])) _
    refine XS.bipush X2.here hx rfl (hb hby at_6) ?_
    show Steps p.tables e below (T2.setTop (mkF m 8 #[.val (.int p1), .val (.int p2), .val (.int p3), .val (.int p4), .unset, .unset, .unset, .unset, .unset, .unset, .unset] [(.int (65 : Int32)), (.int (0 : Int32)), (.ref b2), (.ref b2)])) _
    exact kt
  obtain ⟨cl_4, Ar_4, q_4, S_4, M_4, H_4, U_4⟩ := id V_b2
  obtain ⟨T4, h4, X4, e4, W4, st4⟩ := stI X2 hx hZ e2 Ar_4 (j := (0 : Int32)) (inb_of S_4 ⟨(by decide : ¬ ((0 : Int32) < (0 : Int32))), (by decide : (0 : Int32) < (15 : Int32))⟩) (g := (mkF m 8 #[.val (.int p1), .val (.int p2), .val (.int p3), .val (.int p4), .unset, .unset, .unset, .unset, .unset, .unset, .unset] [(.int (65 : Int32)), (.int (0 : Int32)), (.ref b2), (.ref b2)])) rfl rfl (hb hby at_8)
  have V_b2_4 : Arv Z h4 b2 k2 .int (15 : Int32) [(.int (65 : Int32)), (.int (0 : Int32)), (.int (0 : Int32)), (.int (0 : Int32)), (.int (0 : Int32)), (.int (0 : Int32)), (.int (0 : Int32)), (.int (0 : Int32)), (.int (0 : Int32)), (.int (0 : Int32)), (.int (0 : Int32)), (.int (0 : Int32)), (.int (0 : Int32)), (.int (0 : Int32)), (.int (0 : Int32))] (.int (0 : Int32)) := Arv.set Ar_4 q_4 S_4 M_4 H_4 U_4 rfl W4 0 rfl (Nat.le_of_ble_eq_true rfl)
  have Z4 : n0 ≤ h4.size := Nat.le_trans Z2 (Keep.of_wr W4).1
  have N4 := Fr.snoc X4 N0 g_b2
  have G4 : ∀ t, Steps p.tables e below (T4.setTop (mkF m 9 #[.val (.int p1), .val (.int p2), .val (.int p3), .val (.int p4), .unset, .unset, .unset, .unset, .unset, .unset, .unset] [(.ref b2)])) t → Steps p.tables e below (s₁.setTop (entryFrame m #[(.int p1), (.int p2), (.int p3), (.int p4)] maxLocals)) t := fun t kt => G3 t (st4 t kt)
  have G5 : ∀ t, Steps p.tables e below (T4.setTop (mkF m 13 #[.val (.int p1), .val (.int p2), .val (.int p3), .val (.int p4), .unset, .unset, .unset, .unset, .unset, .unset, .unset] [(.int (95 : Int32)), (.int (1 : Int32)), (.ref b2), (.ref b2)])) t → Steps p.tables e below (s₁.setTop (entryFrame m #[(.int p1), (.int p2), (.int p3), (.int p4)] maxLocals)) t := by
    intro t kt
    refine G4 t ?_
    show Steps p.tables e below (T4.setTop (mkF m 9 #[.val (.int p1), .val (.int p2), .val (.int p3), .val (.int p4), .unset, .unset, .unset, .unset, .unset, .unset, .unset] [(.ref b2)])) _
    refine XS.dup X4.here hx rfl (hb hby at_9) rfl rfl ?_
    show Steps p.tables e below (T4.setTop (mkF m 10 #[.val (.int p1), .val (.int p2), .val (.int p3), .val (.int p4), .unset, .unset, .unset, .unset, .unset, .unset, .unset] [(.ref b2), (.ref b2)])) _
    refine XS.iconst X4.here hx rfl (hb hby at_10) ?_
    show Steps p.tables e below (T4.setTop (mkF m 11 #[.val (.int p1), .val (.int p2), .val (.int p3), .val (.int p4), .unset, .unset, .unset, .unset, .unset, .unset, .unset] [(.int (1 : Int32)), (.ref b2), (.ref b2)])) _
    refine XS.bipush X4.here hx rfl (hb hby at_11) ?_
    show Steps p.tables e below (T4.setTop (mkF m 13 #[.val (.int p1), .val (.int p2), .val (.int p3), .val (.int p4), .unset, .unset, .unset, .unset, .unset, .unset, .unset] [(.int (95 : Int32)), (.int (1 : Int32)), (.ref b2), (.ref b2)])) _
    exact kt
  obtain ⟨cl_6, Ar_6, q_6, S_6, M_6, H_6, U_6⟩ := id V_b2_4
  obtain ⟨T6, h6, X6, e6, W6, st6⟩ := stI X4 hx hZ e4 Ar_6 (j := (1 : Int32)) (inb_of S_6 ⟨(by decide : ¬ ((1 : Int32) < (0 : Int32))), (by decide : (1 : Int32) < (15 : Int32))⟩) (g := (mkF m 13 #[.val (.int p1), .val (.int p2), .val (.int p3), .val (.int p4), .unset, .unset, .unset, .unset, .unset, .unset, .unset] [(.int (95 : Int32)), (.int (1 : Int32)), (.ref b2), (.ref b2)])) rfl rfl (hb hby at_13)
  have V_b2_6 : Arv Z h6 b2 k2 .int (15 : Int32) [(.int (65 : Int32)), (.int (95 : Int32)), (.int (0 : Int32)), (.int (0 : Int32)), (.int (0 : Int32)), (.int (0 : Int32)), (.int (0 : Int32)), (.int (0 : Int32)), (.int (0 : Int32)), (.int (0 : Int32)), (.int (0 : Int32)), (.int (0 : Int32)), (.int (0 : Int32)), (.int (0 : Int32)), (.int (0 : Int32))] (.int (0 : Int32)) := Arv.set Ar_6 q_6 S_6 M_6 H_6 U_6 rfl W6 1 rfl (Nat.le_of_ble_eq_true rfl)
  have Z6 : n0 ≤ h6.size := Nat.le_trans Z4 (Keep.of_wr W6).1
  have N6 := Fr.snoc X6 N4 g_b2
  have G6 : ∀ t, Steps p.tables e below (T6.setTop (mkF m 14 #[.val (.int p1), .val (.int p2), .val (.int p3), .val (.int p4), .unset, .unset, .unset, .unset, .unset, .unset, .unset] [(.ref b2)])) t → Steps p.tables e below (s₁.setTop (entryFrame m #[(.int p1), (.int p2), (.int p3), (.int p4)] maxLocals)) t := fun t kt => G5 t (st6 t kt)
  have G7 : ∀ t, Steps p.tables e below (T6.setTop (mkF m 18 #[.val (.int p1), .val (.int p2), .val (.int p3), .val (.int p4), .unset, .unset, .unset, .unset, .unset, .unset, .unset] [(.int (97 : Int32)), (.int (2 : Int32)), (.ref b2), (.ref b2)])) t → Steps p.tables e below (s₁.setTop (entryFrame m #[(.int p1), (.int p2), (.int p3), (.int p4)] maxLocals)) t := by
    intro t kt
    refine G6 t ?_
    show Steps p.tables e below (T6.setTop (mkF m 14 #[.val (.int p1), .val (.int p2), .val (.int p3), .val (.int p4), .unset, .unset, .unset, .unset, .unset, .unset, .unset] [(.ref b2)])) _
    refine XS.dup X6.here hx rfl (hb hby at_14) rfl rfl ?_
    show Steps p.tables e below (T6.setTop (mkF m 15 #[.val (.int p1), .val (.int p2), .val (.int p3), .val (.int p4), .unset, .unset, .unset, .unset, .unset, .unset, .unset] [(.ref b2), (.ref b2)])) _
    refine XS.iconst X6.here hx rfl (hb hby at_15) ?_
    show Steps p.tables e below (T6.setTop (mkF m 16 #[.val (.int p1), .val (.int p2), .val (.int p3), .val (.int p4), .unset, .unset, .unset, .unset, .unset, .unset, .unset] [(.int (2 : Int32)), (.ref b2), (.ref b2)])) _
    refine XS.bipush X6.here hx rfl (hb hby at_16) ?_
    show Steps p.tables e below (T6.setTop (mkF m 18 #[.val (.int p1), .val (.int p2), .val (.int p3), .val (.int p4), .unset, .unset, .unset, .unset, .unset, .unset, .unset] [(.int (97 : Int32)), (.int (2 : Int32)), (.ref b2), (.ref b2)])) _
    exact kt
  obtain ⟨cl_8, Ar_8, q_8, S_8, M_8, H_8, U_8⟩ := id V_b2_6
  obtain ⟨T8, h8, X8, e8, W8, st8⟩ := stI X6 hx hZ e6 Ar_8 (j := (2 : Int32)) (inb_of S_8 ⟨(by decide : ¬ ((2 : Int32) < (0 : Int32))), (by decide : (2 : Int32) < (15 : Int32))⟩) (g := (mkF m 18 #[.val (.int p1), .val (.int p2), .val (.int p3), .val (.int p4), .unset, .unset, .unset, .unset, .unset, .unset, .unset] [(.int (97 : Int32)), (.int (2 : Int32)), (.ref b2), (.ref b2)])) rfl rfl (hb hby at_18)
  have V_b2_8 : Arv Z h8 b2 k2 .int (15 : Int32) [(.int (65 : Int32)), (.int (95 : Int32)), (.int (97 : Int32)), (.int (0 : Int32)), (.int (0 : Int32)), (.int (0 : Int32)), (.int (0 : Int32)), (.int (0 : Int32)), (.int (0 : Int32)), (.int (0 : Int32)), (.int (0 : Int32)), (.int (0 : Int32)), (.int (0 : Int32)), (.int (0 : Int32)), (.int (0 : Int32))] (.int (0 : Int32)) := Arv.set Ar_8 q_8 S_8 M_8 H_8 U_8 rfl W8 2 rfl (Nat.le_of_ble_eq_true rfl)
  have Z8 : n0 ≤ h8.size := Nat.le_trans Z6 (Keep.of_wr W8).1
  have N8 := Fr.snoc X8 N6 g_b2
  have G8 : ∀ t, Steps p.tables e below (T8.setTop (mkF m 19 #[.val (.int p1), .val (.int p2), .val (.int p3), .val (.int p4), .unset, .unset, .unset, .unset, .unset, .unset, .unset] [(.ref b2)])) t → Steps p.tables e below (s₁.setTop (entryFrame m #[(.int p1), (.int p2), (.int p3), (.int p4)] maxLocals)) t := fun t kt => G7 t (st8 t kt)
  have G9 : ∀ t, Steps p.tables e below (T8.setTop (mkF m 24 #[.val (.int p1), .val (.int p2), .val (.int p3), .val (.int p4), .unset, .unset, .unset, .unset, .unset, .unset, .unset] [(.int (192 : Int32)), (.int (3 : Int32)), (.ref b2), (.ref b2)])) t → Steps p.tables e below (s₁.setTop (entryFrame m #[(.int p1), (.int p2), (.int p3), (.int p4)] maxLocals)) t := by
    intro t kt
    refine G8 t ?_
    show Steps p.tables e below (T8.setTop (mkF m 19 #[.val (.int p1), .val (.int p2), .val (.int p3), .val (.int p4), .unset, .unset, .unset, .unset, .unset, .unset, .unset] [(.ref b2)])) _
    refine XS.dup X8.here hx rfl (hb hby at_19) rfl rfl ?_
    show Steps p.tables e below (T8.setTop (mkF m 20 #[.val (.int p1), .val (.int p2), .val (.int p3), .val (.int p4), .unset, .unset, .unset, .unset, .unset, .unset, .unset] [(.ref b2), (.ref b2)])) _
    refine XS.iconst X8.here hx rfl (hb hby at_20) ?_
    show Steps p.tables e below (T8.setTop (mkF m 21 #[.val (.int p1), .val (.int p2), .val (.int p3), .val (.int p4), .unset, .unset, .unset, .unset, .unset, .unset, .unset] [(.int (3 : Int32)), (.ref b2), (.ref b2)])) _
    refine XS.sipush X8.here hx rfl (hb hby at_21) ?_
    show Steps p.tables e below (T8.setTop (mkF m 24 #[.val (.int p1), .val (.int p2), .val (.int p3), .val (.int p4), .unset, .unset, .unset, .unset, .unset, .unset, .unset] [(.int (192 : Int32)), (.int (3 : Int32)), (.ref b2), (.ref b2)])) _
    exact kt
  obtain ⟨cl_10, Ar_10, q_10, S_10, M_10, H_10, U_10⟩ := id V_b2_8
  obtain ⟨T10, h10, X10, e10, W10, st10⟩ := stI X8 hx hZ e8 Ar_10 (j := (3 : Int32)) (inb_of S_10 ⟨(by decide : ¬ ((3 : Int32) < (0 : Int32))), (by decide : (3 : Int32) < (15 : Int32))⟩) (g := (mkF m 24 #[.val (.int p1), .val (.int p2), .val (.int p3), .val (.int p4), .unset, .unset, .unset, .unset, .unset, .unset, .unset] [(.int (192 : Int32)), (.int (3 : Int32)), (.ref b2), (.ref b2)])) rfl rfl (hb hby at_24)
  have V_b2_10 : Arv Z h10 b2 k2 .int (15 : Int32) [(.int (65 : Int32)), (.int (95 : Int32)), (.int (97 : Int32)), (.int (192 : Int32)), (.int (0 : Int32)), (.int (0 : Int32)), (.int (0 : Int32)), (.int (0 : Int32)), (.int (0 : Int32)), (.int (0 : Int32)), (.int (0 : Int32)), (.int (0 : Int32)), (.int (0 : Int32)), (.int (0 : Int32)), (.int (0 : Int32))] (.int (0 : Int32)) := Arv.set Ar_10 q_10 S_10 M_10 H_10 U_10 rfl W10 3 rfl (Nat.le_of_ble_eq_true rfl)
  have Z10 : n0 ≤ h10.size := Nat.le_trans Z8 (Keep.of_wr W10).1
  have N10 := Fr.snoc X10 N8 g_b2
  have G10 : ∀ t, Steps p.tables e below (T10.setTop (mkF m 25 #[.val (.int p1), .val (.int p2), .val (.int p3), .val (.int p4), .unset, .unset, .unset, .unset, .unset, .unset, .unset] [(.ref b2)])) t → Steps p.tables e below (s₁.setTop (entryFrame m #[(.int p1), (.int p2), (.int p3), (.int p4)] maxLocals)) t := fun t kt => G9 t (st10 t kt)
  have G11 : ∀ t, Steps p.tables e below (T10.setTop (mkF m 30 #[.val (.int p1), .val (.int p2), .val (.int p3), .val (.int p4), .unset, .unset, .unset, .unset, .unset, .unset, .unset] [(.int (216 : Int32)), (.int (4 : Int32)), (.ref b2), (.ref b2)])) t → Steps p.tables e below (s₁.setTop (entryFrame m #[(.int p1), (.int p2), (.int p3), (.int p4)] maxLocals)) t := by
    intro t kt
    refine G10 t ?_
    show Steps p.tables e below (T10.setTop (mkF m 25 #[.val (.int p1), .val (.int p2), .val (.int p3), .val (.int p4), .unset, .unset, .unset, .unset, .unset, .unset, .unset] [(.ref b2)])) _
    refine XS.dup X10.here hx rfl (hb hby at_25) rfl rfl ?_
    show Steps p.tables e below (T10.setTop (mkF m 26 #[.val (.int p1), .val (.int p2), .val (.int p3), .val (.int p4), .unset, .unset, .unset, .unset, .unset, .unset, .unset] [(.ref b2), (.ref b2)])) _
    refine XS.iconst X10.here hx rfl (hb hby at_26) ?_
    show Steps p.tables e below (T10.setTop (mkF m 27 #[.val (.int p1), .val (.int p2), .val (.int p3), .val (.int p4), .unset, .unset, .unset, .unset, .unset, .unset, .unset] [(.int (4 : Int32)), (.ref b2), (.ref b2)])) _
    refine XS.sipush X10.here hx rfl (hb hby at_27) ?_
    show Steps p.tables e below (T10.setTop (mkF m 30 #[.val (.int p1), .val (.int p2), .val (.int p3), .val (.int p4), .unset, .unset, .unset, .unset, .unset, .unset, .unset] [(.int (216 : Int32)), (.int (4 : Int32)), (.ref b2), (.ref b2)])) _
    exact kt
  obtain ⟨cl_12, Ar_12, q_12, S_12, M_12, H_12, U_12⟩ := id V_b2_10
  obtain ⟨T12, h12, X12, e12, W12, st12⟩ := stI X10 hx hZ e10 Ar_12 (j := (4 : Int32)) (inb_of S_12 ⟨(by decide : ¬ ((4 : Int32) < (0 : Int32))), (by decide : (4 : Int32) < (15 : Int32))⟩) (g := (mkF m 30 #[.val (.int p1), .val (.int p2), .val (.int p3), .val (.int p4), .unset, .unset, .unset, .unset, .unset, .unset, .unset] [(.int (216 : Int32)), (.int (4 : Int32)), (.ref b2), (.ref b2)])) rfl rfl (hb hby at_30)
  have V_b2_12 : Arv Z h12 b2 k2 .int (15 : Int32) [(.int (65 : Int32)), (.int (95 : Int32)), (.int (97 : Int32)), (.int (192 : Int32)), (.int (216 : Int32)), (.int (0 : Int32)), (.int (0 : Int32)), (.int (0 : Int32)), (.int (0 : Int32)), (.int (0 : Int32)), (.int (0 : Int32)), (.int (0 : Int32)), (.int (0 : Int32)), (.int (0 : Int32)), (.int (0 : Int32))] (.int (0 : Int32)) := Arv.set Ar_12 q_12 S_12 M_12 H_12 U_12 rfl W12 4 rfl (Nat.le_of_ble_eq_true rfl)
  have Z12 : n0 ≤ h12.size := Nat.le_trans Z10 (Keep.of_wr W12).1
  have N12 := Fr.snoc X12 N10 g_b2
  have G12 : ∀ t, Steps p.tables e below (T12.setTop (mkF m 31 #[.val (.int p1), .val (.int p2), .val (.int p3), .val (.int p4), .unset, .unset, .unset, .unset, .unset, .unset, .unset] [(.ref b2)])) t → Steps p.tables e below (s₁.setTop (entryFrame m #[(.int p1), (.int p2), (.int p3), (.int p4)] maxLocals)) t := fun t kt => G11 t (st12 t kt)
  have G13 : ∀ t, Steps p.tables e below (T12.setTop (mkF m 36 #[.val (.int p1), .val (.int p2), .val (.int p3), .val (.int p4), .unset, .unset, .unset, .unset, .unset, .unset, .unset] [(.int (248 : Int32)), (.int (5 : Int32)), (.ref b2), (.ref b2)])) t → Steps p.tables e below (s₁.setTop (entryFrame m #[(.int p1), (.int p2), (.int p3), (.int p4)] maxLocals)) t := by
    intro t kt
    refine G12 t ?_
    show Steps p.tables e below (T12.setTop (mkF m 31 #[.val (.int p1), .val (.int p2), .val (.int p3), .val (.int p4), .unset, .unset, .unset, .unset, .unset, .unset, .unset] [(.ref b2)])) _
    refine XS.dup X12.here hx rfl (hb hby at_31) rfl rfl ?_
    show Steps p.tables e below (T12.setTop (mkF m 32 #[.val (.int p1), .val (.int p2), .val (.int p3), .val (.int p4), .unset, .unset, .unset, .unset, .unset, .unset, .unset] [(.ref b2), (.ref b2)])) _
    refine XS.iconst X12.here hx rfl (hb hby at_32) ?_
    show Steps p.tables e below (T12.setTop (mkF m 33 #[.val (.int p1), .val (.int p2), .val (.int p3), .val (.int p4), .unset, .unset, .unset, .unset, .unset, .unset, .unset] [(.int (5 : Int32)), (.ref b2), (.ref b2)])) _
    refine XS.sipush X12.here hx rfl (hb hby at_33) ?_
    show Steps p.tables e below (T12.setTop (mkF m 36 #[.val (.int p1), .val (.int p2), .val (.int p3), .val (.int p4), .unset, .unset, .unset, .unset, .unset, .unset, .unset] [(.int (248 : Int32)), (.int (5 : Int32)), (.ref b2), (.ref b2)])) _
    exact kt
  obtain ⟨cl_14, Ar_14, q_14, S_14, M_14, H_14, U_14⟩ := id V_b2_12
  obtain ⟨T14, h14, X14, e14, W14, st14⟩ := stI X12 hx hZ e12 Ar_14 (j := (5 : Int32)) (inb_of S_14 ⟨(by decide : ¬ ((5 : Int32) < (0 : Int32))), (by decide : (5 : Int32) < (15 : Int32))⟩) (g := (mkF m 36 #[.val (.int p1), .val (.int p2), .val (.int p3), .val (.int p4), .unset, .unset, .unset, .unset, .unset, .unset, .unset] [(.int (248 : Int32)), (.int (5 : Int32)), (.ref b2), (.ref b2)])) rfl rfl (hb hby at_36)
  have V_b2_14 : Arv Z h14 b2 k2 .int (15 : Int32) [(.int (65 : Int32)), (.int (95 : Int32)), (.int (97 : Int32)), (.int (192 : Int32)), (.int (216 : Int32)), (.int (248 : Int32)), (.int (0 : Int32)), (.int (0 : Int32)), (.int (0 : Int32)), (.int (0 : Int32)), (.int (0 : Int32)), (.int (0 : Int32)), (.int (0 : Int32)), (.int (0 : Int32)), (.int (0 : Int32))] (.int (0 : Int32)) := Arv.set Ar_14 q_14 S_14 M_14 H_14 U_14 rfl W14 5 rfl (Nat.le_of_ble_eq_true rfl)
  have Z14 : n0 ≤ h14.size := Nat.le_trans Z12 (Keep.of_wr W14).1
  have N14 := Fr.snoc X14 N12 g_b2
  have G14 : ∀ t, Steps p.tables e below (T14.setTop (mkF m 37 #[.val (.int p1), .val (.int p2), .val (.int p3), .val (.int p4), .unset, .unset, .unset, .unset, .unset, .unset, .unset] [(.ref b2)])) t → Steps p.tables e below (s₁.setTop (entryFrame m #[(.int p1), (.int p2), (.int p3), (.int p4)] maxLocals)) t := fun t kt => G13 t (st14 t kt)
  have G15 : ∀ t, Steps p.tables e below (T14.setTop (mkF m 43 #[.val (.int p1), .val (.int p2), .val (.int p3), .val (.int p4), .unset, .unset, .unset, .unset, .unset, .unset, .unset] [(.int (880 : Int32)), (.int (6 : Int32)), (.ref b2), (.ref b2)])) t → Steps p.tables e below (s₁.setTop (entryFrame m #[(.int p1), (.int p2), (.int p3), (.int p4)] maxLocals)) t := by
    intro t kt
    refine G14 t ?_
    show Steps p.tables e below (T14.setTop (mkF m 37 #[.val (.int p1), .val (.int p2), .val (.int p3), .val (.int p4), .unset, .unset, .unset, .unset, .unset, .unset, .unset] [(.ref b2)])) _
    refine XS.dup X14.here hx rfl (hb hby at_37) rfl rfl ?_
    show Steps p.tables e below (T14.setTop (mkF m 38 #[.val (.int p1), .val (.int p2), .val (.int p3), .val (.int p4), .unset, .unset, .unset, .unset, .unset, .unset, .unset] [(.ref b2), (.ref b2)])) _
    refine XS.bipush X14.here hx rfl (hb hby at_38) ?_
    show Steps p.tables e below (T14.setTop (mkF m 40 #[.val (.int p1), .val (.int p2), .val (.int p3), .val (.int p4), .unset, .unset, .unset, .unset, .unset, .unset, .unset] [(.int (6 : Int32)), (.ref b2), (.ref b2)])) _
    refine XS.sipush X14.here hx rfl (hb hby at_40) ?_
    show Steps p.tables e below (T14.setTop (mkF m 43 #[.val (.int p1), .val (.int p2), .val (.int p3), .val (.int p4), .unset, .unset, .unset, .unset, .unset, .unset, .unset] [(.int (880 : Int32)), (.int (6 : Int32)), (.ref b2), (.ref b2)])) _
    exact kt
  obtain ⟨cl_16, Ar_16, q_16, S_16, M_16, H_16, U_16⟩ := id V_b2_14
  obtain ⟨T16, h16, X16, e16, W16, st16⟩ := stI X14 hx hZ e14 Ar_16 (j := (6 : Int32)) (inb_of S_16 ⟨(by decide : ¬ ((6 : Int32) < (0 : Int32))), (by decide : (6 : Int32) < (15 : Int32))⟩) (g := (mkF m 43 #[.val (.int p1), .val (.int p2), .val (.int p3), .val (.int p4), .unset, .unset, .unset, .unset, .unset, .unset, .unset] [(.int (880 : Int32)), (.int (6 : Int32)), (.ref b2), (.ref b2)])) rfl rfl (hb hby at_43)
  have V_b2_16 : Arv Z h16 b2 k2 .int (15 : Int32) [(.int (65 : Int32)), (.int (95 : Int32)), (.int (97 : Int32)), (.int (192 : Int32)), (.int (216 : Int32)), (.int (248 : Int32)), (.int (880 : Int32)), (.int (0 : Int32)), (.int (0 : Int32)), (.int (0 : Int32)), (.int (0 : Int32)), (.int (0 : Int32)), (.int (0 : Int32)), (.int (0 : Int32)), (.int (0 : Int32))] (.int (0 : Int32)) := Arv.set Ar_16 q_16 S_16 M_16 H_16 U_16 rfl W16 6 rfl (Nat.le_of_ble_eq_true rfl)
  have Z16 : n0 ≤ h16.size := Nat.le_trans Z14 (Keep.of_wr W16).1
  have N16 := Fr.snoc X16 N14 g_b2
  have G16 : ∀ t, Steps p.tables e below (T16.setTop (mkF m 44 #[.val (.int p1), .val (.int p2), .val (.int p3), .val (.int p4), .unset, .unset, .unset, .unset, .unset, .unset, .unset] [(.ref b2)])) t → Steps p.tables e below (s₁.setTop (entryFrame m #[(.int p1), (.int p2), (.int p3), (.int p4)] maxLocals)) t := fun t kt => G15 t (st16 t kt)
  have G17 : ∀ t, Steps p.tables e below (T16.setTop (mkF m 50 #[.val (.int p1), .val (.int p2), .val (.int p3), .val (.int p4), .unset, .unset, .unset, .unset, .unset, .unset, .unset] [(.int (895 : Int32)), (.int (7 : Int32)), (.ref b2), (.ref b2)])) t → Steps p.tables e below (s₁.setTop (entryFrame m #[(.int p1), (.int p2), (.int p3), (.int p4)] maxLocals)) t := by
    intro t kt
    refine G16 t ?_
    show Steps p.tables e below (T16.setTop (mkF m 44 #[.val (.int p1), .val (.int p2), .val (.int p3), .val (.int p4), .unset, .unset, .unset, .unset, .unset, .unset, .unset] [(.ref b2)])) _
    refine XS.dup X16.here hx rfl (hb hby at_44) rfl rfl ?_
    show Steps p.tables e below (T16.setTop (mkF m 45 #[.val (.int p1), .val (.int p2), .val (.int p3), .val (.int p4), .unset, .unset, .unset, .unset, .unset, .unset, .unset] [(.ref b2), (.ref b2)])) _
    refine XS.bipush X16.here hx rfl (hb hby at_45) ?_
    show Steps p.tables e below (T16.setTop (mkF m 47 #[.val (.int p1), .val (.int p2), .val (.int p3), .val (.int p4), .unset, .unset, .unset, .unset, .unset, .unset, .unset] [(.int (7 : Int32)), (.ref b2), (.ref b2)])) _
    refine XS.sipush X16.here hx rfl (hb hby at_47) ?_
    show Steps p.tables e below (T16.setTop (mkF m 50 #[.val (.int p1), .val (.int p2), .val (.int p3), .val (.int p4), .unset, .unset, .unset, .unset, .unset, .unset, .unset] [(.int (895 : Int32)), (.int (7 : Int32)), (.ref b2), (.ref b2)])) _
    exact kt
  obtain ⟨cl_18, Ar_18, q_18, S_18, M_18, H_18, U_18⟩ := id V_b2_16
  obtain ⟨T18, h18, X18, e18, W18, st18⟩ := stI X16 hx hZ e16 Ar_18 (j := (7 : Int32)) (inb_of S_18 ⟨(by decide : ¬ ((7 : Int32) < (0 : Int32))), (by decide : (7 : Int32) < (15 : Int32))⟩) (g := (mkF m 50 #[.val (.int p1), .val (.int p2), .val (.int p3), .val (.int p4), .unset, .unset, .unset, .unset, .unset, .unset, .unset] [(.int (895 : Int32)), (.int (7 : Int32)), (.ref b2), (.ref b2)])) rfl rfl (hb hby at_50)
  have V_b2_18 : Arv Z h18 b2 k2 .int (15 : Int32) [(.int (65 : Int32)), (.int (95 : Int32)), (.int (97 : Int32)), (.int (192 : Int32)), (.int (216 : Int32)), (.int (248 : Int32)), (.int (880 : Int32)), (.int (895 : Int32)), (.int (0 : Int32)), (.int (0 : Int32)), (.int (0 : Int32)), (.int (0 : Int32)), (.int (0 : Int32)), (.int (0 : Int32)), (.int (0 : Int32))] (.int (0 : Int32)) := Arv.set Ar_18 q_18 S_18 M_18 H_18 U_18 rfl W18 7 rfl (Nat.le_of_ble_eq_true rfl)
  have Z18 : n0 ≤ h18.size := Nat.le_trans Z16 (Keep.of_wr W18).1
  have N18 := Fr.snoc X18 N16 g_b2
  have G18 : ∀ t, Steps p.tables e below (T18.setTop (mkF m 51 #[.val (.int p1), .val (.int p2), .val (.int p3), .val (.int p4), .unset, .unset, .unset, .unset, .unset, .unset, .unset] [(.ref b2)])) t → Steps p.tables e below (s₁.setTop (entryFrame m #[(.int p1), (.int p2), (.int p3), (.int p4)] maxLocals)) t := fun t kt => G17 t (st18 t kt)
  have G19 : ∀ t, Steps p.tables e below (T18.setTop (mkF m 57 #[.val (.int p1), .val (.int p2), .val (.int p3), .val (.int p4), .unset, .unset, .unset, .unset, .unset, .unset, .unset] [(.int (8204 : Int32)), (.int (8 : Int32)), (.ref b2), (.ref b2)])) t → Steps p.tables e below (s₁.setTop (entryFrame m #[(.int p1), (.int p2), (.int p3), (.int p4)] maxLocals)) t := by
    intro t kt
    refine G18 t ?_
    show Steps p.tables e below (T18.setTop (mkF m 51 #[.val (.int p1), .val (.int p2), .val (.int p3), .val (.int p4), .unset, .unset, .unset, .unset, .unset, .unset, .unset] [(.ref b2)])) _
    refine XS.dup X18.here hx rfl (hb hby at_51) rfl rfl ?_
    show Steps p.tables e below (T18.setTop (mkF m 52 #[.val (.int p1), .val (.int p2), .val (.int p3), .val (.int p4), .unset, .unset, .unset, .unset, .unset, .unset, .unset] [(.ref b2), (.ref b2)])) _
    refine XS.bipush X18.here hx rfl (hb hby at_52) ?_
    show Steps p.tables e below (T18.setTop (mkF m 54 #[.val (.int p1), .val (.int p2), .val (.int p3), .val (.int p4), .unset, .unset, .unset, .unset, .unset, .unset, .unset] [(.int (8 : Int32)), (.ref b2), (.ref b2)])) _
    refine XS.sipush X18.here hx rfl (hb hby at_54) ?_
    show Steps p.tables e below (T18.setTop (mkF m 57 #[.val (.int p1), .val (.int p2), .val (.int p3), .val (.int p4), .unset, .unset, .unset, .unset, .unset, .unset, .unset] [(.int (8204 : Int32)), (.int (8 : Int32)), (.ref b2), (.ref b2)])) _
    exact kt
  obtain ⟨cl_20, Ar_20, q_20, S_20, M_20, H_20, U_20⟩ := id V_b2_18
  obtain ⟨T20, h20, X20, e20, W20, st20⟩ := stI X18 hx hZ e18 Ar_20 (j := (8 : Int32)) (inb_of S_20 ⟨(by decide : ¬ ((8 : Int32) < (0 : Int32))), (by decide : (8 : Int32) < (15 : Int32))⟩) (g := (mkF m 57 #[.val (.int p1), .val (.int p2), .val (.int p3), .val (.int p4), .unset, .unset, .unset, .unset, .unset, .unset, .unset] [(.int (8204 : Int32)), (.int (8 : Int32)), (.ref b2), (.ref b2)])) rfl rfl (hb hby at_57)
  have V_b2_20 : Arv Z h20 b2 k2 .int (15 : Int32) [(.int (65 : Int32)), (.int (95 : Int32)), (.int (97 : Int32)), (.int (192 : Int32)), (.int (216 : Int32)), (.int (248 : Int32)), (.int (880 : Int32)), (.int (895 : Int32)), (.int (8204 : Int32)), (.int (0 : Int32)), (.int (0 : Int32)), (.int (0 : Int32)), (.int (0 : Int32)), (.int (0 : Int32)), (.int (0 : Int32))] (.int (0 : Int32)) := Arv.set Ar_20 q_20 S_20 M_20 H_20 U_20 rfl W20 8 rfl (Nat.le_of_ble_eq_true rfl)
  have Z20 : n0 ≤ h20.size := Nat.le_trans Z18 (Keep.of_wr W20).1
  have N20 := Fr.snoc X20 N18 g_b2
  have G20 : ∀ t, Steps p.tables e below (T20.setTop (mkF m 58 #[.val (.int p1), .val (.int p2), .val (.int p3), .val (.int p4), .unset, .unset, .unset, .unset, .unset, .unset, .unset] [(.ref b2)])) t → Steps p.tables e below (s₁.setTop (entryFrame m #[(.int p1), (.int p2), (.int p3), (.int p4)] maxLocals)) t := fun t kt => G19 t (st20 t kt)
  have G21 : ∀ t, Steps p.tables e below (T20.setTop (mkF m 64 #[.val (.int p1), .val (.int p2), .val (.int p3), .val (.int p4), .unset, .unset, .unset, .unset, .unset, .unset, .unset] [(.int (8304 : Int32)), (.int (9 : Int32)), (.ref b2), (.ref b2)])) t → Steps p.tables e below (s₁.setTop (entryFrame m #[(.int p1), (.int p2), (.int p3), (.int p4)] maxLocals)) t := by
    intro t kt
    refine G20 t ?_
    show Steps p.tables e below (T20.setTop (mkF m 58 #[.val (.int p1), .val (.int p2), .val (.int p3), .val (.int p4), .unset, .unset, .unset, .unset, .unset, .unset, .unset] [(.ref b2)])) _
    refine XS.dup X20.here hx rfl (hb hby at_58) rfl rfl ?_
    show Steps p.tables e below (T20.setTop (mkF m 59 #[.val (.int p1), .val (.int p2), .val (.int p3), .val (.int p4), .unset, .unset, .unset, .unset, .unset, .unset, .unset] [(.ref b2), (.ref b2)])) _
    refine XS.bipush X20.here hx rfl (hb hby at_59) ?_
    show Steps p.tables e below (T20.setTop (mkF m 61 #[.val (.int p1), .val (.int p2), .val (.int p3), .val (.int p4), .unset, .unset, .unset, .unset, .unset, .unset, .unset] [(.int (9 : Int32)), (.ref b2), (.ref b2)])) _
    refine XS.sipush X20.here hx rfl (hb hby at_61) ?_
    show Steps p.tables e below (T20.setTop (mkF m 64 #[.val (.int p1), .val (.int p2), .val (.int p3), .val (.int p4), .unset, .unset, .unset, .unset, .unset, .unset, .unset] [(.int (8304 : Int32)), (.int (9 : Int32)), (.ref b2), (.ref b2)])) _
    exact kt
  obtain ⟨cl_22, Ar_22, q_22, S_22, M_22, H_22, U_22⟩ := id V_b2_20
  obtain ⟨T22, h22, X22, e22, W22, st22⟩ := stI X20 hx hZ e20 Ar_22 (j := (9 : Int32)) (inb_of S_22 ⟨(by decide : ¬ ((9 : Int32) < (0 : Int32))), (by decide : (9 : Int32) < (15 : Int32))⟩) (g := (mkF m 64 #[.val (.int p1), .val (.int p2), .val (.int p3), .val (.int p4), .unset, .unset, .unset, .unset, .unset, .unset, .unset] [(.int (8304 : Int32)), (.int (9 : Int32)), (.ref b2), (.ref b2)])) rfl rfl (hb hby at_64)
  have V_b2_22 : Arv Z h22 b2 k2 .int (15 : Int32) [(.int (65 : Int32)), (.int (95 : Int32)), (.int (97 : Int32)), (.int (192 : Int32)), (.int (216 : Int32)), (.int (248 : Int32)), (.int (880 : Int32)), (.int (895 : Int32)), (.int (8204 : Int32)), (.int (8304 : Int32)), (.int (0 : Int32)), (.int (0 : Int32)), (.int (0 : Int32)), (.int (0 : Int32)), (.int (0 : Int32))] (.int (0 : Int32)) := Arv.set Ar_22 q_22 S_22 M_22 H_22 U_22 rfl W22 9 rfl (Nat.le_of_ble_eq_true rfl)
  have Z22 : n0 ≤ h22.size := Nat.le_trans Z20 (Keep.of_wr W22).1
  have N22 := Fr.snoc X22 N20 g_b2
  have G22 : ∀ t, Steps p.tables e below (T22.setTop (mkF m 65 #[.val (.int p1), .val (.int p2), .val (.int p3), .val (.int p4), .unset, .unset, .unset, .unset, .unset, .unset, .unset] [(.ref b2)])) t → Steps p.tables e below (s₁.setTop (entryFrame m #[(.int p1), (.int p2), (.int p3), (.int p4)] maxLocals)) t := fun t kt => G21 t (st22 t kt)
  have G23 : ∀ t, Steps p.tables e below (T22.setTop (mkF m 71 #[.val (.int p1), .val (.int p2), .val (.int p3), .val (.int p4), .unset, .unset, .unset, .unset, .unset, .unset, .unset] [(.int (11264 : Int32)), (.int (10 : Int32)), (.ref b2), (.ref b2)])) t → Steps p.tables e below (s₁.setTop (entryFrame m #[(.int p1), (.int p2), (.int p3), (.int p4)] maxLocals)) t := by
    intro t kt
    refine G22 t ?_
    show Steps p.tables e below (T22.setTop (mkF m 65 #[.val (.int p1), .val (.int p2), .val (.int p3), .val (.int p4), .unset, .unset, .unset, .unset, .unset, .unset, .unset] [(.ref b2)])) _
    refine XS.dup X22.here hx rfl (hb hby at_65) rfl rfl ?_
    show Steps p.tables e below (T22.setTop (mkF m 66 #[.val (.int p1), .val (.int p2), .val (.int p3), .val (.int p4), .unset, .unset, .unset, .unset, .unset, .unset, .unset] [(.ref b2), (.ref b2)])) _
    refine XS.bipush X22.here hx rfl (hb hby at_66) ?_
    show Steps p.tables e below (T22.setTop (mkF m 68 #[.val (.int p1), .val (.int p2), .val (.int p3), .val (.int p4), .unset, .unset, .unset, .unset, .unset, .unset, .unset] [(.int (10 : Int32)), (.ref b2), (.ref b2)])) _
    refine XS.sipush X22.here hx rfl (hb hby at_68) ?_
    show Steps p.tables e below (T22.setTop (mkF m 71 #[.val (.int p1), .val (.int p2), .val (.int p3), .val (.int p4), .unset, .unset, .unset, .unset, .unset, .unset, .unset] [(.int (11264 : Int32)), (.int (10 : Int32)), (.ref b2), (.ref b2)])) _
    exact kt
  obtain ⟨cl_24, Ar_24, q_24, S_24, M_24, H_24, U_24⟩ := id V_b2_22
  obtain ⟨T24, h24, X24, e24, W24, st24⟩ := stI X22 hx hZ e22 Ar_24 (j := (10 : Int32)) (inb_of S_24 ⟨(by decide : ¬ ((10 : Int32) < (0 : Int32))), (by decide : (10 : Int32) < (15 : Int32))⟩) (g := (mkF m 71 #[.val (.int p1), .val (.int p2), .val (.int p3), .val (.int p4), .unset, .unset, .unset, .unset, .unset, .unset, .unset] [(.int (11264 : Int32)), (.int (10 : Int32)), (.ref b2), (.ref b2)])) rfl rfl (hb hby at_71)
  have V_b2_24 : Arv Z h24 b2 k2 .int (15 : Int32) [(.int (65 : Int32)), (.int (95 : Int32)), (.int (97 : Int32)), (.int (192 : Int32)), (.int (216 : Int32)), (.int (248 : Int32)), (.int (880 : Int32)), (.int (895 : Int32)), (.int (8204 : Int32)), (.int (8304 : Int32)), (.int (11264 : Int32)), (.int (0 : Int32)), (.int (0 : Int32)), (.int (0 : Int32)), (.int (0 : Int32))] (.int (0 : Int32)) := Arv.set Ar_24 q_24 S_24 M_24 H_24 U_24 rfl W24 10 rfl (Nat.le_of_ble_eq_true rfl)
  have Z24 : n0 ≤ h24.size := Nat.le_trans Z22 (Keep.of_wr W24).1
  have N24 := Fr.snoc X24 N22 g_b2
  have G24 : ∀ t, Steps p.tables e below (T24.setTop (mkF m 72 #[.val (.int p1), .val (.int p2), .val (.int p3), .val (.int p4), .unset, .unset, .unset, .unset, .unset, .unset, .unset] [(.ref b2)])) t → Steps p.tables e below (s₁.setTop (entryFrame m #[(.int p1), (.int p2), (.int p3), (.int p4)] maxLocals)) t := fun t kt => G23 t (st24 t kt)
  have G25 : ∀ t, Steps p.tables e below (T24.setTop (mkF m 78 #[.val (.int p1), .val (.int p2), .val (.int p3), .val (.int p4), .unset, .unset, .unset, .unset, .unset, .unset, .unset] [(.int (12289 : Int32)), (.int (11 : Int32)), (.ref b2), (.ref b2)])) t → Steps p.tables e below (s₁.setTop (entryFrame m #[(.int p1), (.int p2), (.int p3), (.int p4)] maxLocals)) t := by
    intro t kt
    refine G24 t ?_
    show Steps p.tables e below (T24.setTop (mkF m 72 #[.val (.int p1), .val (.int p2), .val (.int p3), .val (.int p4), .unset, .unset, .unset, .unset, .unset, .unset, .unset] [(.ref b2)])) _
    refine XS.dup X24.here hx rfl (hb hby at_72) rfl rfl ?_
    show Steps p.tables e below (T24.setTop (mkF m 73 #[.val (.int p1), .val (.int p2), .val (.int p3), .val (.int p4), .unset, .unset, .unset, .unset, .unset, .unset, .unset] [(.ref b2), (.ref b2)])) _
    refine XS.bipush X24.here hx rfl (hb hby at_73) ?_
    show Steps p.tables e below (T24.setTop (mkF m 75 #[.val (.int p1), .val (.int p2), .val (.int p3), .val (.int p4), .unset, .unset, .unset, .unset, .unset, .unset, .unset] [(.int (11 : Int32)), (.ref b2), (.ref b2)])) _
    refine XS.sipush X24.here hx rfl (hb hby at_75) ?_
    show Steps p.tables e below (T24.setTop (mkF m 78 #[.val (.int p1), .val (.int p2), .val (.int p3), .val (.int p4), .unset, .unset, .unset, .unset, .unset, .unset, .unset] [(.int (12289 : Int32)), (.int (11 : Int32)), (.ref b2), (.ref b2)])) _
    exact kt
  obtain ⟨cl_26, Ar_26, q_26, S_26, M_26, H_26, U_26⟩ := id V_b2_24
  obtain ⟨T26, h26, X26, e26, W26, st26⟩ := stI X24 hx hZ e24 Ar_26 (j := (11 : Int32)) (inb_of S_26 ⟨(by decide : ¬ ((11 : Int32) < (0 : Int32))), (by decide : (11 : Int32) < (15 : Int32))⟩) (g := (mkF m 78 #[.val (.int p1), .val (.int p2), .val (.int p3), .val (.int p4), .unset, .unset, .unset, .unset, .unset, .unset, .unset] [(.int (12289 : Int32)), (.int (11 : Int32)), (.ref b2), (.ref b2)])) rfl rfl (hb hby at_78)
  have V_b2_26 : Arv Z h26 b2 k2 .int (15 : Int32) [(.int (65 : Int32)), (.int (95 : Int32)), (.int (97 : Int32)), (.int (192 : Int32)), (.int (216 : Int32)), (.int (248 : Int32)), (.int (880 : Int32)), (.int (895 : Int32)), (.int (8204 : Int32)), (.int (8304 : Int32)), (.int (11264 : Int32)), (.int (12289 : Int32)), (.int (0 : Int32)), (.int (0 : Int32)), (.int (0 : Int32))] (.int (0 : Int32)) := Arv.set Ar_26 q_26 S_26 M_26 H_26 U_26 rfl W26 11 rfl (Nat.le_of_ble_eq_true rfl)
  have Z26 : n0 ≤ h26.size := Nat.le_trans Z24 (Keep.of_wr W26).1
  have N26 := Fr.snoc X26 N24 g_b2
  have G26 : ∀ t, Steps p.tables e below (T26.setTop (mkF m 79 #[.val (.int p1), .val (.int p2), .val (.int p3), .val (.int p4), .unset, .unset, .unset, .unset, .unset, .unset, .unset] [(.ref b2)])) t → Steps p.tables e below (s₁.setTop (entryFrame m #[(.int p1), (.int p2), (.int p3), (.int p4)] maxLocals)) t := fun t kt => G25 t (st26 t kt)
  have G27 : ∀ t, Steps p.tables e below (T26.setTop (mkF m 84 #[.val (.int p1), .val (.int p2), .val (.int p3), .val (.int p4), .unset, .unset, .unset, .unset, .unset, .unset, .unset] [(.int (63744 : Int32)), (.int (12 : Int32)), (.ref b2), (.ref b2)])) t → Steps p.tables e below (s₁.setTop (entryFrame m #[(.int p1), (.int p2), (.int p3), (.int p4)] maxLocals)) t := by
    intro t kt
    refine G26 t ?_
    show Steps p.tables e below (T26.setTop (mkF m 79 #[.val (.int p1), .val (.int p2), .val (.int p3), .val (.int p4), .unset, .unset, .unset, .unset, .unset, .unset, .unset] [(.ref b2)])) _
    refine XS.dup X26.here hx rfl (hb hby at_79) rfl rfl ?_
    show Steps p.tables e below (T26.setTop (mkF m 80 #[.val (.int p1), .val (.int p2), .val (.int p3), .val (.int p4), .unset, .unset, .unset, .unset, .unset, .unset, .unset] [(.ref b2), (.ref b2)])) _
    refine XS.bipush X26.here hx rfl (hb hby at_80) ?_
    show Steps p.tables e below (T26.setTop (mkF m 82 #[.val (.int p1), .val (.int p2), .val (.int p3), .val (.int p4), .unset, .unset, .unset, .unset, .unset, .unset, .unset] [(.int (12 : Int32)), (.ref b2), (.ref b2)])) _
    refine X26.ldcInt hx hown (mvT hZ (hw _ (List.mem_of_getElem? (i := 1) rfl))) (g := (mkF m 82 #[.val (.int p1), .val (.int p2), .val (.int p3), .val (.int p4), .unset, .unset, .unset, .unset, .unset, .unset, .unset] [(.int (12 : Int32)), (.ref b2), (.ref b2)])) rfl (hb hby at_82) _ ?_
    show Steps p.tables e below (T26.setTop (mkF m 84 #[.val (.int p1), .val (.int p2), .val (.int p3), .val (.int p4), .unset, .unset, .unset, .unset, .unset, .unset, .unset] [(.int (63744 : Int32)), (.int (12 : Int32)), (.ref b2), (.ref b2)])) _
    exact kt
  obtain ⟨cl_28, Ar_28, q_28, S_28, M_28, H_28, U_28⟩ := id V_b2_26
  obtain ⟨T28, h28, X28, e28, W28, st28⟩ := stI X26 hx hZ e26 Ar_28 (j := (12 : Int32)) (inb_of S_28 ⟨(by decide : ¬ ((12 : Int32) < (0 : Int32))), (by decide : (12 : Int32) < (15 : Int32))⟩) (g := (mkF m 84 #[.val (.int p1), .val (.int p2), .val (.int p3), .val (.int p4), .unset, .unset, .unset, .unset, .unset, .unset, .unset] [(.int (63744 : Int32)), (.int (12 : Int32)), (.ref b2), (.ref b2)])) rfl rfl (hb hby at_84)
  have V_b2_28 : Arv Z h28 b2 k2 .int (15 : Int32) [(.int (65 : Int32)), (.int (95 : Int32)), (.int (97 : Int32)), (.int (192 : Int32)), (.int (216 : Int32)), (.int (248 : Int32)), (.int (880 : Int32)), (.int (895 : Int32)), (.int (8204 : Int32)), (.int (8304 : Int32)), (.int (11264 : Int32)), (.int (12289 : Int32)), (.int (63744 : Int32)), (.int (0 : Int32)), (.int (0 : Int32))] (.int (0 : Int32)) := Arv.set Ar_28 q_28 S_28 M_28 H_28 U_28 rfl W28 12 rfl (Nat.le_of_ble_eq_true rfl)
  have Z28 : n0 ≤ h28.size := Nat.le_trans Z26 (Keep.of_wr W28).1
  have N28 := Fr.snoc X28 N26 g_b2
  have G28 : ∀ t, Steps p.tables e below (T28.setTop (mkF m 85 #[.val (.int p1), .val (.int p2), .val (.int p3), .val (.int p4), .unset, .unset, .unset, .unset, .unset, .unset, .unset] [(.ref b2)])) t → Steps p.tables e below (s₁.setTop (entryFrame m #[(.int p1), (.int p2), (.int p3), (.int p4)] maxLocals)) t := fun t kt => G27 t (st28 t kt)
  have G29 : ∀ t, Steps p.tables e below (T28.setTop (mkF m 90 #[.val (.int p1), .val (.int p2), .val (.int p3), .val (.int p4), .unset, .unset, .unset, .unset, .unset, .unset, .unset] [(.int (65008 : Int32)), (.int (13 : Int32)), (.ref b2), (.ref b2)])) t → Steps p.tables e below (s₁.setTop (entryFrame m #[(.int p1), (.int p2), (.int p3), (.int p4)] maxLocals)) t := by
    intro t kt
    refine G28 t ?_
    show Steps p.tables e below (T28.setTop (mkF m 85 #[.val (.int p1), .val (.int p2), .val (.int p3), .val (.int p4), .unset, .unset, .unset, .unset, .unset, .unset, .unset] [(.ref b2)])) _
    refine XS.dup X28.here hx rfl (hb hby at_85) rfl rfl ?_
    show Steps p.tables e below (T28.setTop (mkF m 86 #[.val (.int p1), .val (.int p2), .val (.int p3), .val (.int p4), .unset, .unset, .unset, .unset, .unset, .unset, .unset] [(.ref b2), (.ref b2)])) _
    refine XS.bipush X28.here hx rfl (hb hby at_86) ?_
    show Steps p.tables e below (T28.setTop (mkF m 88 #[.val (.int p1), .val (.int p2), .val (.int p3), .val (.int p4), .unset, .unset, .unset, .unset, .unset, .unset, .unset] [(.int (13 : Int32)), (.ref b2), (.ref b2)])) _
    refine X28.ldcInt hx hown (mvT hZ (hw _ (List.mem_of_getElem? (i := 2) rfl))) (g := (mkF m 88 #[.val (.int p1), .val (.int p2), .val (.int p3), .val (.int p4), .unset, .unset, .unset, .unset, .unset, .unset, .unset] [(.int (13 : Int32)), (.ref b2), (.ref b2)])) rfl (hb hby at_88) _ ?_
    show Steps p.tables e below (T28.setTop (mkF m 90 #[.val (.int p1), .val (.int p2), .val (.int p3), .val (.int p4), .unset, .unset, .unset, .unset, .unset, .unset, .unset] [(.int (65008 : Int32)), (.int (13 : Int32)), (.ref b2), (.ref b2)])) _
    exact kt
  obtain ⟨cl_30, Ar_30, q_30, S_30, M_30, H_30, U_30⟩ := id V_b2_28
  obtain ⟨T30, h30, X30, e30, W30, st30⟩ := stI X28 hx hZ e28 Ar_30 (j := (13 : Int32)) (inb_of S_30 ⟨(by decide : ¬ ((13 : Int32) < (0 : Int32))), (by decide : (13 : Int32) < (15 : Int32))⟩) (g := (mkF m 90 #[.val (.int p1), .val (.int p2), .val (.int p3), .val (.int p4), .unset, .unset, .unset, .unset, .unset, .unset, .unset] [(.int (65008 : Int32)), (.int (13 : Int32)), (.ref b2), (.ref b2)])) rfl rfl (hb hby at_90)
  have V_b2_30 : Arv Z h30 b2 k2 .int (15 : Int32) [(.int (65 : Int32)), (.int (95 : Int32)), (.int (97 : Int32)), (.int (192 : Int32)), (.int (216 : Int32)), (.int (248 : Int32)), (.int (880 : Int32)), (.int (895 : Int32)), (.int (8204 : Int32)), (.int (8304 : Int32)), (.int (11264 : Int32)), (.int (12289 : Int32)), (.int (63744 : Int32)), (.int (65008 : Int32)), (.int (0 : Int32))] (.int (0 : Int32)) := Arv.set Ar_30 q_30 S_30 M_30 H_30 U_30 rfl W30 13 rfl (Nat.le_of_ble_eq_true rfl)
  have Z30 : n0 ≤ h30.size := Nat.le_trans Z28 (Keep.of_wr W30).1
  have N30 := Fr.snoc X30 N28 g_b2
  have G30 : ∀ t, Steps p.tables e below (T30.setTop (mkF m 91 #[.val (.int p1), .val (.int p2), .val (.int p3), .val (.int p4), .unset, .unset, .unset, .unset, .unset, .unset, .unset] [(.ref b2)])) t → Steps p.tables e below (s₁.setTop (entryFrame m #[(.int p1), (.int p2), (.int p3), (.int p4)] maxLocals)) t := fun t kt => G29 t (st30 t kt)
  have G31 : ∀ t, Steps p.tables e below (T30.setTop (mkF m 96 #[.val (.int p1), .val (.int p2), .val (.int p3), .val (.int p4), .unset, .unset, .unset, .unset, .unset, .unset, .unset] [(.int (65536 : Int32)), (.int (14 : Int32)), (.ref b2), (.ref b2)])) t → Steps p.tables e below (s₁.setTop (entryFrame m #[(.int p1), (.int p2), (.int p3), (.int p4)] maxLocals)) t := by
    intro t kt
    refine G30 t ?_
    show Steps p.tables e below (T30.setTop (mkF m 91 #[.val (.int p1), .val (.int p2), .val (.int p3), .val (.int p4), .unset, .unset, .unset, .unset, .unset, .unset, .unset] [(.ref b2)])) _
    refine XS.dup X30.here hx rfl (hb hby at_91) rfl rfl ?_
    show Steps p.tables e below (T30.setTop (mkF m 92 #[.val (.int p1), .val (.int p2), .val (.int p3), .val (.int p4), .unset, .unset, .unset, .unset, .unset, .unset, .unset] [(.ref b2), (.ref b2)])) _
    refine XS.bipush X30.here hx rfl (hb hby at_92) ?_
    show Steps p.tables e below (T30.setTop (mkF m 94 #[.val (.int p1), .val (.int p2), .val (.int p3), .val (.int p4), .unset, .unset, .unset, .unset, .unset, .unset, .unset] [(.int (14 : Int32)), (.ref b2), (.ref b2)])) _
    refine X30.ldcInt hx hown (mvT hZ (hw _ (List.mem_of_getElem? (i := 3) rfl))) (g := (mkF m 94 #[.val (.int p1), .val (.int p2), .val (.int p3), .val (.int p4), .unset, .unset, .unset, .unset, .unset, .unset, .unset] [(.int (14 : Int32)), (.ref b2), (.ref b2)])) rfl (hb hby at_94) _ ?_
    show Steps p.tables e below (T30.setTop (mkF m 96 #[.val (.int p1), .val (.int p2), .val (.int p3), .val (.int p4), .unset, .unset, .unset, .unset, .unset, .unset, .unset] [(.int (65536 : Int32)), (.int (14 : Int32)), (.ref b2), (.ref b2)])) _
    exact kt
  obtain ⟨cl_32, Ar_32, q_32, S_32, M_32, H_32, U_32⟩ := id V_b2_30
  obtain ⟨T32, h32, X32, e32, W32, st32⟩ := stI X30 hx hZ e30 Ar_32 (j := (14 : Int32)) (inb_of S_32 ⟨(by decide : ¬ ((14 : Int32) < (0 : Int32))), (by decide : (14 : Int32) < (15 : Int32))⟩) (g := (mkF m 96 #[.val (.int p1), .val (.int p2), .val (.int p3), .val (.int p4), .unset, .unset, .unset, .unset, .unset, .unset, .unset] [(.int (65536 : Int32)), (.int (14 : Int32)), (.ref b2), (.ref b2)])) rfl rfl (hb hby at_96)
  have V_b2_32 : Arv Z h32 b2 k2 .int (15 : Int32) [(.int (65 : Int32)), (.int (95 : Int32)), (.int (97 : Int32)), (.int (192 : Int32)), (.int (216 : Int32)), (.int (248 : Int32)), (.int (880 : Int32)), (.int (895 : Int32)), (.int (8204 : Int32)), (.int (8304 : Int32)), (.int (11264 : Int32)), (.int (12289 : Int32)), (.int (63744 : Int32)), (.int (65008 : Int32)), (.int (65536 : Int32))] (.int (0 : Int32)) := Arv.set Ar_32 q_32 S_32 M_32 H_32 U_32 rfl W32 14 rfl (Nat.le_of_ble_eq_true rfl)
  have Z32 : n0 ≤ h32.size := Nat.le_trans Z30 (Keep.of_wr W32).1
  have N32 := Fr.snoc X32 N30 g_b2
  have G32 : ∀ t, Steps p.tables e below (T32.setTop (mkF m 97 #[.val (.int p1), .val (.int p2), .val (.int p3), .val (.int p4), .unset, .unset, .unset, .unset, .unset, .unset, .unset] [(.ref b2)])) t → Steps p.tables e below (s₁.setTop (entryFrame m #[(.int p1), (.int p2), (.int p3), (.int p4)] maxLocals)) t := fun t kt => G31 t (st32 t kt)
  have G33 : ∀ t, Steps p.tables e below (T32.setTop (mkF m 101 #[.val (.int p1), .val (.int p2), .val (.int p3), .val (.int p4), .val (.ref b2), .unset, .unset, .unset, .unset, .unset, .unset] [(.int (15 : Int32))])) t → Steps p.tables e below (s₁.setTop (entryFrame m #[(.int p1), (.int p2), (.int p3), (.int p4)] maxLocals)) t := by
    intro t kt
    refine G32 t ?_
    show Steps p.tables e below (T32.setTop (mkF m 97 #[.val (.int p1), .val (.int p2), .val (.int p3), .val (.int p4), .unset, .unset, .unset, .unset, .unset, .unset, .unset] [(.ref b2)])) _
    refine XS.astore X32.here hx rfl (hb hby at_97) rfl rfl (l' := #[.val (.int p1), .val (.int p2), .val (.int p3), .val (.int p4), .val (.ref b2), .unset, .unset, .unset, .unset, .unset, .unset]) rfl ?_
    show Steps p.tables e below (T32.setTop (mkF m 99 #[.val (.int p1), .val (.int p2), .val (.int p3), .val (.int p4), .val (.ref b2), .unset, .unset, .unset, .unset, .unset, .unset] [])) _
    refine XS.bipush X32.here hx rfl (hb hby at_99) ?_
    show Steps p.tables e below (T32.setTop (mkF m 101 #[.val (.int p1), .val (.int p2), .val (.int p3), .val (.int p4), .val (.ref b2), .unset, .unset, .unset, .unset, .unset, .unset] [(.int (15 : Int32))])) _
    exact kt
  obtain ⟨LH34, XH34, NH34⟩ : ∃ L', Stand p l e room_1 s m #[(.int p1), (.int p2), (.int p3), (.int p4)] below meth c T32 L' 1 15 ∧ Fr n0 L' := ⟨_, X32, N32⟩
  obtain ⟨T35, h35, k35, X35, e35, E35, A35, st35⟩ := newP XH34 hx hZ (hw _ (List.mem_of_getElem? (i := 0) rfl)) e32 (g := (mkF m 101 #[.val (.int p1), .val (.int p2), .val (.int p3), .val (.int p4), .val (.ref b2), .unset, .unset, .unset, .unset, .unset, .unset] [(.int (15 : Int32))])) rfl (hb hby at_101) rfl (by decide) (cap := 15) (by decide) (by decide) (by decide) (by decide)
  obtain ⟨b35, g35⟩ : ∃ z, z = h32.size := ⟨_, rfl⟩
  rw [← g35] at A35 st35
  have g_b35 : n0 ≤ b35 := Nat.le_trans Z32 (Nat.le_of_eq g35.symm)
  have ne_b2_b35 : b2 ≠ b35 := Nat.ne_of_lt (Nat.lt_of_lt_of_le V_b2_32.lt (Nat.le_of_eq g35.symm))
  have V_b2_32_35 : Arv Z h35 b2 k2 .int (15 : Int32) [(.int (65 : Int32)), (.int (95 : Int32)), (.int (97 : Int32)), (.int (192 : Int32)), (.int (216 : Int32)), (.int (248 : Int32)), (.int (880 : Int32)), (.int (895 : Int32)), (.int (8204 : Int32)), (.int (8304 : Int32)), (.int (11264 : Int32)), (.int (12289 : Int32)), (.int (63744 : Int32)), (.int (65008 : Int32)), (.int (65536 : Int32))] (.int (0 : Int32)) := V_b2_32.ext E35
  have Z35 : n0 ≤ h35.size := Nat.le_trans Z32 E35.1
  have V_b35 : Arv Z h35 b35 k35 .int (15 : Int32) [(.int (0 : Int32)), (.int (0 : Int32)), (.int (0 : Int32)), (.int (0 : Int32)), (.int (0 : Int32)), (.int (0 : Int32)), (.int (0 : Int32)), (.int (0 : Int32)), (.int (0 : Int32)), (.int (0 : Int32)), (.int (0 : Int32)), (.int (0 : Int32)), (.int (0 : Int32)), (.int (0 : Int32)), (.int (0 : Int32))] (.int (0 : Int32)) := (Arv.new A35 (by decide)).pad (pad_rep [] (.int (0 : Int32)) 15)
  have G35 : ∀ t, Steps p.tables e below (T35.setTop (mkF m 103 #[.val (.int p1), .val (.int p2), .val (.int p3), .val (.int p4), .val (.ref b2), .unset, .unset, .unset, .unset, .unset, .unset] [(.ref b35)])) t → Steps p.tables e below (s₁.setTop (entryFrame m #[(.int p1), (.int p2), (.int p3), (.int p4)] maxLocals)) t := fun t kt => G33 t (st35 t kt)
  have G36 : ∀ t, Steps p.tables e below (T35.setTop (mkF m 107 #[.val (.int p1), .val (.int p2), .val (.int p3), .val (.int p4), .val (.ref b2), .unset, .unset, .unset, .unset, .unset, .unset] [(.int (90 : Int32)), (.int (0 : Int32)), (.ref b35), (.ref b35)])) t → Steps p.tables e below (s₁.setTop (entryFrame m #[(.int p1), (.int p2), (.int p3), (.int p4)] maxLocals)) t := by
    intro t kt
    refine G35 t ?_
    show Steps p.tables e below (T35.setTop (mkF m 103 #[.val (.int p1), .val (.int p2), .val (.int p3), .val (.int p4), .val (.ref b2), .unset, .unset, .unset, .unset, .unset, .unset] [(.ref b35)])) _
    refine XS.dup X35.here hx rfl (hb hby at_103) rfl rfl ?_
    show Steps p.tables e below (T35.setTop (mkF m 104 #[.val (.int p1), .val (.int p2), .val (.int p3), .val (.int p4), .val (.ref b2), .unset, .unset, .unset, .unset, .unset, .unset] [(.ref b35), (.ref b35)])) _
    refine XS.iconst X35.here hx rfl (hb hby at_104) ?_
    show Steps p.tables e below (T35.setTop (mkF m 105 #[.val (.int p1), .val (.int p2), .val (.int p3), .val (.int p4), .val (.ref b2), .unset, .unset, .unset, .unset, .unset, .unset] [(.int (0 : Int32)), (.ref b35), (.ref b35)])) _
    refine XS.bipush X35.here hx rfl (hb hby at_105) ?_
    show Steps p.tables e below (T35.setTop (mkF m 107 #[.val (.int p1), .val (.int p2), .val (.int p3), .val (.int p4), .val (.ref b2), .unset, .unset, .unset, .unset, .unset, .unset] [(.int (90 : Int32)), (.int (0 : Int32)), (.ref b35), (.ref b35)])) _
    exact kt
  obtain ⟨cl_37, Ar_37, q_37, S_37, M_37, H_37, U_37⟩ := id V_b35
  obtain ⟨T37, h37, X37, e37, W37, st37⟩ := stI X35 hx hZ e35 Ar_37 (j := (0 : Int32)) (inb_of S_37 ⟨(by decide : ¬ ((0 : Int32) < (0 : Int32))), (by decide : (0 : Int32) < (15 : Int32))⟩) (g := (mkF m 107 #[.val (.int p1), .val (.int p2), .val (.int p3), .val (.int p4), .val (.ref b2), .unset, .unset, .unset, .unset, .unset, .unset] [(.int (90 : Int32)), (.int (0 : Int32)), (.ref b35), (.ref b35)])) rfl rfl (hb hby at_107)
  have V_b35_37 : Arv Z h37 b35 k35 .int (15 : Int32) [(.int (90 : Int32)), (.int (0 : Int32)), (.int (0 : Int32)), (.int (0 : Int32)), (.int (0 : Int32)), (.int (0 : Int32)), (.int (0 : Int32)), (.int (0 : Int32)), (.int (0 : Int32)), (.int (0 : Int32)), (.int (0 : Int32)), (.int (0 : Int32)), (.int (0 : Int32)), (.int (0 : Int32)), (.int (0 : Int32))] (.int (0 : Int32)) := Arv.set Ar_37 q_37 S_37 M_37 H_37 U_37 rfl W37 0 rfl (Nat.le_of_ble_eq_true rfl)
  have V_b2_32_37 : Arv Z h37 b2 k2 .int (15 : Int32) [(.int (65 : Int32)), (.int (95 : Int32)), (.int (97 : Int32)), (.int (192 : Int32)), (.int (216 : Int32)), (.int (248 : Int32)), (.int (880 : Int32)), (.int (895 : Int32)), (.int (8204 : Int32)), (.int (8304 : Int32)), (.int (11264 : Int32)), (.int (12289 : Int32)), (.int (63744 : Int32)), (.int (65008 : Int32)), (.int (65536 : Int32))] (.int (0 : Int32)) := V_b2_32_35.other W37 ne_b2_b35
  have Z37 : n0 ≤ h37.size := Nat.le_trans Z35 (Keep.of_wr W37).1
  have N37 := Fr.snoc X37 NH34 g_b35
  have G37 : ∀ t, Steps p.tables e below (T37.setTop (mkF m 108 #[.val (.int p1), .val (.int p2), .val (.int p3), .val (.int p4), .val (.ref b2), .unset, .unset, .unset, .unset, .unset, .unset] [(.ref b35)])) t → Steps p.tables e below (s₁.setTop (entryFrame m #[(.int p1), (.int p2), (.int p3), (.int p4)] maxLocals)) t := fun t kt => G36 t (st37 t kt)
  have G38 : ∀ t, Steps p.tables e below (T37.setTop (mkF m 112 #[.val (.int p1), .val (.int p2), .val (.int p3), .val (.int p4), .val (.ref b2), .unset, .unset, .unset, .unset, .unset, .unset] [(.int (95 : Int32)), (.int (1 : Int32)), (.ref b35), (.ref b35)])) t → Steps p.tables e below (s₁.setTop (entryFrame m #[(.int p1), (.int p2), (.int p3), (.int p4)] maxLocals)) t := by
    intro t kt
    refine G37 t ?_
    show Steps p.tables e below (T37.setTop (mkF m 108 #[.val (.int p1), .val (.int p2), .val (.int p3), .val (.int p4), .val (.ref b2), .unset, .unset, .unset, .unset, .unset, .unset] [(.ref b35)])) _
    refine XS.dup X37.here hx rfl (hb hby at_108) rfl rfl ?_
    show Steps p.tables e below (T37.setTop (mkF m 109 #[.val (.int p1), .val (.int p2), .val (.int p3), .val (.int p4), .val (.ref b2), .unset, .unset, .unset, .unset, .unset, .unset] [(.ref b35), (.ref b35)])) _
    refine XS.iconst X37.here hx rfl (hb hby at_109) ?_
    show Steps p.tables e below (T37.setTop (mkF m 110 #[.val (.int p1), .val (.int p2), .val (.int p3), .val (.int p4), .val (.ref b2), .unset, .unset, .unset, .unset, .unset, .unset] [(.int (1 : Int32)), (.ref b35), (.ref b35)])) _
    refine XS.bipush X37.here hx rfl (hb hby at_110) ?_
    show Steps p.tables e below (T37.setTop (mkF m 112 #[.val (.int p1), .val (.int p2), .val (.int p3), .val (.int p4), .val (.ref b2), .unset, .unset, .unset, .unset, .unset, .unset] [(.int (95 : Int32)), (.int (1 : Int32)), (.ref b35), (.ref b35)])) _
    exact kt
  obtain ⟨cl_39, Ar_39, q_39, S_39, M_39, H_39, U_39⟩ := id V_b35_37
  obtain ⟨T39, h39, X39, e39, W39, st39⟩ := stI X37 hx hZ e37 Ar_39 (j := (1 : Int32)) (inb_of S_39 ⟨(by decide : ¬ ((1 : Int32) < (0 : Int32))), (by decide : (1 : Int32) < (15 : Int32))⟩) (g := (mkF m 112 #[.val (.int p1), .val (.int p2), .val (.int p3), .val (.int p4), .val (.ref b2), .unset, .unset, .unset, .unset, .unset, .unset] [(.int (95 : Int32)), (.int (1 : Int32)), (.ref b35), (.ref b35)])) rfl rfl (hb hby at_112)
  have V_b35_39 : Arv Z h39 b35 k35 .int (15 : Int32) [(.int (90 : Int32)), (.int (95 : Int32)), (.int (0 : Int32)), (.int (0 : Int32)), (.int (0 : Int32)), (.int (0 : Int32)), (.int (0 : Int32)), (.int (0 : Int32)), (.int (0 : Int32)), (.int (0 : Int32)), (.int (0 : Int32)), (.int (0 : Int32)), (.int (0 : Int32)), (.int (0 : Int32)), (.int (0 : Int32))] (.int (0 : Int32)) := Arv.set Ar_39 q_39 S_39 M_39 H_39 U_39 rfl W39 1 rfl (Nat.le_of_ble_eq_true rfl)
  have V_b2_32_39 : Arv Z h39 b2 k2 .int (15 : Int32) [(.int (65 : Int32)), (.int (95 : Int32)), (.int (97 : Int32)), (.int (192 : Int32)), (.int (216 : Int32)), (.int (248 : Int32)), (.int (880 : Int32)), (.int (895 : Int32)), (.int (8204 : Int32)), (.int (8304 : Int32)), (.int (11264 : Int32)), (.int (12289 : Int32)), (.int (63744 : Int32)), (.int (65008 : Int32)), (.int (65536 : Int32))] (.int (0 : Int32)) := V_b2_32_37.other W39 ne_b2_b35
  have Z39 : n0 ≤ h39.size := Nat.le_trans Z37 (Keep.of_wr W39).1
  have N39 := Fr.snoc X39 N37 g_b35
  have G39 : ∀ t, Steps p.tables e below (T39.setTop (mkF m 113 #[.val (.int p1), .val (.int p2), .val (.int p3), .val (.int p4), .val (.ref b2), .unset, .unset, .unset, .unset, .unset, .unset] [(.ref b35)])) t → Steps p.tables e below (s₁.setTop (entryFrame m #[(.int p1), (.int p2), (.int p3), (.int p4)] maxLocals)) t := fun t kt => G38 t (st39 t kt)
  have G40 : ∀ t, Steps p.tables e below (T39.setTop (mkF m 117 #[.val (.int p1), .val (.int p2), .val (.int p3), .val (.int p4), .val (.ref b2), .unset, .unset, .unset, .unset, .unset, .unset] [(.int (122 : Int32)), (.int (2 : Int32)), (.ref b35), (.ref b35)])) t → Steps p.tables e below (s₁.setTop (entryFrame m #[(.int p1), (.int p2), (.int p3), (.int p4)] maxLocals)) t := by
    intro t kt
    refine G39 t ?_
    show Steps p.tables e below (T39.setTop (mkF m 113 #[.val (.int p1), .val (.int p2), .val (.int p3), .val (.int p4), .val (.ref b2), .unset, .unset, .unset, .unset, .unset, .unset] [(.ref b35)])) _
    refine XS.dup X39.here hx rfl (hb hby at_113) rfl rfl ?_
    show Steps p.tables e below (T39.setTop (mkF m 114 #[.val (.int p1), .val (.int p2), .val (.int p3), .val (.int p4), .val (.ref b2), .unset, .unset, .unset, .unset, .unset, .unset] [(.ref b35), (.ref b35)])) _
    refine XS.iconst X39.here hx rfl (hb hby at_114) ?_
    show Steps p.tables e below (T39.setTop (mkF m 115 #[.val (.int p1), .val (.int p2), .val (.int p3), .val (.int p4), .val (.ref b2), .unset, .unset, .unset, .unset, .unset, .unset] [(.int (2 : Int32)), (.ref b35), (.ref b35)])) _
    refine XS.bipush X39.here hx rfl (hb hby at_115) ?_
    show Steps p.tables e below (T39.setTop (mkF m 117 #[.val (.int p1), .val (.int p2), .val (.int p3), .val (.int p4), .val (.ref b2), .unset, .unset, .unset, .unset, .unset, .unset] [(.int (122 : Int32)), (.int (2 : Int32)), (.ref b35), (.ref b35)])) _
    exact kt
  obtain ⟨cl_41, Ar_41, q_41, S_41, M_41, H_41, U_41⟩ := id V_b35_39
  obtain ⟨T41, h41, X41, e41, W41, st41⟩ := stI X39 hx hZ e39 Ar_41 (j := (2 : Int32)) (inb_of S_41 ⟨(by decide : ¬ ((2 : Int32) < (0 : Int32))), (by decide : (2 : Int32) < (15 : Int32))⟩) (g := (mkF m 117 #[.val (.int p1), .val (.int p2), .val (.int p3), .val (.int p4), .val (.ref b2), .unset, .unset, .unset, .unset, .unset, .unset] [(.int (122 : Int32)), (.int (2 : Int32)), (.ref b35), (.ref b35)])) rfl rfl (hb hby at_117)
  have V_b35_41 : Arv Z h41 b35 k35 .int (15 : Int32) [(.int (90 : Int32)), (.int (95 : Int32)), (.int (122 : Int32)), (.int (0 : Int32)), (.int (0 : Int32)), (.int (0 : Int32)), (.int (0 : Int32)), (.int (0 : Int32)), (.int (0 : Int32)), (.int (0 : Int32)), (.int (0 : Int32)), (.int (0 : Int32)), (.int (0 : Int32)), (.int (0 : Int32)), (.int (0 : Int32))] (.int (0 : Int32)) := Arv.set Ar_41 q_41 S_41 M_41 H_41 U_41 rfl W41 2 rfl (Nat.le_of_ble_eq_true rfl)
  have V_b2_32_41 : Arv Z h41 b2 k2 .int (15 : Int32) [(.int (65 : Int32)), (.int (95 : Int32)), (.int (97 : Int32)), (.int (192 : Int32)), (.int (216 : Int32)), (.int (248 : Int32)), (.int (880 : Int32)), (.int (895 : Int32)), (.int (8204 : Int32)), (.int (8304 : Int32)), (.int (11264 : Int32)), (.int (12289 : Int32)), (.int (63744 : Int32)), (.int (65008 : Int32)), (.int (65536 : Int32))] (.int (0 : Int32)) := V_b2_32_39.other W41 ne_b2_b35
  have Z41 : n0 ≤ h41.size := Nat.le_trans Z39 (Keep.of_wr W41).1
  have N41 := Fr.snoc X41 N39 g_b35
  have G41 : ∀ t, Steps p.tables e below (T41.setTop (mkF m 118 #[.val (.int p1), .val (.int p2), .val (.int p3), .val (.int p4), .val (.ref b2), .unset, .unset, .unset, .unset, .unset, .unset] [(.ref b35)])) t → Steps p.tables e below (s₁.setTop (entryFrame m #[(.int p1), (.int p2), (.int p3), (.int p4)] maxLocals)) t := fun t kt => G40 t (st41 t kt)
  have G42 : ∀ t, Steps p.tables e below (T41.setTop (mkF m 123 #[.val (.int p1), .val (.int p2), .val (.int p3), .val (.int p4), .val (.ref b2), .unset, .unset, .unset, .unset, .unset, .unset] [(.int (214 : Int32)), (.int (3 : Int32)), (.ref b35), (.ref b35)])) t → Steps p.tables e below (s₁.setTop (entryFrame m #[(.int p1), (.int p2), (.int p3), (.int p4)] maxLocals)) t := by
    intro t kt
    refine G41 t ?_
    show Steps p.tables e below (T41.setTop (mkF m 118 #[.val (.int p1), .val (.int p2), .val (.int p3), .val (.int p4), .val (.ref b2), .unset, .unset, .unset, .unset, .unset, .unset] [(.ref b35)])) _
    refine XS.dup X41.here hx rfl (hb hby at_118) rfl rfl ?_
    show Steps p.tables e below (T41.setTop (mkF m 119 #[.val (.int p1), .val (.int p2), .val (.int p3), .val (.int p4), .val (.ref b2), .unset, .unset, .unset, .unset, .unset, .unset] [(.ref b35), (.ref b35)])) _
    refine XS.iconst X41.here hx rfl (hb hby at_119) ?_
    show Steps p.tables e below (T41.setTop (mkF m 120 #[.val (.int p1), .val (.int p2), .val (.int p3), .val (.int p4), .val (.ref b2), .unset, .unset, .unset, .unset, .unset, .unset] [(.int (3 : Int32)), (.ref b35), (.ref b35)])) _
    refine XS.sipush X41.here hx rfl (hb hby at_120) ?_
    show Steps p.tables e below (T41.setTop (mkF m 123 #[.val (.int p1), .val (.int p2), .val (.int p3), .val (.int p4), .val (.ref b2), .unset, .unset, .unset, .unset, .unset, .unset] [(.int (214 : Int32)), (.int (3 : Int32)), (.ref b35), (.ref b35)])) _
    exact kt
  obtain ⟨cl_43, Ar_43, q_43, S_43, M_43, H_43, U_43⟩ := id V_b35_41
  obtain ⟨T43, h43, X43, e43, W43, st43⟩ := stI X41 hx hZ e41 Ar_43 (j := (3 : Int32)) (inb_of S_43 ⟨(by decide : ¬ ((3 : Int32) < (0 : Int32))), (by decide : (3 : Int32) < (15 : Int32))⟩) (g := (mkF m 123 #[.val (.int p1), .val (.int p2), .val (.int p3), .val (.int p4), .val (.ref b2), .unset, .unset, .unset, .unset, .unset, .unset] [(.int (214 : Int32)), (.int (3 : Int32)), (.ref b35), (.ref b35)])) rfl rfl (hb hby at_123)
  have V_b35_43 : Arv Z h43 b35 k35 .int (15 : Int32) [(.int (90 : Int32)), (.int (95 : Int32)), (.int (122 : Int32)), (.int (214 : Int32)), (.int (0 : Int32)), (.int (0 : Int32)), (.int (0 : Int32)), (.int (0 : Int32)), (.int (0 : Int32)), (.int (0 : Int32)), (.int (0 : Int32)), (.int (0 : Int32)), (.int (0 : Int32)), (.int (0 : Int32)), (.int (0 : Int32))] (.int (0 : Int32)) := Arv.set Ar_43 q_43 S_43 M_43 H_43 U_43 rfl W43 3 rfl (Nat.le_of_ble_eq_true rfl)
  have V_b2_32_43 : Arv Z h43 b2 k2 .int (15 : Int32) [(.int (65 : Int32)), (.int (95 : Int32)), (.int (97 : Int32)), (.int (192 : Int32)), (.int (216 : Int32)), (.int (248 : Int32)), (.int (880 : Int32)), (.int (895 : Int32)), (.int (8204 : Int32)), (.int (8304 : Int32)), (.int (11264 : Int32)), (.int (12289 : Int32)), (.int (63744 : Int32)), (.int (65008 : Int32)), (.int (65536 : Int32))] (.int (0 : Int32)) := V_b2_32_41.other W43 ne_b2_b35
  have Z43 : n0 ≤ h43.size := Nat.le_trans Z41 (Keep.of_wr W43).1
  have N43 := Fr.snoc X43 N41 g_b35
  have G43 : ∀ t, Steps p.tables e below (T43.setTop (mkF m 124 #[.val (.int p1), .val (.int p2), .val (.int p3), .val (.int p4), .val (.ref b2), .unset, .unset, .unset, .unset, .unset, .unset] [(.ref b35)])) t → Steps p.tables e below (s₁.setTop (entryFrame m #[(.int p1), (.int p2), (.int p3), (.int p4)] maxLocals)) t := fun t kt => G42 t (st43 t kt)
  have G44 : ∀ t, Steps p.tables e below (T43.setTop (mkF m 129 #[.val (.int p1), .val (.int p2), .val (.int p3), .val (.int p4), .val (.ref b2), .unset, .unset, .unset, .unset, .unset, .unset] [(.int (246 : Int32)), (.int (4 : Int32)), (.ref b35), (.ref b35)])) t → Steps p.tables e below (s₁.setTop (entryFrame m #[(.int p1), (.int p2), (.int p3), (.int p4)] maxLocals)) t := by
    intro t kt
    refine G43 t ?_
    show Steps p.tables e below (T43.setTop (mkF m 124 #[.val (.int p1), .val (.int p2), .val (.int p3), .val (.int p4), .val (.ref b2), .unset, .unset, .unset, .unset, .unset, .unset] [(.ref b35)])) _
    refine XS.dup X43.here hx rfl (hb hby at_124) rfl rfl ?_
    show Steps p.tables e below (T43.setTop (mkF m 125 #[.val (.int p1), .val (.int p2), .val (.int p3), .val (.int p4), .val (.ref b2), .unset, .unset, .unset, .unset, .unset, .unset] [(.ref b35), (.ref b35)])) _
    refine XS.iconst X43.here hx rfl (hb hby at_125) ?_
    show Steps p.tables e below (T43.setTop (mkF m 126 #[.val (.int p1), .val (.int p2), .val (.int p3), .val (.int p4), .val (.ref b2), .unset, .unset, .unset, .unset, .unset, .unset] [(.int (4 : Int32)), (.ref b35), (.ref b35)])) _
    refine XS.sipush X43.here hx rfl (hb hby at_126) ?_
    show Steps p.tables e below (T43.setTop (mkF m 129 #[.val (.int p1), .val (.int p2), .val (.int p3), .val (.int p4), .val (.ref b2), .unset, .unset, .unset, .unset, .unset, .unset] [(.int (246 : Int32)), (.int (4 : Int32)), (.ref b35), (.ref b35)])) _
    exact kt
  obtain ⟨cl_45, Ar_45, q_45, S_45, M_45, H_45, U_45⟩ := id V_b35_43
  obtain ⟨T45, h45, X45, e45, W45, st45⟩ := stI X43 hx hZ e43 Ar_45 (j := (4 : Int32)) (inb_of S_45 ⟨(by decide : ¬ ((4 : Int32) < (0 : Int32))), (by decide : (4 : Int32) < (15 : Int32))⟩) (g := (mkF m 129 #[.val (.int p1), .val (.int p2), .val (.int p3), .val (.int p4), .val (.ref b2), .unset, .unset, .unset, .unset, .unset, .unset] [(.int (246 : Int32)), (.int (4 : Int32)), (.ref b35), (.ref b35)])) rfl rfl (hb hby at_129)
  have V_b35_45 : Arv Z h45 b35 k35 .int (15 : Int32) [(.int (90 : Int32)), (.int (95 : Int32)), (.int (122 : Int32)), (.int (214 : Int32)), (.int (246 : Int32)), (.int (0 : Int32)), (.int (0 : Int32)), (.int (0 : Int32)), (.int (0 : Int32)), (.int (0 : Int32)), (.int (0 : Int32)), (.int (0 : Int32)), (.int (0 : Int32)), (.int (0 : Int32)), (.int (0 : Int32))] (.int (0 : Int32)) := Arv.set Ar_45 q_45 S_45 M_45 H_45 U_45 rfl W45 4 rfl (Nat.le_of_ble_eq_true rfl)
  have V_b2_32_45 : Arv Z h45 b2 k2 .int (15 : Int32) [(.int (65 : Int32)), (.int (95 : Int32)), (.int (97 : Int32)), (.int (192 : Int32)), (.int (216 : Int32)), (.int (248 : Int32)), (.int (880 : Int32)), (.int (895 : Int32)), (.int (8204 : Int32)), (.int (8304 : Int32)), (.int (11264 : Int32)), (.int (12289 : Int32)), (.int (63744 : Int32)), (.int (65008 : Int32)), (.int (65536 : Int32))] (.int (0 : Int32)) := V_b2_32_43.other W45 ne_b2_b35
  have Z45 : n0 ≤ h45.size := Nat.le_trans Z43 (Keep.of_wr W45).1
  have N45 := Fr.snoc X45 N43 g_b35
  have G45 : ∀ t, Steps p.tables e below (T45.setTop (mkF m 130 #[.val (.int p1), .val (.int p2), .val (.int p3), .val (.int p4), .val (.ref b2), .unset, .unset, .unset, .unset, .unset, .unset] [(.ref b35)])) t → Steps p.tables e below (s₁.setTop (entryFrame m #[(.int p1), (.int p2), (.int p3), (.int p4)] maxLocals)) t := fun t kt => G44 t (st45 t kt)
  have G46 : ∀ t, Steps p.tables e below (T45.setTop (mkF m 135 #[.val (.int p1), .val (.int p2), .val (.int p3), .val (.int p4), .val (.ref b2), .unset, .unset, .unset, .unset, .unset, .unset] [(.int (767 : Int32)), (.int (5 : Int32)), (.ref b35), (.ref b35)])) t → Steps p.tables e below (s₁.setTop (entryFrame m #[(.int p1), (.int p2), (.int p3), (.int p4)] maxLocals)) t := by
    intro t kt
    refine G45 t ?_
    show Steps p.tables e below (T45.setTop (mkF m 130 #[.val (.int p1), .val (.int p2), .val (.int p3), .val (.int p4), .val (.ref b2), .unset, .unset, .unset, .unset, .unset, .unset] [(.ref b35)])) _
    refine XS.dup X45.here hx rfl (hb hby at_130) rfl rfl ?_
    show Steps p.tables e below (T45.setTop (mkF m 131 #[.val (.int p1), .val (.int p2), .val (.int p3), .val (.int p4), .val (.ref b2), .unset, .unset, .unset, .unset, .unset, .unset] [(.ref b35), (.ref b35)])) _
    refine XS.iconst X45.here hx rfl (hb hby at_131) ?_
    show Steps p.tables e below (T45.setTop (mkF m 132 #[.val (.int p1), .val (.int p2), .val (.int p3), .val (.int p4), .val (.ref b2), .unset, .unset, .unset, .unset, .unset, .unset] [(.int (5 : Int32)), (.ref b35), (.ref b35)])) _
    refine XS.sipush X45.here hx rfl (hb hby at_132) ?_
    show Steps p.tables e below (T45.setTop (mkF m 135 #[.val (.int p1), .val (.int p2), .val (.int p3), .val (.int p4), .val (.ref b2), .unset, .unset, .unset, .unset, .unset, .unset] [(.int (767 : Int32)), (.int (5 : Int32)), (.ref b35), (.ref b35)])) _
    exact kt
  obtain ⟨cl_47, Ar_47, q_47, S_47, M_47, H_47, U_47⟩ := id V_b35_45
  obtain ⟨T47, h47, X47, e47, W47, st47⟩ := stI X45 hx hZ e45 Ar_47 (j := (5 : Int32)) (inb_of S_47 ⟨(by decide : ¬ ((5 : Int32) < (0 : Int32))), (by decide : (5 : Int32) < (15 : Int32))⟩) (g := (mkF m 135 #[.val (.int p1), .val (.int p2), .val (.int p3), .val (.int p4), .val (.ref b2), .unset, .unset, .unset, .unset, .unset, .unset] [(.int (767 : Int32)), (.int (5 : Int32)), (.ref b35), (.ref b35)])) rfl rfl (hb hby at_135)
  have V_b35_47 : Arv Z h47 b35 k35 .int (15 : Int32) [(.int (90 : Int32)), (.int (95 : Int32)), (.int (122 : Int32)), (.int (214 : Int32)), (.int (246 : Int32)), (.int (767 : Int32)), (.int (0 : Int32)), (.int (0 : Int32)), (.int (0 : Int32)), (.int (0 : Int32)), (.int (0 : Int32)), (.int (0 : Int32)), (.int (0 : Int32)), (.int (0 : Int32)), (.int (0 : Int32))] (.int (0 : Int32)) := Arv.set Ar_47 q_47 S_47 M_47 H_47 U_47 rfl W47 5 rfl (Nat.le_of_ble_eq_true rfl)
  have V_b2_32_47 : Arv Z h47 b2 k2 .int (15 : Int32) [(.int (65 : Int32)), (.int (95 : Int32)), (.int (97 : Int32)), (.int (192 : Int32)), (.int (216 : Int32)), (.int (248 : Int32)), (.int (880 : Int32)), (.int (895 : Int32)), (.int (8204 : Int32)), (.int (8304 : Int32)), (.int (11264 : Int32)), (.int (12289 : Int32)), (.int (63744 : Int32)), (.int (65008 : Int32)), (.int (65536 : Int32))] (.int (0 : Int32)) := V_b2_32_45.other W47 ne_b2_b35
  have Z47 : n0 ≤ h47.size := Nat.le_trans Z45 (Keep.of_wr W47).1
  have N47 := Fr.snoc X47 N45 g_b35
  have G47 : ∀ t, Steps p.tables e below (T47.setTop (mkF m 136 #[.val (.int p1), .val (.int p2), .val (.int p3), .val (.int p4), .val (.ref b2), .unset, .unset, .unset, .unset, .unset, .unset] [(.ref b35)])) t → Steps p.tables e below (s₁.setTop (entryFrame m #[(.int p1), (.int p2), (.int p3), (.int p4)] maxLocals)) t := fun t kt => G46 t (st47 t kt)
  have G48 : ∀ t, Steps p.tables e below (T47.setTop (mkF m 142 #[.val (.int p1), .val (.int p2), .val (.int p3), .val (.int p4), .val (.ref b2), .unset, .unset, .unset, .unset, .unset, .unset] [(.int (893 : Int32)), (.int (6 : Int32)), (.ref b35), (.ref b35)])) t → Steps p.tables e below (s₁.setTop (entryFrame m #[(.int p1), (.int p2), (.int p3), (.int p4)] maxLocals)) t := by
    intro t kt
    refine G47 t ?_
    show Steps p.tables e below (T47.setTop (mkF m 136 #[.val (.int p1), .val (.int p2), .val (.int p3), .val (.int p4), .val (.ref b2), .unset, .unset, .unset, .unset, .unset, .unset] [(.ref b35)])) _
    refine XS.dup X47.here hx rfl (hb hby at_136) rfl rfl ?_
    show Steps p.tables e below (T47.setTop (mkF m 137 #[.val (.int p1), .val (.int p2), .val (.int p3), .val (.int p4), .val (.ref b2), .unset, .unset, .unset, .unset, .unset, .unset] [(.ref b35), (.ref b35)])) _
    refine XS.bipush X47.here hx rfl (hb hby at_137) ?_
    show Steps p.tables e below (T47.setTop (mkF m 139 #[.val (.int p1), .val (.int p2), .val (.int p3), .val (.int p4), .val (.ref b2), .unset, .unset, .unset, .unset, .unset, .unset] [(.int (6 : Int32)), (.ref b35), (.ref b35)])) _
    refine XS.sipush X47.here hx rfl (hb hby at_139) ?_
    show Steps p.tables e below (T47.setTop (mkF m 142 #[.val (.int p1), .val (.int p2), .val (.int p3), .val (.int p4), .val (.ref b2), .unset, .unset, .unset, .unset, .unset, .unset] [(.int (893 : Int32)), (.int (6 : Int32)), (.ref b35), (.ref b35)])) _
    exact kt
  obtain ⟨cl_49, Ar_49, q_49, S_49, M_49, H_49, U_49⟩ := id V_b35_47
  obtain ⟨T49, h49, X49, e49, W49, st49⟩ := stI X47 hx hZ e47 Ar_49 (j := (6 : Int32)) (inb_of S_49 ⟨(by decide : ¬ ((6 : Int32) < (0 : Int32))), (by decide : (6 : Int32) < (15 : Int32))⟩) (g := (mkF m 142 #[.val (.int p1), .val (.int p2), .val (.int p3), .val (.int p4), .val (.ref b2), .unset, .unset, .unset, .unset, .unset, .unset] [(.int (893 : Int32)), (.int (6 : Int32)), (.ref b35), (.ref b35)])) rfl rfl (hb hby at_142)
  have V_b35_49 : Arv Z h49 b35 k35 .int (15 : Int32) [(.int (90 : Int32)), (.int (95 : Int32)), (.int (122 : Int32)), (.int (214 : Int32)), (.int (246 : Int32)), (.int (767 : Int32)), (.int (893 : Int32)), (.int (0 : Int32)), (.int (0 : Int32)), (.int (0 : Int32)), (.int (0 : Int32)), (.int (0 : Int32)), (.int (0 : Int32)), (.int (0 : Int32)), (.int (0 : Int32))] (.int (0 : Int32)) := Arv.set Ar_49 q_49 S_49 M_49 H_49 U_49 rfl W49 6 rfl (Nat.le_of_ble_eq_true rfl)
  have V_b2_32_49 : Arv Z h49 b2 k2 .int (15 : Int32) [(.int (65 : Int32)), (.int (95 : Int32)), (.int (97 : Int32)), (.int (192 : Int32)), (.int (216 : Int32)), (.int (248 : Int32)), (.int (880 : Int32)), (.int (895 : Int32)), (.int (8204 : Int32)), (.int (8304 : Int32)), (.int (11264 : Int32)), (.int (12289 : Int32)), (.int (63744 : Int32)), (.int (65008 : Int32)), (.int (65536 : Int32))] (.int (0 : Int32)) := V_b2_32_47.other W49 ne_b2_b35
  have Z49 : n0 ≤ h49.size := Nat.le_trans Z47 (Keep.of_wr W49).1
  have N49 := Fr.snoc X49 N47 g_b35
  have G49 : ∀ t, Steps p.tables e below (T49.setTop (mkF m 143 #[.val (.int p1), .val (.int p2), .val (.int p3), .val (.int p4), .val (.ref b2), .unset, .unset, .unset, .unset, .unset, .unset] [(.ref b35)])) t → Steps p.tables e below (s₁.setTop (entryFrame m #[(.int p1), (.int p2), (.int p3), (.int p4)] maxLocals)) t := fun t kt => G48 t (st49 t kt)
  have G50 : ∀ t, Steps p.tables e below (T49.setTop (mkF m 149 #[.val (.int p1), .val (.int p2), .val (.int p3), .val (.int p4), .val (.ref b2), .unset, .unset, .unset, .unset, .unset, .unset] [(.int (8191 : Int32)), (.int (7 : Int32)), (.ref b35), (.ref b35)])) t → Steps p.tables e below (s₁.setTop (entryFrame m #[(.int p1), (.int p2), (.int p3), (.int p4)] maxLocals)) t := by
    intro t kt
    refine G49 t ?_
    show Steps p.tables e below (T49.setTop (mkF m 143 #[.val (.int p1), .val (.int p2), .val (.int p3), .val (.int p4), .val (.ref b2), .unset, .unset, .unset, .unset, .unset, .unset] [(.ref b35)])) _
    refine XS.dup X49.here hx rfl (hb hby at_143) rfl rfl ?_
    show Steps p.tables e below (T49.setTop (mkF m 144 #[.val (.int p1), .val (.int p2), .val (.int p3), .val (.int p4), .val (.ref b2), .unset, .unset, .unset, .unset, .unset, .unset] [(.ref b35), (.ref b35)])) _
    refine XS.bipush X49.here hx rfl (hb hby at_144) ?_
    show Steps p.tables e below (T49.setTop (mkF m 146 #[.val (.int p1), .val (.int p2), .val (.int p3), .val (.int p4), .val (.ref b2), .unset, .unset, .unset, .unset, .unset, .unset] [(.int (7 : Int32)), (.ref b35), (.ref b35)])) _
    refine XS.sipush X49.here hx rfl (hb hby at_146) ?_
    show Steps p.tables e below (T49.setTop (mkF m 149 #[.val (.int p1), .val (.int p2), .val (.int p3), .val (.int p4), .val (.ref b2), .unset, .unset, .unset, .unset, .unset, .unset] [(.int (8191 : Int32)), (.int (7 : Int32)), (.ref b35), (.ref b35)])) _
    exact kt
  obtain ⟨cl_51, Ar_51, q_51, S_51, M_51, H_51, U_51⟩ := id V_b35_49
  obtain ⟨T51, h51, X51, e51, W51, st51⟩ := stI X49 hx hZ e49 Ar_51 (j := (7 : Int32)) (inb_of S_51 ⟨(by decide : ¬ ((7 : Int32) < (0 : Int32))), (by decide : (7 : Int32) < (15 : Int32))⟩) (g := (mkF m 149 #[.val (.int p1), .val (.int p2), .val (.int p3), .val (.int p4), .val (.ref b2), .unset, .unset, .unset, .unset, .unset, .unset] [(.int (8191 : Int32)), (.int (7 : Int32)), (.ref b35), (.ref b35)])) rfl rfl (hb hby at_149)
  have V_b35_51 : Arv Z h51 b35 k35 .int (15 : Int32) [(.int (90 : Int32)), (.int (95 : Int32)), (.int (122 : Int32)), (.int (214 : Int32)), (.int (246 : Int32)), (.int (767 : Int32)), (.int (893 : Int32)), (.int (8191 : Int32)), (.int (0 : Int32)), (.int (0 : Int32)), (.int (0 : Int32)), (.int (0 : Int32)), (.int (0 : Int32)), (.int (0 : Int32)), (.int (0 : Int32))] (.int (0 : Int32)) := Arv.set Ar_51 q_51 S_51 M_51 H_51 U_51 rfl W51 7 rfl (Nat.le_of_ble_eq_true rfl)
  have V_b2_32_51 : Arv Z h51 b2 k2 .int (15 : Int32) [(.int (65 : Int32)), (.int (95 : Int32)), (.int (97 : Int32)), (.int (192 : Int32)), (.int (216 : Int32)), (.int (248 : Int32)), (.int (880 : Int32)), (.int (895 : Int32)), (.int (8204 : Int32)), (.int (8304 : Int32)), (.int (11264 : Int32)), (.int (12289 : Int32)), (.int (63744 : Int32)), (.int (65008 : Int32)), (.int (65536 : Int32))] (.int (0 : Int32)) := V_b2_32_49.other W51 ne_b2_b35
  have Z51 : n0 ≤ h51.size := Nat.le_trans Z49 (Keep.of_wr W51).1
  have N51 := Fr.snoc X51 N49 g_b35
  have G51 : ∀ t, Steps p.tables e below (T51.setTop (mkF m 150 #[.val (.int p1), .val (.int p2), .val (.int p3), .val (.int p4), .val (.ref b2), .unset, .unset, .unset, .unset, .unset, .unset] [(.ref b35)])) t → Steps p.tables e below (s₁.setTop (entryFrame m #[(.int p1), (.int p2), (.int p3), (.int p4)] maxLocals)) t := fun t kt => G50 t (st51 t kt)
  have G52 : ∀ t, Steps p.tables e below (T51.setTop (mkF m 156 #[.val (.int p1), .val (.int p2), .val (.int p3), .val (.int p4), .val (.ref b2), .unset, .unset, .unset, .unset, .unset, .unset] [(.int (8205 : Int32)), (.int (8 : Int32)), (.ref b35), (.ref b35)])) t → Steps p.tables e below (s₁.setTop (entryFrame m #[(.int p1), (.int p2), (.int p3), (.int p4)] maxLocals)) t := by
    intro t kt
    refine G51 t ?_
    show Steps p.tables e below (T51.setTop (mkF m 150 #[.val (.int p1), .val (.int p2), .val (.int p3), .val (.int p4), .val (.ref b2), .unset, .unset, .unset, .unset, .unset, .unset] [(.ref b35)])) _
    refine XS.dup X51.here hx rfl (hb hby at_150) rfl rfl ?_
    show Steps p.tables e below (T51.setTop (mkF m 151 #[.val (.int p1), .val (.int p2), .val (.int p3), .val (.int p4), .val (.ref b2), .unset, .unset, .unset, .unset, .unset, .unset] [(.ref b35), (.ref b35)])) _
    refine XS.bipush X51.here hx rfl (hb hby at_151) ?_
    show Steps p.tables e below (T51.setTop (mkF m 153 #[.val (.int p1), .val (.int p2), .val (.int p3), .val (.int p4), .val (.ref b2), .unset, .unset, .unset, .unset, .unset, .unset] [(.int (8 : Int32)), (.ref b35), (.ref b35)])) _
    refine XS.sipush X51.here hx rfl (hb hby at_153) ?_
    show Steps p.tables e below (T51.setTop (mkF m 156 #[.val (.int p1), .val (.int p2), .val (.int p3), .val (.int p4), .val (.ref b2), .unset, .unset, .unset, .unset, .unset, .unset] [(.int (8205 : Int32)), (.int (8 : Int32)), (.ref b35), (.ref b35)])) _
    exact kt
  obtain ⟨cl_53, Ar_53, q_53, S_53, M_53, H_53, U_53⟩ := id V_b35_51
  obtain ⟨T53, h53, X53, e53, W53, st53⟩ := stI X51 hx hZ e51 Ar_53 (j := (8 : Int32)) (inb_of S_53 ⟨(by decide : ¬ ((8 : Int32) < (0 : Int32))), (by decide : (8 : Int32) < (15 : Int32))⟩) (g := (mkF m 156 #[.val (.int p1), .val (.int p2), .val (.int p3), .val (.int p4), .val (.ref b2), .unset, .unset, .unset, .unset, .unset, .unset] [(.int (8205 : Int32)), (.int (8 : Int32)), (.ref b35), (.ref b35)])) rfl rfl (hb hby at_156)
  have V_b35_53 : Arv Z h53 b35 k35 .int (15 : Int32) [(.int (90 : Int32)), (.int (95 : Int32)), (.int (122 : Int32)), (.int (214 : Int32)), (.int (246 : Int32)), (.int (767 : Int32)), (.int (893 : Int32)), (.int (8191 : Int32)), (.int (8205 : Int32)), (.int (0 : Int32)), (.int (0 : Int32)), (.int (0 : Int32)), (.int (0 : Int32)), (.int (0 : Int32)), (.int (0 : Int32))] (.int (0 : Int32)) := Arv.set Ar_53 q_53 S_53 M_53 H_53 U_53 rfl W53 8 rfl (Nat.le_of_ble_eq_true rfl)
  have V_b2_32_53 : Arv Z h53 b2 k2 .int (15 : Int32) [(.int (65 : Int32)), (.int (95 : Int32)), (.int (97 : Int32)), (.int (192 : Int32)), (.int (216 : Int32)), (.int (248 : Int32)), (.int (880 : Int32)), (.int (895 : Int32)), (.int (8204 : Int32)), (.int (8304 : Int32)), (.int (11264 : Int32)), (.int (12289 : Int32)), (.int (63744 : Int32)), (.int (65008 : Int32)), (.int (65536 : Int32))] (.int (0 : Int32)) := V_b2_32_51.other W53 ne_b2_b35
  have Z53 : n0 ≤ h53.size := Nat.le_trans Z51 (Keep.of_wr W53).1
  have N53 := Fr.snoc X53 N51 g_b35
  have G53 : ∀ t, Steps p.tables e below (T53.setTop (mkF m 157 #[.val (.int p1), .val (.int p2), .val (.int p3), .val (.int p4), .val (.ref b2), .unset, .unset, .unset, .unset, .unset, .unset] [(.ref b35)])) t → Steps p.tables e below (s₁.setTop (entryFrame m #[(.int p1), (.int p2), (.int p3), (.int p4)] maxLocals)) t := fun t kt => G52 t (st53 t kt)
  have G54 : ∀ t, Steps p.tables e below (T53.setTop (mkF m 163 #[.val (.int p1), .val (.int p2), .val (.int p3), .val (.int p4), .val (.ref b2), .unset, .unset, .unset, .unset, .unset, .unset] [(.int (8591 : Int32)), (.int (9 : Int32)), (.ref b35), (.ref b35)])) t → Steps p.tables e below (s₁.setTop (entryFrame m #[(.int p1), (.int p2), (.int p3), (.int p4)] maxLocals)) t := by
    intro t kt
    refine G53 t ?_
    show Steps p.tables e below (T53.setTop (mkF m 157 #[.val (.int p1), .val (.int p2), .val (.int p3), .val (.int p4), .val (.ref b2), .unset, .unset, .unset, .unset, .unset, .unset] [(.ref b35)])) _
    refine XS.dup X53.here hx rfl (hb hby at_157) rfl rfl ?_
    show Steps p.tables e below (T53.setTop (mkF m 158 #[.val (.int p1), .val (.int p2), .val (.int p3), .val (.int p4), .val (.ref b2), .unset, .unset, .unset, .unset, .unset, .unset] [(.ref b35), (.ref b35)])) _
    refine XS.bipush X53.here hx rfl (hb hby at_158) ?_
    show Steps p.tables e below (T53.setTop (mkF m 160 #[.val (.int p1), .val (.int p2), .val (.int p3), .val (.int p4), .val (.ref b2), .unset, .unset, .unset, .unset, .unset, .unset] [(.int (9 : Int32)), (.ref b35), (.ref b35)])) _
    refine XS.sipush X53.here hx rfl (hb hby at_160) ?_
    show Steps p.tables e below (T53.setTop (mkF m 163 #[.val (.int p1), .val (.int p2), .val (.int p3), .val (.int p4), .val (.ref b2), .unset, .unset, .unset, .unset, .unset, .unset] [(.int (8591 : Int32)), (.int (9 : Int32)), (.ref b35), (.ref b35)])) _
    exact kt
  obtain ⟨cl_55, Ar_55, q_55, S_55, M_55, H_55, U_55⟩ := id V_b35_53
  obtain ⟨T55, h55, X55, e55, W55, st55⟩ := stI X53 hx hZ e53 Ar_55 (j := (9 : Int32)) (inb_of S_55 ⟨(by decide : ¬ ((9 : Int32) < (0 : Int32))), (by decide : (9 : Int32) < (15 : Int32))⟩) (g := (mkF m 163 #[.val (.int p1), .val (.int p2), .val (.int p3), .val (.int p4), .val (.ref b2), .unset, .unset, .unset, .unset, .unset, .unset] [(.int (8591 : Int32)), (.int (9 : Int32)), (.ref b35), (.ref b35)])) rfl rfl (hb hby at_163)
  have V_b35_55 : Arv Z h55 b35 k35 .int (15 : Int32) [(.int (90 : Int32)), (.int (95 : Int32)), (.int (122 : Int32)), (.int (214 : Int32)), (.int (246 : Int32)), (.int (767 : Int32)), (.int (893 : Int32)), (.int (8191 : Int32)), (.int (8205 : Int32)), (.int (8591 : Int32)), (.int (0 : Int32)), (.int (0 : Int32)), (.int (0 : Int32)), (.int (0 : Int32)), (.int (0 : Int32))] (.int (0 : Int32)) := Arv.set Ar_55 q_55 S_55 M_55 H_55 U_55 rfl W55 9 rfl (Nat.le_of_ble_eq_true rfl)
  have V_b2_32_55 : Arv Z h55 b2 k2 .int (15 : Int32) [(.int (65 : Int32)), (.int (95 : Int32)), (.int (97 : Int32)), (.int (192 : Int32)), (.int (216 : Int32)), (.int (248 : Int32)), (.int (880 : Int32)), (.int (895 : Int32)), (.int (8204 : Int32)), (.int (8304 : Int32)), (.int (11264 : Int32)), (.int (12289 : Int32)), (.int (63744 : Int32)), (.int (65008 : Int32)), (.int (65536 : Int32))] (.int (0 : Int32)) := V_b2_32_53.other W55 ne_b2_b35
  have Z55 : n0 ≤ h55.size := Nat.le_trans Z53 (Keep.of_wr W55).1
  have N55 := Fr.snoc X55 N53 g_b35
  have G55 : ∀ t, Steps p.tables e below (T55.setTop (mkF m 164 #[.val (.int p1), .val (.int p2), .val (.int p3), .val (.int p4), .val (.ref b2), .unset, .unset, .unset, .unset, .unset, .unset] [(.ref b35)])) t → Steps p.tables e below (s₁.setTop (entryFrame m #[(.int p1), (.int p2), (.int p3), (.int p4)] maxLocals)) t := fun t kt => G54 t (st55 t kt)
  have G56 : ∀ t, Steps p.tables e below (T55.setTop (mkF m 170 #[.val (.int p1), .val (.int p2), .val (.int p3), .val (.int p4), .val (.ref b2), .unset, .unset, .unset, .unset, .unset, .unset] [(.int (12271 : Int32)), (.int (10 : Int32)), (.ref b35), (.ref b35)])) t → Steps p.tables e below (s₁.setTop (entryFrame m #[(.int p1), (.int p2), (.int p3), (.int p4)] maxLocals)) t := by
    intro t kt
    refine G55 t ?_
    show Steps p.tables e below (T55.setTop (mkF m 164 #[.val (.int p1), .val (.int p2), .val (.int p3), .val (.int p4), .val (.ref b2), .unset, .unset, .unset, .unset, .unset, .unset] [(.ref b35)])) _
    refine XS.dup X55.here hx rfl (hb hby at_164) rfl rfl ?_
    show Steps p.tables e below (T55.setTop (mkF m 165 #[.val (.int p1), .val (.int p2), .val (.int p3), .val (.int p4), .val (.ref b2), .unset, .unset, .unset, .unset, .unset, .unset] [(.ref b35), (.ref b35)])) _
    refine XS.bipush X55.here hx rfl (hb hby at_165) ?_
    show Steps p.tables e below (T55.setTop (mkF m 167 #[.val (.int p1), .val (.int p2), .val (.int p3), .val (.int p4), .val (.ref b2), .unset, .unset, .unset, .unset, .unset, .unset] [(.int (10 : Int32)), (.ref b35), (.ref b35)])) _
    refine XS.sipush X55.here hx rfl (hb hby at_167) ?_
    show Steps p.tables e below (T55.setTop (mkF m 170 #[.val (.int p1), .val (.int p2), .val (.int p3), .val (.int p4), .val (.ref b2), .unset, .unset, .unset, .unset, .unset, .unset] [(.int (12271 : Int32)), (.int (10 : Int32)), (.ref b35), (.ref b35)])) _
    exact kt
  obtain ⟨cl_57, Ar_57, q_57, S_57, M_57, H_57, U_57⟩ := id V_b35_55
  obtain ⟨T57, h57, X57, e57, W57, st57⟩ := stI X55 hx hZ e55 Ar_57 (j := (10 : Int32)) (inb_of S_57 ⟨(by decide : ¬ ((10 : Int32) < (0 : Int32))), (by decide : (10 : Int32) < (15 : Int32))⟩) (g := (mkF m 170 #[.val (.int p1), .val (.int p2), .val (.int p3), .val (.int p4), .val (.ref b2), .unset, .unset, .unset, .unset, .unset, .unset] [(.int (12271 : Int32)), (.int (10 : Int32)), (.ref b35), (.ref b35)])) rfl rfl (hb hby at_170)
  have V_b35_57 : Arv Z h57 b35 k35 .int (15 : Int32) [(.int (90 : Int32)), (.int (95 : Int32)), (.int (122 : Int32)), (.int (214 : Int32)), (.int (246 : Int32)), (.int (767 : Int32)), (.int (893 : Int32)), (.int (8191 : Int32)), (.int (8205 : Int32)), (.int (8591 : Int32)), (.int (12271 : Int32)), (.int (0 : Int32)), (.int (0 : Int32)), (.int (0 : Int32)), (.int (0 : Int32))] (.int (0 : Int32)) := Arv.set Ar_57 q_57 S_57 M_57 H_57 U_57 rfl W57 10 rfl (Nat.le_of_ble_eq_true rfl)
  have V_b2_32_57 : Arv Z h57 b2 k2 .int (15 : Int32) [(.int (65 : Int32)), (.int (95 : Int32)), (.int (97 : Int32)), (.int (192 : Int32)), (.int (216 : Int32)), (.int (248 : Int32)), (.int (880 : Int32)), (.int (895 : Int32)), (.int (8204 : Int32)), (.int (8304 : Int32)), (.int (11264 : Int32)), (.int (12289 : Int32)), (.int (63744 : Int32)), (.int (65008 : Int32)), (.int (65536 : Int32))] (.int (0 : Int32)) := V_b2_32_55.other W57 ne_b2_b35
  have Z57 : n0 ≤ h57.size := Nat.le_trans Z55 (Keep.of_wr W57).1
  have N57 := Fr.snoc X57 N55 g_b35
  have G57 : ∀ t, Steps p.tables e below (T57.setTop (mkF m 171 #[.val (.int p1), .val (.int p2), .val (.int p3), .val (.int p4), .val (.ref b2), .unset, .unset, .unset, .unset, .unset, .unset] [(.ref b35)])) t → Steps p.tables e below (s₁.setTop (entryFrame m #[(.int p1), (.int p2), (.int p3), (.int p4)] maxLocals)) t := fun t kt => G56 t (st57 t kt)
  have G58 : ∀ t, Steps p.tables e below (T57.setTop (mkF m 176 #[.val (.int p1), .val (.int p2), .val (.int p3), .val (.int p4), .val (.ref b2), .unset, .unset, .unset, .unset, .unset, .unset] [(.int (55295 : Int32)), (.int (11 : Int32)), (.ref b35), (.ref b35)])) t → Steps p.tables e below (s₁.setTop (entryFrame m #[(.int p1), (.int p2), (.int p3), (.int p4)] maxLocals)) t := by
    intro t kt
    refine G57 t ?_
    show Steps p.tables e below (T57.setTop (mkF m 171 #[.val (.int p1), .val (.int p2), .val (.int p3), .val (.int p4), .val (.ref b2), .unset, .unset, .unset, .unset, .unset, .unset] [(.ref b35)])) _
    refine XS.dup X57.here hx rfl (hb hby at_171) rfl rfl ?_
    show Steps p.tables e below (T57.setTop (mkF m 172 #[.val (.int p1), .val (.int p2), .val (.int p3), .val (.int p4), .val (.ref b2), .unset, .unset, .unset, .unset, .unset, .unset] [(.ref b35), (.ref b35)])) _
    refine XS.bipush X57.here hx rfl (hb hby at_172) ?_
    show Steps p.tables e below (T57.setTop (mkF m 174 #[.val (.int p1), .val (.int p2), .val (.int p3), .val (.int p4), .val (.ref b2), .unset, .unset, .unset, .unset, .unset, .unset] [(.int (11 : Int32)), (.ref b35), (.ref b35)])) _
    refine X57.ldcInt hx hown (mvT hZ (hw _ (List.mem_of_getElem? (i := 4) rfl))) (g := (mkF m 174 #[.val (.int p1), .val (.int p2), .val (.int p3), .val (.int p4), .val (.ref b2), .unset, .unset, .unset, .unset, .unset, .unset] [(.int (11 : Int32)), (.ref b35), (.ref b35)])) rfl (hb hby at_174) _ ?_
    show Steps p.tables e below (T57.setTop (mkF m 176 #[.val (.int p1), .val (.int p2), .val (.int p3), .val (.int p4), .val (.ref b2), .unset, .unset, .unset, .unset, .unset, .unset] [(.int (55295 : Int32)), (.int (11 : Int32)), (.ref b35), (.ref b35)])) _
    exact kt
  obtain ⟨cl_59, Ar_59, q_59, S_59, M_59, H_59, U_59⟩ := id V_b35_57
  obtain ⟨T59, h59, X59, e59, W59, st59⟩ := stI X57 hx hZ e57 Ar_59 (j := (11 : Int32)) (inb_of S_59 ⟨(by decide : ¬ ((11 : Int32) < (0 : Int32))), (by decide : (11 : Int32) < (15 : Int32))⟩) (g := (mkF m 176 #[.val (.int p1), .val (.int p2), .val (.int p3), .val (.int p4), .val (.ref b2), .unset, .unset, .unset, .unset, .unset, .unset] [(.int (55295 : Int32)), (.int (11 : Int32)), (.ref b35), (.ref b35)])) rfl rfl (hb hby at_176)
  have V_b35_59 : Arv Z h59 b35 k35 .int (15 : Int32) [(.int (90 : Int32)), (.int (95 : Int32)), (.int (122 : Int32)), (.int (214 : Int32)), (.int (246 : Int32)), (.int (767 : Int32)), (.int (893 : Int32)), (.int (8191 : Int32)), (.int (8205 : Int32)), (.int (8591 : Int32)), (.int (12271 : Int32)), (.int (55295 : Int32)), (.int (0 : Int32)), (.int (0 : Int32)), (.int (0 : Int32))] (.int (0 : Int32)) := Arv.set Ar_59 q_59 S_59 M_59 H_59 U_59 rfl W59 11 rfl (Nat.le_of_ble_eq_true rfl)
  have V_b2_32_59 : Arv Z h59 b2 k2 .int (15 : Int32) [(.int (65 : Int32)), (.int (95 : Int32)), (.int (97 : Int32)), (.int (192 : Int32)), (.int (216 : Int32)), (.int (248 : Int32)), (.int (880 : Int32)), (.int (895 : Int32)), (.int (8204 : Int32)), (.int (8304 : Int32)), (.int (11264 : Int32)), (.int (12289 : Int32)), (.int (63744 : Int32)), (.int (65008 : Int32)), (.int (65536 : Int32))] (.int (0 : Int32)) := V_b2_32_57.other W59 ne_b2_b35
  have Z59 : n0 ≤ h59.size := Nat.le_trans Z57 (Keep.of_wr W59).1
  have N59 := Fr.snoc X59 N57 g_b35
  have G59 : ∀ t, Steps p.tables e below (T59.setTop (mkF m 177 #[.val (.int p1), .val (.int p2), .val (.int p3), .val (.int p4), .val (.ref b2), .unset, .unset, .unset, .unset, .unset, .unset] [(.ref b35)])) t → Steps p.tables e below (s₁.setTop (entryFrame m #[(.int p1), (.int p2), (.int p3), (.int p4)] maxLocals)) t := fun t kt => G58 t (st59 t kt)
  have G60 : ∀ t, Steps p.tables e below (T59.setTop (mkF m 182 #[.val (.int p1), .val (.int p2), .val (.int p3), .val (.int p4), .val (.ref b2), .unset, .unset, .unset, .unset, .unset, .unset] [(.int (64975 : Int32)), (.int (12 : Int32)), (.ref b35), (.ref b35)])) t → Steps p.tables e below (s₁.setTop (entryFrame m #[(.int p1), (.int p2), (.int p3), (.int p4)] maxLocals)) t := by
    intro t kt
    refine G59 t ?_
    show Steps p.tables e below (T59.setTop (mkF m 177 #[.val (.int p1), .val (.int p2), .val (.int p3), .val (.int p4), .val (.ref b2), .unset, .unset, .unset, .unset, .unset, .unset] [(.ref b35)])) _
    refine XS.dup X59.here hx rfl (hb hby at_177) rfl rfl ?_
    show Steps p.tables e below (T59.setTop (mkF m 178 #[.val (.int p1), .val (.int p2), .val (.int p3), .val (.int p4), .val (.ref b2), .unset, .unset, .unset, .unset, .unset, .unset] [(.ref b35), (.ref b35)])) _
    refine XS.bipush X59.here hx rfl (hb hby at_178) ?_
    show Steps p.tables e below (T59.setTop (mkF m 180 #[.val (.int p1), .val (.int p2), .val (.int p3), .val (.int p4), .val (.ref b2), .unset, .unset, .unset, .unset, .unset, .unset] [(.int (12 : Int32)), (.ref b35), (.ref b35)])) _
    refine X59.ldcInt hx hown (mvT hZ (hw _ (List.mem_of_getElem? (i := 5) rfl))) (g := (mkF m 180 #[.val (.int p1), .val (.int p2), .val (.int p3), .val (.int p4), .val (.ref b2), .unset, .unset, .unset, .unset, .unset, .unset] [(.int (12 : Int32)), (.ref b35), (.ref b35)])) rfl (hb hby at_180) _ ?_
    show Steps p.tables e below (T59.setTop (mkF m 182 #[.val (.int p1), .val (.int p2), .val (.int p3), .val (.int p4), .val (.ref b2), .unset, .unset, .unset, .unset, .unset, .unset] [(.int (64975 : Int32)), (.int (12 : Int32)), (.ref b35), (.ref b35)])) _
    exact kt
  obtain ⟨cl_61, Ar_61, q_61, S_61, M_61, H_61, U_61⟩ := id V_b35_59
  obtain ⟨T61, h61, X61, e61, W61, st61⟩ := stI X59 hx hZ e59 Ar_61 (j := (12 : Int32)) (inb_of S_61 ⟨(by decide : ¬ ((12 : Int32) < (0 : Int32))), (by decide : (12 : Int32) < (15 : Int32))⟩) (g := (mkF m 182 #[.val (.int p1), .val (.int p2), .val (.int p3), .val (.int p4), .val (.ref b2), .unset, .unset, .unset, .unset, .unset, .unset] [(.int (64975 : Int32)), (.int (12 : Int32)), (.ref b35), (.ref b35)])) rfl rfl (hb hby at_182)
  have V_b35_61 : Arv Z h61 b35 k35 .int (15 : Int32) [(.int (90 : Int32)), (.int (95 : Int32)), (.int (122 : Int32)), (.int (214 : Int32)), (.int (246 : Int32)), (.int (767 : Int32)), (.int (893 : Int32)), (.int (8191 : Int32)), (.int (8205 : Int32)), (.int (8591 : Int32)), (.int (12271 : Int32)), (.int (55295 : Int32)), (.int (64975 : Int32)), (.int (0 : Int32)), (.int (0 : Int32))] (.int (0 : Int32)) := Arv.set Ar_61 q_61 S_61 M_61 H_61 U_61 rfl W61 12 rfl (Nat.le_of_ble_eq_true rfl)
  have V_b2_32_61 : Arv Z h61 b2 k2 .int (15 : Int32) [(.int (65 : Int32)), (.int (95 : Int32)), (.int (97 : Int32)), (.int (192 : Int32)), (.int (216 : Int32)), (.int (248 : Int32)), (.int (880 : Int32)), (.int (895 : Int32)), (.int (8204 : Int32)), (.int (8304 : Int32)), (.int (11264 : Int32)), (.int (12289 : Int32)), (.int (63744 : Int32)), (.int (65008 : Int32)), (.int (65536 : Int32))] (.int (0 : Int32)) := V_b2_32_59.other W61 ne_b2_b35
  have Z61 : n0 ≤ h61.size := Nat.le_trans Z59 (Keep.of_wr W61).1
  have N61 := Fr.snoc X61 N59 g_b35
  have G61 : ∀ t, Steps p.tables e below (T61.setTop (mkF m 183 #[.val (.int p1), .val (.int p2), .val (.int p3), .val (.int p4), .val (.ref b2), .unset, .unset, .unset, .unset, .unset, .unset] [(.ref b35)])) t → Steps p.tables e below (s₁.setTop (entryFrame m #[(.int p1), (.int p2), (.int p3), (.int p4)] maxLocals)) t := fun t kt => G60 t (st61 t kt)
  have G62 : ∀ t, Steps p.tables e below (T61.setTop (mkF m 188 #[.val (.int p1), .val (.int p2), .val (.int p3), .val (.int p4), .val (.ref b2), .unset, .unset, .unset, .unset, .unset, .unset] [(.int (65533 : Int32)), (.int (13 : Int32)), (.ref b35), (.ref b35)])) t → Steps p.tables e below (s₁.setTop (entryFrame m #[(.int p1), (.int p2), (.int p3), (.int p4)] maxLocals)) t := by
    intro t kt
    refine G61 t ?_
    show Steps p.tables e below (T61.setTop (mkF m 183 #[.val (.int p1), .val (.int p2), .val (.int p3), .val (.int p4), .val (.ref b2), .unset, .unset, .unset, .unset, .unset, .unset] [(.ref b35)])) _
    refine XS.dup X61.here hx rfl (hb hby at_183) rfl rfl ?_
    show Steps p.tables e below (T61.setTop (mkF m 184 #[.val (.int p1), .val (.int p2), .val (.int p3), .val (.int p4), .val (.ref b2), .unset, .unset, .unset, .unset, .unset, .unset] [(.ref b35), (.ref b35)])) _
    refine XS.bipush X61.here hx rfl (hb hby at_184) ?_
    show Steps p.tables e below (T61.setTop (mkF m 186 #[.val (.int p1), .val (.int p2), .val (.int p3), .val (.int p4), .val (.ref b2), .unset, .unset, .unset, .unset, .unset, .unset] [(.int (13 : Int32)), (.ref b35), (.ref b35)])) _
    refine X61.ldcInt hx hown (mvT hZ (hw _ (List.mem_of_getElem? (i := 6) rfl))) (g := (mkF m 186 #[.val (.int p1), .val (.int p2), .val (.int p3), .val (.int p4), .val (.ref b2), .unset, .unset, .unset, .unset, .unset, .unset] [(.int (13 : Int32)), (.ref b35), (.ref b35)])) rfl (hb hby at_186) _ ?_
    show Steps p.tables e below (T61.setTop (mkF m 188 #[.val (.int p1), .val (.int p2), .val (.int p3), .val (.int p4), .val (.ref b2), .unset, .unset, .unset, .unset, .unset, .unset] [(.int (65533 : Int32)), (.int (13 : Int32)), (.ref b35), (.ref b35)])) _
    exact kt
  obtain ⟨cl_63, Ar_63, q_63, S_63, M_63, H_63, U_63⟩ := id V_b35_61
  obtain ⟨T63, h63, X63, e63, W63, st63⟩ := stI X61 hx hZ e61 Ar_63 (j := (13 : Int32)) (inb_of S_63 ⟨(by decide : ¬ ((13 : Int32) < (0 : Int32))), (by decide : (13 : Int32) < (15 : Int32))⟩) (g := (mkF m 188 #[.val (.int p1), .val (.int p2), .val (.int p3), .val (.int p4), .val (.ref b2), .unset, .unset, .unset, .unset, .unset, .unset] [(.int (65533 : Int32)), (.int (13 : Int32)), (.ref b35), (.ref b35)])) rfl rfl (hb hby at_188)
  have V_b35_63 : Arv Z h63 b35 k35 .int (15 : Int32) [(.int (90 : Int32)), (.int (95 : Int32)), (.int (122 : Int32)), (.int (214 : Int32)), (.int (246 : Int32)), (.int (767 : Int32)), (.int (893 : Int32)), (.int (8191 : Int32)), (.int (8205 : Int32)), (.int (8591 : Int32)), (.int (12271 : Int32)), (.int (55295 : Int32)), (.int (64975 : Int32)), (.int (65533 : Int32)), (.int (0 : Int32))] (.int (0 : Int32)) := Arv.set Ar_63 q_63 S_63 M_63 H_63 U_63 rfl W63 13 rfl (Nat.le_of_ble_eq_true rfl)
  have V_b2_32_63 : Arv Z h63 b2 k2 .int (15 : Int32) [(.int (65 : Int32)), (.int (95 : Int32)), (.int (97 : Int32)), (.int (192 : Int32)), (.int (216 : Int32)), (.int (248 : Int32)), (.int (880 : Int32)), (.int (895 : Int32)), (.int (8204 : Int32)), (.int (8304 : Int32)), (.int (11264 : Int32)), (.int (12289 : Int32)), (.int (63744 : Int32)), (.int (65008 : Int32)), (.int (65536 : Int32))] (.int (0 : Int32)) := V_b2_32_61.other W63 ne_b2_b35
  have Z63 : n0 ≤ h63.size := Nat.le_trans Z61 (Keep.of_wr W63).1
  have N63 := Fr.snoc X63 N61 g_b35
  have G63 : ∀ t, Steps p.tables e below (T63.setTop (mkF m 189 #[.val (.int p1), .val (.int p2), .val (.int p3), .val (.int p4), .val (.ref b2), .unset, .unset, .unset, .unset, .unset, .unset] [(.ref b35)])) t → Steps p.tables e below (s₁.setTop (entryFrame m #[(.int p1), (.int p2), (.int p3), (.int p4)] maxLocals)) t := fun t kt => G62 t (st63 t kt)
  have G64 : ∀ t, Steps p.tables e below (T63.setTop (mkF m 194 #[.val (.int p1), .val (.int p2), .val (.int p3), .val (.int p4), .val (.ref b2), .unset, .unset, .unset, .unset, .unset, .unset] [(.int (983039 : Int32)), (.int (14 : Int32)), (.ref b35), (.ref b35)])) t → Steps p.tables e below (s₁.setTop (entryFrame m #[(.int p1), (.int p2), (.int p3), (.int p4)] maxLocals)) t := by
    intro t kt
    refine G63 t ?_
    show Steps p.tables e below (T63.setTop (mkF m 189 #[.val (.int p1), .val (.int p2), .val (.int p3), .val (.int p4), .val (.ref b2), .unset, .unset, .unset, .unset, .unset, .unset] [(.ref b35)])) _
    refine XS.dup X63.here hx rfl (hb hby at_189) rfl rfl ?_
    show Steps p.tables e below (T63.setTop (mkF m 190 #[.val (.int p1), .val (.int p2), .val (.int p3), .val (.int p4), .val (.ref b2), .unset, .unset, .unset, .unset, .unset, .unset] [(.ref b35), (.ref b35)])) _
    refine XS.bipush X63.here hx rfl (hb hby at_190) ?_
    show Steps p.tables e below (T63.setTop (mkF m 192 #[.val (.int p1), .val (.int p2), .val (.int p3), .val (.int p4), .val (.ref b2), .unset, .unset, .unset, .unset, .unset, .unset] [(.int (14 : Int32)), (.ref b35), (.ref b35)])) _
    refine X63.ldcInt hx hown (mvT hZ (hw _ (List.mem_of_getElem? (i := 7) rfl))) (g := (mkF m 192 #[.val (.int p1), .val (.int p2), .val (.int p3), .val (.int p4), .val (.ref b2), .unset, .unset, .unset, .unset, .unset, .unset] [(.int (14 : Int32)), (.ref b35), (.ref b35)])) rfl (hb hby at_192) _ ?_
    show Steps p.tables e below (T63.setTop (mkF m 194 #[.val (.int p1), .val (.int p2), .val (.int p3), .val (.int p4), .val (.ref b2), .unset, .unset, .unset, .unset, .unset, .unset] [(.int (983039 : Int32)), (.int (14 : Int32)), (.ref b35), (.ref b35)])) _
    exact kt
  obtain ⟨cl_65, Ar_65, q_65, S_65, M_65, H_65, U_65⟩ := id V_b35_63
  obtain ⟨T65, h65, X65, e65, W65, st65⟩ := stI X63 hx hZ e63 Ar_65 (j := (14 : Int32)) (inb_of S_65 ⟨(by decide : ¬ ((14 : Int32) < (0 : Int32))), (by decide : (14 : Int32) < (15 : Int32))⟩) (g := (mkF m 194 #[.val (.int p1), .val (.int p2), .val (.int p3), .val (.int p4), .val (.ref b2), .unset, .unset, .unset, .unset, .unset, .unset] [(.int (983039 : Int32)), (.int (14 : Int32)), (.ref b35), (.ref b35)])) rfl rfl (hb hby at_194)
  have V_b35_65 : Arv Z h65 b35 k35 .int (15 : Int32) [(.int (90 : Int32)), (.int (95 : Int32)), (.int (122 : Int32)), (.int (214 : Int32)), (.int (246 : Int32)), (.int (767 : Int32)), (.int (893 : Int32)), (.int (8191 : Int32)), (.int (8205 : Int32)), (.int (8591 : Int32)), (.int (12271 : Int32)), (.int (55295 : Int32)), (.int (64975 : Int32)), (.int (65533 : Int32)), (.int (983039 : Int32))] (.int (0 : Int32)) := Arv.set Ar_65 q_65 S_65 M_65 H_65 U_65 rfl W65 14 rfl (Nat.le_of_ble_eq_true rfl)
  have V_b2_32_65 : Arv Z h65 b2 k2 .int (15 : Int32) [(.int (65 : Int32)), (.int (95 : Int32)), (.int (97 : Int32)), (.int (192 : Int32)), (.int (216 : Int32)), (.int (248 : Int32)), (.int (880 : Int32)), (.int (895 : Int32)), (.int (8204 : Int32)), (.int (8304 : Int32)), (.int (11264 : Int32)), (.int (12289 : Int32)), (.int (63744 : Int32)), (.int (65008 : Int32)), (.int (65536 : Int32))] (.int (0 : Int32)) := V_b2_32_63.other W65 ne_b2_b35
  have Z65 : n0 ≤ h65.size := Nat.le_trans Z63 (Keep.of_wr W65).1
  have N65 := Fr.snoc X65 N63 g_b35
  have G65 : ∀ t, Steps p.tables e below (T65.setTop (mkF m 195 #[.val (.int p1), .val (.int p2), .val (.int p3), .val (.int p4), .val (.ref b2), .unset, .unset, .unset, .unset, .unset, .unset] [(.ref b35)])) t → Steps p.tables e below (s₁.setTop (entryFrame m #[(.int p1), (.int p2), (.int p3), (.int p4)] maxLocals)) t := fun t kt => G64 t (st65 t kt)
  obtain ⟨LH66, XH66, NH66⟩ : ∃ L', Stand p l e room_1 s m #[(.int p1), (.int p2), (.int p3), (.int p4)] below meth c T65 L' 2 30 ∧ Fr n0 L' := ⟨_, X65, N65⟩
  have G67 : ∀ t, Steps p.tables e below (T65.setTop (mkF m 206 #[.val (.int p1), .val (.int p2), .val (.int p3), .val (.int p4), .val (.ref b2), .val (.ref b35), .val (.int ((p1 &&& (2147483647 : Int32)) - ((p1 &&& (2147483647 : Int32)) / (15 : Int32)) * (15 : Int32))), .unset, .unset, .unset, .unset] [])) t → Steps p.tables e below (s₁.setTop (entryFrame m #[(.int p1), (.int p2), (.int p3), (.int p4)] maxLocals)) t := by
    intro t kt
    refine G65 t ?_
    show Steps p.tables e below (T65.setTop (mkF m 195 #[.val (.int p1), .val (.int p2), .val (.int p3), .val (.int p4), .val (.ref b2), .unset, .unset, .unset, .unset, .unset, .unset] [(.ref b35)])) _
    refine XS.astore XH66.here hx rfl (hb hby at_195) rfl rfl (l' := #[.val (.int p1), .val (.int p2), .val (.int p3), .val (.int p4), .val (.ref b2), .val (.ref b35), .unset, .unset, .unset, .unset, .unset]) rfl ?_
    show Steps p.tables e below (T65.setTop (mkF m 197 #[.val (.int p1), .val (.int p2), .val (.int p3), .val (.int p4), .val (.ref b2), .val (.ref b35), .unset, .unset, .unset, .unset, .unset] [])) _
    refine XS.iloadN XH66.here hx rfl (hb hby at_197) rfl ?_
    show Steps p.tables e below (T65.setTop (mkF m 198 #[.val (.int p1), .val (.int p2), .val (.int p3), .val (.int p4), .val (.ref b2), .val (.ref b35), .unset, .unset, .unset, .unset, .unset] [(.int p1)])) _
    refine XH66.ldcInt hx hown (mvT hZ (hw _ (List.mem_of_getElem? (i := 8) rfl))) (g := (mkF m 198 #[.val (.int p1), .val (.int p2), .val (.int p3), .val (.int p4), .val (.ref b2), .val (.ref b35), .unset, .unset, .unset, .unset, .unset] [(.int p1)])) rfl (hb hby at_198) _ ?_
    show Steps p.tables e below (T65.setTop (mkF m 200 #[.val (.int p1), .val (.int p2), .val (.int p3), .val (.int p4), .val (.ref b2), .val (.ref b35), .unset, .unset, .unset, .unset, .unset] [(.int (2147483647 : Int32)), (.int p1)])) _
    refine XS.iand XH66.here hx rfl (hb hby at_200) rfl ?_
    show Steps p.tables e below (T65.setTop (mkF m 201 #[.val (.int p1), .val (.int p2), .val (.int p3), .val (.int p4), .val (.ref b2), .val (.ref b35), .unset, .unset, .unset, .unset, .unset] [(.int (p1 &&& (2147483647 : Int32)))])) _
    refine XS.bipush XH66.here hx rfl (hb hby at_201) ?_
    show Steps p.tables e below (T65.setTop (mkF m 203 #[.val (.int p1), .val (.int p2), .val (.int p3), .val (.int p4), .val (.ref b2), .val (.ref b35), .unset, .unset, .unset, .unset, .unset] [(.int (15 : Int32)), (.int (p1 &&& (2147483647 : Int32)))])) _
    refine XS.irem XH66.here hx rfl (hb hby at_203) rfl (by decide) ?_
    show Steps p.tables e below (T65.setTop (mkF m 204 #[.val (.int p1), .val (.int p2), .val (.int p3), .val (.int p4), .val (.ref b2), .val (.ref b35), .unset, .unset, .unset, .unset, .unset] [(.int ((p1 &&& (2147483647 : Int32)) - ((p1 &&& (2147483647 : Int32)) / (15 : Int32)) * (15 : Int32)))])) _
    refine XS.istore XH66.here hx rfl (hb hby at_204) rfl (l' := #[.val (.int p1), .val (.int p2), .val (.int p3), .val (.int p4), .val (.ref b2), .val (.ref b35), .val (.int ((p1 &&& (2147483647 : Int32)) - ((p1 &&& (2147483647 : Int32)) / (15 : Int32)) * (15 : Int32))), .unset, .unset, .unset, .unset]) rfl ?_
    show Steps p.tables e below (T65.setTop (mkF m 206 #[.val (.int p1), .val (.int p2), .val (.int p3), .val (.int p4), .val (.ref b2), .val (.ref b35), .val (.int ((p1 &&& (2147483647 : Int32)) - ((p1 &&& (2147483647 : Int32)) / (15 : Int32)) * (15 : Int32))), .unset, .unset, .unset, .unset] [])) _
    exact kt
  obtain ⟨I, hI⟩ : ∃ z : Int32, z = ((p1 &&& (2147483647 : Int32)) - ((p1 &&& (2147483647 : Int32)) / (15 : Int32)) * (15 : Int32)) := ⟨_, rfl⟩
  have G68 : ∀ t, Steps p.tables e below (T65.setTop (mkF m 206 #[.val (.int p1), .val (.int p2), .val (.int p3), .val (.int p4), .val (.ref b2), .val (.ref b35), .val (.int I), .unset, .unset, .unset, .unset] [])) t → Steps p.tables e below (s₁.setTop (entryFrame m #[(.int p1), (.int p2), (.int p3), (.int p4)] maxLocals)) t := by
    intro t kt
    refine G67 t ?_
    subst hI
    exact kt
  obtain ⟨n, hn, hIn⟩ := own_idx p1 hI
  obtain ⟨lo, hi, hlo, hhi, bd1, bd2, bd3, hyes, hbel, habv, hgap⟩ := own_tab n hn
  have VA : Arv Z h65 b2 k2 .int (15 : Int32) own_LO (.int (0 : Int32)) := V_b2_32_65
  have VB : Arv Z h65 b35 k35 .int (15 : Int32) own_HI (.int (0 : Int32)) := V_b35_65
  obtain ⟨clA, ArA, qA, SA, MA, HA, UA⟩ := id VA
  obtain ⟨clB, ArB, qB, SB, MB, HB, UB⟩ := id VB
  have hinA := inb_of SA (own_bd hIn hn)
  have hinB := inb_of SB (own_bd hIn hn)
  have hatA : clA.slots[I.toNatClampNeg]? = some (.int lo) := HA.at hinA (by rw [own_nn hIn]; exact hlo)
  have hatB : clB.slots[I.toNatClampNeg]? = some (.int hi) := HB.at hinB (by rw [own_nn hIn]; exact hhi)
  have G69 : ∀ t, Steps p.tables e below (T65.setTop (mkF m 232 #[.val (.int p1), .val (.int p2), .val (.int p3), .val (.int p4), .val (.ref b2), .val (.ref b35), .val (.int I), .val (.int (lo + ((p2 &&& (2147483647 : Int32)) - ((p2 &&& (2147483647 : Int32)) / ((hi - lo) + (1 : Int32))) * ((hi - lo) + (1 : Int32))))), .unset, .unset, .unset] [])) t → Steps p.tables e below (s₁.setTop (entryFrame m #[(.int p1), (.int p2), (.int p3), (.int p4)] maxLocals)) t := by
    intro t kt
    refine G68 t ?_
    show Steps p.tables e below (T65.setTop (mkF m 206 #[.val (.int p1), .val (.int p2), .val (.int p3), .val (.int p4), .val (.ref b2), .val (.ref b35), .val (.int I), .unset, .unset, .unset, .unset] [])) _
    refine XS.aload XH66.here hx rfl (hb hby at_206) rfl rfl ?_
    show Steps p.tables e below (T65.setTop (mkF m 208 #[.val (.int p1), .val (.int p2), .val (.int p3), .val (.int p4), .val (.ref b2), .val (.ref b35), .val (.int I), .unset, .unset, .unset, .unset] [(.ref b2)])) _
    refine XS.iload XH66.here hx rfl (hb hby at_208) rfl ?_
    show Steps p.tables e below (T65.setTop (mkF m 210 #[.val (.int p1), .val (.int p2), .val (.int p3), .val (.int p4), .val (.ref b2), .val (.ref b35), .val (.int I), .unset, .unset, .unset, .unset] [(.int I), (.ref b2)])) _
    refine XH66.iaload hx (j := I) (v := (.int lo)) (by rw [e65]; exact ArA.1) (State.isArrayOf_alike hZ.alike ArA.2.1) ArA.2.2 hinA hatA (g := (mkF m 210 #[.val (.int p1), .val (.int p2), .val (.int p3), .val (.int p4), .val (.ref b2), .val (.ref b35), .val (.int I), .unset, .unset, .unset, .unset] [(.int I), (.ref b2)])) rfl rfl (hb hby at_210) _ ?_
    show Steps p.tables e below (T65.setTop (mkF m 211 #[.val (.int p1), .val (.int p2), .val (.int p3), .val (.int p4), .val (.ref b2), .val (.ref b35), .val (.int I), .unset, .unset, .unset, .unset] [(.int lo)])) _
    refine XS.iloadN XH66.here hx rfl (hb hby at_211) rfl ?_
    show Steps p.tables e below (T65.setTop (mkF m 212 #[.val (.int p1), .val (.int p2), .val (.int p3), .val (.int p4), .val (.ref b2), .val (.ref b35), .val (.int I), .unset, .unset, .unset, .unset] [(.int p2), (.int lo)])) _
    refine XH66.ldcInt hx hown (mvT hZ (hw _ (List.mem_of_getElem? (i := 8) rfl))) (g := (mkF m 212 #[.val (.int p1), .val (.int p2), .val (.int p3), .val (.int p4), .val (.ref b2), .val (.ref b35), .val (.int I), .unset, .unset, .unset, .unset] [(.int p2), (.int lo)])) rfl (hb hby at_212) _ ?_
    show Steps p.tables e below (T65.setTop (mkF m 214 #[.val (.int p1), .val (.int p2), .val (.int p3), .val (.int p4), .val (.ref b2), .val (.ref b35), .val (.int I), .unset, .unset, .unset, .unset] [(.int (2147483647 : Int32)), (.int p2), (.int lo)])) _
    refine XS.iand XH66.here hx rfl (hb hby at_214) rfl ?_
    show Steps p.tables e below (T65.setTop (mkF m 215 #[.val (.int p1), .val (.int p2), .val (.int p3), .val (.int p4), .val (.ref b2), .val (.ref b35), .val (.int I), .unset, .unset, .unset, .unset] [(.int (p2 &&& (2147483647 : Int32))), (.int lo)])) _
    refine XS.aload XH66.here hx rfl (hb hby at_215) rfl rfl ?_
    show Steps p.tables e below (T65.setTop (mkF m 217 #[.val (.int p1), .val (.int p2), .val (.int p3), .val (.int p4), .val (.ref b2), .val (.ref b35), .val (.int I), .unset, .unset, .unset, .unset] [(.ref b35), (.int (p2 &&& (2147483647 : Int32))), (.int lo)])) _
    refine XS.iload XH66.here hx rfl (hb hby at_217) rfl ?_
    show Steps p.tables e below (T65.setTop (mkF m 219 #[.val (.int p1), .val (.int p2), .val (.int p3), .val (.int p4), .val (.ref b2), .val (.ref b35), .val (.int I), .unset, .unset, .unset, .unset] [(.int I), (.ref b35), (.int (p2 &&& (2147483647 : Int32))), (.int lo)])) _
    refine XH66.iaload hx (j := I) (v := (.int hi)) (by rw [e65]; exact ArB.1) (State.isArrayOf_alike hZ.alike ArB.2.1) ArB.2.2 hinB hatB (g := (mkF m 219 #[.val (.int p1), .val (.int p2), .val (.int p3), .val (.int p4), .val (.ref b2), .val (.ref b35), .val (.int I), .unset, .unset, .unset, .unset] [(.int I), (.ref b35), (.int (p2 &&& (2147483647 : Int32))), (.int lo)])) rfl rfl (hb hby at_219) _ ?_
    show Steps p.tables e below (T65.setTop (mkF m 220 #[.val (.int p1), .val (.int p2), .val (.int p3), .val (.int p4), .val (.ref b2), .val (.ref b35), .val (.int I), .unset, .unset, .unset, .unset] [(.int hi), (.int (p2 &&& (2147483647 : Int32))), (.int lo)])) _
    refine XS.aload XH66.here hx rfl (hb hby at_220) rfl rfl ?_
    show Steps p.tables e below (T65.setTop (mkF m 222 #[.val (.int p1), .val (.int p2), .val (.int p3), .val (.int p4), .val (.ref b2), .val (.ref b35), .val (.int I), .unset, .unset, .unset, .unset] [(.ref b2), (.int hi), (.int (p2 &&& (2147483647 : Int32))), (.int lo)])) _
    refine XS.iload XH66.here hx rfl (hb hby at_222) rfl ?_
    show Steps p.tables e below (T65.setTop (mkF m 224 #[.val (.int p1), .val (.int p2), .val (.int p3), .val (.int p4), .val (.ref b2), .val (.ref b35), .val (.int I), .unset, .unset, .unset, .unset] [(.int I), (.ref b2), (.int hi), (.int (p2 &&& (2147483647 : Int32))), (.int lo)])) _
    refine XH66.iaload hx (j := I) (v := (.int lo)) (by rw [e65]; exact ArA.1) (State.isArrayOf_alike hZ.alike ArA.2.1) ArA.2.2 hinA hatA (g := (mkF m 224 #[.val (.int p1), .val (.int p2), .val (.int p3), .val (.int p4), .val (.ref b2), .val (.ref b35), .val (.int I), .unset, .unset, .unset, .unset] [(.int I), (.ref b2), (.int hi), (.int (p2 &&& (2147483647 : Int32))), (.int lo)])) rfl rfl (hb hby at_224) _ ?_
    show Steps p.tables e below (T65.setTop (mkF m 225 #[.val (.int p1), .val (.int p2), .val (.int p3), .val (.int p4), .val (.ref b2), .val (.ref b35), .val (.int I), .unset, .unset, .unset, .unset] [(.int lo), (.int hi), (.int (p2 &&& (2147483647 : Int32))), (.int lo)])) _
    refine XS.isub XH66.here hx rfl (hb hby at_225) rfl ?_
    show Steps p.tables e below (T65.setTop (mkF m 226 #[.val (.int p1), .val (.int p2), .val (.int p3), .val (.int p4), .val (.ref b2), .val (.ref b35), .val (.int I), .unset, .unset, .unset, .unset] [(.int (hi - lo)), (.int (p2 &&& (2147483647 : Int32))), (.int lo)])) _
    refine XS.iconst XH66.here hx rfl (hb hby at_226) ?_
    show Steps p.tables e below (T65.setTop (mkF m 227 #[.val (.int p1), .val (.int p2), .val (.int p3), .val (.int p4), .val (.ref b2), .val (.ref b35), .val (.int I), .unset, .unset, .unset, .unset] [(.int (1 : Int32)), (.int (hi - lo)), (.int (p2 &&& (2147483647 : Int32))), (.int lo)])) _
    refine XS.iadd XH66.here hx rfl (hb hby at_227) rfl ?_
    show Steps p.tables e below (T65.setTop (mkF m 228 #[.val (.int p1), .val (.int p2), .val (.int p3), .val (.int p4), .val (.ref b2), .val (.ref b35), .val (.int I), .unset, .unset, .unset, .unset] [(.int ((hi - lo) + (1 : Int32))), (.int (p2 &&& (2147483647 : Int32))), (.int lo)])) _
    refine XS.irem XH66.here hx rfl (hb hby at_228) rfl (own_nz bd1 bd2 bd3) ?_
    show Steps p.tables e below (T65.setTop (mkF m 229 #[.val (.int p1), .val (.int p2), .val (.int p3), .val (.int p4), .val (.ref b2), .val (.ref b35), .val (.int I), .unset, .unset, .unset, .unset] [(.int ((p2 &&& (2147483647 : Int32)) - ((p2 &&& (2147483647 : Int32)) / ((hi - lo) + (1 : Int32))) * ((hi - lo) + (1 : Int32)))), (.int lo)])) _
    refine XS.iadd XH66.here hx rfl (hb hby at_229) rfl ?_
    show Steps p.tables e below (T65.setTop (mkF m 230 #[.val (.int p1), .val (.int p2), .val (.int p3), .val (.int p4), .val (.ref b2), .val (.ref b35), .val (.int I), .unset, .unset, .unset, .unset] [(.int (lo + ((p2 &&& (2147483647 : Int32)) - ((p2 &&& (2147483647 : Int32)) / ((hi - lo) + (1 : Int32))) * ((hi - lo) + (1 : Int32)))))])) _
    refine XS.istore XH66.here hx rfl (hb hby at_230) rfl (l' := #[.val (.int p1), .val (.int p2), .val (.int p3), .val (.int p4), .val (.ref b2), .val (.ref b35), .val (.int I), .val (.int (lo + ((p2 &&& (2147483647 : Int32)) - ((p2 &&& (2147483647 : Int32)) / ((hi - lo) + (1 : Int32))) * ((hi - lo) + (1 : Int32))))), .unset, .unset, .unset]) rfl ?_
    show Steps p.tables e below (T65.setTop (mkF m 232 #[.val (.int p1), .val (.int p2), .val (.int p3), .val (.int p4), .val (.ref b2), .val (.ref b35), .val (.int I), .val (.int (lo + ((p2 &&& (2147483647 : Int32)) - ((p2 &&& (2147483647 : Int32)) / ((hi - lo) + (1 : Int32))) * ((hi - lo) + (1 : Int32))))), .unset, .unset, .unset] [])) _
    exact kt
  obtain ⟨D, hD⟩ : ∃ z : Int32, z = (lo + ((p2 &&& (2147483647 : Int32)) - ((p2 &&& (2147483647 : Int32)) / ((hi - lo) + (1 : Int32))) * ((hi - lo) + (1 : Int32)))) := ⟨_, rfl⟩
  have G70 : ∀ t, Steps p.tables e below (T65.setTop (mkF m 232 #[.val (.int p1), .val (.int p2), .val (.int p3), .val (.int p4), .val (.ref b2), .val (.ref b35), .val (.int I), .val (.int D), .unset, .unset, .unset] [])) t → Steps p.tables e below (s₁.setTop (entryFrame m #[(.int p1), (.int p2), (.int p3), (.int p4)] maxLocals)) t := by
    intro t kt
    refine G69 t ?_
    subst hD
    exact kt
  have hD1 : g1_0 D = 1 := hyes D (own_in p2 bd1 bd2 bd3 hD).1 (own_in p2 bd1 bd2 bd3 hD).2
  have G71 : ∀ t, Steps p.tables e below (T65.setTop (mkF m 234 #[.val (.int p1), .val (.int p2), .val (.int p3), .val (.int p4), .val (.ref b2), .val (.ref b35), .val (.int I), .val (.int D), .unset, .unset, .unset] [(.int D)])) t → Steps p.tables e below (s₁.setTop (entryFrame m #[(.int p1), (.int p2), (.int p3), (.int p4)] maxLocals)) t := by
    intro t kt
    refine G70 t ?_
    show Steps p.tables e below (T65.setTop (mkF m 232 #[.val (.int p1), .val (.int p2), .val (.int p3), .val (.int p4), .val (.ref b2), .val (.ref b35), .val (.int I), .val (.int D), .unset, .unset, .unset] [])) _
    refine XS.iload XH66.here hx rfl (hb hby at_232) rfl ?_
    show Steps p.tables e below (T65.setTop (mkF m 234 #[.val (.int p1), .val (.int p2), .val (.int p3), .val (.int p4), .val (.ref b2), .val (.ref b35), .val (.int I), .val (.int D), .unset, .unset, .unset] [(.int D)])) _
    exact kt
  obtain ⟨_, _, ⟨T72, L72, k72, n72⟩, -, X72, ⟨Lc72, hQ72, l72, y72, z72⟩, st72⟩ := Jvm.LawKit.callS XH66 hx (y := (⟨"com/example/sloj/sloj/model/Names", "isNameStart", "(I)Z"⟩ : MethodName)) hown (mvT hZ (hw _ (List.mem_of_getElem? (i := 9) rfl))) (mvT hZ (hw _ (List.mem_of_getElem? (i := 10) rfl))) (mvT hZ (hw _ (List.mem_of_getElem? (i := 11) rfl))) (mvT hZ (hw _ (List.mem_of_getElem? (i := 12) rfl))) (by decide) (backOf (W := 0) (rm1 l Z a0 hw [] D  h65 n0 Z65 ) hZ (hw _ (List.mem_of_getElem? (i := 12) rfl)) (hw _ (List.mem_of_getElem? (i := 11) rfl)) (by decide) (by decide)) (g := (mkF m 234 #[.val (.int p1), .val (.int p2), .val (.int p3), .val (.int p4), .val (.ref b2), .val (.ref b35), .val (.int I), .val (.int D), .unset, .unset, .unset] [(.int D)])) rfl (by rw [hml]; rfl) (argsL := [(.int D)]) (rest := []) (lenOf pd_0 rfl) rfl (by show 2 * 0 + _ ≤ _; exact Nat.le_of_eq rfl) (hb hby at_234) (fun _ _ => ⟨rfl, e65, (by decide : 2 + 0 ≤ _), (by decide : 30 + 0 ≤ _)⟩)
  dsimp only [Pt.U, Pt.locs, Pt.cells, Pt.slots] at X72 l72 y72 z72 st72 hQ72
  subst l72 y72 z72
  obtain ⟨rfl, N72q, e72⟩ := hQ72
  have N72 := Fr.app NH66 N72q
  have G72 : ∀ t, Steps p.tables e below (T72.setTop (mkF m 237 #[.val (.int p1), .val (.int p2), .val (.int p3), .val (.int p4), .val (.ref b2), .val (.ref b35), .val (.int I), .val (.int D), .unset, .unset, .unset] [(.int (g1_0 D))])) t → Steps p.tables e below (s₁.setTop (entryFrame m #[(.int p1), (.int p2), (.int p3), (.int p4)] maxLocals)) t := fun t kt => G71 t (st72 t kt)
  have G73 : ∀ t, Steps p.tables e below (T72.setTop (mkF m 237 #[.val (.int p1), .val (.int p2), .val (.int p3), .val (.int p4), .val (.ref b2), .val (.ref b35), .val (.int I), .val (.int D), .unset, .unset, .unset] [(.int (1 : Int32))])) t → Steps p.tables e below (s₁.setTop (entryFrame m #[(.int p1), (.int p2), (.int p3), (.int p4)] maxLocals)) t := by
    intro t kt
    refine G72 t ?_
    rw [hD1]
    exact kt
  have G74 : ∀ t, Steps p.tables e below (T72.setTop (mkF m 251 #[.val (.int p1), .val (.int p2), .val (.int p3), .val (.int p4), .val (.ref b2), .val (.ref b35), .val (.int I), .val (.int D), .val (.int (1 : Int32)), .unset, .unset] [(.int (lo - (1 : Int32)))])) t → Steps p.tables e below (s₁.setTop (entryFrame m #[(.int p1), (.int p2), (.int p3), (.int p4)] maxLocals)) t := by
    intro t kt
    refine G73 t ?_
    show Steps p.tables e below (T72.setTop (mkF m 237 #[.val (.int p1), .val (.int p2), .val (.int p3), .val (.int p4), .val (.ref b2), .val (.ref b35), .val (.int I), .val (.int D), .unset, .unset, .unset] [(.int (1 : Int32))])) _
    refine XS.istore X72.here hx rfl (hb hby at_237) rfl (l' := #[.val (.int p1), .val (.int p2), .val (.int p3), .val (.int p4), .val (.ref b2), .val (.ref b35), .val (.int I), .val (.int D), .val (.int (1 : Int32)), .unset, .unset]) rfl ?_
    show Steps p.tables e below (T72.setTop (mkF m 239 #[.val (.int p1), .val (.int p2), .val (.int p3), .val (.int p4), .val (.ref b2), .val (.ref b35), .val (.int I), .val (.int D), .val (.int (1 : Int32)), .unset, .unset] [])) _
    refine XS.iload X72.here hx rfl (hb hby at_239) rfl ?_
    show Steps p.tables e below (T72.setTop (mkF m 241 #[.val (.int p1), .val (.int p2), .val (.int p3), .val (.int p4), .val (.ref b2), .val (.ref b35), .val (.int I), .val (.int D), .val (.int (1 : Int32)), .unset, .unset] [(.int (1 : Int32))])) _
    refine XS.ifNo X72.here hx rfl (hb hby at_241) rfl ((if0 _ _).trans (feq (by decide : ¬ ((1 : Int32) = (0 : Int32)))).1) ?_
    show Steps p.tables e below (T72.setTop (mkF m 244 #[.val (.int p1), .val (.int p2), .val (.int p3), .val (.int p4), .val (.ref b2), .val (.ref b35), .val (.int I), .val (.int D), .val (.int (1 : Int32)), .unset, .unset] [])) _
    refine XS.aload X72.here hx rfl (hb hby at_244) rfl rfl ?_
    show Steps p.tables e below (T72.setTop (mkF m 246 #[.val (.int p1), .val (.int p2), .val (.int p3), .val (.int p4), .val (.ref b2), .val (.ref b35), .val (.int I), .val (.int D), .val (.int (1 : Int32)), .unset, .unset] [(.ref b2)])) _
    refine XS.iload X72.here hx rfl (hb hby at_246) rfl ?_
    show Steps p.tables e below (T72.setTop (mkF m 248 #[.val (.int p1), .val (.int p2), .val (.int p3), .val (.int p4), .val (.ref b2), .val (.ref b35), .val (.int I), .val (.int D), .val (.int (1 : Int32)), .unset, .unset] [(.int I), (.ref b2)])) _
    refine X72.iaload hx (j := I) (v := (.int lo)) (by rw [e72]; exact ArA.1) (State.isArrayOf_alike hZ.alike ArA.2.1) ArA.2.2 hinA hatA (g := (mkF m 248 #[.val (.int p1), .val (.int p2), .val (.int p3), .val (.int p4), .val (.ref b2), .val (.ref b35), .val (.int I), .val (.int D), .val (.int (1 : Int32)), .unset, .unset] [(.int I), (.ref b2)])) rfl rfl (hb hby at_248) _ ?_
    show Steps p.tables e below (T72.setTop (mkF m 249 #[.val (.int p1), .val (.int p2), .val (.int p3), .val (.int p4), .val (.ref b2), .val (.ref b35), .val (.int I), .val (.int D), .val (.int (1 : Int32)), .unset, .unset] [(.int lo)])) _
    refine XS.iconst X72.here hx rfl (hb hby at_249) ?_
    show Steps p.tables e below (T72.setTop (mkF m 250 #[.val (.int p1), .val (.int p2), .val (.int p3), .val (.int p4), .val (.ref b2), .val (.ref b35), .val (.int I), .val (.int D), .val (.int (1 : Int32)), .unset, .unset] [(.int (1 : Int32)), (.int lo)])) _
    refine XS.isub X72.here hx rfl (hb hby at_250) rfl ?_
    show Steps p.tables e below (T72.setTop (mkF m 251 #[.val (.int p1), .val (.int p2), .val (.int p3), .val (.int p4), .val (.ref b2), .val (.ref b35), .val (.int I), .val (.int D), .val (.int (1 : Int32)), .unset, .unset] [(.int (lo - (1 : Int32)))])) _
    exact kt
  obtain ⟨_, _, ⟨T75, L75, k75, n75⟩, -, X75, ⟨Lc75, hQ75, l75, y75, z75⟩, st75⟩ := Jvm.LawKit.callS X72 hx (y := (⟨"com/example/sloj/sloj/model/Names", "isNameStart", "(I)Z"⟩ : MethodName)) hown (mvT hZ (hw _ (List.mem_of_getElem? (i := 9) rfl))) (mvT hZ (hw _ (List.mem_of_getElem? (i := 10) rfl))) (mvT hZ (hw _ (List.mem_of_getElem? (i := 11) rfl))) (mvT hZ (hw _ (List.mem_of_getElem? (i := 12) rfl))) (by decide) (backOf (W := 0) (rm1 l Z a0 hw [] (lo - (1 : Int32))  h65 n0 Z65 ) hZ (hw _ (List.mem_of_getElem? (i := 12) rfl)) (hw _ (List.mem_of_getElem? (i := 11) rfl)) (by decide) (by decide)) (g := (mkF m 251 #[.val (.int p1), .val (.int p2), .val (.int p3), .val (.int p4), .val (.ref b2), .val (.ref b35), .val (.int I), .val (.int D), .val (.int (1 : Int32)), .unset, .unset] [(.int (lo - (1 : Int32)))])) rfl (by rw [hml]; rfl) (argsL := [(.int (lo - (1 : Int32)))]) (rest := []) (lenOf pd_0 rfl) rfl (by show 2 * 0 + _ ≤ _; exact Nat.le_of_eq rfl) (hb hby at_251) (fun _ _ => ⟨rfl, e72, (by decide : 2 + 0 ≤ _), (by decide : 30 + 0 ≤ _)⟩)
  dsimp only [Pt.U, Pt.locs, Pt.cells, Pt.slots] at X75 l75 y75 z75 st75 hQ75
  subst l75 y75 z75
  obtain ⟨rfl, N75q, e75⟩ := hQ75
  have N75 := Fr.app N72 N75q
  have G75 : ∀ t, Steps p.tables e below (T75.setTop (mkF m 254 #[.val (.int p1), .val (.int p2), .val (.int p3), .val (.int p4), .val (.ref b2), .val (.ref b35), .val (.int I), .val (.int D), .val (.int (1 : Int32)), .unset, .unset] [(.int (g1_0 (lo - (1 : Int32))))])) t → Steps p.tables e below (s₁.setTop (entryFrame m #[(.int p1), (.int p2), (.int p3), (.int p4)] maxLocals)) t := fun t kt => G74 t (st75 t kt)
  have G76 : ∀ t, Steps p.tables e below (T75.setTop (mkF m 276 #[.val (.int p1), .val (.int p2), .val (.int p3), .val (.int p4), .val (.ref b2), .val (.ref b35), .val (.int I), .val (.int D), .val (.int (1 : Int32)), .unset, .unset] [(.int (hi + (1 : Int32)))])) t → Steps p.tables e below (s₁.setTop (entryFrame m #[(.int p1), (.int p2), (.int p3), (.int p4)] maxLocals)) t := by
    intro t kt
    refine G75 t ?_
    show Steps p.tables e below (T75.setTop (mkF m 254 #[.val (.int p1), .val (.int p2), .val (.int p3), .val (.int p4), .val (.ref b2), .val (.ref b35), .val (.int I), .val (.int D), .val (.int (1 : Int32)), .unset, .unset] [(.int (g1_0 (lo - (1 : Int32))))])) _
    refine XS.ifNo X75.here hx rfl (hb hby at_254) rfl ((if0 _ _).trans (teq (hbel _ (own_m1 bd1))).2) ?_
    show Steps p.tables e below (T75.setTop (mkF m 257 #[.val (.int p1), .val (.int p2), .val (.int p3), .val (.int p4), .val (.ref b2), .val (.ref b35), .val (.int I), .val (.int D), .val (.int (1 : Int32)), .unset, .unset] [])) _
    refine XS.iconst X75.here hx rfl (hb hby at_257) ?_
    show Steps p.tables e below (T75.setTop (mkF m 258 #[.val (.int p1), .val (.int p2), .val (.int p3), .val (.int p4), .val (.ref b2), .val (.ref b35), .val (.int I), .val (.int D), .val (.int (1 : Int32)), .unset, .unset] [(.int (1 : Int32))])) _
    refine XS.goto X75.here hx rfl (pc0 := 258) (pc' := 262) rfl (hb hby at_258) (by decide) (by decide) ?_
    show Steps p.tables e below (T75.setTop (mkF m 262 #[.val (.int p1), .val (.int p2), .val (.int p3), .val (.int p4), .val (.ref b2), .val (.ref b35), .val (.int I), .val (.int D), .val (.int (1 : Int32)), .unset, .unset] [(.int (1 : Int32))])) _
    refine XS.istore X75.here hx rfl (hb hby at_262) rfl (l' := #[.val (.int p1), .val (.int p2), .val (.int p3), .val (.int p4), .val (.ref b2), .val (.ref b35), .val (.int I), .val (.int D), .val (.int (1 : Int32)), .unset, .unset]) rfl ?_
    show Steps p.tables e below (T75.setTop (mkF m 264 #[.val (.int p1), .val (.int p2), .val (.int p3), .val (.int p4), .val (.ref b2), .val (.ref b35), .val (.int I), .val (.int D), .val (.int (1 : Int32)), .unset, .unset] [])) _
    refine XS.iload X75.here hx rfl (hb hby at_264) rfl ?_
    show Steps p.tables e below (T75.setTop (mkF m 266 #[.val (.int p1), .val (.int p2), .val (.int p3), .val (.int p4), .val (.ref b2), .val (.ref b35), .val (.int I), .val (.int D), .val (.int (1 : Int32)), .unset, .unset] [(.int (1 : Int32))])) _
    refine XS.ifNo X75.here hx rfl (hb hby at_266) rfl ((if0 _ _).trans (feq (by decide : ¬ ((1 : Int32) = (0 : Int32)))).1) ?_
    show Steps p.tables e below (T75.setTop (mkF m 269 #[.val (.int p1), .val (.int p2), .val (.int p3), .val (.int p4), .val (.ref b2), .val (.ref b35), .val (.int I), .val (.int D), .val (.int (1 : Int32)), .unset, .unset] [])) _
    refine XS.aload X75.here hx rfl (hb hby at_269) rfl rfl ?_
    show Steps p.tables e below (T75.setTop (mkF m 271 #[.val (.int p1), .val (.int p2), .val (.int p3), .val (.int p4), .val (.ref b2), .val (.ref b35), .val (.int I), .val (.int D), .val (.int (1 : Int32)), .unset, .unset] [(.ref b35)])) _
    refine XS.iload X75.here hx rfl (hb hby at_271) rfl ?_
    show Steps p.tables e below (T75.setTop (mkF m 273 #[.val (.int p1), .val (.int p2), .val (.int p3), .val (.int p4), .val (.ref b2), .val (.ref b35), .val (.int I), .val (.int D), .val (.int (1 : Int32)), .unset, .unset] [(.int I), (.ref b35)])) _
    refine X75.iaload hx (j := I) (v := (.int hi)) (by rw [e75]; exact ArB.1) (State.isArrayOf_alike hZ.alike ArB.2.1) ArB.2.2 hinB hatB (g := (mkF m 273 #[.val (.int p1), .val (.int p2), .val (.int p3), .val (.int p4), .val (.ref b2), .val (.ref b35), .val (.int I), .val (.int D), .val (.int (1 : Int32)), .unset, .unset] [(.int I), (.ref b35)])) rfl rfl (hb hby at_273) _ ?_
    show Steps p.tables e below (T75.setTop (mkF m 274 #[.val (.int p1), .val (.int p2), .val (.int p3), .val (.int p4), .val (.ref b2), .val (.ref b35), .val (.int I), .val (.int D), .val (.int (1 : Int32)), .unset, .unset] [(.int hi)])) _
    refine XS.iconst X75.here hx rfl (hb hby at_274) ?_
    show Steps p.tables e below (T75.setTop (mkF m 275 #[.val (.int p1), .val (.int p2), .val (.int p3), .val (.int p4), .val (.ref b2), .val (.ref b35), .val (.int I), .val (.int D), .val (.int (1 : Int32)), .unset, .unset] [(.int (1 : Int32)), (.int hi)])) _
    refine XS.iadd X75.here hx rfl (hb hby at_275) rfl ?_
    show Steps p.tables e below (T75.setTop (mkF m 276 #[.val (.int p1), .val (.int p2), .val (.int p3), .val (.int p4), .val (.ref b2), .val (.ref b35), .val (.int I), .val (.int D), .val (.int (1 : Int32)), .unset, .unset] [(.int (hi + (1 : Int32)))])) _
    exact kt
  obtain ⟨_, _, ⟨T77, L77, k77, n77⟩, -, X77, ⟨Lc77, hQ77, l77, y77, z77⟩, st77⟩ := Jvm.LawKit.callS X75 hx (y := (⟨"com/example/sloj/sloj/model/Names", "isNameStart", "(I)Z"⟩ : MethodName)) hown (mvT hZ (hw _ (List.mem_of_getElem? (i := 9) rfl))) (mvT hZ (hw _ (List.mem_of_getElem? (i := 10) rfl))) (mvT hZ (hw _ (List.mem_of_getElem? (i := 11) rfl))) (mvT hZ (hw _ (List.mem_of_getElem? (i := 12) rfl))) (by decide) (backOf (W := 0) (rm1 l Z a0 hw [] (hi + (1 : Int32))  h65 n0 Z65 ) hZ (hw _ (List.mem_of_getElem? (i := 12) rfl)) (hw _ (List.mem_of_getElem? (i := 11) rfl)) (by decide) (by decide)) (g := (mkF m 276 #[.val (.int p1), .val (.int p2), .val (.int p3), .val (.int p4), .val (.ref b2), .val (.ref b35), .val (.int I), .val (.int D), .val (.int (1 : Int32)), .unset, .unset] [(.int (hi + (1 : Int32)))])) rfl (by rw [hml]; rfl) (argsL := [(.int (hi + (1 : Int32)))]) (rest := []) (lenOf pd_0 rfl) rfl (by show 2 * 0 + _ ≤ _; exact Nat.le_of_eq rfl) (hb hby at_276) (fun _ _ => ⟨rfl, e75, (by decide : 2 + 0 ≤ _), (by decide : 30 + 0 ≤ _)⟩)
  dsimp only [Pt.U, Pt.locs, Pt.cells, Pt.slots] at X77 l77 y77 z77 st77 hQ77
  subst l77 y77 z77
  obtain ⟨rfl, N77q, e77⟩ := hQ77
  have N77 := Fr.app N75 N77q
  have G77 : ∀ t, Steps p.tables e below (T77.setTop (mkF m 279 #[.val (.int p1), .val (.int p2), .val (.int p3), .val (.int p4), .val (.ref b2), .val (.ref b35), .val (.int I), .val (.int D), .val (.int (1 : Int32)), .unset, .unset] [(.int (g1_0 (hi + (1 : Int32))))])) t → Steps p.tables e below (s₁.setTop (entryFrame m #[(.int p1), (.int p2), (.int p3), (.int p4)] maxLocals)) t := fun t kt => G76 t (st77 t kt)
  have G78 : ∀ t, Steps p.tables e below (T77.setTop (mkF m 293 #[.val (.int p1), .val (.int p2), .val (.int p3), .val (.int p4), .val (.ref b2), .val (.ref b35), .val (.int I), .val (.int D), .val (.int (1 : Int32)), .unset, .unset] [(.int (14 : Int32)), (.int I)])) t → Steps p.tables e below (s₁.setTop (entryFrame m #[(.int p1), (.int p2), (.int p3), (.int p4)] maxLocals)) t := by
    intro t kt
    refine G77 t ?_
    show Steps p.tables e below (T77.setTop (mkF m 279 #[.val (.int p1), .val (.int p2), .val (.int p3), .val (.int p4), .val (.ref b2), .val (.ref b35), .val (.int I), .val (.int D), .val (.int (1 : Int32)), .unset, .unset] [(.int (g1_0 (hi + (1 : Int32))))])) _
    refine XS.ifNo X77.here hx rfl (hb hby at_279) rfl ((if0 _ _).trans (teq (habv _ (own_p1 (by omega) bd3))).2) ?_
    show Steps p.tables e below (T77.setTop (mkF m 282 #[.val (.int p1), .val (.int p2), .val (.int p3), .val (.int p4), .val (.ref b2), .val (.ref b35), .val (.int I), .val (.int D), .val (.int (1 : Int32)), .unset, .unset] [])) _
    refine XS.iconst X77.here hx rfl (hb hby at_282) ?_
    show Steps p.tables e below (T77.setTop (mkF m 283 #[.val (.int p1), .val (.int p2), .val (.int p3), .val (.int p4), .val (.ref b2), .val (.ref b35), .val (.int I), .val (.int D), .val (.int (1 : Int32)), .unset, .unset] [(.int (1 : Int32))])) _
    refine XS.goto X77.here hx rfl (pc0 := 283) (pc' := 287) rfl (hb hby at_283) (by decide) (by decide) ?_
    show Steps p.tables e below (T77.setTop (mkF m 287 #[.val (.int p1), .val (.int p2), .val (.int p3), .val (.int p4), .val (.ref b2), .val (.ref b35), .val (.int I), .val (.int D), .val (.int (1 : Int32)), .unset, .unset] [(.int (1 : Int32))])) _
    refine XS.istore X77.here hx rfl (hb hby at_287) rfl (l' := #[.val (.int p1), .val (.int p2), .val (.int p3), .val (.int p4), .val (.ref b2), .val (.ref b35), .val (.int I), .val (.int D), .val (.int (1 : Int32)), .unset, .unset]) rfl ?_
    show Steps p.tables e below (T77.setTop (mkF m 289 #[.val (.int p1), .val (.int p2), .val (.int p3), .val (.int p4), .val (.ref b2), .val (.ref b35), .val (.int I), .val (.int D), .val (.int (1 : Int32)), .unset, .unset] [])) _
    refine XS.iload X77.here hx rfl (hb hby at_289) rfl ?_
    show Steps p.tables e below (T77.setTop (mkF m 291 #[.val (.int p1), .val (.int p2), .val (.int p3), .val (.int p4), .val (.ref b2), .val (.ref b35), .val (.int I), .val (.int D), .val (.int (1 : Int32)), .unset, .unset] [(.int I)])) _
    refine XS.bipush X77.here hx rfl (hb hby at_291) ?_
    show Steps p.tables e below (T77.setTop (mkF m 293 #[.val (.int p1), .val (.int p2), .val (.int p3), .val (.int p4), .val (.ref b2), .val (.ref b35), .val (.int I), .val (.int D), .val (.int (1 : Int32)), .unset, .unset] [(.int (14 : Int32)), (.int I)])) _
    exact kt
  by_cases hc : I < (14 : Int32)
  · obtain ⟨lo', hlo', c1, c2, hno⟩ := hgap (own_i14 hIn hc)
    have hinC := inb_of SA (own_bd (own_next hIn hn) (by have := own_i14 hIn hc; omega))
    have hatC : clA.slots[(I + (1 : Int32)).toNatClampNeg]? = some (.int lo') := HA.at hinC (by rw [own_nn (own_next hIn hn)]; exact hlo')
    have G79 : ∀ t, Steps p.tables e below (T77.setTop (mkF m 330 #[.val (.int p1), .val (.int p2), .val (.int p3), .val (.int p4), .val (.ref b2), .val (.ref b35), .val (.int I), .val (.int D), .val (.int (1 : Int32)), .val (.int ((lo' - hi) - (1 : Int32))), .val (.int ((hi + (1 : Int32)) + ((p3 &&& (2147483647 : Int32)) - ((p3 &&& (2147483647 : Int32)) / ((lo' - hi) - (1 : Int32))) * ((lo' - hi) - (1 : Int32)))))] [])) t → Steps p.tables e below (s₁.setTop (entryFrame m #[(.int p1), (.int p2), (.int p3), (.int p4)] maxLocals)) t := by
      intro t kt
      refine G78 t ?_
      show Steps p.tables e below (T77.setTop (mkF m 293 #[.val (.int p1), .val (.int p2), .val (.int p3), .val (.int p4), .val (.ref b2), .val (.ref b35), .val (.int I), .val (.int D), .val (.int (1 : Int32)), .unset, .unset] [(.int (14 : Int32)), (.int I)])) _
      refine XS.icmpNo X77.here hx rfl (hb hby at_293) rfl (tlt hc).2.1 ?_
      show Steps p.tables e below (T77.setTop (mkF m 296 #[.val (.int p1), .val (.int p2), .val (.int p3), .val (.int p4), .val (.ref b2), .val (.ref b35), .val (.int I), .val (.int D), .val (.int (1 : Int32)), .unset, .unset] [])) _
      refine XS.aload X77.here hx rfl (hb hby at_296) rfl rfl ?_
      show Steps p.tables e below (T77.setTop (mkF m 298 #[.val (.int p1), .val (.int p2), .val (.int p3), .val (.int p4), .val (.ref b2), .val (.ref b35), .val (.int I), .val (.int D), .val (.int (1 : Int32)), .unset, .unset] [(.ref b2)])) _
      refine XS.iload X77.here hx rfl (hb hby at_298) rfl ?_
      show Steps p.tables e below (T77.setTop (mkF m 300 #[.val (.int p1), .val (.int p2), .val (.int p3), .val (.int p4), .val (.ref b2), .val (.ref b35), .val (.int I), .val (.int D), .val (.int (1 : Int32)), .unset, .unset] [(.int I), (.ref b2)])) _
      refine XS.iconst X77.here hx rfl (hb hby at_300) ?_
      show Steps p.tables e below (T77.setTop (mkF m 301 #[.val (.int p1), .val (.int p2), .val (.int p3), .val (.int p4), .val (.ref b2), .val (.ref b35), .val (.int I), .val (.int D), .val (.int (1 : Int32)), .unset, .unset] [(.int (1 : Int32)), (.int I), (.ref b2)])) _
      refine XS.iadd X77.here hx rfl (hb hby at_301) rfl ?_
      show Steps p.tables e below (T77.setTop (mkF m 302 #[.val (.int p1), .val (.int p2), .val (.int p3), .val (.int p4), .val (.ref b2), .val (.ref b35), .val (.int I), .val (.int D), .val (.int (1 : Int32)), .unset, .unset] [(.int (I + (1 : Int32))), (.ref b2)])) _
      refine X77.iaload hx (j := (I + (1 : Int32))) (v := (.int lo')) (by rw [e77]; exact ArA.1) (State.isArrayOf_alike hZ.alike ArA.2.1) ArA.2.2 hinC hatC (g := (mkF m 302 #[.val (.int p1), .val (.int p2), .val (.int p3), .val (.int p4), .val (.ref b2), .val (.ref b35), .val (.int I), .val (.int D), .val (.int (1 : Int32)), .unset, .unset] [(.int (I + (1 : Int32))), (.ref b2)])) rfl rfl (hb hby at_302) _ ?_
      show Steps p.tables e below (T77.setTop (mkF m 303 #[.val (.int p1), .val (.int p2), .val (.int p3), .val (.int p4), .val (.ref b2), .val (.ref b35), .val (.int I), .val (.int D), .val (.int (1 : Int32)), .unset, .unset] [(.int lo')])) _
      refine XS.aload X77.here hx rfl (hb hby at_303) rfl rfl ?_
      show Steps p.tables e below (T77.setTop (mkF m 305 #[.val (.int p1), .val (.int p2), .val (.int p3), .val (.int p4), .val (.ref b2), .val (.ref b35), .val (.int I), .val (.int D), .val (.int (1 : Int32)), .unset, .unset] [(.ref b35), (.int lo')])) _
      refine XS.iload X77.here hx rfl (hb hby at_305) rfl ?_
      show Steps p.tables e below (T77.setTop (mkF m 307 #[.val (.int p1), .val (.int p2), .val (.int p3), .val (.int p4), .val (.ref b2), .val (.ref b35), .val (.int I), .val (.int D), .val (.int (1 : Int32)), .unset, .unset] [(.int I), (.ref b35), (.int lo')])) _
      refine X77.iaload hx (j := I) (v := (.int hi)) (by rw [e77]; exact ArB.1) (State.isArrayOf_alike hZ.alike ArB.2.1) ArB.2.2 hinB hatB (g := (mkF m 307 #[.val (.int p1), .val (.int p2), .val (.int p3), .val (.int p4), .val (.ref b2), .val (.ref b35), .val (.int I), .val (.int D), .val (.int (1 : Int32)), .unset, .unset] [(.int I), (.ref b35), (.int lo')])) rfl rfl (hb hby at_307) _ ?_
      show Steps p.tables e below (T77.setTop (mkF m 308 #[.val (.int p1), .val (.int p2), .val (.int p3), .val (.int p4), .val (.ref b2), .val (.ref b35), .val (.int I), .val (.int D), .val (.int (1 : Int32)), .unset, .unset] [(.int hi), (.int lo')])) _
      refine XS.isub X77.here hx rfl (hb hby at_308) rfl ?_
      show Steps p.tables e below (T77.setTop (mkF m 309 #[.val (.int p1), .val (.int p2), .val (.int p3), .val (.int p4), .val (.ref b2), .val (.ref b35), .val (.int I), .val (.int D), .val (.int (1 : Int32)), .unset, .unset] [(.int (lo' - hi))])) _
      refine XS.iconst X77.here hx rfl (hb hby at_309) ?_
      show Steps p.tables e below (T77.setTop (mkF m 310 #[.val (.int p1), .val (.int p2), .val (.int p3), .val (.int p4), .val (.ref b2), .val (.ref b35), .val (.int I), .val (.int D), .val (.int (1 : Int32)), .unset, .unset] [(.int (1 : Int32)), (.int (lo' - hi))])) _
      refine XS.isub X77.here hx rfl (hb hby at_310) rfl ?_
      show Steps p.tables e below (T77.setTop (mkF m 311 #[.val (.int p1), .val (.int p2), .val (.int p3), .val (.int p4), .val (.ref b2), .val (.ref b35), .val (.int I), .val (.int D), .val (.int (1 : Int32)), .unset, .unset] [(.int ((lo' - hi) - (1 : Int32)))])) _
      refine XS.istore X77.here hx rfl (hb hby at_311) rfl (l' := #[.val (.int p1), .val (.int p2), .val (.int p3), .val (.int p4), .val (.ref b2), .val (.ref b35), .val (.int I), .val (.int D), .val (.int (1 : Int32)), .val (.int ((lo' - hi) - (1 : Int32))), .unset]) rfl ?_
      show Steps p.tables e below (T77.setTop (mkF m 313 #[.val (.int p1), .val (.int p2), .val (.int p3), .val (.int p4), .val (.ref b2), .val (.ref b35), .val (.int I), .val (.int D), .val (.int (1 : Int32)), .val (.int ((lo' - hi) - (1 : Int32))), .unset] [])) _
      refine XS.aload X77.here hx rfl (hb hby at_313) rfl rfl ?_
      show Steps p.tables e below (T77.setTop (mkF m 315 #[.val (.int p1), .val (.int p2), .val (.int p3), .val (.int p4), .val (.ref b2), .val (.ref b35), .val (.int I), .val (.int D), .val (.int (1 : Int32)), .val (.int ((lo' - hi) - (1 : Int32))), .unset] [(.ref b35)])) _
      refine XS.iload X77.here hx rfl (hb hby at_315) rfl ?_
      show Steps p.tables e below (T77.setTop (mkF m 317 #[.val (.int p1), .val (.int p2), .val (.int p3), .val (.int p4), .val (.ref b2), .val (.ref b35), .val (.int I), .val (.int D), .val (.int (1 : Int32)), .val (.int ((lo' - hi) - (1 : Int32))), .unset] [(.int I), (.ref b35)])) _
      refine X77.iaload hx (j := I) (v := (.int hi)) (by rw [e77]; exact ArB.1) (State.isArrayOf_alike hZ.alike ArB.2.1) ArB.2.2 hinB hatB (g := (mkF m 317 #[.val (.int p1), .val (.int p2), .val (.int p3), .val (.int p4), .val (.ref b2), .val (.ref b35), .val (.int I), .val (.int D), .val (.int (1 : Int32)), .val (.int ((lo' - hi) - (1 : Int32))), .unset] [(.int I), (.ref b35)])) rfl rfl (hb hby at_317) _ ?_
      show Steps p.tables e below (T77.setTop (mkF m 318 #[.val (.int p1), .val (.int p2), .val (.int p3), .val (.int p4), .val (.ref b2), .val (.ref b35), .val (.int I), .val (.int D), .val (.int (1 : Int32)), .val (.int ((lo' - hi) - (1 : Int32))), .unset] [(.int hi)])) _
      refine XS.iconst X77.here hx rfl (hb hby at_318) ?_
      show Steps p.tables e below (T77.setTop (mkF m 319 #[.val (.int p1), .val (.int p2), .val (.int p3), .val (.int p4), .val (.ref b2), .val (.ref b35), .val (.int I), .val (.int D), .val (.int (1 : Int32)), .val (.int ((lo' - hi) - (1 : Int32))), .unset] [(.int (1 : Int32)), (.int hi)])) _
      refine XS.iadd X77.here hx rfl (hb hby at_319) rfl ?_
      show Steps p.tables e below (T77.setTop (mkF m 320 #[.val (.int p1), .val (.int p2), .val (.int p3), .val (.int p4), .val (.ref b2), .val (.ref b35), .val (.int I), .val (.int D), .val (.int (1 : Int32)), .val (.int ((lo' - hi) - (1 : Int32))), .unset] [(.int (hi + (1 : Int32)))])) _
      refine XS.iloadN X77.here hx rfl (hb hby at_320) rfl ?_
      show Steps p.tables e below (T77.setTop (mkF m 321 #[.val (.int p1), .val (.int p2), .val (.int p3), .val (.int p4), .val (.ref b2), .val (.ref b35), .val (.int I), .val (.int D), .val (.int (1 : Int32)), .val (.int ((lo' - hi) - (1 : Int32))), .unset] [(.int p3), (.int (hi + (1 : Int32)))])) _
      refine X77.ldcInt hx hown (mvT hZ (hw _ (List.mem_of_getElem? (i := 8) rfl))) (g := (mkF m 321 #[.val (.int p1), .val (.int p2), .val (.int p3), .val (.int p4), .val (.ref b2), .val (.ref b35), .val (.int I), .val (.int D), .val (.int (1 : Int32)), .val (.int ((lo' - hi) - (1 : Int32))), .unset] [(.int p3), (.int (hi + (1 : Int32)))])) rfl (hb hby at_321) _ ?_
      show Steps p.tables e below (T77.setTop (mkF m 323 #[.val (.int p1), .val (.int p2), .val (.int p3), .val (.int p4), .val (.ref b2), .val (.ref b35), .val (.int I), .val (.int D), .val (.int (1 : Int32)), .val (.int ((lo' - hi) - (1 : Int32))), .unset] [(.int (2147483647 : Int32)), (.int p3), (.int (hi + (1 : Int32)))])) _
      refine XS.iand X77.here hx rfl (hb hby at_323) rfl ?_
      show Steps p.tables e below (T77.setTop (mkF m 324 #[.val (.int p1), .val (.int p2), .val (.int p3), .val (.int p4), .val (.ref b2), .val (.ref b35), .val (.int I), .val (.int D), .val (.int (1 : Int32)), .val (.int ((lo' - hi) - (1 : Int32))), .unset] [(.int (p3 &&& (2147483647 : Int32))), (.int (hi + (1 : Int32)))])) _
      refine XS.iload X77.here hx rfl (hb hby at_324) rfl ?_
      show Steps p.tables e below (T77.setTop (mkF m 326 #[.val (.int p1), .val (.int p2), .val (.int p3), .val (.int p4), .val (.ref b2), .val (.ref b35), .val (.int I), .val (.int D), .val (.int (1 : Int32)), .val (.int ((lo' - hi) - (1 : Int32))), .unset] [(.int ((lo' - hi) - (1 : Int32))), (.int (p3 &&& (2147483647 : Int32))), (.int (hi + (1 : Int32)))])) _
      refine XS.irem X77.here hx rfl (hb hby at_326) rfl (own_gnz (by omega) c1 c2) ?_
      show Steps p.tables e below (T77.setTop (mkF m 327 #[.val (.int p1), .val (.int p2), .val (.int p3), .val (.int p4), .val (.ref b2), .val (.ref b35), .val (.int I), .val (.int D), .val (.int (1 : Int32)), .val (.int ((lo' - hi) - (1 : Int32))), .unset] [(.int ((p3 &&& (2147483647 : Int32)) - ((p3 &&& (2147483647 : Int32)) / ((lo' - hi) - (1 : Int32))) * ((lo' - hi) - (1 : Int32)))), (.int (hi + (1 : Int32)))])) _
      refine XS.iadd X77.here hx rfl (hb hby at_327) rfl ?_
      show Steps p.tables e below (T77.setTop (mkF m 328 #[.val (.int p1), .val (.int p2), .val (.int p3), .val (.int p4), .val (.ref b2), .val (.ref b35), .val (.int I), .val (.int D), .val (.int (1 : Int32)), .val (.int ((lo' - hi) - (1 : Int32))), .unset] [(.int ((hi + (1 : Int32)) + ((p3 &&& (2147483647 : Int32)) - ((p3 &&& (2147483647 : Int32)) / ((lo' - hi) - (1 : Int32))) * ((lo' - hi) - (1 : Int32)))))])) _
      refine XS.istore X77.here hx rfl (hb hby at_328) rfl (l' := #[.val (.int p1), .val (.int p2), .val (.int p3), .val (.int p4), .val (.ref b2), .val (.ref b35), .val (.int I), .val (.int D), .val (.int (1 : Int32)), .val (.int ((lo' - hi) - (1 : Int32))), .val (.int ((hi + (1 : Int32)) + ((p3 &&& (2147483647 : Int32)) - ((p3 &&& (2147483647 : Int32)) / ((lo' - hi) - (1 : Int32))) * ((lo' - hi) - (1 : Int32)))))]) rfl ?_
      show Steps p.tables e below (T77.setTop (mkF m 330 #[.val (.int p1), .val (.int p2), .val (.int p3), .val (.int p4), .val (.ref b2), .val (.ref b35), .val (.int I), .val (.int D), .val (.int (1 : Int32)), .val (.int ((lo' - hi) - (1 : Int32))), .val (.int ((hi + (1 : Int32)) + ((p3 &&& (2147483647 : Int32)) - ((p3 &&& (2147483647 : Int32)) / ((lo' - hi) - (1 : Int32))) * ((lo' - hi) - (1 : Int32)))))] [])) _
      exact kt
    obtain ⟨Y, hY⟩ : ∃ z : Int32, z = ((hi + (1 : Int32)) + ((p3 &&& (2147483647 : Int32)) - ((p3 &&& (2147483647 : Int32)) / ((lo' - hi) - (1 : Int32))) * ((lo' - hi) - (1 : Int32)))) := ⟨_, rfl⟩
    have G80 : ∀ t, Steps p.tables e below (T77.setTop (mkF m 330 #[.val (.int p1), .val (.int p2), .val (.int p3), .val (.int p4), .val (.ref b2), .val (.ref b35), .val (.int I), .val (.int D), .val (.int (1 : Int32)), .val (.int ((lo' - hi) - (1 : Int32))), .val (.int Y)] [])) t → Steps p.tables e below (s₁.setTop (entryFrame m #[(.int p1), (.int p2), (.int p3), (.int p4)] maxLocals)) t := by
      intro t kt
      refine G79 t ?_
      subst hY
      exact kt
    have hY0 : g1_0 Y = 0 := hno Y (own_gap p3 (by omega) c1 c2 hY).1 (own_gap p3 (by omega) c1 c2 hY).2
    have G81 : ∀ t, Steps p.tables e below (T77.setTop (mkF m 337 #[.val (.int p1), .val (.int p2), .val (.int p3), .val (.int p4), .val (.ref b2), .val (.ref b35), .val (.int I), .val (.int D), .val (.int (1 : Int32)), .val (.int ((lo' - hi) - (1 : Int32))), .val (.int Y)] [(.int Y)])) t → Steps p.tables e below (s₁.setTop (entryFrame m #[(.int p1), (.int p2), (.int p3), (.int p4)] maxLocals)) t := by
      intro t kt
      refine G80 t ?_
      show Steps p.tables e below (T77.setTop (mkF m 330 #[.val (.int p1), .val (.int p2), .val (.int p3), .val (.int p4), .val (.ref b2), .val (.ref b35), .val (.int I), .val (.int D), .val (.int (1 : Int32)), .val (.int ((lo' - hi) - (1 : Int32))), .val (.int Y)] [])) _
      refine XS.iload X77.here hx rfl (hb hby at_330) rfl ?_
      show Steps p.tables e below (T77.setTop (mkF m 332 #[.val (.int p1), .val (.int p2), .val (.int p3), .val (.int p4), .val (.ref b2), .val (.ref b35), .val (.int I), .val (.int D), .val (.int (1 : Int32)), .val (.int ((lo' - hi) - (1 : Int32))), .val (.int Y)] [(.int (1 : Int32))])) _
      refine XS.ifNo X77.here hx rfl (hb hby at_332) rfl ((if0 _ _).trans (feq (by decide : ¬ ((1 : Int32) = (0 : Int32)))).1) ?_
      show Steps p.tables e below (T77.setTop (mkF m 335 #[.val (.int p1), .val (.int p2), .val (.int p3), .val (.int p4), .val (.ref b2), .val (.ref b35), .val (.int I), .val (.int D), .val (.int (1 : Int32)), .val (.int ((lo' - hi) - (1 : Int32))), .val (.int Y)] [])) _
      refine XS.iload X77.here hx rfl (hb hby at_335) rfl ?_
      show Steps p.tables e below (T77.setTop (mkF m 337 #[.val (.int p1), .val (.int p2), .val (.int p3), .val (.int p4), .val (.ref b2), .val (.ref b35), .val (.int I), .val (.int D), .val (.int (1 : Int32)), .val (.int ((lo' - hi) - (1 : Int32))), .val (.int Y)] [(.int Y)])) _
      exact kt
    obtain ⟨_, _, ⟨T82, L82, k82, n82⟩, -, X82, ⟨Lc82, hQ82, l82, y82, z82⟩, st82⟩ := Jvm.LawKit.callS X77 hx (y := (⟨"com/example/sloj/sloj/model/Names", "isNameStart", "(I)Z"⟩ : MethodName)) hown (mvT hZ (hw _ (List.mem_of_getElem? (i := 9) rfl))) (mvT hZ (hw _ (List.mem_of_getElem? (i := 10) rfl))) (mvT hZ (hw _ (List.mem_of_getElem? (i := 11) rfl))) (mvT hZ (hw _ (List.mem_of_getElem? (i := 12) rfl))) (by decide) (backOf (W := 0) (rm1 l Z a0 hw [] Y  h65 n0 Z65 ) hZ (hw _ (List.mem_of_getElem? (i := 12) rfl)) (hw _ (List.mem_of_getElem? (i := 11) rfl)) (by decide) (by decide)) (g := (mkF m 337 #[.val (.int p1), .val (.int p2), .val (.int p3), .val (.int p4), .val (.ref b2), .val (.ref b35), .val (.int I), .val (.int D), .val (.int (1 : Int32)), .val (.int ((lo' - hi) - (1 : Int32))), .val (.int Y)] [(.int Y)])) rfl (by rw [hml]; rfl) (argsL := [(.int Y)]) (rest := []) (lenOf pd_0 rfl) rfl (by show 2 * 0 + _ ≤ _; exact Nat.le_of_eq rfl) (hb hby at_337) (fun _ _ => ⟨rfl, e77, (by decide : 2 + 0 ≤ _), (by decide : 30 + 0 ≤ _)⟩)
    dsimp only [Pt.U, Pt.locs, Pt.cells, Pt.slots] at X82 l82 y82 z82 st82 hQ82
    subst l82 y82 z82
    obtain ⟨rfl, N82q, e82⟩ := hQ82
    have N82 := Fr.app N77 N82q
    have G82 : ∀ t, Steps p.tables e below (T82.setTop (mkF m 340 #[.val (.int p1), .val (.int p2), .val (.int p3), .val (.int p4), .val (.ref b2), .val (.ref b35), .val (.int I), .val (.int D), .val (.int (1 : Int32)), .val (.int ((lo' - hi) - (1 : Int32))), .val (.int Y)] [(.int (g1_0 Y))])) t → Steps p.tables e below (s₁.setTop (entryFrame m #[(.int p1), (.int p2), (.int p3), (.int p4)] maxLocals)) t := fun t kt => G81 t (st82 t kt)
    have G83 : ∀ t, Steps p.tables e below (T82.setTop (mkF m 353 #[.val (.int p1), .val (.int p2), .val (.int p3), .val (.int p4), .val (.ref b2), .val (.ref b35), .val (.int I), .val (.int D), .val (.int (1 : Int32)), .val (.int ((lo' - hi) - (1 : Int32))), .val (.int Y)] [(.int (65 : Int32)), (.int p4)])) t → Steps p.tables e below (s₁.setTop (entryFrame m #[(.int p1), (.int p2), (.int p3), (.int p4)] maxLocals)) t := by
      intro t kt
      refine G82 t ?_
      show Steps p.tables e below (T82.setTop (mkF m 340 #[.val (.int p1), .val (.int p2), .val (.int p3), .val (.int p4), .val (.ref b2), .val (.ref b35), .val (.int I), .val (.int D), .val (.int (1 : Int32)), .val (.int ((lo' - hi) - (1 : Int32))), .val (.int Y)] [(.int (g1_0 Y))])) _
      refine XS.ifNo X82.here hx rfl (hb hby at_340) rfl ((if0 _ _).trans (teq hY0).2) ?_
      show Steps p.tables e below (T82.setTop (mkF m 343 #[.val (.int p1), .val (.int p2), .val (.int p3), .val (.int p4), .val (.ref b2), .val (.ref b35), .val (.int I), .val (.int D), .val (.int (1 : Int32)), .val (.int ((lo' - hi) - (1 : Int32))), .val (.int Y)] [])) _
      refine XS.iconst X82.here hx rfl (hb hby at_343) ?_
      show Steps p.tables e below (T82.setTop (mkF m 344 #[.val (.int p1), .val (.int p2), .val (.int p3), .val (.int p4), .val (.ref b2), .val (.ref b35), .val (.int I), .val (.int D), .val (.int (1 : Int32)), .val (.int ((lo' - hi) - (1 : Int32))), .val (.int Y)] [(.int (1 : Int32))])) _
      refine XS.goto X82.here hx rfl (pc0 := 344) (pc' := 348) rfl (hb hby at_344) (by decide) (by decide) ?_
      show Steps p.tables e below (T82.setTop (mkF m 348 #[.val (.int p1), .val (.int p2), .val (.int p3), .val (.int p4), .val (.ref b2), .val (.ref b35), .val (.int I), .val (.int D), .val (.int (1 : Int32)), .val (.int ((lo' - hi) - (1 : Int32))), .val (.int Y)] [(.int (1 : Int32))])) _
      refine XS.istore X82.here hx rfl (hb hby at_348) rfl (l' := #[.val (.int p1), .val (.int p2), .val (.int p3), .val (.int p4), .val (.ref b2), .val (.ref b35), .val (.int I), .val (.int D), .val (.int (1 : Int32)), .val (.int ((lo' - hi) - (1 : Int32))), .val (.int Y)]) rfl ?_
      show Steps p.tables e below (T82.setTop (mkF m 350 #[.val (.int p1), .val (.int p2), .val (.int p3), .val (.int p4), .val (.ref b2), .val (.ref b35), .val (.int I), .val (.int D), .val (.int (1 : Int32)), .val (.int ((lo' - hi) - (1 : Int32))), .val (.int Y)] [])) _
      refine XS.iloadN X82.here hx rfl (hb hby at_350) rfl ?_
      show Steps p.tables e below (T82.setTop (mkF m 351 #[.val (.int p1), .val (.int p2), .val (.int p3), .val (.int p4), .val (.ref b2), .val (.ref b35), .val (.int I), .val (.int D), .val (.int (1 : Int32)), .val (.int ((lo' - hi) - (1 : Int32))), .val (.int Y)] [(.int p4)])) _
      refine XS.bipush X82.here hx rfl (hb hby at_351) ?_
      show Steps p.tables e below (T82.setTop (mkF m 353 #[.val (.int p1), .val (.int p2), .val (.int p3), .val (.int p4), .val (.ref b2), .val (.ref b35), .val (.int I), .val (.int D), .val (.int (1 : Int32)), .val (.int ((lo' - hi) - (1 : Int32))), .val (.int Y)] [(.int (65 : Int32)), (.int p4)])) _
      exact kt
    by_cases hlt : p4 < (65 : Int32)
    · have G84 : ∀ t, Steps p.tables e below (T82.setTop (mkF m 368 #[.val (.int p1), .val (.int p2), .val (.int p3), .val (.int p4), .val (.ref b2), .val (.ref b35), .val (.int I), .val (.int D), .val (.int (1 : Int32)), .val (.int ((lo' - hi) - (1 : Int32))), .val (.int Y)] [(.int p4)])) t → Steps p.tables e below (s₁.setTop (entryFrame m #[(.int p1), (.int p2), (.int p3), (.int p4)] maxLocals)) t := by
        intro t kt
        refine G83 t ?_
        show Steps p.tables e below (T82.setTop (mkF m 353 #[.val (.int p1), .val (.int p2), .val (.int p3), .val (.int p4), .val (.ref b2), .val (.ref b35), .val (.int I), .val (.int D), .val (.int (1 : Int32)), .val (.int ((lo' - hi) - (1 : Int32))), .val (.int Y)] [(.int (65 : Int32)), (.int p4)])) _
        refine XS.icmpYes X82.here hx rfl (pc0 := 353) (pc' := 362) rfl (hb hby at_353) rfl (tlt hlt).1 (by decide) (by decide) ?_
        show Steps p.tables e below (T82.setTop (mkF m 362 #[.val (.int p1), .val (.int p2), .val (.int p3), .val (.int p4), .val (.ref b2), .val (.ref b35), .val (.int I), .val (.int D), .val (.int (1 : Int32)), .val (.int ((lo' - hi) - (1 : Int32))), .val (.int Y)] [])) _
        refine XS.iload X82.here hx rfl (hb hby at_362) rfl ?_
        show Steps p.tables e below (T82.setTop (mkF m 364 #[.val (.int p1), .val (.int p2), .val (.int p3), .val (.int p4), .val (.ref b2), .val (.ref b35), .val (.int I), .val (.int D), .val (.int (1 : Int32)), .val (.int ((lo' - hi) - (1 : Int32))), .val (.int Y)] [(.int (1 : Int32))])) _
        refine XS.ifNo X82.here hx rfl (hb hby at_364) rfl ((if0 _ _).trans (feq (by decide : ¬ ((1 : Int32) = (0 : Int32)))).1) ?_
        show Steps p.tables e below (T82.setTop (mkF m 367 #[.val (.int p1), .val (.int p2), .val (.int p3), .val (.int p4), .val (.ref b2), .val (.ref b35), .val (.int I), .val (.int D), .val (.int (1 : Int32)), .val (.int ((lo' - hi) - (1 : Int32))), .val (.int Y)] [])) _
        refine XS.iloadN X82.here hx rfl (hb hby at_367) rfl ?_
        show Steps p.tables e below (T82.setTop (mkF m 368 #[.val (.int p1), .val (.int p2), .val (.int p3), .val (.int p4), .val (.ref b2), .val (.ref b35), .val (.int I), .val (.int D), .val (.int (1 : Int32)), .val (.int ((lo' - hi) - (1 : Int32))), .val (.int Y)] [(.int p4)])) _
        exact kt
      obtain ⟨_, _, ⟨T85, L85, k85, n85⟩, -, X85, ⟨Lc85, hQ85, l85, y85, z85⟩, st85⟩ := Jvm.LawKit.callS X82 hx (y := (⟨"com/example/sloj/sloj/model/Names", "isNameStart", "(I)Z"⟩ : MethodName)) hown (mvT hZ (hw _ (List.mem_of_getElem? (i := 9) rfl))) (mvT hZ (hw _ (List.mem_of_getElem? (i := 10) rfl))) (mvT hZ (hw _ (List.mem_of_getElem? (i := 11) rfl))) (mvT hZ (hw _ (List.mem_of_getElem? (i := 12) rfl))) (by decide) (backOf (W := 0) (rm1 l Z a0 hw [] p4  h65 n0 Z65 ) hZ (hw _ (List.mem_of_getElem? (i := 12) rfl)) (hw _ (List.mem_of_getElem? (i := 11) rfl)) (by decide) (by decide)) (g := (mkF m 368 #[.val (.int p1), .val (.int p2), .val (.int p3), .val (.int p4), .val (.ref b2), .val (.ref b35), .val (.int I), .val (.int D), .val (.int (1 : Int32)), .val (.int ((lo' - hi) - (1 : Int32))), .val (.int Y)] [(.int p4)])) rfl (by rw [hml]; rfl) (argsL := [(.int p4)]) (rest := []) (lenOf pd_0 rfl) rfl (by show 2 * 0 + _ ≤ _; exact Nat.le_of_eq rfl) (hb hby at_368) (fun _ _ => ⟨rfl, e82, (by decide : 2 + 0 ≤ _), (by decide : 30 + 0 ≤ _)⟩)
      dsimp only [Pt.U, Pt.locs, Pt.cells, Pt.slots] at X85 l85 y85 z85 st85 hQ85
      subst l85 y85 z85
      obtain ⟨rfl, N85q, e85⟩ := hQ85
      have N85 := Fr.app N82 N85q
      have G85 : ∀ t, Steps p.tables e below (T85.setTop (mkF m 371 #[.val (.int p1), .val (.int p2), .val (.int p3), .val (.int p4), .val (.ref b2), .val (.ref b35), .val (.int I), .val (.int D), .val (.int (1 : Int32)), .val (.int ((lo' - hi) - (1 : Int32))), .val (.int Y)] [(.int (g1_0 p4))])) t → Steps p.tables e below (s₁.setTop (entryFrame m #[(.int p1), (.int p2), (.int p3), (.int p4)] maxLocals)) t := fun t kt => G84 t (st85 t kt)
      have G86 : ∀ t, Steps p.tables e below (T85.setTop (mkF m 383 #[.val (.int p1), .val (.int p2), .val (.int p3), .val (.int p4), .val (.ref b2), .val (.ref b35), .val (.int I), .val (.int D), .val (.int (1 : Int32)), .val (.int ((lo' - hi) - (1 : Int32))), .val (.int Y)] [(.int (1 : Int32))])) t → Steps p.tables e below (s₁.setTop (entryFrame m #[(.int p1), (.int p2), (.int p3), (.int p4)] maxLocals)) t := by
        intro t kt
        refine G85 t ?_
        show Steps p.tables e below (T85.setTop (mkF m 371 #[.val (.int p1), .val (.int p2), .val (.int p3), .val (.int p4), .val (.ref b2), .val (.ref b35), .val (.int I), .val (.int D), .val (.int (1 : Int32)), .val (.int ((lo' - hi) - (1 : Int32))), .val (.int Y)] [(.int (g1_0 p4))])) _
        refine XS.ifNo X85.here hx rfl (hb hby at_371) rfl ((if0 _ _).trans (teq (own_out p4 (Or.inl hlt))).2) ?_
        show Steps p.tables e below (T85.setTop (mkF m 374 #[.val (.int p1), .val (.int p2), .val (.int p3), .val (.int p4), .val (.ref b2), .val (.ref b35), .val (.int I), .val (.int D), .val (.int (1 : Int32)), .val (.int ((lo' - hi) - (1 : Int32))), .val (.int Y)] [])) _
        refine XS.iconst X85.here hx rfl (hb hby at_374) ?_
        show Steps p.tables e below (T85.setTop (mkF m 375 #[.val (.int p1), .val (.int p2), .val (.int p3), .val (.int p4), .val (.ref b2), .val (.ref b35), .val (.int I), .val (.int D), .val (.int (1 : Int32)), .val (.int ((lo' - hi) - (1 : Int32))), .val (.int Y)] [(.int (1 : Int32))])) _
        refine XS.goto X85.here hx rfl (pc0 := 375) (pc' := 379) rfl (hb hby at_375) (by decide) (by decide) ?_
        show Steps p.tables e below (T85.setTop (mkF m 379 #[.val (.int p1), .val (.int p2), .val (.int p3), .val (.int p4), .val (.ref b2), .val (.ref b35), .val (.int I), .val (.int D), .val (.int (1 : Int32)), .val (.int ((lo' - hi) - (1 : Int32))), .val (.int Y)] [(.int (1 : Int32))])) _
        refine XS.istore X85.here hx rfl (hb hby at_379) rfl (l' := #[.val (.int p1), .val (.int p2), .val (.int p3), .val (.int p4), .val (.ref b2), .val (.ref b35), .val (.int I), .val (.int D), .val (.int (1 : Int32)), .val (.int ((lo' - hi) - (1 : Int32))), .val (.int Y)]) rfl ?_
        show Steps p.tables e below (T85.setTop (mkF m 381 #[.val (.int p1), .val (.int p2), .val (.int p3), .val (.int p4), .val (.ref b2), .val (.ref b35), .val (.int I), .val (.int D), .val (.int (1 : Int32)), .val (.int ((lo' - hi) - (1 : Int32))), .val (.int Y)] [])) _
        refine XS.iload X85.here hx rfl (hb hby at_381) rfl ?_
        show Steps p.tables e below (T85.setTop (mkF m 383 #[.val (.int p1), .val (.int p2), .val (.int p3), .val (.int p4), .val (.ref b2), .val (.ref b35), .val (.int I), .val (.int D), .val (.int (1 : Int32)), .val (.int ((lo' - hi) - (1 : Int32))), .val (.int Y)] [(.int (1 : Int32))])) _
        exact kt
      obtain ⟨fs, hr, hrun, hended, hW, hsame⟩ := X85.leave (v := some (.int (1 : Int32))) (fun h => by rw [Bd.returns] at h; cases h)
      refine ⟨_, _, G86 _ ?_, hrun, hended, _, _, rfl, ?_, ⟨_, rfl⟩, hW, hsame.mono (by decide) (by decide)⟩
      · show Steps p.tables e below (T85.setTop (mkF m 383 #[.val (.int p1), .val (.int p2), .val (.int p3), .val (.int p4), .val (.ref b2), .val (.ref b35), .val (.int I), .val (.int D), .val (.int (1 : Int32)), .val (.int ((lo' - hi) - (1 : Int32))), .val (.int Y)] [(.int (1 : Int32))])) _
        exact retN X85 hx (t := .boolean) Bd.returns (by simp) (hb hby at_383) hr
      · show Q0 Z p1 p2 p3 p4 h0 n0 _ T85.heap _
        rw [e85]
        exact ⟨rfl, N85⟩
    · have G87 : ∀ t, Steps p.tables e below (T82.setTop (mkF m 359 #[.val (.int p1), .val (.int p2), .val (.int p3), .val (.int p4), .val (.ref b2), .val (.ref b35), .val (.int I), .val (.int D), .val (.int (1 : Int32)), .val (.int ((lo' - hi) - (1 : Int32))), .val (.int Y)] [(.int (983039 : Int32)), (.int p4)])) t → Steps p.tables e below (s₁.setTop (entryFrame m #[(.int p1), (.int p2), (.int p3), (.int p4)] maxLocals)) t := by
        intro t kt
        refine G83 t ?_
        show Steps p.tables e below (T82.setTop (mkF m 353 #[.val (.int p1), .val (.int p2), .val (.int p3), .val (.int p4), .val (.ref b2), .val (.ref b35), .val (.int I), .val (.int D), .val (.int (1 : Int32)), .val (.int ((lo' - hi) - (1 : Int32))), .val (.int Y)] [(.int (65 : Int32)), (.int p4)])) _
        refine XS.icmpNo X82.here hx rfl (hb hby at_353) rfl (flt hlt).1 ?_
        show Steps p.tables e below (T82.setTop (mkF m 356 #[.val (.int p1), .val (.int p2), .val (.int p3), .val (.int p4), .val (.ref b2), .val (.ref b35), .val (.int I), .val (.int D), .val (.int (1 : Int32)), .val (.int ((lo' - hi) - (1 : Int32))), .val (.int Y)] [])) _
        refine XS.iloadN X82.here hx rfl (hb hby at_356) rfl ?_
        show Steps p.tables e below (T82.setTop (mkF m 357 #[.val (.int p1), .val (.int p2), .val (.int p3), .val (.int p4), .val (.ref b2), .val (.ref b35), .val (.int I), .val (.int D), .val (.int (1 : Int32)), .val (.int ((lo' - hi) - (1 : Int32))), .val (.int Y)] [(.int p4)])) _
        refine X82.ldcInt hx hown (mvT hZ (hw _ (List.mem_of_getElem? (i := 7) rfl))) (g := (mkF m 357 #[.val (.int p1), .val (.int p2), .val (.int p3), .val (.int p4), .val (.ref b2), .val (.ref b35), .val (.int I), .val (.int D), .val (.int (1 : Int32)), .val (.int ((lo' - hi) - (1 : Int32))), .val (.int Y)] [(.int p4)])) rfl (hb hby at_357) _ ?_
        show Steps p.tables e below (T82.setTop (mkF m 359 #[.val (.int p1), .val (.int p2), .val (.int p3), .val (.int p4), .val (.ref b2), .val (.ref b35), .val (.int I), .val (.int D), .val (.int (1 : Int32)), .val (.int ((lo' - hi) - (1 : Int32))), .val (.int Y)] [(.int (983039 : Int32)), (.int p4)])) _
        exact kt
      by_cases hgt : (983039 : Int32) < p4
      · have G88 : ∀ t, Steps p.tables e below (T82.setTop (mkF m 368 #[.val (.int p1), .val (.int p2), .val (.int p3), .val (.int p4), .val (.ref b2), .val (.ref b35), .val (.int I), .val (.int D), .val (.int (1 : Int32)), .val (.int ((lo' - hi) - (1 : Int32))), .val (.int Y)] [(.int p4)])) t → Steps p.tables e below (s₁.setTop (entryFrame m #[(.int p1), (.int p2), (.int p3), (.int p4)] maxLocals)) t := by
          intro t kt
          refine G87 t ?_
          show Steps p.tables e below (T82.setTop (mkF m 359 #[.val (.int p1), .val (.int p2), .val (.int p3), .val (.int p4), .val (.ref b2), .val (.ref b35), .val (.int I), .val (.int D), .val (.int (1 : Int32)), .val (.int ((lo' - hi) - (1 : Int32))), .val (.int Y)] [(.int (983039 : Int32)), (.int p4)])) _
          refine XS.icmpNo X82.here hx rfl (hb hby at_359) rfl (tlt hgt).2.2.2 ?_
          show Steps p.tables e below (T82.setTop (mkF m 362 #[.val (.int p1), .val (.int p2), .val (.int p3), .val (.int p4), .val (.ref b2), .val (.ref b35), .val (.int I), .val (.int D), .val (.int (1 : Int32)), .val (.int ((lo' - hi) - (1 : Int32))), .val (.int Y)] [])) _
          refine XS.iload X82.here hx rfl (hb hby at_362) rfl ?_
          show Steps p.tables e below (T82.setTop (mkF m 364 #[.val (.int p1), .val (.int p2), .val (.int p3), .val (.int p4), .val (.ref b2), .val (.ref b35), .val (.int I), .val (.int D), .val (.int (1 : Int32)), .val (.int ((lo' - hi) - (1 : Int32))), .val (.int Y)] [(.int (1 : Int32))])) _
          refine XS.ifNo X82.here hx rfl (hb hby at_364) rfl ((if0 _ _).trans (feq (by decide : ¬ ((1 : Int32) = (0 : Int32)))).1) ?_
          show Steps p.tables e below (T82.setTop (mkF m 367 #[.val (.int p1), .val (.int p2), .val (.int p3), .val (.int p4), .val (.ref b2), .val (.ref b35), .val (.int I), .val (.int D), .val (.int (1 : Int32)), .val (.int ((lo' - hi) - (1 : Int32))), .val (.int Y)] [])) _
          refine XS.iloadN X82.here hx rfl (hb hby at_367) rfl ?_
          show Steps p.tables e below (T82.setTop (mkF m 368 #[.val (.int p1), .val (.int p2), .val (.int p3), .val (.int p4), .val (.ref b2), .val (.ref b35), .val (.int I), .val (.int D), .val (.int (1 : Int32)), .val (.int ((lo' - hi) - (1 : Int32))), .val (.int Y)] [(.int p4)])) _
          exact kt
        obtain ⟨_, _, ⟨T89, L89, k89, n89⟩, -, X89, ⟨Lc89, hQ89, l89, y89, z89⟩, st89⟩ := Jvm.LawKit.callS X82 hx (y := (⟨"com/example/sloj/sloj/model/Names", "isNameStart", "(I)Z"⟩ : MethodName)) hown (mvT hZ (hw _ (List.mem_of_getElem? (i := 9) rfl))) (mvT hZ (hw _ (List.mem_of_getElem? (i := 10) rfl))) (mvT hZ (hw _ (List.mem_of_getElem? (i := 11) rfl))) (mvT hZ (hw _ (List.mem_of_getElem? (i := 12) rfl))) (by decide) (backOf (W := 0) (rm1 l Z a0 hw [] p4  h65 n0 Z65 ) hZ (hw _ (List.mem_of_getElem? (i := 12) rfl)) (hw _ (List.mem_of_getElem? (i := 11) rfl)) (by decide) (by decide)) (g := (mkF m 368 #[.val (.int p1), .val (.int p2), .val (.int p3), .val (.int p4), .val (.ref b2), .val (.ref b35), .val (.int I), .val (.int D), .val (.int (1 : Int32)), .val (.int ((lo' - hi) - (1 : Int32))), .val (.int Y)] [(.int p4)])) rfl (by rw [hml]; rfl) (argsL := [(.int p4)]) (rest := []) (lenOf pd_0 rfl) rfl (by show 2 * 0 + _ ≤ _; exact Nat.le_of_eq rfl) (hb hby at_368) (fun _ _ => ⟨rfl, e82, (by decide : 2 + 0 ≤ _), (by decide : 30 + 0 ≤ _)⟩)
        dsimp only [Pt.U, Pt.locs, Pt.cells, Pt.slots] at X89 l89 y89 z89 st89 hQ89
        subst l89 y89 z89
        obtain ⟨rfl, N89q, e89⟩ := hQ89
        have N89 := Fr.app N82 N89q
        have G89 : ∀ t, Steps p.tables e below (T89.setTop (mkF m 371 #[.val (.int p1), .val (.int p2), .val (.int p3), .val (.int p4), .val (.ref b2), .val (.ref b35), .val (.int I), .val (.int D), .val (.int (1 : Int32)), .val (.int ((lo' - hi) - (1 : Int32))), .val (.int Y)] [(.int (g1_0 p4))])) t → Steps p.tables e below (s₁.setTop (entryFrame m #[(.int p1), (.int p2), (.int p3), (.int p4)] maxLocals)) t := fun t kt => G88 t (st89 t kt)
        have G90 : ∀ t, Steps p.tables e below (T89.setTop (mkF m 383 #[.val (.int p1), .val (.int p2), .val (.int p3), .val (.int p4), .val (.ref b2), .val (.ref b35), .val (.int I), .val (.int D), .val (.int (1 : Int32)), .val (.int ((lo' - hi) - (1 : Int32))), .val (.int Y)] [(.int (1 : Int32))])) t → Steps p.tables e below (s₁.setTop (entryFrame m #[(.int p1), (.int p2), (.int p3), (.int p4)] maxLocals)) t := by
          intro t kt
          refine G89 t ?_
          show Steps p.tables e below (T89.setTop (mkF m 371 #[.val (.int p1), .val (.int p2), .val (.int p3), .val (.int p4), .val (.ref b2), .val (.ref b35), .val (.int I), .val (.int D), .val (.int (1 : Int32)), .val (.int ((lo' - hi) - (1 : Int32))), .val (.int Y)] [(.int (g1_0 p4))])) _
          refine XS.ifNo X89.here hx rfl (hb hby at_371) rfl ((if0 _ _).trans (teq (own_out p4 (Or.inr hgt))).2) ?_
          show Steps p.tables e below (T89.setTop (mkF m 374 #[.val (.int p1), .val (.int p2), .val (.int p3), .val (.int p4), .val (.ref b2), .val (.ref b35), .val (.int I), .val (.int D), .val (.int (1 : Int32)), .val (.int ((lo' - hi) - (1 : Int32))), .val (.int Y)] [])) _
          refine XS.iconst X89.here hx rfl (hb hby at_374) ?_
          show Steps p.tables e below (T89.setTop (mkF m 375 #[.val (.int p1), .val (.int p2), .val (.int p3), .val (.int p4), .val (.ref b2), .val (.ref b35), .val (.int I), .val (.int D), .val (.int (1 : Int32)), .val (.int ((lo' - hi) - (1 : Int32))), .val (.int Y)] [(.int (1 : Int32))])) _
          refine XS.goto X89.here hx rfl (pc0 := 375) (pc' := 379) rfl (hb hby at_375) (by decide) (by decide) ?_
          show Steps p.tables e below (T89.setTop (mkF m 379 #[.val (.int p1), .val (.int p2), .val (.int p3), .val (.int p4), .val (.ref b2), .val (.ref b35), .val (.int I), .val (.int D), .val (.int (1 : Int32)), .val (.int ((lo' - hi) - (1 : Int32))), .val (.int Y)] [(.int (1 : Int32))])) _
          refine XS.istore X89.here hx rfl (hb hby at_379) rfl (l' := #[.val (.int p1), .val (.int p2), .val (.int p3), .val (.int p4), .val (.ref b2), .val (.ref b35), .val (.int I), .val (.int D), .val (.int (1 : Int32)), .val (.int ((lo' - hi) - (1 : Int32))), .val (.int Y)]) rfl ?_
          show Steps p.tables e below (T89.setTop (mkF m 381 #[.val (.int p1), .val (.int p2), .val (.int p3), .val (.int p4), .val (.ref b2), .val (.ref b35), .val (.int I), .val (.int D), .val (.int (1 : Int32)), .val (.int ((lo' - hi) - (1 : Int32))), .val (.int Y)] [])) _
          refine XS.iload X89.here hx rfl (hb hby at_381) rfl ?_
          show Steps p.tables e below (T89.setTop (mkF m 383 #[.val (.int p1), .val (.int p2), .val (.int p3), .val (.int p4), .val (.ref b2), .val (.ref b35), .val (.int I), .val (.int D), .val (.int (1 : Int32)), .val (.int ((lo' - hi) - (1 : Int32))), .val (.int Y)] [(.int (1 : Int32))])) _
          exact kt
        obtain ⟨fs, hr, hrun, hended, hW, hsame⟩ := X89.leave (v := some (.int (1 : Int32))) (fun h => by rw [Bd.returns] at h; cases h)
        refine ⟨_, _, G90 _ ?_, hrun, hended, _, _, rfl, ?_, ⟨_, rfl⟩, hW, hsame.mono (by decide) (by decide)⟩
        · show Steps p.tables e below (T89.setTop (mkF m 383 #[.val (.int p1), .val (.int p2), .val (.int p3), .val (.int p4), .val (.ref b2), .val (.ref b35), .val (.int I), .val (.int D), .val (.int (1 : Int32)), .val (.int ((lo' - hi) - (1 : Int32))), .val (.int Y)] [(.int (1 : Int32))])) _
          exact retN X89 hx (t := .boolean) Bd.returns (by simp) (hb hby at_383) hr
        · show Q0 Z p1 p2 p3 p4 h0 n0 _ T89.heap _
          rw [e89]
          exact ⟨rfl, N89⟩
      · have G91 : ∀ t, Steps p.tables e below (T82.setTop (mkF m 383 #[.val (.int p1), .val (.int p2), .val (.int p3), .val (.int p4), .val (.ref b2), .val (.ref b35), .val (.int I), .val (.int D), .val (.int (1 : Int32)), .val (.int ((lo' - hi) - (1 : Int32))), .val (.int Y)] [(.int (1 : Int32))])) t → Steps p.tables e below (s₁.setTop (entryFrame m #[(.int p1), (.int p2), (.int p3), (.int p4)] maxLocals)) t := by
          intro t kt
          refine G87 t ?_
          show Steps p.tables e below (T82.setTop (mkF m 359 #[.val (.int p1), .val (.int p2), .val (.int p3), .val (.int p4), .val (.ref b2), .val (.ref b35), .val (.int I), .val (.int D), .val (.int (1 : Int32)), .val (.int ((lo' - hi) - (1 : Int32))), .val (.int Y)] [(.int (983039 : Int32)), (.int p4)])) _
          refine XS.icmpYes X82.here hx rfl (pc0 := 359) (pc' := 381) rfl (hb hby at_359) rfl (flt hgt).2.2.2 (by decide) (by decide) ?_
          show Steps p.tables e below (T82.setTop (mkF m 381 #[.val (.int p1), .val (.int p2), .val (.int p3), .val (.int p4), .val (.ref b2), .val (.ref b35), .val (.int I), .val (.int D), .val (.int (1 : Int32)), .val (.int ((lo' - hi) - (1 : Int32))), .val (.int Y)] [])) _
          refine XS.iload X82.here hx rfl (hb hby at_381) rfl ?_
          show Steps p.tables e below (T82.setTop (mkF m 383 #[.val (.int p1), .val (.int p2), .val (.int p3), .val (.int p4), .val (.ref b2), .val (.ref b35), .val (.int I), .val (.int D), .val (.int (1 : Int32)), .val (.int ((lo' - hi) - (1 : Int32))), .val (.int Y)] [(.int (1 : Int32))])) _
          exact kt
        obtain ⟨fs, hr, hrun, hended, hW, hsame⟩ := X82.leave (v := some (.int (1 : Int32))) (fun h => by rw [Bd.returns] at h; cases h)
        refine ⟨_, _, G91 _ ?_, hrun, hended, _, _, rfl, ?_, ⟨_, rfl⟩, hW, hsame.mono (by decide) (by decide)⟩
        · show Steps p.tables e below (T82.setTop (mkF m 383 #[.val (.int p1), .val (.int p2), .val (.int p3), .val (.int p4), .val (.ref b2), .val (.ref b35), .val (.int I), .val (.int D), .val (.int (1 : Int32)), .val (.int ((lo' - hi) - (1 : Int32))), .val (.int Y)] [(.int (1 : Int32))])) _
          exact retN X82 hx (t := .boolean) Bd.returns (by simp) (hb hby at_383) hr
        · show Q0 Z p1 p2 p3 p4 h0 n0 _ T82.heap _
          rw [e82]
          exact ⟨rfl, N82⟩
  · have G92 : ∀ t, Steps p.tables e below (T77.setTop (mkF m 353 #[.val (.int p1), .val (.int p2), .val (.int p3), .val (.int p4), .val (.ref b2), .val (.ref b35), .val (.int I), .val (.int D), .val (.int (1 : Int32)), .unset, .unset] [(.int (65 : Int32)), (.int p4)])) t → Steps p.tables e below (s₁.setTop (entryFrame m #[(.int p1), (.int p2), (.int p3), (.int p4)] maxLocals)) t := by
      intro t kt
      refine G78 t ?_
      show Steps p.tables e below (T77.setTop (mkF m 293 #[.val (.int p1), .val (.int p2), .val (.int p3), .val (.int p4), .val (.ref b2), .val (.ref b35), .val (.int I), .val (.int D), .val (.int (1 : Int32)), .unset, .unset] [(.int (14 : Int32)), (.int I)])) _
      refine XS.icmpYes X77.here hx rfl (pc0 := 293) (pc' := 350) rfl (hb hby at_293) rfl (flt hc).2.1 (by decide) (by decide) ?_
      show Steps p.tables e below (T77.setTop (mkF m 350 #[.val (.int p1), .val (.int p2), .val (.int p3), .val (.int p4), .val (.ref b2), .val (.ref b35), .val (.int I), .val (.int D), .val (.int (1 : Int32)), .unset, .unset] [])) _
      refine XS.iloadN X77.here hx rfl (hb hby at_350) rfl ?_
      show Steps p.tables e below (T77.setTop (mkF m 351 #[.val (.int p1), .val (.int p2), .val (.int p3), .val (.int p4), .val (.ref b2), .val (.ref b35), .val (.int I), .val (.int D), .val (.int (1 : Int32)), .unset, .unset] [(.int p4)])) _
      refine XS.bipush X77.here hx rfl (hb hby at_351) ?_
      show Steps p.tables e below (T77.setTop (mkF m 353 #[.val (.int p1), .val (.int p2), .val (.int p3), .val (.int p4), .val (.ref b2), .val (.ref b35), .val (.int I), .val (.int D), .val (.int (1 : Int32)), .unset, .unset] [(.int (65 : Int32)), (.int p4)])) _
      exact kt
    by_cases hlt : p4 < (65 : Int32)
    · have G93 : ∀ t, Steps p.tables e below (T77.setTop (mkF m 368 #[.val (.int p1), .val (.int p2), .val (.int p3), .val (.int p4), .val (.ref b2), .val (.ref b35), .val (.int I), .val (.int D), .val (.int (1 : Int32)), .unset, .unset] [(.int p4)])) t → Steps p.tables e below (s₁.setTop (entryFrame m #[(.int p1), (.int p2), (.int p3), (.int p4)] maxLocals)) t := by
        intro t kt
        refine G92 t ?_
        show Steps p.tables e below (T77.setTop (mkF m 353 #[.val (.int p1), .val (.int p2), .val (.int p3), .val (.int p4), .val (.ref b2), .val (.ref b35), .val (.int I), .val (.int D), .val (.int (1 : Int32)), .unset, .unset] [(.int (65 : Int32)), (.int p4)])) _
        refine XS.icmpYes X77.here hx rfl (pc0 := 353) (pc' := 362) rfl (hb hby at_353) rfl (tlt hlt).1 (by decide) (by decide) ?_
        show Steps p.tables e below (T77.setTop (mkF m 362 #[.val (.int p1), .val (.int p2), .val (.int p3), .val (.int p4), .val (.ref b2), .val (.ref b35), .val (.int I), .val (.int D), .val (.int (1 : Int32)), .unset, .unset] [])) _
        refine XS.iload X77.here hx rfl (hb hby at_362) rfl ?_
        show Steps p.tables e below (T77.setTop (mkF m 364 #[.val (.int p1), .val (.int p2), .val (.int p3), .val (.int p4), .val (.ref b2), .val (.ref b35), .val (.int I), .val (.int D), .val (.int (1 : Int32)), .unset, .unset] [(.int (1 : Int32))])) _
        refine XS.ifNo X77.here hx rfl (hb hby at_364) rfl ((if0 _ _).trans (feq (by decide : ¬ ((1 : Int32) = (0 : Int32)))).1) ?_
        show Steps p.tables e below (T77.setTop (mkF m 367 #[.val (.int p1), .val (.int p2), .val (.int p3), .val (.int p4), .val (.ref b2), .val (.ref b35), .val (.int I), .val (.int D), .val (.int (1 : Int32)), .unset, .unset] [])) _
        refine XS.iloadN X77.here hx rfl (hb hby at_367) rfl ?_
        show Steps p.tables e below (T77.setTop (mkF m 368 #[.val (.int p1), .val (.int p2), .val (.int p3), .val (.int p4), .val (.ref b2), .val (.ref b35), .val (.int I), .val (.int D), .val (.int (1 : Int32)), .unset, .unset] [(.int p4)])) _
        exact kt
      obtain ⟨_, _, ⟨T94, L94, k94, n94⟩, -, X94, ⟨Lc94, hQ94, l94, y94, z94⟩, st94⟩ := Jvm.LawKit.callS X77 hx (y := (⟨"com/example/sloj/sloj/model/Names", "isNameStart", "(I)Z"⟩ : MethodName)) hown (mvT hZ (hw _ (List.mem_of_getElem? (i := 9) rfl))) (mvT hZ (hw _ (List.mem_of_getElem? (i := 10) rfl))) (mvT hZ (hw _ (List.mem_of_getElem? (i := 11) rfl))) (mvT hZ (hw _ (List.mem_of_getElem? (i := 12) rfl))) (by decide) (backOf (W := 0) (rm1 l Z a0 hw [] p4  h65 n0 Z65 ) hZ (hw _ (List.mem_of_getElem? (i := 12) rfl)) (hw _ (List.mem_of_getElem? (i := 11) rfl)) (by decide) (by decide)) (g := (mkF m 368 #[.val (.int p1), .val (.int p2), .val (.int p3), .val (.int p4), .val (.ref b2), .val (.ref b35), .val (.int I), .val (.int D), .val (.int (1 : Int32)), .unset, .unset] [(.int p4)])) rfl (by rw [hml]; rfl) (argsL := [(.int p4)]) (rest := []) (lenOf pd_0 rfl) rfl (by show 2 * 0 + _ ≤ _; exact Nat.le_of_eq rfl) (hb hby at_368) (fun _ _ => ⟨rfl, e77, (by decide : 2 + 0 ≤ _), (by decide : 30 + 0 ≤ _)⟩)
      dsimp only [Pt.U, Pt.locs, Pt.cells, Pt.slots] at X94 l94 y94 z94 st94 hQ94
      subst l94 y94 z94
      obtain ⟨rfl, N94q, e94⟩ := hQ94
      have N94 := Fr.app N77 N94q
      have G94 : ∀ t, Steps p.tables e below (T94.setTop (mkF m 371 #[.val (.int p1), .val (.int p2), .val (.int p3), .val (.int p4), .val (.ref b2), .val (.ref b35), .val (.int I), .val (.int D), .val (.int (1 : Int32)), .unset, .unset] [(.int (g1_0 p4))])) t → Steps p.tables e below (s₁.setTop (entryFrame m #[(.int p1), (.int p2), (.int p3), (.int p4)] maxLocals)) t := fun t kt => G93 t (st94 t kt)
      have G95 : ∀ t, Steps p.tables e below (T94.setTop (mkF m 383 #[.val (.int p1), .val (.int p2), .val (.int p3), .val (.int p4), .val (.ref b2), .val (.ref b35), .val (.int I), .val (.int D), .val (.int (1 : Int32)), .unset, .unset] [(.int (1 : Int32))])) t → Steps p.tables e below (s₁.setTop (entryFrame m #[(.int p1), (.int p2), (.int p3), (.int p4)] maxLocals)) t := by
        intro t kt
        refine G94 t ?_
        show Steps p.tables e below (T94.setTop (mkF m 371 #[.val (.int p1), .val (.int p2), .val (.int p3), .val (.int p4), .val (.ref b2), .val (.ref b35), .val (.int I), .val (.int D), .val (.int (1 : Int32)), .unset, .unset] [(.int (g1_0 p4))])) _
        refine XS.ifNo X94.here hx rfl (hb hby at_371) rfl ((if0 _ _).trans (teq (own_out p4 (Or.inl hlt))).2) ?_
        show Steps p.tables e below (T94.setTop (mkF m 374 #[.val (.int p1), .val (.int p2), .val (.int p3), .val (.int p4), .val (.ref b2), .val (.ref b35), .val (.int I), .val (.int D), .val (.int (1 : Int32)), .unset, .unset] [])) _
        refine XS.iconst X94.here hx rfl (hb hby at_374) ?_
        show Steps p.tables e below (T94.setTop (mkF m 375 #[.val (.int p1), .val (.int p2), .val (.int p3), .val (.int p4), .val (.ref b2), .val (.ref b35), .val (.int I), .val (.int D), .val (.int (1 : Int32)), .unset, .unset] [(.int (1 : Int32))])) _
        refine XS.goto X94.here hx rfl (pc0 := 375) (pc' := 379) rfl (hb hby at_375) (by decide) (by decide) ?_
        show Steps p.tables e below (T94.setTop (mkF m 379 #[.val (.int p1), .val (.int p2), .val (.int p3), .val (.int p4), .val (.ref b2), .val (.ref b35), .val (.int I), .val (.int D), .val (.int (1 : Int32)), .unset, .unset] [(.int (1 : Int32))])) _
        refine XS.istore X94.here hx rfl (hb hby at_379) rfl (l' := #[.val (.int p1), .val (.int p2), .val (.int p3), .val (.int p4), .val (.ref b2), .val (.ref b35), .val (.int I), .val (.int D), .val (.int (1 : Int32)), .unset, .unset]) rfl ?_
        show Steps p.tables e below (T94.setTop (mkF m 381 #[.val (.int p1), .val (.int p2), .val (.int p3), .val (.int p4), .val (.ref b2), .val (.ref b35), .val (.int I), .val (.int D), .val (.int (1 : Int32)), .unset, .unset] [])) _
        refine XS.iload X94.here hx rfl (hb hby at_381) rfl ?_
        show Steps p.tables e below (T94.setTop (mkF m 383 #[.val (.int p1), .val (.int p2), .val (.int p3), .val (.int p4), .val (.ref b2), .val (.ref b35), .val (.int I), .val (.int D), .val (.int (1 : Int32)), .unset, .unset] [(.int (1 : Int32))])) _
        exact kt
      obtain ⟨fs, hr, hrun, hended, hW, hsame⟩ := X94.leave (v := some (.int (1 : Int32))) (fun h => by rw [Bd.returns] at h; cases h)
      refine ⟨_, _, G95 _ ?_, hrun, hended, _, _, rfl, ?_, ⟨_, rfl⟩, hW, hsame.mono (by decide) (by decide)⟩
      · show Steps p.tables e below (T94.setTop (mkF m 383 #[.val (.int p1), .val (.int p2), .val (.int p3), .val (.int p4), .val (.ref b2), .val (.ref b35), .val (.int I), .val (.int D), .val (.int (1 : Int32)), .unset, .unset] [(.int (1 : Int32))])) _
        exact retN X94 hx (t := .boolean) Bd.returns (by simp) (hb hby at_383) hr
      · show Q0 Z p1 p2 p3 p4 h0 n0 _ T94.heap _
        rw [e94]
        exact ⟨rfl, N94⟩
    · have G96 : ∀ t, Steps p.tables e below (T77.setTop (mkF m 359 #[.val (.int p1), .val (.int p2), .val (.int p3), .val (.int p4), .val (.ref b2), .val (.ref b35), .val (.int I), .val (.int D), .val (.int (1 : Int32)), .unset, .unset] [(.int (983039 : Int32)), (.int p4)])) t → Steps p.tables e below (s₁.setTop (entryFrame m #[(.int p1), (.int p2), (.int p3), (.int p4)] maxLocals)) t := by
        intro t kt
        refine G92 t ?_
        show Steps p.tables e below (T77.setTop (mkF m 353 #[.val (.int p1), .val (.int p2), .val (.int p3), .val (.int p4), .val (.ref b2), .val (.ref b35), .val (.int I), .val (.int D), .val (.int (1 : Int32)), .unset, .unset] [(.int (65 : Int32)), (.int p4)])) _
        refine XS.icmpNo X77.here hx rfl (hb hby at_353) rfl (flt hlt).1 ?_
        show Steps p.tables e below (T77.setTop (mkF m 356 #[.val (.int p1), .val (.int p2), .val (.int p3), .val (.int p4), .val (.ref b2), .val (.ref b35), .val (.int I), .val (.int D), .val (.int (1 : Int32)), .unset, .unset] [])) _
        refine XS.iloadN X77.here hx rfl (hb hby at_356) rfl ?_
        show Steps p.tables e below (T77.setTop (mkF m 357 #[.val (.int p1), .val (.int p2), .val (.int p3), .val (.int p4), .val (.ref b2), .val (.ref b35), .val (.int I), .val (.int D), .val (.int (1 : Int32)), .unset, .unset] [(.int p4)])) _
        refine X77.ldcInt hx hown (mvT hZ (hw _ (List.mem_of_getElem? (i := 7) rfl))) (g := (mkF m 357 #[.val (.int p1), .val (.int p2), .val (.int p3), .val (.int p4), .val (.ref b2), .val (.ref b35), .val (.int I), .val (.int D), .val (.int (1 : Int32)), .unset, .unset] [(.int p4)])) rfl (hb hby at_357) _ ?_
        show Steps p.tables e below (T77.setTop (mkF m 359 #[.val (.int p1), .val (.int p2), .val (.int p3), .val (.int p4), .val (.ref b2), .val (.ref b35), .val (.int I), .val (.int D), .val (.int (1 : Int32)), .unset, .unset] [(.int (983039 : Int32)), (.int p4)])) _
        exact kt
      by_cases hgt : (983039 : Int32) < p4
      · have G97 : ∀ t, Steps p.tables e below (T77.setTop (mkF m 368 #[.val (.int p1), .val (.int p2), .val (.int p3), .val (.int p4), .val (.ref b2), .val (.ref b35), .val (.int I), .val (.int D), .val (.int (1 : Int32)), .unset, .unset] [(.int p4)])) t → Steps p.tables e below (s₁.setTop (entryFrame m #[(.int p1), (.int p2), (.int p3), (.int p4)] maxLocals)) t := by
          intro t kt
          refine G96 t ?_
          show Steps p.tables e below (T77.setTop (mkF m 359 #[.val (.int p1), .val (.int p2), .val (.int p3), .val (.int p4), .val (.ref b2), .val (.ref b35), .val (.int I), .val (.int D), .val (.int (1 : Int32)), .unset, .unset] [(.int (983039 : Int32)), (.int p4)])) _
          refine XS.icmpNo X77.here hx rfl (hb hby at_359) rfl (tlt hgt).2.2.2 ?_
          show Steps p.tables e below (T77.setTop (mkF m 362 #[.val (.int p1), .val (.int p2), .val (.int p3), .val (.int p4), .val (.ref b2), .val (.ref b35), .val (.int I), .val (.int D), .val (.int (1 : Int32)), .unset, .unset] [])) _
          refine XS.iload X77.here hx rfl (hb hby at_362) rfl ?_
          show Steps p.tables e below (T77.setTop (mkF m 364 #[.val (.int p1), .val (.int p2), .val (.int p3), .val (.int p4), .val (.ref b2), .val (.ref b35), .val (.int I), .val (.int D), .val (.int (1 : Int32)), .unset, .unset] [(.int (1 : Int32))])) _
          refine XS.ifNo X77.here hx rfl (hb hby at_364) rfl ((if0 _ _).trans (feq (by decide : ¬ ((1 : Int32) = (0 : Int32)))).1) ?_
          show Steps p.tables e below (T77.setTop (mkF m 367 #[.val (.int p1), .val (.int p2), .val (.int p3), .val (.int p4), .val (.ref b2), .val (.ref b35), .val (.int I), .val (.int D), .val (.int (1 : Int32)), .unset, .unset] [])) _
          refine XS.iloadN X77.here hx rfl (hb hby at_367) rfl ?_
          show Steps p.tables e below (T77.setTop (mkF m 368 #[.val (.int p1), .val (.int p2), .val (.int p3), .val (.int p4), .val (.ref b2), .val (.ref b35), .val (.int I), .val (.int D), .val (.int (1 : Int32)), .unset, .unset] [(.int p4)])) _
          exact kt
        obtain ⟨_, _, ⟨T98, L98, k98, n98⟩, -, X98, ⟨Lc98, hQ98, l98, y98, z98⟩, st98⟩ := Jvm.LawKit.callS X77 hx (y := (⟨"com/example/sloj/sloj/model/Names", "isNameStart", "(I)Z"⟩ : MethodName)) hown (mvT hZ (hw _ (List.mem_of_getElem? (i := 9) rfl))) (mvT hZ (hw _ (List.mem_of_getElem? (i := 10) rfl))) (mvT hZ (hw _ (List.mem_of_getElem? (i := 11) rfl))) (mvT hZ (hw _ (List.mem_of_getElem? (i := 12) rfl))) (by decide) (backOf (W := 0) (rm1 l Z a0 hw [] p4  h65 n0 Z65 ) hZ (hw _ (List.mem_of_getElem? (i := 12) rfl)) (hw _ (List.mem_of_getElem? (i := 11) rfl)) (by decide) (by decide)) (g := (mkF m 368 #[.val (.int p1), .val (.int p2), .val (.int p3), .val (.int p4), .val (.ref b2), .val (.ref b35), .val (.int I), .val (.int D), .val (.int (1 : Int32)), .unset, .unset] [(.int p4)])) rfl (by rw [hml]; rfl) (argsL := [(.int p4)]) (rest := []) (lenOf pd_0 rfl) rfl (by show 2 * 0 + _ ≤ _; exact Nat.le_of_eq rfl) (hb hby at_368) (fun _ _ => ⟨rfl, e77, (by decide : 2 + 0 ≤ _), (by decide : 30 + 0 ≤ _)⟩)
        dsimp only [Pt.U, Pt.locs, Pt.cells, Pt.slots] at X98 l98 y98 z98 st98 hQ98
        subst l98 y98 z98
        obtain ⟨rfl, N98q, e98⟩ := hQ98
        have N98 := Fr.app N77 N98q
        have G98 : ∀ t, Steps p.tables e below (T98.setTop (mkF m 371 #[.val (.int p1), .val (.int p2), .val (.int p3), .val (.int p4), .val (.ref b2), .val (.ref b35), .val (.int I), .val (.int D), .val (.int (1 : Int32)), .unset, .unset] [(.int (g1_0 p4))])) t → Steps p.tables e below (s₁.setTop (entryFrame m #[(.int p1), (.int p2), (.int p3), (.int p4)] maxLocals)) t := fun t kt => G97 t (st98 t kt)
        have G99 : ∀ t, Steps p.tables e below (T98.setTop (mkF m 383 #[.val (.int p1), .val (.int p2), .val (.int p3), .val (.int p4), .val (.ref b2), .val (.ref b35), .val (.int I), .val (.int D), .val (.int (1 : Int32)), .unset, .unset] [(.int (1 : Int32))])) t → Steps p.tables e below (s₁.setTop (entryFrame m #[(.int p1), (.int p2), (.int p3), (.int p4)] maxLocals)) t := by
          intro t kt
          refine G98 t ?_
          show Steps p.tables e below (T98.setTop (mkF m 371 #[.val (.int p1), .val (.int p2), .val (.int p3), .val (.int p4), .val (.ref b2), .val (.ref b35), .val (.int I), .val (.int D), .val (.int (1 : Int32)), .unset, .unset] [(.int (g1_0 p4))])) _
          refine XS.ifNo X98.here hx rfl (hb hby at_371) rfl ((if0 _ _).trans (teq (own_out p4 (Or.inr hgt))).2) ?_
          show Steps p.tables e below (T98.setTop (mkF m 374 #[.val (.int p1), .val (.int p2), .val (.int p3), .val (.int p4), .val (.ref b2), .val (.ref b35), .val (.int I), .val (.int D), .val (.int (1 : Int32)), .unset, .unset] [])) _
          refine XS.iconst X98.here hx rfl (hb hby at_374) ?_
          show Steps p.tables e below (T98.setTop (mkF m 375 #[.val (.int p1), .val (.int p2), .val (.int p3), .val (.int p4), .val (.ref b2), .val (.ref b35), .val (.int I), .val (.int D), .val (.int (1 : Int32)), .unset, .unset] [(.int (1 : Int32))])) _
          refine XS.goto X98.here hx rfl (pc0 := 375) (pc' := 379) rfl (hb hby at_375) (by decide) (by decide) ?_
          show Steps p.tables e below (T98.setTop (mkF m 379 #[.val (.int p1), .val (.int p2), .val (.int p3), .val (.int p4), .val (.ref b2), .val (.ref b35), .val (.int I), .val (.int D), .val (.int (1 : Int32)), .unset, .unset] [(.int (1 : Int32))])) _
          refine XS.istore X98.here hx rfl (hb hby at_379) rfl (l' := #[.val (.int p1), .val (.int p2), .val (.int p3), .val (.int p4), .val (.ref b2), .val (.ref b35), .val (.int I), .val (.int D), .val (.int (1 : Int32)), .unset, .unset]) rfl ?_
          show Steps p.tables e below (T98.setTop (mkF m 381 #[.val (.int p1), .val (.int p2), .val (.int p3), .val (.int p4), .val (.ref b2), .val (.ref b35), .val (.int I), .val (.int D), .val (.int (1 : Int32)), .unset, .unset] [])) _
          refine XS.iload X98.here hx rfl (hb hby at_381) rfl ?_
          show Steps p.tables e below (T98.setTop (mkF m 383 #[.val (.int p1), .val (.int p2), .val (.int p3), .val (.int p4), .val (.ref b2), .val (.ref b35), .val (.int I), .val (.int D), .val (.int (1 : Int32)), .unset, .unset] [(.int (1 : Int32))])) _
          exact kt
        obtain ⟨fs, hr, hrun, hended, hW, hsame⟩ := X98.leave (v := some (.int (1 : Int32))) (fun h => by rw [Bd.returns] at h; cases h)
        refine ⟨_, _, G99 _ ?_, hrun, hended, _, _, rfl, ?_, ⟨_, rfl⟩, hW, hsame.mono (by decide) (by decide)⟩
        · show Steps p.tables e below (T98.setTop (mkF m 383 #[.val (.int p1), .val (.int p2), .val (.int p3), .val (.int p4), .val (.ref b2), .val (.ref b35), .val (.int I), .val (.int D), .val (.int (1 : Int32)), .unset, .unset] [(.int (1 : Int32))])) _
          exact retN X98 hx (t := .boolean) Bd.returns (by simp) (hb hby at_383) hr
        · show Q0 Z p1 p2 p3 p4 h0 n0 _ T98.heap _
          rw [e98]
          exact ⟨rfl, N98⟩
      · have G100 : ∀ t, Steps p.tables e below (T77.setTop (mkF m 383 #[.val (.int p1), .val (.int p2), .val (.int p3), .val (.int p4), .val (.ref b2), .val (.ref b35), .val (.int I), .val (.int D), .val (.int (1 : Int32)), .unset, .unset] [(.int (1 : Int32))])) t → Steps p.tables e below (s₁.setTop (entryFrame m #[(.int p1), (.int p2), (.int p3), (.int p4)] maxLocals)) t := by
          intro t kt
          refine G96 t ?_
          show Steps p.tables e below (T77.setTop (mkF m 359 #[.val (.int p1), .val (.int p2), .val (.int p3), .val (.int p4), .val (.ref b2), .val (.ref b35), .val (.int I), .val (.int D), .val (.int (1 : Int32)), .unset, .unset] [(.int (983039 : Int32)), (.int p4)])) _
          refine XS.icmpYes X77.here hx rfl (pc0 := 359) (pc' := 381) rfl (hb hby at_359) rfl (flt hgt).2.2.2 (by decide) (by decide) ?_
          show Steps p.tables e below (T77.setTop (mkF m 381 #[.val (.int p1), .val (.int p2), .val (.int p3), .val (.int p4), .val (.ref b2), .val (.ref b35), .val (.int I), .val (.int D), .val (.int (1 : Int32)), .unset, .unset] [])) _
          refine XS.iload X77.here hx rfl (hb hby at_381) rfl ?_
          show Steps p.tables e below (T77.setTop (mkF m 383 #[.val (.int p1), .val (.int p2), .val (.int p3), .val (.int p4), .val (.ref b2), .val (.ref b35), .val (.int I), .val (.int D), .val (.int (1 : Int32)), .unset, .unset] [(.int (1 : Int32))])) _
          exact kt
        obtain ⟨fs, hr, hrun, hended, hW, hsame⟩ := X77.leave (v := some (.int (1 : Int32))) (fun h => by rw [Bd.returns] at h; cases h)
        refine ⟨_, _, G100 _ ?_, hrun, hended, _, _, rfl, ?_, ⟨_, rfl⟩, hW, hsame.mono (by decide) (by decide)⟩
        · show Steps p.tables e below (T77.setTop (mkF m 383 #[.val (.int p1), .val (.int p2), .val (.int p3), .val (.int p4), .val (.ref b2), .val (.ref b35), .val (.int I), .val (.int D), .val (.int (1 : Int32)), .unset, .unset] [(.int (1 : Int32))])) _
          exact retN X77 hx (t := .boolean) Bd.returns (by simp) (hb hby at_383) hr
        · show Q0 Z p1 p2 p3 p4 h0 n0 _ T77.heap _
          rw [e77]
          exact ⟨rfl, N77⟩
set_option maxRecDepth 65536 in
set_option maxHeartbeats 40000000 in
theorem comes_1 {Post : Tables → Env → Array Value → State → Outcome → State → Prop} (hpost : ∀ tb e args s v u, (limb_1_1.after args s (.returned v) u = true ∧ limb_1_2.after args s (.returned v) u = true ∧ True) → FrameEnd s (.returned v) u (Jvm.fieldLocs frame_1_writes args s ++ Jvm.arrayLocs frame_1_arrays args s ++ Jvm.staticLocs frame_1_statics s) 16 128 → Post tb e args s (.returned v) u) :
    ArmFor flags0 classFile x code maxLocals ret World_1 tables_1 room_1 Calls_1 rest_1 Pre_1 Post := by
  intro l hfl _ _ p e ha hc hk s m args below hf hA hF happ hP
  obtain ⟨hcalls, hrest, hpre⟩ := hP
  obtain ⟨-, -, -, hnamed, -, -, -, hat⟩ := (Spec.applies_iff hf).mp happ
  obtain ⟨hg, hn⟩ := and_e (Cond.before_iff.mp (show (Jvm.Cond.and given_1 narrow_1).before args s = true from hpre))
  obtain ⟨hcnt, r0⟩ := and_e hg
  obtain ⟨c0, r1⟩ := and_e r0
  obtain ⟨c1, r2⟩ := and_e r1
  obtain ⟨c2, r3⟩ := and_e r2
  obtain ⟨w0, w1, w2, w3, rfl⟩ : ∃ w0 w1 w2 w3 : Value, args = #[w0, w1, w2, w3] := by
    have hs : args.size = 4 := by simpa [Cond.value, given_1] using hcnt
    obtain ⟨L⟩ := args
    match L, hs with
    | [w0, w1, w2, w3], _ => exact ⟨w0, w1, w2, w3, rfl⟩
  have hw := fun d (hd : d ∈ tables_1) => atoms_spec (ws := Jvm.Cond.code x code maxLocals ret :: tables_1) hat d (List.mem_cons_of_mem _ hd)
  obtain ⟨i0, j0⟩ := is_v c0
  obtain rfl : w0 = (.int i0) := Option.some.inj j0
  obtain ⟨i1, j1⟩ := is_v c1
  obtain rfl : w1 = (.int i1) := Option.some.inj j1
  obtain ⟨i2, j2⟩ := is_v c2
  obtain rfl : w2 = (.int i2) := Option.some.inj j2
  obtain ⟨i3, j3⟩ := is_v r3
  obtain rfl : w3 = (.int i3) := Option.some.inj j3
  obtain ⟨n, o, h1, h2, h3, _, L, rfl, ⟨rfl, N⟩, hq⟩ := rm0 l s _ hw tables_1 i0 i1 i2 i3 s.heap s.heap.size (Nat.le_refl _) p e ha hc hk s m _ below hf ((Spec.applies_iff_loose hf).mp happ).1 ⟨rfl, State.Warmed39.refl s, rfl⟩ trivial
  refine ⟨n, _, h1, h2, h3, hpost _ _ _ _ _ _ ⟨Cond.after_iff.mpr rfl, Cond.after_iff.mpr (eq_i res_at (Term.int_eval (1)) rfl), trivial⟩ ⟨hq.1, hq.2.1, (hq.2.2.sift fun y hy => Or.inr (N y hy)).mono (by decide) (by decide)⟩⟩
theorem main_1_1 : Claimed_1_1 := comes_1 fun _ _ _ _ _ _ h hF => ⟨h.1, hF⟩
theorem main_1_2 : Claimed_1_2 := comes_1 fun _ _ _ _ _ _ h hF => ⟨h.2.1, hF⟩
end Jvm.Pilot.@@N@@
namespace Jvm.Pilot.@@N@@
open Jvm Jvm.ClassFile Sem Op Lib Jvm.Free Jvm.Stand Jvm.Pilot.@@N@@.Jvm.D
/-! MADE BY PROGRAM (witnessworld.py) out of the Statement's table words and the real class files: 9 classes; the members and pool entries that the words name. The judged class is class 1, her method 1. -/
namespace start1
open Jvm.ClassFile
def u (s : String) : CpInfo := .utf8 (stringToUtf16 s)
/-- a pool by its gaps: so many unusable entries, then the entry; so many at the end -/
def gap : Nat → List CpInfo → List CpInfo
  | 0, r => r
  | n + 1, r => .unusable :: gap n r
def poolList (es : List (Nat × CpInfo)) (last : Nat) : List CpInfo := es.foldr (fun e r => gap e.1 (e.2 :: r)) (gap last [])
def pool (es : List (Nat × CpInfo)) (last : Nat) : Array CpInfo := ⟨poolList es last⟩
def fileOf (pool : Array CpInfo) (this : Nat) (attrs : Array Attribute := #[]) (ms : Array MethodInfo := #[]) (fl : Nat := 33) (sup : Nat := 0) (ifs : Array Nat := #[]) (fds : Array FieldInfo := #[]) : ClassFile where
  minorVersion := 0
  majorVersion := 65
  constantPool := pool
  accessFlags := fl
  thisClass := this
  superClass := sup
  interfaces := ifs
  fields := fds
  methods := ms
  attributes := attrs
def plain (name : String) (sup : Option ClassId) : Class where
  name := name
  kind := .ordinary
  loader := none
  accessFlags := 33
  super := sup
  interfaces := #[]
  cf := none
  fields := #[]
  methods := #[]
  instanceTypes := #[]
  staticTypes := #[]
  resolved := #[]
  callSites := []
  init := .initialized
  statics := none
  mirror := none

def pool0 : Array CpInfo := pool [(5, u "<init>"), (0, u "()V"), (1, .class_ 10), (1, u "java/lang/Object")] 113

def k0m0 : Method := { name := "<init>", desc := "()V", sig := { parameters := [], returnType := none }, accessFlags := 1, code := none }
/-- java/lang/Object -/
def k0 : Class := { plain "java/lang/Object" none with
  accessFlags := 33
  interfaces := #[]
  cf := some (fileOf pool0 8 #[] #[{ accessFlags := 1, nameIndex := 5, descriptorIndex := 6, attributes := #[] }] 33 0 #[] #[])
  fields := #[]
  methods := #[k0m0]
  instanceTypes := #[]
  staticTypes := #[]
  resolved := Array.replicate 124 none
  statics := none }

def pool1 : Array CpInfo := pool [(2, .class_ 4), (1, u "java/lang/Object"), (0, u "<init>"), (0, u "()V"), (0, .integer 63744), (0, .integer 65008), (0, .integer 65536), (0, .integer 55295), (0, .integer 64975), (0, .integer 65533), (0, .integer 983039), (0, .integer 2147483647), (0, .methodref 16 17), (0, .class_ 18), (0, .nameAndType 19 20), (0, u "com/example/sloj/sloj/model/Names"), (0, u "isNameStart"), (0, u "(I)Z"), (0, .class_ 22), (0, u "com/example/sloj/sloj/model/NamesIsNameStartPinLaw"), (2, u "law"), (0, u "(IIII)Z")] 5

def k1m0 : Method := { name := "<init>", desc := "()V", sig := { parameters := [], returnType := none }, accessFlags := 2, code := none }
def k1c1 : Code := { maxStack := 5, maxLocals := 11, code := code, exceptionTable := #[], attributes := #[] }
def k1m1 : Method := { name := "law", desc := "(IIII)Z", sig := { parameters := [.int, .int, .int, .int], returnType := some .boolean }, accessFlags := 9, code := some k1c1 }
/-- com/example/sloj/sloj/model/NamesIsNameStartPinLaw -/
def k1 : Class := { plain "com/example/sloj/sloj/model/NamesIsNameStartPinLaw" (some 0) with
  accessFlags := 49
  interfaces := #[]
  cf := some (fileOf pool1 21 #[] #[{ accessFlags := 2, nameIndex := 5, descriptorIndex := 6, attributes := #[] }, { accessFlags := 9, nameIndex := 25, descriptorIndex := 26, attributes := #[] }] 49 2 #[] #[])
  fields := #[]
  methods := #[k1m0, k1m1]
  instanceTypes := #[]
  staticTypes := #[]
  resolved := Array.replicate 32 none
  statics := none }

def pool2 : Array CpInfo := pool [(2, .class_ 4), (1, u "java/lang/Object"), (0, u "<init>"), (0, u "()V"), (30, .class_ 39), (1, u "com/example/sloj/sloj/model/Names"), (0, u "isNameStart"), (0, u "(I)Z"), (3, .integer 55295), (0, .integer 63744), (0, .integer 64975), (0, .integer 65008), (0, .integer 65533), (0, .integer 65536), (0, .integer 983039)] 180

def k2m0 : Method := { name := "<init>", desc := "()V", sig := { parameters := [], returnType := none }, accessFlags := 2, code := none }
def k2c1 : Code := { maxStack := 2, maxLocals := 1, code := prog_111_method_4_code, exceptionTable := #[], attributes := #[] }
def k2m1 : Method := { name := "isNameStart", desc := "(I)Z", sig := { parameters := [.int], returnType := some .boolean }, accessFlags := 9, code := some k2c1 }
/-- com/example/sloj/sloj/model/Names -/
def k2 : Class := { plain "com/example/sloj/sloj/model/Names" (some 0) with
  accessFlags := 49
  interfaces := #[]
  cf := some (fileOf pool2 37 #[] #[{ accessFlags := 2, nameIndex := 5, descriptorIndex := 6, attributes := #[] }, { accessFlags := 9, nameIndex := 40, descriptorIndex := 41, attributes := #[] }] 49 2 #[] #[])
  fields := #[]
  methods := #[k2m0, k2m1]
  instanceTypes := #[]
  staticTypes := #[]
  resolved := Array.replicate 232 none
  statics := none }

def pool3 : Array CpInfo := pool [(1, u "java/lang/Cloneable"), (0, .class_ 1), (0, u "java/lang/Object"), (0, .class_ 3)] 3

/-- java/lang/Cloneable -/
def k3 : Class := { plain "java/lang/Cloneable" (some 0) with
  accessFlags := 1537
  interfaces := #[]
  cf := some (fileOf pool3 2 #[] #[] 1537 4 #[] #[])
  fields := #[]
  methods := #[]
  instanceTypes := #[]
  staticTypes := #[]
  resolved := Array.replicate 8 none
  statics := none }

def pool4 : Array CpInfo := pool [(1, u "java/io/Serializable"), (0, .class_ 1), (0, u "java/lang/Object"), (0, .class_ 3)] 3

/-- java/io/Serializable -/
def k4 : Class := { plain "java/io/Serializable" (some 0) with
  accessFlags := 1537
  interfaces := #[]
  cf := some (fileOf pool4 2 #[] #[] 1537 4 #[] #[])
  fields := #[]
  methods := #[]
  instanceTypes := #[]
  staticTypes := #[]
  resolved := Array.replicate 8 none
  statics := none }

/-- the primitive byte -/
def k5 : Class := { plain "byte" none with kind := .primitive 'B', accessFlags := 0x411 }
/-- [B -/
def k6 : Class := { plain "[B" (some 0) with kind := .array 5 .byte, interfaces := #[3, 4], accessFlags := 1041 }

/-- the primitive int -/
def k7 : Class := { plain "int" none with kind := .primitive 'I', accessFlags := 0x411 }
/-- [I -/
def k8 : Class := { plain "[I" (some 0) with kind := .array 7 .int, interfaces := #[3, 4], accessFlags := 1041 }

def heap : Heap := #[]
def classes : Array Class := #[k0, k1, k2, k3, k4, k5, k6, k7, k8]
def interned : List (Array UInt16 × Addr) := []
def slotsUsed : Nat := 0
def theMethod : MethodId := ⟨1, 1⟩
def args0 : Array Value := #[.int 5, .int 6, .int 7, .int 8]
def aboutOver (below : List Frame) : State where
  vm := { classes := classes, interned := interned.toArray }
  heap := heap
  slotsUsed := slotsUsed
  threads := #[{ frames := .invoking theMethod args0 :: below }]
def below0 : List Frame := [.native { method := ⟨0, 0⟩, args := #[] }]
def about1 : State := aboutOver below0
def p0 : Program := .bare "" "" ""
def e0 : Env := launch0.env 0 0 0
theorem w_frames : about1.frames = Frame.invoking theMethod args0 :: below0 := rfl
set_option maxRecDepth 65536 in
theorem w_args : argsFit about1.vm theMethod args0 = true := by decide +kernel
set_option maxRecDepth 65536 in
theorem w_heap : heapFits about1 = true := by decide +kernel
set_option maxRecDepth 65536 in
theorem w_runnable : about1.curStatus? = some .runnable := by decide +kernel
set_option maxRecDepth 65536 in
theorem w_alone : about1.alone = true := by decide +kernel
set_option maxRecDepth 65536 in
theorem w_named : about1.methodNamed? x = some theMethod := by decide +kernel
set_option maxRecDepth 65536 in
theorem w_hears : about1.hears theMethod below0 = true := by decide +kernel
set_option maxRecDepth 65536 in
theorem w_ripe : about1.ripe theMethod args0 below0 = true := by decide +kernel
theorem w_running : about1.status = .running := rfl
set_option maxRecDepth 65536 in
theorem w_room : about1.hasRoom e0.platform room_1 = true :=
  launch0.hasRoom_least _ room_1 (by decide +kernel) (by decide +kernel) (by decide +kernel) (by decide +kernel) (by decide +kernel) (by decide +kernel)
theorem allAtoms_all (ts : List Jvm.Cond) (a : Array Jvm.Value) (st : Jvm.State) : (allAtoms ts).before a st = ts.all (fun c => c.before a st) := by
  induction ts with
  | nil => rfl
  | cons c t ih =>
    show (Jvm.Cond.and c (allAtoms t)).before a st = _
    rw [Jvm.Cond.before_and, ih, List.all_cons]
def words1 : List Jvm.Cond := Jvm.Cond.code x code maxLocals ret :: tables_1
/-- a 'code' word, met by the world's own term for the bytes: nothing is compared byte by byte -/
theorem code_word {y : MethodName} {bytes : ByteArray} {mx : Nat} {rt : Option FieldType} {a : Array Value} {s : State} {m : MethodId} {meth : Method} {c : Code} (h1 : s.methodNamed? y = some m) (h2 : s.vm.method? m = some meth) (h3 : meth.code = some c) (h4 : c.code = bytes)
    (h5 : (c.maxLocals == mx && c.exceptionTable.isEmpty && decide (c.maxStack ≤ mostOperands) && decide (meth.sig.returnType = rt) && !meth.locks && decide (parseMethodDescriptor y.desc = some meth.sig)) = true) : (Jvm.Cond.code y bytes mx rt).before a s = true := by
  simp only [Bool.and_eq_true, beq_iff_eq, Bool.not_eq_true', decide_eq_true_eq] at h5
  obtain ⟨⟨⟨⟨⟨g1, g2⟩, g3⟩, g4⟩, g5⟩, g6⟩ := h5
  simp [Cond.before, Cond.holds, Cond.value, h1, h2, h3, h4, g1, g2, g3, g4, g5, g6]
def isCode : Jvm.Cond → Bool
  | .code _ _ _ _ => true
  | _ => false
theorem all_split {L : List Jvm.Cond} {P : Jvm.Cond → Bool} (h1 : L.all (fun c => isCode c || P c) = true) (h2 : ∀ c ∈ L.filter isCode, P c = true) : L.all P = true := by
  refine List.all_eq_true.mpr fun c hc => ?_
  have h := List.all_eq_true.mp h1 c hc
  rcases Bool.eq_false_or_eq_true (isCode c) with hi | hi
  · exact h2 c (List.mem_filter.mpr ⟨hc, hi⟩)
  · simpa [hi] using h
set_option maxRecDepth 65536 in
theorem w_c0 : (Jvm.Cond.code x code maxLocals ret).before args0 about1 = true := code_word (m := ⟨1, 1⟩) (meth := k1m1) (c := k1c1) (by decide +kernel) rfl rfl rfl (by decide +kernel)
set_option maxRecDepth 65536 in
theorem w_c1 : (Jvm.Cond.code ({ cls := "com/example/sloj/sloj/model/Names", name := "isNameStart", desc := "(I)Z" } : Jvm.MethodName) prog_111_method_4_code (1 : Nat) (Option.some Jvm.ClassFile.FieldType.boolean)).before args0 about1 = true := code_word (m := ⟨2, 1⟩) (meth := k2m1) (c := k2c1) (by decide +kernel) rfl rfl rfl (by decide +kernel)
def codes1 : List Jvm.Cond := [Jvm.Cond.code x code maxLocals ret, Jvm.Cond.code ({ cls := "com/example/sloj/sloj/model/Names", name := "isNameStart", desc := "(I)Z" } : Jvm.MethodName) prog_111_method_4_code (1 : Nat) (Option.some Jvm.ClassFile.FieldType.boolean)]
set_option maxRecDepth 65536 in
theorem codes_eq : words1.filter isCode = codes1 := rfl
theorem w_codes : ∀ c ∈ words1.filter isCode, c.before args0 about1 = true := by
  rw [codes_eq]
  intro c hc
  simp only [codes1, List.mem_cons, List.not_mem_nil, or_false] at hc
  rcases hc with rfl | rfl
  · exact w_c0
  · exact w_c1
set_option maxRecDepth 65536 in
theorem w_t1 : words1.all (fun c => isCode c || c.before args0 about1) = true := by decide +kernel
theorem w_tables : (allAtoms (Jvm.Cond.code x code maxLocals ret :: tables_1)).before args0 about1 = true := by
  rw [allAtoms_all]
  show words1.all (fun c => c.before args0 about1) = true
  refine all_split ?_ w_codes
  rw [w_t1]
set_option maxRecDepth 65536 in
theorem w_case : (Jvm.Cond.and given_1 narrow_1).before args0 about1 = true := by decide +kernel
theorem w_applies : (headSpec (Jvm.Cond.code x code maxLocals ret :: tables_1) room_1).applies x e0.platform about1 = true :=
  (Spec.applies_iff w_frames).mpr ⟨w_running, w_runnable, w_alone, w_named, w_hears, w_ripe, w_room, w_tables⟩
theorem atStart : AtStart classFile x code maxLocals ret World_1 tables_1 room_1 Calls_1 rest_1 Pre_1 launch0 p0 e0 about1 theMethod args0 below0 :=
  ⟨lists_1, trivial, launch0.admits_env _ _ _, launch0.least_env, fairChoices_fair.cas, fairChoices_fair.clock, w_frames, w_args, w_heap, w_applies, trivial, trivial, w_case⟩
end start1
theorem witness_1 : WitnessClaimed_1 := ⟨start1.p0, start1.e0, start1.about1, start1.theMethod, start1.args0, start1.below0, start1.atStart⟩
end Jvm.Pilot.@@N@@
