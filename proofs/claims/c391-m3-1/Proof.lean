import JvmDerived
import JvmDerived.Pilot.@@N@@Statement
import JvmDerived.Pilot.@@N@@Code
set_option linter.unusedVariables false
set_option linter.unusedSimpArgs false
namespace Jvm.RoadKit
open Sem ClassFile Op Lib Jvm.Stand Jvm.Free Jvm.LawKit
section New
variable {p : Program} {l : Launch} {e : Env} {R : Room} {s : State} {m : MethodId} {args : Array Value} {below : List Frame} {meth : Method} {c : Code} {T : State} {locs : List Loc} {cells slots : Nat}
theorem retI (X : Stand p l e R s m args below meth c T locs cells slots) (hx : p.tables.exec = Jvm.exec) {pc : Nat} {Ls : Array Slot} {z : Int32} {rest : List Value} (hret : meth.sig.returnType = some .int) (hd : decode c.code pc = .ok (.ireturn, 1)) {fs : List Frame}
    (hl : ∀ (f : JFrame) (acts : List Action), f.method = m → f.locked = none → f.entered = [] → (doReturn e (T.setTop f) acts (some (.int z))).1 = T.setFrames fs) : Steps p.tables e below (T.setTop (mkF m pc Ls (.int z :: rest))) (T.setFrames fs) := by
  have hm' : T.vm.method? m = some meth := X.method'
  have hn : narrow .int (.int z) = .int z := rfl
  show Steps p.tables e below (T.setTop { method := m, pc := pc, locals := Ls, stack := _ :: rest, locked := none }) _
  jvm_step X.here [X.here.top, hx, hd, hm', hret, hn]
  first | (intro acts; rw [hl _ acts rfl rfl rfl]) | rw [hl _ _ rfl rfl rfl]
  exact Steps.refl _
theorem retJ (X : Stand p l e R s m args below meth c T locs cells slots) (hx : p.tables.exec = Jvm.exec) {pc : Nat} {Ls : Array Slot} {z : Int64} {rest : List Value} (hret : meth.sig.returnType = some .long) (hd : decode c.code pc = .ok (.lreturn, 1)) {fs : List Frame}
    (hl : ∀ (f : JFrame) (acts : List Action), f.method = m → f.locked = none → f.entered = [] → (doReturn e (T.setTop f) acts (some (.long z))).1 = T.setFrames fs) : Steps p.tables e below (T.setTop (mkF m pc Ls (.long z :: rest))) (T.setFrames fs) := by
  have hm' : T.vm.method? m = some meth := X.method'
  have hn : narrow .long (.long z) = .long z := rfl
  show Steps p.tables e below (T.setTop { method := m, pc := pc, locals := Ls, stack := _ :: rest, locked := none }) _
  jvm_step X.here [X.here.top, hx, hd, hm', hret, hn]
  first | (intro acts; rw [hl _ acts rfl rfl rfl]) | rw [hl _ _ rfl rfl rfl]
  exact Steps.refl _
theorem retA (X : Stand p l e R s m args below meth c T locs cells slots) (hx : p.tables.exec = Jvm.exec) {pc : Nat} {Ls : Array Slot} {z : Value} {t : FieldType} {rest : List Value} (hret : meth.sig.returnType = some t) (ht : t.isReference = true) (hz : z.isRef = true) (hd : decode c.code pc = .ok (.areturn, 1)) {fs : List Frame}
    (hl : ∀ (f : JFrame) (acts : List Action), f.method = m → f.locked = none → f.entered = [] → (doReturn e (T.setTop f) acts (some z)).1 = T.setFrames fs) : Steps p.tables e below (T.setTop (mkF m pc Ls (z :: rest))) (T.setFrames fs) := by
  have hm' : T.vm.method? m = some meth := X.method'
  show Steps p.tables e below (T.setTop { method := m, pc := pc, locals := Ls, stack := _ :: rest, locked := none }) _
  jvm_step X.here [X.here.top, hx, hd, hm', hret, ht, hz]
  first | (intro acts; rw [hl _ acts rfl rfl rfl]) | rw [hl _ _ rfl rfl rfl]
  exact Steps.refl _
end New
end Jvm.RoadKit
@@BLOCK:NumsL.lean.txt@@
@@BLOCK:Masks.lean.txt@@
namespace Jvm.Pilot.@@N@@
open Jvm Jvm.ClassFile Sem Op Lib Jvm.Free Jvm.Stand Jvm.LawKit Jvm.RoadKit Bundle Jvm.Pilot.@@N@@.Jvm.D
/-- the run comes from st to an end of which F holds -/
abbrev Go (p : Program) (e : Env) (below : List Frame) (F : Outcome → State → Prop) (st : State) : Prop := ∃ t o, Steps p.tables e below st t ∧ t.status = .running ∧ Ended t below o ∧ F o t
theorem Go.st {p : Program} {e : Env} {below : List Frame} {F : Outcome → State → Prop} {a b : State} (h : ∀ t, Steps p.tables e below b t → Steps p.tables e below a t) (k : Go p e below F b) : Go p e below F a := by
  obtain ⟨t, o, h1, h2⟩ := k
  exact ⟨t, o, h t h1, h2⟩
/-- Java's x % y -/
abbrev jrem (x y : Int32) : Int32 := x - (x / y) * y
abbrev jremL (x y : Int64) : Int64 := x - (x / y) * y
theorem Go.cast {p : Program} {e : Env} {below : List Frame} {F : Outcome → State → Prop} {a b : State} (h : a = b) (k : Go p e below F b) : Go p e below F a := h ▸ k
theorem own_in0 {i z : Int32} (h0 : 0 ≤ i.toInt) (h1 : i.toInt < z.toInt) : ¬ i < 0 ∧ i < z := by
  have c : (0 : Int32).toInt = 0 := by decide
  rw [Int32.lt_iff_toInt_lt, Int32.lt_iff_toInt_lt, c]
  omega
theorem own_addk {p k : Int32} (h0 : 0 ≤ p.toInt) (h2 : p.toInt ≤ 100) (k0 : 0 ≤ k.toInt) (k1 : k.toInt ≤ 8) : (p + k).toInt = p.toInt + k.toInt := Jvm.Kit.i32_add (by omega) (by omega)
theorem own_ink {p z k : Int32} (h0 : 0 ≤ p.toInt) (h2 : z.toInt ≤ 100) (k0 : 0 ≤ k.toInt) (k1 : k.toInt ≤ 8) (hk : p.toInt + k.toInt < z.toInt) : ¬ (p + k) < 0 ∧ (p + k) < z :=
  own_in0 (by rw [own_addk h0 (by omega) k0 k1]; omega) (by rw [own_addk h0 (by omega) k0 k1]; exact hk)
theorem own_room {p z need : Int32} {k : Int} (h0 : 0 ≤ p.toInt) (h1 : p.toInt < z.toInt) (h2 : z.toInt ≤ 100) (h : ¬ (z - p) < need) (a : k < need.toInt) (b : need.toInt ≤ 8) : p.toInt + k < z.toInt := by
  rw [Int32.lt_iff_toInt_lt, Jvm.Kit.i32_sub (by omega) (by omega)] at h
  omega
theorem own_room2 {p z n ln : Int32} {k : Int} (h0 : 0 ≤ p.toInt) (h1 : p.toInt < z.toInt) (h2 : z.toInt ≤ 100) (hn : n = z) (h : ¬ n < (p + ln)) (a : k < ln.toInt) (b : 0 ≤ ln.toInt ∧ ln.toInt ≤ 8) : p.toInt + k < z.toInt := by
  rw [Int32.lt_iff_toInt_lt, own_addk h0 (by omega) b.1 b.2, hn] at h
  omega
theorem own_notm1 {p z k : Int32} (h0 : 0 ≤ p.toInt) (h1 : p.toInt < z.toInt) (h2 : z.toInt ≤ 100) (k0 : 0 ≤ k.toInt) (k1 : k.toInt ≤ 8) : ¬ (p + k) = (-1 : Int32) := fun e => by
  have q := congrArg Int32.toInt e
  rw [own_addk h0 (by omega) k0 k1] at q
  have c : (-1 : Int32).toInt = -1 := by decide
  omega
theorem own_ua {c k : Int32} (h : c < k) : c.toInt ≤ k.toInt - 1 := by rw [Int32.lt_iff_toInt_lt] at h; omega
theorem own_la {c k : Int32} (h : ¬ c < k) : k.toInt ≤ c.toInt := by rw [Int32.lt_iff_toInt_lt] at h; omega
theorem own_lb {c k : Int32} (h : k < c) : k.toInt + 1 ≤ c.toInt := by rw [Int32.lt_iff_toInt_lt] at h; omega
theorem own_ub {c k : Int32} (h : ¬ k < c) : c.toInt ≤ k.toInt := by rw [Int32.lt_iff_toInt_lt] at h; omega
theorem own_le {c k : Int32} (h : c = k) : k.toInt ≤ c.toInt := by rw [h]; omega
theorem own_ue {c k : Int32} (h : c = k) : c.toInt ≤ k.toInt := by rw [h]; omega
theorem own_ta {c k : Int32} {u : Int} (h : c.toInt ≤ u) (hk : u < k.toInt) : c < k := by rw [Int32.lt_iff_toInt_lt]; omega
theorem own_fa {c k : Int32} {u : Int} (h : u ≤ c.toInt) (hk : k.toInt ≤ u) : ¬ c < k := by rw [Int32.lt_iff_toInt_lt]; omega
theorem own_tb {c k : Int32} {u : Int} (h : u ≤ c.toInt) (hk : k.toInt < u) : k < c := by rw [Int32.lt_iff_toInt_lt]; omega
theorem own_fb {c k : Int32} {u : Int} (h : c.toInt ≤ u) (hk : u ≤ k.toInt) : ¬ k < c := by rw [Int32.lt_iff_toInt_lt]; omega
theorem own_fc {c k : Int32} {u : Int} (h : u ≤ c.toInt) (hk : k.toInt < u) : ¬ c = k := fun e => by subst e; omega
theorem own_fd {c k : Int32} {u : Int} (h : c.toInt ≤ u) (hk : u < k.toInt) : ¬ c = k := fun e => by subst e; omega

theorem d4_0 : decode prog_85_method_2_code 0 = .ok (.aload_n 0, 1) := by decide +kernel
theorem d4_1 : decode prog_85_method_2_code 1 = .ok (.iload_n 1, 1) := by decide +kernel
theorem d4_2 : decode prog_85_method_2_code 2 = .ok (.baload, 1) := by decide +kernel
theorem d4_3 : decode prog_85_method_2_code 3 = .ok (.sipush 255, 3) := by decide +kernel
theorem d4_6 : decode prog_85_method_2_code 6 = .ok (.iand, 1) := by decide +kernel
theorem d4_7 : decode prog_85_method_2_code 7 = .ok (.istore_n 2, 1) := by decide +kernel
theorem d4_8 : decode prog_85_method_2_code 8 = .ok (.sipush 128, 3) := by decide +kernel
theorem d4_11 : decode prog_85_method_2_code 11 = .ok (.istore 4, 2) := by decide +kernel
theorem d4_13 : decode prog_85_method_2_code 13 = .ok (.sipush 191, 3) := by decide +kernel
theorem d4_16 : decode prog_85_method_2_code 16 = .ok (.istore 5, 2) := by decide +kernel
theorem d4_18 : decode prog_85_method_2_code 18 = .ok (.iload_n 2, 1) := by decide +kernel
theorem d4_19 : decode prog_85_method_2_code 19 = .ok (.sipush 194, 3) := by decide +kernel
theorem d4_22 : decode prog_85_method_2_code 22 = .ok (.if_icmp .lt 15, 3) := by decide +kernel
theorem d4_25 : decode prog_85_method_2_code 25 = .ok (.iload_n 2, 1) := by decide +kernel
theorem d4_26 : decode prog_85_method_2_code 26 = .ok (.sipush 223, 3) := by decide +kernel
theorem d4_29 : decode prog_85_method_2_code 29 = .ok (.if_icmp .gt 8, 3) := by decide +kernel
theorem d4_32 : decode prog_85_method_2_code 32 = .ok (.iconst 2, 1) := by decide +kernel
theorem d4_33 : decode prog_85_method_2_code 33 = .ok (.istore_n 3, 1) := by decide +kernel
theorem d4_34 : decode prog_85_method_2_code 34 = .ok (.goto 111, 3) := by decide +kernel
theorem d4_37 : decode prog_85_method_2_code 37 = .ok (.iload_n 2, 1) := by decide +kernel
theorem d4_38 : decode prog_85_method_2_code 38 = .ok (.sipush 224, 3) := by decide +kernel
theorem d4_41 : decode prog_85_method_2_code 41 = .ok (.if_icmp .lt 49, 3) := by decide +kernel
theorem d4_44 : decode prog_85_method_2_code 44 = .ok (.iload_n 2, 1) := by decide +kernel
theorem d4_45 : decode prog_85_method_2_code 45 = .ok (.sipush 239, 3) := by decide +kernel
theorem d4_48 : decode prog_85_method_2_code 48 = .ok (.if_icmp .gt 42, 3) := by decide +kernel
theorem d4_51 : decode prog_85_method_2_code 51 = .ok (.iconst 3, 1) := by decide +kernel
theorem d4_52 : decode prog_85_method_2_code 52 = .ok (.istore_n 3, 1) := by decide +kernel
theorem d4_53 : decode prog_85_method_2_code 53 = .ok (.iload_n 2, 1) := by decide +kernel
theorem d4_54 : decode prog_85_method_2_code 54 = .ok (.sipush 224, 3) := by decide +kernel
theorem d4_57 : decode prog_85_method_2_code 57 = .ok (.if_icmp .ne 9, 3) := by decide +kernel
theorem d4_60 : decode prog_85_method_2_code 60 = .ok (.sipush 160, 3) := by decide +kernel
theorem d4_63 : decode prog_85_method_2_code 63 = .ok (.goto 5, 3) := by decide +kernel
theorem d4_66 : decode prog_85_method_2_code 66 = .ok (.iload 4, 2) := by decide +kernel
theorem d4_68 : decode prog_85_method_2_code 68 = .ok (.istore 4, 2) := by decide +kernel
theorem d4_70 : decode prog_85_method_2_code 70 = .ok (.iload_n 2, 1) := by decide +kernel
theorem d4_71 : decode prog_85_method_2_code 71 = .ok (.sipush 237, 3) := by decide +kernel
theorem d4_74 : decode prog_85_method_2_code 74 = .ok (.if_icmp .ne 9, 3) := by decide +kernel
theorem d4_77 : decode prog_85_method_2_code 77 = .ok (.sipush 159, 3) := by decide +kernel
theorem d4_80 : decode prog_85_method_2_code 80 = .ok (.goto 5, 3) := by decide +kernel
theorem d4_83 : decode prog_85_method_2_code 83 = .ok (.iload 5, 2) := by decide +kernel
theorem d4_85 : decode prog_85_method_2_code 85 = .ok (.istore 5, 2) := by decide +kernel
theorem d4_87 : decode prog_85_method_2_code 87 = .ok (.goto 58, 3) := by decide +kernel
theorem d4_90 : decode prog_85_method_2_code 90 = .ok (.iload_n 2, 1) := by decide +kernel
theorem d4_91 : decode prog_85_method_2_code 91 = .ok (.sipush 240, 3) := by decide +kernel
theorem d4_94 : decode prog_85_method_2_code 94 = .ok (.if_icmp .lt 49, 3) := by decide +kernel
theorem d4_97 : decode prog_85_method_2_code 97 = .ok (.iload_n 2, 1) := by decide +kernel
theorem d4_98 : decode prog_85_method_2_code 98 = .ok (.sipush 244, 3) := by decide +kernel
theorem d4_101 : decode prog_85_method_2_code 101 = .ok (.if_icmp .gt 42, 3) := by decide +kernel
theorem d4_104 : decode prog_85_method_2_code 104 = .ok (.iconst 4, 1) := by decide +kernel
theorem d4_105 : decode prog_85_method_2_code 105 = .ok (.istore_n 3, 1) := by decide +kernel
theorem d4_106 : decode prog_85_method_2_code 106 = .ok (.iload_n 2, 1) := by decide +kernel
theorem d4_107 : decode prog_85_method_2_code 107 = .ok (.sipush 240, 3) := by decide +kernel
theorem d4_110 : decode prog_85_method_2_code 110 = .ok (.if_icmp .ne 9, 3) := by decide +kernel
theorem d4_113 : decode prog_85_method_2_code 113 = .ok (.sipush 144, 3) := by decide +kernel
theorem d4_116 : decode prog_85_method_2_code 116 = .ok (.goto 5, 3) := by decide +kernel
theorem d4_119 : decode prog_85_method_2_code 119 = .ok (.iload 4, 2) := by decide +kernel
theorem d4_121 : decode prog_85_method_2_code 121 = .ok (.istore 4, 2) := by decide +kernel
theorem d4_123 : decode prog_85_method_2_code 123 = .ok (.iload_n 2, 1) := by decide +kernel
theorem d4_124 : decode prog_85_method_2_code 124 = .ok (.sipush 244, 3) := by decide +kernel
theorem d4_127 : decode prog_85_method_2_code 127 = .ok (.if_icmp .ne 9, 3) := by decide +kernel
theorem d4_130 : decode prog_85_method_2_code 130 = .ok (.sipush 143, 3) := by decide +kernel
theorem d4_133 : decode prog_85_method_2_code 133 = .ok (.goto 5, 3) := by decide +kernel
theorem d4_136 : decode prog_85_method_2_code 136 = .ok (.iload 5, 2) := by decide +kernel
theorem d4_138 : decode prog_85_method_2_code 138 = .ok (.istore 5, 2) := by decide +kernel
theorem d4_140 : decode prog_85_method_2_code 140 = .ok (.goto 5, 3) := by decide +kernel
theorem d4_143 : decode prog_85_method_2_code 143 = .ok (.iconst (-1), 1) := by decide +kernel
theorem d4_144 : decode prog_85_method_2_code 144 = .ok (.ireturn, 1) := by decide +kernel
theorem d4_145 : decode prog_85_method_2_code 145 = .ok (.aload_n 0, 1) := by decide +kernel
theorem d4_146 : decode prog_85_method_2_code 146 = .ok (.arraylength, 1) := by decide +kernel
theorem d4_147 : decode prog_85_method_2_code 147 = .ok (.iload_n 1, 1) := by decide +kernel
theorem d4_148 : decode prog_85_method_2_code 148 = .ok (.isub, 1) := by decide +kernel
theorem d4_149 : decode prog_85_method_2_code 149 = .ok (.iload_n 3, 1) := by decide +kernel
theorem d4_150 : decode prog_85_method_2_code 150 = .ok (.if_icmp .ge 5, 3) := by decide +kernel
theorem d4_153 : decode prog_85_method_2_code 153 = .ok (.iconst (-1), 1) := by decide +kernel
theorem d4_154 : decode prog_85_method_2_code 154 = .ok (.ireturn, 1) := by decide +kernel
theorem d4_155 : decode prog_85_method_2_code 155 = .ok (.iload_n 1, 1) := by decide +kernel
theorem d4_156 : decode prog_85_method_2_code 156 = .ok (.iload_n 3, 1) := by decide +kernel
theorem d4_157 : decode prog_85_method_2_code 157 = .ok (.iadd, 1) := by decide +kernel
theorem d4_158 : decode prog_85_method_2_code 158 = .ok (.istore 6, 2) := by decide +kernel
theorem d4_160 : decode prog_85_method_2_code 160 = .ok (.iconst 1, 1) := by decide +kernel
theorem d4_161 : decode prog_85_method_2_code 161 = .ok (.istore 7, 2) := by decide +kernel
theorem d4_163 : decode prog_85_method_2_code 163 = .ok (.iload 7, 2) := by decide +kernel
theorem d4_165 : decode prog_85_method_2_code 165 = .ok (.iload_n 3, 1) := by decide +kernel
theorem d4_166 : decode prog_85_method_2_code 166 = .ok (.if_icmp .ge 79, 3) := by decide +kernel
theorem d4_169 : decode prog_85_method_2_code 169 = .ok (.iload 6, 2) := by decide +kernel
theorem d4_171 : decode prog_85_method_2_code 171 = .ok (.iconst (-1), 1) := by decide +kernel
theorem d4_172 : decode prog_85_method_2_code 172 = .ok (.if_icmp .eq 73, 3) := by decide +kernel
theorem d4_175 : decode prog_85_method_2_code 175 = .ok (.aload_n 0, 1) := by decide +kernel
theorem d4_176 : decode prog_85_method_2_code 176 = .ok (.iload_n 1, 1) := by decide +kernel
theorem d4_177 : decode prog_85_method_2_code 177 = .ok (.iload 7, 2) := by decide +kernel
theorem d4_179 : decode prog_85_method_2_code 179 = .ok (.iadd, 1) := by decide +kernel
theorem d4_180 : decode prog_85_method_2_code 180 = .ok (.baload, 1) := by decide +kernel
theorem d4_181 : decode prog_85_method_2_code 181 = .ok (.sipush 255, 3) := by decide +kernel
theorem d4_184 : decode prog_85_method_2_code 184 = .ok (.iand, 1) := by decide +kernel
theorem d4_185 : decode prog_85_method_2_code 185 = .ok (.istore 8, 2) := by decide +kernel
theorem d4_187 : decode prog_85_method_2_code 187 = .ok (.iload 7, 2) := by decide +kernel
theorem d4_189 : decode prog_85_method_2_code 189 = .ok (.iconst 1, 1) := by decide +kernel
theorem d4_190 : decode prog_85_method_2_code 190 = .ok (.if_icmp .ne 7, 3) := by decide +kernel
theorem d4_193 : decode prog_85_method_2_code 193 = .ok (.iconst 1, 1) := by decide +kernel
theorem d4_194 : decode prog_85_method_2_code 194 = .ok (.goto 4, 3) := by decide +kernel
theorem d4_197 : decode prog_85_method_2_code 197 = .ok (.iconst 0, 1) := by decide +kernel
theorem d4_198 : decode prog_85_method_2_code 198 = .ok (.istore 9, 2) := by decide +kernel
theorem d4_200 : decode prog_85_method_2_code 200 = .ok (.iload 8, 2) := by decide +kernel
theorem d4_202 : decode prog_85_method_2_code 202 = .ok (.iload 9, 2) := by decide +kernel
theorem d4_204 : decode prog_85_method_2_code 204 = .ok (.ifCond .eq 8, 3) := by decide +kernel
theorem d4_207 : decode prog_85_method_2_code 207 = .ok (.iload 4, 2) := by decide +kernel
theorem d4_209 : decode prog_85_method_2_code 209 = .ok (.goto 6, 3) := by decide +kernel
theorem d4_212 : decode prog_85_method_2_code 212 = .ok (.sipush 128, 3) := by decide +kernel
theorem d4_215 : decode prog_85_method_2_code 215 = .ok (.if_icmp .lt 21, 3) := by decide +kernel
theorem d4_218 : decode prog_85_method_2_code 218 = .ok (.iload 8, 2) := by decide +kernel
theorem d4_220 : decode prog_85_method_2_code 220 = .ok (.iload 9, 2) := by decide +kernel
theorem d4_222 : decode prog_85_method_2_code 222 = .ok (.ifCond .eq 8, 3) := by decide +kernel
theorem d4_225 : decode prog_85_method_2_code 225 = .ok (.iload 5, 2) := by decide +kernel
theorem d4_227 : decode prog_85_method_2_code 227 = .ok (.goto 6, 3) := by decide +kernel
theorem d4_230 : decode prog_85_method_2_code 230 = .ok (.sipush 191, 3) := by decide +kernel
theorem d4_233 : decode prog_85_method_2_code 233 = .ok (.if_icmp .le 6, 3) := by decide +kernel
theorem d4_236 : decode prog_85_method_2_code 236 = .ok (.iconst (-1), 1) := by decide +kernel
theorem d4_237 : decode prog_85_method_2_code 237 = .ok (.istore 6, 2) := by decide +kernel
theorem d4_239 : decode prog_85_method_2_code 239 = .ok (.iinc 7 1, 3) := by decide +kernel
theorem d4_242 : decode prog_85_method_2_code 242 = .ok (.goto (-79), 3) := by decide +kernel
theorem d4_245 : decode prog_85_method_2_code 245 = .ok (.iload 6, 2) := by decide +kernel
theorem d4_247 : decode prog_85_method_2_code 247 = .ok (.ireturn, 1) := by decide +kernel
theorem pn_4 : plainName "com/example/apportis/apportis/Utf8" = true := by first | (simp [plainName, overriddenIn]; done) | decide +kernel
theorem ef_rmCE (m : MethodId) (a0 : Addr) (p1 : Int32) : entryFrame m #[(.ref a0), (.int p1)] 10 = mkF m 0 #[.val (.ref a0), .val (.int p1), .unset, .unset, .unset, .unset, .unset, .unset, .unset, .unset] [] := by first | (simp [entryFrame, mkF, argsToLocals, Value.category]; done) | rfl
def fT2 (lo hi : Int32) (x0 x1 x2 x3 p1 z : Int32) : Int32 := if (z - p1) < (2 : Int32) then (-1 : Int32) else (if (x1 &&& (255 : Int32)) < lo then (-1 : Int32) else (if hi < (x1 &&& (255 : Int32)) then (-1 : Int32) else (p1 + (2 : Int32))))
def fT3 (lo hi : Int32) (x0 x1 x2 x3 p1 z : Int32) : Int32 := if (z - p1) < (3 : Int32) then (-1 : Int32) else (if (x1 &&& (255 : Int32)) < lo then (-1 : Int32) else (if hi < (x1 &&& (255 : Int32)) then (-1 : Int32) else (if (x2 &&& (255 : Int32)) < (128 : Int32) then (-1 : Int32) else (if (191 : Int32) < (x2 &&& (255 : Int32)) then (-1 : Int32) else (p1 + (3 : Int32))))))
def fT4 (lo hi : Int32) (x0 x1 x2 x3 p1 z : Int32) : Int32 := if (z - p1) < (4 : Int32) then (-1 : Int32) else (if (x1 &&& (255 : Int32)) < lo then (-1 : Int32) else (if hi < (x1 &&& (255 : Int32)) then (-1 : Int32) else (if (x2 &&& (255 : Int32)) < (128 : Int32) then (-1 : Int32) else (if (191 : Int32) < (x2 &&& (255 : Int32)) then (-1 : Int32) else (if (x3 &&& (255 : Int32)) < (128 : Int32) then (-1 : Int32) else (if (191 : Int32) < (x3 &&& (255 : Int32)) then (-1 : Int32) else (p1 + (4 : Int32))))))))
def fCE (x0 x1 x2 x3 p1 z : Int32) : Int32 := if (x0 &&& (255 : Int32)) < (194 : Int32) then (-1 : Int32) else (if (223 : Int32) < (x0 &&& (255 : Int32)) then (if (239 : Int32) < (x0 &&& (255 : Int32)) then (if (244 : Int32) < (x0 &&& (255 : Int32)) then (-1 : Int32) else (if (x0 &&& (255 : Int32)) = (240 : Int32) then (fT4 (144 : Int32) (191 : Int32) x0 x1 x2 x3 p1 z) else (if (x0 &&& (255 : Int32)) = (244 : Int32) then (fT4 (128 : Int32) (143 : Int32) x0 x1 x2 x3 p1 z) else (fT4 (128 : Int32) (191 : Int32) x0 x1 x2 x3 p1 z)))) else (if (x0 &&& (255 : Int32)) = (224 : Int32) then (fT3 (160 : Int32) (191 : Int32) x0 x1 x2 x3 p1 z) else (if (x0 &&& (255 : Int32)) = (237 : Int32) then (fT3 (128 : Int32) (159 : Int32) x0 x1 x2 x3 p1 z) else (fT3 (128 : Int32) (191 : Int32) x0 x1 x2 x3 p1 z)))) else (fT2 (128 : Int32) (191 : Int32) x0 x1 x2 x3 p1 z))
def Q_rmCE (Z : State) (x0 : Int32) (x1 : Int32) (x2 : Int32) (x3 : Int32) (a0 : Addr) (p1 : Int32) (kk : ClassId) (z : Int32) (vs : List Value) (h0 : Heap) (n0 : Nat) (v : Option Value) (h : Heap) (L : List Loc) : Prop := v = some (.int (fCE x0 x1 x2 x3 p1 z)) ∧ Fr n0 L ∧ h = h0
abbrev F_rmCE (Z : State) (x0 : Int32) (x1 : Int32) (x2 : Int32) (x3 : Int32) (a0 : Addr) (p1 : Int32) (kk : ClassId) (z : Int32) (vs : List Value) (h0 : Heap) (n0 : Nat) (s : State) (o : Outcome) (U : State) : Prop := ∃ v L, o = .returned v ∧ Q_rmCE Z x0 x1 x2 x3 a0 p1 kk z vs h0 n0 v U.heap L ∧ FrameEnd s o U L 0 0
set_option maxRecDepth 65536 in
set_option maxHeartbeats 40000000 in
theorem rmCE (l : Launch) (Z : State) (aZ : Array Value) (hw : ∀ d ∈ tables_1, d.before aZ Z = true) (ws : List Jvm.Cond) (x0 : Int32) (x1 : Int32) (x2 : Int32) (x3 : Int32) (a0 : Addr) (p1 : Int32) (kk : ClassId) (z : Int32) (vs : List Value) (h0 : Heap) (n0 : Nat) (hs0 : 0 ≤ p1.toInt) (hs1 : p1.toInt < z.toInt) (hs2 : z.toInt ≤ 100) (he0 : vs.getD p1.toNatClampNeg (.int (0 : Int32)) = .int x0) (he1 : p1.toInt + 1 < z.toInt → vs.getD (p1 + (1 : Int32)).toNatClampNeg (.int (0 : Int32)) = .int x1) (he2 : p1.toInt + 2 < z.toInt → vs.getD (p1 + (2 : Int32)).toNatClampNeg (.int (0 : Int32)) = .int x2) (he3 : p1.toInt + 3 < z.toInt → vs.getD (p1 + (3 : Int32)).toNatClampNeg (.int (0 : Int32)) = .int x3) (V : Arv Z h0 a0 kk .byte z vs (.int (0 : Int32))) :
    MetFree l (⟨"com/example/apportis/apportis/Utf8", "characterEnd", "([BI)I"⟩ : MethodName) (head1 (Jvm.Cond.code (⟨"com/example/apportis/apportis/Utf8", "characterEnd", "([BI)I"⟩ : MethodName) prog_85_method_2_code 10 (some .int) :: ws) ({ frames := 0, cells := 0, slots := 0, locals := 0 } : Room)) (fun a U => a = #[(.ref a0), (.int p1)] ∧ Z.Warmed39 U.vm ∧ U.heap = h0) (fun _ _ _ _ _ => True) (fun _ U o U' => ∃ v L, o = .returned v ∧ Q_rmCE Z x0 x1 x2 x3 a0 p1 kk z vs h0 n0 v U'.heap L ∧ FrameEnd U o U' L 0 0) := by
  refine MetFree.of_bodySF (plainFor_of_name pn_4) hisR ?_
  intro p e s m args below meth c s₁ Bd hml0 hP hK
  obtain ⟨rfl, hZ, hh⟩ := hP
  have hx := Bd.exec
  have hby := Bd.bytes
  have hml : c.maxLocals = 10 := hml0
  have hown : s.vm.findClass "com/example/apportis/apportis/Utf8" = some m.cls := findClass_of_methodNamed Bd.named
  have hnm := (name_of_methodNamed Bd.named Bd.method).1
  have X0 : Stand p l e ({ frames := 0, cells := 0, slots := 0, locals := 0 } : Room) s m #[(.ref a0), (.int p1)] below meth c s₁ [] 0 0 := Stand.of_body Bd
  have e0 : s₁.heap = h0 := by rw [← hh, Bd.state]; rfl
  have N0 := Fr.nil n0
  refine Go.st (fun _ k => castTop (ef_rmCE m a0 p1) k) ?_
  show Go p e below _ (s₁.setTop (mkF m 0 #[.val (.ref a0), .val (.int p1), .unset, .unset, .unset, .unset, .unset, .unset, .unset, .unset] []))
  refine Go.st (fun _ k => XS.aloadN X0.here hx rfl (hb hby d4_0) rfl rfl k) ?_
  refine Go.st (fun _ k => XS.iloadN X0.here hx rfl (hb hby d4_1) rfl k) ?_
  show Go p e below _ (s₁.setTop (mkF m 2 #[.val (.ref a0), .val (.int p1), .unset, .unset, .unset, .unset, .unset, .unset, .unset, .unset] [(.int p1), (.ref a0)]))
  obtain ⟨cl1, Ar1, ck1, Sz1, Nn1, Hs1, Gs1⟩ := id V
  have hin1 : ¬ (p1 < 0 ∨ cl1.slots.size ≤ (p1).toNatClampNeg) := inb_of Sz1 (own_in0 hs0 hs1)
  have hat1 : cl1.slots[(p1).toNatClampNeg]? = some (.int x0) := Hs1.at hin1 he0
  refine Go.st (fun _ k => X0.baloadBytes hx (j := p1) (v := (.int x0)) (by rw [e0]; exact Ar1.1) (State.isArrayOf_alike hZ.alike Ar1.2.1) Ar1.2.2 hin1 hat1 (g := (mkF m 2 #[.val (.ref a0), .val (.int p1), .unset, .unset, .unset, .unset, .unset, .unset, .unset, .unset] [(.int p1), (.ref a0)])) rfl rfl (hb hby d4_2) _ k) ?_
  show Go p e below _ (s₁.setTop (mkF m 3 #[.val (.ref a0), .val (.int p1), .unset, .unset, .unset, .unset, .unset, .unset, .unset, .unset] [(.int x0)]))
  refine Go.st (fun _ k => XS.sipush X0.here hx rfl (hb hby d4_3) k) ?_
  refine Go.st (fun _ k => XS.iand X0.here hx rfl (hb hby d4_6) rfl k) ?_
  show Go p e below _ (s₁.setTop (mkF m 7 #[.val (.ref a0), .val (.int p1), .unset, .unset, .unset, .unset, .unset, .unset, .unset, .unset] [(.int (x0 &&& (255 : Int32)))]))
  refine Go.st (fun _ k => XS.istoreN X0.here hx rfl (hb hby d4_7) rfl (l' := #[.val (.ref a0), .val (.int p1), .val (.int (x0 &&& (255 : Int32))), .unset, .unset, .unset, .unset, .unset, .unset, .unset]) rfl k) ?_
  show Go p e below _ (s₁.setTop (mkF m 8 #[.val (.ref a0), .val (.int p1), .val (.int (x0 &&& (255 : Int32))), .unset, .unset, .unset, .unset, .unset, .unset, .unset] []))
  refine Go.st (fun _ k => XS.sipush X0.here hx rfl (hb hby d4_8) k) ?_
  refine Go.st (fun _ k => XS.istore X0.here hx rfl (hb hby d4_11) rfl (l' := #[.val (.ref a0), .val (.int p1), .val (.int (x0 &&& (255 : Int32))), .unset, .val (.int (128 : Int32)), .unset, .unset, .unset, .unset, .unset]) rfl k) ?_
  show Go p e below _ (s₁.setTop (mkF m 13 #[.val (.ref a0), .val (.int p1), .val (.int (x0 &&& (255 : Int32))), .unset, .val (.int (128 : Int32)), .unset, .unset, .unset, .unset, .unset] []))
  refine Go.st (fun _ k => XS.sipush X0.here hx rfl (hb hby d4_13) k) ?_
  refine Go.st (fun _ k => XS.istore X0.here hx rfl (hb hby d4_16) rfl (l' := #[.val (.ref a0), .val (.int p1), .val (.int (x0 &&& (255 : Int32))), .unset, .val (.int (128 : Int32)), .val (.int (191 : Int32)), .unset, .unset, .unset, .unset]) rfl k) ?_
  show Go p e below _ (s₁.setTop (mkF m 18 #[.val (.ref a0), .val (.int p1), .val (.int (x0 &&& (255 : Int32))), .unset, .val (.int (128 : Int32)), .val (.int (191 : Int32)), .unset, .unset, .unset, .unset] []))
  have key2 : ∀ (lo : Int32) (hi : Int32), (fCE x0 x1 x2 x3 p1 z = fT2 lo hi x0 x1 x2 x3 p1 z) → Go p e below (F_rmCE Z x0 x1 x2 x3 a0 p1 kk z vs h0 n0 s) (s₁.setTop (mkF m 145 #[.val (.ref a0), .val (.int p1), .val (.int (x0 &&& (255 : Int32))), .val (.int (2 : Int32)), .val (.int lo), .val (.int hi), .unset, .unset, .unset, .unset] [])) := by
    intro lo hi hj
    show Go p e below _ (s₁.setTop (mkF m 145 #[.val (.ref a0), .val (.int p1), .val (.int (x0 &&& (255 : Int32))), .val (.int (2 : Int32)), .val (.int lo), .val (.int hi), .unset, .unset, .unset, .unset] []))
    refine Go.st (fun _ k => XS.aloadN X0.here hx rfl (hb hby d4_145) rfl rfl k) ?_
    show Go p e below _ (s₁.setTop (mkF m 146 #[.val (.ref a0), .val (.int p1), .val (.int (x0 &&& (255 : Int32))), .val (.int (2 : Int32)), .val (.int lo), .val (.int hi), .unset, .unset, .unset, .unset] [(.ref a0)]))
    obtain ⟨cl2, Ar2, ck2, Sz2, Nn2, Hs2, Gs2⟩ := id V
    refine Go.st (fun _ k => X0.arraylength hx (by rw [e0]; exact Ar2.1) (State.isArrayOf_alike hZ.alike Ar2.2.1) (g := (mkF m 146 #[.val (.ref a0), .val (.int p1), .val (.int (x0 &&& (255 : Int32))), .val (.int (2 : Int32)), .val (.int lo), .val (.int hi), .unset, .unset, .unset, .unset] [(.ref a0)])) rfl rfl (hb hby d4_146) _ k) ?_
    rw [len_of Sz2 Nn2]
    show Go p e below _ (s₁.setTop (mkF m 147 #[.val (.ref a0), .val (.int p1), .val (.int (x0 &&& (255 : Int32))), .val (.int (2 : Int32)), .val (.int lo), .val (.int hi), .unset, .unset, .unset, .unset] [(.int z)]))
    refine Go.st (fun _ k => XS.iloadN X0.here hx rfl (hb hby d4_147) rfl k) ?_
    refine Go.st (fun _ k => XS.isub X0.here hx rfl (hb hby d4_148) rfl k) ?_
    show Go p e below _ (s₁.setTop (mkF m 149 #[.val (.ref a0), .val (.int p1), .val (.int (x0 &&& (255 : Int32))), .val (.int (2 : Int32)), .val (.int lo), .val (.int hi), .unset, .unset, .unset, .unset] [(.int (z - p1))]))
    refine Go.st (fun _ k => XS.iloadN X0.here hx rfl (hb hby d4_149) rfl k) ?_
    by_cases hc3 : (z - p1) < (2 : Int32)
    · show Go p e below _ (s₁.setTop (mkF m 150 #[.val (.ref a0), .val (.int p1), .val (.int (x0 &&& (255 : Int32))), .val (.int (2 : Int32)), .val (.int lo), .val (.int hi), .unset, .unset, .unset, .unset] [(.int (2 : Int32)), (.int (z - p1))]))
      refine Go.st (fun _ k => XS.icmpNo X0.here hx rfl (hb hby d4_150) rfl (tlt hc3).2.1 k) ?_
      show Go p e below _ (s₁.setTop (mkF m 153 #[.val (.ref a0), .val (.int p1), .val (.int (x0 &&& (255 : Int32))), .val (.int (2 : Int32)), .val (.int lo), .val (.int hi), .unset, .unset, .unset, .unset] []))
      refine Go.st (fun _ k => XS.iconst X0.here hx rfl (hb hby d4_153) k) ?_
      obtain ⟨fs, hr, hrun, hended, hW, hsame⟩ := X0.leave (v := some (.int (-1 : Int32))) (fun h => by rw [Bd.returns] at h; cases h)
      refine ⟨_, _, retI X0 hx Bd.returns (hb hby d4_154) hr, hrun, hended, _, _, rfl, ?_, ⟨_, rfl⟩, hW, hsame.mono (by decide) (by decide)⟩
      show Q_rmCE Z x0 x1 x2 x3 a0 p1 kk z vs h0 n0 _ s₁.heap _
      rw [e0]
      refine ⟨?_, N0, rfl⟩
      rw [hj]
      unfold fT2
      rw [if_pos hc3]
    · show Go p e below _ (s₁.setTop (mkF m 150 #[.val (.ref a0), .val (.int p1), .val (.int (x0 &&& (255 : Int32))), .val (.int (2 : Int32)), .val (.int lo), .val (.int hi), .unset, .unset, .unset, .unset] [(.int (2 : Int32)), (.int (z - p1))]))
      refine Go.st (fun _ k => XS.icmpYes X0.here hx rfl (pc0 := 150) (pc' := 155) rfl (hb hby d4_150) rfl (flt hc3).2.1 (by decide) (by decide) k) ?_
      show Go p e below _ (s₁.setTop (mkF m 155 #[.val (.ref a0), .val (.int p1), .val (.int (x0 &&& (255 : Int32))), .val (.int (2 : Int32)), .val (.int lo), .val (.int hi), .unset, .unset, .unset, .unset] []))
      refine Go.st (fun _ k => XS.iloadN X0.here hx rfl (hb hby d4_155) rfl k) ?_
      refine Go.st (fun _ k => XS.iloadN X0.here hx rfl (hb hby d4_156) rfl k) ?_
      show Go p e below _ (s₁.setTop (mkF m 157 #[.val (.ref a0), .val (.int p1), .val (.int (x0 &&& (255 : Int32))), .val (.int (2 : Int32)), .val (.int lo), .val (.int hi), .unset, .unset, .unset, .unset] [(.int (2 : Int32)), (.int p1)]))
      refine Go.st (fun _ k => XS.iadd X0.here hx rfl (hb hby d4_157) rfl k) ?_
      refine Go.st (fun _ k => XS.istore X0.here hx rfl (hb hby d4_158) rfl (l' := #[.val (.ref a0), .val (.int p1), .val (.int (x0 &&& (255 : Int32))), .val (.int (2 : Int32)), .val (.int lo), .val (.int hi), .val (.int (p1 + (2 : Int32))), .unset, .unset, .unset]) rfl k) ?_
      show Go p e below _ (s₁.setTop (mkF m 160 #[.val (.ref a0), .val (.int p1), .val (.int (x0 &&& (255 : Int32))), .val (.int (2 : Int32)), .val (.int lo), .val (.int hi), .val (.int (p1 + (2 : Int32))), .unset, .unset, .unset] []))
      refine Go.st (fun _ k => XS.iconst X0.here hx rfl (hb hby d4_160) k) ?_
      refine Go.st (fun _ k => XS.istore X0.here hx rfl (hb hby d4_161) rfl (l' := #[.val (.ref a0), .val (.int p1), .val (.int (x0 &&& (255 : Int32))), .val (.int (2 : Int32)), .val (.int lo), .val (.int hi), .val (.int (p1 + (2 : Int32))), .val (.int (1 : Int32)), .unset, .unset]) rfl k) ?_
      show Go p e below _ (s₁.setTop (mkF m 163 #[.val (.ref a0), .val (.int p1), .val (.int (x0 &&& (255 : Int32))), .val (.int (2 : Int32)), .val (.int lo), .val (.int hi), .val (.int (p1 + (2 : Int32))), .val (.int (1 : Int32)), .unset, .unset] []))
      refine Go.st (fun _ k => XS.iload X0.here hx rfl (hb hby d4_163) rfl k) ?_
      refine Go.st (fun _ k => XS.iloadN X0.here hx rfl (hb hby d4_165) rfl k) ?_
      show Go p e below _ (s₁.setTop (mkF m 166 #[.val (.ref a0), .val (.int p1), .val (.int (x0 &&& (255 : Int32))), .val (.int (2 : Int32)), .val (.int lo), .val (.int hi), .val (.int (p1 + (2 : Int32))), .val (.int (1 : Int32)), .unset, .unset] [(.int (2 : Int32)), (.int (1 : Int32))]))
      refine Go.st (fun _ k => XS.icmpNo X0.here hx rfl (hb hby d4_166) rfl (tlt (by decide : ((1 : Int32) < (2 : Int32)))).2.1 k) ?_
      show Go p e below _ (s₁.setTop (mkF m 169 #[.val (.ref a0), .val (.int p1), .val (.int (x0 &&& (255 : Int32))), .val (.int (2 : Int32)), .val (.int lo), .val (.int hi), .val (.int (p1 + (2 : Int32))), .val (.int (1 : Int32)), .unset, .unset] []))
      refine Go.st (fun _ k => XS.iload X0.here hx rfl (hb hby d4_169) rfl k) ?_
      refine Go.st (fun _ k => XS.iconst X0.here hx rfl (hb hby d4_171) k) ?_
      show Go p e below _ (s₁.setTop (mkF m 172 #[.val (.ref a0), .val (.int p1), .val (.int (x0 &&& (255 : Int32))), .val (.int (2 : Int32)), .val (.int lo), .val (.int hi), .val (.int (p1 + (2 : Int32))), .val (.int (1 : Int32)), .unset, .unset] [(.int (-1 : Int32)), (.int (p1 + (2 : Int32)))]))
      refine Go.st (fun _ k => XS.icmpNo X0.here hx rfl (hb hby d4_172) rfl (feq (own_notm1 hs0 hs1 hs2 (by decide) (by decide))).1 k) ?_
      show Go p e below _ (s₁.setTop (mkF m 175 #[.val (.ref a0), .val (.int p1), .val (.int (x0 &&& (255 : Int32))), .val (.int (2 : Int32)), .val (.int lo), .val (.int hi), .val (.int (p1 + (2 : Int32))), .val (.int (1 : Int32)), .unset, .unset] []))
      refine Go.st (fun _ k => XS.aloadN X0.here hx rfl (hb hby d4_175) rfl rfl k) ?_
      refine Go.st (fun _ k => XS.iloadN X0.here hx rfl (hb hby d4_176) rfl k) ?_
      show Go p e below _ (s₁.setTop (mkF m 177 #[.val (.ref a0), .val (.int p1), .val (.int (x0 &&& (255 : Int32))), .val (.int (2 : Int32)), .val (.int lo), .val (.int hi), .val (.int (p1 + (2 : Int32))), .val (.int (1 : Int32)), .unset, .unset] [(.int p1), (.ref a0)]))
      refine Go.st (fun _ k => XS.iload X0.here hx rfl (hb hby d4_177) rfl k) ?_
      refine Go.st (fun _ k => XS.iadd X0.here hx rfl (hb hby d4_179) rfl k) ?_
      show Go p e below _ (s₁.setTop (mkF m 180 #[.val (.ref a0), .val (.int p1), .val (.int (x0 &&& (255 : Int32))), .val (.int (2 : Int32)), .val (.int lo), .val (.int hi), .val (.int (p1 + (2 : Int32))), .val (.int (1 : Int32)), .unset, .unset] [(.int (p1 + (1 : Int32))), (.ref a0)]))
      have hk4 : p1.toInt + 1 < z.toInt := own_room hs0 hs1 hs2 hc3 (by decide) (by decide)
      obtain ⟨cl5, Ar5, ck5, Sz5, Nn5, Hs5, Gs5⟩ := id V
      have hin5 : ¬ ((p1 + (1 : Int32)) < 0 ∨ cl5.slots.size ≤ ((p1 + (1 : Int32))).toNatClampNeg) := inb_of Sz5 (own_ink hs0 hs2 (k := (1 : Int32)) (by decide) (by decide) hk4)
      have hat5 : cl5.slots[((p1 + (1 : Int32))).toNatClampNeg]? = some (.int x1) := Hs5.at hin5 (he1 hk4)
      refine Go.st (fun _ k => X0.baloadBytes hx (j := (p1 + (1 : Int32))) (v := (.int x1)) (by rw [e0]; exact Ar5.1) (State.isArrayOf_alike hZ.alike Ar5.2.1) Ar5.2.2 hin5 hat5 (g := (mkF m 180 #[.val (.ref a0), .val (.int p1), .val (.int (x0 &&& (255 : Int32))), .val (.int (2 : Int32)), .val (.int lo), .val (.int hi), .val (.int (p1 + (2 : Int32))), .val (.int (1 : Int32)), .unset, .unset] [(.int (p1 + (1 : Int32))), (.ref a0)])) rfl rfl (hb hby d4_180) _ k) ?_
      show Go p e below _ (s₁.setTop (mkF m 181 #[.val (.ref a0), .val (.int p1), .val (.int (x0 &&& (255 : Int32))), .val (.int (2 : Int32)), .val (.int lo), .val (.int hi), .val (.int (p1 + (2 : Int32))), .val (.int (1 : Int32)), .unset, .unset] [(.int x1)]))
      refine Go.st (fun _ k => XS.sipush X0.here hx rfl (hb hby d4_181) k) ?_
      refine Go.st (fun _ k => XS.iand X0.here hx rfl (hb hby d4_184) rfl k) ?_
      show Go p e below _ (s₁.setTop (mkF m 185 #[.val (.ref a0), .val (.int p1), .val (.int (x0 &&& (255 : Int32))), .val (.int (2 : Int32)), .val (.int lo), .val (.int hi), .val (.int (p1 + (2 : Int32))), .val (.int (1 : Int32)), .unset, .unset] [(.int (x1 &&& (255 : Int32)))]))
      refine Go.st (fun _ k => XS.istore X0.here hx rfl (hb hby d4_185) rfl (l' := #[.val (.ref a0), .val (.int p1), .val (.int (x0 &&& (255 : Int32))), .val (.int (2 : Int32)), .val (.int lo), .val (.int hi), .val (.int (p1 + (2 : Int32))), .val (.int (1 : Int32)), .val (.int (x1 &&& (255 : Int32))), .unset]) rfl k) ?_
      show Go p e below _ (s₁.setTop (mkF m 187 #[.val (.ref a0), .val (.int p1), .val (.int (x0 &&& (255 : Int32))), .val (.int (2 : Int32)), .val (.int lo), .val (.int hi), .val (.int (p1 + (2 : Int32))), .val (.int (1 : Int32)), .val (.int (x1 &&& (255 : Int32))), .unset] []))
      refine Go.st (fun _ k => XS.iload X0.here hx rfl (hb hby d4_187) rfl k) ?_
      refine Go.st (fun _ k => XS.iconst X0.here hx rfl (hb hby d4_189) k) ?_
      show Go p e below _ (s₁.setTop (mkF m 190 #[.val (.ref a0), .val (.int p1), .val (.int (x0 &&& (255 : Int32))), .val (.int (2 : Int32)), .val (.int lo), .val (.int hi), .val (.int (p1 + (2 : Int32))), .val (.int (1 : Int32)), .val (.int (x1 &&& (255 : Int32))), .unset] [(.int (1 : Int32)), (.int (1 : Int32))]))
      refine Go.st (fun _ k => XS.icmpNo X0.here hx rfl (hb hby d4_190) rfl (teq (by decide : ((1 : Int32) = (1 : Int32)))).2 k) ?_
      show Go p e below _ (s₁.setTop (mkF m 193 #[.val (.ref a0), .val (.int p1), .val (.int (x0 &&& (255 : Int32))), .val (.int (2 : Int32)), .val (.int lo), .val (.int hi), .val (.int (p1 + (2 : Int32))), .val (.int (1 : Int32)), .val (.int (x1 &&& (255 : Int32))), .unset] []))
      refine Go.st (fun _ k => XS.iconst X0.here hx rfl (hb hby d4_193) k) ?_
      refine Go.st (fun _ k => XS.goto X0.here hx rfl (pc0 := 194) (pc' := 198) rfl (hb hby d4_194) (by decide) (by decide) k) ?_
      show Go p e below _ (s₁.setTop (mkF m 198 #[.val (.ref a0), .val (.int p1), .val (.int (x0 &&& (255 : Int32))), .val (.int (2 : Int32)), .val (.int lo), .val (.int hi), .val (.int (p1 + (2 : Int32))), .val (.int (1 : Int32)), .val (.int (x1 &&& (255 : Int32))), .unset] [(.int (1 : Int32))]))
      refine Go.st (fun _ k => XS.istore X0.here hx rfl (hb hby d4_198) rfl (l' := #[.val (.ref a0), .val (.int p1), .val (.int (x0 &&& (255 : Int32))), .val (.int (2 : Int32)), .val (.int lo), .val (.int hi), .val (.int (p1 + (2 : Int32))), .val (.int (1 : Int32)), .val (.int (x1 &&& (255 : Int32))), .val (.int (1 : Int32))]) rfl k) ?_
      show Go p e below _ (s₁.setTop (mkF m 200 #[.val (.ref a0), .val (.int p1), .val (.int (x0 &&& (255 : Int32))), .val (.int (2 : Int32)), .val (.int lo), .val (.int hi), .val (.int (p1 + (2 : Int32))), .val (.int (1 : Int32)), .val (.int (x1 &&& (255 : Int32))), .val (.int (1 : Int32))] []))
      refine Go.st (fun _ k => XS.iload X0.here hx rfl (hb hby d4_200) rfl k) ?_
      refine Go.st (fun _ k => XS.iload X0.here hx rfl (hb hby d4_202) rfl k) ?_
      show Go p e below _ (s₁.setTop (mkF m 204 #[.val (.ref a0), .val (.int p1), .val (.int (x0 &&& (255 : Int32))), .val (.int (2 : Int32)), .val (.int lo), .val (.int hi), .val (.int (p1 + (2 : Int32))), .val (.int (1 : Int32)), .val (.int (x1 &&& (255 : Int32))), .val (.int (1 : Int32))] [(.int (1 : Int32)), (.int (x1 &&& (255 : Int32)))]))
      refine Go.st (fun _ k => XS.ifNo X0.here hx rfl (hb hby d4_204) rfl ((if0 _ _).trans (feq (by decide : ¬ ((1 : Int32) = (0 : Int32)))).1) k) ?_
      show Go p e below _ (s₁.setTop (mkF m 207 #[.val (.ref a0), .val (.int p1), .val (.int (x0 &&& (255 : Int32))), .val (.int (2 : Int32)), .val (.int lo), .val (.int hi), .val (.int (p1 + (2 : Int32))), .val (.int (1 : Int32)), .val (.int (x1 &&& (255 : Int32))), .val (.int (1 : Int32))] [(.int (x1 &&& (255 : Int32)))]))
      refine Go.st (fun _ k => XS.iload X0.here hx rfl (hb hby d4_207) rfl k) ?_
      refine Go.st (fun _ k => XS.goto X0.here hx rfl (pc0 := 209) (pc' := 215) rfl (hb hby d4_209) (by decide) (by decide) k) ?_
      show Go p e below _ (s₁.setTop (mkF m 215 #[.val (.ref a0), .val (.int p1), .val (.int (x0 &&& (255 : Int32))), .val (.int (2 : Int32)), .val (.int lo), .val (.int hi), .val (.int (p1 + (2 : Int32))), .val (.int (1 : Int32)), .val (.int (x1 &&& (255 : Int32))), .val (.int (1 : Int32))] [(.int lo), (.int (x1 &&& (255 : Int32)))]))
      by_cases hc6 : (x1 &&& (255 : Int32)) < lo
      · show Go p e below _ (s₁.setTop (mkF m 215 #[.val (.ref a0), .val (.int p1), .val (.int (x0 &&& (255 : Int32))), .val (.int (2 : Int32)), .val (.int lo), .val (.int hi), .val (.int (p1 + (2 : Int32))), .val (.int (1 : Int32)), .val (.int (x1 &&& (255 : Int32))), .val (.int (1 : Int32))] [(.int lo), (.int (x1 &&& (255 : Int32)))]))
        refine Go.st (fun _ k => XS.icmpYes X0.here hx rfl (pc0 := 215) (pc' := 236) rfl (hb hby d4_215) rfl (tlt hc6).1 (by decide) (by decide) k) ?_
        show Go p e below _ (s₁.setTop (mkF m 236 #[.val (.ref a0), .val (.int p1), .val (.int (x0 &&& (255 : Int32))), .val (.int (2 : Int32)), .val (.int lo), .val (.int hi), .val (.int (p1 + (2 : Int32))), .val (.int (1 : Int32)), .val (.int (x1 &&& (255 : Int32))), .val (.int (1 : Int32))] []))
        refine Go.st (fun _ k => XS.iconst X0.here hx rfl (hb hby d4_236) k) ?_
        refine Go.st (fun _ k => XS.istore X0.here hx rfl (hb hby d4_237) rfl (l' := #[.val (.ref a0), .val (.int p1), .val (.int (x0 &&& (255 : Int32))), .val (.int (2 : Int32)), .val (.int lo), .val (.int hi), .val (.int (-1 : Int32)), .val (.int (1 : Int32)), .val (.int (x1 &&& (255 : Int32))), .val (.int (1 : Int32))]) rfl k) ?_
        show Go p e below _ (s₁.setTop (mkF m 239 #[.val (.ref a0), .val (.int p1), .val (.int (x0 &&& (255 : Int32))), .val (.int (2 : Int32)), .val (.int lo), .val (.int hi), .val (.int (-1 : Int32)), .val (.int (1 : Int32)), .val (.int (x1 &&& (255 : Int32))), .val (.int (1 : Int32))] []))
        refine Go.st (fun _ k => XS.iinc X0.here hx rfl (hb hby d4_239) rfl (l' := #[.val (.ref a0), .val (.int p1), .val (.int (x0 &&& (255 : Int32))), .val (.int (2 : Int32)), .val (.int lo), .val (.int hi), .val (.int (-1 : Int32)), .val (.int (2 : Int32)), .val (.int (x1 &&& (255 : Int32))), .val (.int (1 : Int32))]) rfl k) ?_
        show Go p e below _ (s₁.setTop (mkF m 242 #[.val (.ref a0), .val (.int p1), .val (.int (x0 &&& (255 : Int32))), .val (.int (2 : Int32)), .val (.int lo), .val (.int hi), .val (.int (-1 : Int32)), .val (.int (2 : Int32)), .val (.int (x1 &&& (255 : Int32))), .val (.int (1 : Int32))] []))
        refine Go.st (fun _ k => XS.goto X0.here hx rfl (pc0 := 242) (pc' := 163) rfl (hb hby d4_242) (by decide) (by decide) k) ?_
        show Go p e below _ (s₁.setTop (mkF m 163 #[.val (.ref a0), .val (.int p1), .val (.int (x0 &&& (255 : Int32))), .val (.int (2 : Int32)), .val (.int lo), .val (.int hi), .val (.int (-1 : Int32)), .val (.int (2 : Int32)), .val (.int (x1 &&& (255 : Int32))), .val (.int (1 : Int32))] []))
        refine Go.st (fun _ k => XS.iload X0.here hx rfl (hb hby d4_163) rfl k) ?_
        refine Go.st (fun _ k => XS.iloadN X0.here hx rfl (hb hby d4_165) rfl k) ?_
        show Go p e below _ (s₁.setTop (mkF m 166 #[.val (.ref a0), .val (.int p1), .val (.int (x0 &&& (255 : Int32))), .val (.int (2 : Int32)), .val (.int lo), .val (.int hi), .val (.int (-1 : Int32)), .val (.int (2 : Int32)), .val (.int (x1 &&& (255 : Int32))), .val (.int (1 : Int32))] [(.int (2 : Int32)), (.int (2 : Int32))]))
        refine Go.st (fun _ k => XS.icmpYes X0.here hx rfl (pc0 := 166) (pc' := 245) rfl (hb hby d4_166) rfl (flt (by decide : ¬ ((2 : Int32) < (2 : Int32)))).2.1 (by decide) (by decide) k) ?_
        show Go p e below _ (s₁.setTop (mkF m 245 #[.val (.ref a0), .val (.int p1), .val (.int (x0 &&& (255 : Int32))), .val (.int (2 : Int32)), .val (.int lo), .val (.int hi), .val (.int (-1 : Int32)), .val (.int (2 : Int32)), .val (.int (x1 &&& (255 : Int32))), .val (.int (1 : Int32))] []))
        refine Go.st (fun _ k => XS.iload X0.here hx rfl (hb hby d4_245) rfl k) ?_
        obtain ⟨fs, hr, hrun, hended, hW, hsame⟩ := X0.leave (v := some (.int (-1 : Int32))) (fun h => by rw [Bd.returns] at h; cases h)
        refine ⟨_, _, retI X0 hx Bd.returns (hb hby d4_247) hr, hrun, hended, _, _, rfl, ?_, ⟨_, rfl⟩, hW, hsame.mono (by decide) (by decide)⟩
        show Q_rmCE Z x0 x1 x2 x3 a0 p1 kk z vs h0 n0 _ s₁.heap _
        rw [e0]
        refine ⟨?_, N0, rfl⟩
        rw [hj]
        unfold fT2
        rw [if_neg hc3, if_pos hc6]
      · show Go p e below _ (s₁.setTop (mkF m 215 #[.val (.ref a0), .val (.int p1), .val (.int (x0 &&& (255 : Int32))), .val (.int (2 : Int32)), .val (.int lo), .val (.int hi), .val (.int (p1 + (2 : Int32))), .val (.int (1 : Int32)), .val (.int (x1 &&& (255 : Int32))), .val (.int (1 : Int32))] [(.int lo), (.int (x1 &&& (255 : Int32)))]))
        refine Go.st (fun _ k => XS.icmpNo X0.here hx rfl (hb hby d4_215) rfl (flt hc6).1 k) ?_
        show Go p e below _ (s₁.setTop (mkF m 218 #[.val (.ref a0), .val (.int p1), .val (.int (x0 &&& (255 : Int32))), .val (.int (2 : Int32)), .val (.int lo), .val (.int hi), .val (.int (p1 + (2 : Int32))), .val (.int (1 : Int32)), .val (.int (x1 &&& (255 : Int32))), .val (.int (1 : Int32))] []))
        refine Go.st (fun _ k => XS.iload X0.here hx rfl (hb hby d4_218) rfl k) ?_
        refine Go.st (fun _ k => XS.iload X0.here hx rfl (hb hby d4_220) rfl k) ?_
        show Go p e below _ (s₁.setTop (mkF m 222 #[.val (.ref a0), .val (.int p1), .val (.int (x0 &&& (255 : Int32))), .val (.int (2 : Int32)), .val (.int lo), .val (.int hi), .val (.int (p1 + (2 : Int32))), .val (.int (1 : Int32)), .val (.int (x1 &&& (255 : Int32))), .val (.int (1 : Int32))] [(.int (1 : Int32)), (.int (x1 &&& (255 : Int32)))]))
        refine Go.st (fun _ k => XS.ifNo X0.here hx rfl (hb hby d4_222) rfl ((if0 _ _).trans (feq (by decide : ¬ ((1 : Int32) = (0 : Int32)))).1) k) ?_
        show Go p e below _ (s₁.setTop (mkF m 225 #[.val (.ref a0), .val (.int p1), .val (.int (x0 &&& (255 : Int32))), .val (.int (2 : Int32)), .val (.int lo), .val (.int hi), .val (.int (p1 + (2 : Int32))), .val (.int (1 : Int32)), .val (.int (x1 &&& (255 : Int32))), .val (.int (1 : Int32))] [(.int (x1 &&& (255 : Int32)))]))
        refine Go.st (fun _ k => XS.iload X0.here hx rfl (hb hby d4_225) rfl k) ?_
        refine Go.st (fun _ k => XS.goto X0.here hx rfl (pc0 := 227) (pc' := 233) rfl (hb hby d4_227) (by decide) (by decide) k) ?_
        show Go p e below _ (s₁.setTop (mkF m 233 #[.val (.ref a0), .val (.int p1), .val (.int (x0 &&& (255 : Int32))), .val (.int (2 : Int32)), .val (.int lo), .val (.int hi), .val (.int (p1 + (2 : Int32))), .val (.int (1 : Int32)), .val (.int (x1 &&& (255 : Int32))), .val (.int (1 : Int32))] [(.int hi), (.int (x1 &&& (255 : Int32)))]))
        by_cases hc7 : hi < (x1 &&& (255 : Int32))
        · show Go p e below _ (s₁.setTop (mkF m 233 #[.val (.ref a0), .val (.int p1), .val (.int (x0 &&& (255 : Int32))), .val (.int (2 : Int32)), .val (.int lo), .val (.int hi), .val (.int (p1 + (2 : Int32))), .val (.int (1 : Int32)), .val (.int (x1 &&& (255 : Int32))), .val (.int (1 : Int32))] [(.int hi), (.int (x1 &&& (255 : Int32)))]))
          refine Go.st (fun _ k => XS.icmpNo X0.here hx rfl (hb hby d4_233) rfl (tlt hc7).2.2.2 k) ?_
          show Go p e below _ (s₁.setTop (mkF m 236 #[.val (.ref a0), .val (.int p1), .val (.int (x0 &&& (255 : Int32))), .val (.int (2 : Int32)), .val (.int lo), .val (.int hi), .val (.int (p1 + (2 : Int32))), .val (.int (1 : Int32)), .val (.int (x1 &&& (255 : Int32))), .val (.int (1 : Int32))] []))
          refine Go.st (fun _ k => XS.iconst X0.here hx rfl (hb hby d4_236) k) ?_
          refine Go.st (fun _ k => XS.istore X0.here hx rfl (hb hby d4_237) rfl (l' := #[.val (.ref a0), .val (.int p1), .val (.int (x0 &&& (255 : Int32))), .val (.int (2 : Int32)), .val (.int lo), .val (.int hi), .val (.int (-1 : Int32)), .val (.int (1 : Int32)), .val (.int (x1 &&& (255 : Int32))), .val (.int (1 : Int32))]) rfl k) ?_
          show Go p e below _ (s₁.setTop (mkF m 239 #[.val (.ref a0), .val (.int p1), .val (.int (x0 &&& (255 : Int32))), .val (.int (2 : Int32)), .val (.int lo), .val (.int hi), .val (.int (-1 : Int32)), .val (.int (1 : Int32)), .val (.int (x1 &&& (255 : Int32))), .val (.int (1 : Int32))] []))
          refine Go.st (fun _ k => XS.iinc X0.here hx rfl (hb hby d4_239) rfl (l' := #[.val (.ref a0), .val (.int p1), .val (.int (x0 &&& (255 : Int32))), .val (.int (2 : Int32)), .val (.int lo), .val (.int hi), .val (.int (-1 : Int32)), .val (.int (2 : Int32)), .val (.int (x1 &&& (255 : Int32))), .val (.int (1 : Int32))]) rfl k) ?_
          show Go p e below _ (s₁.setTop (mkF m 242 #[.val (.ref a0), .val (.int p1), .val (.int (x0 &&& (255 : Int32))), .val (.int (2 : Int32)), .val (.int lo), .val (.int hi), .val (.int (-1 : Int32)), .val (.int (2 : Int32)), .val (.int (x1 &&& (255 : Int32))), .val (.int (1 : Int32))] []))
          refine Go.st (fun _ k => XS.goto X0.here hx rfl (pc0 := 242) (pc' := 163) rfl (hb hby d4_242) (by decide) (by decide) k) ?_
          show Go p e below _ (s₁.setTop (mkF m 163 #[.val (.ref a0), .val (.int p1), .val (.int (x0 &&& (255 : Int32))), .val (.int (2 : Int32)), .val (.int lo), .val (.int hi), .val (.int (-1 : Int32)), .val (.int (2 : Int32)), .val (.int (x1 &&& (255 : Int32))), .val (.int (1 : Int32))] []))
          refine Go.st (fun _ k => XS.iload X0.here hx rfl (hb hby d4_163) rfl k) ?_
          refine Go.st (fun _ k => XS.iloadN X0.here hx rfl (hb hby d4_165) rfl k) ?_
          show Go p e below _ (s₁.setTop (mkF m 166 #[.val (.ref a0), .val (.int p1), .val (.int (x0 &&& (255 : Int32))), .val (.int (2 : Int32)), .val (.int lo), .val (.int hi), .val (.int (-1 : Int32)), .val (.int (2 : Int32)), .val (.int (x1 &&& (255 : Int32))), .val (.int (1 : Int32))] [(.int (2 : Int32)), (.int (2 : Int32))]))
          refine Go.st (fun _ k => XS.icmpYes X0.here hx rfl (pc0 := 166) (pc' := 245) rfl (hb hby d4_166) rfl (flt (by decide : ¬ ((2 : Int32) < (2 : Int32)))).2.1 (by decide) (by decide) k) ?_
          show Go p e below _ (s₁.setTop (mkF m 245 #[.val (.ref a0), .val (.int p1), .val (.int (x0 &&& (255 : Int32))), .val (.int (2 : Int32)), .val (.int lo), .val (.int hi), .val (.int (-1 : Int32)), .val (.int (2 : Int32)), .val (.int (x1 &&& (255 : Int32))), .val (.int (1 : Int32))] []))
          refine Go.st (fun _ k => XS.iload X0.here hx rfl (hb hby d4_245) rfl k) ?_
          obtain ⟨fs, hr, hrun, hended, hW, hsame⟩ := X0.leave (v := some (.int (-1 : Int32))) (fun h => by rw [Bd.returns] at h; cases h)
          refine ⟨_, _, retI X0 hx Bd.returns (hb hby d4_247) hr, hrun, hended, _, _, rfl, ?_, ⟨_, rfl⟩, hW, hsame.mono (by decide) (by decide)⟩
          show Q_rmCE Z x0 x1 x2 x3 a0 p1 kk z vs h0 n0 _ s₁.heap _
          rw [e0]
          refine ⟨?_, N0, rfl⟩
          rw [hj]
          unfold fT2
          rw [if_neg hc3, if_neg hc6, if_pos hc7]
        · show Go p e below _ (s₁.setTop (mkF m 233 #[.val (.ref a0), .val (.int p1), .val (.int (x0 &&& (255 : Int32))), .val (.int (2 : Int32)), .val (.int lo), .val (.int hi), .val (.int (p1 + (2 : Int32))), .val (.int (1 : Int32)), .val (.int (x1 &&& (255 : Int32))), .val (.int (1 : Int32))] [(.int hi), (.int (x1 &&& (255 : Int32)))]))
          refine Go.st (fun _ k => XS.icmpYes X0.here hx rfl (pc0 := 233) (pc' := 239) rfl (hb hby d4_233) rfl (flt hc7).2.2.2 (by decide) (by decide) k) ?_
          show Go p e below _ (s₁.setTop (mkF m 239 #[.val (.ref a0), .val (.int p1), .val (.int (x0 &&& (255 : Int32))), .val (.int (2 : Int32)), .val (.int lo), .val (.int hi), .val (.int (p1 + (2 : Int32))), .val (.int (1 : Int32)), .val (.int (x1 &&& (255 : Int32))), .val (.int (1 : Int32))] []))
          refine Go.st (fun _ k => XS.iinc X0.here hx rfl (hb hby d4_239) rfl (l' := #[.val (.ref a0), .val (.int p1), .val (.int (x0 &&& (255 : Int32))), .val (.int (2 : Int32)), .val (.int lo), .val (.int hi), .val (.int (p1 + (2 : Int32))), .val (.int (2 : Int32)), .val (.int (x1 &&& (255 : Int32))), .val (.int (1 : Int32))]) rfl k) ?_
          show Go p e below _ (s₁.setTop (mkF m 242 #[.val (.ref a0), .val (.int p1), .val (.int (x0 &&& (255 : Int32))), .val (.int (2 : Int32)), .val (.int lo), .val (.int hi), .val (.int (p1 + (2 : Int32))), .val (.int (2 : Int32)), .val (.int (x1 &&& (255 : Int32))), .val (.int (1 : Int32))] []))
          refine Go.st (fun _ k => XS.goto X0.here hx rfl (pc0 := 242) (pc' := 163) rfl (hb hby d4_242) (by decide) (by decide) k) ?_
          show Go p e below _ (s₁.setTop (mkF m 163 #[.val (.ref a0), .val (.int p1), .val (.int (x0 &&& (255 : Int32))), .val (.int (2 : Int32)), .val (.int lo), .val (.int hi), .val (.int (p1 + (2 : Int32))), .val (.int (2 : Int32)), .val (.int (x1 &&& (255 : Int32))), .val (.int (1 : Int32))] []))
          refine Go.st (fun _ k => XS.iload X0.here hx rfl (hb hby d4_163) rfl k) ?_
          refine Go.st (fun _ k => XS.iloadN X0.here hx rfl (hb hby d4_165) rfl k) ?_
          show Go p e below _ (s₁.setTop (mkF m 166 #[.val (.ref a0), .val (.int p1), .val (.int (x0 &&& (255 : Int32))), .val (.int (2 : Int32)), .val (.int lo), .val (.int hi), .val (.int (p1 + (2 : Int32))), .val (.int (2 : Int32)), .val (.int (x1 &&& (255 : Int32))), .val (.int (1 : Int32))] [(.int (2 : Int32)), (.int (2 : Int32))]))
          refine Go.st (fun _ k => XS.icmpYes X0.here hx rfl (pc0 := 166) (pc' := 245) rfl (hb hby d4_166) rfl (flt (by decide : ¬ ((2 : Int32) < (2 : Int32)))).2.1 (by decide) (by decide) k) ?_
          show Go p e below _ (s₁.setTop (mkF m 245 #[.val (.ref a0), .val (.int p1), .val (.int (x0 &&& (255 : Int32))), .val (.int (2 : Int32)), .val (.int lo), .val (.int hi), .val (.int (p1 + (2 : Int32))), .val (.int (2 : Int32)), .val (.int (x1 &&& (255 : Int32))), .val (.int (1 : Int32))] []))
          refine Go.st (fun _ k => XS.iload X0.here hx rfl (hb hby d4_245) rfl k) ?_
          obtain ⟨fs, hr, hrun, hended, hW, hsame⟩ := X0.leave (v := some (.int (p1 + (2 : Int32)))) (fun h => by rw [Bd.returns] at h; cases h)
          refine ⟨_, _, retI X0 hx Bd.returns (hb hby d4_247) hr, hrun, hended, _, _, rfl, ?_, ⟨_, rfl⟩, hW, hsame.mono (by decide) (by decide)⟩
          show Q_rmCE Z x0 x1 x2 x3 a0 p1 kk z vs h0 n0 _ s₁.heap _
          rw [e0]
          refine ⟨?_, N0, rfl⟩
          rw [hj]
          unfold fT2
          rw [if_neg hc3, if_neg hc6, if_neg hc7]
  have key3 : ∀ (lo : Int32) (hi : Int32), (fCE x0 x1 x2 x3 p1 z = fT3 lo hi x0 x1 x2 x3 p1 z) → Go p e below (F_rmCE Z x0 x1 x2 x3 a0 p1 kk z vs h0 n0 s) (s₁.setTop (mkF m 145 #[.val (.ref a0), .val (.int p1), .val (.int (x0 &&& (255 : Int32))), .val (.int (3 : Int32)), .val (.int lo), .val (.int hi), .unset, .unset, .unset, .unset] [])) := by
    intro lo hi hj
    show Go p e below _ (s₁.setTop (mkF m 145 #[.val (.ref a0), .val (.int p1), .val (.int (x0 &&& (255 : Int32))), .val (.int (3 : Int32)), .val (.int lo), .val (.int hi), .unset, .unset, .unset, .unset] []))
    refine Go.st (fun _ k => XS.aloadN X0.here hx rfl (hb hby d4_145) rfl rfl k) ?_
    show Go p e below _ (s₁.setTop (mkF m 146 #[.val (.ref a0), .val (.int p1), .val (.int (x0 &&& (255 : Int32))), .val (.int (3 : Int32)), .val (.int lo), .val (.int hi), .unset, .unset, .unset, .unset] [(.ref a0)]))
    obtain ⟨cl8, Ar8, ck8, Sz8, Nn8, Hs8, Gs8⟩ := id V
    refine Go.st (fun _ k => X0.arraylength hx (by rw [e0]; exact Ar8.1) (State.isArrayOf_alike hZ.alike Ar8.2.1) (g := (mkF m 146 #[.val (.ref a0), .val (.int p1), .val (.int (x0 &&& (255 : Int32))), .val (.int (3 : Int32)), .val (.int lo), .val (.int hi), .unset, .unset, .unset, .unset] [(.ref a0)])) rfl rfl (hb hby d4_146) _ k) ?_
    rw [len_of Sz8 Nn8]
    show Go p e below _ (s₁.setTop (mkF m 147 #[.val (.ref a0), .val (.int p1), .val (.int (x0 &&& (255 : Int32))), .val (.int (3 : Int32)), .val (.int lo), .val (.int hi), .unset, .unset, .unset, .unset] [(.int z)]))
    refine Go.st (fun _ k => XS.iloadN X0.here hx rfl (hb hby d4_147) rfl k) ?_
    refine Go.st (fun _ k => XS.isub X0.here hx rfl (hb hby d4_148) rfl k) ?_
    show Go p e below _ (s₁.setTop (mkF m 149 #[.val (.ref a0), .val (.int p1), .val (.int (x0 &&& (255 : Int32))), .val (.int (3 : Int32)), .val (.int lo), .val (.int hi), .unset, .unset, .unset, .unset] [(.int (z - p1))]))
    refine Go.st (fun _ k => XS.iloadN X0.here hx rfl (hb hby d4_149) rfl k) ?_
    by_cases hc9 : (z - p1) < (3 : Int32)
    · show Go p e below _ (s₁.setTop (mkF m 150 #[.val (.ref a0), .val (.int p1), .val (.int (x0 &&& (255 : Int32))), .val (.int (3 : Int32)), .val (.int lo), .val (.int hi), .unset, .unset, .unset, .unset] [(.int (3 : Int32)), (.int (z - p1))]))
      refine Go.st (fun _ k => XS.icmpNo X0.here hx rfl (hb hby d4_150) rfl (tlt hc9).2.1 k) ?_
      show Go p e below _ (s₁.setTop (mkF m 153 #[.val (.ref a0), .val (.int p1), .val (.int (x0 &&& (255 : Int32))), .val (.int (3 : Int32)), .val (.int lo), .val (.int hi), .unset, .unset, .unset, .unset] []))
      refine Go.st (fun _ k => XS.iconst X0.here hx rfl (hb hby d4_153) k) ?_
      obtain ⟨fs, hr, hrun, hended, hW, hsame⟩ := X0.leave (v := some (.int (-1 : Int32))) (fun h => by rw [Bd.returns] at h; cases h)
      refine ⟨_, _, retI X0 hx Bd.returns (hb hby d4_154) hr, hrun, hended, _, _, rfl, ?_, ⟨_, rfl⟩, hW, hsame.mono (by decide) (by decide)⟩
      show Q_rmCE Z x0 x1 x2 x3 a0 p1 kk z vs h0 n0 _ s₁.heap _
      rw [e0]
      refine ⟨?_, N0, rfl⟩
      rw [hj]
      unfold fT3
      rw [if_pos hc9]
    · show Go p e below _ (s₁.setTop (mkF m 150 #[.val (.ref a0), .val (.int p1), .val (.int (x0 &&& (255 : Int32))), .val (.int (3 : Int32)), .val (.int lo), .val (.int hi), .unset, .unset, .unset, .unset] [(.int (3 : Int32)), (.int (z - p1))]))
      refine Go.st (fun _ k => XS.icmpYes X0.here hx rfl (pc0 := 150) (pc' := 155) rfl (hb hby d4_150) rfl (flt hc9).2.1 (by decide) (by decide) k) ?_
      show Go p e below _ (s₁.setTop (mkF m 155 #[.val (.ref a0), .val (.int p1), .val (.int (x0 &&& (255 : Int32))), .val (.int (3 : Int32)), .val (.int lo), .val (.int hi), .unset, .unset, .unset, .unset] []))
      refine Go.st (fun _ k => XS.iloadN X0.here hx rfl (hb hby d4_155) rfl k) ?_
      refine Go.st (fun _ k => XS.iloadN X0.here hx rfl (hb hby d4_156) rfl k) ?_
      show Go p e below _ (s₁.setTop (mkF m 157 #[.val (.ref a0), .val (.int p1), .val (.int (x0 &&& (255 : Int32))), .val (.int (3 : Int32)), .val (.int lo), .val (.int hi), .unset, .unset, .unset, .unset] [(.int (3 : Int32)), (.int p1)]))
      refine Go.st (fun _ k => XS.iadd X0.here hx rfl (hb hby d4_157) rfl k) ?_
      refine Go.st (fun _ k => XS.istore X0.here hx rfl (hb hby d4_158) rfl (l' := #[.val (.ref a0), .val (.int p1), .val (.int (x0 &&& (255 : Int32))), .val (.int (3 : Int32)), .val (.int lo), .val (.int hi), .val (.int (p1 + (3 : Int32))), .unset, .unset, .unset]) rfl k) ?_
      show Go p e below _ (s₁.setTop (mkF m 160 #[.val (.ref a0), .val (.int p1), .val (.int (x0 &&& (255 : Int32))), .val (.int (3 : Int32)), .val (.int lo), .val (.int hi), .val (.int (p1 + (3 : Int32))), .unset, .unset, .unset] []))
      refine Go.st (fun _ k => XS.iconst X0.here hx rfl (hb hby d4_160) k) ?_
      refine Go.st (fun _ k => XS.istore X0.here hx rfl (hb hby d4_161) rfl (l' := #[.val (.ref a0), .val (.int p1), .val (.int (x0 &&& (255 : Int32))), .val (.int (3 : Int32)), .val (.int lo), .val (.int hi), .val (.int (p1 + (3 : Int32))), .val (.int (1 : Int32)), .unset, .unset]) rfl k) ?_
      show Go p e below _ (s₁.setTop (mkF m 163 #[.val (.ref a0), .val (.int p1), .val (.int (x0 &&& (255 : Int32))), .val (.int (3 : Int32)), .val (.int lo), .val (.int hi), .val (.int (p1 + (3 : Int32))), .val (.int (1 : Int32)), .unset, .unset] []))
      refine Go.st (fun _ k => XS.iload X0.here hx rfl (hb hby d4_163) rfl k) ?_
      refine Go.st (fun _ k => XS.iloadN X0.here hx rfl (hb hby d4_165) rfl k) ?_
      show Go p e below _ (s₁.setTop (mkF m 166 #[.val (.ref a0), .val (.int p1), .val (.int (x0 &&& (255 : Int32))), .val (.int (3 : Int32)), .val (.int lo), .val (.int hi), .val (.int (p1 + (3 : Int32))), .val (.int (1 : Int32)), .unset, .unset] [(.int (3 : Int32)), (.int (1 : Int32))]))
      refine Go.st (fun _ k => XS.icmpNo X0.here hx rfl (hb hby d4_166) rfl (tlt (by decide : ((1 : Int32) < (3 : Int32)))).2.1 k) ?_
      show Go p e below _ (s₁.setTop (mkF m 169 #[.val (.ref a0), .val (.int p1), .val (.int (x0 &&& (255 : Int32))), .val (.int (3 : Int32)), .val (.int lo), .val (.int hi), .val (.int (p1 + (3 : Int32))), .val (.int (1 : Int32)), .unset, .unset] []))
      refine Go.st (fun _ k => XS.iload X0.here hx rfl (hb hby d4_169) rfl k) ?_
      refine Go.st (fun _ k => XS.iconst X0.here hx rfl (hb hby d4_171) k) ?_
      show Go p e below _ (s₁.setTop (mkF m 172 #[.val (.ref a0), .val (.int p1), .val (.int (x0 &&& (255 : Int32))), .val (.int (3 : Int32)), .val (.int lo), .val (.int hi), .val (.int (p1 + (3 : Int32))), .val (.int (1 : Int32)), .unset, .unset] [(.int (-1 : Int32)), (.int (p1 + (3 : Int32)))]))
      refine Go.st (fun _ k => XS.icmpNo X0.here hx rfl (hb hby d4_172) rfl (feq (own_notm1 hs0 hs1 hs2 (by decide) (by decide))).1 k) ?_
      show Go p e below _ (s₁.setTop (mkF m 175 #[.val (.ref a0), .val (.int p1), .val (.int (x0 &&& (255 : Int32))), .val (.int (3 : Int32)), .val (.int lo), .val (.int hi), .val (.int (p1 + (3 : Int32))), .val (.int (1 : Int32)), .unset, .unset] []))
      refine Go.st (fun _ k => XS.aloadN X0.here hx rfl (hb hby d4_175) rfl rfl k) ?_
      refine Go.st (fun _ k => XS.iloadN X0.here hx rfl (hb hby d4_176) rfl k) ?_
      show Go p e below _ (s₁.setTop (mkF m 177 #[.val (.ref a0), .val (.int p1), .val (.int (x0 &&& (255 : Int32))), .val (.int (3 : Int32)), .val (.int lo), .val (.int hi), .val (.int (p1 + (3 : Int32))), .val (.int (1 : Int32)), .unset, .unset] [(.int p1), (.ref a0)]))
      refine Go.st (fun _ k => XS.iload X0.here hx rfl (hb hby d4_177) rfl k) ?_
      refine Go.st (fun _ k => XS.iadd X0.here hx rfl (hb hby d4_179) rfl k) ?_
      show Go p e below _ (s₁.setTop (mkF m 180 #[.val (.ref a0), .val (.int p1), .val (.int (x0 &&& (255 : Int32))), .val (.int (3 : Int32)), .val (.int lo), .val (.int hi), .val (.int (p1 + (3 : Int32))), .val (.int (1 : Int32)), .unset, .unset] [(.int (p1 + (1 : Int32))), (.ref a0)]))
      have hk10 : p1.toInt + 1 < z.toInt := own_room hs0 hs1 hs2 hc9 (by decide) (by decide)
      obtain ⟨cl11, Ar11, ck11, Sz11, Nn11, Hs11, Gs11⟩ := id V
      have hin11 : ¬ ((p1 + (1 : Int32)) < 0 ∨ cl11.slots.size ≤ ((p1 + (1 : Int32))).toNatClampNeg) := inb_of Sz11 (own_ink hs0 hs2 (k := (1 : Int32)) (by decide) (by decide) hk10)
      have hat11 : cl11.slots[((p1 + (1 : Int32))).toNatClampNeg]? = some (.int x1) := Hs11.at hin11 (he1 hk10)
      refine Go.st (fun _ k => X0.baloadBytes hx (j := (p1 + (1 : Int32))) (v := (.int x1)) (by rw [e0]; exact Ar11.1) (State.isArrayOf_alike hZ.alike Ar11.2.1) Ar11.2.2 hin11 hat11 (g := (mkF m 180 #[.val (.ref a0), .val (.int p1), .val (.int (x0 &&& (255 : Int32))), .val (.int (3 : Int32)), .val (.int lo), .val (.int hi), .val (.int (p1 + (3 : Int32))), .val (.int (1 : Int32)), .unset, .unset] [(.int (p1 + (1 : Int32))), (.ref a0)])) rfl rfl (hb hby d4_180) _ k) ?_
      show Go p e below _ (s₁.setTop (mkF m 181 #[.val (.ref a0), .val (.int p1), .val (.int (x0 &&& (255 : Int32))), .val (.int (3 : Int32)), .val (.int lo), .val (.int hi), .val (.int (p1 + (3 : Int32))), .val (.int (1 : Int32)), .unset, .unset] [(.int x1)]))
      refine Go.st (fun _ k => XS.sipush X0.here hx rfl (hb hby d4_181) k) ?_
      refine Go.st (fun _ k => XS.iand X0.here hx rfl (hb hby d4_184) rfl k) ?_
      show Go p e below _ (s₁.setTop (mkF m 185 #[.val (.ref a0), .val (.int p1), .val (.int (x0 &&& (255 : Int32))), .val (.int (3 : Int32)), .val (.int lo), .val (.int hi), .val (.int (p1 + (3 : Int32))), .val (.int (1 : Int32)), .unset, .unset] [(.int (x1 &&& (255 : Int32)))]))
      refine Go.st (fun _ k => XS.istore X0.here hx rfl (hb hby d4_185) rfl (l' := #[.val (.ref a0), .val (.int p1), .val (.int (x0 &&& (255 : Int32))), .val (.int (3 : Int32)), .val (.int lo), .val (.int hi), .val (.int (p1 + (3 : Int32))), .val (.int (1 : Int32)), .val (.int (x1 &&& (255 : Int32))), .unset]) rfl k) ?_
      show Go p e below _ (s₁.setTop (mkF m 187 #[.val (.ref a0), .val (.int p1), .val (.int (x0 &&& (255 : Int32))), .val (.int (3 : Int32)), .val (.int lo), .val (.int hi), .val (.int (p1 + (3 : Int32))), .val (.int (1 : Int32)), .val (.int (x1 &&& (255 : Int32))), .unset] []))
      refine Go.st (fun _ k => XS.iload X0.here hx rfl (hb hby d4_187) rfl k) ?_
      refine Go.st (fun _ k => XS.iconst X0.here hx rfl (hb hby d4_189) k) ?_
      show Go p e below _ (s₁.setTop (mkF m 190 #[.val (.ref a0), .val (.int p1), .val (.int (x0 &&& (255 : Int32))), .val (.int (3 : Int32)), .val (.int lo), .val (.int hi), .val (.int (p1 + (3 : Int32))), .val (.int (1 : Int32)), .val (.int (x1 &&& (255 : Int32))), .unset] [(.int (1 : Int32)), (.int (1 : Int32))]))
      refine Go.st (fun _ k => XS.icmpNo X0.here hx rfl (hb hby d4_190) rfl (teq (by decide : ((1 : Int32) = (1 : Int32)))).2 k) ?_
      show Go p e below _ (s₁.setTop (mkF m 193 #[.val (.ref a0), .val (.int p1), .val (.int (x0 &&& (255 : Int32))), .val (.int (3 : Int32)), .val (.int lo), .val (.int hi), .val (.int (p1 + (3 : Int32))), .val (.int (1 : Int32)), .val (.int (x1 &&& (255 : Int32))), .unset] []))
      refine Go.st (fun _ k => XS.iconst X0.here hx rfl (hb hby d4_193) k) ?_
      refine Go.st (fun _ k => XS.goto X0.here hx rfl (pc0 := 194) (pc' := 198) rfl (hb hby d4_194) (by decide) (by decide) k) ?_
      show Go p e below _ (s₁.setTop (mkF m 198 #[.val (.ref a0), .val (.int p1), .val (.int (x0 &&& (255 : Int32))), .val (.int (3 : Int32)), .val (.int lo), .val (.int hi), .val (.int (p1 + (3 : Int32))), .val (.int (1 : Int32)), .val (.int (x1 &&& (255 : Int32))), .unset] [(.int (1 : Int32))]))
      refine Go.st (fun _ k => XS.istore X0.here hx rfl (hb hby d4_198) rfl (l' := #[.val (.ref a0), .val (.int p1), .val (.int (x0 &&& (255 : Int32))), .val (.int (3 : Int32)), .val (.int lo), .val (.int hi), .val (.int (p1 + (3 : Int32))), .val (.int (1 : Int32)), .val (.int (x1 &&& (255 : Int32))), .val (.int (1 : Int32))]) rfl k) ?_
      show Go p e below _ (s₁.setTop (mkF m 200 #[.val (.ref a0), .val (.int p1), .val (.int (x0 &&& (255 : Int32))), .val (.int (3 : Int32)), .val (.int lo), .val (.int hi), .val (.int (p1 + (3 : Int32))), .val (.int (1 : Int32)), .val (.int (x1 &&& (255 : Int32))), .val (.int (1 : Int32))] []))
      refine Go.st (fun _ k => XS.iload X0.here hx rfl (hb hby d4_200) rfl k) ?_
      refine Go.st (fun _ k => XS.iload X0.here hx rfl (hb hby d4_202) rfl k) ?_
      show Go p e below _ (s₁.setTop (mkF m 204 #[.val (.ref a0), .val (.int p1), .val (.int (x0 &&& (255 : Int32))), .val (.int (3 : Int32)), .val (.int lo), .val (.int hi), .val (.int (p1 + (3 : Int32))), .val (.int (1 : Int32)), .val (.int (x1 &&& (255 : Int32))), .val (.int (1 : Int32))] [(.int (1 : Int32)), (.int (x1 &&& (255 : Int32)))]))
      refine Go.st (fun _ k => XS.ifNo X0.here hx rfl (hb hby d4_204) rfl ((if0 _ _).trans (feq (by decide : ¬ ((1 : Int32) = (0 : Int32)))).1) k) ?_
      show Go p e below _ (s₁.setTop (mkF m 207 #[.val (.ref a0), .val (.int p1), .val (.int (x0 &&& (255 : Int32))), .val (.int (3 : Int32)), .val (.int lo), .val (.int hi), .val (.int (p1 + (3 : Int32))), .val (.int (1 : Int32)), .val (.int (x1 &&& (255 : Int32))), .val (.int (1 : Int32))] [(.int (x1 &&& (255 : Int32)))]))
      refine Go.st (fun _ k => XS.iload X0.here hx rfl (hb hby d4_207) rfl k) ?_
      refine Go.st (fun _ k => XS.goto X0.here hx rfl (pc0 := 209) (pc' := 215) rfl (hb hby d4_209) (by decide) (by decide) k) ?_
      show Go p e below _ (s₁.setTop (mkF m 215 #[.val (.ref a0), .val (.int p1), .val (.int (x0 &&& (255 : Int32))), .val (.int (3 : Int32)), .val (.int lo), .val (.int hi), .val (.int (p1 + (3 : Int32))), .val (.int (1 : Int32)), .val (.int (x1 &&& (255 : Int32))), .val (.int (1 : Int32))] [(.int lo), (.int (x1 &&& (255 : Int32)))]))
      by_cases hc12 : (x1 &&& (255 : Int32)) < lo
      · show Go p e below _ (s₁.setTop (mkF m 215 #[.val (.ref a0), .val (.int p1), .val (.int (x0 &&& (255 : Int32))), .val (.int (3 : Int32)), .val (.int lo), .val (.int hi), .val (.int (p1 + (3 : Int32))), .val (.int (1 : Int32)), .val (.int (x1 &&& (255 : Int32))), .val (.int (1 : Int32))] [(.int lo), (.int (x1 &&& (255 : Int32)))]))
        refine Go.st (fun _ k => XS.icmpYes X0.here hx rfl (pc0 := 215) (pc' := 236) rfl (hb hby d4_215) rfl (tlt hc12).1 (by decide) (by decide) k) ?_
        show Go p e below _ (s₁.setTop (mkF m 236 #[.val (.ref a0), .val (.int p1), .val (.int (x0 &&& (255 : Int32))), .val (.int (3 : Int32)), .val (.int lo), .val (.int hi), .val (.int (p1 + (3 : Int32))), .val (.int (1 : Int32)), .val (.int (x1 &&& (255 : Int32))), .val (.int (1 : Int32))] []))
        refine Go.st (fun _ k => XS.iconst X0.here hx rfl (hb hby d4_236) k) ?_
        refine Go.st (fun _ k => XS.istore X0.here hx rfl (hb hby d4_237) rfl (l' := #[.val (.ref a0), .val (.int p1), .val (.int (x0 &&& (255 : Int32))), .val (.int (3 : Int32)), .val (.int lo), .val (.int hi), .val (.int (-1 : Int32)), .val (.int (1 : Int32)), .val (.int (x1 &&& (255 : Int32))), .val (.int (1 : Int32))]) rfl k) ?_
        show Go p e below _ (s₁.setTop (mkF m 239 #[.val (.ref a0), .val (.int p1), .val (.int (x0 &&& (255 : Int32))), .val (.int (3 : Int32)), .val (.int lo), .val (.int hi), .val (.int (-1 : Int32)), .val (.int (1 : Int32)), .val (.int (x1 &&& (255 : Int32))), .val (.int (1 : Int32))] []))
        refine Go.st (fun _ k => XS.iinc X0.here hx rfl (hb hby d4_239) rfl (l' := #[.val (.ref a0), .val (.int p1), .val (.int (x0 &&& (255 : Int32))), .val (.int (3 : Int32)), .val (.int lo), .val (.int hi), .val (.int (-1 : Int32)), .val (.int (2 : Int32)), .val (.int (x1 &&& (255 : Int32))), .val (.int (1 : Int32))]) rfl k) ?_
        show Go p e below _ (s₁.setTop (mkF m 242 #[.val (.ref a0), .val (.int p1), .val (.int (x0 &&& (255 : Int32))), .val (.int (3 : Int32)), .val (.int lo), .val (.int hi), .val (.int (-1 : Int32)), .val (.int (2 : Int32)), .val (.int (x1 &&& (255 : Int32))), .val (.int (1 : Int32))] []))
        refine Go.st (fun _ k => XS.goto X0.here hx rfl (pc0 := 242) (pc' := 163) rfl (hb hby d4_242) (by decide) (by decide) k) ?_
        show Go p e below _ (s₁.setTop (mkF m 163 #[.val (.ref a0), .val (.int p1), .val (.int (x0 &&& (255 : Int32))), .val (.int (3 : Int32)), .val (.int lo), .val (.int hi), .val (.int (-1 : Int32)), .val (.int (2 : Int32)), .val (.int (x1 &&& (255 : Int32))), .val (.int (1 : Int32))] []))
        refine Go.st (fun _ k => XS.iload X0.here hx rfl (hb hby d4_163) rfl k) ?_
        refine Go.st (fun _ k => XS.iloadN X0.here hx rfl (hb hby d4_165) rfl k) ?_
        show Go p e below _ (s₁.setTop (mkF m 166 #[.val (.ref a0), .val (.int p1), .val (.int (x0 &&& (255 : Int32))), .val (.int (3 : Int32)), .val (.int lo), .val (.int hi), .val (.int (-1 : Int32)), .val (.int (2 : Int32)), .val (.int (x1 &&& (255 : Int32))), .val (.int (1 : Int32))] [(.int (3 : Int32)), (.int (2 : Int32))]))
        refine Go.st (fun _ k => XS.icmpNo X0.here hx rfl (hb hby d4_166) rfl (tlt (by decide : ((2 : Int32) < (3 : Int32)))).2.1 k) ?_
        show Go p e below _ (s₁.setTop (mkF m 169 #[.val (.ref a0), .val (.int p1), .val (.int (x0 &&& (255 : Int32))), .val (.int (3 : Int32)), .val (.int lo), .val (.int hi), .val (.int (-1 : Int32)), .val (.int (2 : Int32)), .val (.int (x1 &&& (255 : Int32))), .val (.int (1 : Int32))] []))
        refine Go.st (fun _ k => XS.iload X0.here hx rfl (hb hby d4_169) rfl k) ?_
        refine Go.st (fun _ k => XS.iconst X0.here hx rfl (hb hby d4_171) k) ?_
        show Go p e below _ (s₁.setTop (mkF m 172 #[.val (.ref a0), .val (.int p1), .val (.int (x0 &&& (255 : Int32))), .val (.int (3 : Int32)), .val (.int lo), .val (.int hi), .val (.int (-1 : Int32)), .val (.int (2 : Int32)), .val (.int (x1 &&& (255 : Int32))), .val (.int (1 : Int32))] [(.int (-1 : Int32)), (.int (-1 : Int32))]))
        refine Go.st (fun _ k => XS.icmpYes X0.here hx rfl (pc0 := 172) (pc' := 245) rfl (hb hby d4_172) rfl (teq (by decide : ((-1 : Int32) = (-1 : Int32)))).1 (by decide) (by decide) k) ?_
        show Go p e below _ (s₁.setTop (mkF m 245 #[.val (.ref a0), .val (.int p1), .val (.int (x0 &&& (255 : Int32))), .val (.int (3 : Int32)), .val (.int lo), .val (.int hi), .val (.int (-1 : Int32)), .val (.int (2 : Int32)), .val (.int (x1 &&& (255 : Int32))), .val (.int (1 : Int32))] []))
        refine Go.st (fun _ k => XS.iload X0.here hx rfl (hb hby d4_245) rfl k) ?_
        obtain ⟨fs, hr, hrun, hended, hW, hsame⟩ := X0.leave (v := some (.int (-1 : Int32))) (fun h => by rw [Bd.returns] at h; cases h)
        refine ⟨_, _, retI X0 hx Bd.returns (hb hby d4_247) hr, hrun, hended, _, _, rfl, ?_, ⟨_, rfl⟩, hW, hsame.mono (by decide) (by decide)⟩
        show Q_rmCE Z x0 x1 x2 x3 a0 p1 kk z vs h0 n0 _ s₁.heap _
        rw [e0]
        refine ⟨?_, N0, rfl⟩
        rw [hj]
        unfold fT3
        rw [if_neg hc9, if_pos hc12]
      · show Go p e below _ (s₁.setTop (mkF m 215 #[.val (.ref a0), .val (.int p1), .val (.int (x0 &&& (255 : Int32))), .val (.int (3 : Int32)), .val (.int lo), .val (.int hi), .val (.int (p1 + (3 : Int32))), .val (.int (1 : Int32)), .val (.int (x1 &&& (255 : Int32))), .val (.int (1 : Int32))] [(.int lo), (.int (x1 &&& (255 : Int32)))]))
        refine Go.st (fun _ k => XS.icmpNo X0.here hx rfl (hb hby d4_215) rfl (flt hc12).1 k) ?_
        show Go p e below _ (s₁.setTop (mkF m 218 #[.val (.ref a0), .val (.int p1), .val (.int (x0 &&& (255 : Int32))), .val (.int (3 : Int32)), .val (.int lo), .val (.int hi), .val (.int (p1 + (3 : Int32))), .val (.int (1 : Int32)), .val (.int (x1 &&& (255 : Int32))), .val (.int (1 : Int32))] []))
        refine Go.st (fun _ k => XS.iload X0.here hx rfl (hb hby d4_218) rfl k) ?_
        refine Go.st (fun _ k => XS.iload X0.here hx rfl (hb hby d4_220) rfl k) ?_
        show Go p e below _ (s₁.setTop (mkF m 222 #[.val (.ref a0), .val (.int p1), .val (.int (x0 &&& (255 : Int32))), .val (.int (3 : Int32)), .val (.int lo), .val (.int hi), .val (.int (p1 + (3 : Int32))), .val (.int (1 : Int32)), .val (.int (x1 &&& (255 : Int32))), .val (.int (1 : Int32))] [(.int (1 : Int32)), (.int (x1 &&& (255 : Int32)))]))
        refine Go.st (fun _ k => XS.ifNo X0.here hx rfl (hb hby d4_222) rfl ((if0 _ _).trans (feq (by decide : ¬ ((1 : Int32) = (0 : Int32)))).1) k) ?_
        show Go p e below _ (s₁.setTop (mkF m 225 #[.val (.ref a0), .val (.int p1), .val (.int (x0 &&& (255 : Int32))), .val (.int (3 : Int32)), .val (.int lo), .val (.int hi), .val (.int (p1 + (3 : Int32))), .val (.int (1 : Int32)), .val (.int (x1 &&& (255 : Int32))), .val (.int (1 : Int32))] [(.int (x1 &&& (255 : Int32)))]))
        refine Go.st (fun _ k => XS.iload X0.here hx rfl (hb hby d4_225) rfl k) ?_
        refine Go.st (fun _ k => XS.goto X0.here hx rfl (pc0 := 227) (pc' := 233) rfl (hb hby d4_227) (by decide) (by decide) k) ?_
        show Go p e below _ (s₁.setTop (mkF m 233 #[.val (.ref a0), .val (.int p1), .val (.int (x0 &&& (255 : Int32))), .val (.int (3 : Int32)), .val (.int lo), .val (.int hi), .val (.int (p1 + (3 : Int32))), .val (.int (1 : Int32)), .val (.int (x1 &&& (255 : Int32))), .val (.int (1 : Int32))] [(.int hi), (.int (x1 &&& (255 : Int32)))]))
        by_cases hc13 : hi < (x1 &&& (255 : Int32))
        · show Go p e below _ (s₁.setTop (mkF m 233 #[.val (.ref a0), .val (.int p1), .val (.int (x0 &&& (255 : Int32))), .val (.int (3 : Int32)), .val (.int lo), .val (.int hi), .val (.int (p1 + (3 : Int32))), .val (.int (1 : Int32)), .val (.int (x1 &&& (255 : Int32))), .val (.int (1 : Int32))] [(.int hi), (.int (x1 &&& (255 : Int32)))]))
          refine Go.st (fun _ k => XS.icmpNo X0.here hx rfl (hb hby d4_233) rfl (tlt hc13).2.2.2 k) ?_
          show Go p e below _ (s₁.setTop (mkF m 236 #[.val (.ref a0), .val (.int p1), .val (.int (x0 &&& (255 : Int32))), .val (.int (3 : Int32)), .val (.int lo), .val (.int hi), .val (.int (p1 + (3 : Int32))), .val (.int (1 : Int32)), .val (.int (x1 &&& (255 : Int32))), .val (.int (1 : Int32))] []))
          refine Go.st (fun _ k => XS.iconst X0.here hx rfl (hb hby d4_236) k) ?_
          refine Go.st (fun _ k => XS.istore X0.here hx rfl (hb hby d4_237) rfl (l' := #[.val (.ref a0), .val (.int p1), .val (.int (x0 &&& (255 : Int32))), .val (.int (3 : Int32)), .val (.int lo), .val (.int hi), .val (.int (-1 : Int32)), .val (.int (1 : Int32)), .val (.int (x1 &&& (255 : Int32))), .val (.int (1 : Int32))]) rfl k) ?_
          show Go p e below _ (s₁.setTop (mkF m 239 #[.val (.ref a0), .val (.int p1), .val (.int (x0 &&& (255 : Int32))), .val (.int (3 : Int32)), .val (.int lo), .val (.int hi), .val (.int (-1 : Int32)), .val (.int (1 : Int32)), .val (.int (x1 &&& (255 : Int32))), .val (.int (1 : Int32))] []))
          refine Go.st (fun _ k => XS.iinc X0.here hx rfl (hb hby d4_239) rfl (l' := #[.val (.ref a0), .val (.int p1), .val (.int (x0 &&& (255 : Int32))), .val (.int (3 : Int32)), .val (.int lo), .val (.int hi), .val (.int (-1 : Int32)), .val (.int (2 : Int32)), .val (.int (x1 &&& (255 : Int32))), .val (.int (1 : Int32))]) rfl k) ?_
          show Go p e below _ (s₁.setTop (mkF m 242 #[.val (.ref a0), .val (.int p1), .val (.int (x0 &&& (255 : Int32))), .val (.int (3 : Int32)), .val (.int lo), .val (.int hi), .val (.int (-1 : Int32)), .val (.int (2 : Int32)), .val (.int (x1 &&& (255 : Int32))), .val (.int (1 : Int32))] []))
          refine Go.st (fun _ k => XS.goto X0.here hx rfl (pc0 := 242) (pc' := 163) rfl (hb hby d4_242) (by decide) (by decide) k) ?_
          show Go p e below _ (s₁.setTop (mkF m 163 #[.val (.ref a0), .val (.int p1), .val (.int (x0 &&& (255 : Int32))), .val (.int (3 : Int32)), .val (.int lo), .val (.int hi), .val (.int (-1 : Int32)), .val (.int (2 : Int32)), .val (.int (x1 &&& (255 : Int32))), .val (.int (1 : Int32))] []))
          refine Go.st (fun _ k => XS.iload X0.here hx rfl (hb hby d4_163) rfl k) ?_
          refine Go.st (fun _ k => XS.iloadN X0.here hx rfl (hb hby d4_165) rfl k) ?_
          show Go p e below _ (s₁.setTop (mkF m 166 #[.val (.ref a0), .val (.int p1), .val (.int (x0 &&& (255 : Int32))), .val (.int (3 : Int32)), .val (.int lo), .val (.int hi), .val (.int (-1 : Int32)), .val (.int (2 : Int32)), .val (.int (x1 &&& (255 : Int32))), .val (.int (1 : Int32))] [(.int (3 : Int32)), (.int (2 : Int32))]))
          refine Go.st (fun _ k => XS.icmpNo X0.here hx rfl (hb hby d4_166) rfl (tlt (by decide : ((2 : Int32) < (3 : Int32)))).2.1 k) ?_
          show Go p e below _ (s₁.setTop (mkF m 169 #[.val (.ref a0), .val (.int p1), .val (.int (x0 &&& (255 : Int32))), .val (.int (3 : Int32)), .val (.int lo), .val (.int hi), .val (.int (-1 : Int32)), .val (.int (2 : Int32)), .val (.int (x1 &&& (255 : Int32))), .val (.int (1 : Int32))] []))
          refine Go.st (fun _ k => XS.iload X0.here hx rfl (hb hby d4_169) rfl k) ?_
          refine Go.st (fun _ k => XS.iconst X0.here hx rfl (hb hby d4_171) k) ?_
          show Go p e below _ (s₁.setTop (mkF m 172 #[.val (.ref a0), .val (.int p1), .val (.int (x0 &&& (255 : Int32))), .val (.int (3 : Int32)), .val (.int lo), .val (.int hi), .val (.int (-1 : Int32)), .val (.int (2 : Int32)), .val (.int (x1 &&& (255 : Int32))), .val (.int (1 : Int32))] [(.int (-1 : Int32)), (.int (-1 : Int32))]))
          refine Go.st (fun _ k => XS.icmpYes X0.here hx rfl (pc0 := 172) (pc' := 245) rfl (hb hby d4_172) rfl (teq (by decide : ((-1 : Int32) = (-1 : Int32)))).1 (by decide) (by decide) k) ?_
          show Go p e below _ (s₁.setTop (mkF m 245 #[.val (.ref a0), .val (.int p1), .val (.int (x0 &&& (255 : Int32))), .val (.int (3 : Int32)), .val (.int lo), .val (.int hi), .val (.int (-1 : Int32)), .val (.int (2 : Int32)), .val (.int (x1 &&& (255 : Int32))), .val (.int (1 : Int32))] []))
          refine Go.st (fun _ k => XS.iload X0.here hx rfl (hb hby d4_245) rfl k) ?_
          obtain ⟨fs, hr, hrun, hended, hW, hsame⟩ := X0.leave (v := some (.int (-1 : Int32))) (fun h => by rw [Bd.returns] at h; cases h)
          refine ⟨_, _, retI X0 hx Bd.returns (hb hby d4_247) hr, hrun, hended, _, _, rfl, ?_, ⟨_, rfl⟩, hW, hsame.mono (by decide) (by decide)⟩
          show Q_rmCE Z x0 x1 x2 x3 a0 p1 kk z vs h0 n0 _ s₁.heap _
          rw [e0]
          refine ⟨?_, N0, rfl⟩
          rw [hj]
          unfold fT3
          rw [if_neg hc9, if_neg hc12, if_pos hc13]
        · show Go p e below _ (s₁.setTop (mkF m 233 #[.val (.ref a0), .val (.int p1), .val (.int (x0 &&& (255 : Int32))), .val (.int (3 : Int32)), .val (.int lo), .val (.int hi), .val (.int (p1 + (3 : Int32))), .val (.int (1 : Int32)), .val (.int (x1 &&& (255 : Int32))), .val (.int (1 : Int32))] [(.int hi), (.int (x1 &&& (255 : Int32)))]))
          refine Go.st (fun _ k => XS.icmpYes X0.here hx rfl (pc0 := 233) (pc' := 239) rfl (hb hby d4_233) rfl (flt hc13).2.2.2 (by decide) (by decide) k) ?_
          show Go p e below _ (s₁.setTop (mkF m 239 #[.val (.ref a0), .val (.int p1), .val (.int (x0 &&& (255 : Int32))), .val (.int (3 : Int32)), .val (.int lo), .val (.int hi), .val (.int (p1 + (3 : Int32))), .val (.int (1 : Int32)), .val (.int (x1 &&& (255 : Int32))), .val (.int (1 : Int32))] []))
          refine Go.st (fun _ k => XS.iinc X0.here hx rfl (hb hby d4_239) rfl (l' := #[.val (.ref a0), .val (.int p1), .val (.int (x0 &&& (255 : Int32))), .val (.int (3 : Int32)), .val (.int lo), .val (.int hi), .val (.int (p1 + (3 : Int32))), .val (.int (2 : Int32)), .val (.int (x1 &&& (255 : Int32))), .val (.int (1 : Int32))]) rfl k) ?_
          show Go p e below _ (s₁.setTop (mkF m 242 #[.val (.ref a0), .val (.int p1), .val (.int (x0 &&& (255 : Int32))), .val (.int (3 : Int32)), .val (.int lo), .val (.int hi), .val (.int (p1 + (3 : Int32))), .val (.int (2 : Int32)), .val (.int (x1 &&& (255 : Int32))), .val (.int (1 : Int32))] []))
          refine Go.st (fun _ k => XS.goto X0.here hx rfl (pc0 := 242) (pc' := 163) rfl (hb hby d4_242) (by decide) (by decide) k) ?_
          show Go p e below _ (s₁.setTop (mkF m 163 #[.val (.ref a0), .val (.int p1), .val (.int (x0 &&& (255 : Int32))), .val (.int (3 : Int32)), .val (.int lo), .val (.int hi), .val (.int (p1 + (3 : Int32))), .val (.int (2 : Int32)), .val (.int (x1 &&& (255 : Int32))), .val (.int (1 : Int32))] []))
          refine Go.st (fun _ k => XS.iload X0.here hx rfl (hb hby d4_163) rfl k) ?_
          refine Go.st (fun _ k => XS.iloadN X0.here hx rfl (hb hby d4_165) rfl k) ?_
          show Go p e below _ (s₁.setTop (mkF m 166 #[.val (.ref a0), .val (.int p1), .val (.int (x0 &&& (255 : Int32))), .val (.int (3 : Int32)), .val (.int lo), .val (.int hi), .val (.int (p1 + (3 : Int32))), .val (.int (2 : Int32)), .val (.int (x1 &&& (255 : Int32))), .val (.int (1 : Int32))] [(.int (3 : Int32)), (.int (2 : Int32))]))
          refine Go.st (fun _ k => XS.icmpNo X0.here hx rfl (hb hby d4_166) rfl (tlt (by decide : ((2 : Int32) < (3 : Int32)))).2.1 k) ?_
          show Go p e below _ (s₁.setTop (mkF m 169 #[.val (.ref a0), .val (.int p1), .val (.int (x0 &&& (255 : Int32))), .val (.int (3 : Int32)), .val (.int lo), .val (.int hi), .val (.int (p1 + (3 : Int32))), .val (.int (2 : Int32)), .val (.int (x1 &&& (255 : Int32))), .val (.int (1 : Int32))] []))
          refine Go.st (fun _ k => XS.iload X0.here hx rfl (hb hby d4_169) rfl k) ?_
          refine Go.st (fun _ k => XS.iconst X0.here hx rfl (hb hby d4_171) k) ?_
          show Go p e below _ (s₁.setTop (mkF m 172 #[.val (.ref a0), .val (.int p1), .val (.int (x0 &&& (255 : Int32))), .val (.int (3 : Int32)), .val (.int lo), .val (.int hi), .val (.int (p1 + (3 : Int32))), .val (.int (2 : Int32)), .val (.int (x1 &&& (255 : Int32))), .val (.int (1 : Int32))] [(.int (-1 : Int32)), (.int (p1 + (3 : Int32)))]))
          refine Go.st (fun _ k => XS.icmpNo X0.here hx rfl (hb hby d4_172) rfl (feq (own_notm1 hs0 hs1 hs2 (by decide) (by decide))).1 k) ?_
          show Go p e below _ (s₁.setTop (mkF m 175 #[.val (.ref a0), .val (.int p1), .val (.int (x0 &&& (255 : Int32))), .val (.int (3 : Int32)), .val (.int lo), .val (.int hi), .val (.int (p1 + (3 : Int32))), .val (.int (2 : Int32)), .val (.int (x1 &&& (255 : Int32))), .val (.int (1 : Int32))] []))
          refine Go.st (fun _ k => XS.aloadN X0.here hx rfl (hb hby d4_175) rfl rfl k) ?_
          refine Go.st (fun _ k => XS.iloadN X0.here hx rfl (hb hby d4_176) rfl k) ?_
          show Go p e below _ (s₁.setTop (mkF m 177 #[.val (.ref a0), .val (.int p1), .val (.int (x0 &&& (255 : Int32))), .val (.int (3 : Int32)), .val (.int lo), .val (.int hi), .val (.int (p1 + (3 : Int32))), .val (.int (2 : Int32)), .val (.int (x1 &&& (255 : Int32))), .val (.int (1 : Int32))] [(.int p1), (.ref a0)]))
          refine Go.st (fun _ k => XS.iload X0.here hx rfl (hb hby d4_177) rfl k) ?_
          refine Go.st (fun _ k => XS.iadd X0.here hx rfl (hb hby d4_179) rfl k) ?_
          show Go p e below _ (s₁.setTop (mkF m 180 #[.val (.ref a0), .val (.int p1), .val (.int (x0 &&& (255 : Int32))), .val (.int (3 : Int32)), .val (.int lo), .val (.int hi), .val (.int (p1 + (3 : Int32))), .val (.int (2 : Int32)), .val (.int (x1 &&& (255 : Int32))), .val (.int (1 : Int32))] [(.int (p1 + (2 : Int32))), (.ref a0)]))
          have hk14 : p1.toInt + 2 < z.toInt := own_room hs0 hs1 hs2 hc9 (by decide) (by decide)
          obtain ⟨cl15, Ar15, ck15, Sz15, Nn15, Hs15, Gs15⟩ := id V
          have hin15 : ¬ ((p1 + (2 : Int32)) < 0 ∨ cl15.slots.size ≤ ((p1 + (2 : Int32))).toNatClampNeg) := inb_of Sz15 (own_ink hs0 hs2 (k := (2 : Int32)) (by decide) (by decide) hk14)
          have hat15 : cl15.slots[((p1 + (2 : Int32))).toNatClampNeg]? = some (.int x2) := Hs15.at hin15 (he2 hk14)
          refine Go.st (fun _ k => X0.baloadBytes hx (j := (p1 + (2 : Int32))) (v := (.int x2)) (by rw [e0]; exact Ar15.1) (State.isArrayOf_alike hZ.alike Ar15.2.1) Ar15.2.2 hin15 hat15 (g := (mkF m 180 #[.val (.ref a0), .val (.int p1), .val (.int (x0 &&& (255 : Int32))), .val (.int (3 : Int32)), .val (.int lo), .val (.int hi), .val (.int (p1 + (3 : Int32))), .val (.int (2 : Int32)), .val (.int (x1 &&& (255 : Int32))), .val (.int (1 : Int32))] [(.int (p1 + (2 : Int32))), (.ref a0)])) rfl rfl (hb hby d4_180) _ k) ?_
          show Go p e below _ (s₁.setTop (mkF m 181 #[.val (.ref a0), .val (.int p1), .val (.int (x0 &&& (255 : Int32))), .val (.int (3 : Int32)), .val (.int lo), .val (.int hi), .val (.int (p1 + (3 : Int32))), .val (.int (2 : Int32)), .val (.int (x1 &&& (255 : Int32))), .val (.int (1 : Int32))] [(.int x2)]))
          refine Go.st (fun _ k => XS.sipush X0.here hx rfl (hb hby d4_181) k) ?_
          refine Go.st (fun _ k => XS.iand X0.here hx rfl (hb hby d4_184) rfl k) ?_
          show Go p e below _ (s₁.setTop (mkF m 185 #[.val (.ref a0), .val (.int p1), .val (.int (x0 &&& (255 : Int32))), .val (.int (3 : Int32)), .val (.int lo), .val (.int hi), .val (.int (p1 + (3 : Int32))), .val (.int (2 : Int32)), .val (.int (x1 &&& (255 : Int32))), .val (.int (1 : Int32))] [(.int (x2 &&& (255 : Int32)))]))
          refine Go.st (fun _ k => XS.istore X0.here hx rfl (hb hby d4_185) rfl (l' := #[.val (.ref a0), .val (.int p1), .val (.int (x0 &&& (255 : Int32))), .val (.int (3 : Int32)), .val (.int lo), .val (.int hi), .val (.int (p1 + (3 : Int32))), .val (.int (2 : Int32)), .val (.int (x2 &&& (255 : Int32))), .val (.int (1 : Int32))]) rfl k) ?_
          show Go p e below _ (s₁.setTop (mkF m 187 #[.val (.ref a0), .val (.int p1), .val (.int (x0 &&& (255 : Int32))), .val (.int (3 : Int32)), .val (.int lo), .val (.int hi), .val (.int (p1 + (3 : Int32))), .val (.int (2 : Int32)), .val (.int (x2 &&& (255 : Int32))), .val (.int (1 : Int32))] []))
          refine Go.st (fun _ k => XS.iload X0.here hx rfl (hb hby d4_187) rfl k) ?_
          refine Go.st (fun _ k => XS.iconst X0.here hx rfl (hb hby d4_189) k) ?_
          show Go p e below _ (s₁.setTop (mkF m 190 #[.val (.ref a0), .val (.int p1), .val (.int (x0 &&& (255 : Int32))), .val (.int (3 : Int32)), .val (.int lo), .val (.int hi), .val (.int (p1 + (3 : Int32))), .val (.int (2 : Int32)), .val (.int (x2 &&& (255 : Int32))), .val (.int (1 : Int32))] [(.int (1 : Int32)), (.int (2 : Int32))]))
          refine Go.st (fun _ k => XS.icmpYes X0.here hx rfl (pc0 := 190) (pc' := 197) rfl (hb hby d4_190) rfl (feq (by decide : ¬ ((2 : Int32) = (1 : Int32)))).2 (by decide) (by decide) k) ?_
          show Go p e below _ (s₁.setTop (mkF m 197 #[.val (.ref a0), .val (.int p1), .val (.int (x0 &&& (255 : Int32))), .val (.int (3 : Int32)), .val (.int lo), .val (.int hi), .val (.int (p1 + (3 : Int32))), .val (.int (2 : Int32)), .val (.int (x2 &&& (255 : Int32))), .val (.int (1 : Int32))] []))
          refine Go.st (fun _ k => XS.iconst X0.here hx rfl (hb hby d4_197) k) ?_
          refine Go.st (fun _ k => XS.istore X0.here hx rfl (hb hby d4_198) rfl (l' := #[.val (.ref a0), .val (.int p1), .val (.int (x0 &&& (255 : Int32))), .val (.int (3 : Int32)), .val (.int lo), .val (.int hi), .val (.int (p1 + (3 : Int32))), .val (.int (2 : Int32)), .val (.int (x2 &&& (255 : Int32))), .val (.int (0 : Int32))]) rfl k) ?_
          show Go p e below _ (s₁.setTop (mkF m 200 #[.val (.ref a0), .val (.int p1), .val (.int (x0 &&& (255 : Int32))), .val (.int (3 : Int32)), .val (.int lo), .val (.int hi), .val (.int (p1 + (3 : Int32))), .val (.int (2 : Int32)), .val (.int (x2 &&& (255 : Int32))), .val (.int (0 : Int32))] []))
          refine Go.st (fun _ k => XS.iload X0.here hx rfl (hb hby d4_200) rfl k) ?_
          refine Go.st (fun _ k => XS.iload X0.here hx rfl (hb hby d4_202) rfl k) ?_
          show Go p e below _ (s₁.setTop (mkF m 204 #[.val (.ref a0), .val (.int p1), .val (.int (x0 &&& (255 : Int32))), .val (.int (3 : Int32)), .val (.int lo), .val (.int hi), .val (.int (p1 + (3 : Int32))), .val (.int (2 : Int32)), .val (.int (x2 &&& (255 : Int32))), .val (.int (0 : Int32))] [(.int (0 : Int32)), (.int (x2 &&& (255 : Int32)))]))
          refine Go.st (fun _ k => XS.ifYes X0.here hx rfl (pc0 := 204) (pc' := 212) rfl (hb hby d4_204) rfl ((if0 _ _).trans (teq (by decide : ((0 : Int32) = (0 : Int32)))).1) (by decide) (by decide) k) ?_
          show Go p e below _ (s₁.setTop (mkF m 212 #[.val (.ref a0), .val (.int p1), .val (.int (x0 &&& (255 : Int32))), .val (.int (3 : Int32)), .val (.int lo), .val (.int hi), .val (.int (p1 + (3 : Int32))), .val (.int (2 : Int32)), .val (.int (x2 &&& (255 : Int32))), .val (.int (0 : Int32))] [(.int (x2 &&& (255 : Int32)))]))
          refine Go.st (fun _ k => XS.sipush X0.here hx rfl (hb hby d4_212) k) ?_
          by_cases hc16 : (x2 &&& (255 : Int32)) < (128 : Int32)
          · show Go p e below _ (s₁.setTop (mkF m 215 #[.val (.ref a0), .val (.int p1), .val (.int (x0 &&& (255 : Int32))), .val (.int (3 : Int32)), .val (.int lo), .val (.int hi), .val (.int (p1 + (3 : Int32))), .val (.int (2 : Int32)), .val (.int (x2 &&& (255 : Int32))), .val (.int (0 : Int32))] [(.int (128 : Int32)), (.int (x2 &&& (255 : Int32)))]))
            refine Go.st (fun _ k => XS.icmpYes X0.here hx rfl (pc0 := 215) (pc' := 236) rfl (hb hby d4_215) rfl (tlt hc16).1 (by decide) (by decide) k) ?_
            show Go p e below _ (s₁.setTop (mkF m 236 #[.val (.ref a0), .val (.int p1), .val (.int (x0 &&& (255 : Int32))), .val (.int (3 : Int32)), .val (.int lo), .val (.int hi), .val (.int (p1 + (3 : Int32))), .val (.int (2 : Int32)), .val (.int (x2 &&& (255 : Int32))), .val (.int (0 : Int32))] []))
            refine Go.st (fun _ k => XS.iconst X0.here hx rfl (hb hby d4_236) k) ?_
            refine Go.st (fun _ k => XS.istore X0.here hx rfl (hb hby d4_237) rfl (l' := #[.val (.ref a0), .val (.int p1), .val (.int (x0 &&& (255 : Int32))), .val (.int (3 : Int32)), .val (.int lo), .val (.int hi), .val (.int (-1 : Int32)), .val (.int (2 : Int32)), .val (.int (x2 &&& (255 : Int32))), .val (.int (0 : Int32))]) rfl k) ?_
            show Go p e below _ (s₁.setTop (mkF m 239 #[.val (.ref a0), .val (.int p1), .val (.int (x0 &&& (255 : Int32))), .val (.int (3 : Int32)), .val (.int lo), .val (.int hi), .val (.int (-1 : Int32)), .val (.int (2 : Int32)), .val (.int (x2 &&& (255 : Int32))), .val (.int (0 : Int32))] []))
            refine Go.st (fun _ k => XS.iinc X0.here hx rfl (hb hby d4_239) rfl (l' := #[.val (.ref a0), .val (.int p1), .val (.int (x0 &&& (255 : Int32))), .val (.int (3 : Int32)), .val (.int lo), .val (.int hi), .val (.int (-1 : Int32)), .val (.int (3 : Int32)), .val (.int (x2 &&& (255 : Int32))), .val (.int (0 : Int32))]) rfl k) ?_
            show Go p e below _ (s₁.setTop (mkF m 242 #[.val (.ref a0), .val (.int p1), .val (.int (x0 &&& (255 : Int32))), .val (.int (3 : Int32)), .val (.int lo), .val (.int hi), .val (.int (-1 : Int32)), .val (.int (3 : Int32)), .val (.int (x2 &&& (255 : Int32))), .val (.int (0 : Int32))] []))
            refine Go.st (fun _ k => XS.goto X0.here hx rfl (pc0 := 242) (pc' := 163) rfl (hb hby d4_242) (by decide) (by decide) k) ?_
            show Go p e below _ (s₁.setTop (mkF m 163 #[.val (.ref a0), .val (.int p1), .val (.int (x0 &&& (255 : Int32))), .val (.int (3 : Int32)), .val (.int lo), .val (.int hi), .val (.int (-1 : Int32)), .val (.int (3 : Int32)), .val (.int (x2 &&& (255 : Int32))), .val (.int (0 : Int32))] []))
            refine Go.st (fun _ k => XS.iload X0.here hx rfl (hb hby d4_163) rfl k) ?_
            refine Go.st (fun _ k => XS.iloadN X0.here hx rfl (hb hby d4_165) rfl k) ?_
            show Go p e below _ (s₁.setTop (mkF m 166 #[.val (.ref a0), .val (.int p1), .val (.int (x0 &&& (255 : Int32))), .val (.int (3 : Int32)), .val (.int lo), .val (.int hi), .val (.int (-1 : Int32)), .val (.int (3 : Int32)), .val (.int (x2 &&& (255 : Int32))), .val (.int (0 : Int32))] [(.int (3 : Int32)), (.int (3 : Int32))]))
            refine Go.st (fun _ k => XS.icmpYes X0.here hx rfl (pc0 := 166) (pc' := 245) rfl (hb hby d4_166) rfl (flt (by decide : ¬ ((3 : Int32) < (3 : Int32)))).2.1 (by decide) (by decide) k) ?_
            show Go p e below _ (s₁.setTop (mkF m 245 #[.val (.ref a0), .val (.int p1), .val (.int (x0 &&& (255 : Int32))), .val (.int (3 : Int32)), .val (.int lo), .val (.int hi), .val (.int (-1 : Int32)), .val (.int (3 : Int32)), .val (.int (x2 &&& (255 : Int32))), .val (.int (0 : Int32))] []))
            refine Go.st (fun _ k => XS.iload X0.here hx rfl (hb hby d4_245) rfl k) ?_
            obtain ⟨fs, hr, hrun, hended, hW, hsame⟩ := X0.leave (v := some (.int (-1 : Int32))) (fun h => by rw [Bd.returns] at h; cases h)
            refine ⟨_, _, retI X0 hx Bd.returns (hb hby d4_247) hr, hrun, hended, _, _, rfl, ?_, ⟨_, rfl⟩, hW, hsame.mono (by decide) (by decide)⟩
            show Q_rmCE Z x0 x1 x2 x3 a0 p1 kk z vs h0 n0 _ s₁.heap _
            rw [e0]
            refine ⟨?_, N0, rfl⟩
            rw [hj]
            unfold fT3
            rw [if_neg hc9, if_neg hc12, if_neg hc13, if_pos hc16]
          · show Go p e below _ (s₁.setTop (mkF m 215 #[.val (.ref a0), .val (.int p1), .val (.int (x0 &&& (255 : Int32))), .val (.int (3 : Int32)), .val (.int lo), .val (.int hi), .val (.int (p1 + (3 : Int32))), .val (.int (2 : Int32)), .val (.int (x2 &&& (255 : Int32))), .val (.int (0 : Int32))] [(.int (128 : Int32)), (.int (x2 &&& (255 : Int32)))]))
            refine Go.st (fun _ k => XS.icmpNo X0.here hx rfl (hb hby d4_215) rfl (flt hc16).1 k) ?_
            show Go p e below _ (s₁.setTop (mkF m 218 #[.val (.ref a0), .val (.int p1), .val (.int (x0 &&& (255 : Int32))), .val (.int (3 : Int32)), .val (.int lo), .val (.int hi), .val (.int (p1 + (3 : Int32))), .val (.int (2 : Int32)), .val (.int (x2 &&& (255 : Int32))), .val (.int (0 : Int32))] []))
            refine Go.st (fun _ k => XS.iload X0.here hx rfl (hb hby d4_218) rfl k) ?_
            refine Go.st (fun _ k => XS.iload X0.here hx rfl (hb hby d4_220) rfl k) ?_
            show Go p e below _ (s₁.setTop (mkF m 222 #[.val (.ref a0), .val (.int p1), .val (.int (x0 &&& (255 : Int32))), .val (.int (3 : Int32)), .val (.int lo), .val (.int hi), .val (.int (p1 + (3 : Int32))), .val (.int (2 : Int32)), .val (.int (x2 &&& (255 : Int32))), .val (.int (0 : Int32))] [(.int (0 : Int32)), (.int (x2 &&& (255 : Int32)))]))
            refine Go.st (fun _ k => XS.ifYes X0.here hx rfl (pc0 := 222) (pc' := 230) rfl (hb hby d4_222) rfl ((if0 _ _).trans (teq (by decide : ((0 : Int32) = (0 : Int32)))).1) (by decide) (by decide) k) ?_
            show Go p e below _ (s₁.setTop (mkF m 230 #[.val (.ref a0), .val (.int p1), .val (.int (x0 &&& (255 : Int32))), .val (.int (3 : Int32)), .val (.int lo), .val (.int hi), .val (.int (p1 + (3 : Int32))), .val (.int (2 : Int32)), .val (.int (x2 &&& (255 : Int32))), .val (.int (0 : Int32))] [(.int (x2 &&& (255 : Int32)))]))
            refine Go.st (fun _ k => XS.sipush X0.here hx rfl (hb hby d4_230) k) ?_
            by_cases hc17 : (191 : Int32) < (x2 &&& (255 : Int32))
            · show Go p e below _ (s₁.setTop (mkF m 233 #[.val (.ref a0), .val (.int p1), .val (.int (x0 &&& (255 : Int32))), .val (.int (3 : Int32)), .val (.int lo), .val (.int hi), .val (.int (p1 + (3 : Int32))), .val (.int (2 : Int32)), .val (.int (x2 &&& (255 : Int32))), .val (.int (0 : Int32))] [(.int (191 : Int32)), (.int (x2 &&& (255 : Int32)))]))
              refine Go.st (fun _ k => XS.icmpNo X0.here hx rfl (hb hby d4_233) rfl (tlt hc17).2.2.2 k) ?_
              show Go p e below _ (s₁.setTop (mkF m 236 #[.val (.ref a0), .val (.int p1), .val (.int (x0 &&& (255 : Int32))), .val (.int (3 : Int32)), .val (.int lo), .val (.int hi), .val (.int (p1 + (3 : Int32))), .val (.int (2 : Int32)), .val (.int (x2 &&& (255 : Int32))), .val (.int (0 : Int32))] []))
              refine Go.st (fun _ k => XS.iconst X0.here hx rfl (hb hby d4_236) k) ?_
              refine Go.st (fun _ k => XS.istore X0.here hx rfl (hb hby d4_237) rfl (l' := #[.val (.ref a0), .val (.int p1), .val (.int (x0 &&& (255 : Int32))), .val (.int (3 : Int32)), .val (.int lo), .val (.int hi), .val (.int (-1 : Int32)), .val (.int (2 : Int32)), .val (.int (x2 &&& (255 : Int32))), .val (.int (0 : Int32))]) rfl k) ?_
              show Go p e below _ (s₁.setTop (mkF m 239 #[.val (.ref a0), .val (.int p1), .val (.int (x0 &&& (255 : Int32))), .val (.int (3 : Int32)), .val (.int lo), .val (.int hi), .val (.int (-1 : Int32)), .val (.int (2 : Int32)), .val (.int (x2 &&& (255 : Int32))), .val (.int (0 : Int32))] []))
              refine Go.st (fun _ k => XS.iinc X0.here hx rfl (hb hby d4_239) rfl (l' := #[.val (.ref a0), .val (.int p1), .val (.int (x0 &&& (255 : Int32))), .val (.int (3 : Int32)), .val (.int lo), .val (.int hi), .val (.int (-1 : Int32)), .val (.int (3 : Int32)), .val (.int (x2 &&& (255 : Int32))), .val (.int (0 : Int32))]) rfl k) ?_
              show Go p e below _ (s₁.setTop (mkF m 242 #[.val (.ref a0), .val (.int p1), .val (.int (x0 &&& (255 : Int32))), .val (.int (3 : Int32)), .val (.int lo), .val (.int hi), .val (.int (-1 : Int32)), .val (.int (3 : Int32)), .val (.int (x2 &&& (255 : Int32))), .val (.int (0 : Int32))] []))
              refine Go.st (fun _ k => XS.goto X0.here hx rfl (pc0 := 242) (pc' := 163) rfl (hb hby d4_242) (by decide) (by decide) k) ?_
              show Go p e below _ (s₁.setTop (mkF m 163 #[.val (.ref a0), .val (.int p1), .val (.int (x0 &&& (255 : Int32))), .val (.int (3 : Int32)), .val (.int lo), .val (.int hi), .val (.int (-1 : Int32)), .val (.int (3 : Int32)), .val (.int (x2 &&& (255 : Int32))), .val (.int (0 : Int32))] []))
              refine Go.st (fun _ k => XS.iload X0.here hx rfl (hb hby d4_163) rfl k) ?_
              refine Go.st (fun _ k => XS.iloadN X0.here hx rfl (hb hby d4_165) rfl k) ?_
              show Go p e below _ (s₁.setTop (mkF m 166 #[.val (.ref a0), .val (.int p1), .val (.int (x0 &&& (255 : Int32))), .val (.int (3 : Int32)), .val (.int lo), .val (.int hi), .val (.int (-1 : Int32)), .val (.int (3 : Int32)), .val (.int (x2 &&& (255 : Int32))), .val (.int (0 : Int32))] [(.int (3 : Int32)), (.int (3 : Int32))]))
              refine Go.st (fun _ k => XS.icmpYes X0.here hx rfl (pc0 := 166) (pc' := 245) rfl (hb hby d4_166) rfl (flt (by decide : ¬ ((3 : Int32) < (3 : Int32)))).2.1 (by decide) (by decide) k) ?_
              show Go p e below _ (s₁.setTop (mkF m 245 #[.val (.ref a0), .val (.int p1), .val (.int (x0 &&& (255 : Int32))), .val (.int (3 : Int32)), .val (.int lo), .val (.int hi), .val (.int (-1 : Int32)), .val (.int (3 : Int32)), .val (.int (x2 &&& (255 : Int32))), .val (.int (0 : Int32))] []))
              refine Go.st (fun _ k => XS.iload X0.here hx rfl (hb hby d4_245) rfl k) ?_
              obtain ⟨fs, hr, hrun, hended, hW, hsame⟩ := X0.leave (v := some (.int (-1 : Int32))) (fun h => by rw [Bd.returns] at h; cases h)
              refine ⟨_, _, retI X0 hx Bd.returns (hb hby d4_247) hr, hrun, hended, _, _, rfl, ?_, ⟨_, rfl⟩, hW, hsame.mono (by decide) (by decide)⟩
              show Q_rmCE Z x0 x1 x2 x3 a0 p1 kk z vs h0 n0 _ s₁.heap _
              rw [e0]
              refine ⟨?_, N0, rfl⟩
              rw [hj]
              unfold fT3
              rw [if_neg hc9, if_neg hc12, if_neg hc13, if_neg hc16, if_pos hc17]
            · show Go p e below _ (s₁.setTop (mkF m 233 #[.val (.ref a0), .val (.int p1), .val (.int (x0 &&& (255 : Int32))), .val (.int (3 : Int32)), .val (.int lo), .val (.int hi), .val (.int (p1 + (3 : Int32))), .val (.int (2 : Int32)), .val (.int (x2 &&& (255 : Int32))), .val (.int (0 : Int32))] [(.int (191 : Int32)), (.int (x2 &&& (255 : Int32)))]))
              refine Go.st (fun _ k => XS.icmpYes X0.here hx rfl (pc0 := 233) (pc' := 239) rfl (hb hby d4_233) rfl (flt hc17).2.2.2 (by decide) (by decide) k) ?_
              show Go p e below _ (s₁.setTop (mkF m 239 #[.val (.ref a0), .val (.int p1), .val (.int (x0 &&& (255 : Int32))), .val (.int (3 : Int32)), .val (.int lo), .val (.int hi), .val (.int (p1 + (3 : Int32))), .val (.int (2 : Int32)), .val (.int (x2 &&& (255 : Int32))), .val (.int (0 : Int32))] []))
              refine Go.st (fun _ k => XS.iinc X0.here hx rfl (hb hby d4_239) rfl (l' := #[.val (.ref a0), .val (.int p1), .val (.int (x0 &&& (255 : Int32))), .val (.int (3 : Int32)), .val (.int lo), .val (.int hi), .val (.int (p1 + (3 : Int32))), .val (.int (3 : Int32)), .val (.int (x2 &&& (255 : Int32))), .val (.int (0 : Int32))]) rfl k) ?_
              show Go p e below _ (s₁.setTop (mkF m 242 #[.val (.ref a0), .val (.int p1), .val (.int (x0 &&& (255 : Int32))), .val (.int (3 : Int32)), .val (.int lo), .val (.int hi), .val (.int (p1 + (3 : Int32))), .val (.int (3 : Int32)), .val (.int (x2 &&& (255 : Int32))), .val (.int (0 : Int32))] []))
              refine Go.st (fun _ k => XS.goto X0.here hx rfl (pc0 := 242) (pc' := 163) rfl (hb hby d4_242) (by decide) (by decide) k) ?_
              show Go p e below _ (s₁.setTop (mkF m 163 #[.val (.ref a0), .val (.int p1), .val (.int (x0 &&& (255 : Int32))), .val (.int (3 : Int32)), .val (.int lo), .val (.int hi), .val (.int (p1 + (3 : Int32))), .val (.int (3 : Int32)), .val (.int (x2 &&& (255 : Int32))), .val (.int (0 : Int32))] []))
              refine Go.st (fun _ k => XS.iload X0.here hx rfl (hb hby d4_163) rfl k) ?_
              refine Go.st (fun _ k => XS.iloadN X0.here hx rfl (hb hby d4_165) rfl k) ?_
              show Go p e below _ (s₁.setTop (mkF m 166 #[.val (.ref a0), .val (.int p1), .val (.int (x0 &&& (255 : Int32))), .val (.int (3 : Int32)), .val (.int lo), .val (.int hi), .val (.int (p1 + (3 : Int32))), .val (.int (3 : Int32)), .val (.int (x2 &&& (255 : Int32))), .val (.int (0 : Int32))] [(.int (3 : Int32)), (.int (3 : Int32))]))
              refine Go.st (fun _ k => XS.icmpYes X0.here hx rfl (pc0 := 166) (pc' := 245) rfl (hb hby d4_166) rfl (flt (by decide : ¬ ((3 : Int32) < (3 : Int32)))).2.1 (by decide) (by decide) k) ?_
              show Go p e below _ (s₁.setTop (mkF m 245 #[.val (.ref a0), .val (.int p1), .val (.int (x0 &&& (255 : Int32))), .val (.int (3 : Int32)), .val (.int lo), .val (.int hi), .val (.int (p1 + (3 : Int32))), .val (.int (3 : Int32)), .val (.int (x2 &&& (255 : Int32))), .val (.int (0 : Int32))] []))
              refine Go.st (fun _ k => XS.iload X0.here hx rfl (hb hby d4_245) rfl k) ?_
              obtain ⟨fs, hr, hrun, hended, hW, hsame⟩ := X0.leave (v := some (.int (p1 + (3 : Int32)))) (fun h => by rw [Bd.returns] at h; cases h)
              refine ⟨_, _, retI X0 hx Bd.returns (hb hby d4_247) hr, hrun, hended, _, _, rfl, ?_, ⟨_, rfl⟩, hW, hsame.mono (by decide) (by decide)⟩
              show Q_rmCE Z x0 x1 x2 x3 a0 p1 kk z vs h0 n0 _ s₁.heap _
              rw [e0]
              refine ⟨?_, N0, rfl⟩
              rw [hj]
              unfold fT3
              rw [if_neg hc9, if_neg hc12, if_neg hc13, if_neg hc16, if_neg hc17]
  have key4 : ∀ (lo : Int32) (hi : Int32), (fCE x0 x1 x2 x3 p1 z = fT4 lo hi x0 x1 x2 x3 p1 z) → Go p e below (F_rmCE Z x0 x1 x2 x3 a0 p1 kk z vs h0 n0 s) (s₁.setTop (mkF m 145 #[.val (.ref a0), .val (.int p1), .val (.int (x0 &&& (255 : Int32))), .val (.int (4 : Int32)), .val (.int lo), .val (.int hi), .unset, .unset, .unset, .unset] [])) := by
    intro lo hi hj
    show Go p e below _ (s₁.setTop (mkF m 145 #[.val (.ref a0), .val (.int p1), .val (.int (x0 &&& (255 : Int32))), .val (.int (4 : Int32)), .val (.int lo), .val (.int hi), .unset, .unset, .unset, .unset] []))
    refine Go.st (fun _ k => XS.aloadN X0.here hx rfl (hb hby d4_145) rfl rfl k) ?_
    show Go p e below _ (s₁.setTop (mkF m 146 #[.val (.ref a0), .val (.int p1), .val (.int (x0 &&& (255 : Int32))), .val (.int (4 : Int32)), .val (.int lo), .val (.int hi), .unset, .unset, .unset, .unset] [(.ref a0)]))
    obtain ⟨cl18, Ar18, ck18, Sz18, Nn18, Hs18, Gs18⟩ := id V
    refine Go.st (fun _ k => X0.arraylength hx (by rw [e0]; exact Ar18.1) (State.isArrayOf_alike hZ.alike Ar18.2.1) (g := (mkF m 146 #[.val (.ref a0), .val (.int p1), .val (.int (x0 &&& (255 : Int32))), .val (.int (4 : Int32)), .val (.int lo), .val (.int hi), .unset, .unset, .unset, .unset] [(.ref a0)])) rfl rfl (hb hby d4_146) _ k) ?_
    rw [len_of Sz18 Nn18]
    show Go p e below _ (s₁.setTop (mkF m 147 #[.val (.ref a0), .val (.int p1), .val (.int (x0 &&& (255 : Int32))), .val (.int (4 : Int32)), .val (.int lo), .val (.int hi), .unset, .unset, .unset, .unset] [(.int z)]))
    refine Go.st (fun _ k => XS.iloadN X0.here hx rfl (hb hby d4_147) rfl k) ?_
    refine Go.st (fun _ k => XS.isub X0.here hx rfl (hb hby d4_148) rfl k) ?_
    show Go p e below _ (s₁.setTop (mkF m 149 #[.val (.ref a0), .val (.int p1), .val (.int (x0 &&& (255 : Int32))), .val (.int (4 : Int32)), .val (.int lo), .val (.int hi), .unset, .unset, .unset, .unset] [(.int (z - p1))]))
    refine Go.st (fun _ k => XS.iloadN X0.here hx rfl (hb hby d4_149) rfl k) ?_
    by_cases hc19 : (z - p1) < (4 : Int32)
    · show Go p e below _ (s₁.setTop (mkF m 150 #[.val (.ref a0), .val (.int p1), .val (.int (x0 &&& (255 : Int32))), .val (.int (4 : Int32)), .val (.int lo), .val (.int hi), .unset, .unset, .unset, .unset] [(.int (4 : Int32)), (.int (z - p1))]))
      refine Go.st (fun _ k => XS.icmpNo X0.here hx rfl (hb hby d4_150) rfl (tlt hc19).2.1 k) ?_
      show Go p e below _ (s₁.setTop (mkF m 153 #[.val (.ref a0), .val (.int p1), .val (.int (x0 &&& (255 : Int32))), .val (.int (4 : Int32)), .val (.int lo), .val (.int hi), .unset, .unset, .unset, .unset] []))
      refine Go.st (fun _ k => XS.iconst X0.here hx rfl (hb hby d4_153) k) ?_
      obtain ⟨fs, hr, hrun, hended, hW, hsame⟩ := X0.leave (v := some (.int (-1 : Int32))) (fun h => by rw [Bd.returns] at h; cases h)
      refine ⟨_, _, retI X0 hx Bd.returns (hb hby d4_154) hr, hrun, hended, _, _, rfl, ?_, ⟨_, rfl⟩, hW, hsame.mono (by decide) (by decide)⟩
      show Q_rmCE Z x0 x1 x2 x3 a0 p1 kk z vs h0 n0 _ s₁.heap _
      rw [e0]
      refine ⟨?_, N0, rfl⟩
      rw [hj]
      unfold fT4
      rw [if_pos hc19]
    · show Go p e below _ (s₁.setTop (mkF m 150 #[.val (.ref a0), .val (.int p1), .val (.int (x0 &&& (255 : Int32))), .val (.int (4 : Int32)), .val (.int lo), .val (.int hi), .unset, .unset, .unset, .unset] [(.int (4 : Int32)), (.int (z - p1))]))
      refine Go.st (fun _ k => XS.icmpYes X0.here hx rfl (pc0 := 150) (pc' := 155) rfl (hb hby d4_150) rfl (flt hc19).2.1 (by decide) (by decide) k) ?_
      show Go p e below _ (s₁.setTop (mkF m 155 #[.val (.ref a0), .val (.int p1), .val (.int (x0 &&& (255 : Int32))), .val (.int (4 : Int32)), .val (.int lo), .val (.int hi), .unset, .unset, .unset, .unset] []))
      refine Go.st (fun _ k => XS.iloadN X0.here hx rfl (hb hby d4_155) rfl k) ?_
      refine Go.st (fun _ k => XS.iloadN X0.here hx rfl (hb hby d4_156) rfl k) ?_
      show Go p e below _ (s₁.setTop (mkF m 157 #[.val (.ref a0), .val (.int p1), .val (.int (x0 &&& (255 : Int32))), .val (.int (4 : Int32)), .val (.int lo), .val (.int hi), .unset, .unset, .unset, .unset] [(.int (4 : Int32)), (.int p1)]))
      refine Go.st (fun _ k => XS.iadd X0.here hx rfl (hb hby d4_157) rfl k) ?_
      refine Go.st (fun _ k => XS.istore X0.here hx rfl (hb hby d4_158) rfl (l' := #[.val (.ref a0), .val (.int p1), .val (.int (x0 &&& (255 : Int32))), .val (.int (4 : Int32)), .val (.int lo), .val (.int hi), .val (.int (p1 + (4 : Int32))), .unset, .unset, .unset]) rfl k) ?_
      show Go p e below _ (s₁.setTop (mkF m 160 #[.val (.ref a0), .val (.int p1), .val (.int (x0 &&& (255 : Int32))), .val (.int (4 : Int32)), .val (.int lo), .val (.int hi), .val (.int (p1 + (4 : Int32))), .unset, .unset, .unset] []))
      refine Go.st (fun _ k => XS.iconst X0.here hx rfl (hb hby d4_160) k) ?_
      refine Go.st (fun _ k => XS.istore X0.here hx rfl (hb hby d4_161) rfl (l' := #[.val (.ref a0), .val (.int p1), .val (.int (x0 &&& (255 : Int32))), .val (.int (4 : Int32)), .val (.int lo), .val (.int hi), .val (.int (p1 + (4 : Int32))), .val (.int (1 : Int32)), .unset, .unset]) rfl k) ?_
      show Go p e below _ (s₁.setTop (mkF m 163 #[.val (.ref a0), .val (.int p1), .val (.int (x0 &&& (255 : Int32))), .val (.int (4 : Int32)), .val (.int lo), .val (.int hi), .val (.int (p1 + (4 : Int32))), .val (.int (1 : Int32)), .unset, .unset] []))
      refine Go.st (fun _ k => XS.iload X0.here hx rfl (hb hby d4_163) rfl k) ?_
      refine Go.st (fun _ k => XS.iloadN X0.here hx rfl (hb hby d4_165) rfl k) ?_
      show Go p e below _ (s₁.setTop (mkF m 166 #[.val (.ref a0), .val (.int p1), .val (.int (x0 &&& (255 : Int32))), .val (.int (4 : Int32)), .val (.int lo), .val (.int hi), .val (.int (p1 + (4 : Int32))), .val (.int (1 : Int32)), .unset, .unset] [(.int (4 : Int32)), (.int (1 : Int32))]))
      refine Go.st (fun _ k => XS.icmpNo X0.here hx rfl (hb hby d4_166) rfl (tlt (by decide : ((1 : Int32) < (4 : Int32)))).2.1 k) ?_
      show Go p e below _ (s₁.setTop (mkF m 169 #[.val (.ref a0), .val (.int p1), .val (.int (x0 &&& (255 : Int32))), .val (.int (4 : Int32)), .val (.int lo), .val (.int hi), .val (.int (p1 + (4 : Int32))), .val (.int (1 : Int32)), .unset, .unset] []))
      refine Go.st (fun _ k => XS.iload X0.here hx rfl (hb hby d4_169) rfl k) ?_
      refine Go.st (fun _ k => XS.iconst X0.here hx rfl (hb hby d4_171) k) ?_
      show Go p e below _ (s₁.setTop (mkF m 172 #[.val (.ref a0), .val (.int p1), .val (.int (x0 &&& (255 : Int32))), .val (.int (4 : Int32)), .val (.int lo), .val (.int hi), .val (.int (p1 + (4 : Int32))), .val (.int (1 : Int32)), .unset, .unset] [(.int (-1 : Int32)), (.int (p1 + (4 : Int32)))]))
      refine Go.st (fun _ k => XS.icmpNo X0.here hx rfl (hb hby d4_172) rfl (feq (own_notm1 hs0 hs1 hs2 (by decide) (by decide))).1 k) ?_
      show Go p e below _ (s₁.setTop (mkF m 175 #[.val (.ref a0), .val (.int p1), .val (.int (x0 &&& (255 : Int32))), .val (.int (4 : Int32)), .val (.int lo), .val (.int hi), .val (.int (p1 + (4 : Int32))), .val (.int (1 : Int32)), .unset, .unset] []))
      refine Go.st (fun _ k => XS.aloadN X0.here hx rfl (hb hby d4_175) rfl rfl k) ?_
      refine Go.st (fun _ k => XS.iloadN X0.here hx rfl (hb hby d4_176) rfl k) ?_
      show Go p e below _ (s₁.setTop (mkF m 177 #[.val (.ref a0), .val (.int p1), .val (.int (x0 &&& (255 : Int32))), .val (.int (4 : Int32)), .val (.int lo), .val (.int hi), .val (.int (p1 + (4 : Int32))), .val (.int (1 : Int32)), .unset, .unset] [(.int p1), (.ref a0)]))
      refine Go.st (fun _ k => XS.iload X0.here hx rfl (hb hby d4_177) rfl k) ?_
      refine Go.st (fun _ k => XS.iadd X0.here hx rfl (hb hby d4_179) rfl k) ?_
      show Go p e below _ (s₁.setTop (mkF m 180 #[.val (.ref a0), .val (.int p1), .val (.int (x0 &&& (255 : Int32))), .val (.int (4 : Int32)), .val (.int lo), .val (.int hi), .val (.int (p1 + (4 : Int32))), .val (.int (1 : Int32)), .unset, .unset] [(.int (p1 + (1 : Int32))), (.ref a0)]))
      have hk20 : p1.toInt + 1 < z.toInt := own_room hs0 hs1 hs2 hc19 (by decide) (by decide)
      obtain ⟨cl21, Ar21, ck21, Sz21, Nn21, Hs21, Gs21⟩ := id V
      have hin21 : ¬ ((p1 + (1 : Int32)) < 0 ∨ cl21.slots.size ≤ ((p1 + (1 : Int32))).toNatClampNeg) := inb_of Sz21 (own_ink hs0 hs2 (k := (1 : Int32)) (by decide) (by decide) hk20)
      have hat21 : cl21.slots[((p1 + (1 : Int32))).toNatClampNeg]? = some (.int x1) := Hs21.at hin21 (he1 hk20)
      refine Go.st (fun _ k => X0.baloadBytes hx (j := (p1 + (1 : Int32))) (v := (.int x1)) (by rw [e0]; exact Ar21.1) (State.isArrayOf_alike hZ.alike Ar21.2.1) Ar21.2.2 hin21 hat21 (g := (mkF m 180 #[.val (.ref a0), .val (.int p1), .val (.int (x0 &&& (255 : Int32))), .val (.int (4 : Int32)), .val (.int lo), .val (.int hi), .val (.int (p1 + (4 : Int32))), .val (.int (1 : Int32)), .unset, .unset] [(.int (p1 + (1 : Int32))), (.ref a0)])) rfl rfl (hb hby d4_180) _ k) ?_
      show Go p e below _ (s₁.setTop (mkF m 181 #[.val (.ref a0), .val (.int p1), .val (.int (x0 &&& (255 : Int32))), .val (.int (4 : Int32)), .val (.int lo), .val (.int hi), .val (.int (p1 + (4 : Int32))), .val (.int (1 : Int32)), .unset, .unset] [(.int x1)]))
      refine Go.st (fun _ k => XS.sipush X0.here hx rfl (hb hby d4_181) k) ?_
      refine Go.st (fun _ k => XS.iand X0.here hx rfl (hb hby d4_184) rfl k) ?_
      show Go p e below _ (s₁.setTop (mkF m 185 #[.val (.ref a0), .val (.int p1), .val (.int (x0 &&& (255 : Int32))), .val (.int (4 : Int32)), .val (.int lo), .val (.int hi), .val (.int (p1 + (4 : Int32))), .val (.int (1 : Int32)), .unset, .unset] [(.int (x1 &&& (255 : Int32)))]))
      refine Go.st (fun _ k => XS.istore X0.here hx rfl (hb hby d4_185) rfl (l' := #[.val (.ref a0), .val (.int p1), .val (.int (x0 &&& (255 : Int32))), .val (.int (4 : Int32)), .val (.int lo), .val (.int hi), .val (.int (p1 + (4 : Int32))), .val (.int (1 : Int32)), .val (.int (x1 &&& (255 : Int32))), .unset]) rfl k) ?_
      show Go p e below _ (s₁.setTop (mkF m 187 #[.val (.ref a0), .val (.int p1), .val (.int (x0 &&& (255 : Int32))), .val (.int (4 : Int32)), .val (.int lo), .val (.int hi), .val (.int (p1 + (4 : Int32))), .val (.int (1 : Int32)), .val (.int (x1 &&& (255 : Int32))), .unset] []))
      refine Go.st (fun _ k => XS.iload X0.here hx rfl (hb hby d4_187) rfl k) ?_
      refine Go.st (fun _ k => XS.iconst X0.here hx rfl (hb hby d4_189) k) ?_
      show Go p e below _ (s₁.setTop (mkF m 190 #[.val (.ref a0), .val (.int p1), .val (.int (x0 &&& (255 : Int32))), .val (.int (4 : Int32)), .val (.int lo), .val (.int hi), .val (.int (p1 + (4 : Int32))), .val (.int (1 : Int32)), .val (.int (x1 &&& (255 : Int32))), .unset] [(.int (1 : Int32)), (.int (1 : Int32))]))
      refine Go.st (fun _ k => XS.icmpNo X0.here hx rfl (hb hby d4_190) rfl (teq (by decide : ((1 : Int32) = (1 : Int32)))).2 k) ?_
      show Go p e below _ (s₁.setTop (mkF m 193 #[.val (.ref a0), .val (.int p1), .val (.int (x0 &&& (255 : Int32))), .val (.int (4 : Int32)), .val (.int lo), .val (.int hi), .val (.int (p1 + (4 : Int32))), .val (.int (1 : Int32)), .val (.int (x1 &&& (255 : Int32))), .unset] []))
      refine Go.st (fun _ k => XS.iconst X0.here hx rfl (hb hby d4_193) k) ?_
      refine Go.st (fun _ k => XS.goto X0.here hx rfl (pc0 := 194) (pc' := 198) rfl (hb hby d4_194) (by decide) (by decide) k) ?_
      show Go p e below _ (s₁.setTop (mkF m 198 #[.val (.ref a0), .val (.int p1), .val (.int (x0 &&& (255 : Int32))), .val (.int (4 : Int32)), .val (.int lo), .val (.int hi), .val (.int (p1 + (4 : Int32))), .val (.int (1 : Int32)), .val (.int (x1 &&& (255 : Int32))), .unset] [(.int (1 : Int32))]))
      refine Go.st (fun _ k => XS.istore X0.here hx rfl (hb hby d4_198) rfl (l' := #[.val (.ref a0), .val (.int p1), .val (.int (x0 &&& (255 : Int32))), .val (.int (4 : Int32)), .val (.int lo), .val (.int hi), .val (.int (p1 + (4 : Int32))), .val (.int (1 : Int32)), .val (.int (x1 &&& (255 : Int32))), .val (.int (1 : Int32))]) rfl k) ?_
      show Go p e below _ (s₁.setTop (mkF m 200 #[.val (.ref a0), .val (.int p1), .val (.int (x0 &&& (255 : Int32))), .val (.int (4 : Int32)), .val (.int lo), .val (.int hi), .val (.int (p1 + (4 : Int32))), .val (.int (1 : Int32)), .val (.int (x1 &&& (255 : Int32))), .val (.int (1 : Int32))] []))
      refine Go.st (fun _ k => XS.iload X0.here hx rfl (hb hby d4_200) rfl k) ?_
      refine Go.st (fun _ k => XS.iload X0.here hx rfl (hb hby d4_202) rfl k) ?_
      show Go p e below _ (s₁.setTop (mkF m 204 #[.val (.ref a0), .val (.int p1), .val (.int (x0 &&& (255 : Int32))), .val (.int (4 : Int32)), .val (.int lo), .val (.int hi), .val (.int (p1 + (4 : Int32))), .val (.int (1 : Int32)), .val (.int (x1 &&& (255 : Int32))), .val (.int (1 : Int32))] [(.int (1 : Int32)), (.int (x1 &&& (255 : Int32)))]))
      refine Go.st (fun _ k => XS.ifNo X0.here hx rfl (hb hby d4_204) rfl ((if0 _ _).trans (feq (by decide : ¬ ((1 : Int32) = (0 : Int32)))).1) k) ?_
      show Go p e below _ (s₁.setTop (mkF m 207 #[.val (.ref a0), .val (.int p1), .val (.int (x0 &&& (255 : Int32))), .val (.int (4 : Int32)), .val (.int lo), .val (.int hi), .val (.int (p1 + (4 : Int32))), .val (.int (1 : Int32)), .val (.int (x1 &&& (255 : Int32))), .val (.int (1 : Int32))] [(.int (x1 &&& (255 : Int32)))]))
      refine Go.st (fun _ k => XS.iload X0.here hx rfl (hb hby d4_207) rfl k) ?_
      refine Go.st (fun _ k => XS.goto X0.here hx rfl (pc0 := 209) (pc' := 215) rfl (hb hby d4_209) (by decide) (by decide) k) ?_
      show Go p e below _ (s₁.setTop (mkF m 215 #[.val (.ref a0), .val (.int p1), .val (.int (x0 &&& (255 : Int32))), .val (.int (4 : Int32)), .val (.int lo), .val (.int hi), .val (.int (p1 + (4 : Int32))), .val (.int (1 : Int32)), .val (.int (x1 &&& (255 : Int32))), .val (.int (1 : Int32))] [(.int lo), (.int (x1 &&& (255 : Int32)))]))
      by_cases hc22 : (x1 &&& (255 : Int32)) < lo
      · show Go p e below _ (s₁.setTop (mkF m 215 #[.val (.ref a0), .val (.int p1), .val (.int (x0 &&& (255 : Int32))), .val (.int (4 : Int32)), .val (.int lo), .val (.int hi), .val (.int (p1 + (4 : Int32))), .val (.int (1 : Int32)), .val (.int (x1 &&& (255 : Int32))), .val (.int (1 : Int32))] [(.int lo), (.int (x1 &&& (255 : Int32)))]))
        refine Go.st (fun _ k => XS.icmpYes X0.here hx rfl (pc0 := 215) (pc' := 236) rfl (hb hby d4_215) rfl (tlt hc22).1 (by decide) (by decide) k) ?_
        show Go p e below _ (s₁.setTop (mkF m 236 #[.val (.ref a0), .val (.int p1), .val (.int (x0 &&& (255 : Int32))), .val (.int (4 : Int32)), .val (.int lo), .val (.int hi), .val (.int (p1 + (4 : Int32))), .val (.int (1 : Int32)), .val (.int (x1 &&& (255 : Int32))), .val (.int (1 : Int32))] []))
        refine Go.st (fun _ k => XS.iconst X0.here hx rfl (hb hby d4_236) k) ?_
        refine Go.st (fun _ k => XS.istore X0.here hx rfl (hb hby d4_237) rfl (l' := #[.val (.ref a0), .val (.int p1), .val (.int (x0 &&& (255 : Int32))), .val (.int (4 : Int32)), .val (.int lo), .val (.int hi), .val (.int (-1 : Int32)), .val (.int (1 : Int32)), .val (.int (x1 &&& (255 : Int32))), .val (.int (1 : Int32))]) rfl k) ?_
        show Go p e below _ (s₁.setTop (mkF m 239 #[.val (.ref a0), .val (.int p1), .val (.int (x0 &&& (255 : Int32))), .val (.int (4 : Int32)), .val (.int lo), .val (.int hi), .val (.int (-1 : Int32)), .val (.int (1 : Int32)), .val (.int (x1 &&& (255 : Int32))), .val (.int (1 : Int32))] []))
        refine Go.st (fun _ k => XS.iinc X0.here hx rfl (hb hby d4_239) rfl (l' := #[.val (.ref a0), .val (.int p1), .val (.int (x0 &&& (255 : Int32))), .val (.int (4 : Int32)), .val (.int lo), .val (.int hi), .val (.int (-1 : Int32)), .val (.int (2 : Int32)), .val (.int (x1 &&& (255 : Int32))), .val (.int (1 : Int32))]) rfl k) ?_
        show Go p e below _ (s₁.setTop (mkF m 242 #[.val (.ref a0), .val (.int p1), .val (.int (x0 &&& (255 : Int32))), .val (.int (4 : Int32)), .val (.int lo), .val (.int hi), .val (.int (-1 : Int32)), .val (.int (2 : Int32)), .val (.int (x1 &&& (255 : Int32))), .val (.int (1 : Int32))] []))
        refine Go.st (fun _ k => XS.goto X0.here hx rfl (pc0 := 242) (pc' := 163) rfl (hb hby d4_242) (by decide) (by decide) k) ?_
        show Go p e below _ (s₁.setTop (mkF m 163 #[.val (.ref a0), .val (.int p1), .val (.int (x0 &&& (255 : Int32))), .val (.int (4 : Int32)), .val (.int lo), .val (.int hi), .val (.int (-1 : Int32)), .val (.int (2 : Int32)), .val (.int (x1 &&& (255 : Int32))), .val (.int (1 : Int32))] []))
        refine Go.st (fun _ k => XS.iload X0.here hx rfl (hb hby d4_163) rfl k) ?_
        refine Go.st (fun _ k => XS.iloadN X0.here hx rfl (hb hby d4_165) rfl k) ?_
        show Go p e below _ (s₁.setTop (mkF m 166 #[.val (.ref a0), .val (.int p1), .val (.int (x0 &&& (255 : Int32))), .val (.int (4 : Int32)), .val (.int lo), .val (.int hi), .val (.int (-1 : Int32)), .val (.int (2 : Int32)), .val (.int (x1 &&& (255 : Int32))), .val (.int (1 : Int32))] [(.int (4 : Int32)), (.int (2 : Int32))]))
        refine Go.st (fun _ k => XS.icmpNo X0.here hx rfl (hb hby d4_166) rfl (tlt (by decide : ((2 : Int32) < (4 : Int32)))).2.1 k) ?_
        show Go p e below _ (s₁.setTop (mkF m 169 #[.val (.ref a0), .val (.int p1), .val (.int (x0 &&& (255 : Int32))), .val (.int (4 : Int32)), .val (.int lo), .val (.int hi), .val (.int (-1 : Int32)), .val (.int (2 : Int32)), .val (.int (x1 &&& (255 : Int32))), .val (.int (1 : Int32))] []))
        refine Go.st (fun _ k => XS.iload X0.here hx rfl (hb hby d4_169) rfl k) ?_
        refine Go.st (fun _ k => XS.iconst X0.here hx rfl (hb hby d4_171) k) ?_
        show Go p e below _ (s₁.setTop (mkF m 172 #[.val (.ref a0), .val (.int p1), .val (.int (x0 &&& (255 : Int32))), .val (.int (4 : Int32)), .val (.int lo), .val (.int hi), .val (.int (-1 : Int32)), .val (.int (2 : Int32)), .val (.int (x1 &&& (255 : Int32))), .val (.int (1 : Int32))] [(.int (-1 : Int32)), (.int (-1 : Int32))]))
        refine Go.st (fun _ k => XS.icmpYes X0.here hx rfl (pc0 := 172) (pc' := 245) rfl (hb hby d4_172) rfl (teq (by decide : ((-1 : Int32) = (-1 : Int32)))).1 (by decide) (by decide) k) ?_
        show Go p e below _ (s₁.setTop (mkF m 245 #[.val (.ref a0), .val (.int p1), .val (.int (x0 &&& (255 : Int32))), .val (.int (4 : Int32)), .val (.int lo), .val (.int hi), .val (.int (-1 : Int32)), .val (.int (2 : Int32)), .val (.int (x1 &&& (255 : Int32))), .val (.int (1 : Int32))] []))
        refine Go.st (fun _ k => XS.iload X0.here hx rfl (hb hby d4_245) rfl k) ?_
        obtain ⟨fs, hr, hrun, hended, hW, hsame⟩ := X0.leave (v := some (.int (-1 : Int32))) (fun h => by rw [Bd.returns] at h; cases h)
        refine ⟨_, _, retI X0 hx Bd.returns (hb hby d4_247) hr, hrun, hended, _, _, rfl, ?_, ⟨_, rfl⟩, hW, hsame.mono (by decide) (by decide)⟩
        show Q_rmCE Z x0 x1 x2 x3 a0 p1 kk z vs h0 n0 _ s₁.heap _
        rw [e0]
        refine ⟨?_, N0, rfl⟩
        rw [hj]
        unfold fT4
        rw [if_neg hc19, if_pos hc22]
      · show Go p e below _ (s₁.setTop (mkF m 215 #[.val (.ref a0), .val (.int p1), .val (.int (x0 &&& (255 : Int32))), .val (.int (4 : Int32)), .val (.int lo), .val (.int hi), .val (.int (p1 + (4 : Int32))), .val (.int (1 : Int32)), .val (.int (x1 &&& (255 : Int32))), .val (.int (1 : Int32))] [(.int lo), (.int (x1 &&& (255 : Int32)))]))
        refine Go.st (fun _ k => XS.icmpNo X0.here hx rfl (hb hby d4_215) rfl (flt hc22).1 k) ?_
        show Go p e below _ (s₁.setTop (mkF m 218 #[.val (.ref a0), .val (.int p1), .val (.int (x0 &&& (255 : Int32))), .val (.int (4 : Int32)), .val (.int lo), .val (.int hi), .val (.int (p1 + (4 : Int32))), .val (.int (1 : Int32)), .val (.int (x1 &&& (255 : Int32))), .val (.int (1 : Int32))] []))
        refine Go.st (fun _ k => XS.iload X0.here hx rfl (hb hby d4_218) rfl k) ?_
        refine Go.st (fun _ k => XS.iload X0.here hx rfl (hb hby d4_220) rfl k) ?_
        show Go p e below _ (s₁.setTop (mkF m 222 #[.val (.ref a0), .val (.int p1), .val (.int (x0 &&& (255 : Int32))), .val (.int (4 : Int32)), .val (.int lo), .val (.int hi), .val (.int (p1 + (4 : Int32))), .val (.int (1 : Int32)), .val (.int (x1 &&& (255 : Int32))), .val (.int (1 : Int32))] [(.int (1 : Int32)), (.int (x1 &&& (255 : Int32)))]))
        refine Go.st (fun _ k => XS.ifNo X0.here hx rfl (hb hby d4_222) rfl ((if0 _ _).trans (feq (by decide : ¬ ((1 : Int32) = (0 : Int32)))).1) k) ?_
        show Go p e below _ (s₁.setTop (mkF m 225 #[.val (.ref a0), .val (.int p1), .val (.int (x0 &&& (255 : Int32))), .val (.int (4 : Int32)), .val (.int lo), .val (.int hi), .val (.int (p1 + (4 : Int32))), .val (.int (1 : Int32)), .val (.int (x1 &&& (255 : Int32))), .val (.int (1 : Int32))] [(.int (x1 &&& (255 : Int32)))]))
        refine Go.st (fun _ k => XS.iload X0.here hx rfl (hb hby d4_225) rfl k) ?_
        refine Go.st (fun _ k => XS.goto X0.here hx rfl (pc0 := 227) (pc' := 233) rfl (hb hby d4_227) (by decide) (by decide) k) ?_
        show Go p e below _ (s₁.setTop (mkF m 233 #[.val (.ref a0), .val (.int p1), .val (.int (x0 &&& (255 : Int32))), .val (.int (4 : Int32)), .val (.int lo), .val (.int hi), .val (.int (p1 + (4 : Int32))), .val (.int (1 : Int32)), .val (.int (x1 &&& (255 : Int32))), .val (.int (1 : Int32))] [(.int hi), (.int (x1 &&& (255 : Int32)))]))
        by_cases hc23 : hi < (x1 &&& (255 : Int32))
        · show Go p e below _ (s₁.setTop (mkF m 233 #[.val (.ref a0), .val (.int p1), .val (.int (x0 &&& (255 : Int32))), .val (.int (4 : Int32)), .val (.int lo), .val (.int hi), .val (.int (p1 + (4 : Int32))), .val (.int (1 : Int32)), .val (.int (x1 &&& (255 : Int32))), .val (.int (1 : Int32))] [(.int hi), (.int (x1 &&& (255 : Int32)))]))
          refine Go.st (fun _ k => XS.icmpNo X0.here hx rfl (hb hby d4_233) rfl (tlt hc23).2.2.2 k) ?_
          show Go p e below _ (s₁.setTop (mkF m 236 #[.val (.ref a0), .val (.int p1), .val (.int (x0 &&& (255 : Int32))), .val (.int (4 : Int32)), .val (.int lo), .val (.int hi), .val (.int (p1 + (4 : Int32))), .val (.int (1 : Int32)), .val (.int (x1 &&& (255 : Int32))), .val (.int (1 : Int32))] []))
          refine Go.st (fun _ k => XS.iconst X0.here hx rfl (hb hby d4_236) k) ?_
          refine Go.st (fun _ k => XS.istore X0.here hx rfl (hb hby d4_237) rfl (l' := #[.val (.ref a0), .val (.int p1), .val (.int (x0 &&& (255 : Int32))), .val (.int (4 : Int32)), .val (.int lo), .val (.int hi), .val (.int (-1 : Int32)), .val (.int (1 : Int32)), .val (.int (x1 &&& (255 : Int32))), .val (.int (1 : Int32))]) rfl k) ?_
          show Go p e below _ (s₁.setTop (mkF m 239 #[.val (.ref a0), .val (.int p1), .val (.int (x0 &&& (255 : Int32))), .val (.int (4 : Int32)), .val (.int lo), .val (.int hi), .val (.int (-1 : Int32)), .val (.int (1 : Int32)), .val (.int (x1 &&& (255 : Int32))), .val (.int (1 : Int32))] []))
          refine Go.st (fun _ k => XS.iinc X0.here hx rfl (hb hby d4_239) rfl (l' := #[.val (.ref a0), .val (.int p1), .val (.int (x0 &&& (255 : Int32))), .val (.int (4 : Int32)), .val (.int lo), .val (.int hi), .val (.int (-1 : Int32)), .val (.int (2 : Int32)), .val (.int (x1 &&& (255 : Int32))), .val (.int (1 : Int32))]) rfl k) ?_
          show Go p e below _ (s₁.setTop (mkF m 242 #[.val (.ref a0), .val (.int p1), .val (.int (x0 &&& (255 : Int32))), .val (.int (4 : Int32)), .val (.int lo), .val (.int hi), .val (.int (-1 : Int32)), .val (.int (2 : Int32)), .val (.int (x1 &&& (255 : Int32))), .val (.int (1 : Int32))] []))
          refine Go.st (fun _ k => XS.goto X0.here hx rfl (pc0 := 242) (pc' := 163) rfl (hb hby d4_242) (by decide) (by decide) k) ?_
          show Go p e below _ (s₁.setTop (mkF m 163 #[.val (.ref a0), .val (.int p1), .val (.int (x0 &&& (255 : Int32))), .val (.int (4 : Int32)), .val (.int lo), .val (.int hi), .val (.int (-1 : Int32)), .val (.int (2 : Int32)), .val (.int (x1 &&& (255 : Int32))), .val (.int (1 : Int32))] []))
          refine Go.st (fun _ k => XS.iload X0.here hx rfl (hb hby d4_163) rfl k) ?_
          refine Go.st (fun _ k => XS.iloadN X0.here hx rfl (hb hby d4_165) rfl k) ?_
          show Go p e below _ (s₁.setTop (mkF m 166 #[.val (.ref a0), .val (.int p1), .val (.int (x0 &&& (255 : Int32))), .val (.int (4 : Int32)), .val (.int lo), .val (.int hi), .val (.int (-1 : Int32)), .val (.int (2 : Int32)), .val (.int (x1 &&& (255 : Int32))), .val (.int (1 : Int32))] [(.int (4 : Int32)), (.int (2 : Int32))]))
          refine Go.st (fun _ k => XS.icmpNo X0.here hx rfl (hb hby d4_166) rfl (tlt (by decide : ((2 : Int32) < (4 : Int32)))).2.1 k) ?_
          show Go p e below _ (s₁.setTop (mkF m 169 #[.val (.ref a0), .val (.int p1), .val (.int (x0 &&& (255 : Int32))), .val (.int (4 : Int32)), .val (.int lo), .val (.int hi), .val (.int (-1 : Int32)), .val (.int (2 : Int32)), .val (.int (x1 &&& (255 : Int32))), .val (.int (1 : Int32))] []))
          refine Go.st (fun _ k => XS.iload X0.here hx rfl (hb hby d4_169) rfl k) ?_
          refine Go.st (fun _ k => XS.iconst X0.here hx rfl (hb hby d4_171) k) ?_
          show Go p e below _ (s₁.setTop (mkF m 172 #[.val (.ref a0), .val (.int p1), .val (.int (x0 &&& (255 : Int32))), .val (.int (4 : Int32)), .val (.int lo), .val (.int hi), .val (.int (-1 : Int32)), .val (.int (2 : Int32)), .val (.int (x1 &&& (255 : Int32))), .val (.int (1 : Int32))] [(.int (-1 : Int32)), (.int (-1 : Int32))]))
          refine Go.st (fun _ k => XS.icmpYes X0.here hx rfl (pc0 := 172) (pc' := 245) rfl (hb hby d4_172) rfl (teq (by decide : ((-1 : Int32) = (-1 : Int32)))).1 (by decide) (by decide) k) ?_
          show Go p e below _ (s₁.setTop (mkF m 245 #[.val (.ref a0), .val (.int p1), .val (.int (x0 &&& (255 : Int32))), .val (.int (4 : Int32)), .val (.int lo), .val (.int hi), .val (.int (-1 : Int32)), .val (.int (2 : Int32)), .val (.int (x1 &&& (255 : Int32))), .val (.int (1 : Int32))] []))
          refine Go.st (fun _ k => XS.iload X0.here hx rfl (hb hby d4_245) rfl k) ?_
          obtain ⟨fs, hr, hrun, hended, hW, hsame⟩ := X0.leave (v := some (.int (-1 : Int32))) (fun h => by rw [Bd.returns] at h; cases h)
          refine ⟨_, _, retI X0 hx Bd.returns (hb hby d4_247) hr, hrun, hended, _, _, rfl, ?_, ⟨_, rfl⟩, hW, hsame.mono (by decide) (by decide)⟩
          show Q_rmCE Z x0 x1 x2 x3 a0 p1 kk z vs h0 n0 _ s₁.heap _
          rw [e0]
          refine ⟨?_, N0, rfl⟩
          rw [hj]
          unfold fT4
          rw [if_neg hc19, if_neg hc22, if_pos hc23]
        · show Go p e below _ (s₁.setTop (mkF m 233 #[.val (.ref a0), .val (.int p1), .val (.int (x0 &&& (255 : Int32))), .val (.int (4 : Int32)), .val (.int lo), .val (.int hi), .val (.int (p1 + (4 : Int32))), .val (.int (1 : Int32)), .val (.int (x1 &&& (255 : Int32))), .val (.int (1 : Int32))] [(.int hi), (.int (x1 &&& (255 : Int32)))]))
          refine Go.st (fun _ k => XS.icmpYes X0.here hx rfl (pc0 := 233) (pc' := 239) rfl (hb hby d4_233) rfl (flt hc23).2.2.2 (by decide) (by decide) k) ?_
          show Go p e below _ (s₁.setTop (mkF m 239 #[.val (.ref a0), .val (.int p1), .val (.int (x0 &&& (255 : Int32))), .val (.int (4 : Int32)), .val (.int lo), .val (.int hi), .val (.int (p1 + (4 : Int32))), .val (.int (1 : Int32)), .val (.int (x1 &&& (255 : Int32))), .val (.int (1 : Int32))] []))
          refine Go.st (fun _ k => XS.iinc X0.here hx rfl (hb hby d4_239) rfl (l' := #[.val (.ref a0), .val (.int p1), .val (.int (x0 &&& (255 : Int32))), .val (.int (4 : Int32)), .val (.int lo), .val (.int hi), .val (.int (p1 + (4 : Int32))), .val (.int (2 : Int32)), .val (.int (x1 &&& (255 : Int32))), .val (.int (1 : Int32))]) rfl k) ?_
          show Go p e below _ (s₁.setTop (mkF m 242 #[.val (.ref a0), .val (.int p1), .val (.int (x0 &&& (255 : Int32))), .val (.int (4 : Int32)), .val (.int lo), .val (.int hi), .val (.int (p1 + (4 : Int32))), .val (.int (2 : Int32)), .val (.int (x1 &&& (255 : Int32))), .val (.int (1 : Int32))] []))
          refine Go.st (fun _ k => XS.goto X0.here hx rfl (pc0 := 242) (pc' := 163) rfl (hb hby d4_242) (by decide) (by decide) k) ?_
          show Go p e below _ (s₁.setTop (mkF m 163 #[.val (.ref a0), .val (.int p1), .val (.int (x0 &&& (255 : Int32))), .val (.int (4 : Int32)), .val (.int lo), .val (.int hi), .val (.int (p1 + (4 : Int32))), .val (.int (2 : Int32)), .val (.int (x1 &&& (255 : Int32))), .val (.int (1 : Int32))] []))
          refine Go.st (fun _ k => XS.iload X0.here hx rfl (hb hby d4_163) rfl k) ?_
          refine Go.st (fun _ k => XS.iloadN X0.here hx rfl (hb hby d4_165) rfl k) ?_
          show Go p e below _ (s₁.setTop (mkF m 166 #[.val (.ref a0), .val (.int p1), .val (.int (x0 &&& (255 : Int32))), .val (.int (4 : Int32)), .val (.int lo), .val (.int hi), .val (.int (p1 + (4 : Int32))), .val (.int (2 : Int32)), .val (.int (x1 &&& (255 : Int32))), .val (.int (1 : Int32))] [(.int (4 : Int32)), (.int (2 : Int32))]))
          refine Go.st (fun _ k => XS.icmpNo X0.here hx rfl (hb hby d4_166) rfl (tlt (by decide : ((2 : Int32) < (4 : Int32)))).2.1 k) ?_
          show Go p e below _ (s₁.setTop (mkF m 169 #[.val (.ref a0), .val (.int p1), .val (.int (x0 &&& (255 : Int32))), .val (.int (4 : Int32)), .val (.int lo), .val (.int hi), .val (.int (p1 + (4 : Int32))), .val (.int (2 : Int32)), .val (.int (x1 &&& (255 : Int32))), .val (.int (1 : Int32))] []))
          refine Go.st (fun _ k => XS.iload X0.here hx rfl (hb hby d4_169) rfl k) ?_
          refine Go.st (fun _ k => XS.iconst X0.here hx rfl (hb hby d4_171) k) ?_
          show Go p e below _ (s₁.setTop (mkF m 172 #[.val (.ref a0), .val (.int p1), .val (.int (x0 &&& (255 : Int32))), .val (.int (4 : Int32)), .val (.int lo), .val (.int hi), .val (.int (p1 + (4 : Int32))), .val (.int (2 : Int32)), .val (.int (x1 &&& (255 : Int32))), .val (.int (1 : Int32))] [(.int (-1 : Int32)), (.int (p1 + (4 : Int32)))]))
          refine Go.st (fun _ k => XS.icmpNo X0.here hx rfl (hb hby d4_172) rfl (feq (own_notm1 hs0 hs1 hs2 (by decide) (by decide))).1 k) ?_
          show Go p e below _ (s₁.setTop (mkF m 175 #[.val (.ref a0), .val (.int p1), .val (.int (x0 &&& (255 : Int32))), .val (.int (4 : Int32)), .val (.int lo), .val (.int hi), .val (.int (p1 + (4 : Int32))), .val (.int (2 : Int32)), .val (.int (x1 &&& (255 : Int32))), .val (.int (1 : Int32))] []))
          refine Go.st (fun _ k => XS.aloadN X0.here hx rfl (hb hby d4_175) rfl rfl k) ?_
          refine Go.st (fun _ k => XS.iloadN X0.here hx rfl (hb hby d4_176) rfl k) ?_
          show Go p e below _ (s₁.setTop (mkF m 177 #[.val (.ref a0), .val (.int p1), .val (.int (x0 &&& (255 : Int32))), .val (.int (4 : Int32)), .val (.int lo), .val (.int hi), .val (.int (p1 + (4 : Int32))), .val (.int (2 : Int32)), .val (.int (x1 &&& (255 : Int32))), .val (.int (1 : Int32))] [(.int p1), (.ref a0)]))
          refine Go.st (fun _ k => XS.iload X0.here hx rfl (hb hby d4_177) rfl k) ?_
          refine Go.st (fun _ k => XS.iadd X0.here hx rfl (hb hby d4_179) rfl k) ?_
          show Go p e below _ (s₁.setTop (mkF m 180 #[.val (.ref a0), .val (.int p1), .val (.int (x0 &&& (255 : Int32))), .val (.int (4 : Int32)), .val (.int lo), .val (.int hi), .val (.int (p1 + (4 : Int32))), .val (.int (2 : Int32)), .val (.int (x1 &&& (255 : Int32))), .val (.int (1 : Int32))] [(.int (p1 + (2 : Int32))), (.ref a0)]))
          have hk24 : p1.toInt + 2 < z.toInt := own_room hs0 hs1 hs2 hc19 (by decide) (by decide)
          obtain ⟨cl25, Ar25, ck25, Sz25, Nn25, Hs25, Gs25⟩ := id V
          have hin25 : ¬ ((p1 + (2 : Int32)) < 0 ∨ cl25.slots.size ≤ ((p1 + (2 : Int32))).toNatClampNeg) := inb_of Sz25 (own_ink hs0 hs2 (k := (2 : Int32)) (by decide) (by decide) hk24)
          have hat25 : cl25.slots[((p1 + (2 : Int32))).toNatClampNeg]? = some (.int x2) := Hs25.at hin25 (he2 hk24)
          refine Go.st (fun _ k => X0.baloadBytes hx (j := (p1 + (2 : Int32))) (v := (.int x2)) (by rw [e0]; exact Ar25.1) (State.isArrayOf_alike hZ.alike Ar25.2.1) Ar25.2.2 hin25 hat25 (g := (mkF m 180 #[.val (.ref a0), .val (.int p1), .val (.int (x0 &&& (255 : Int32))), .val (.int (4 : Int32)), .val (.int lo), .val (.int hi), .val (.int (p1 + (4 : Int32))), .val (.int (2 : Int32)), .val (.int (x1 &&& (255 : Int32))), .val (.int (1 : Int32))] [(.int (p1 + (2 : Int32))), (.ref a0)])) rfl rfl (hb hby d4_180) _ k) ?_
          show Go p e below _ (s₁.setTop (mkF m 181 #[.val (.ref a0), .val (.int p1), .val (.int (x0 &&& (255 : Int32))), .val (.int (4 : Int32)), .val (.int lo), .val (.int hi), .val (.int (p1 + (4 : Int32))), .val (.int (2 : Int32)), .val (.int (x1 &&& (255 : Int32))), .val (.int (1 : Int32))] [(.int x2)]))
          refine Go.st (fun _ k => XS.sipush X0.here hx rfl (hb hby d4_181) k) ?_
          refine Go.st (fun _ k => XS.iand X0.here hx rfl (hb hby d4_184) rfl k) ?_
          show Go p e below _ (s₁.setTop (mkF m 185 #[.val (.ref a0), .val (.int p1), .val (.int (x0 &&& (255 : Int32))), .val (.int (4 : Int32)), .val (.int lo), .val (.int hi), .val (.int (p1 + (4 : Int32))), .val (.int (2 : Int32)), .val (.int (x1 &&& (255 : Int32))), .val (.int (1 : Int32))] [(.int (x2 &&& (255 : Int32)))]))
          refine Go.st (fun _ k => XS.istore X0.here hx rfl (hb hby d4_185) rfl (l' := #[.val (.ref a0), .val (.int p1), .val (.int (x0 &&& (255 : Int32))), .val (.int (4 : Int32)), .val (.int lo), .val (.int hi), .val (.int (p1 + (4 : Int32))), .val (.int (2 : Int32)), .val (.int (x2 &&& (255 : Int32))), .val (.int (1 : Int32))]) rfl k) ?_
          show Go p e below _ (s₁.setTop (mkF m 187 #[.val (.ref a0), .val (.int p1), .val (.int (x0 &&& (255 : Int32))), .val (.int (4 : Int32)), .val (.int lo), .val (.int hi), .val (.int (p1 + (4 : Int32))), .val (.int (2 : Int32)), .val (.int (x2 &&& (255 : Int32))), .val (.int (1 : Int32))] []))
          refine Go.st (fun _ k => XS.iload X0.here hx rfl (hb hby d4_187) rfl k) ?_
          refine Go.st (fun _ k => XS.iconst X0.here hx rfl (hb hby d4_189) k) ?_
          show Go p e below _ (s₁.setTop (mkF m 190 #[.val (.ref a0), .val (.int p1), .val (.int (x0 &&& (255 : Int32))), .val (.int (4 : Int32)), .val (.int lo), .val (.int hi), .val (.int (p1 + (4 : Int32))), .val (.int (2 : Int32)), .val (.int (x2 &&& (255 : Int32))), .val (.int (1 : Int32))] [(.int (1 : Int32)), (.int (2 : Int32))]))
          refine Go.st (fun _ k => XS.icmpYes X0.here hx rfl (pc0 := 190) (pc' := 197) rfl (hb hby d4_190) rfl (feq (by decide : ¬ ((2 : Int32) = (1 : Int32)))).2 (by decide) (by decide) k) ?_
          show Go p e below _ (s₁.setTop (mkF m 197 #[.val (.ref a0), .val (.int p1), .val (.int (x0 &&& (255 : Int32))), .val (.int (4 : Int32)), .val (.int lo), .val (.int hi), .val (.int (p1 + (4 : Int32))), .val (.int (2 : Int32)), .val (.int (x2 &&& (255 : Int32))), .val (.int (1 : Int32))] []))
          refine Go.st (fun _ k => XS.iconst X0.here hx rfl (hb hby d4_197) k) ?_
          refine Go.st (fun _ k => XS.istore X0.here hx rfl (hb hby d4_198) rfl (l' := #[.val (.ref a0), .val (.int p1), .val (.int (x0 &&& (255 : Int32))), .val (.int (4 : Int32)), .val (.int lo), .val (.int hi), .val (.int (p1 + (4 : Int32))), .val (.int (2 : Int32)), .val (.int (x2 &&& (255 : Int32))), .val (.int (0 : Int32))]) rfl k) ?_
          show Go p e below _ (s₁.setTop (mkF m 200 #[.val (.ref a0), .val (.int p1), .val (.int (x0 &&& (255 : Int32))), .val (.int (4 : Int32)), .val (.int lo), .val (.int hi), .val (.int (p1 + (4 : Int32))), .val (.int (2 : Int32)), .val (.int (x2 &&& (255 : Int32))), .val (.int (0 : Int32))] []))
          refine Go.st (fun _ k => XS.iload X0.here hx rfl (hb hby d4_200) rfl k) ?_
          refine Go.st (fun _ k => XS.iload X0.here hx rfl (hb hby d4_202) rfl k) ?_
          show Go p e below _ (s₁.setTop (mkF m 204 #[.val (.ref a0), .val (.int p1), .val (.int (x0 &&& (255 : Int32))), .val (.int (4 : Int32)), .val (.int lo), .val (.int hi), .val (.int (p1 + (4 : Int32))), .val (.int (2 : Int32)), .val (.int (x2 &&& (255 : Int32))), .val (.int (0 : Int32))] [(.int (0 : Int32)), (.int (x2 &&& (255 : Int32)))]))
          refine Go.st (fun _ k => XS.ifYes X0.here hx rfl (pc0 := 204) (pc' := 212) rfl (hb hby d4_204) rfl ((if0 _ _).trans (teq (by decide : ((0 : Int32) = (0 : Int32)))).1) (by decide) (by decide) k) ?_
          show Go p e below _ (s₁.setTop (mkF m 212 #[.val (.ref a0), .val (.int p1), .val (.int (x0 &&& (255 : Int32))), .val (.int (4 : Int32)), .val (.int lo), .val (.int hi), .val (.int (p1 + (4 : Int32))), .val (.int (2 : Int32)), .val (.int (x2 &&& (255 : Int32))), .val (.int (0 : Int32))] [(.int (x2 &&& (255 : Int32)))]))
          refine Go.st (fun _ k => XS.sipush X0.here hx rfl (hb hby d4_212) k) ?_
          by_cases hc26 : (x2 &&& (255 : Int32)) < (128 : Int32)
          · show Go p e below _ (s₁.setTop (mkF m 215 #[.val (.ref a0), .val (.int p1), .val (.int (x0 &&& (255 : Int32))), .val (.int (4 : Int32)), .val (.int lo), .val (.int hi), .val (.int (p1 + (4 : Int32))), .val (.int (2 : Int32)), .val (.int (x2 &&& (255 : Int32))), .val (.int (0 : Int32))] [(.int (128 : Int32)), (.int (x2 &&& (255 : Int32)))]))
            refine Go.st (fun _ k => XS.icmpYes X0.here hx rfl (pc0 := 215) (pc' := 236) rfl (hb hby d4_215) rfl (tlt hc26).1 (by decide) (by decide) k) ?_
            show Go p e below _ (s₁.setTop (mkF m 236 #[.val (.ref a0), .val (.int p1), .val (.int (x0 &&& (255 : Int32))), .val (.int (4 : Int32)), .val (.int lo), .val (.int hi), .val (.int (p1 + (4 : Int32))), .val (.int (2 : Int32)), .val (.int (x2 &&& (255 : Int32))), .val (.int (0 : Int32))] []))
            refine Go.st (fun _ k => XS.iconst X0.here hx rfl (hb hby d4_236) k) ?_
            refine Go.st (fun _ k => XS.istore X0.here hx rfl (hb hby d4_237) rfl (l' := #[.val (.ref a0), .val (.int p1), .val (.int (x0 &&& (255 : Int32))), .val (.int (4 : Int32)), .val (.int lo), .val (.int hi), .val (.int (-1 : Int32)), .val (.int (2 : Int32)), .val (.int (x2 &&& (255 : Int32))), .val (.int (0 : Int32))]) rfl k) ?_
            show Go p e below _ (s₁.setTop (mkF m 239 #[.val (.ref a0), .val (.int p1), .val (.int (x0 &&& (255 : Int32))), .val (.int (4 : Int32)), .val (.int lo), .val (.int hi), .val (.int (-1 : Int32)), .val (.int (2 : Int32)), .val (.int (x2 &&& (255 : Int32))), .val (.int (0 : Int32))] []))
            refine Go.st (fun _ k => XS.iinc X0.here hx rfl (hb hby d4_239) rfl (l' := #[.val (.ref a0), .val (.int p1), .val (.int (x0 &&& (255 : Int32))), .val (.int (4 : Int32)), .val (.int lo), .val (.int hi), .val (.int (-1 : Int32)), .val (.int (3 : Int32)), .val (.int (x2 &&& (255 : Int32))), .val (.int (0 : Int32))]) rfl k) ?_
            show Go p e below _ (s₁.setTop (mkF m 242 #[.val (.ref a0), .val (.int p1), .val (.int (x0 &&& (255 : Int32))), .val (.int (4 : Int32)), .val (.int lo), .val (.int hi), .val (.int (-1 : Int32)), .val (.int (3 : Int32)), .val (.int (x2 &&& (255 : Int32))), .val (.int (0 : Int32))] []))
            refine Go.st (fun _ k => XS.goto X0.here hx rfl (pc0 := 242) (pc' := 163) rfl (hb hby d4_242) (by decide) (by decide) k) ?_
            show Go p e below _ (s₁.setTop (mkF m 163 #[.val (.ref a0), .val (.int p1), .val (.int (x0 &&& (255 : Int32))), .val (.int (4 : Int32)), .val (.int lo), .val (.int hi), .val (.int (-1 : Int32)), .val (.int (3 : Int32)), .val (.int (x2 &&& (255 : Int32))), .val (.int (0 : Int32))] []))
            refine Go.st (fun _ k => XS.iload X0.here hx rfl (hb hby d4_163) rfl k) ?_
            refine Go.st (fun _ k => XS.iloadN X0.here hx rfl (hb hby d4_165) rfl k) ?_
            show Go p e below _ (s₁.setTop (mkF m 166 #[.val (.ref a0), .val (.int p1), .val (.int (x0 &&& (255 : Int32))), .val (.int (4 : Int32)), .val (.int lo), .val (.int hi), .val (.int (-1 : Int32)), .val (.int (3 : Int32)), .val (.int (x2 &&& (255 : Int32))), .val (.int (0 : Int32))] [(.int (4 : Int32)), (.int (3 : Int32))]))
            refine Go.st (fun _ k => XS.icmpNo X0.here hx rfl (hb hby d4_166) rfl (tlt (by decide : ((3 : Int32) < (4 : Int32)))).2.1 k) ?_
            show Go p e below _ (s₁.setTop (mkF m 169 #[.val (.ref a0), .val (.int p1), .val (.int (x0 &&& (255 : Int32))), .val (.int (4 : Int32)), .val (.int lo), .val (.int hi), .val (.int (-1 : Int32)), .val (.int (3 : Int32)), .val (.int (x2 &&& (255 : Int32))), .val (.int (0 : Int32))] []))
            refine Go.st (fun _ k => XS.iload X0.here hx rfl (hb hby d4_169) rfl k) ?_
            refine Go.st (fun _ k => XS.iconst X0.here hx rfl (hb hby d4_171) k) ?_
            show Go p e below _ (s₁.setTop (mkF m 172 #[.val (.ref a0), .val (.int p1), .val (.int (x0 &&& (255 : Int32))), .val (.int (4 : Int32)), .val (.int lo), .val (.int hi), .val (.int (-1 : Int32)), .val (.int (3 : Int32)), .val (.int (x2 &&& (255 : Int32))), .val (.int (0 : Int32))] [(.int (-1 : Int32)), (.int (-1 : Int32))]))
            refine Go.st (fun _ k => XS.icmpYes X0.here hx rfl (pc0 := 172) (pc' := 245) rfl (hb hby d4_172) rfl (teq (by decide : ((-1 : Int32) = (-1 : Int32)))).1 (by decide) (by decide) k) ?_
            show Go p e below _ (s₁.setTop (mkF m 245 #[.val (.ref a0), .val (.int p1), .val (.int (x0 &&& (255 : Int32))), .val (.int (4 : Int32)), .val (.int lo), .val (.int hi), .val (.int (-1 : Int32)), .val (.int (3 : Int32)), .val (.int (x2 &&& (255 : Int32))), .val (.int (0 : Int32))] []))
            refine Go.st (fun _ k => XS.iload X0.here hx rfl (hb hby d4_245) rfl k) ?_
            obtain ⟨fs, hr, hrun, hended, hW, hsame⟩ := X0.leave (v := some (.int (-1 : Int32))) (fun h => by rw [Bd.returns] at h; cases h)
            refine ⟨_, _, retI X0 hx Bd.returns (hb hby d4_247) hr, hrun, hended, _, _, rfl, ?_, ⟨_, rfl⟩, hW, hsame.mono (by decide) (by decide)⟩
            show Q_rmCE Z x0 x1 x2 x3 a0 p1 kk z vs h0 n0 _ s₁.heap _
            rw [e0]
            refine ⟨?_, N0, rfl⟩
            rw [hj]
            unfold fT4
            rw [if_neg hc19, if_neg hc22, if_neg hc23, if_pos hc26]
          · show Go p e below _ (s₁.setTop (mkF m 215 #[.val (.ref a0), .val (.int p1), .val (.int (x0 &&& (255 : Int32))), .val (.int (4 : Int32)), .val (.int lo), .val (.int hi), .val (.int (p1 + (4 : Int32))), .val (.int (2 : Int32)), .val (.int (x2 &&& (255 : Int32))), .val (.int (0 : Int32))] [(.int (128 : Int32)), (.int (x2 &&& (255 : Int32)))]))
            refine Go.st (fun _ k => XS.icmpNo X0.here hx rfl (hb hby d4_215) rfl (flt hc26).1 k) ?_
            show Go p e below _ (s₁.setTop (mkF m 218 #[.val (.ref a0), .val (.int p1), .val (.int (x0 &&& (255 : Int32))), .val (.int (4 : Int32)), .val (.int lo), .val (.int hi), .val (.int (p1 + (4 : Int32))), .val (.int (2 : Int32)), .val (.int (x2 &&& (255 : Int32))), .val (.int (0 : Int32))] []))
            refine Go.st (fun _ k => XS.iload X0.here hx rfl (hb hby d4_218) rfl k) ?_
            refine Go.st (fun _ k => XS.iload X0.here hx rfl (hb hby d4_220) rfl k) ?_
            show Go p e below _ (s₁.setTop (mkF m 222 #[.val (.ref a0), .val (.int p1), .val (.int (x0 &&& (255 : Int32))), .val (.int (4 : Int32)), .val (.int lo), .val (.int hi), .val (.int (p1 + (4 : Int32))), .val (.int (2 : Int32)), .val (.int (x2 &&& (255 : Int32))), .val (.int (0 : Int32))] [(.int (0 : Int32)), (.int (x2 &&& (255 : Int32)))]))
            refine Go.st (fun _ k => XS.ifYes X0.here hx rfl (pc0 := 222) (pc' := 230) rfl (hb hby d4_222) rfl ((if0 _ _).trans (teq (by decide : ((0 : Int32) = (0 : Int32)))).1) (by decide) (by decide) k) ?_
            show Go p e below _ (s₁.setTop (mkF m 230 #[.val (.ref a0), .val (.int p1), .val (.int (x0 &&& (255 : Int32))), .val (.int (4 : Int32)), .val (.int lo), .val (.int hi), .val (.int (p1 + (4 : Int32))), .val (.int (2 : Int32)), .val (.int (x2 &&& (255 : Int32))), .val (.int (0 : Int32))] [(.int (x2 &&& (255 : Int32)))]))
            refine Go.st (fun _ k => XS.sipush X0.here hx rfl (hb hby d4_230) k) ?_
            by_cases hc27 : (191 : Int32) < (x2 &&& (255 : Int32))
            · show Go p e below _ (s₁.setTop (mkF m 233 #[.val (.ref a0), .val (.int p1), .val (.int (x0 &&& (255 : Int32))), .val (.int (4 : Int32)), .val (.int lo), .val (.int hi), .val (.int (p1 + (4 : Int32))), .val (.int (2 : Int32)), .val (.int (x2 &&& (255 : Int32))), .val (.int (0 : Int32))] [(.int (191 : Int32)), (.int (x2 &&& (255 : Int32)))]))
              refine Go.st (fun _ k => XS.icmpNo X0.here hx rfl (hb hby d4_233) rfl (tlt hc27).2.2.2 k) ?_
              show Go p e below _ (s₁.setTop (mkF m 236 #[.val (.ref a0), .val (.int p1), .val (.int (x0 &&& (255 : Int32))), .val (.int (4 : Int32)), .val (.int lo), .val (.int hi), .val (.int (p1 + (4 : Int32))), .val (.int (2 : Int32)), .val (.int (x2 &&& (255 : Int32))), .val (.int (0 : Int32))] []))
              refine Go.st (fun _ k => XS.iconst X0.here hx rfl (hb hby d4_236) k) ?_
              refine Go.st (fun _ k => XS.istore X0.here hx rfl (hb hby d4_237) rfl (l' := #[.val (.ref a0), .val (.int p1), .val (.int (x0 &&& (255 : Int32))), .val (.int (4 : Int32)), .val (.int lo), .val (.int hi), .val (.int (-1 : Int32)), .val (.int (2 : Int32)), .val (.int (x2 &&& (255 : Int32))), .val (.int (0 : Int32))]) rfl k) ?_
              show Go p e below _ (s₁.setTop (mkF m 239 #[.val (.ref a0), .val (.int p1), .val (.int (x0 &&& (255 : Int32))), .val (.int (4 : Int32)), .val (.int lo), .val (.int hi), .val (.int (-1 : Int32)), .val (.int (2 : Int32)), .val (.int (x2 &&& (255 : Int32))), .val (.int (0 : Int32))] []))
              refine Go.st (fun _ k => XS.iinc X0.here hx rfl (hb hby d4_239) rfl (l' := #[.val (.ref a0), .val (.int p1), .val (.int (x0 &&& (255 : Int32))), .val (.int (4 : Int32)), .val (.int lo), .val (.int hi), .val (.int (-1 : Int32)), .val (.int (3 : Int32)), .val (.int (x2 &&& (255 : Int32))), .val (.int (0 : Int32))]) rfl k) ?_
              show Go p e below _ (s₁.setTop (mkF m 242 #[.val (.ref a0), .val (.int p1), .val (.int (x0 &&& (255 : Int32))), .val (.int (4 : Int32)), .val (.int lo), .val (.int hi), .val (.int (-1 : Int32)), .val (.int (3 : Int32)), .val (.int (x2 &&& (255 : Int32))), .val (.int (0 : Int32))] []))
              refine Go.st (fun _ k => XS.goto X0.here hx rfl (pc0 := 242) (pc' := 163) rfl (hb hby d4_242) (by decide) (by decide) k) ?_
              show Go p e below _ (s₁.setTop (mkF m 163 #[.val (.ref a0), .val (.int p1), .val (.int (x0 &&& (255 : Int32))), .val (.int (4 : Int32)), .val (.int lo), .val (.int hi), .val (.int (-1 : Int32)), .val (.int (3 : Int32)), .val (.int (x2 &&& (255 : Int32))), .val (.int (0 : Int32))] []))
              refine Go.st (fun _ k => XS.iload X0.here hx rfl (hb hby d4_163) rfl k) ?_
              refine Go.st (fun _ k => XS.iloadN X0.here hx rfl (hb hby d4_165) rfl k) ?_
              show Go p e below _ (s₁.setTop (mkF m 166 #[.val (.ref a0), .val (.int p1), .val (.int (x0 &&& (255 : Int32))), .val (.int (4 : Int32)), .val (.int lo), .val (.int hi), .val (.int (-1 : Int32)), .val (.int (3 : Int32)), .val (.int (x2 &&& (255 : Int32))), .val (.int (0 : Int32))] [(.int (4 : Int32)), (.int (3 : Int32))]))
              refine Go.st (fun _ k => XS.icmpNo X0.here hx rfl (hb hby d4_166) rfl (tlt (by decide : ((3 : Int32) < (4 : Int32)))).2.1 k) ?_
              show Go p e below _ (s₁.setTop (mkF m 169 #[.val (.ref a0), .val (.int p1), .val (.int (x0 &&& (255 : Int32))), .val (.int (4 : Int32)), .val (.int lo), .val (.int hi), .val (.int (-1 : Int32)), .val (.int (3 : Int32)), .val (.int (x2 &&& (255 : Int32))), .val (.int (0 : Int32))] []))
              refine Go.st (fun _ k => XS.iload X0.here hx rfl (hb hby d4_169) rfl k) ?_
              refine Go.st (fun _ k => XS.iconst X0.here hx rfl (hb hby d4_171) k) ?_
              show Go p e below _ (s₁.setTop (mkF m 172 #[.val (.ref a0), .val (.int p1), .val (.int (x0 &&& (255 : Int32))), .val (.int (4 : Int32)), .val (.int lo), .val (.int hi), .val (.int (-1 : Int32)), .val (.int (3 : Int32)), .val (.int (x2 &&& (255 : Int32))), .val (.int (0 : Int32))] [(.int (-1 : Int32)), (.int (-1 : Int32))]))
              refine Go.st (fun _ k => XS.icmpYes X0.here hx rfl (pc0 := 172) (pc' := 245) rfl (hb hby d4_172) rfl (teq (by decide : ((-1 : Int32) = (-1 : Int32)))).1 (by decide) (by decide) k) ?_
              show Go p e below _ (s₁.setTop (mkF m 245 #[.val (.ref a0), .val (.int p1), .val (.int (x0 &&& (255 : Int32))), .val (.int (4 : Int32)), .val (.int lo), .val (.int hi), .val (.int (-1 : Int32)), .val (.int (3 : Int32)), .val (.int (x2 &&& (255 : Int32))), .val (.int (0 : Int32))] []))
              refine Go.st (fun _ k => XS.iload X0.here hx rfl (hb hby d4_245) rfl k) ?_
              obtain ⟨fs, hr, hrun, hended, hW, hsame⟩ := X0.leave (v := some (.int (-1 : Int32))) (fun h => by rw [Bd.returns] at h; cases h)
              refine ⟨_, _, retI X0 hx Bd.returns (hb hby d4_247) hr, hrun, hended, _, _, rfl, ?_, ⟨_, rfl⟩, hW, hsame.mono (by decide) (by decide)⟩
              show Q_rmCE Z x0 x1 x2 x3 a0 p1 kk z vs h0 n0 _ s₁.heap _
              rw [e0]
              refine ⟨?_, N0, rfl⟩
              rw [hj]
              unfold fT4
              rw [if_neg hc19, if_neg hc22, if_neg hc23, if_neg hc26, if_pos hc27]
            · show Go p e below _ (s₁.setTop (mkF m 233 #[.val (.ref a0), .val (.int p1), .val (.int (x0 &&& (255 : Int32))), .val (.int (4 : Int32)), .val (.int lo), .val (.int hi), .val (.int (p1 + (4 : Int32))), .val (.int (2 : Int32)), .val (.int (x2 &&& (255 : Int32))), .val (.int (0 : Int32))] [(.int (191 : Int32)), (.int (x2 &&& (255 : Int32)))]))
              refine Go.st (fun _ k => XS.icmpYes X0.here hx rfl (pc0 := 233) (pc' := 239) rfl (hb hby d4_233) rfl (flt hc27).2.2.2 (by decide) (by decide) k) ?_
              show Go p e below _ (s₁.setTop (mkF m 239 #[.val (.ref a0), .val (.int p1), .val (.int (x0 &&& (255 : Int32))), .val (.int (4 : Int32)), .val (.int lo), .val (.int hi), .val (.int (p1 + (4 : Int32))), .val (.int (2 : Int32)), .val (.int (x2 &&& (255 : Int32))), .val (.int (0 : Int32))] []))
              refine Go.st (fun _ k => XS.iinc X0.here hx rfl (hb hby d4_239) rfl (l' := #[.val (.ref a0), .val (.int p1), .val (.int (x0 &&& (255 : Int32))), .val (.int (4 : Int32)), .val (.int lo), .val (.int hi), .val (.int (p1 + (4 : Int32))), .val (.int (3 : Int32)), .val (.int (x2 &&& (255 : Int32))), .val (.int (0 : Int32))]) rfl k) ?_
              show Go p e below _ (s₁.setTop (mkF m 242 #[.val (.ref a0), .val (.int p1), .val (.int (x0 &&& (255 : Int32))), .val (.int (4 : Int32)), .val (.int lo), .val (.int hi), .val (.int (p1 + (4 : Int32))), .val (.int (3 : Int32)), .val (.int (x2 &&& (255 : Int32))), .val (.int (0 : Int32))] []))
              refine Go.st (fun _ k => XS.goto X0.here hx rfl (pc0 := 242) (pc' := 163) rfl (hb hby d4_242) (by decide) (by decide) k) ?_
              show Go p e below _ (s₁.setTop (mkF m 163 #[.val (.ref a0), .val (.int p1), .val (.int (x0 &&& (255 : Int32))), .val (.int (4 : Int32)), .val (.int lo), .val (.int hi), .val (.int (p1 + (4 : Int32))), .val (.int (3 : Int32)), .val (.int (x2 &&& (255 : Int32))), .val (.int (0 : Int32))] []))
              refine Go.st (fun _ k => XS.iload X0.here hx rfl (hb hby d4_163) rfl k) ?_
              refine Go.st (fun _ k => XS.iloadN X0.here hx rfl (hb hby d4_165) rfl k) ?_
              show Go p e below _ (s₁.setTop (mkF m 166 #[.val (.ref a0), .val (.int p1), .val (.int (x0 &&& (255 : Int32))), .val (.int (4 : Int32)), .val (.int lo), .val (.int hi), .val (.int (p1 + (4 : Int32))), .val (.int (3 : Int32)), .val (.int (x2 &&& (255 : Int32))), .val (.int (0 : Int32))] [(.int (4 : Int32)), (.int (3 : Int32))]))
              refine Go.st (fun _ k => XS.icmpNo X0.here hx rfl (hb hby d4_166) rfl (tlt (by decide : ((3 : Int32) < (4 : Int32)))).2.1 k) ?_
              show Go p e below _ (s₁.setTop (mkF m 169 #[.val (.ref a0), .val (.int p1), .val (.int (x0 &&& (255 : Int32))), .val (.int (4 : Int32)), .val (.int lo), .val (.int hi), .val (.int (p1 + (4 : Int32))), .val (.int (3 : Int32)), .val (.int (x2 &&& (255 : Int32))), .val (.int (0 : Int32))] []))
              refine Go.st (fun _ k => XS.iload X0.here hx rfl (hb hby d4_169) rfl k) ?_
              refine Go.st (fun _ k => XS.iconst X0.here hx rfl (hb hby d4_171) k) ?_
              show Go p e below _ (s₁.setTop (mkF m 172 #[.val (.ref a0), .val (.int p1), .val (.int (x0 &&& (255 : Int32))), .val (.int (4 : Int32)), .val (.int lo), .val (.int hi), .val (.int (p1 + (4 : Int32))), .val (.int (3 : Int32)), .val (.int (x2 &&& (255 : Int32))), .val (.int (0 : Int32))] [(.int (-1 : Int32)), (.int (p1 + (4 : Int32)))]))
              refine Go.st (fun _ k => XS.icmpNo X0.here hx rfl (hb hby d4_172) rfl (feq (own_notm1 hs0 hs1 hs2 (by decide) (by decide))).1 k) ?_
              show Go p e below _ (s₁.setTop (mkF m 175 #[.val (.ref a0), .val (.int p1), .val (.int (x0 &&& (255 : Int32))), .val (.int (4 : Int32)), .val (.int lo), .val (.int hi), .val (.int (p1 + (4 : Int32))), .val (.int (3 : Int32)), .val (.int (x2 &&& (255 : Int32))), .val (.int (0 : Int32))] []))
              refine Go.st (fun _ k => XS.aloadN X0.here hx rfl (hb hby d4_175) rfl rfl k) ?_
              refine Go.st (fun _ k => XS.iloadN X0.here hx rfl (hb hby d4_176) rfl k) ?_
              show Go p e below _ (s₁.setTop (mkF m 177 #[.val (.ref a0), .val (.int p1), .val (.int (x0 &&& (255 : Int32))), .val (.int (4 : Int32)), .val (.int lo), .val (.int hi), .val (.int (p1 + (4 : Int32))), .val (.int (3 : Int32)), .val (.int (x2 &&& (255 : Int32))), .val (.int (0 : Int32))] [(.int p1), (.ref a0)]))
              refine Go.st (fun _ k => XS.iload X0.here hx rfl (hb hby d4_177) rfl k) ?_
              refine Go.st (fun _ k => XS.iadd X0.here hx rfl (hb hby d4_179) rfl k) ?_
              show Go p e below _ (s₁.setTop (mkF m 180 #[.val (.ref a0), .val (.int p1), .val (.int (x0 &&& (255 : Int32))), .val (.int (4 : Int32)), .val (.int lo), .val (.int hi), .val (.int (p1 + (4 : Int32))), .val (.int (3 : Int32)), .val (.int (x2 &&& (255 : Int32))), .val (.int (0 : Int32))] [(.int (p1 + (3 : Int32))), (.ref a0)]))
              have hk28 : p1.toInt + 3 < z.toInt := own_room hs0 hs1 hs2 hc19 (by decide) (by decide)
              obtain ⟨cl29, Ar29, ck29, Sz29, Nn29, Hs29, Gs29⟩ := id V
              have hin29 : ¬ ((p1 + (3 : Int32)) < 0 ∨ cl29.slots.size ≤ ((p1 + (3 : Int32))).toNatClampNeg) := inb_of Sz29 (own_ink hs0 hs2 (k := (3 : Int32)) (by decide) (by decide) hk28)
              have hat29 : cl29.slots[((p1 + (3 : Int32))).toNatClampNeg]? = some (.int x3) := Hs29.at hin29 (he3 hk28)
              refine Go.st (fun _ k => X0.baloadBytes hx (j := (p1 + (3 : Int32))) (v := (.int x3)) (by rw [e0]; exact Ar29.1) (State.isArrayOf_alike hZ.alike Ar29.2.1) Ar29.2.2 hin29 hat29 (g := (mkF m 180 #[.val (.ref a0), .val (.int p1), .val (.int (x0 &&& (255 : Int32))), .val (.int (4 : Int32)), .val (.int lo), .val (.int hi), .val (.int (p1 + (4 : Int32))), .val (.int (3 : Int32)), .val (.int (x2 &&& (255 : Int32))), .val (.int (0 : Int32))] [(.int (p1 + (3 : Int32))), (.ref a0)])) rfl rfl (hb hby d4_180) _ k) ?_
              show Go p e below _ (s₁.setTop (mkF m 181 #[.val (.ref a0), .val (.int p1), .val (.int (x0 &&& (255 : Int32))), .val (.int (4 : Int32)), .val (.int lo), .val (.int hi), .val (.int (p1 + (4 : Int32))), .val (.int (3 : Int32)), .val (.int (x2 &&& (255 : Int32))), .val (.int (0 : Int32))] [(.int x3)]))
              refine Go.st (fun _ k => XS.sipush X0.here hx rfl (hb hby d4_181) k) ?_
              refine Go.st (fun _ k => XS.iand X0.here hx rfl (hb hby d4_184) rfl k) ?_
              show Go p e below _ (s₁.setTop (mkF m 185 #[.val (.ref a0), .val (.int p1), .val (.int (x0 &&& (255 : Int32))), .val (.int (4 : Int32)), .val (.int lo), .val (.int hi), .val (.int (p1 + (4 : Int32))), .val (.int (3 : Int32)), .val (.int (x2 &&& (255 : Int32))), .val (.int (0 : Int32))] [(.int (x3 &&& (255 : Int32)))]))
              refine Go.st (fun _ k => XS.istore X0.here hx rfl (hb hby d4_185) rfl (l' := #[.val (.ref a0), .val (.int p1), .val (.int (x0 &&& (255 : Int32))), .val (.int (4 : Int32)), .val (.int lo), .val (.int hi), .val (.int (p1 + (4 : Int32))), .val (.int (3 : Int32)), .val (.int (x3 &&& (255 : Int32))), .val (.int (0 : Int32))]) rfl k) ?_
              show Go p e below _ (s₁.setTop (mkF m 187 #[.val (.ref a0), .val (.int p1), .val (.int (x0 &&& (255 : Int32))), .val (.int (4 : Int32)), .val (.int lo), .val (.int hi), .val (.int (p1 + (4 : Int32))), .val (.int (3 : Int32)), .val (.int (x3 &&& (255 : Int32))), .val (.int (0 : Int32))] []))
              refine Go.st (fun _ k => XS.iload X0.here hx rfl (hb hby d4_187) rfl k) ?_
              refine Go.st (fun _ k => XS.iconst X0.here hx rfl (hb hby d4_189) k) ?_
              show Go p e below _ (s₁.setTop (mkF m 190 #[.val (.ref a0), .val (.int p1), .val (.int (x0 &&& (255 : Int32))), .val (.int (4 : Int32)), .val (.int lo), .val (.int hi), .val (.int (p1 + (4 : Int32))), .val (.int (3 : Int32)), .val (.int (x3 &&& (255 : Int32))), .val (.int (0 : Int32))] [(.int (1 : Int32)), (.int (3 : Int32))]))
              refine Go.st (fun _ k => XS.icmpYes X0.here hx rfl (pc0 := 190) (pc' := 197) rfl (hb hby d4_190) rfl (feq (by decide : ¬ ((3 : Int32) = (1 : Int32)))).2 (by decide) (by decide) k) ?_
              show Go p e below _ (s₁.setTop (mkF m 197 #[.val (.ref a0), .val (.int p1), .val (.int (x0 &&& (255 : Int32))), .val (.int (4 : Int32)), .val (.int lo), .val (.int hi), .val (.int (p1 + (4 : Int32))), .val (.int (3 : Int32)), .val (.int (x3 &&& (255 : Int32))), .val (.int (0 : Int32))] []))
              refine Go.st (fun _ k => XS.iconst X0.here hx rfl (hb hby d4_197) k) ?_
              refine Go.st (fun _ k => XS.istore X0.here hx rfl (hb hby d4_198) rfl (l' := #[.val (.ref a0), .val (.int p1), .val (.int (x0 &&& (255 : Int32))), .val (.int (4 : Int32)), .val (.int lo), .val (.int hi), .val (.int (p1 + (4 : Int32))), .val (.int (3 : Int32)), .val (.int (x3 &&& (255 : Int32))), .val (.int (0 : Int32))]) rfl k) ?_
              show Go p e below _ (s₁.setTop (mkF m 200 #[.val (.ref a0), .val (.int p1), .val (.int (x0 &&& (255 : Int32))), .val (.int (4 : Int32)), .val (.int lo), .val (.int hi), .val (.int (p1 + (4 : Int32))), .val (.int (3 : Int32)), .val (.int (x3 &&& (255 : Int32))), .val (.int (0 : Int32))] []))
              refine Go.st (fun _ k => XS.iload X0.here hx rfl (hb hby d4_200) rfl k) ?_
              refine Go.st (fun _ k => XS.iload X0.here hx rfl (hb hby d4_202) rfl k) ?_
              show Go p e below _ (s₁.setTop (mkF m 204 #[.val (.ref a0), .val (.int p1), .val (.int (x0 &&& (255 : Int32))), .val (.int (4 : Int32)), .val (.int lo), .val (.int hi), .val (.int (p1 + (4 : Int32))), .val (.int (3 : Int32)), .val (.int (x3 &&& (255 : Int32))), .val (.int (0 : Int32))] [(.int (0 : Int32)), (.int (x3 &&& (255 : Int32)))]))
              refine Go.st (fun _ k => XS.ifYes X0.here hx rfl (pc0 := 204) (pc' := 212) rfl (hb hby d4_204) rfl ((if0 _ _).trans (teq (by decide : ((0 : Int32) = (0 : Int32)))).1) (by decide) (by decide) k) ?_
              show Go p e below _ (s₁.setTop (mkF m 212 #[.val (.ref a0), .val (.int p1), .val (.int (x0 &&& (255 : Int32))), .val (.int (4 : Int32)), .val (.int lo), .val (.int hi), .val (.int (p1 + (4 : Int32))), .val (.int (3 : Int32)), .val (.int (x3 &&& (255 : Int32))), .val (.int (0 : Int32))] [(.int (x3 &&& (255 : Int32)))]))
              refine Go.st (fun _ k => XS.sipush X0.here hx rfl (hb hby d4_212) k) ?_
              by_cases hc30 : (x3 &&& (255 : Int32)) < (128 : Int32)
              · show Go p e below _ (s₁.setTop (mkF m 215 #[.val (.ref a0), .val (.int p1), .val (.int (x0 &&& (255 : Int32))), .val (.int (4 : Int32)), .val (.int lo), .val (.int hi), .val (.int (p1 + (4 : Int32))), .val (.int (3 : Int32)), .val (.int (x3 &&& (255 : Int32))), .val (.int (0 : Int32))] [(.int (128 : Int32)), (.int (x3 &&& (255 : Int32)))]))
                refine Go.st (fun _ k => XS.icmpYes X0.here hx rfl (pc0 := 215) (pc' := 236) rfl (hb hby d4_215) rfl (tlt hc30).1 (by decide) (by decide) k) ?_
                show Go p e below _ (s₁.setTop (mkF m 236 #[.val (.ref a0), .val (.int p1), .val (.int (x0 &&& (255 : Int32))), .val (.int (4 : Int32)), .val (.int lo), .val (.int hi), .val (.int (p1 + (4 : Int32))), .val (.int (3 : Int32)), .val (.int (x3 &&& (255 : Int32))), .val (.int (0 : Int32))] []))
                refine Go.st (fun _ k => XS.iconst X0.here hx rfl (hb hby d4_236) k) ?_
                refine Go.st (fun _ k => XS.istore X0.here hx rfl (hb hby d4_237) rfl (l' := #[.val (.ref a0), .val (.int p1), .val (.int (x0 &&& (255 : Int32))), .val (.int (4 : Int32)), .val (.int lo), .val (.int hi), .val (.int (-1 : Int32)), .val (.int (3 : Int32)), .val (.int (x3 &&& (255 : Int32))), .val (.int (0 : Int32))]) rfl k) ?_
                show Go p e below _ (s₁.setTop (mkF m 239 #[.val (.ref a0), .val (.int p1), .val (.int (x0 &&& (255 : Int32))), .val (.int (4 : Int32)), .val (.int lo), .val (.int hi), .val (.int (-1 : Int32)), .val (.int (3 : Int32)), .val (.int (x3 &&& (255 : Int32))), .val (.int (0 : Int32))] []))
                refine Go.st (fun _ k => XS.iinc X0.here hx rfl (hb hby d4_239) rfl (l' := #[.val (.ref a0), .val (.int p1), .val (.int (x0 &&& (255 : Int32))), .val (.int (4 : Int32)), .val (.int lo), .val (.int hi), .val (.int (-1 : Int32)), .val (.int (4 : Int32)), .val (.int (x3 &&& (255 : Int32))), .val (.int (0 : Int32))]) rfl k) ?_
                show Go p e below _ (s₁.setTop (mkF m 242 #[.val (.ref a0), .val (.int p1), .val (.int (x0 &&& (255 : Int32))), .val (.int (4 : Int32)), .val (.int lo), .val (.int hi), .val (.int (-1 : Int32)), .val (.int (4 : Int32)), .val (.int (x3 &&& (255 : Int32))), .val (.int (0 : Int32))] []))
                refine Go.st (fun _ k => XS.goto X0.here hx rfl (pc0 := 242) (pc' := 163) rfl (hb hby d4_242) (by decide) (by decide) k) ?_
                show Go p e below _ (s₁.setTop (mkF m 163 #[.val (.ref a0), .val (.int p1), .val (.int (x0 &&& (255 : Int32))), .val (.int (4 : Int32)), .val (.int lo), .val (.int hi), .val (.int (-1 : Int32)), .val (.int (4 : Int32)), .val (.int (x3 &&& (255 : Int32))), .val (.int (0 : Int32))] []))
                refine Go.st (fun _ k => XS.iload X0.here hx rfl (hb hby d4_163) rfl k) ?_
                refine Go.st (fun _ k => XS.iloadN X0.here hx rfl (hb hby d4_165) rfl k) ?_
                show Go p e below _ (s₁.setTop (mkF m 166 #[.val (.ref a0), .val (.int p1), .val (.int (x0 &&& (255 : Int32))), .val (.int (4 : Int32)), .val (.int lo), .val (.int hi), .val (.int (-1 : Int32)), .val (.int (4 : Int32)), .val (.int (x3 &&& (255 : Int32))), .val (.int (0 : Int32))] [(.int (4 : Int32)), (.int (4 : Int32))]))
                refine Go.st (fun _ k => XS.icmpYes X0.here hx rfl (pc0 := 166) (pc' := 245) rfl (hb hby d4_166) rfl (flt (by decide : ¬ ((4 : Int32) < (4 : Int32)))).2.1 (by decide) (by decide) k) ?_
                show Go p e below _ (s₁.setTop (mkF m 245 #[.val (.ref a0), .val (.int p1), .val (.int (x0 &&& (255 : Int32))), .val (.int (4 : Int32)), .val (.int lo), .val (.int hi), .val (.int (-1 : Int32)), .val (.int (4 : Int32)), .val (.int (x3 &&& (255 : Int32))), .val (.int (0 : Int32))] []))
                refine Go.st (fun _ k => XS.iload X0.here hx rfl (hb hby d4_245) rfl k) ?_
                obtain ⟨fs, hr, hrun, hended, hW, hsame⟩ := X0.leave (v := some (.int (-1 : Int32))) (fun h => by rw [Bd.returns] at h; cases h)
                refine ⟨_, _, retI X0 hx Bd.returns (hb hby d4_247) hr, hrun, hended, _, _, rfl, ?_, ⟨_, rfl⟩, hW, hsame.mono (by decide) (by decide)⟩
                show Q_rmCE Z x0 x1 x2 x3 a0 p1 kk z vs h0 n0 _ s₁.heap _
                rw [e0]
                refine ⟨?_, N0, rfl⟩
                rw [hj]
                unfold fT4
                rw [if_neg hc19, if_neg hc22, if_neg hc23, if_neg hc26, if_neg hc27, if_pos hc30]
              · show Go p e below _ (s₁.setTop (mkF m 215 #[.val (.ref a0), .val (.int p1), .val (.int (x0 &&& (255 : Int32))), .val (.int (4 : Int32)), .val (.int lo), .val (.int hi), .val (.int (p1 + (4 : Int32))), .val (.int (3 : Int32)), .val (.int (x3 &&& (255 : Int32))), .val (.int (0 : Int32))] [(.int (128 : Int32)), (.int (x3 &&& (255 : Int32)))]))
                refine Go.st (fun _ k => XS.icmpNo X0.here hx rfl (hb hby d4_215) rfl (flt hc30).1 k) ?_
                show Go p e below _ (s₁.setTop (mkF m 218 #[.val (.ref a0), .val (.int p1), .val (.int (x0 &&& (255 : Int32))), .val (.int (4 : Int32)), .val (.int lo), .val (.int hi), .val (.int (p1 + (4 : Int32))), .val (.int (3 : Int32)), .val (.int (x3 &&& (255 : Int32))), .val (.int (0 : Int32))] []))
                refine Go.st (fun _ k => XS.iload X0.here hx rfl (hb hby d4_218) rfl k) ?_
                refine Go.st (fun _ k => XS.iload X0.here hx rfl (hb hby d4_220) rfl k) ?_
                show Go p e below _ (s₁.setTop (mkF m 222 #[.val (.ref a0), .val (.int p1), .val (.int (x0 &&& (255 : Int32))), .val (.int (4 : Int32)), .val (.int lo), .val (.int hi), .val (.int (p1 + (4 : Int32))), .val (.int (3 : Int32)), .val (.int (x3 &&& (255 : Int32))), .val (.int (0 : Int32))] [(.int (0 : Int32)), (.int (x3 &&& (255 : Int32)))]))
                refine Go.st (fun _ k => XS.ifYes X0.here hx rfl (pc0 := 222) (pc' := 230) rfl (hb hby d4_222) rfl ((if0 _ _).trans (teq (by decide : ((0 : Int32) = (0 : Int32)))).1) (by decide) (by decide) k) ?_
                show Go p e below _ (s₁.setTop (mkF m 230 #[.val (.ref a0), .val (.int p1), .val (.int (x0 &&& (255 : Int32))), .val (.int (4 : Int32)), .val (.int lo), .val (.int hi), .val (.int (p1 + (4 : Int32))), .val (.int (3 : Int32)), .val (.int (x3 &&& (255 : Int32))), .val (.int (0 : Int32))] [(.int (x3 &&& (255 : Int32)))]))
                refine Go.st (fun _ k => XS.sipush X0.here hx rfl (hb hby d4_230) k) ?_
                by_cases hc31 : (191 : Int32) < (x3 &&& (255 : Int32))
                · show Go p e below _ (s₁.setTop (mkF m 233 #[.val (.ref a0), .val (.int p1), .val (.int (x0 &&& (255 : Int32))), .val (.int (4 : Int32)), .val (.int lo), .val (.int hi), .val (.int (p1 + (4 : Int32))), .val (.int (3 : Int32)), .val (.int (x3 &&& (255 : Int32))), .val (.int (0 : Int32))] [(.int (191 : Int32)), (.int (x3 &&& (255 : Int32)))]))
                  refine Go.st (fun _ k => XS.icmpNo X0.here hx rfl (hb hby d4_233) rfl (tlt hc31).2.2.2 k) ?_
                  show Go p e below _ (s₁.setTop (mkF m 236 #[.val (.ref a0), .val (.int p1), .val (.int (x0 &&& (255 : Int32))), .val (.int (4 : Int32)), .val (.int lo), .val (.int hi), .val (.int (p1 + (4 : Int32))), .val (.int (3 : Int32)), .val (.int (x3 &&& (255 : Int32))), .val (.int (0 : Int32))] []))
                  refine Go.st (fun _ k => XS.iconst X0.here hx rfl (hb hby d4_236) k) ?_
                  refine Go.st (fun _ k => XS.istore X0.here hx rfl (hb hby d4_237) rfl (l' := #[.val (.ref a0), .val (.int p1), .val (.int (x0 &&& (255 : Int32))), .val (.int (4 : Int32)), .val (.int lo), .val (.int hi), .val (.int (-1 : Int32)), .val (.int (3 : Int32)), .val (.int (x3 &&& (255 : Int32))), .val (.int (0 : Int32))]) rfl k) ?_
                  show Go p e below _ (s₁.setTop (mkF m 239 #[.val (.ref a0), .val (.int p1), .val (.int (x0 &&& (255 : Int32))), .val (.int (4 : Int32)), .val (.int lo), .val (.int hi), .val (.int (-1 : Int32)), .val (.int (3 : Int32)), .val (.int (x3 &&& (255 : Int32))), .val (.int (0 : Int32))] []))
                  refine Go.st (fun _ k => XS.iinc X0.here hx rfl (hb hby d4_239) rfl (l' := #[.val (.ref a0), .val (.int p1), .val (.int (x0 &&& (255 : Int32))), .val (.int (4 : Int32)), .val (.int lo), .val (.int hi), .val (.int (-1 : Int32)), .val (.int (4 : Int32)), .val (.int (x3 &&& (255 : Int32))), .val (.int (0 : Int32))]) rfl k) ?_
                  show Go p e below _ (s₁.setTop (mkF m 242 #[.val (.ref a0), .val (.int p1), .val (.int (x0 &&& (255 : Int32))), .val (.int (4 : Int32)), .val (.int lo), .val (.int hi), .val (.int (-1 : Int32)), .val (.int (4 : Int32)), .val (.int (x3 &&& (255 : Int32))), .val (.int (0 : Int32))] []))
                  refine Go.st (fun _ k => XS.goto X0.here hx rfl (pc0 := 242) (pc' := 163) rfl (hb hby d4_242) (by decide) (by decide) k) ?_
                  show Go p e below _ (s₁.setTop (mkF m 163 #[.val (.ref a0), .val (.int p1), .val (.int (x0 &&& (255 : Int32))), .val (.int (4 : Int32)), .val (.int lo), .val (.int hi), .val (.int (-1 : Int32)), .val (.int (4 : Int32)), .val (.int (x3 &&& (255 : Int32))), .val (.int (0 : Int32))] []))
                  refine Go.st (fun _ k => XS.iload X0.here hx rfl (hb hby d4_163) rfl k) ?_
                  refine Go.st (fun _ k => XS.iloadN X0.here hx rfl (hb hby d4_165) rfl k) ?_
                  show Go p e below _ (s₁.setTop (mkF m 166 #[.val (.ref a0), .val (.int p1), .val (.int (x0 &&& (255 : Int32))), .val (.int (4 : Int32)), .val (.int lo), .val (.int hi), .val (.int (-1 : Int32)), .val (.int (4 : Int32)), .val (.int (x3 &&& (255 : Int32))), .val (.int (0 : Int32))] [(.int (4 : Int32)), (.int (4 : Int32))]))
                  refine Go.st (fun _ k => XS.icmpYes X0.here hx rfl (pc0 := 166) (pc' := 245) rfl (hb hby d4_166) rfl (flt (by decide : ¬ ((4 : Int32) < (4 : Int32)))).2.1 (by decide) (by decide) k) ?_
                  show Go p e below _ (s₁.setTop (mkF m 245 #[.val (.ref a0), .val (.int p1), .val (.int (x0 &&& (255 : Int32))), .val (.int (4 : Int32)), .val (.int lo), .val (.int hi), .val (.int (-1 : Int32)), .val (.int (4 : Int32)), .val (.int (x3 &&& (255 : Int32))), .val (.int (0 : Int32))] []))
                  refine Go.st (fun _ k => XS.iload X0.here hx rfl (hb hby d4_245) rfl k) ?_
                  obtain ⟨fs, hr, hrun, hended, hW, hsame⟩ := X0.leave (v := some (.int (-1 : Int32))) (fun h => by rw [Bd.returns] at h; cases h)
                  refine ⟨_, _, retI X0 hx Bd.returns (hb hby d4_247) hr, hrun, hended, _, _, rfl, ?_, ⟨_, rfl⟩, hW, hsame.mono (by decide) (by decide)⟩
                  show Q_rmCE Z x0 x1 x2 x3 a0 p1 kk z vs h0 n0 _ s₁.heap _
                  rw [e0]
                  refine ⟨?_, N0, rfl⟩
                  rw [hj]
                  unfold fT4
                  rw [if_neg hc19, if_neg hc22, if_neg hc23, if_neg hc26, if_neg hc27, if_neg hc30, if_pos hc31]
                · show Go p e below _ (s₁.setTop (mkF m 233 #[.val (.ref a0), .val (.int p1), .val (.int (x0 &&& (255 : Int32))), .val (.int (4 : Int32)), .val (.int lo), .val (.int hi), .val (.int (p1 + (4 : Int32))), .val (.int (3 : Int32)), .val (.int (x3 &&& (255 : Int32))), .val (.int (0 : Int32))] [(.int (191 : Int32)), (.int (x3 &&& (255 : Int32)))]))
                  refine Go.st (fun _ k => XS.icmpYes X0.here hx rfl (pc0 := 233) (pc' := 239) rfl (hb hby d4_233) rfl (flt hc31).2.2.2 (by decide) (by decide) k) ?_
                  show Go p e below _ (s₁.setTop (mkF m 239 #[.val (.ref a0), .val (.int p1), .val (.int (x0 &&& (255 : Int32))), .val (.int (4 : Int32)), .val (.int lo), .val (.int hi), .val (.int (p1 + (4 : Int32))), .val (.int (3 : Int32)), .val (.int (x3 &&& (255 : Int32))), .val (.int (0 : Int32))] []))
                  refine Go.st (fun _ k => XS.iinc X0.here hx rfl (hb hby d4_239) rfl (l' := #[.val (.ref a0), .val (.int p1), .val (.int (x0 &&& (255 : Int32))), .val (.int (4 : Int32)), .val (.int lo), .val (.int hi), .val (.int (p1 + (4 : Int32))), .val (.int (4 : Int32)), .val (.int (x3 &&& (255 : Int32))), .val (.int (0 : Int32))]) rfl k) ?_
                  show Go p e below _ (s₁.setTop (mkF m 242 #[.val (.ref a0), .val (.int p1), .val (.int (x0 &&& (255 : Int32))), .val (.int (4 : Int32)), .val (.int lo), .val (.int hi), .val (.int (p1 + (4 : Int32))), .val (.int (4 : Int32)), .val (.int (x3 &&& (255 : Int32))), .val (.int (0 : Int32))] []))
                  refine Go.st (fun _ k => XS.goto X0.here hx rfl (pc0 := 242) (pc' := 163) rfl (hb hby d4_242) (by decide) (by decide) k) ?_
                  show Go p e below _ (s₁.setTop (mkF m 163 #[.val (.ref a0), .val (.int p1), .val (.int (x0 &&& (255 : Int32))), .val (.int (4 : Int32)), .val (.int lo), .val (.int hi), .val (.int (p1 + (4 : Int32))), .val (.int (4 : Int32)), .val (.int (x3 &&& (255 : Int32))), .val (.int (0 : Int32))] []))
                  refine Go.st (fun _ k => XS.iload X0.here hx rfl (hb hby d4_163) rfl k) ?_
                  refine Go.st (fun _ k => XS.iloadN X0.here hx rfl (hb hby d4_165) rfl k) ?_
                  show Go p e below _ (s₁.setTop (mkF m 166 #[.val (.ref a0), .val (.int p1), .val (.int (x0 &&& (255 : Int32))), .val (.int (4 : Int32)), .val (.int lo), .val (.int hi), .val (.int (p1 + (4 : Int32))), .val (.int (4 : Int32)), .val (.int (x3 &&& (255 : Int32))), .val (.int (0 : Int32))] [(.int (4 : Int32)), (.int (4 : Int32))]))
                  refine Go.st (fun _ k => XS.icmpYes X0.here hx rfl (pc0 := 166) (pc' := 245) rfl (hb hby d4_166) rfl (flt (by decide : ¬ ((4 : Int32) < (4 : Int32)))).2.1 (by decide) (by decide) k) ?_
                  show Go p e below _ (s₁.setTop (mkF m 245 #[.val (.ref a0), .val (.int p1), .val (.int (x0 &&& (255 : Int32))), .val (.int (4 : Int32)), .val (.int lo), .val (.int hi), .val (.int (p1 + (4 : Int32))), .val (.int (4 : Int32)), .val (.int (x3 &&& (255 : Int32))), .val (.int (0 : Int32))] []))
                  refine Go.st (fun _ k => XS.iload X0.here hx rfl (hb hby d4_245) rfl k) ?_
                  obtain ⟨fs, hr, hrun, hended, hW, hsame⟩ := X0.leave (v := some (.int (p1 + (4 : Int32)))) (fun h => by rw [Bd.returns] at h; cases h)
                  refine ⟨_, _, retI X0 hx Bd.returns (hb hby d4_247) hr, hrun, hended, _, _, rfl, ?_, ⟨_, rfl⟩, hW, hsame.mono (by decide) (by decide)⟩
                  show Q_rmCE Z x0 x1 x2 x3 a0 p1 kk z vs h0 n0 _ s₁.heap _
                  rw [e0]
                  refine ⟨?_, N0, rfl⟩
                  rw [hj]
                  unfold fT4
                  rw [if_neg hc19, if_neg hc22, if_neg hc23, if_neg hc26, if_neg hc27, if_neg hc30, if_neg hc31]
  refine Go.st (fun _ k => XS.iloadN X0.here hx rfl (hb hby d4_18) rfl k) ?_
  show Go p e below _ (s₁.setTop (mkF m 19 #[.val (.ref a0), .val (.int p1), .val (.int (x0 &&& (255 : Int32))), .unset, .val (.int (128 : Int32)), .val (.int (191 : Int32)), .unset, .unset, .unset, .unset] [(.int (x0 &&& (255 : Int32)))]))
  refine Go.st (fun _ k => XS.sipush X0.here hx rfl (hb hby d4_19) k) ?_
  by_cases hc32 : (x0 &&& (255 : Int32)) < (194 : Int32)
  · show Go p e below _ (s₁.setTop (mkF m 22 #[.val (.ref a0), .val (.int p1), .val (.int (x0 &&& (255 : Int32))), .unset, .val (.int (128 : Int32)), .val (.int (191 : Int32)), .unset, .unset, .unset, .unset] [(.int (194 : Int32)), (.int (x0 &&& (255 : Int32)))]))
    refine Go.st (fun _ k => XS.icmpYes X0.here hx rfl (pc0 := 22) (pc' := 37) rfl (hb hby d4_22) rfl (tlt hc32).1 (by decide) (by decide) k) ?_
    show Go p e below _ (s₁.setTop (mkF m 37 #[.val (.ref a0), .val (.int p1), .val (.int (x0 &&& (255 : Int32))), .unset, .val (.int (128 : Int32)), .val (.int (191 : Int32)), .unset, .unset, .unset, .unset] []))
    refine Go.st (fun _ k => XS.iloadN X0.here hx rfl (hb hby d4_37) rfl k) ?_
    refine Go.st (fun _ k => XS.sipush X0.here hx rfl (hb hby d4_38) k) ?_
    show Go p e below _ (s₁.setTop (mkF m 41 #[.val (.ref a0), .val (.int p1), .val (.int (x0 &&& (255 : Int32))), .unset, .val (.int (128 : Int32)), .val (.int (191 : Int32)), .unset, .unset, .unset, .unset] [(.int (224 : Int32)), (.int (x0 &&& (255 : Int32)))]))
    refine Go.st (fun _ k => XS.icmpYes X0.here hx rfl (pc0 := 41) (pc' := 90) rfl (hb hby d4_41) rfl (tlt (own_ta (own_ua hc32) (by decide))).1 (by decide) (by decide) k) ?_
    show Go p e below _ (s₁.setTop (mkF m 90 #[.val (.ref a0), .val (.int p1), .val (.int (x0 &&& (255 : Int32))), .unset, .val (.int (128 : Int32)), .val (.int (191 : Int32)), .unset, .unset, .unset, .unset] []))
    refine Go.st (fun _ k => XS.iloadN X0.here hx rfl (hb hby d4_90) rfl k) ?_
    refine Go.st (fun _ k => XS.sipush X0.here hx rfl (hb hby d4_91) k) ?_
    show Go p e below _ (s₁.setTop (mkF m 94 #[.val (.ref a0), .val (.int p1), .val (.int (x0 &&& (255 : Int32))), .unset, .val (.int (128 : Int32)), .val (.int (191 : Int32)), .unset, .unset, .unset, .unset] [(.int (240 : Int32)), (.int (x0 &&& (255 : Int32)))]))
    refine Go.st (fun _ k => XS.icmpYes X0.here hx rfl (pc0 := 94) (pc' := 143) rfl (hb hby d4_94) rfl (tlt (own_ta (own_ua hc32) (by decide))).1 (by decide) (by decide) k) ?_
    show Go p e below _ (s₁.setTop (mkF m 143 #[.val (.ref a0), .val (.int p1), .val (.int (x0 &&& (255 : Int32))), .unset, .val (.int (128 : Int32)), .val (.int (191 : Int32)), .unset, .unset, .unset, .unset] []))
    refine Go.st (fun _ k => XS.iconst X0.here hx rfl (hb hby d4_143) k) ?_
    obtain ⟨fs, hr, hrun, hended, hW, hsame⟩ := X0.leave (v := some (.int (-1 : Int32))) (fun h => by rw [Bd.returns] at h; cases h)
    refine ⟨_, _, retI X0 hx Bd.returns (hb hby d4_144) hr, hrun, hended, _, _, rfl, ?_, ⟨_, rfl⟩, hW, hsame.mono (by decide) (by decide)⟩
    show Q_rmCE Z x0 x1 x2 x3 a0 p1 kk z vs h0 n0 _ s₁.heap _
    rw [e0]
    refine ⟨?_, N0, rfl⟩
    unfold fCE
    rw [if_pos hc32]
  · show Go p e below _ (s₁.setTop (mkF m 22 #[.val (.ref a0), .val (.int p1), .val (.int (x0 &&& (255 : Int32))), .unset, .val (.int (128 : Int32)), .val (.int (191 : Int32)), .unset, .unset, .unset, .unset] [(.int (194 : Int32)), (.int (x0 &&& (255 : Int32)))]))
    refine Go.st (fun _ k => XS.icmpNo X0.here hx rfl (hb hby d4_22) rfl (flt hc32).1 k) ?_
    show Go p e below _ (s₁.setTop (mkF m 25 #[.val (.ref a0), .val (.int p1), .val (.int (x0 &&& (255 : Int32))), .unset, .val (.int (128 : Int32)), .val (.int (191 : Int32)), .unset, .unset, .unset, .unset] []))
    refine Go.st (fun _ k => XS.iloadN X0.here hx rfl (hb hby d4_25) rfl k) ?_
    refine Go.st (fun _ k => XS.sipush X0.here hx rfl (hb hby d4_26) k) ?_
    show Go p e below _ (s₁.setTop (mkF m 29 #[.val (.ref a0), .val (.int p1), .val (.int (x0 &&& (255 : Int32))), .unset, .val (.int (128 : Int32)), .val (.int (191 : Int32)), .unset, .unset, .unset, .unset] [(.int (223 : Int32)), (.int (x0 &&& (255 : Int32)))]))
    by_cases hc33 : (223 : Int32) < (x0 &&& (255 : Int32))
    · show Go p e below _ (s₁.setTop (mkF m 29 #[.val (.ref a0), .val (.int p1), .val (.int (x0 &&& (255 : Int32))), .unset, .val (.int (128 : Int32)), .val (.int (191 : Int32)), .unset, .unset, .unset, .unset] [(.int (223 : Int32)), (.int (x0 &&& (255 : Int32)))]))
      refine Go.st (fun _ k => XS.icmpYes X0.here hx rfl (pc0 := 29) (pc' := 37) rfl (hb hby d4_29) rfl (tlt hc33).2.2.1 (by decide) (by decide) k) ?_
      show Go p e below _ (s₁.setTop (mkF m 37 #[.val (.ref a0), .val (.int p1), .val (.int (x0 &&& (255 : Int32))), .unset, .val (.int (128 : Int32)), .val (.int (191 : Int32)), .unset, .unset, .unset, .unset] []))
      refine Go.st (fun _ k => XS.iloadN X0.here hx rfl (hb hby d4_37) rfl k) ?_
      refine Go.st (fun _ k => XS.sipush X0.here hx rfl (hb hby d4_38) k) ?_
      show Go p e below _ (s₁.setTop (mkF m 41 #[.val (.ref a0), .val (.int p1), .val (.int (x0 &&& (255 : Int32))), .unset, .val (.int (128 : Int32)), .val (.int (191 : Int32)), .unset, .unset, .unset, .unset] [(.int (224 : Int32)), (.int (x0 &&& (255 : Int32)))]))
      refine Go.st (fun _ k => XS.icmpNo X0.here hx rfl (hb hby d4_41) rfl (flt (own_fa (own_lb hc33) (by decide))).1 k) ?_
      show Go p e below _ (s₁.setTop (mkF m 44 #[.val (.ref a0), .val (.int p1), .val (.int (x0 &&& (255 : Int32))), .unset, .val (.int (128 : Int32)), .val (.int (191 : Int32)), .unset, .unset, .unset, .unset] []))
      refine Go.st (fun _ k => XS.iloadN X0.here hx rfl (hb hby d4_44) rfl k) ?_
      refine Go.st (fun _ k => XS.sipush X0.here hx rfl (hb hby d4_45) k) ?_
      show Go p e below _ (s₁.setTop (mkF m 48 #[.val (.ref a0), .val (.int p1), .val (.int (x0 &&& (255 : Int32))), .unset, .val (.int (128 : Int32)), .val (.int (191 : Int32)), .unset, .unset, .unset, .unset] [(.int (239 : Int32)), (.int (x0 &&& (255 : Int32)))]))
      by_cases hc34 : (239 : Int32) < (x0 &&& (255 : Int32))
      · show Go p e below _ (s₁.setTop (mkF m 48 #[.val (.ref a0), .val (.int p1), .val (.int (x0 &&& (255 : Int32))), .unset, .val (.int (128 : Int32)), .val (.int (191 : Int32)), .unset, .unset, .unset, .unset] [(.int (239 : Int32)), (.int (x0 &&& (255 : Int32)))]))
        refine Go.st (fun _ k => XS.icmpYes X0.here hx rfl (pc0 := 48) (pc' := 90) rfl (hb hby d4_48) rfl (tlt hc34).2.2.1 (by decide) (by decide) k) ?_
        show Go p e below _ (s₁.setTop (mkF m 90 #[.val (.ref a0), .val (.int p1), .val (.int (x0 &&& (255 : Int32))), .unset, .val (.int (128 : Int32)), .val (.int (191 : Int32)), .unset, .unset, .unset, .unset] []))
        refine Go.st (fun _ k => XS.iloadN X0.here hx rfl (hb hby d4_90) rfl k) ?_
        refine Go.st (fun _ k => XS.sipush X0.here hx rfl (hb hby d4_91) k) ?_
        show Go p e below _ (s₁.setTop (mkF m 94 #[.val (.ref a0), .val (.int p1), .val (.int (x0 &&& (255 : Int32))), .unset, .val (.int (128 : Int32)), .val (.int (191 : Int32)), .unset, .unset, .unset, .unset] [(.int (240 : Int32)), (.int (x0 &&& (255 : Int32)))]))
        refine Go.st (fun _ k => XS.icmpNo X0.here hx rfl (hb hby d4_94) rfl (flt (own_fa (own_lb hc34) (by decide))).1 k) ?_
        show Go p e below _ (s₁.setTop (mkF m 97 #[.val (.ref a0), .val (.int p1), .val (.int (x0 &&& (255 : Int32))), .unset, .val (.int (128 : Int32)), .val (.int (191 : Int32)), .unset, .unset, .unset, .unset] []))
        refine Go.st (fun _ k => XS.iloadN X0.here hx rfl (hb hby d4_97) rfl k) ?_
        refine Go.st (fun _ k => XS.sipush X0.here hx rfl (hb hby d4_98) k) ?_
        show Go p e below _ (s₁.setTop (mkF m 101 #[.val (.ref a0), .val (.int p1), .val (.int (x0 &&& (255 : Int32))), .unset, .val (.int (128 : Int32)), .val (.int (191 : Int32)), .unset, .unset, .unset, .unset] [(.int (244 : Int32)), (.int (x0 &&& (255 : Int32)))]))
        by_cases hc35 : (244 : Int32) < (x0 &&& (255 : Int32))
        · show Go p e below _ (s₁.setTop (mkF m 101 #[.val (.ref a0), .val (.int p1), .val (.int (x0 &&& (255 : Int32))), .unset, .val (.int (128 : Int32)), .val (.int (191 : Int32)), .unset, .unset, .unset, .unset] [(.int (244 : Int32)), (.int (x0 &&& (255 : Int32)))]))
          refine Go.st (fun _ k => XS.icmpYes X0.here hx rfl (pc0 := 101) (pc' := 143) rfl (hb hby d4_101) rfl (tlt hc35).2.2.1 (by decide) (by decide) k) ?_
          show Go p e below _ (s₁.setTop (mkF m 143 #[.val (.ref a0), .val (.int p1), .val (.int (x0 &&& (255 : Int32))), .unset, .val (.int (128 : Int32)), .val (.int (191 : Int32)), .unset, .unset, .unset, .unset] []))
          refine Go.st (fun _ k => XS.iconst X0.here hx rfl (hb hby d4_143) k) ?_
          obtain ⟨fs, hr, hrun, hended, hW, hsame⟩ := X0.leave (v := some (.int (-1 : Int32))) (fun h => by rw [Bd.returns] at h; cases h)
          refine ⟨_, _, retI X0 hx Bd.returns (hb hby d4_144) hr, hrun, hended, _, _, rfl, ?_, ⟨_, rfl⟩, hW, hsame.mono (by decide) (by decide)⟩
          show Q_rmCE Z x0 x1 x2 x3 a0 p1 kk z vs h0 n0 _ s₁.heap _
          rw [e0]
          refine ⟨?_, N0, rfl⟩
          unfold fCE
          rw [if_neg hc32, if_pos hc33, if_pos hc34, if_pos hc35]
        · show Go p e below _ (s₁.setTop (mkF m 101 #[.val (.ref a0), .val (.int p1), .val (.int (x0 &&& (255 : Int32))), .unset, .val (.int (128 : Int32)), .val (.int (191 : Int32)), .unset, .unset, .unset, .unset] [(.int (244 : Int32)), (.int (x0 &&& (255 : Int32)))]))
          refine Go.st (fun _ k => XS.icmpNo X0.here hx rfl (hb hby d4_101) rfl (flt hc35).2.2.1 k) ?_
          show Go p e below _ (s₁.setTop (mkF m 104 #[.val (.ref a0), .val (.int p1), .val (.int (x0 &&& (255 : Int32))), .unset, .val (.int (128 : Int32)), .val (.int (191 : Int32)), .unset, .unset, .unset, .unset] []))
          refine Go.st (fun _ k => XS.iconst X0.here hx rfl (hb hby d4_104) k) ?_
          refine Go.st (fun _ k => XS.istoreN X0.here hx rfl (hb hby d4_105) rfl (l' := #[.val (.ref a0), .val (.int p1), .val (.int (x0 &&& (255 : Int32))), .val (.int (4 : Int32)), .val (.int (128 : Int32)), .val (.int (191 : Int32)), .unset, .unset, .unset, .unset]) rfl k) ?_
          show Go p e below _ (s₁.setTop (mkF m 106 #[.val (.ref a0), .val (.int p1), .val (.int (x0 &&& (255 : Int32))), .val (.int (4 : Int32)), .val (.int (128 : Int32)), .val (.int (191 : Int32)), .unset, .unset, .unset, .unset] []))
          refine Go.st (fun _ k => XS.iloadN X0.here hx rfl (hb hby d4_106) rfl k) ?_
          refine Go.st (fun _ k => XS.sipush X0.here hx rfl (hb hby d4_107) k) ?_
          show Go p e below _ (s₁.setTop (mkF m 110 #[.val (.ref a0), .val (.int p1), .val (.int (x0 &&& (255 : Int32))), .val (.int (4 : Int32)), .val (.int (128 : Int32)), .val (.int (191 : Int32)), .unset, .unset, .unset, .unset] [(.int (240 : Int32)), (.int (x0 &&& (255 : Int32)))]))
          by_cases hc36 : (x0 &&& (255 : Int32)) = (240 : Int32)
          · show Go p e below _ (s₁.setTop (mkF m 110 #[.val (.ref a0), .val (.int p1), .val (.int (x0 &&& (255 : Int32))), .val (.int (4 : Int32)), .val (.int (128 : Int32)), .val (.int (191 : Int32)), .unset, .unset, .unset, .unset] [(.int (240 : Int32)), (.int (x0 &&& (255 : Int32)))]))
            refine Go.st (fun _ k => XS.icmpNo X0.here hx rfl (hb hby d4_110) rfl (teq hc36).2 k) ?_
            show Go p e below _ (s₁.setTop (mkF m 113 #[.val (.ref a0), .val (.int p1), .val (.int (x0 &&& (255 : Int32))), .val (.int (4 : Int32)), .val (.int (128 : Int32)), .val (.int (191 : Int32)), .unset, .unset, .unset, .unset] []))
            refine Go.st (fun _ k => XS.sipush X0.here hx rfl (hb hby d4_113) k) ?_
            refine Go.st (fun _ k => XS.goto X0.here hx rfl (pc0 := 116) (pc' := 121) rfl (hb hby d4_116) (by decide) (by decide) k) ?_
            show Go p e below _ (s₁.setTop (mkF m 121 #[.val (.ref a0), .val (.int p1), .val (.int (x0 &&& (255 : Int32))), .val (.int (4 : Int32)), .val (.int (128 : Int32)), .val (.int (191 : Int32)), .unset, .unset, .unset, .unset] [(.int (144 : Int32))]))
            refine Go.st (fun _ k => XS.istore X0.here hx rfl (hb hby d4_121) rfl (l' := #[.val (.ref a0), .val (.int p1), .val (.int (x0 &&& (255 : Int32))), .val (.int (4 : Int32)), .val (.int (144 : Int32)), .val (.int (191 : Int32)), .unset, .unset, .unset, .unset]) rfl k) ?_
            show Go p e below _ (s₁.setTop (mkF m 123 #[.val (.ref a0), .val (.int p1), .val (.int (x0 &&& (255 : Int32))), .val (.int (4 : Int32)), .val (.int (144 : Int32)), .val (.int (191 : Int32)), .unset, .unset, .unset, .unset] []))
            refine Go.st (fun _ k => XS.iloadN X0.here hx rfl (hb hby d4_123) rfl k) ?_
            refine Go.st (fun _ k => XS.sipush X0.here hx rfl (hb hby d4_124) k) ?_
            show Go p e below _ (s₁.setTop (mkF m 127 #[.val (.ref a0), .val (.int p1), .val (.int (x0 &&& (255 : Int32))), .val (.int (4 : Int32)), .val (.int (144 : Int32)), .val (.int (191 : Int32)), .unset, .unset, .unset, .unset] [(.int (244 : Int32)), (.int (x0 &&& (255 : Int32)))]))
            refine Go.st (fun _ k => XS.icmpYes X0.here hx rfl (pc0 := 127) (pc' := 136) rfl (hb hby d4_127) rfl (feq (own_fd (own_ue hc36) (by decide))).2 (by decide) (by decide) k) ?_
            show Go p e below _ (s₁.setTop (mkF m 136 #[.val (.ref a0), .val (.int p1), .val (.int (x0 &&& (255 : Int32))), .val (.int (4 : Int32)), .val (.int (144 : Int32)), .val (.int (191 : Int32)), .unset, .unset, .unset, .unset] []))
            refine Go.st (fun _ k => XS.iload X0.here hx rfl (hb hby d4_136) rfl k) ?_
            refine Go.st (fun _ k => XS.istore X0.here hx rfl (hb hby d4_138) rfl (l' := #[.val (.ref a0), .val (.int p1), .val (.int (x0 &&& (255 : Int32))), .val (.int (4 : Int32)), .val (.int (144 : Int32)), .val (.int (191 : Int32)), .unset, .unset, .unset, .unset]) rfl k) ?_
            show Go p e below _ (s₁.setTop (mkF m 140 #[.val (.ref a0), .val (.int p1), .val (.int (x0 &&& (255 : Int32))), .val (.int (4 : Int32)), .val (.int (144 : Int32)), .val (.int (191 : Int32)), .unset, .unset, .unset, .unset] []))
            refine Go.st (fun _ k => XS.goto X0.here hx rfl (pc0 := 140) (pc' := 145) rfl (hb hby d4_140) (by decide) (by decide) k) ?_
            show Go p e below _ (s₁.setTop (mkF m 145 #[.val (.ref a0), .val (.int p1), .val (.int (x0 &&& (255 : Int32))), .val (.int (4 : Int32)), .val (.int (144 : Int32)), .val (.int (191 : Int32)), .unset, .unset, .unset, .unset] []))
            exact key4 (144 : Int32) (191 : Int32) (by unfold fCE; rw [if_neg hc32, if_pos hc33, if_pos hc34, if_neg hc35, if_pos hc36])
          · show Go p e below _ (s₁.setTop (mkF m 110 #[.val (.ref a0), .val (.int p1), .val (.int (x0 &&& (255 : Int32))), .val (.int (4 : Int32)), .val (.int (128 : Int32)), .val (.int (191 : Int32)), .unset, .unset, .unset, .unset] [(.int (240 : Int32)), (.int (x0 &&& (255 : Int32)))]))
            refine Go.st (fun _ k => XS.icmpYes X0.here hx rfl (pc0 := 110) (pc' := 119) rfl (hb hby d4_110) rfl (feq hc36).2 (by decide) (by decide) k) ?_
            show Go p e below _ (s₁.setTop (mkF m 119 #[.val (.ref a0), .val (.int p1), .val (.int (x0 &&& (255 : Int32))), .val (.int (4 : Int32)), .val (.int (128 : Int32)), .val (.int (191 : Int32)), .unset, .unset, .unset, .unset] []))
            refine Go.st (fun _ k => XS.iload X0.here hx rfl (hb hby d4_119) rfl k) ?_
            refine Go.st (fun _ k => XS.istore X0.here hx rfl (hb hby d4_121) rfl (l' := #[.val (.ref a0), .val (.int p1), .val (.int (x0 &&& (255 : Int32))), .val (.int (4 : Int32)), .val (.int (128 : Int32)), .val (.int (191 : Int32)), .unset, .unset, .unset, .unset]) rfl k) ?_
            show Go p e below _ (s₁.setTop (mkF m 123 #[.val (.ref a0), .val (.int p1), .val (.int (x0 &&& (255 : Int32))), .val (.int (4 : Int32)), .val (.int (128 : Int32)), .val (.int (191 : Int32)), .unset, .unset, .unset, .unset] []))
            refine Go.st (fun _ k => XS.iloadN X0.here hx rfl (hb hby d4_123) rfl k) ?_
            refine Go.st (fun _ k => XS.sipush X0.here hx rfl (hb hby d4_124) k) ?_
            show Go p e below _ (s₁.setTop (mkF m 127 #[.val (.ref a0), .val (.int p1), .val (.int (x0 &&& (255 : Int32))), .val (.int (4 : Int32)), .val (.int (128 : Int32)), .val (.int (191 : Int32)), .unset, .unset, .unset, .unset] [(.int (244 : Int32)), (.int (x0 &&& (255 : Int32)))]))
            by_cases hc37 : (x0 &&& (255 : Int32)) = (244 : Int32)
            · show Go p e below _ (s₁.setTop (mkF m 127 #[.val (.ref a0), .val (.int p1), .val (.int (x0 &&& (255 : Int32))), .val (.int (4 : Int32)), .val (.int (128 : Int32)), .val (.int (191 : Int32)), .unset, .unset, .unset, .unset] [(.int (244 : Int32)), (.int (x0 &&& (255 : Int32)))]))
              refine Go.st (fun _ k => XS.icmpNo X0.here hx rfl (hb hby d4_127) rfl (teq hc37).2 k) ?_
              show Go p e below _ (s₁.setTop (mkF m 130 #[.val (.ref a0), .val (.int p1), .val (.int (x0 &&& (255 : Int32))), .val (.int (4 : Int32)), .val (.int (128 : Int32)), .val (.int (191 : Int32)), .unset, .unset, .unset, .unset] []))
              refine Go.st (fun _ k => XS.sipush X0.here hx rfl (hb hby d4_130) k) ?_
              refine Go.st (fun _ k => XS.goto X0.here hx rfl (pc0 := 133) (pc' := 138) rfl (hb hby d4_133) (by decide) (by decide) k) ?_
              show Go p e below _ (s₁.setTop (mkF m 138 #[.val (.ref a0), .val (.int p1), .val (.int (x0 &&& (255 : Int32))), .val (.int (4 : Int32)), .val (.int (128 : Int32)), .val (.int (191 : Int32)), .unset, .unset, .unset, .unset] [(.int (143 : Int32))]))
              refine Go.st (fun _ k => XS.istore X0.here hx rfl (hb hby d4_138) rfl (l' := #[.val (.ref a0), .val (.int p1), .val (.int (x0 &&& (255 : Int32))), .val (.int (4 : Int32)), .val (.int (128 : Int32)), .val (.int (143 : Int32)), .unset, .unset, .unset, .unset]) rfl k) ?_
              show Go p e below _ (s₁.setTop (mkF m 140 #[.val (.ref a0), .val (.int p1), .val (.int (x0 &&& (255 : Int32))), .val (.int (4 : Int32)), .val (.int (128 : Int32)), .val (.int (143 : Int32)), .unset, .unset, .unset, .unset] []))
              refine Go.st (fun _ k => XS.goto X0.here hx rfl (pc0 := 140) (pc' := 145) rfl (hb hby d4_140) (by decide) (by decide) k) ?_
              show Go p e below _ (s₁.setTop (mkF m 145 #[.val (.ref a0), .val (.int p1), .val (.int (x0 &&& (255 : Int32))), .val (.int (4 : Int32)), .val (.int (128 : Int32)), .val (.int (143 : Int32)), .unset, .unset, .unset, .unset] []))
              exact key4 (128 : Int32) (143 : Int32) (by unfold fCE; rw [if_neg hc32, if_pos hc33, if_pos hc34, if_neg hc35, if_neg hc36, if_pos hc37])
            · show Go p e below _ (s₁.setTop (mkF m 127 #[.val (.ref a0), .val (.int p1), .val (.int (x0 &&& (255 : Int32))), .val (.int (4 : Int32)), .val (.int (128 : Int32)), .val (.int (191 : Int32)), .unset, .unset, .unset, .unset] [(.int (244 : Int32)), (.int (x0 &&& (255 : Int32)))]))
              refine Go.st (fun _ k => XS.icmpYes X0.here hx rfl (pc0 := 127) (pc' := 136) rfl (hb hby d4_127) rfl (feq hc37).2 (by decide) (by decide) k) ?_
              show Go p e below _ (s₁.setTop (mkF m 136 #[.val (.ref a0), .val (.int p1), .val (.int (x0 &&& (255 : Int32))), .val (.int (4 : Int32)), .val (.int (128 : Int32)), .val (.int (191 : Int32)), .unset, .unset, .unset, .unset] []))
              refine Go.st (fun _ k => XS.iload X0.here hx rfl (hb hby d4_136) rfl k) ?_
              refine Go.st (fun _ k => XS.istore X0.here hx rfl (hb hby d4_138) rfl (l' := #[.val (.ref a0), .val (.int p1), .val (.int (x0 &&& (255 : Int32))), .val (.int (4 : Int32)), .val (.int (128 : Int32)), .val (.int (191 : Int32)), .unset, .unset, .unset, .unset]) rfl k) ?_
              show Go p e below _ (s₁.setTop (mkF m 140 #[.val (.ref a0), .val (.int p1), .val (.int (x0 &&& (255 : Int32))), .val (.int (4 : Int32)), .val (.int (128 : Int32)), .val (.int (191 : Int32)), .unset, .unset, .unset, .unset] []))
              refine Go.st (fun _ k => XS.goto X0.here hx rfl (pc0 := 140) (pc' := 145) rfl (hb hby d4_140) (by decide) (by decide) k) ?_
              show Go p e below _ (s₁.setTop (mkF m 145 #[.val (.ref a0), .val (.int p1), .val (.int (x0 &&& (255 : Int32))), .val (.int (4 : Int32)), .val (.int (128 : Int32)), .val (.int (191 : Int32)), .unset, .unset, .unset, .unset] []))
              exact key4 (128 : Int32) (191 : Int32) (by unfold fCE; rw [if_neg hc32, if_pos hc33, if_pos hc34, if_neg hc35, if_neg hc36, if_neg hc37])
      · show Go p e below _ (s₁.setTop (mkF m 48 #[.val (.ref a0), .val (.int p1), .val (.int (x0 &&& (255 : Int32))), .unset, .val (.int (128 : Int32)), .val (.int (191 : Int32)), .unset, .unset, .unset, .unset] [(.int (239 : Int32)), (.int (x0 &&& (255 : Int32)))]))
        refine Go.st (fun _ k => XS.icmpNo X0.here hx rfl (hb hby d4_48) rfl (flt hc34).2.2.1 k) ?_
        show Go p e below _ (s₁.setTop (mkF m 51 #[.val (.ref a0), .val (.int p1), .val (.int (x0 &&& (255 : Int32))), .unset, .val (.int (128 : Int32)), .val (.int (191 : Int32)), .unset, .unset, .unset, .unset] []))
        refine Go.st (fun _ k => XS.iconst X0.here hx rfl (hb hby d4_51) k) ?_
        refine Go.st (fun _ k => XS.istoreN X0.here hx rfl (hb hby d4_52) rfl (l' := #[.val (.ref a0), .val (.int p1), .val (.int (x0 &&& (255 : Int32))), .val (.int (3 : Int32)), .val (.int (128 : Int32)), .val (.int (191 : Int32)), .unset, .unset, .unset, .unset]) rfl k) ?_
        show Go p e below _ (s₁.setTop (mkF m 53 #[.val (.ref a0), .val (.int p1), .val (.int (x0 &&& (255 : Int32))), .val (.int (3 : Int32)), .val (.int (128 : Int32)), .val (.int (191 : Int32)), .unset, .unset, .unset, .unset] []))
        refine Go.st (fun _ k => XS.iloadN X0.here hx rfl (hb hby d4_53) rfl k) ?_
        refine Go.st (fun _ k => XS.sipush X0.here hx rfl (hb hby d4_54) k) ?_
        show Go p e below _ (s₁.setTop (mkF m 57 #[.val (.ref a0), .val (.int p1), .val (.int (x0 &&& (255 : Int32))), .val (.int (3 : Int32)), .val (.int (128 : Int32)), .val (.int (191 : Int32)), .unset, .unset, .unset, .unset] [(.int (224 : Int32)), (.int (x0 &&& (255 : Int32)))]))
        by_cases hc38 : (x0 &&& (255 : Int32)) = (224 : Int32)
        · show Go p e below _ (s₁.setTop (mkF m 57 #[.val (.ref a0), .val (.int p1), .val (.int (x0 &&& (255 : Int32))), .val (.int (3 : Int32)), .val (.int (128 : Int32)), .val (.int (191 : Int32)), .unset, .unset, .unset, .unset] [(.int (224 : Int32)), (.int (x0 &&& (255 : Int32)))]))
          refine Go.st (fun _ k => XS.icmpNo X0.here hx rfl (hb hby d4_57) rfl (teq hc38).2 k) ?_
          show Go p e below _ (s₁.setTop (mkF m 60 #[.val (.ref a0), .val (.int p1), .val (.int (x0 &&& (255 : Int32))), .val (.int (3 : Int32)), .val (.int (128 : Int32)), .val (.int (191 : Int32)), .unset, .unset, .unset, .unset] []))
          refine Go.st (fun _ k => XS.sipush X0.here hx rfl (hb hby d4_60) k) ?_
          refine Go.st (fun _ k => XS.goto X0.here hx rfl (pc0 := 63) (pc' := 68) rfl (hb hby d4_63) (by decide) (by decide) k) ?_
          show Go p e below _ (s₁.setTop (mkF m 68 #[.val (.ref a0), .val (.int p1), .val (.int (x0 &&& (255 : Int32))), .val (.int (3 : Int32)), .val (.int (128 : Int32)), .val (.int (191 : Int32)), .unset, .unset, .unset, .unset] [(.int (160 : Int32))]))
          refine Go.st (fun _ k => XS.istore X0.here hx rfl (hb hby d4_68) rfl (l' := #[.val (.ref a0), .val (.int p1), .val (.int (x0 &&& (255 : Int32))), .val (.int (3 : Int32)), .val (.int (160 : Int32)), .val (.int (191 : Int32)), .unset, .unset, .unset, .unset]) rfl k) ?_
          show Go p e below _ (s₁.setTop (mkF m 70 #[.val (.ref a0), .val (.int p1), .val (.int (x0 &&& (255 : Int32))), .val (.int (3 : Int32)), .val (.int (160 : Int32)), .val (.int (191 : Int32)), .unset, .unset, .unset, .unset] []))
          refine Go.st (fun _ k => XS.iloadN X0.here hx rfl (hb hby d4_70) rfl k) ?_
          refine Go.st (fun _ k => XS.sipush X0.here hx rfl (hb hby d4_71) k) ?_
          show Go p e below _ (s₁.setTop (mkF m 74 #[.val (.ref a0), .val (.int p1), .val (.int (x0 &&& (255 : Int32))), .val (.int (3 : Int32)), .val (.int (160 : Int32)), .val (.int (191 : Int32)), .unset, .unset, .unset, .unset] [(.int (237 : Int32)), (.int (x0 &&& (255 : Int32)))]))
          refine Go.st (fun _ k => XS.icmpYes X0.here hx rfl (pc0 := 74) (pc' := 83) rfl (hb hby d4_74) rfl (feq (own_fd (own_ue hc38) (by decide))).2 (by decide) (by decide) k) ?_
          show Go p e below _ (s₁.setTop (mkF m 83 #[.val (.ref a0), .val (.int p1), .val (.int (x0 &&& (255 : Int32))), .val (.int (3 : Int32)), .val (.int (160 : Int32)), .val (.int (191 : Int32)), .unset, .unset, .unset, .unset] []))
          refine Go.st (fun _ k => XS.iload X0.here hx rfl (hb hby d4_83) rfl k) ?_
          refine Go.st (fun _ k => XS.istore X0.here hx rfl (hb hby d4_85) rfl (l' := #[.val (.ref a0), .val (.int p1), .val (.int (x0 &&& (255 : Int32))), .val (.int (3 : Int32)), .val (.int (160 : Int32)), .val (.int (191 : Int32)), .unset, .unset, .unset, .unset]) rfl k) ?_
          show Go p e below _ (s₁.setTop (mkF m 87 #[.val (.ref a0), .val (.int p1), .val (.int (x0 &&& (255 : Int32))), .val (.int (3 : Int32)), .val (.int (160 : Int32)), .val (.int (191 : Int32)), .unset, .unset, .unset, .unset] []))
          refine Go.st (fun _ k => XS.goto X0.here hx rfl (pc0 := 87) (pc' := 145) rfl (hb hby d4_87) (by decide) (by decide) k) ?_
          show Go p e below _ (s₁.setTop (mkF m 145 #[.val (.ref a0), .val (.int p1), .val (.int (x0 &&& (255 : Int32))), .val (.int (3 : Int32)), .val (.int (160 : Int32)), .val (.int (191 : Int32)), .unset, .unset, .unset, .unset] []))
          exact key3 (160 : Int32) (191 : Int32) (by unfold fCE; rw [if_neg hc32, if_pos hc33, if_neg hc34, if_pos hc38])
        · show Go p e below _ (s₁.setTop (mkF m 57 #[.val (.ref a0), .val (.int p1), .val (.int (x0 &&& (255 : Int32))), .val (.int (3 : Int32)), .val (.int (128 : Int32)), .val (.int (191 : Int32)), .unset, .unset, .unset, .unset] [(.int (224 : Int32)), (.int (x0 &&& (255 : Int32)))]))
          refine Go.st (fun _ k => XS.icmpYes X0.here hx rfl (pc0 := 57) (pc' := 66) rfl (hb hby d4_57) rfl (feq hc38).2 (by decide) (by decide) k) ?_
          show Go p e below _ (s₁.setTop (mkF m 66 #[.val (.ref a0), .val (.int p1), .val (.int (x0 &&& (255 : Int32))), .val (.int (3 : Int32)), .val (.int (128 : Int32)), .val (.int (191 : Int32)), .unset, .unset, .unset, .unset] []))
          refine Go.st (fun _ k => XS.iload X0.here hx rfl (hb hby d4_66) rfl k) ?_
          refine Go.st (fun _ k => XS.istore X0.here hx rfl (hb hby d4_68) rfl (l' := #[.val (.ref a0), .val (.int p1), .val (.int (x0 &&& (255 : Int32))), .val (.int (3 : Int32)), .val (.int (128 : Int32)), .val (.int (191 : Int32)), .unset, .unset, .unset, .unset]) rfl k) ?_
          show Go p e below _ (s₁.setTop (mkF m 70 #[.val (.ref a0), .val (.int p1), .val (.int (x0 &&& (255 : Int32))), .val (.int (3 : Int32)), .val (.int (128 : Int32)), .val (.int (191 : Int32)), .unset, .unset, .unset, .unset] []))
          refine Go.st (fun _ k => XS.iloadN X0.here hx rfl (hb hby d4_70) rfl k) ?_
          refine Go.st (fun _ k => XS.sipush X0.here hx rfl (hb hby d4_71) k) ?_
          show Go p e below _ (s₁.setTop (mkF m 74 #[.val (.ref a0), .val (.int p1), .val (.int (x0 &&& (255 : Int32))), .val (.int (3 : Int32)), .val (.int (128 : Int32)), .val (.int (191 : Int32)), .unset, .unset, .unset, .unset] [(.int (237 : Int32)), (.int (x0 &&& (255 : Int32)))]))
          by_cases hc39 : (x0 &&& (255 : Int32)) = (237 : Int32)
          · show Go p e below _ (s₁.setTop (mkF m 74 #[.val (.ref a0), .val (.int p1), .val (.int (x0 &&& (255 : Int32))), .val (.int (3 : Int32)), .val (.int (128 : Int32)), .val (.int (191 : Int32)), .unset, .unset, .unset, .unset] [(.int (237 : Int32)), (.int (x0 &&& (255 : Int32)))]))
            refine Go.st (fun _ k => XS.icmpNo X0.here hx rfl (hb hby d4_74) rfl (teq hc39).2 k) ?_
            show Go p e below _ (s₁.setTop (mkF m 77 #[.val (.ref a0), .val (.int p1), .val (.int (x0 &&& (255 : Int32))), .val (.int (3 : Int32)), .val (.int (128 : Int32)), .val (.int (191 : Int32)), .unset, .unset, .unset, .unset] []))
            refine Go.st (fun _ k => XS.sipush X0.here hx rfl (hb hby d4_77) k) ?_
            refine Go.st (fun _ k => XS.goto X0.here hx rfl (pc0 := 80) (pc' := 85) rfl (hb hby d4_80) (by decide) (by decide) k) ?_
            show Go p e below _ (s₁.setTop (mkF m 85 #[.val (.ref a0), .val (.int p1), .val (.int (x0 &&& (255 : Int32))), .val (.int (3 : Int32)), .val (.int (128 : Int32)), .val (.int (191 : Int32)), .unset, .unset, .unset, .unset] [(.int (159 : Int32))]))
            refine Go.st (fun _ k => XS.istore X0.here hx rfl (hb hby d4_85) rfl (l' := #[.val (.ref a0), .val (.int p1), .val (.int (x0 &&& (255 : Int32))), .val (.int (3 : Int32)), .val (.int (128 : Int32)), .val (.int (159 : Int32)), .unset, .unset, .unset, .unset]) rfl k) ?_
            show Go p e below _ (s₁.setTop (mkF m 87 #[.val (.ref a0), .val (.int p1), .val (.int (x0 &&& (255 : Int32))), .val (.int (3 : Int32)), .val (.int (128 : Int32)), .val (.int (159 : Int32)), .unset, .unset, .unset, .unset] []))
            refine Go.st (fun _ k => XS.goto X0.here hx rfl (pc0 := 87) (pc' := 145) rfl (hb hby d4_87) (by decide) (by decide) k) ?_
            show Go p e below _ (s₁.setTop (mkF m 145 #[.val (.ref a0), .val (.int p1), .val (.int (x0 &&& (255 : Int32))), .val (.int (3 : Int32)), .val (.int (128 : Int32)), .val (.int (159 : Int32)), .unset, .unset, .unset, .unset] []))
            exact key3 (128 : Int32) (159 : Int32) (by unfold fCE; rw [if_neg hc32, if_pos hc33, if_neg hc34, if_neg hc38, if_pos hc39])
          · show Go p e below _ (s₁.setTop (mkF m 74 #[.val (.ref a0), .val (.int p1), .val (.int (x0 &&& (255 : Int32))), .val (.int (3 : Int32)), .val (.int (128 : Int32)), .val (.int (191 : Int32)), .unset, .unset, .unset, .unset] [(.int (237 : Int32)), (.int (x0 &&& (255 : Int32)))]))
            refine Go.st (fun _ k => XS.icmpYes X0.here hx rfl (pc0 := 74) (pc' := 83) rfl (hb hby d4_74) rfl (feq hc39).2 (by decide) (by decide) k) ?_
            show Go p e below _ (s₁.setTop (mkF m 83 #[.val (.ref a0), .val (.int p1), .val (.int (x0 &&& (255 : Int32))), .val (.int (3 : Int32)), .val (.int (128 : Int32)), .val (.int (191 : Int32)), .unset, .unset, .unset, .unset] []))
            refine Go.st (fun _ k => XS.iload X0.here hx rfl (hb hby d4_83) rfl k) ?_
            refine Go.st (fun _ k => XS.istore X0.here hx rfl (hb hby d4_85) rfl (l' := #[.val (.ref a0), .val (.int p1), .val (.int (x0 &&& (255 : Int32))), .val (.int (3 : Int32)), .val (.int (128 : Int32)), .val (.int (191 : Int32)), .unset, .unset, .unset, .unset]) rfl k) ?_
            show Go p e below _ (s₁.setTop (mkF m 87 #[.val (.ref a0), .val (.int p1), .val (.int (x0 &&& (255 : Int32))), .val (.int (3 : Int32)), .val (.int (128 : Int32)), .val (.int (191 : Int32)), .unset, .unset, .unset, .unset] []))
            refine Go.st (fun _ k => XS.goto X0.here hx rfl (pc0 := 87) (pc' := 145) rfl (hb hby d4_87) (by decide) (by decide) k) ?_
            show Go p e below _ (s₁.setTop (mkF m 145 #[.val (.ref a0), .val (.int p1), .val (.int (x0 &&& (255 : Int32))), .val (.int (3 : Int32)), .val (.int (128 : Int32)), .val (.int (191 : Int32)), .unset, .unset, .unset, .unset] []))
            exact key3 (128 : Int32) (191 : Int32) (by unfold fCE; rw [if_neg hc32, if_pos hc33, if_neg hc34, if_neg hc38, if_neg hc39])
    · show Go p e below _ (s₁.setTop (mkF m 29 #[.val (.ref a0), .val (.int p1), .val (.int (x0 &&& (255 : Int32))), .unset, .val (.int (128 : Int32)), .val (.int (191 : Int32)), .unset, .unset, .unset, .unset] [(.int (223 : Int32)), (.int (x0 &&& (255 : Int32)))]))
      refine Go.st (fun _ k => XS.icmpNo X0.here hx rfl (hb hby d4_29) rfl (flt hc33).2.2.1 k) ?_
      show Go p e below _ (s₁.setTop (mkF m 32 #[.val (.ref a0), .val (.int p1), .val (.int (x0 &&& (255 : Int32))), .unset, .val (.int (128 : Int32)), .val (.int (191 : Int32)), .unset, .unset, .unset, .unset] []))
      refine Go.st (fun _ k => XS.iconst X0.here hx rfl (hb hby d4_32) k) ?_
      refine Go.st (fun _ k => XS.istoreN X0.here hx rfl (hb hby d4_33) rfl (l' := #[.val (.ref a0), .val (.int p1), .val (.int (x0 &&& (255 : Int32))), .val (.int (2 : Int32)), .val (.int (128 : Int32)), .val (.int (191 : Int32)), .unset, .unset, .unset, .unset]) rfl k) ?_
      show Go p e below _ (s₁.setTop (mkF m 34 #[.val (.ref a0), .val (.int p1), .val (.int (x0 &&& (255 : Int32))), .val (.int (2 : Int32)), .val (.int (128 : Int32)), .val (.int (191 : Int32)), .unset, .unset, .unset, .unset] []))
      refine Go.st (fun _ k => XS.goto X0.here hx rfl (pc0 := 34) (pc' := 145) rfl (hb hby d4_34) (by decide) (by decide) k) ?_
      show Go p e below _ (s₁.setTop (mkF m 145 #[.val (.ref a0), .val (.int p1), .val (.int (x0 &&& (255 : Int32))), .val (.int (2 : Int32)), .val (.int (128 : Int32)), .val (.int (191 : Int32)), .unset, .unset, .unset, .unset] []))
      exact key2 (128 : Int32) (191 : Int32) (by unfold fCE; rw [if_neg hc32, if_neg hc33])
theorem d2_0 : decode method_4_code 0 = .ok (.aload_n 0, 1) := by decide +kernel
theorem d2_1 : decode method_4_code 1 = .ok (.iload_n 2, 1) := by decide +kernel
theorem d2_2 : decode method_4_code 2 = .ok (.baload, 1) := by decide +kernel
theorem d2_3 : decode method_4_code 3 = .ok (.sipush 255, 3) := by decide +kernel
theorem d2_6 : decode method_4_code 6 = .ok (.iand, 1) := by decide +kernel
theorem d2_7 : decode method_4_code 7 = .ok (.istore_n 3, 1) := by decide +kernel
theorem d2_8 : decode method_4_code 8 = .ok (.iload_n 3, 1) := by decide +kernel
theorem d2_9 : decode method_4_code 9 = .ok (.sipush 128, 3) := by decide +kernel
theorem d2_12 : decode method_4_code 12 = .ok (.if_icmp .ge 5, 3) := by decide +kernel
theorem d2_15 : decode method_4_code 15 = .ok (.iconst 1, 1) := by decide +kernel
theorem d2_16 : decode method_4_code 16 = .ok (.ireturn, 1) := by decide +kernel
theorem d2_17 : decode method_4_code 17 = .ok (.iload_n 3, 1) := by decide +kernel
theorem d2_18 : decode method_4_code 18 = .ok (.sipush 224, 3) := by decide +kernel
theorem d2_21 : decode method_4_code 21 = .ok (.iand, 1) := by decide +kernel
theorem d2_22 : decode method_4_code 22 = .ok (.sipush 192, 3) := by decide +kernel
theorem d2_25 : decode method_4_code 25 = .ok (.if_icmp .ne 20, 3) := by decide +kernel
theorem d2_28 : decode method_4_code 28 = .ok (.iconst 2, 1) := by decide +kernel
theorem d2_29 : decode method_4_code 29 = .ok (.istore 4, 2) := by decide +kernel
theorem d2_31 : decode method_4_code 31 = .ok (.iload_n 3, 1) := by decide +kernel
theorem d2_32 : decode method_4_code 32 = .ok (.bipush 31, 2) := by decide +kernel
theorem d2_34 : decode method_4_code 34 = .ok (.iand, 1) := by decide +kernel
theorem d2_35 : decode method_4_code 35 = .ok (.istore 5, 2) := by decide +kernel
theorem d2_37 : decode method_4_code 37 = .ok (.sipush 128, 3) := by decide +kernel
theorem d2_40 : decode method_4_code 40 = .ok (.istore 6, 2) := by decide +kernel
theorem d2_42 : decode method_4_code 42 = .ok (.goto 60, 3) := by decide +kernel
theorem d2_45 : decode method_4_code 45 = .ok (.iload_n 3, 1) := by decide +kernel
theorem d2_46 : decode method_4_code 46 = .ok (.sipush 240, 3) := by decide +kernel
theorem d2_49 : decode method_4_code 49 = .ok (.iand, 1) := by decide +kernel
theorem d2_50 : decode method_4_code 50 = .ok (.sipush 224, 3) := by decide +kernel
theorem d2_53 : decode method_4_code 53 = .ok (.if_icmp .ne 20, 3) := by decide +kernel
theorem d2_56 : decode method_4_code 56 = .ok (.iconst 3, 1) := by decide +kernel
theorem d2_57 : decode method_4_code 57 = .ok (.istore 4, 2) := by decide +kernel
theorem d2_59 : decode method_4_code 59 = .ok (.iload_n 3, 1) := by decide +kernel
theorem d2_60 : decode method_4_code 60 = .ok (.bipush 15, 2) := by decide +kernel
theorem d2_62 : decode method_4_code 62 = .ok (.iand, 1) := by decide +kernel
theorem d2_63 : decode method_4_code 63 = .ok (.istore 5, 2) := by decide +kernel
theorem d2_65 : decode method_4_code 65 = .ok (.sipush 2048, 3) := by decide +kernel
theorem d2_68 : decode method_4_code 68 = .ok (.istore 6, 2) := by decide +kernel
theorem d2_70 : decode method_4_code 70 = .ok (.goto 32, 3) := by decide +kernel
theorem d2_73 : decode method_4_code 73 = .ok (.iload_n 3, 1) := by decide +kernel
theorem d2_74 : decode method_4_code 74 = .ok (.sipush 248, 3) := by decide +kernel
theorem d2_77 : decode method_4_code 77 = .ok (.iand, 1) := by decide +kernel
theorem d2_78 : decode method_4_code 78 = .ok (.sipush 240, 3) := by decide +kernel
theorem d2_81 : decode method_4_code 81 = .ok (.if_icmp .ne 19, 3) := by decide +kernel
theorem d2_84 : decode method_4_code 84 = .ok (.iconst 4, 1) := by decide +kernel
theorem d2_85 : decode method_4_code 85 = .ok (.istore 4, 2) := by decide +kernel
theorem d2_87 : decode method_4_code 87 = .ok (.iload_n 3, 1) := by decide +kernel
theorem d2_88 : decode method_4_code 88 = .ok (.bipush 7, 2) := by decide +kernel
theorem d2_90 : decode method_4_code 90 = .ok (.iand, 1) := by decide +kernel
theorem d2_91 : decode method_4_code 91 = .ok (.istore 5, 2) := by decide +kernel
theorem d2_93 : decode method_4_code 93 = .ok (.ldc 24, 2) := by decide +kernel
theorem d2_95 : decode method_4_code 95 = .ok (.istore 6, 2) := by decide +kernel
theorem d2_97 : decode method_4_code 97 = .ok (.goto 5, 3) := by decide +kernel
theorem d2_100 : decode method_4_code 100 = .ok (.iconst 0, 1) := by decide +kernel
theorem d2_101 : decode method_4_code 101 = .ok (.ireturn, 1) := by decide +kernel
theorem d2_102 : decode method_4_code 102 = .ok (.iload_n 2, 1) := by decide +kernel
theorem d2_103 : decode method_4_code 103 = .ok (.iload 4, 2) := by decide +kernel
theorem d2_105 : decode method_4_code 105 = .ok (.iadd, 1) := by decide +kernel
theorem d2_106 : decode method_4_code 106 = .ok (.iload_n 1, 1) := by decide +kernel
theorem d2_107 : decode method_4_code 107 = .ok (.if_icmp .le 5, 3) := by decide +kernel
theorem d2_110 : decode method_4_code 110 = .ok (.iconst 0, 1) := by decide +kernel
theorem d2_111 : decode method_4_code 111 = .ok (.ireturn, 1) := by decide +kernel
theorem d2_112 : decode method_4_code 112 = .ok (.aload_n 0, 1) := by decide +kernel
theorem d2_113 : decode method_4_code 113 = .ok (.iload_n 2, 1) := by decide +kernel
theorem d2_114 : decode method_4_code 114 = .ok (.iconst 1, 1) := by decide +kernel
theorem d2_115 : decode method_4_code 115 = .ok (.iadd, 1) := by decide +kernel
theorem d2_116 : decode method_4_code 116 = .ok (.baload, 1) := by decide +kernel
theorem d2_117 : decode method_4_code 117 = .ok (.sipush 255, 3) := by decide +kernel
theorem d2_120 : decode method_4_code 120 = .ok (.iand, 1) := by decide +kernel
theorem d2_121 : decode method_4_code 121 = .ok (.istore 7, 2) := by decide +kernel
theorem d2_123 : decode method_4_code 123 = .ok (.iload 7, 2) := by decide +kernel
theorem d2_125 : decode method_4_code 125 = .ok (.sipush 192, 3) := by decide +kernel
theorem d2_128 : decode method_4_code 128 = .ok (.iand, 1) := by decide +kernel
theorem d2_129 : decode method_4_code 129 = .ok (.sipush 128, 3) := by decide +kernel
theorem d2_132 : decode method_4_code 132 = .ok (.if_icmp .eq 5, 3) := by decide +kernel
theorem d2_135 : decode method_4_code 135 = .ok (.iconst 0, 1) := by decide +kernel
theorem d2_136 : decode method_4_code 136 = .ok (.ireturn, 1) := by decide +kernel
theorem d2_137 : decode method_4_code 137 = .ok (.iload 5, 2) := by decide +kernel
theorem d2_139 : decode method_4_code 139 = .ok (.bipush 6, 2) := by decide +kernel
theorem d2_141 : decode method_4_code 141 = .ok (.ishl, 1) := by decide +kernel
theorem d2_142 : decode method_4_code 142 = .ok (.iload 7, 2) := by decide +kernel
theorem d2_144 : decode method_4_code 144 = .ok (.bipush 63, 2) := by decide +kernel
theorem d2_146 : decode method_4_code 146 = .ok (.iand, 1) := by decide +kernel
theorem d2_147 : decode method_4_code 147 = .ok (.ior, 1) := by decide +kernel
theorem d2_148 : decode method_4_code 148 = .ok (.istore 5, 2) := by decide +kernel
theorem d2_150 : decode method_4_code 150 = .ok (.iload 4, 2) := by decide +kernel
theorem d2_152 : decode method_4_code 152 = .ok (.iconst 3, 1) := by decide +kernel
theorem d2_153 : decode method_4_code 153 = .ok (.if_icmp .lt 41, 3) := by decide +kernel
theorem d2_156 : decode method_4_code 156 = .ok (.aload_n 0, 1) := by decide +kernel
theorem d2_157 : decode method_4_code 157 = .ok (.iload_n 2, 1) := by decide +kernel
theorem d2_158 : decode method_4_code 158 = .ok (.iconst 2, 1) := by decide +kernel
theorem d2_159 : decode method_4_code 159 = .ok (.iadd, 1) := by decide +kernel
theorem d2_160 : decode method_4_code 160 = .ok (.baload, 1) := by decide +kernel
theorem d2_161 : decode method_4_code 161 = .ok (.sipush 255, 3) := by decide +kernel
theorem d2_164 : decode method_4_code 164 = .ok (.iand, 1) := by decide +kernel
theorem d2_165 : decode method_4_code 165 = .ok (.istore 7, 2) := by decide +kernel
theorem d2_167 : decode method_4_code 167 = .ok (.iload 7, 2) := by decide +kernel
theorem d2_169 : decode method_4_code 169 = .ok (.sipush 192, 3) := by decide +kernel
theorem d2_172 : decode method_4_code 172 = .ok (.iand, 1) := by decide +kernel
theorem d2_173 : decode method_4_code 173 = .ok (.sipush 128, 3) := by decide +kernel
theorem d2_176 : decode method_4_code 176 = .ok (.if_icmp .eq 5, 3) := by decide +kernel
theorem d2_179 : decode method_4_code 179 = .ok (.iconst 0, 1) := by decide +kernel
theorem d2_180 : decode method_4_code 180 = .ok (.ireturn, 1) := by decide +kernel
theorem d2_181 : decode method_4_code 181 = .ok (.iload 5, 2) := by decide +kernel
theorem d2_183 : decode method_4_code 183 = .ok (.bipush 6, 2) := by decide +kernel
theorem d2_185 : decode method_4_code 185 = .ok (.ishl, 1) := by decide +kernel
theorem d2_186 : decode method_4_code 186 = .ok (.iload 7, 2) := by decide +kernel
theorem d2_188 : decode method_4_code 188 = .ok (.bipush 63, 2) := by decide +kernel
theorem d2_190 : decode method_4_code 190 = .ok (.iand, 1) := by decide +kernel
theorem d2_191 : decode method_4_code 191 = .ok (.ior, 1) := by decide +kernel
theorem d2_192 : decode method_4_code 192 = .ok (.istore 5, 2) := by decide +kernel
theorem d2_194 : decode method_4_code 194 = .ok (.iload 4, 2) := by decide +kernel
theorem d2_196 : decode method_4_code 196 = .ok (.iconst 4, 1) := by decide +kernel
theorem d2_197 : decode method_4_code 197 = .ok (.if_icmp .ne 41, 3) := by decide +kernel
theorem d2_200 : decode method_4_code 200 = .ok (.aload_n 0, 1) := by decide +kernel
theorem d2_201 : decode method_4_code 201 = .ok (.iload_n 2, 1) := by decide +kernel
theorem d2_202 : decode method_4_code 202 = .ok (.iconst 3, 1) := by decide +kernel
theorem d2_203 : decode method_4_code 203 = .ok (.iadd, 1) := by decide +kernel
theorem d2_204 : decode method_4_code 204 = .ok (.baload, 1) := by decide +kernel
theorem d2_205 : decode method_4_code 205 = .ok (.sipush 255, 3) := by decide +kernel
theorem d2_208 : decode method_4_code 208 = .ok (.iand, 1) := by decide +kernel
theorem d2_209 : decode method_4_code 209 = .ok (.istore 7, 2) := by decide +kernel
theorem d2_211 : decode method_4_code 211 = .ok (.iload 7, 2) := by decide +kernel
theorem d2_213 : decode method_4_code 213 = .ok (.sipush 192, 3) := by decide +kernel
theorem d2_216 : decode method_4_code 216 = .ok (.iand, 1) := by decide +kernel
theorem d2_217 : decode method_4_code 217 = .ok (.sipush 128, 3) := by decide +kernel
theorem d2_220 : decode method_4_code 220 = .ok (.if_icmp .eq 5, 3) := by decide +kernel
theorem d2_223 : decode method_4_code 223 = .ok (.iconst 0, 1) := by decide +kernel
theorem d2_224 : decode method_4_code 224 = .ok (.ireturn, 1) := by decide +kernel
theorem d2_225 : decode method_4_code 225 = .ok (.iload 5, 2) := by decide +kernel
theorem d2_227 : decode method_4_code 227 = .ok (.bipush 6, 2) := by decide +kernel
theorem d2_229 : decode method_4_code 229 = .ok (.ishl, 1) := by decide +kernel
theorem d2_230 : decode method_4_code 230 = .ok (.iload 7, 2) := by decide +kernel
theorem d2_232 : decode method_4_code 232 = .ok (.bipush 63, 2) := by decide +kernel
theorem d2_234 : decode method_4_code 234 = .ok (.iand, 1) := by decide +kernel
theorem d2_235 : decode method_4_code 235 = .ok (.ior, 1) := by decide +kernel
theorem d2_236 : decode method_4_code 236 = .ok (.istore 5, 2) := by decide +kernel
theorem d2_238 : decode method_4_code 238 = .ok (.iload 5, 2) := by decide +kernel
theorem d2_240 : decode method_4_code 240 = .ok (.iload 6, 2) := by decide +kernel
theorem d2_242 : decode method_4_code 242 = .ok (.if_icmp .ge 5, 3) := by decide +kernel
theorem d2_245 : decode method_4_code 245 = .ok (.iconst 0, 1) := by decide +kernel
theorem d2_246 : decode method_4_code 246 = .ok (.ireturn, 1) := by decide +kernel
theorem d2_247 : decode method_4_code 247 = .ok (.iload 5, 2) := by decide +kernel
theorem d2_249 : decode method_4_code 249 = .ok (.ldc 25, 2) := by decide +kernel
theorem d2_251 : decode method_4_code 251 = .ok (.if_icmp .lt 12, 3) := by decide +kernel
theorem d2_254 : decode method_4_code 254 = .ok (.iload 5, 2) := by decide +kernel
theorem d2_256 : decode method_4_code 256 = .ok (.ldc 26, 2) := by decide +kernel
theorem d2_258 : decode method_4_code 258 = .ok (.if_icmp .gt 5, 3) := by decide +kernel
theorem d2_261 : decode method_4_code 261 = .ok (.iconst 0, 1) := by decide +kernel
theorem d2_262 : decode method_4_code 262 = .ok (.ireturn, 1) := by decide +kernel
theorem d2_263 : decode method_4_code 263 = .ok (.iload 5, 2) := by decide +kernel
theorem d2_265 : decode method_4_code 265 = .ok (.ldc 27, 2) := by decide +kernel
theorem d2_267 : decode method_4_code 267 = .ok (.if_icmp .le 5, 3) := by decide +kernel
theorem d2_270 : decode method_4_code 270 = .ok (.iconst 0, 1) := by decide +kernel
theorem d2_271 : decode method_4_code 271 = .ok (.ireturn, 1) := by decide +kernel
theorem d2_272 : decode method_4_code 272 = .ok (.iload 4, 2) := by decide +kernel
theorem d2_274 : decode method_4_code 274 = .ok (.ireturn, 1) := by decide +kernel
theorem pn_2 : plainName "com/example/apportis/apportis/Utf8FirstInvalidPinLaw" = true := by first | (simp [plainName, overriddenIn]; done) | decide +kernel
theorem ef_rmCL (m : MethodId) (a0 : Addr) (p1 : Int32) (p2 : Int32) : entryFrame m #[(.ref a0), (.int p1), (.int p2)] 8 = mkF m 0 #[.val (.ref a0), .val (.int p1), .val (.int p2), .unset, .unset, .unset, .unset, .unset] [] := by first | (simp [entryFrame, mkF, argsToLocals, Value.category]; done) | rfl
def fCL (x0 : Int32) (x1 : Int32) (x2 : Int32) (x3 : Int32) (p1 : Int32) (p2 : Int32) : Int32 := if (x0 &&& (255 : Int32)) < (128 : Int32) then (1 : Int32) else (if ((x0 &&& (255 : Int32)) &&& (224 : Int32)) = (192 : Int32) then (if p1 < (p2 + (2 : Int32)) then (0 : Int32) else (if ((x1 &&& (255 : Int32)) &&& (192 : Int32)) = (128 : Int32) then (if ((((x0 &&& (255 : Int32)) &&& (31 : Int32)) <<< ((6 : Int32) &&& 31)) ||| ((x1 &&& (255 : Int32)) &&& (63 : Int32))) < (128 : Int32) then (0 : Int32) else (if ((((x0 &&& (255 : Int32)) &&& (31 : Int32)) <<< ((6 : Int32) &&& 31)) ||| ((x1 &&& (255 : Int32)) &&& (63 : Int32))) < (55296 : Int32) then (if (1114111 : Int32) < ((((x0 &&& (255 : Int32)) &&& (31 : Int32)) <<< ((6 : Int32) &&& 31)) ||| ((x1 &&& (255 : Int32)) &&& (63 : Int32))) then (0 : Int32) else (2 : Int32)) else (if (57343 : Int32) < ((((x0 &&& (255 : Int32)) &&& (31 : Int32)) <<< ((6 : Int32) &&& 31)) ||| ((x1 &&& (255 : Int32)) &&& (63 : Int32))) then (if (1114111 : Int32) < ((((x0 &&& (255 : Int32)) &&& (31 : Int32)) <<< ((6 : Int32) &&& 31)) ||| ((x1 &&& (255 : Int32)) &&& (63 : Int32))) then (0 : Int32) else (2 : Int32)) else (0 : Int32)))) else (0 : Int32))) else (if ((x0 &&& (255 : Int32)) &&& (240 : Int32)) = (224 : Int32) then (if p1 < (p2 + (3 : Int32)) then (0 : Int32) else (if ((x1 &&& (255 : Int32)) &&& (192 : Int32)) = (128 : Int32) then (if ((x2 &&& (255 : Int32)) &&& (192 : Int32)) = (128 : Int32) then (if ((((((x0 &&& (255 : Int32)) &&& (15 : Int32)) <<< ((6 : Int32) &&& 31)) ||| ((x1 &&& (255 : Int32)) &&& (63 : Int32))) <<< ((6 : Int32) &&& 31)) ||| ((x2 &&& (255 : Int32)) &&& (63 : Int32))) < (2048 : Int32) then (0 : Int32) else (if ((((((x0 &&& (255 : Int32)) &&& (15 : Int32)) <<< ((6 : Int32) &&& 31)) ||| ((x1 &&& (255 : Int32)) &&& (63 : Int32))) <<< ((6 : Int32) &&& 31)) ||| ((x2 &&& (255 : Int32)) &&& (63 : Int32))) < (55296 : Int32) then (if (1114111 : Int32) < ((((((x0 &&& (255 : Int32)) &&& (15 : Int32)) <<< ((6 : Int32) &&& 31)) ||| ((x1 &&& (255 : Int32)) &&& (63 : Int32))) <<< ((6 : Int32) &&& 31)) ||| ((x2 &&& (255 : Int32)) &&& (63 : Int32))) then (0 : Int32) else (3 : Int32)) else (if (57343 : Int32) < ((((((x0 &&& (255 : Int32)) &&& (15 : Int32)) <<< ((6 : Int32) &&& 31)) ||| ((x1 &&& (255 : Int32)) &&& (63 : Int32))) <<< ((6 : Int32) &&& 31)) ||| ((x2 &&& (255 : Int32)) &&& (63 : Int32))) then (if (1114111 : Int32) < ((((((x0 &&& (255 : Int32)) &&& (15 : Int32)) <<< ((6 : Int32) &&& 31)) ||| ((x1 &&& (255 : Int32)) &&& (63 : Int32))) <<< ((6 : Int32) &&& 31)) ||| ((x2 &&& (255 : Int32)) &&& (63 : Int32))) then (0 : Int32) else (3 : Int32)) else (0 : Int32)))) else (0 : Int32)) else (0 : Int32))) else (if ((x0 &&& (255 : Int32)) &&& (248 : Int32)) = (240 : Int32) then (if p1 < (p2 + (4 : Int32)) then (0 : Int32) else (if ((x1 &&& (255 : Int32)) &&& (192 : Int32)) = (128 : Int32) then (if ((x2 &&& (255 : Int32)) &&& (192 : Int32)) = (128 : Int32) then (if ((x3 &&& (255 : Int32)) &&& (192 : Int32)) = (128 : Int32) then (if ((((((((x0 &&& (255 : Int32)) &&& (7 : Int32)) <<< ((6 : Int32) &&& 31)) ||| ((x1 &&& (255 : Int32)) &&& (63 : Int32))) <<< ((6 : Int32) &&& 31)) ||| ((x2 &&& (255 : Int32)) &&& (63 : Int32))) <<< ((6 : Int32) &&& 31)) ||| ((x3 &&& (255 : Int32)) &&& (63 : Int32))) < (65536 : Int32) then (0 : Int32) else (if ((((((((x0 &&& (255 : Int32)) &&& (7 : Int32)) <<< ((6 : Int32) &&& 31)) ||| ((x1 &&& (255 : Int32)) &&& (63 : Int32))) <<< ((6 : Int32) &&& 31)) ||| ((x2 &&& (255 : Int32)) &&& (63 : Int32))) <<< ((6 : Int32) &&& 31)) ||| ((x3 &&& (255 : Int32)) &&& (63 : Int32))) < (55296 : Int32) then (if (1114111 : Int32) < ((((((((x0 &&& (255 : Int32)) &&& (7 : Int32)) <<< ((6 : Int32) &&& 31)) ||| ((x1 &&& (255 : Int32)) &&& (63 : Int32))) <<< ((6 : Int32) &&& 31)) ||| ((x2 &&& (255 : Int32)) &&& (63 : Int32))) <<< ((6 : Int32) &&& 31)) ||| ((x3 &&& (255 : Int32)) &&& (63 : Int32))) then (0 : Int32) else (4 : Int32)) else (if (57343 : Int32) < ((((((((x0 &&& (255 : Int32)) &&& (7 : Int32)) <<< ((6 : Int32) &&& 31)) ||| ((x1 &&& (255 : Int32)) &&& (63 : Int32))) <<< ((6 : Int32) &&& 31)) ||| ((x2 &&& (255 : Int32)) &&& (63 : Int32))) <<< ((6 : Int32) &&& 31)) ||| ((x3 &&& (255 : Int32)) &&& (63 : Int32))) then (if (1114111 : Int32) < ((((((((x0 &&& (255 : Int32)) &&& (7 : Int32)) <<< ((6 : Int32) &&& 31)) ||| ((x1 &&& (255 : Int32)) &&& (63 : Int32))) <<< ((6 : Int32) &&& 31)) ||| ((x2 &&& (255 : Int32)) &&& (63 : Int32))) <<< ((6 : Int32) &&& 31)) ||| ((x3 &&& (255 : Int32)) &&& (63 : Int32))) then (0 : Int32) else (4 : Int32)) else (0 : Int32)))) else (0 : Int32)) else (0 : Int32)) else (0 : Int32))) else (0 : Int32))))
def Q_rmCL (Z : State) (x0 : Int32) (x1 : Int32) (x2 : Int32) (x3 : Int32) (a0 : Addr) (p1 : Int32) (p2 : Int32) (kk : ClassId) (z : Int32) (vs : List Value) (h0 : Heap) (n0 : Nat) (v : Option Value) (h : Heap) (L : List Loc) : Prop := v = some (.int (fCL x0 x1 x2 x3 p1 p2)) ∧ Fr n0 L ∧ h = h0
abbrev F_rmCL (Z : State) (x0 : Int32) (x1 : Int32) (x2 : Int32) (x3 : Int32) (a0 : Addr) (p1 : Int32) (p2 : Int32) (kk : ClassId) (z : Int32) (vs : List Value) (h0 : Heap) (n0 : Nat) (s : State) (o : Outcome) (U : State) : Prop := ∃ v L, o = .returned v ∧ Q_rmCL Z x0 x1 x2 x3 a0 p1 p2 kk z vs h0 n0 v U.heap L ∧ FrameEnd s o U L 0 0
set_option maxRecDepth 65536 in
set_option maxHeartbeats 40000000 in
theorem rmCL (l : Launch) (Z : State) (aZ : Array Value) (hw : ∀ d ∈ tables_1, d.before aZ Z = true) (ws : List Jvm.Cond) (x0 : Int32) (x1 : Int32) (x2 : Int32) (x3 : Int32) (a0 : Addr) (p1 : Int32) (p2 : Int32) (kk : ClassId) (z : Int32) (vs : List Value) (h0 : Heap) (n0 : Nat) (hn : p1 = z) (hs0 : 0 ≤ p2.toInt) (hs1 : p2.toInt < z.toInt) (hs2 : z.toInt ≤ 100) (he0 : vs.getD p2.toNatClampNeg (.int (0 : Int32)) = .int x0) (he1 : p2.toInt + 1 < z.toInt → vs.getD (p2 + (1 : Int32)).toNatClampNeg (.int (0 : Int32)) = .int x1) (he2 : p2.toInt + 2 < z.toInt → vs.getD (p2 + (2 : Int32)).toNatClampNeg (.int (0 : Int32)) = .int x2) (he3 : p2.toInt + 3 < z.toInt → vs.getD (p2 + (3 : Int32)).toNatClampNeg (.int (0 : Int32)) = .int x3) (V_kk : Arv Z h0 a0 kk .byte z vs (.int (0 : Int32))) :
    MetFree l (⟨"com/example/apportis/apportis/Utf8FirstInvalidPinLaw", "charLen", "([BII)I"⟩ : MethodName) (head1 (Jvm.Cond.code (⟨"com/example/apportis/apportis/Utf8FirstInvalidPinLaw", "charLen", "([BII)I"⟩ : MethodName) method_4_code 8 (some .int) :: ws) ({ frames := 0, cells := 0, slots := 0, locals := 0 } : Room)) (fun a U => a = #[(.ref a0), (.int p1), (.int p2)] ∧ Z.Warmed39 U.vm ∧ U.heap = h0) (fun _ _ _ _ _ => True) (fun _ U o U' => ∃ v L, o = .returned v ∧ Q_rmCL Z x0 x1 x2 x3 a0 p1 p2 kk z vs h0 n0 v U'.heap L ∧ FrameEnd U o U' L 0 0) := by
  refine MetFree.of_bodySF (plainFor_of_name pn_2) hisR ?_
  intro p e s m args below meth c s₁ Bd hml0 hP hK
  obtain ⟨rfl, hZ, hh⟩ := hP
  have hx := Bd.exec
  have hby := Bd.bytes
  have hml : c.maxLocals = 8 := hml0
  have hown : s.vm.findClass "com/example/apportis/apportis/Utf8FirstInvalidPinLaw" = some m.cls := findClass_of_methodNamed Bd.named
  have hnm := (name_of_methodNamed Bd.named Bd.method).1
  have X0 : Stand p l e ({ frames := 0, cells := 0, slots := 0, locals := 0 } : Room) s m #[(.ref a0), (.int p1), (.int p2)] below meth c s₁ [] 0 0 := Stand.of_body Bd
  have e0 : s₁.heap = h0 := by rw [← hh, Bd.state]; rfl
  have N0 := Fr.nil n0
  refine Go.st (fun _ k => castTop (ef_rmCL m a0 p1 p2) k) ?_
  show Go p e below _ (s₁.setTop (mkF m 0 #[.val (.ref a0), .val (.int p1), .val (.int p2), .unset, .unset, .unset, .unset, .unset] []))
  refine Go.st (fun _ k => XS.aloadN X0.here hx rfl (hb hby d2_0) rfl rfl k) ?_
  refine Go.st (fun _ k => XS.iloadN X0.here hx rfl (hb hby d2_1) rfl k) ?_
  show Go p e below _ (s₁.setTop (mkF m 2 #[.val (.ref a0), .val (.int p1), .val (.int p2), .unset, .unset, .unset, .unset, .unset] [(.int p2), (.ref a0)]))
  obtain ⟨cl1, Ar1, ck1, Sz1, Nn1, Hs1, Gs1⟩ := id V_kk
  have hin1 : ¬ (p2 < 0 ∨ cl1.slots.size ≤ (p2).toNatClampNeg) := inb_of Sz1 (own_in0 hs0 hs1)
  have hat1 : cl1.slots[(p2).toNatClampNeg]? = some (.int x0) := Hs1.at hin1 he0
  refine Go.st (fun _ k => X0.baloadBytes hx (j := p2) (v := (.int x0)) (by rw [e0]; exact Ar1.1) (State.isArrayOf_alike hZ.alike Ar1.2.1) Ar1.2.2 hin1 hat1 (g := (mkF m 2 #[.val (.ref a0), .val (.int p1), .val (.int p2), .unset, .unset, .unset, .unset, .unset] [(.int p2), (.ref a0)])) rfl rfl (hb hby d2_2) _ k) ?_
  show Go p e below _ (s₁.setTop (mkF m 3 #[.val (.ref a0), .val (.int p1), .val (.int p2), .unset, .unset, .unset, .unset, .unset] [(.int x0)]))
  refine Go.st (fun _ k => XS.sipush X0.here hx rfl (hb hby d2_3) k) ?_
  refine Go.st (fun _ k => XS.iand X0.here hx rfl (hb hby d2_6) rfl k) ?_
  show Go p e below _ (s₁.setTop (mkF m 7 #[.val (.ref a0), .val (.int p1), .val (.int p2), .unset, .unset, .unset, .unset, .unset] [(.int (x0 &&& (255 : Int32)))]))
  refine Go.st (fun _ k => XS.istoreN X0.here hx rfl (hb hby d2_7) rfl (l' := #[.val (.ref a0), .val (.int p1), .val (.int p2), .val (.int (x0 &&& (255 : Int32))), .unset, .unset, .unset, .unset]) rfl k) ?_
  show Go p e below _ (s₁.setTop (mkF m 8 #[.val (.ref a0), .val (.int p1), .val (.int p2), .val (.int (x0 &&& (255 : Int32))), .unset, .unset, .unset, .unset] []))
  refine Go.st (fun _ k => XS.iloadN X0.here hx rfl (hb hby d2_8) rfl k) ?_
  refine Go.st (fun _ k => XS.sipush X0.here hx rfl (hb hby d2_9) k) ?_
  show Go p e below _ (s₁.setTop (mkF m 12 #[.val (.ref a0), .val (.int p1), .val (.int p2), .val (.int (x0 &&& (255 : Int32))), .unset, .unset, .unset, .unset] [(.int (128 : Int32)), (.int (x0 &&& (255 : Int32)))]))
  by_cases hc2 : (x0 &&& (255 : Int32)) < (128 : Int32)
  · show Go p e below _ (s₁.setTop (mkF m 12 #[.val (.ref a0), .val (.int p1), .val (.int p2), .val (.int (x0 &&& (255 : Int32))), .unset, .unset, .unset, .unset] [(.int (128 : Int32)), (.int (x0 &&& (255 : Int32)))]))
    refine Go.st (fun _ k => XS.icmpNo X0.here hx rfl (hb hby d2_12) rfl (tlt hc2).2.1 k) ?_
    show Go p e below _ (s₁.setTop (mkF m 15 #[.val (.ref a0), .val (.int p1), .val (.int p2), .val (.int (x0 &&& (255 : Int32))), .unset, .unset, .unset, .unset] []))
    refine Go.st (fun _ k => XS.iconst X0.here hx rfl (hb hby d2_15) k) ?_
    obtain ⟨fs, hr, hrun, hended, hW, hsame⟩ := X0.leave (v := some (.int (1 : Int32))) (fun h => by rw [Bd.returns] at h; cases h)
    refine ⟨_, _, retI X0 hx Bd.returns (hb hby d2_16) hr, hrun, hended, _, _, rfl, ?_, ⟨_, rfl⟩, hW, hsame.mono (by decide) (by decide)⟩
    show Q_rmCL Z x0 x1 x2 x3 a0 p1 p2 kk z vs h0 n0 _ s₁.heap _
    rw [e0]
    refine ⟨?_, N0, rfl⟩
    unfold fCL
    rw [if_pos hc2]
  · show Go p e below _ (s₁.setTop (mkF m 12 #[.val (.ref a0), .val (.int p1), .val (.int p2), .val (.int (x0 &&& (255 : Int32))), .unset, .unset, .unset, .unset] [(.int (128 : Int32)), (.int (x0 &&& (255 : Int32)))]))
    refine Go.st (fun _ k => XS.icmpYes X0.here hx rfl (pc0 := 12) (pc' := 17) rfl (hb hby d2_12) rfl (flt hc2).2.1 (by decide) (by decide) k) ?_
    show Go p e below _ (s₁.setTop (mkF m 17 #[.val (.ref a0), .val (.int p1), .val (.int p2), .val (.int (x0 &&& (255 : Int32))), .unset, .unset, .unset, .unset] []))
    refine Go.st (fun _ k => XS.iloadN X0.here hx rfl (hb hby d2_17) rfl k) ?_
    refine Go.st (fun _ k => XS.sipush X0.here hx rfl (hb hby d2_18) k) ?_
    show Go p e below _ (s₁.setTop (mkF m 21 #[.val (.ref a0), .val (.int p1), .val (.int p2), .val (.int (x0 &&& (255 : Int32))), .unset, .unset, .unset, .unset] [(.int (224 : Int32)), (.int (x0 &&& (255 : Int32)))]))
    refine Go.st (fun _ k => XS.iand X0.here hx rfl (hb hby d2_21) rfl k) ?_
    refine Go.st (fun _ k => XS.sipush X0.here hx rfl (hb hby d2_22) k) ?_
    show Go p e below _ (s₁.setTop (mkF m 25 #[.val (.ref a0), .val (.int p1), .val (.int p2), .val (.int (x0 &&& (255 : Int32))), .unset, .unset, .unset, .unset] [(.int (192 : Int32)), (.int ((x0 &&& (255 : Int32)) &&& (224 : Int32)))]))
    by_cases hc3 : ((x0 &&& (255 : Int32)) &&& (224 : Int32)) = (192 : Int32)
    · show Go p e below _ (s₁.setTop (mkF m 25 #[.val (.ref a0), .val (.int p1), .val (.int p2), .val (.int (x0 &&& (255 : Int32))), .unset, .unset, .unset, .unset] [(.int (192 : Int32)), (.int ((x0 &&& (255 : Int32)) &&& (224 : Int32)))]))
      refine Go.st (fun _ k => XS.icmpNo X0.here hx rfl (hb hby d2_25) rfl (teq hc3).2 k) ?_
      show Go p e below _ (s₁.setTop (mkF m 28 #[.val (.ref a0), .val (.int p1), .val (.int p2), .val (.int (x0 &&& (255 : Int32))), .unset, .unset, .unset, .unset] []))
      refine Go.st (fun _ k => XS.iconst X0.here hx rfl (hb hby d2_28) k) ?_
      refine Go.st (fun _ k => XS.istore X0.here hx rfl (hb hby d2_29) rfl (l' := #[.val (.ref a0), .val (.int p1), .val (.int p2), .val (.int (x0 &&& (255 : Int32))), .val (.int (2 : Int32)), .unset, .unset, .unset]) rfl k) ?_
      show Go p e below _ (s₁.setTop (mkF m 31 #[.val (.ref a0), .val (.int p1), .val (.int p2), .val (.int (x0 &&& (255 : Int32))), .val (.int (2 : Int32)), .unset, .unset, .unset] []))
      refine Go.st (fun _ k => XS.iloadN X0.here hx rfl (hb hby d2_31) rfl k) ?_
      refine Go.st (fun _ k => XS.bipush X0.here hx rfl (hb hby d2_32) k) ?_
      show Go p e below _ (s₁.setTop (mkF m 34 #[.val (.ref a0), .val (.int p1), .val (.int p2), .val (.int (x0 &&& (255 : Int32))), .val (.int (2 : Int32)), .unset, .unset, .unset] [(.int (31 : Int32)), (.int (x0 &&& (255 : Int32)))]))
      refine Go.st (fun _ k => XS.iand X0.here hx rfl (hb hby d2_34) rfl k) ?_
      refine Go.st (fun _ k => XS.istore X0.here hx rfl (hb hby d2_35) rfl (l' := #[.val (.ref a0), .val (.int p1), .val (.int p2), .val (.int (x0 &&& (255 : Int32))), .val (.int (2 : Int32)), .val (.int ((x0 &&& (255 : Int32)) &&& (31 : Int32))), .unset, .unset]) rfl k) ?_
      show Go p e below _ (s₁.setTop (mkF m 37 #[.val (.ref a0), .val (.int p1), .val (.int p2), .val (.int (x0 &&& (255 : Int32))), .val (.int (2 : Int32)), .val (.int ((x0 &&& (255 : Int32)) &&& (31 : Int32))), .unset, .unset] []))
      refine Go.st (fun _ k => XS.sipush X0.here hx rfl (hb hby d2_37) k) ?_
      refine Go.st (fun _ k => XS.istore X0.here hx rfl (hb hby d2_40) rfl (l' := #[.val (.ref a0), .val (.int p1), .val (.int p2), .val (.int (x0 &&& (255 : Int32))), .val (.int (2 : Int32)), .val (.int ((x0 &&& (255 : Int32)) &&& (31 : Int32))), .val (.int (128 : Int32)), .unset]) rfl k) ?_
      show Go p e below _ (s₁.setTop (mkF m 42 #[.val (.ref a0), .val (.int p1), .val (.int p2), .val (.int (x0 &&& (255 : Int32))), .val (.int (2 : Int32)), .val (.int ((x0 &&& (255 : Int32)) &&& (31 : Int32))), .val (.int (128 : Int32)), .unset] []))
      refine Go.st (fun _ k => XS.goto X0.here hx rfl (pc0 := 42) (pc' := 102) rfl (hb hby d2_42) (by decide) (by decide) k) ?_
      show Go p e below _ (s₁.setTop (mkF m 102 #[.val (.ref a0), .val (.int p1), .val (.int p2), .val (.int (x0 &&& (255 : Int32))), .val (.int (2 : Int32)), .val (.int ((x0 &&& (255 : Int32)) &&& (31 : Int32))), .val (.int (128 : Int32)), .unset] []))
      refine Go.st (fun _ k => XS.iloadN X0.here hx rfl (hb hby d2_102) rfl k) ?_
      refine Go.st (fun _ k => XS.iload X0.here hx rfl (hb hby d2_103) rfl k) ?_
      show Go p e below _ (s₁.setTop (mkF m 105 #[.val (.ref a0), .val (.int p1), .val (.int p2), .val (.int (x0 &&& (255 : Int32))), .val (.int (2 : Int32)), .val (.int ((x0 &&& (255 : Int32)) &&& (31 : Int32))), .val (.int (128 : Int32)), .unset] [(.int (2 : Int32)), (.int p2)]))
      refine Go.st (fun _ k => XS.iadd X0.here hx rfl (hb hby d2_105) rfl k) ?_
      refine Go.st (fun _ k => XS.iloadN X0.here hx rfl (hb hby d2_106) rfl k) ?_
      show Go p e below _ (s₁.setTop (mkF m 107 #[.val (.ref a0), .val (.int p1), .val (.int p2), .val (.int (x0 &&& (255 : Int32))), .val (.int (2 : Int32)), .val (.int ((x0 &&& (255 : Int32)) &&& (31 : Int32))), .val (.int (128 : Int32)), .unset] [(.int p1), (.int (p2 + (2 : Int32)))]))
      by_cases hc4 : p1 < (p2 + (2 : Int32))
      · show Go p e below _ (s₁.setTop (mkF m 107 #[.val (.ref a0), .val (.int p1), .val (.int p2), .val (.int (x0 &&& (255 : Int32))), .val (.int (2 : Int32)), .val (.int ((x0 &&& (255 : Int32)) &&& (31 : Int32))), .val (.int (128 : Int32)), .unset] [(.int p1), (.int (p2 + (2 : Int32)))]))
        refine Go.st (fun _ k => XS.icmpNo X0.here hx rfl (hb hby d2_107) rfl (tlt hc4).2.2.2 k) ?_
        show Go p e below _ (s₁.setTop (mkF m 110 #[.val (.ref a0), .val (.int p1), .val (.int p2), .val (.int (x0 &&& (255 : Int32))), .val (.int (2 : Int32)), .val (.int ((x0 &&& (255 : Int32)) &&& (31 : Int32))), .val (.int (128 : Int32)), .unset] []))
        refine Go.st (fun _ k => XS.iconst X0.here hx rfl (hb hby d2_110) k) ?_
        obtain ⟨fs, hr, hrun, hended, hW, hsame⟩ := X0.leave (v := some (.int (0 : Int32))) (fun h => by rw [Bd.returns] at h; cases h)
        refine ⟨_, _, retI X0 hx Bd.returns (hb hby d2_111) hr, hrun, hended, _, _, rfl, ?_, ⟨_, rfl⟩, hW, hsame.mono (by decide) (by decide)⟩
        show Q_rmCL Z x0 x1 x2 x3 a0 p1 p2 kk z vs h0 n0 _ s₁.heap _
        rw [e0]
        refine ⟨?_, N0, rfl⟩
        unfold fCL
        rw [if_neg hc2, if_pos hc3, if_pos hc4]
      · show Go p e below _ (s₁.setTop (mkF m 107 #[.val (.ref a0), .val (.int p1), .val (.int p2), .val (.int (x0 &&& (255 : Int32))), .val (.int (2 : Int32)), .val (.int ((x0 &&& (255 : Int32)) &&& (31 : Int32))), .val (.int (128 : Int32)), .unset] [(.int p1), (.int (p2 + (2 : Int32)))]))
        refine Go.st (fun _ k => XS.icmpYes X0.here hx rfl (pc0 := 107) (pc' := 112) rfl (hb hby d2_107) rfl (flt hc4).2.2.2 (by decide) (by decide) k) ?_
        show Go p e below _ (s₁.setTop (mkF m 112 #[.val (.ref a0), .val (.int p1), .val (.int p2), .val (.int (x0 &&& (255 : Int32))), .val (.int (2 : Int32)), .val (.int ((x0 &&& (255 : Int32)) &&& (31 : Int32))), .val (.int (128 : Int32)), .unset] []))
        refine Go.st (fun _ k => XS.aloadN X0.here hx rfl (hb hby d2_112) rfl rfl k) ?_
        refine Go.st (fun _ k => XS.iloadN X0.here hx rfl (hb hby d2_113) rfl k) ?_
        show Go p e below _ (s₁.setTop (mkF m 114 #[.val (.ref a0), .val (.int p1), .val (.int p2), .val (.int (x0 &&& (255 : Int32))), .val (.int (2 : Int32)), .val (.int ((x0 &&& (255 : Int32)) &&& (31 : Int32))), .val (.int (128 : Int32)), .unset] [(.int p2), (.ref a0)]))
        refine Go.st (fun _ k => XS.iconst X0.here hx rfl (hb hby d2_114) k) ?_
        refine Go.st (fun _ k => XS.iadd X0.here hx rfl (hb hby d2_115) rfl k) ?_
        show Go p e below _ (s₁.setTop (mkF m 116 #[.val (.ref a0), .val (.int p1), .val (.int p2), .val (.int (x0 &&& (255 : Int32))), .val (.int (2 : Int32)), .val (.int ((x0 &&& (255 : Int32)) &&& (31 : Int32))), .val (.int (128 : Int32)), .unset] [(.int (p2 + (1 : Int32))), (.ref a0)]))
        have hk5 : p2.toInt + 1 < z.toInt := own_room2 hs0 hs1 hs2 hn hc4 (by decide) (by decide)
        obtain ⟨cl6, Ar6, ck6, Sz6, Nn6, Hs6, Gs6⟩ := id V_kk
        have hin6 : ¬ ((p2 + (1 : Int32)) < 0 ∨ cl6.slots.size ≤ ((p2 + (1 : Int32))).toNatClampNeg) := inb_of Sz6 (own_ink hs0 hs2 (k := (1 : Int32)) (by decide) (by decide) hk5)
        have hat6 : cl6.slots[((p2 + (1 : Int32))).toNatClampNeg]? = some (.int x1) := Hs6.at hin6 (he1 hk5)
        refine Go.st (fun _ k => X0.baloadBytes hx (j := (p2 + (1 : Int32))) (v := (.int x1)) (by rw [e0]; exact Ar6.1) (State.isArrayOf_alike hZ.alike Ar6.2.1) Ar6.2.2 hin6 hat6 (g := (mkF m 116 #[.val (.ref a0), .val (.int p1), .val (.int p2), .val (.int (x0 &&& (255 : Int32))), .val (.int (2 : Int32)), .val (.int ((x0 &&& (255 : Int32)) &&& (31 : Int32))), .val (.int (128 : Int32)), .unset] [(.int (p2 + (1 : Int32))), (.ref a0)])) rfl rfl (hb hby d2_116) _ k) ?_
        show Go p e below _ (s₁.setTop (mkF m 117 #[.val (.ref a0), .val (.int p1), .val (.int p2), .val (.int (x0 &&& (255 : Int32))), .val (.int (2 : Int32)), .val (.int ((x0 &&& (255 : Int32)) &&& (31 : Int32))), .val (.int (128 : Int32)), .unset] [(.int x1)]))
        refine Go.st (fun _ k => XS.sipush X0.here hx rfl (hb hby d2_117) k) ?_
        refine Go.st (fun _ k => XS.iand X0.here hx rfl (hb hby d2_120) rfl k) ?_
        show Go p e below _ (s₁.setTop (mkF m 121 #[.val (.ref a0), .val (.int p1), .val (.int p2), .val (.int (x0 &&& (255 : Int32))), .val (.int (2 : Int32)), .val (.int ((x0 &&& (255 : Int32)) &&& (31 : Int32))), .val (.int (128 : Int32)), .unset] [(.int (x1 &&& (255 : Int32)))]))
        refine Go.st (fun _ k => XS.istore X0.here hx rfl (hb hby d2_121) rfl (l' := #[.val (.ref a0), .val (.int p1), .val (.int p2), .val (.int (x0 &&& (255 : Int32))), .val (.int (2 : Int32)), .val (.int ((x0 &&& (255 : Int32)) &&& (31 : Int32))), .val (.int (128 : Int32)), .val (.int (x1 &&& (255 : Int32)))]) rfl k) ?_
        show Go p e below _ (s₁.setTop (mkF m 123 #[.val (.ref a0), .val (.int p1), .val (.int p2), .val (.int (x0 &&& (255 : Int32))), .val (.int (2 : Int32)), .val (.int ((x0 &&& (255 : Int32)) &&& (31 : Int32))), .val (.int (128 : Int32)), .val (.int (x1 &&& (255 : Int32)))] []))
        refine Go.st (fun _ k => XS.iload X0.here hx rfl (hb hby d2_123) rfl k) ?_
        refine Go.st (fun _ k => XS.sipush X0.here hx rfl (hb hby d2_125) k) ?_
        show Go p e below _ (s₁.setTop (mkF m 128 #[.val (.ref a0), .val (.int p1), .val (.int p2), .val (.int (x0 &&& (255 : Int32))), .val (.int (2 : Int32)), .val (.int ((x0 &&& (255 : Int32)) &&& (31 : Int32))), .val (.int (128 : Int32)), .val (.int (x1 &&& (255 : Int32)))] [(.int (192 : Int32)), (.int (x1 &&& (255 : Int32)))]))
        refine Go.st (fun _ k => XS.iand X0.here hx rfl (hb hby d2_128) rfl k) ?_
        refine Go.st (fun _ k => XS.sipush X0.here hx rfl (hb hby d2_129) k) ?_
        show Go p e below _ (s₁.setTop (mkF m 132 #[.val (.ref a0), .val (.int p1), .val (.int p2), .val (.int (x0 &&& (255 : Int32))), .val (.int (2 : Int32)), .val (.int ((x0 &&& (255 : Int32)) &&& (31 : Int32))), .val (.int (128 : Int32)), .val (.int (x1 &&& (255 : Int32)))] [(.int (128 : Int32)), (.int ((x1 &&& (255 : Int32)) &&& (192 : Int32)))]))
        by_cases hc7 : ((x1 &&& (255 : Int32)) &&& (192 : Int32)) = (128 : Int32)
        · show Go p e below _ (s₁.setTop (mkF m 132 #[.val (.ref a0), .val (.int p1), .val (.int p2), .val (.int (x0 &&& (255 : Int32))), .val (.int (2 : Int32)), .val (.int ((x0 &&& (255 : Int32)) &&& (31 : Int32))), .val (.int (128 : Int32)), .val (.int (x1 &&& (255 : Int32)))] [(.int (128 : Int32)), (.int ((x1 &&& (255 : Int32)) &&& (192 : Int32)))]))
          refine Go.st (fun _ k => XS.icmpYes X0.here hx rfl (pc0 := 132) (pc' := 137) rfl (hb hby d2_132) rfl (teq hc7).1 (by decide) (by decide) k) ?_
          show Go p e below _ (s₁.setTop (mkF m 137 #[.val (.ref a0), .val (.int p1), .val (.int p2), .val (.int (x0 &&& (255 : Int32))), .val (.int (2 : Int32)), .val (.int ((x0 &&& (255 : Int32)) &&& (31 : Int32))), .val (.int (128 : Int32)), .val (.int (x1 &&& (255 : Int32)))] []))
          refine Go.st (fun _ k => XS.iload X0.here hx rfl (hb hby d2_137) rfl k) ?_
          refine Go.st (fun _ k => XS.bipush X0.here hx rfl (hb hby d2_139) k) ?_
          show Go p e below _ (s₁.setTop (mkF m 141 #[.val (.ref a0), .val (.int p1), .val (.int p2), .val (.int (x0 &&& (255 : Int32))), .val (.int (2 : Int32)), .val (.int ((x0 &&& (255 : Int32)) &&& (31 : Int32))), .val (.int (128 : Int32)), .val (.int (x1 &&& (255 : Int32)))] [(.int (6 : Int32)), (.int ((x0 &&& (255 : Int32)) &&& (31 : Int32)))]))
          refine Go.st (fun _ k => XS.ishl X0.here hx rfl (hb hby d2_141) rfl k) ?_
          show Go p e below _ (s₁.setTop (mkF m 142 #[.val (.ref a0), .val (.int p1), .val (.int p2), .val (.int (x0 &&& (255 : Int32))), .val (.int (2 : Int32)), .val (.int ((x0 &&& (255 : Int32)) &&& (31 : Int32))), .val (.int (128 : Int32)), .val (.int (x1 &&& (255 : Int32)))] [(.int (((x0 &&& (255 : Int32)) &&& (31 : Int32)) <<< ((6 : Int32) &&& 31)))]))
          refine Go.st (fun _ k => XS.iload X0.here hx rfl (hb hby d2_142) rfl k) ?_
          refine Go.st (fun _ k => XS.bipush X0.here hx rfl (hb hby d2_144) k) ?_
          show Go p e below _ (s₁.setTop (mkF m 146 #[.val (.ref a0), .val (.int p1), .val (.int p2), .val (.int (x0 &&& (255 : Int32))), .val (.int (2 : Int32)), .val (.int ((x0 &&& (255 : Int32)) &&& (31 : Int32))), .val (.int (128 : Int32)), .val (.int (x1 &&& (255 : Int32)))] [(.int (63 : Int32)), (.int (x1 &&& (255 : Int32))), (.int (((x0 &&& (255 : Int32)) &&& (31 : Int32)) <<< ((6 : Int32) &&& 31)))]))
          refine Go.st (fun _ k => XS.iand X0.here hx rfl (hb hby d2_146) rfl k) ?_
          refine Go.st (fun _ k => XS.ior X0.here hx rfl (hb hby d2_147) rfl k) ?_
          show Go p e below _ (s₁.setTop (mkF m 148 #[.val (.ref a0), .val (.int p1), .val (.int p2), .val (.int (x0 &&& (255 : Int32))), .val (.int (2 : Int32)), .val (.int ((x0 &&& (255 : Int32)) &&& (31 : Int32))), .val (.int (128 : Int32)), .val (.int (x1 &&& (255 : Int32)))] [(.int ((((x0 &&& (255 : Int32)) &&& (31 : Int32)) <<< ((6 : Int32) &&& 31)) ||| ((x1 &&& (255 : Int32)) &&& (63 : Int32))))]))
          refine Go.st (fun _ k => XS.istore X0.here hx rfl (hb hby d2_148) rfl (l' := #[.val (.ref a0), .val (.int p1), .val (.int p2), .val (.int (x0 &&& (255 : Int32))), .val (.int (2 : Int32)), .val (.int ((((x0 &&& (255 : Int32)) &&& (31 : Int32)) <<< ((6 : Int32) &&& 31)) ||| ((x1 &&& (255 : Int32)) &&& (63 : Int32)))), .val (.int (128 : Int32)), .val (.int (x1 &&& (255 : Int32)))]) rfl k) ?_
          show Go p e below _ (s₁.setTop (mkF m 150 #[.val (.ref a0), .val (.int p1), .val (.int p2), .val (.int (x0 &&& (255 : Int32))), .val (.int (2 : Int32)), .val (.int ((((x0 &&& (255 : Int32)) &&& (31 : Int32)) <<< ((6 : Int32) &&& 31)) ||| ((x1 &&& (255 : Int32)) &&& (63 : Int32)))), .val (.int (128 : Int32)), .val (.int (x1 &&& (255 : Int32)))] []))
          refine Go.st (fun _ k => XS.iload X0.here hx rfl (hb hby d2_150) rfl k) ?_
          refine Go.st (fun _ k => XS.iconst X0.here hx rfl (hb hby d2_152) k) ?_
          show Go p e below _ (s₁.setTop (mkF m 153 #[.val (.ref a0), .val (.int p1), .val (.int p2), .val (.int (x0 &&& (255 : Int32))), .val (.int (2 : Int32)), .val (.int ((((x0 &&& (255 : Int32)) &&& (31 : Int32)) <<< ((6 : Int32) &&& 31)) ||| ((x1 &&& (255 : Int32)) &&& (63 : Int32)))), .val (.int (128 : Int32)), .val (.int (x1 &&& (255 : Int32)))] [(.int (3 : Int32)), (.int (2 : Int32))]))
          refine Go.st (fun _ k => XS.icmpYes X0.here hx rfl (pc0 := 153) (pc' := 194) rfl (hb hby d2_153) rfl (tlt (by decide : ((2 : Int32) < (3 : Int32)))).1 (by decide) (by decide) k) ?_
          show Go p e below _ (s₁.setTop (mkF m 194 #[.val (.ref a0), .val (.int p1), .val (.int p2), .val (.int (x0 &&& (255 : Int32))), .val (.int (2 : Int32)), .val (.int ((((x0 &&& (255 : Int32)) &&& (31 : Int32)) <<< ((6 : Int32) &&& 31)) ||| ((x1 &&& (255 : Int32)) &&& (63 : Int32)))), .val (.int (128 : Int32)), .val (.int (x1 &&& (255 : Int32)))] []))
          refine Go.st (fun _ k => XS.iload X0.here hx rfl (hb hby d2_194) rfl k) ?_
          refine Go.st (fun _ k => XS.iconst X0.here hx rfl (hb hby d2_196) k) ?_
          show Go p e below _ (s₁.setTop (mkF m 197 #[.val (.ref a0), .val (.int p1), .val (.int p2), .val (.int (x0 &&& (255 : Int32))), .val (.int (2 : Int32)), .val (.int ((((x0 &&& (255 : Int32)) &&& (31 : Int32)) <<< ((6 : Int32) &&& 31)) ||| ((x1 &&& (255 : Int32)) &&& (63 : Int32)))), .val (.int (128 : Int32)), .val (.int (x1 &&& (255 : Int32)))] [(.int (4 : Int32)), (.int (2 : Int32))]))
          refine Go.st (fun _ k => XS.icmpYes X0.here hx rfl (pc0 := 197) (pc' := 238) rfl (hb hby d2_197) rfl (feq (by decide : ¬ ((2 : Int32) = (4 : Int32)))).2 (by decide) (by decide) k) ?_
          show Go p e below _ (s₁.setTop (mkF m 238 #[.val (.ref a0), .val (.int p1), .val (.int p2), .val (.int (x0 &&& (255 : Int32))), .val (.int (2 : Int32)), .val (.int ((((x0 &&& (255 : Int32)) &&& (31 : Int32)) <<< ((6 : Int32) &&& 31)) ||| ((x1 &&& (255 : Int32)) &&& (63 : Int32)))), .val (.int (128 : Int32)), .val (.int (x1 &&& (255 : Int32)))] []))
          refine Go.st (fun _ k => XS.iload X0.here hx rfl (hb hby d2_238) rfl k) ?_
          refine Go.st (fun _ k => XS.iload X0.here hx rfl (hb hby d2_240) rfl k) ?_
          show Go p e below _ (s₁.setTop (mkF m 242 #[.val (.ref a0), .val (.int p1), .val (.int p2), .val (.int (x0 &&& (255 : Int32))), .val (.int (2 : Int32)), .val (.int ((((x0 &&& (255 : Int32)) &&& (31 : Int32)) <<< ((6 : Int32) &&& 31)) ||| ((x1 &&& (255 : Int32)) &&& (63 : Int32)))), .val (.int (128 : Int32)), .val (.int (x1 &&& (255 : Int32)))] [(.int (128 : Int32)), (.int ((((x0 &&& (255 : Int32)) &&& (31 : Int32)) <<< ((6 : Int32) &&& 31)) ||| ((x1 &&& (255 : Int32)) &&& (63 : Int32))))]))
          by_cases hc8 : ((((x0 &&& (255 : Int32)) &&& (31 : Int32)) <<< ((6 : Int32) &&& 31)) ||| ((x1 &&& (255 : Int32)) &&& (63 : Int32))) < (128 : Int32)
          · show Go p e below _ (s₁.setTop (mkF m 242 #[.val (.ref a0), .val (.int p1), .val (.int p2), .val (.int (x0 &&& (255 : Int32))), .val (.int (2 : Int32)), .val (.int ((((x0 &&& (255 : Int32)) &&& (31 : Int32)) <<< ((6 : Int32) &&& 31)) ||| ((x1 &&& (255 : Int32)) &&& (63 : Int32)))), .val (.int (128 : Int32)), .val (.int (x1 &&& (255 : Int32)))] [(.int (128 : Int32)), (.int ((((x0 &&& (255 : Int32)) &&& (31 : Int32)) <<< ((6 : Int32) &&& 31)) ||| ((x1 &&& (255 : Int32)) &&& (63 : Int32))))]))
            refine Go.st (fun _ k => XS.icmpNo X0.here hx rfl (hb hby d2_242) rfl (tlt hc8).2.1 k) ?_
            show Go p e below _ (s₁.setTop (mkF m 245 #[.val (.ref a0), .val (.int p1), .val (.int p2), .val (.int (x0 &&& (255 : Int32))), .val (.int (2 : Int32)), .val (.int ((((x0 &&& (255 : Int32)) &&& (31 : Int32)) <<< ((6 : Int32) &&& 31)) ||| ((x1 &&& (255 : Int32)) &&& (63 : Int32)))), .val (.int (128 : Int32)), .val (.int (x1 &&& (255 : Int32)))] []))
            refine Go.st (fun _ k => XS.iconst X0.here hx rfl (hb hby d2_245) k) ?_
            obtain ⟨fs, hr, hrun, hended, hW, hsame⟩ := X0.leave (v := some (.int (0 : Int32))) (fun h => by rw [Bd.returns] at h; cases h)
            refine ⟨_, _, retI X0 hx Bd.returns (hb hby d2_246) hr, hrun, hended, _, _, rfl, ?_, ⟨_, rfl⟩, hW, hsame.mono (by decide) (by decide)⟩
            show Q_rmCL Z x0 x1 x2 x3 a0 p1 p2 kk z vs h0 n0 _ s₁.heap _
            rw [e0]
            refine ⟨?_, N0, rfl⟩
            unfold fCL
            rw [if_neg hc2, if_pos hc3, if_neg hc4, if_pos hc7, if_pos hc8]
          · show Go p e below _ (s₁.setTop (mkF m 242 #[.val (.ref a0), .val (.int p1), .val (.int p2), .val (.int (x0 &&& (255 : Int32))), .val (.int (2 : Int32)), .val (.int ((((x0 &&& (255 : Int32)) &&& (31 : Int32)) <<< ((6 : Int32) &&& 31)) ||| ((x1 &&& (255 : Int32)) &&& (63 : Int32)))), .val (.int (128 : Int32)), .val (.int (x1 &&& (255 : Int32)))] [(.int (128 : Int32)), (.int ((((x0 &&& (255 : Int32)) &&& (31 : Int32)) <<< ((6 : Int32) &&& 31)) ||| ((x1 &&& (255 : Int32)) &&& (63 : Int32))))]))
            refine Go.st (fun _ k => XS.icmpYes X0.here hx rfl (pc0 := 242) (pc' := 247) rfl (hb hby d2_242) rfl (flt hc8).2.1 (by decide) (by decide) k) ?_
            show Go p e below _ (s₁.setTop (mkF m 247 #[.val (.ref a0), .val (.int p1), .val (.int p2), .val (.int (x0 &&& (255 : Int32))), .val (.int (2 : Int32)), .val (.int ((((x0 &&& (255 : Int32)) &&& (31 : Int32)) <<< ((6 : Int32) &&& 31)) ||| ((x1 &&& (255 : Int32)) &&& (63 : Int32)))), .val (.int (128 : Int32)), .val (.int (x1 &&& (255 : Int32)))] []))
            refine Go.st (fun _ k => XS.iload X0.here hx rfl (hb hby d2_247) rfl k) ?_
            show Go p e below _ (s₁.setTop (mkF m 249 #[.val (.ref a0), .val (.int p1), .val (.int p2), .val (.int (x0 &&& (255 : Int32))), .val (.int (2 : Int32)), .val (.int ((((x0 &&& (255 : Int32)) &&& (31 : Int32)) <<< ((6 : Int32) &&& 31)) ||| ((x1 &&& (255 : Int32)) &&& (63 : Int32)))), .val (.int (128 : Int32)), .val (.int (x1 &&& (255 : Int32)))] [(.int ((((x0 &&& (255 : Int32)) &&& (31 : Int32)) <<< ((6 : Int32) &&& 31)) ||| ((x1 &&& (255 : Int32)) &&& (63 : Int32))))]))
            refine Go.st (fun _ k => X0.ldcInt hx hown (mvT hZ (hw _ (List.mem_of_getElem? (i := 17) rfl))) (g := (mkF m 249 #[.val (.ref a0), .val (.int p1), .val (.int p2), .val (.int (x0 &&& (255 : Int32))), .val (.int (2 : Int32)), .val (.int ((((x0 &&& (255 : Int32)) &&& (31 : Int32)) <<< ((6 : Int32) &&& 31)) ||| ((x1 &&& (255 : Int32)) &&& (63 : Int32)))), .val (.int (128 : Int32)), .val (.int (x1 &&& (255 : Int32)))] [(.int ((((x0 &&& (255 : Int32)) &&& (31 : Int32)) <<< ((6 : Int32) &&& 31)) ||| ((x1 &&& (255 : Int32)) &&& (63 : Int32))))])) rfl (hb hby d2_249) _ k) ?_
            show Go p e below _ (s₁.setTop (mkF m 251 #[.val (.ref a0), .val (.int p1), .val (.int p2), .val (.int (x0 &&& (255 : Int32))), .val (.int (2 : Int32)), .val (.int ((((x0 &&& (255 : Int32)) &&& (31 : Int32)) <<< ((6 : Int32) &&& 31)) ||| ((x1 &&& (255 : Int32)) &&& (63 : Int32)))), .val (.int (128 : Int32)), .val (.int (x1 &&& (255 : Int32)))] [(.int (55296 : Int32)), (.int ((((x0 &&& (255 : Int32)) &&& (31 : Int32)) <<< ((6 : Int32) &&& 31)) ||| ((x1 &&& (255 : Int32)) &&& (63 : Int32))))]))
            by_cases hc9 : ((((x0 &&& (255 : Int32)) &&& (31 : Int32)) <<< ((6 : Int32) &&& 31)) ||| ((x1 &&& (255 : Int32)) &&& (63 : Int32))) < (55296 : Int32)
            · show Go p e below _ (s₁.setTop (mkF m 251 #[.val (.ref a0), .val (.int p1), .val (.int p2), .val (.int (x0 &&& (255 : Int32))), .val (.int (2 : Int32)), .val (.int ((((x0 &&& (255 : Int32)) &&& (31 : Int32)) <<< ((6 : Int32) &&& 31)) ||| ((x1 &&& (255 : Int32)) &&& (63 : Int32)))), .val (.int (128 : Int32)), .val (.int (x1 &&& (255 : Int32)))] [(.int (55296 : Int32)), (.int ((((x0 &&& (255 : Int32)) &&& (31 : Int32)) <<< ((6 : Int32) &&& 31)) ||| ((x1 &&& (255 : Int32)) &&& (63 : Int32))))]))
              refine Go.st (fun _ k => XS.icmpYes X0.here hx rfl (pc0 := 251) (pc' := 263) rfl (hb hby d2_251) rfl (tlt hc9).1 (by decide) (by decide) k) ?_
              show Go p e below _ (s₁.setTop (mkF m 263 #[.val (.ref a0), .val (.int p1), .val (.int p2), .val (.int (x0 &&& (255 : Int32))), .val (.int (2 : Int32)), .val (.int ((((x0 &&& (255 : Int32)) &&& (31 : Int32)) <<< ((6 : Int32) &&& 31)) ||| ((x1 &&& (255 : Int32)) &&& (63 : Int32)))), .val (.int (128 : Int32)), .val (.int (x1 &&& (255 : Int32)))] []))
              refine Go.st (fun _ k => XS.iload X0.here hx rfl (hb hby d2_263) rfl k) ?_
              show Go p e below _ (s₁.setTop (mkF m 265 #[.val (.ref a0), .val (.int p1), .val (.int p2), .val (.int (x0 &&& (255 : Int32))), .val (.int (2 : Int32)), .val (.int ((((x0 &&& (255 : Int32)) &&& (31 : Int32)) <<< ((6 : Int32) &&& 31)) ||| ((x1 &&& (255 : Int32)) &&& (63 : Int32)))), .val (.int (128 : Int32)), .val (.int (x1 &&& (255 : Int32)))] [(.int ((((x0 &&& (255 : Int32)) &&& (31 : Int32)) <<< ((6 : Int32) &&& 31)) ||| ((x1 &&& (255 : Int32)) &&& (63 : Int32))))]))
              refine Go.st (fun _ k => X0.ldcInt hx hown (mvT hZ (hw _ (List.mem_of_getElem? (i := 18) rfl))) (g := (mkF m 265 #[.val (.ref a0), .val (.int p1), .val (.int p2), .val (.int (x0 &&& (255 : Int32))), .val (.int (2 : Int32)), .val (.int ((((x0 &&& (255 : Int32)) &&& (31 : Int32)) <<< ((6 : Int32) &&& 31)) ||| ((x1 &&& (255 : Int32)) &&& (63 : Int32)))), .val (.int (128 : Int32)), .val (.int (x1 &&& (255 : Int32)))] [(.int ((((x0 &&& (255 : Int32)) &&& (31 : Int32)) <<< ((6 : Int32) &&& 31)) ||| ((x1 &&& (255 : Int32)) &&& (63 : Int32))))])) rfl (hb hby d2_265) _ k) ?_
              show Go p e below _ (s₁.setTop (mkF m 267 #[.val (.ref a0), .val (.int p1), .val (.int p2), .val (.int (x0 &&& (255 : Int32))), .val (.int (2 : Int32)), .val (.int ((((x0 &&& (255 : Int32)) &&& (31 : Int32)) <<< ((6 : Int32) &&& 31)) ||| ((x1 &&& (255 : Int32)) &&& (63 : Int32)))), .val (.int (128 : Int32)), .val (.int (x1 &&& (255 : Int32)))] [(.int (1114111 : Int32)), (.int ((((x0 &&& (255 : Int32)) &&& (31 : Int32)) <<< ((6 : Int32) &&& 31)) ||| ((x1 &&& (255 : Int32)) &&& (63 : Int32))))]))
              by_cases hc10 : (1114111 : Int32) < ((((x0 &&& (255 : Int32)) &&& (31 : Int32)) <<< ((6 : Int32) &&& 31)) ||| ((x1 &&& (255 : Int32)) &&& (63 : Int32)))
              · show Go p e below _ (s₁.setTop (mkF m 267 #[.val (.ref a0), .val (.int p1), .val (.int p2), .val (.int (x0 &&& (255 : Int32))), .val (.int (2 : Int32)), .val (.int ((((x0 &&& (255 : Int32)) &&& (31 : Int32)) <<< ((6 : Int32) &&& 31)) ||| ((x1 &&& (255 : Int32)) &&& (63 : Int32)))), .val (.int (128 : Int32)), .val (.int (x1 &&& (255 : Int32)))] [(.int (1114111 : Int32)), (.int ((((x0 &&& (255 : Int32)) &&& (31 : Int32)) <<< ((6 : Int32) &&& 31)) ||| ((x1 &&& (255 : Int32)) &&& (63 : Int32))))]))
                refine Go.st (fun _ k => XS.icmpNo X0.here hx rfl (hb hby d2_267) rfl (tlt hc10).2.2.2 k) ?_
                show Go p e below _ (s₁.setTop (mkF m 270 #[.val (.ref a0), .val (.int p1), .val (.int p2), .val (.int (x0 &&& (255 : Int32))), .val (.int (2 : Int32)), .val (.int ((((x0 &&& (255 : Int32)) &&& (31 : Int32)) <<< ((6 : Int32) &&& 31)) ||| ((x1 &&& (255 : Int32)) &&& (63 : Int32)))), .val (.int (128 : Int32)), .val (.int (x1 &&& (255 : Int32)))] []))
                refine Go.st (fun _ k => XS.iconst X0.here hx rfl (hb hby d2_270) k) ?_
                obtain ⟨fs, hr, hrun, hended, hW, hsame⟩ := X0.leave (v := some (.int (0 : Int32))) (fun h => by rw [Bd.returns] at h; cases h)
                refine ⟨_, _, retI X0 hx Bd.returns (hb hby d2_271) hr, hrun, hended, _, _, rfl, ?_, ⟨_, rfl⟩, hW, hsame.mono (by decide) (by decide)⟩
                show Q_rmCL Z x0 x1 x2 x3 a0 p1 p2 kk z vs h0 n0 _ s₁.heap _
                rw [e0]
                refine ⟨?_, N0, rfl⟩
                unfold fCL
                rw [if_neg hc2, if_pos hc3, if_neg hc4, if_pos hc7, if_neg hc8, if_pos hc9, if_pos hc10]
              · show Go p e below _ (s₁.setTop (mkF m 267 #[.val (.ref a0), .val (.int p1), .val (.int p2), .val (.int (x0 &&& (255 : Int32))), .val (.int (2 : Int32)), .val (.int ((((x0 &&& (255 : Int32)) &&& (31 : Int32)) <<< ((6 : Int32) &&& 31)) ||| ((x1 &&& (255 : Int32)) &&& (63 : Int32)))), .val (.int (128 : Int32)), .val (.int (x1 &&& (255 : Int32)))] [(.int (1114111 : Int32)), (.int ((((x0 &&& (255 : Int32)) &&& (31 : Int32)) <<< ((6 : Int32) &&& 31)) ||| ((x1 &&& (255 : Int32)) &&& (63 : Int32))))]))
                refine Go.st (fun _ k => XS.icmpYes X0.here hx rfl (pc0 := 267) (pc' := 272) rfl (hb hby d2_267) rfl (flt hc10).2.2.2 (by decide) (by decide) k) ?_
                show Go p e below _ (s₁.setTop (mkF m 272 #[.val (.ref a0), .val (.int p1), .val (.int p2), .val (.int (x0 &&& (255 : Int32))), .val (.int (2 : Int32)), .val (.int ((((x0 &&& (255 : Int32)) &&& (31 : Int32)) <<< ((6 : Int32) &&& 31)) ||| ((x1 &&& (255 : Int32)) &&& (63 : Int32)))), .val (.int (128 : Int32)), .val (.int (x1 &&& (255 : Int32)))] []))
                refine Go.st (fun _ k => XS.iload X0.here hx rfl (hb hby d2_272) rfl k) ?_
                obtain ⟨fs, hr, hrun, hended, hW, hsame⟩ := X0.leave (v := some (.int (2 : Int32))) (fun h => by rw [Bd.returns] at h; cases h)
                refine ⟨_, _, retI X0 hx Bd.returns (hb hby d2_274) hr, hrun, hended, _, _, rfl, ?_, ⟨_, rfl⟩, hW, hsame.mono (by decide) (by decide)⟩
                show Q_rmCL Z x0 x1 x2 x3 a0 p1 p2 kk z vs h0 n0 _ s₁.heap _
                rw [e0]
                refine ⟨?_, N0, rfl⟩
                unfold fCL
                rw [if_neg hc2, if_pos hc3, if_neg hc4, if_pos hc7, if_neg hc8, if_pos hc9, if_neg hc10]
            · show Go p e below _ (s₁.setTop (mkF m 251 #[.val (.ref a0), .val (.int p1), .val (.int p2), .val (.int (x0 &&& (255 : Int32))), .val (.int (2 : Int32)), .val (.int ((((x0 &&& (255 : Int32)) &&& (31 : Int32)) <<< ((6 : Int32) &&& 31)) ||| ((x1 &&& (255 : Int32)) &&& (63 : Int32)))), .val (.int (128 : Int32)), .val (.int (x1 &&& (255 : Int32)))] [(.int (55296 : Int32)), (.int ((((x0 &&& (255 : Int32)) &&& (31 : Int32)) <<< ((6 : Int32) &&& 31)) ||| ((x1 &&& (255 : Int32)) &&& (63 : Int32))))]))
              refine Go.st (fun _ k => XS.icmpNo X0.here hx rfl (hb hby d2_251) rfl (flt hc9).1 k) ?_
              show Go p e below _ (s₁.setTop (mkF m 254 #[.val (.ref a0), .val (.int p1), .val (.int p2), .val (.int (x0 &&& (255 : Int32))), .val (.int (2 : Int32)), .val (.int ((((x0 &&& (255 : Int32)) &&& (31 : Int32)) <<< ((6 : Int32) &&& 31)) ||| ((x1 &&& (255 : Int32)) &&& (63 : Int32)))), .val (.int (128 : Int32)), .val (.int (x1 &&& (255 : Int32)))] []))
              refine Go.st (fun _ k => XS.iload X0.here hx rfl (hb hby d2_254) rfl k) ?_
              show Go p e below _ (s₁.setTop (mkF m 256 #[.val (.ref a0), .val (.int p1), .val (.int p2), .val (.int (x0 &&& (255 : Int32))), .val (.int (2 : Int32)), .val (.int ((((x0 &&& (255 : Int32)) &&& (31 : Int32)) <<< ((6 : Int32) &&& 31)) ||| ((x1 &&& (255 : Int32)) &&& (63 : Int32)))), .val (.int (128 : Int32)), .val (.int (x1 &&& (255 : Int32)))] [(.int ((((x0 &&& (255 : Int32)) &&& (31 : Int32)) <<< ((6 : Int32) &&& 31)) ||| ((x1 &&& (255 : Int32)) &&& (63 : Int32))))]))
              refine Go.st (fun _ k => X0.ldcInt hx hown (mvT hZ (hw _ (List.mem_of_getElem? (i := 19) rfl))) (g := (mkF m 256 #[.val (.ref a0), .val (.int p1), .val (.int p2), .val (.int (x0 &&& (255 : Int32))), .val (.int (2 : Int32)), .val (.int ((((x0 &&& (255 : Int32)) &&& (31 : Int32)) <<< ((6 : Int32) &&& 31)) ||| ((x1 &&& (255 : Int32)) &&& (63 : Int32)))), .val (.int (128 : Int32)), .val (.int (x1 &&& (255 : Int32)))] [(.int ((((x0 &&& (255 : Int32)) &&& (31 : Int32)) <<< ((6 : Int32) &&& 31)) ||| ((x1 &&& (255 : Int32)) &&& (63 : Int32))))])) rfl (hb hby d2_256) _ k) ?_
              show Go p e below _ (s₁.setTop (mkF m 258 #[.val (.ref a0), .val (.int p1), .val (.int p2), .val (.int (x0 &&& (255 : Int32))), .val (.int (2 : Int32)), .val (.int ((((x0 &&& (255 : Int32)) &&& (31 : Int32)) <<< ((6 : Int32) &&& 31)) ||| ((x1 &&& (255 : Int32)) &&& (63 : Int32)))), .val (.int (128 : Int32)), .val (.int (x1 &&& (255 : Int32)))] [(.int (57343 : Int32)), (.int ((((x0 &&& (255 : Int32)) &&& (31 : Int32)) <<< ((6 : Int32) &&& 31)) ||| ((x1 &&& (255 : Int32)) &&& (63 : Int32))))]))
              by_cases hc11 : (57343 : Int32) < ((((x0 &&& (255 : Int32)) &&& (31 : Int32)) <<< ((6 : Int32) &&& 31)) ||| ((x1 &&& (255 : Int32)) &&& (63 : Int32)))
              · show Go p e below _ (s₁.setTop (mkF m 258 #[.val (.ref a0), .val (.int p1), .val (.int p2), .val (.int (x0 &&& (255 : Int32))), .val (.int (2 : Int32)), .val (.int ((((x0 &&& (255 : Int32)) &&& (31 : Int32)) <<< ((6 : Int32) &&& 31)) ||| ((x1 &&& (255 : Int32)) &&& (63 : Int32)))), .val (.int (128 : Int32)), .val (.int (x1 &&& (255 : Int32)))] [(.int (57343 : Int32)), (.int ((((x0 &&& (255 : Int32)) &&& (31 : Int32)) <<< ((6 : Int32) &&& 31)) ||| ((x1 &&& (255 : Int32)) &&& (63 : Int32))))]))
                refine Go.st (fun _ k => XS.icmpYes X0.here hx rfl (pc0 := 258) (pc' := 263) rfl (hb hby d2_258) rfl (tlt hc11).2.2.1 (by decide) (by decide) k) ?_
                show Go p e below _ (s₁.setTop (mkF m 263 #[.val (.ref a0), .val (.int p1), .val (.int p2), .val (.int (x0 &&& (255 : Int32))), .val (.int (2 : Int32)), .val (.int ((((x0 &&& (255 : Int32)) &&& (31 : Int32)) <<< ((6 : Int32) &&& 31)) ||| ((x1 &&& (255 : Int32)) &&& (63 : Int32)))), .val (.int (128 : Int32)), .val (.int (x1 &&& (255 : Int32)))] []))
                refine Go.st (fun _ k => XS.iload X0.here hx rfl (hb hby d2_263) rfl k) ?_
                show Go p e below _ (s₁.setTop (mkF m 265 #[.val (.ref a0), .val (.int p1), .val (.int p2), .val (.int (x0 &&& (255 : Int32))), .val (.int (2 : Int32)), .val (.int ((((x0 &&& (255 : Int32)) &&& (31 : Int32)) <<< ((6 : Int32) &&& 31)) ||| ((x1 &&& (255 : Int32)) &&& (63 : Int32)))), .val (.int (128 : Int32)), .val (.int (x1 &&& (255 : Int32)))] [(.int ((((x0 &&& (255 : Int32)) &&& (31 : Int32)) <<< ((6 : Int32) &&& 31)) ||| ((x1 &&& (255 : Int32)) &&& (63 : Int32))))]))
                refine Go.st (fun _ k => X0.ldcInt hx hown (mvT hZ (hw _ (List.mem_of_getElem? (i := 18) rfl))) (g := (mkF m 265 #[.val (.ref a0), .val (.int p1), .val (.int p2), .val (.int (x0 &&& (255 : Int32))), .val (.int (2 : Int32)), .val (.int ((((x0 &&& (255 : Int32)) &&& (31 : Int32)) <<< ((6 : Int32) &&& 31)) ||| ((x1 &&& (255 : Int32)) &&& (63 : Int32)))), .val (.int (128 : Int32)), .val (.int (x1 &&& (255 : Int32)))] [(.int ((((x0 &&& (255 : Int32)) &&& (31 : Int32)) <<< ((6 : Int32) &&& 31)) ||| ((x1 &&& (255 : Int32)) &&& (63 : Int32))))])) rfl (hb hby d2_265) _ k) ?_
                show Go p e below _ (s₁.setTop (mkF m 267 #[.val (.ref a0), .val (.int p1), .val (.int p2), .val (.int (x0 &&& (255 : Int32))), .val (.int (2 : Int32)), .val (.int ((((x0 &&& (255 : Int32)) &&& (31 : Int32)) <<< ((6 : Int32) &&& 31)) ||| ((x1 &&& (255 : Int32)) &&& (63 : Int32)))), .val (.int (128 : Int32)), .val (.int (x1 &&& (255 : Int32)))] [(.int (1114111 : Int32)), (.int ((((x0 &&& (255 : Int32)) &&& (31 : Int32)) <<< ((6 : Int32) &&& 31)) ||| ((x1 &&& (255 : Int32)) &&& (63 : Int32))))]))
                by_cases hc12 : (1114111 : Int32) < ((((x0 &&& (255 : Int32)) &&& (31 : Int32)) <<< ((6 : Int32) &&& 31)) ||| ((x1 &&& (255 : Int32)) &&& (63 : Int32)))
                · show Go p e below _ (s₁.setTop (mkF m 267 #[.val (.ref a0), .val (.int p1), .val (.int p2), .val (.int (x0 &&& (255 : Int32))), .val (.int (2 : Int32)), .val (.int ((((x0 &&& (255 : Int32)) &&& (31 : Int32)) <<< ((6 : Int32) &&& 31)) ||| ((x1 &&& (255 : Int32)) &&& (63 : Int32)))), .val (.int (128 : Int32)), .val (.int (x1 &&& (255 : Int32)))] [(.int (1114111 : Int32)), (.int ((((x0 &&& (255 : Int32)) &&& (31 : Int32)) <<< ((6 : Int32) &&& 31)) ||| ((x1 &&& (255 : Int32)) &&& (63 : Int32))))]))
                  refine Go.st (fun _ k => XS.icmpNo X0.here hx rfl (hb hby d2_267) rfl (tlt hc12).2.2.2 k) ?_
                  show Go p e below _ (s₁.setTop (mkF m 270 #[.val (.ref a0), .val (.int p1), .val (.int p2), .val (.int (x0 &&& (255 : Int32))), .val (.int (2 : Int32)), .val (.int ((((x0 &&& (255 : Int32)) &&& (31 : Int32)) <<< ((6 : Int32) &&& 31)) ||| ((x1 &&& (255 : Int32)) &&& (63 : Int32)))), .val (.int (128 : Int32)), .val (.int (x1 &&& (255 : Int32)))] []))
                  refine Go.st (fun _ k => XS.iconst X0.here hx rfl (hb hby d2_270) k) ?_
                  obtain ⟨fs, hr, hrun, hended, hW, hsame⟩ := X0.leave (v := some (.int (0 : Int32))) (fun h => by rw [Bd.returns] at h; cases h)
                  refine ⟨_, _, retI X0 hx Bd.returns (hb hby d2_271) hr, hrun, hended, _, _, rfl, ?_, ⟨_, rfl⟩, hW, hsame.mono (by decide) (by decide)⟩
                  show Q_rmCL Z x0 x1 x2 x3 a0 p1 p2 kk z vs h0 n0 _ s₁.heap _
                  rw [e0]
                  refine ⟨?_, N0, rfl⟩
                  unfold fCL
                  rw [if_neg hc2, if_pos hc3, if_neg hc4, if_pos hc7, if_neg hc8, if_neg hc9, if_pos hc11, if_pos hc12]
                · show Go p e below _ (s₁.setTop (mkF m 267 #[.val (.ref a0), .val (.int p1), .val (.int p2), .val (.int (x0 &&& (255 : Int32))), .val (.int (2 : Int32)), .val (.int ((((x0 &&& (255 : Int32)) &&& (31 : Int32)) <<< ((6 : Int32) &&& 31)) ||| ((x1 &&& (255 : Int32)) &&& (63 : Int32)))), .val (.int (128 : Int32)), .val (.int (x1 &&& (255 : Int32)))] [(.int (1114111 : Int32)), (.int ((((x0 &&& (255 : Int32)) &&& (31 : Int32)) <<< ((6 : Int32) &&& 31)) ||| ((x1 &&& (255 : Int32)) &&& (63 : Int32))))]))
                  refine Go.st (fun _ k => XS.icmpYes X0.here hx rfl (pc0 := 267) (pc' := 272) rfl (hb hby d2_267) rfl (flt hc12).2.2.2 (by decide) (by decide) k) ?_
                  show Go p e below _ (s₁.setTop (mkF m 272 #[.val (.ref a0), .val (.int p1), .val (.int p2), .val (.int (x0 &&& (255 : Int32))), .val (.int (2 : Int32)), .val (.int ((((x0 &&& (255 : Int32)) &&& (31 : Int32)) <<< ((6 : Int32) &&& 31)) ||| ((x1 &&& (255 : Int32)) &&& (63 : Int32)))), .val (.int (128 : Int32)), .val (.int (x1 &&& (255 : Int32)))] []))
                  refine Go.st (fun _ k => XS.iload X0.here hx rfl (hb hby d2_272) rfl k) ?_
                  obtain ⟨fs, hr, hrun, hended, hW, hsame⟩ := X0.leave (v := some (.int (2 : Int32))) (fun h => by rw [Bd.returns] at h; cases h)
                  refine ⟨_, _, retI X0 hx Bd.returns (hb hby d2_274) hr, hrun, hended, _, _, rfl, ?_, ⟨_, rfl⟩, hW, hsame.mono (by decide) (by decide)⟩
                  show Q_rmCL Z x0 x1 x2 x3 a0 p1 p2 kk z vs h0 n0 _ s₁.heap _
                  rw [e0]
                  refine ⟨?_, N0, rfl⟩
                  unfold fCL
                  rw [if_neg hc2, if_pos hc3, if_neg hc4, if_pos hc7, if_neg hc8, if_neg hc9, if_pos hc11, if_neg hc12]
              · show Go p e below _ (s₁.setTop (mkF m 258 #[.val (.ref a0), .val (.int p1), .val (.int p2), .val (.int (x0 &&& (255 : Int32))), .val (.int (2 : Int32)), .val (.int ((((x0 &&& (255 : Int32)) &&& (31 : Int32)) <<< ((6 : Int32) &&& 31)) ||| ((x1 &&& (255 : Int32)) &&& (63 : Int32)))), .val (.int (128 : Int32)), .val (.int (x1 &&& (255 : Int32)))] [(.int (57343 : Int32)), (.int ((((x0 &&& (255 : Int32)) &&& (31 : Int32)) <<< ((6 : Int32) &&& 31)) ||| ((x1 &&& (255 : Int32)) &&& (63 : Int32))))]))
                refine Go.st (fun _ k => XS.icmpNo X0.here hx rfl (hb hby d2_258) rfl (flt hc11).2.2.1 k) ?_
                show Go p e below _ (s₁.setTop (mkF m 261 #[.val (.ref a0), .val (.int p1), .val (.int p2), .val (.int (x0 &&& (255 : Int32))), .val (.int (2 : Int32)), .val (.int ((((x0 &&& (255 : Int32)) &&& (31 : Int32)) <<< ((6 : Int32) &&& 31)) ||| ((x1 &&& (255 : Int32)) &&& (63 : Int32)))), .val (.int (128 : Int32)), .val (.int (x1 &&& (255 : Int32)))] []))
                refine Go.st (fun _ k => XS.iconst X0.here hx rfl (hb hby d2_261) k) ?_
                obtain ⟨fs, hr, hrun, hended, hW, hsame⟩ := X0.leave (v := some (.int (0 : Int32))) (fun h => by rw [Bd.returns] at h; cases h)
                refine ⟨_, _, retI X0 hx Bd.returns (hb hby d2_262) hr, hrun, hended, _, _, rfl, ?_, ⟨_, rfl⟩, hW, hsame.mono (by decide) (by decide)⟩
                show Q_rmCL Z x0 x1 x2 x3 a0 p1 p2 kk z vs h0 n0 _ s₁.heap _
                rw [e0]
                refine ⟨?_, N0, rfl⟩
                unfold fCL
                rw [if_neg hc2, if_pos hc3, if_neg hc4, if_pos hc7, if_neg hc8, if_neg hc9, if_neg hc11]
        · show Go p e below _ (s₁.setTop (mkF m 132 #[.val (.ref a0), .val (.int p1), .val (.int p2), .val (.int (x0 &&& (255 : Int32))), .val (.int (2 : Int32)), .val (.int ((x0 &&& (255 : Int32)) &&& (31 : Int32))), .val (.int (128 : Int32)), .val (.int (x1 &&& (255 : Int32)))] [(.int (128 : Int32)), (.int ((x1 &&& (255 : Int32)) &&& (192 : Int32)))]))
          refine Go.st (fun _ k => XS.icmpNo X0.here hx rfl (hb hby d2_132) rfl (feq hc7).1 k) ?_
          show Go p e below _ (s₁.setTop (mkF m 135 #[.val (.ref a0), .val (.int p1), .val (.int p2), .val (.int (x0 &&& (255 : Int32))), .val (.int (2 : Int32)), .val (.int ((x0 &&& (255 : Int32)) &&& (31 : Int32))), .val (.int (128 : Int32)), .val (.int (x1 &&& (255 : Int32)))] []))
          refine Go.st (fun _ k => XS.iconst X0.here hx rfl (hb hby d2_135) k) ?_
          obtain ⟨fs, hr, hrun, hended, hW, hsame⟩ := X0.leave (v := some (.int (0 : Int32))) (fun h => by rw [Bd.returns] at h; cases h)
          refine ⟨_, _, retI X0 hx Bd.returns (hb hby d2_136) hr, hrun, hended, _, _, rfl, ?_, ⟨_, rfl⟩, hW, hsame.mono (by decide) (by decide)⟩
          show Q_rmCL Z x0 x1 x2 x3 a0 p1 p2 kk z vs h0 n0 _ s₁.heap _
          rw [e0]
          refine ⟨?_, N0, rfl⟩
          unfold fCL
          rw [if_neg hc2, if_pos hc3, if_neg hc4, if_neg hc7]
    · show Go p e below _ (s₁.setTop (mkF m 25 #[.val (.ref a0), .val (.int p1), .val (.int p2), .val (.int (x0 &&& (255 : Int32))), .unset, .unset, .unset, .unset] [(.int (192 : Int32)), (.int ((x0 &&& (255 : Int32)) &&& (224 : Int32)))]))
      refine Go.st (fun _ k => XS.icmpYes X0.here hx rfl (pc0 := 25) (pc' := 45) rfl (hb hby d2_25) rfl (feq hc3).2 (by decide) (by decide) k) ?_
      show Go p e below _ (s₁.setTop (mkF m 45 #[.val (.ref a0), .val (.int p1), .val (.int p2), .val (.int (x0 &&& (255 : Int32))), .unset, .unset, .unset, .unset] []))
      refine Go.st (fun _ k => XS.iloadN X0.here hx rfl (hb hby d2_45) rfl k) ?_
      refine Go.st (fun _ k => XS.sipush X0.here hx rfl (hb hby d2_46) k) ?_
      show Go p e below _ (s₁.setTop (mkF m 49 #[.val (.ref a0), .val (.int p1), .val (.int p2), .val (.int (x0 &&& (255 : Int32))), .unset, .unset, .unset, .unset] [(.int (240 : Int32)), (.int (x0 &&& (255 : Int32)))]))
      refine Go.st (fun _ k => XS.iand X0.here hx rfl (hb hby d2_49) rfl k) ?_
      refine Go.st (fun _ k => XS.sipush X0.here hx rfl (hb hby d2_50) k) ?_
      show Go p e below _ (s₁.setTop (mkF m 53 #[.val (.ref a0), .val (.int p1), .val (.int p2), .val (.int (x0 &&& (255 : Int32))), .unset, .unset, .unset, .unset] [(.int (224 : Int32)), (.int ((x0 &&& (255 : Int32)) &&& (240 : Int32)))]))
      by_cases hc13 : ((x0 &&& (255 : Int32)) &&& (240 : Int32)) = (224 : Int32)
      · show Go p e below _ (s₁.setTop (mkF m 53 #[.val (.ref a0), .val (.int p1), .val (.int p2), .val (.int (x0 &&& (255 : Int32))), .unset, .unset, .unset, .unset] [(.int (224 : Int32)), (.int ((x0 &&& (255 : Int32)) &&& (240 : Int32)))]))
        refine Go.st (fun _ k => XS.icmpNo X0.here hx rfl (hb hby d2_53) rfl (teq hc13).2 k) ?_
        show Go p e below _ (s₁.setTop (mkF m 56 #[.val (.ref a0), .val (.int p1), .val (.int p2), .val (.int (x0 &&& (255 : Int32))), .unset, .unset, .unset, .unset] []))
        refine Go.st (fun _ k => XS.iconst X0.here hx rfl (hb hby d2_56) k) ?_
        refine Go.st (fun _ k => XS.istore X0.here hx rfl (hb hby d2_57) rfl (l' := #[.val (.ref a0), .val (.int p1), .val (.int p2), .val (.int (x0 &&& (255 : Int32))), .val (.int (3 : Int32)), .unset, .unset, .unset]) rfl k) ?_
        show Go p e below _ (s₁.setTop (mkF m 59 #[.val (.ref a0), .val (.int p1), .val (.int p2), .val (.int (x0 &&& (255 : Int32))), .val (.int (3 : Int32)), .unset, .unset, .unset] []))
        refine Go.st (fun _ k => XS.iloadN X0.here hx rfl (hb hby d2_59) rfl k) ?_
        refine Go.st (fun _ k => XS.bipush X0.here hx rfl (hb hby d2_60) k) ?_
        show Go p e below _ (s₁.setTop (mkF m 62 #[.val (.ref a0), .val (.int p1), .val (.int p2), .val (.int (x0 &&& (255 : Int32))), .val (.int (3 : Int32)), .unset, .unset, .unset] [(.int (15 : Int32)), (.int (x0 &&& (255 : Int32)))]))
        refine Go.st (fun _ k => XS.iand X0.here hx rfl (hb hby d2_62) rfl k) ?_
        refine Go.st (fun _ k => XS.istore X0.here hx rfl (hb hby d2_63) rfl (l' := #[.val (.ref a0), .val (.int p1), .val (.int p2), .val (.int (x0 &&& (255 : Int32))), .val (.int (3 : Int32)), .val (.int ((x0 &&& (255 : Int32)) &&& (15 : Int32))), .unset, .unset]) rfl k) ?_
        show Go p e below _ (s₁.setTop (mkF m 65 #[.val (.ref a0), .val (.int p1), .val (.int p2), .val (.int (x0 &&& (255 : Int32))), .val (.int (3 : Int32)), .val (.int ((x0 &&& (255 : Int32)) &&& (15 : Int32))), .unset, .unset] []))
        refine Go.st (fun _ k => XS.sipush X0.here hx rfl (hb hby d2_65) k) ?_
        refine Go.st (fun _ k => XS.istore X0.here hx rfl (hb hby d2_68) rfl (l' := #[.val (.ref a0), .val (.int p1), .val (.int p2), .val (.int (x0 &&& (255 : Int32))), .val (.int (3 : Int32)), .val (.int ((x0 &&& (255 : Int32)) &&& (15 : Int32))), .val (.int (2048 : Int32)), .unset]) rfl k) ?_
        show Go p e below _ (s₁.setTop (mkF m 70 #[.val (.ref a0), .val (.int p1), .val (.int p2), .val (.int (x0 &&& (255 : Int32))), .val (.int (3 : Int32)), .val (.int ((x0 &&& (255 : Int32)) &&& (15 : Int32))), .val (.int (2048 : Int32)), .unset] []))
        refine Go.st (fun _ k => XS.goto X0.here hx rfl (pc0 := 70) (pc' := 102) rfl (hb hby d2_70) (by decide) (by decide) k) ?_
        show Go p e below _ (s₁.setTop (mkF m 102 #[.val (.ref a0), .val (.int p1), .val (.int p2), .val (.int (x0 &&& (255 : Int32))), .val (.int (3 : Int32)), .val (.int ((x0 &&& (255 : Int32)) &&& (15 : Int32))), .val (.int (2048 : Int32)), .unset] []))
        refine Go.st (fun _ k => XS.iloadN X0.here hx rfl (hb hby d2_102) rfl k) ?_
        refine Go.st (fun _ k => XS.iload X0.here hx rfl (hb hby d2_103) rfl k) ?_
        show Go p e below _ (s₁.setTop (mkF m 105 #[.val (.ref a0), .val (.int p1), .val (.int p2), .val (.int (x0 &&& (255 : Int32))), .val (.int (3 : Int32)), .val (.int ((x0 &&& (255 : Int32)) &&& (15 : Int32))), .val (.int (2048 : Int32)), .unset] [(.int (3 : Int32)), (.int p2)]))
        refine Go.st (fun _ k => XS.iadd X0.here hx rfl (hb hby d2_105) rfl k) ?_
        refine Go.st (fun _ k => XS.iloadN X0.here hx rfl (hb hby d2_106) rfl k) ?_
        show Go p e below _ (s₁.setTop (mkF m 107 #[.val (.ref a0), .val (.int p1), .val (.int p2), .val (.int (x0 &&& (255 : Int32))), .val (.int (3 : Int32)), .val (.int ((x0 &&& (255 : Int32)) &&& (15 : Int32))), .val (.int (2048 : Int32)), .unset] [(.int p1), (.int (p2 + (3 : Int32)))]))
        by_cases hc14 : p1 < (p2 + (3 : Int32))
        · show Go p e below _ (s₁.setTop (mkF m 107 #[.val (.ref a0), .val (.int p1), .val (.int p2), .val (.int (x0 &&& (255 : Int32))), .val (.int (3 : Int32)), .val (.int ((x0 &&& (255 : Int32)) &&& (15 : Int32))), .val (.int (2048 : Int32)), .unset] [(.int p1), (.int (p2 + (3 : Int32)))]))
          refine Go.st (fun _ k => XS.icmpNo X0.here hx rfl (hb hby d2_107) rfl (tlt hc14).2.2.2 k) ?_
          show Go p e below _ (s₁.setTop (mkF m 110 #[.val (.ref a0), .val (.int p1), .val (.int p2), .val (.int (x0 &&& (255 : Int32))), .val (.int (3 : Int32)), .val (.int ((x0 &&& (255 : Int32)) &&& (15 : Int32))), .val (.int (2048 : Int32)), .unset] []))
          refine Go.st (fun _ k => XS.iconst X0.here hx rfl (hb hby d2_110) k) ?_
          obtain ⟨fs, hr, hrun, hended, hW, hsame⟩ := X0.leave (v := some (.int (0 : Int32))) (fun h => by rw [Bd.returns] at h; cases h)
          refine ⟨_, _, retI X0 hx Bd.returns (hb hby d2_111) hr, hrun, hended, _, _, rfl, ?_, ⟨_, rfl⟩, hW, hsame.mono (by decide) (by decide)⟩
          show Q_rmCL Z x0 x1 x2 x3 a0 p1 p2 kk z vs h0 n0 _ s₁.heap _
          rw [e0]
          refine ⟨?_, N0, rfl⟩
          unfold fCL
          rw [if_neg hc2, if_neg hc3, if_pos hc13, if_pos hc14]
        · show Go p e below _ (s₁.setTop (mkF m 107 #[.val (.ref a0), .val (.int p1), .val (.int p2), .val (.int (x0 &&& (255 : Int32))), .val (.int (3 : Int32)), .val (.int ((x0 &&& (255 : Int32)) &&& (15 : Int32))), .val (.int (2048 : Int32)), .unset] [(.int p1), (.int (p2 + (3 : Int32)))]))
          refine Go.st (fun _ k => XS.icmpYes X0.here hx rfl (pc0 := 107) (pc' := 112) rfl (hb hby d2_107) rfl (flt hc14).2.2.2 (by decide) (by decide) k) ?_
          show Go p e below _ (s₁.setTop (mkF m 112 #[.val (.ref a0), .val (.int p1), .val (.int p2), .val (.int (x0 &&& (255 : Int32))), .val (.int (3 : Int32)), .val (.int ((x0 &&& (255 : Int32)) &&& (15 : Int32))), .val (.int (2048 : Int32)), .unset] []))
          refine Go.st (fun _ k => XS.aloadN X0.here hx rfl (hb hby d2_112) rfl rfl k) ?_
          refine Go.st (fun _ k => XS.iloadN X0.here hx rfl (hb hby d2_113) rfl k) ?_
          show Go p e below _ (s₁.setTop (mkF m 114 #[.val (.ref a0), .val (.int p1), .val (.int p2), .val (.int (x0 &&& (255 : Int32))), .val (.int (3 : Int32)), .val (.int ((x0 &&& (255 : Int32)) &&& (15 : Int32))), .val (.int (2048 : Int32)), .unset] [(.int p2), (.ref a0)]))
          refine Go.st (fun _ k => XS.iconst X0.here hx rfl (hb hby d2_114) k) ?_
          refine Go.st (fun _ k => XS.iadd X0.here hx rfl (hb hby d2_115) rfl k) ?_
          show Go p e below _ (s₁.setTop (mkF m 116 #[.val (.ref a0), .val (.int p1), .val (.int p2), .val (.int (x0 &&& (255 : Int32))), .val (.int (3 : Int32)), .val (.int ((x0 &&& (255 : Int32)) &&& (15 : Int32))), .val (.int (2048 : Int32)), .unset] [(.int (p2 + (1 : Int32))), (.ref a0)]))
          have hk15 : p2.toInt + 1 < z.toInt := own_room2 hs0 hs1 hs2 hn hc14 (by decide) (by decide)
          obtain ⟨cl16, Ar16, ck16, Sz16, Nn16, Hs16, Gs16⟩ := id V_kk
          have hin16 : ¬ ((p2 + (1 : Int32)) < 0 ∨ cl16.slots.size ≤ ((p2 + (1 : Int32))).toNatClampNeg) := inb_of Sz16 (own_ink hs0 hs2 (k := (1 : Int32)) (by decide) (by decide) hk15)
          have hat16 : cl16.slots[((p2 + (1 : Int32))).toNatClampNeg]? = some (.int x1) := Hs16.at hin16 (he1 hk15)
          refine Go.st (fun _ k => X0.baloadBytes hx (j := (p2 + (1 : Int32))) (v := (.int x1)) (by rw [e0]; exact Ar16.1) (State.isArrayOf_alike hZ.alike Ar16.2.1) Ar16.2.2 hin16 hat16 (g := (mkF m 116 #[.val (.ref a0), .val (.int p1), .val (.int p2), .val (.int (x0 &&& (255 : Int32))), .val (.int (3 : Int32)), .val (.int ((x0 &&& (255 : Int32)) &&& (15 : Int32))), .val (.int (2048 : Int32)), .unset] [(.int (p2 + (1 : Int32))), (.ref a0)])) rfl rfl (hb hby d2_116) _ k) ?_
          show Go p e below _ (s₁.setTop (mkF m 117 #[.val (.ref a0), .val (.int p1), .val (.int p2), .val (.int (x0 &&& (255 : Int32))), .val (.int (3 : Int32)), .val (.int ((x0 &&& (255 : Int32)) &&& (15 : Int32))), .val (.int (2048 : Int32)), .unset] [(.int x1)]))
          refine Go.st (fun _ k => XS.sipush X0.here hx rfl (hb hby d2_117) k) ?_
          refine Go.st (fun _ k => XS.iand X0.here hx rfl (hb hby d2_120) rfl k) ?_
          show Go p e below _ (s₁.setTop (mkF m 121 #[.val (.ref a0), .val (.int p1), .val (.int p2), .val (.int (x0 &&& (255 : Int32))), .val (.int (3 : Int32)), .val (.int ((x0 &&& (255 : Int32)) &&& (15 : Int32))), .val (.int (2048 : Int32)), .unset] [(.int (x1 &&& (255 : Int32)))]))
          refine Go.st (fun _ k => XS.istore X0.here hx rfl (hb hby d2_121) rfl (l' := #[.val (.ref a0), .val (.int p1), .val (.int p2), .val (.int (x0 &&& (255 : Int32))), .val (.int (3 : Int32)), .val (.int ((x0 &&& (255 : Int32)) &&& (15 : Int32))), .val (.int (2048 : Int32)), .val (.int (x1 &&& (255 : Int32)))]) rfl k) ?_
          show Go p e below _ (s₁.setTop (mkF m 123 #[.val (.ref a0), .val (.int p1), .val (.int p2), .val (.int (x0 &&& (255 : Int32))), .val (.int (3 : Int32)), .val (.int ((x0 &&& (255 : Int32)) &&& (15 : Int32))), .val (.int (2048 : Int32)), .val (.int (x1 &&& (255 : Int32)))] []))
          refine Go.st (fun _ k => XS.iload X0.here hx rfl (hb hby d2_123) rfl k) ?_
          refine Go.st (fun _ k => XS.sipush X0.here hx rfl (hb hby d2_125) k) ?_
          show Go p e below _ (s₁.setTop (mkF m 128 #[.val (.ref a0), .val (.int p1), .val (.int p2), .val (.int (x0 &&& (255 : Int32))), .val (.int (3 : Int32)), .val (.int ((x0 &&& (255 : Int32)) &&& (15 : Int32))), .val (.int (2048 : Int32)), .val (.int (x1 &&& (255 : Int32)))] [(.int (192 : Int32)), (.int (x1 &&& (255 : Int32)))]))
          refine Go.st (fun _ k => XS.iand X0.here hx rfl (hb hby d2_128) rfl k) ?_
          refine Go.st (fun _ k => XS.sipush X0.here hx rfl (hb hby d2_129) k) ?_
          show Go p e below _ (s₁.setTop (mkF m 132 #[.val (.ref a0), .val (.int p1), .val (.int p2), .val (.int (x0 &&& (255 : Int32))), .val (.int (3 : Int32)), .val (.int ((x0 &&& (255 : Int32)) &&& (15 : Int32))), .val (.int (2048 : Int32)), .val (.int (x1 &&& (255 : Int32)))] [(.int (128 : Int32)), (.int ((x1 &&& (255 : Int32)) &&& (192 : Int32)))]))
          by_cases hc17 : ((x1 &&& (255 : Int32)) &&& (192 : Int32)) = (128 : Int32)
          · show Go p e below _ (s₁.setTop (mkF m 132 #[.val (.ref a0), .val (.int p1), .val (.int p2), .val (.int (x0 &&& (255 : Int32))), .val (.int (3 : Int32)), .val (.int ((x0 &&& (255 : Int32)) &&& (15 : Int32))), .val (.int (2048 : Int32)), .val (.int (x1 &&& (255 : Int32)))] [(.int (128 : Int32)), (.int ((x1 &&& (255 : Int32)) &&& (192 : Int32)))]))
            refine Go.st (fun _ k => XS.icmpYes X0.here hx rfl (pc0 := 132) (pc' := 137) rfl (hb hby d2_132) rfl (teq hc17).1 (by decide) (by decide) k) ?_
            show Go p e below _ (s₁.setTop (mkF m 137 #[.val (.ref a0), .val (.int p1), .val (.int p2), .val (.int (x0 &&& (255 : Int32))), .val (.int (3 : Int32)), .val (.int ((x0 &&& (255 : Int32)) &&& (15 : Int32))), .val (.int (2048 : Int32)), .val (.int (x1 &&& (255 : Int32)))] []))
            refine Go.st (fun _ k => XS.iload X0.here hx rfl (hb hby d2_137) rfl k) ?_
            refine Go.st (fun _ k => XS.bipush X0.here hx rfl (hb hby d2_139) k) ?_
            show Go p e below _ (s₁.setTop (mkF m 141 #[.val (.ref a0), .val (.int p1), .val (.int p2), .val (.int (x0 &&& (255 : Int32))), .val (.int (3 : Int32)), .val (.int ((x0 &&& (255 : Int32)) &&& (15 : Int32))), .val (.int (2048 : Int32)), .val (.int (x1 &&& (255 : Int32)))] [(.int (6 : Int32)), (.int ((x0 &&& (255 : Int32)) &&& (15 : Int32)))]))
            refine Go.st (fun _ k => XS.ishl X0.here hx rfl (hb hby d2_141) rfl k) ?_
            show Go p e below _ (s₁.setTop (mkF m 142 #[.val (.ref a0), .val (.int p1), .val (.int p2), .val (.int (x0 &&& (255 : Int32))), .val (.int (3 : Int32)), .val (.int ((x0 &&& (255 : Int32)) &&& (15 : Int32))), .val (.int (2048 : Int32)), .val (.int (x1 &&& (255 : Int32)))] [(.int (((x0 &&& (255 : Int32)) &&& (15 : Int32)) <<< ((6 : Int32) &&& 31)))]))
            refine Go.st (fun _ k => XS.iload X0.here hx rfl (hb hby d2_142) rfl k) ?_
            refine Go.st (fun _ k => XS.bipush X0.here hx rfl (hb hby d2_144) k) ?_
            show Go p e below _ (s₁.setTop (mkF m 146 #[.val (.ref a0), .val (.int p1), .val (.int p2), .val (.int (x0 &&& (255 : Int32))), .val (.int (3 : Int32)), .val (.int ((x0 &&& (255 : Int32)) &&& (15 : Int32))), .val (.int (2048 : Int32)), .val (.int (x1 &&& (255 : Int32)))] [(.int (63 : Int32)), (.int (x1 &&& (255 : Int32))), (.int (((x0 &&& (255 : Int32)) &&& (15 : Int32)) <<< ((6 : Int32) &&& 31)))]))
            refine Go.st (fun _ k => XS.iand X0.here hx rfl (hb hby d2_146) rfl k) ?_
            refine Go.st (fun _ k => XS.ior X0.here hx rfl (hb hby d2_147) rfl k) ?_
            show Go p e below _ (s₁.setTop (mkF m 148 #[.val (.ref a0), .val (.int p1), .val (.int p2), .val (.int (x0 &&& (255 : Int32))), .val (.int (3 : Int32)), .val (.int ((x0 &&& (255 : Int32)) &&& (15 : Int32))), .val (.int (2048 : Int32)), .val (.int (x1 &&& (255 : Int32)))] [(.int ((((x0 &&& (255 : Int32)) &&& (15 : Int32)) <<< ((6 : Int32) &&& 31)) ||| ((x1 &&& (255 : Int32)) &&& (63 : Int32))))]))
            refine Go.st (fun _ k => XS.istore X0.here hx rfl (hb hby d2_148) rfl (l' := #[.val (.ref a0), .val (.int p1), .val (.int p2), .val (.int (x0 &&& (255 : Int32))), .val (.int (3 : Int32)), .val (.int ((((x0 &&& (255 : Int32)) &&& (15 : Int32)) <<< ((6 : Int32) &&& 31)) ||| ((x1 &&& (255 : Int32)) &&& (63 : Int32)))), .val (.int (2048 : Int32)), .val (.int (x1 &&& (255 : Int32)))]) rfl k) ?_
            show Go p e below _ (s₁.setTop (mkF m 150 #[.val (.ref a0), .val (.int p1), .val (.int p2), .val (.int (x0 &&& (255 : Int32))), .val (.int (3 : Int32)), .val (.int ((((x0 &&& (255 : Int32)) &&& (15 : Int32)) <<< ((6 : Int32) &&& 31)) ||| ((x1 &&& (255 : Int32)) &&& (63 : Int32)))), .val (.int (2048 : Int32)), .val (.int (x1 &&& (255 : Int32)))] []))
            refine Go.st (fun _ k => XS.iload X0.here hx rfl (hb hby d2_150) rfl k) ?_
            refine Go.st (fun _ k => XS.iconst X0.here hx rfl (hb hby d2_152) k) ?_
            show Go p e below _ (s₁.setTop (mkF m 153 #[.val (.ref a0), .val (.int p1), .val (.int p2), .val (.int (x0 &&& (255 : Int32))), .val (.int (3 : Int32)), .val (.int ((((x0 &&& (255 : Int32)) &&& (15 : Int32)) <<< ((6 : Int32) &&& 31)) ||| ((x1 &&& (255 : Int32)) &&& (63 : Int32)))), .val (.int (2048 : Int32)), .val (.int (x1 &&& (255 : Int32)))] [(.int (3 : Int32)), (.int (3 : Int32))]))
            refine Go.st (fun _ k => XS.icmpNo X0.here hx rfl (hb hby d2_153) rfl (flt (by decide : ¬ ((3 : Int32) < (3 : Int32)))).1 k) ?_
            show Go p e below _ (s₁.setTop (mkF m 156 #[.val (.ref a0), .val (.int p1), .val (.int p2), .val (.int (x0 &&& (255 : Int32))), .val (.int (3 : Int32)), .val (.int ((((x0 &&& (255 : Int32)) &&& (15 : Int32)) <<< ((6 : Int32) &&& 31)) ||| ((x1 &&& (255 : Int32)) &&& (63 : Int32)))), .val (.int (2048 : Int32)), .val (.int (x1 &&& (255 : Int32)))] []))
            refine Go.st (fun _ k => XS.aloadN X0.here hx rfl (hb hby d2_156) rfl rfl k) ?_
            refine Go.st (fun _ k => XS.iloadN X0.here hx rfl (hb hby d2_157) rfl k) ?_
            show Go p e below _ (s₁.setTop (mkF m 158 #[.val (.ref a0), .val (.int p1), .val (.int p2), .val (.int (x0 &&& (255 : Int32))), .val (.int (3 : Int32)), .val (.int ((((x0 &&& (255 : Int32)) &&& (15 : Int32)) <<< ((6 : Int32) &&& 31)) ||| ((x1 &&& (255 : Int32)) &&& (63 : Int32)))), .val (.int (2048 : Int32)), .val (.int (x1 &&& (255 : Int32)))] [(.int p2), (.ref a0)]))
            refine Go.st (fun _ k => XS.iconst X0.here hx rfl (hb hby d2_158) k) ?_
            refine Go.st (fun _ k => XS.iadd X0.here hx rfl (hb hby d2_159) rfl k) ?_
            show Go p e below _ (s₁.setTop (mkF m 160 #[.val (.ref a0), .val (.int p1), .val (.int p2), .val (.int (x0 &&& (255 : Int32))), .val (.int (3 : Int32)), .val (.int ((((x0 &&& (255 : Int32)) &&& (15 : Int32)) <<< ((6 : Int32) &&& 31)) ||| ((x1 &&& (255 : Int32)) &&& (63 : Int32)))), .val (.int (2048 : Int32)), .val (.int (x1 &&& (255 : Int32)))] [(.int (p2 + (2 : Int32))), (.ref a0)]))
            have hk18 : p2.toInt + 2 < z.toInt := own_room2 hs0 hs1 hs2 hn hc14 (by decide) (by decide)
            obtain ⟨cl19, Ar19, ck19, Sz19, Nn19, Hs19, Gs19⟩ := id V_kk
            have hin19 : ¬ ((p2 + (2 : Int32)) < 0 ∨ cl19.slots.size ≤ ((p2 + (2 : Int32))).toNatClampNeg) := inb_of Sz19 (own_ink hs0 hs2 (k := (2 : Int32)) (by decide) (by decide) hk18)
            have hat19 : cl19.slots[((p2 + (2 : Int32))).toNatClampNeg]? = some (.int x2) := Hs19.at hin19 (he2 hk18)
            refine Go.st (fun _ k => X0.baloadBytes hx (j := (p2 + (2 : Int32))) (v := (.int x2)) (by rw [e0]; exact Ar19.1) (State.isArrayOf_alike hZ.alike Ar19.2.1) Ar19.2.2 hin19 hat19 (g := (mkF m 160 #[.val (.ref a0), .val (.int p1), .val (.int p2), .val (.int (x0 &&& (255 : Int32))), .val (.int (3 : Int32)), .val (.int ((((x0 &&& (255 : Int32)) &&& (15 : Int32)) <<< ((6 : Int32) &&& 31)) ||| ((x1 &&& (255 : Int32)) &&& (63 : Int32)))), .val (.int (2048 : Int32)), .val (.int (x1 &&& (255 : Int32)))] [(.int (p2 + (2 : Int32))), (.ref a0)])) rfl rfl (hb hby d2_160) _ k) ?_
            show Go p e below _ (s₁.setTop (mkF m 161 #[.val (.ref a0), .val (.int p1), .val (.int p2), .val (.int (x0 &&& (255 : Int32))), .val (.int (3 : Int32)), .val (.int ((((x0 &&& (255 : Int32)) &&& (15 : Int32)) <<< ((6 : Int32) &&& 31)) ||| ((x1 &&& (255 : Int32)) &&& (63 : Int32)))), .val (.int (2048 : Int32)), .val (.int (x1 &&& (255 : Int32)))] [(.int x2)]))
            refine Go.st (fun _ k => XS.sipush X0.here hx rfl (hb hby d2_161) k) ?_
            refine Go.st (fun _ k => XS.iand X0.here hx rfl (hb hby d2_164) rfl k) ?_
            show Go p e below _ (s₁.setTop (mkF m 165 #[.val (.ref a0), .val (.int p1), .val (.int p2), .val (.int (x0 &&& (255 : Int32))), .val (.int (3 : Int32)), .val (.int ((((x0 &&& (255 : Int32)) &&& (15 : Int32)) <<< ((6 : Int32) &&& 31)) ||| ((x1 &&& (255 : Int32)) &&& (63 : Int32)))), .val (.int (2048 : Int32)), .val (.int (x1 &&& (255 : Int32)))] [(.int (x2 &&& (255 : Int32)))]))
            refine Go.st (fun _ k => XS.istore X0.here hx rfl (hb hby d2_165) rfl (l' := #[.val (.ref a0), .val (.int p1), .val (.int p2), .val (.int (x0 &&& (255 : Int32))), .val (.int (3 : Int32)), .val (.int ((((x0 &&& (255 : Int32)) &&& (15 : Int32)) <<< ((6 : Int32) &&& 31)) ||| ((x1 &&& (255 : Int32)) &&& (63 : Int32)))), .val (.int (2048 : Int32)), .val (.int (x2 &&& (255 : Int32)))]) rfl k) ?_
            show Go p e below _ (s₁.setTop (mkF m 167 #[.val (.ref a0), .val (.int p1), .val (.int p2), .val (.int (x0 &&& (255 : Int32))), .val (.int (3 : Int32)), .val (.int ((((x0 &&& (255 : Int32)) &&& (15 : Int32)) <<< ((6 : Int32) &&& 31)) ||| ((x1 &&& (255 : Int32)) &&& (63 : Int32)))), .val (.int (2048 : Int32)), .val (.int (x2 &&& (255 : Int32)))] []))
            refine Go.st (fun _ k => XS.iload X0.here hx rfl (hb hby d2_167) rfl k) ?_
            refine Go.st (fun _ k => XS.sipush X0.here hx rfl (hb hby d2_169) k) ?_
            show Go p e below _ (s₁.setTop (mkF m 172 #[.val (.ref a0), .val (.int p1), .val (.int p2), .val (.int (x0 &&& (255 : Int32))), .val (.int (3 : Int32)), .val (.int ((((x0 &&& (255 : Int32)) &&& (15 : Int32)) <<< ((6 : Int32) &&& 31)) ||| ((x1 &&& (255 : Int32)) &&& (63 : Int32)))), .val (.int (2048 : Int32)), .val (.int (x2 &&& (255 : Int32)))] [(.int (192 : Int32)), (.int (x2 &&& (255 : Int32)))]))
            refine Go.st (fun _ k => XS.iand X0.here hx rfl (hb hby d2_172) rfl k) ?_
            refine Go.st (fun _ k => XS.sipush X0.here hx rfl (hb hby d2_173) k) ?_
            show Go p e below _ (s₁.setTop (mkF m 176 #[.val (.ref a0), .val (.int p1), .val (.int p2), .val (.int (x0 &&& (255 : Int32))), .val (.int (3 : Int32)), .val (.int ((((x0 &&& (255 : Int32)) &&& (15 : Int32)) <<< ((6 : Int32) &&& 31)) ||| ((x1 &&& (255 : Int32)) &&& (63 : Int32)))), .val (.int (2048 : Int32)), .val (.int (x2 &&& (255 : Int32)))] [(.int (128 : Int32)), (.int ((x2 &&& (255 : Int32)) &&& (192 : Int32)))]))
            by_cases hc20 : ((x2 &&& (255 : Int32)) &&& (192 : Int32)) = (128 : Int32)
            · show Go p e below _ (s₁.setTop (mkF m 176 #[.val (.ref a0), .val (.int p1), .val (.int p2), .val (.int (x0 &&& (255 : Int32))), .val (.int (3 : Int32)), .val (.int ((((x0 &&& (255 : Int32)) &&& (15 : Int32)) <<< ((6 : Int32) &&& 31)) ||| ((x1 &&& (255 : Int32)) &&& (63 : Int32)))), .val (.int (2048 : Int32)), .val (.int (x2 &&& (255 : Int32)))] [(.int (128 : Int32)), (.int ((x2 &&& (255 : Int32)) &&& (192 : Int32)))]))
              refine Go.st (fun _ k => XS.icmpYes X0.here hx rfl (pc0 := 176) (pc' := 181) rfl (hb hby d2_176) rfl (teq hc20).1 (by decide) (by decide) k) ?_
              show Go p e below _ (s₁.setTop (mkF m 181 #[.val (.ref a0), .val (.int p1), .val (.int p2), .val (.int (x0 &&& (255 : Int32))), .val (.int (3 : Int32)), .val (.int ((((x0 &&& (255 : Int32)) &&& (15 : Int32)) <<< ((6 : Int32) &&& 31)) ||| ((x1 &&& (255 : Int32)) &&& (63 : Int32)))), .val (.int (2048 : Int32)), .val (.int (x2 &&& (255 : Int32)))] []))
              refine Go.st (fun _ k => XS.iload X0.here hx rfl (hb hby d2_181) rfl k) ?_
              refine Go.st (fun _ k => XS.bipush X0.here hx rfl (hb hby d2_183) k) ?_
              show Go p e below _ (s₁.setTop (mkF m 185 #[.val (.ref a0), .val (.int p1), .val (.int p2), .val (.int (x0 &&& (255 : Int32))), .val (.int (3 : Int32)), .val (.int ((((x0 &&& (255 : Int32)) &&& (15 : Int32)) <<< ((6 : Int32) &&& 31)) ||| ((x1 &&& (255 : Int32)) &&& (63 : Int32)))), .val (.int (2048 : Int32)), .val (.int (x2 &&& (255 : Int32)))] [(.int (6 : Int32)), (.int ((((x0 &&& (255 : Int32)) &&& (15 : Int32)) <<< ((6 : Int32) &&& 31)) ||| ((x1 &&& (255 : Int32)) &&& (63 : Int32))))]))
              refine Go.st (fun _ k => XS.ishl X0.here hx rfl (hb hby d2_185) rfl k) ?_
              show Go p e below _ (s₁.setTop (mkF m 186 #[.val (.ref a0), .val (.int p1), .val (.int p2), .val (.int (x0 &&& (255 : Int32))), .val (.int (3 : Int32)), .val (.int ((((x0 &&& (255 : Int32)) &&& (15 : Int32)) <<< ((6 : Int32) &&& 31)) ||| ((x1 &&& (255 : Int32)) &&& (63 : Int32)))), .val (.int (2048 : Int32)), .val (.int (x2 &&& (255 : Int32)))] [(.int (((((x0 &&& (255 : Int32)) &&& (15 : Int32)) <<< ((6 : Int32) &&& 31)) ||| ((x1 &&& (255 : Int32)) &&& (63 : Int32))) <<< ((6 : Int32) &&& 31)))]))
              refine Go.st (fun _ k => XS.iload X0.here hx rfl (hb hby d2_186) rfl k) ?_
              refine Go.st (fun _ k => XS.bipush X0.here hx rfl (hb hby d2_188) k) ?_
              show Go p e below _ (s₁.setTop (mkF m 190 #[.val (.ref a0), .val (.int p1), .val (.int p2), .val (.int (x0 &&& (255 : Int32))), .val (.int (3 : Int32)), .val (.int ((((x0 &&& (255 : Int32)) &&& (15 : Int32)) <<< ((6 : Int32) &&& 31)) ||| ((x1 &&& (255 : Int32)) &&& (63 : Int32)))), .val (.int (2048 : Int32)), .val (.int (x2 &&& (255 : Int32)))] [(.int (63 : Int32)), (.int (x2 &&& (255 : Int32))), (.int (((((x0 &&& (255 : Int32)) &&& (15 : Int32)) <<< ((6 : Int32) &&& 31)) ||| ((x1 &&& (255 : Int32)) &&& (63 : Int32))) <<< ((6 : Int32) &&& 31)))]))
              refine Go.st (fun _ k => XS.iand X0.here hx rfl (hb hby d2_190) rfl k) ?_
              refine Go.st (fun _ k => XS.ior X0.here hx rfl (hb hby d2_191) rfl k) ?_
              show Go p e below _ (s₁.setTop (mkF m 192 #[.val (.ref a0), .val (.int p1), .val (.int p2), .val (.int (x0 &&& (255 : Int32))), .val (.int (3 : Int32)), .val (.int ((((x0 &&& (255 : Int32)) &&& (15 : Int32)) <<< ((6 : Int32) &&& 31)) ||| ((x1 &&& (255 : Int32)) &&& (63 : Int32)))), .val (.int (2048 : Int32)), .val (.int (x2 &&& (255 : Int32)))] [(.int ((((((x0 &&& (255 : Int32)) &&& (15 : Int32)) <<< ((6 : Int32) &&& 31)) ||| ((x1 &&& (255 : Int32)) &&& (63 : Int32))) <<< ((6 : Int32) &&& 31)) ||| ((x2 &&& (255 : Int32)) &&& (63 : Int32))))]))
              refine Go.st (fun _ k => XS.istore X0.here hx rfl (hb hby d2_192) rfl (l' := #[.val (.ref a0), .val (.int p1), .val (.int p2), .val (.int (x0 &&& (255 : Int32))), .val (.int (3 : Int32)), .val (.int ((((((x0 &&& (255 : Int32)) &&& (15 : Int32)) <<< ((6 : Int32) &&& 31)) ||| ((x1 &&& (255 : Int32)) &&& (63 : Int32))) <<< ((6 : Int32) &&& 31)) ||| ((x2 &&& (255 : Int32)) &&& (63 : Int32)))), .val (.int (2048 : Int32)), .val (.int (x2 &&& (255 : Int32)))]) rfl k) ?_
              show Go p e below _ (s₁.setTop (mkF m 194 #[.val (.ref a0), .val (.int p1), .val (.int p2), .val (.int (x0 &&& (255 : Int32))), .val (.int (3 : Int32)), .val (.int ((((((x0 &&& (255 : Int32)) &&& (15 : Int32)) <<< ((6 : Int32) &&& 31)) ||| ((x1 &&& (255 : Int32)) &&& (63 : Int32))) <<< ((6 : Int32) &&& 31)) ||| ((x2 &&& (255 : Int32)) &&& (63 : Int32)))), .val (.int (2048 : Int32)), .val (.int (x2 &&& (255 : Int32)))] []))
              refine Go.st (fun _ k => XS.iload X0.here hx rfl (hb hby d2_194) rfl k) ?_
              refine Go.st (fun _ k => XS.iconst X0.here hx rfl (hb hby d2_196) k) ?_
              show Go p e below _ (s₁.setTop (mkF m 197 #[.val (.ref a0), .val (.int p1), .val (.int p2), .val (.int (x0 &&& (255 : Int32))), .val (.int (3 : Int32)), .val (.int ((((((x0 &&& (255 : Int32)) &&& (15 : Int32)) <<< ((6 : Int32) &&& 31)) ||| ((x1 &&& (255 : Int32)) &&& (63 : Int32))) <<< ((6 : Int32) &&& 31)) ||| ((x2 &&& (255 : Int32)) &&& (63 : Int32)))), .val (.int (2048 : Int32)), .val (.int (x2 &&& (255 : Int32)))] [(.int (4 : Int32)), (.int (3 : Int32))]))
              refine Go.st (fun _ k => XS.icmpYes X0.here hx rfl (pc0 := 197) (pc' := 238) rfl (hb hby d2_197) rfl (feq (by decide : ¬ ((3 : Int32) = (4 : Int32)))).2 (by decide) (by decide) k) ?_
              show Go p e below _ (s₁.setTop (mkF m 238 #[.val (.ref a0), .val (.int p1), .val (.int p2), .val (.int (x0 &&& (255 : Int32))), .val (.int (3 : Int32)), .val (.int ((((((x0 &&& (255 : Int32)) &&& (15 : Int32)) <<< ((6 : Int32) &&& 31)) ||| ((x1 &&& (255 : Int32)) &&& (63 : Int32))) <<< ((6 : Int32) &&& 31)) ||| ((x2 &&& (255 : Int32)) &&& (63 : Int32)))), .val (.int (2048 : Int32)), .val (.int (x2 &&& (255 : Int32)))] []))
              refine Go.st (fun _ k => XS.iload X0.here hx rfl (hb hby d2_238) rfl k) ?_
              refine Go.st (fun _ k => XS.iload X0.here hx rfl (hb hby d2_240) rfl k) ?_
              show Go p e below _ (s₁.setTop (mkF m 242 #[.val (.ref a0), .val (.int p1), .val (.int p2), .val (.int (x0 &&& (255 : Int32))), .val (.int (3 : Int32)), .val (.int ((((((x0 &&& (255 : Int32)) &&& (15 : Int32)) <<< ((6 : Int32) &&& 31)) ||| ((x1 &&& (255 : Int32)) &&& (63 : Int32))) <<< ((6 : Int32) &&& 31)) ||| ((x2 &&& (255 : Int32)) &&& (63 : Int32)))), .val (.int (2048 : Int32)), .val (.int (x2 &&& (255 : Int32)))] [(.int (2048 : Int32)), (.int ((((((x0 &&& (255 : Int32)) &&& (15 : Int32)) <<< ((6 : Int32) &&& 31)) ||| ((x1 &&& (255 : Int32)) &&& (63 : Int32))) <<< ((6 : Int32) &&& 31)) ||| ((x2 &&& (255 : Int32)) &&& (63 : Int32))))]))
              by_cases hc21 : ((((((x0 &&& (255 : Int32)) &&& (15 : Int32)) <<< ((6 : Int32) &&& 31)) ||| ((x1 &&& (255 : Int32)) &&& (63 : Int32))) <<< ((6 : Int32) &&& 31)) ||| ((x2 &&& (255 : Int32)) &&& (63 : Int32))) < (2048 : Int32)
              · show Go p e below _ (s₁.setTop (mkF m 242 #[.val (.ref a0), .val (.int p1), .val (.int p2), .val (.int (x0 &&& (255 : Int32))), .val (.int (3 : Int32)), .val (.int ((((((x0 &&& (255 : Int32)) &&& (15 : Int32)) <<< ((6 : Int32) &&& 31)) ||| ((x1 &&& (255 : Int32)) &&& (63 : Int32))) <<< ((6 : Int32) &&& 31)) ||| ((x2 &&& (255 : Int32)) &&& (63 : Int32)))), .val (.int (2048 : Int32)), .val (.int (x2 &&& (255 : Int32)))] [(.int (2048 : Int32)), (.int ((((((x0 &&& (255 : Int32)) &&& (15 : Int32)) <<< ((6 : Int32) &&& 31)) ||| ((x1 &&& (255 : Int32)) &&& (63 : Int32))) <<< ((6 : Int32) &&& 31)) ||| ((x2 &&& (255 : Int32)) &&& (63 : Int32))))]))
                refine Go.st (fun _ k => XS.icmpNo X0.here hx rfl (hb hby d2_242) rfl (tlt hc21).2.1 k) ?_
                show Go p e below _ (s₁.setTop (mkF m 245 #[.val (.ref a0), .val (.int p1), .val (.int p2), .val (.int (x0 &&& (255 : Int32))), .val (.int (3 : Int32)), .val (.int ((((((x0 &&& (255 : Int32)) &&& (15 : Int32)) <<< ((6 : Int32) &&& 31)) ||| ((x1 &&& (255 : Int32)) &&& (63 : Int32))) <<< ((6 : Int32) &&& 31)) ||| ((x2 &&& (255 : Int32)) &&& (63 : Int32)))), .val (.int (2048 : Int32)), .val (.int (x2 &&& (255 : Int32)))] []))
                refine Go.st (fun _ k => XS.iconst X0.here hx rfl (hb hby d2_245) k) ?_
                obtain ⟨fs, hr, hrun, hended, hW, hsame⟩ := X0.leave (v := some (.int (0 : Int32))) (fun h => by rw [Bd.returns] at h; cases h)
                refine ⟨_, _, retI X0 hx Bd.returns (hb hby d2_246) hr, hrun, hended, _, _, rfl, ?_, ⟨_, rfl⟩, hW, hsame.mono (by decide) (by decide)⟩
                show Q_rmCL Z x0 x1 x2 x3 a0 p1 p2 kk z vs h0 n0 _ s₁.heap _
                rw [e0]
                refine ⟨?_, N0, rfl⟩
                unfold fCL
                rw [if_neg hc2, if_neg hc3, if_pos hc13, if_neg hc14, if_pos hc17, if_pos hc20, if_pos hc21]
              · show Go p e below _ (s₁.setTop (mkF m 242 #[.val (.ref a0), .val (.int p1), .val (.int p2), .val (.int (x0 &&& (255 : Int32))), .val (.int (3 : Int32)), .val (.int ((((((x0 &&& (255 : Int32)) &&& (15 : Int32)) <<< ((6 : Int32) &&& 31)) ||| ((x1 &&& (255 : Int32)) &&& (63 : Int32))) <<< ((6 : Int32) &&& 31)) ||| ((x2 &&& (255 : Int32)) &&& (63 : Int32)))), .val (.int (2048 : Int32)), .val (.int (x2 &&& (255 : Int32)))] [(.int (2048 : Int32)), (.int ((((((x0 &&& (255 : Int32)) &&& (15 : Int32)) <<< ((6 : Int32) &&& 31)) ||| ((x1 &&& (255 : Int32)) &&& (63 : Int32))) <<< ((6 : Int32) &&& 31)) ||| ((x2 &&& (255 : Int32)) &&& (63 : Int32))))]))
                refine Go.st (fun _ k => XS.icmpYes X0.here hx rfl (pc0 := 242) (pc' := 247) rfl (hb hby d2_242) rfl (flt hc21).2.1 (by decide) (by decide) k) ?_
                show Go p e below _ (s₁.setTop (mkF m 247 #[.val (.ref a0), .val (.int p1), .val (.int p2), .val (.int (x0 &&& (255 : Int32))), .val (.int (3 : Int32)), .val (.int ((((((x0 &&& (255 : Int32)) &&& (15 : Int32)) <<< ((6 : Int32) &&& 31)) ||| ((x1 &&& (255 : Int32)) &&& (63 : Int32))) <<< ((6 : Int32) &&& 31)) ||| ((x2 &&& (255 : Int32)) &&& (63 : Int32)))), .val (.int (2048 : Int32)), .val (.int (x2 &&& (255 : Int32)))] []))
                refine Go.st (fun _ k => XS.iload X0.here hx rfl (hb hby d2_247) rfl k) ?_
                show Go p e below _ (s₁.setTop (mkF m 249 #[.val (.ref a0), .val (.int p1), .val (.int p2), .val (.int (x0 &&& (255 : Int32))), .val (.int (3 : Int32)), .val (.int ((((((x0 &&& (255 : Int32)) &&& (15 : Int32)) <<< ((6 : Int32) &&& 31)) ||| ((x1 &&& (255 : Int32)) &&& (63 : Int32))) <<< ((6 : Int32) &&& 31)) ||| ((x2 &&& (255 : Int32)) &&& (63 : Int32)))), .val (.int (2048 : Int32)), .val (.int (x2 &&& (255 : Int32)))] [(.int ((((((x0 &&& (255 : Int32)) &&& (15 : Int32)) <<< ((6 : Int32) &&& 31)) ||| ((x1 &&& (255 : Int32)) &&& (63 : Int32))) <<< ((6 : Int32) &&& 31)) ||| ((x2 &&& (255 : Int32)) &&& (63 : Int32))))]))
                refine Go.st (fun _ k => X0.ldcInt hx hown (mvT hZ (hw _ (List.mem_of_getElem? (i := 17) rfl))) (g := (mkF m 249 #[.val (.ref a0), .val (.int p1), .val (.int p2), .val (.int (x0 &&& (255 : Int32))), .val (.int (3 : Int32)), .val (.int ((((((x0 &&& (255 : Int32)) &&& (15 : Int32)) <<< ((6 : Int32) &&& 31)) ||| ((x1 &&& (255 : Int32)) &&& (63 : Int32))) <<< ((6 : Int32) &&& 31)) ||| ((x2 &&& (255 : Int32)) &&& (63 : Int32)))), .val (.int (2048 : Int32)), .val (.int (x2 &&& (255 : Int32)))] [(.int ((((((x0 &&& (255 : Int32)) &&& (15 : Int32)) <<< ((6 : Int32) &&& 31)) ||| ((x1 &&& (255 : Int32)) &&& (63 : Int32))) <<< ((6 : Int32) &&& 31)) ||| ((x2 &&& (255 : Int32)) &&& (63 : Int32))))])) rfl (hb hby d2_249) _ k) ?_
                show Go p e below _ (s₁.setTop (mkF m 251 #[.val (.ref a0), .val (.int p1), .val (.int p2), .val (.int (x0 &&& (255 : Int32))), .val (.int (3 : Int32)), .val (.int ((((((x0 &&& (255 : Int32)) &&& (15 : Int32)) <<< ((6 : Int32) &&& 31)) ||| ((x1 &&& (255 : Int32)) &&& (63 : Int32))) <<< ((6 : Int32) &&& 31)) ||| ((x2 &&& (255 : Int32)) &&& (63 : Int32)))), .val (.int (2048 : Int32)), .val (.int (x2 &&& (255 : Int32)))] [(.int (55296 : Int32)), (.int ((((((x0 &&& (255 : Int32)) &&& (15 : Int32)) <<< ((6 : Int32) &&& 31)) ||| ((x1 &&& (255 : Int32)) &&& (63 : Int32))) <<< ((6 : Int32) &&& 31)) ||| ((x2 &&& (255 : Int32)) &&& (63 : Int32))))]))
                by_cases hc22 : ((((((x0 &&& (255 : Int32)) &&& (15 : Int32)) <<< ((6 : Int32) &&& 31)) ||| ((x1 &&& (255 : Int32)) &&& (63 : Int32))) <<< ((6 : Int32) &&& 31)) ||| ((x2 &&& (255 : Int32)) &&& (63 : Int32))) < (55296 : Int32)
                · show Go p e below _ (s₁.setTop (mkF m 251 #[.val (.ref a0), .val (.int p1), .val (.int p2), .val (.int (x0 &&& (255 : Int32))), .val (.int (3 : Int32)), .val (.int ((((((x0 &&& (255 : Int32)) &&& (15 : Int32)) <<< ((6 : Int32) &&& 31)) ||| ((x1 &&& (255 : Int32)) &&& (63 : Int32))) <<< ((6 : Int32) &&& 31)) ||| ((x2 &&& (255 : Int32)) &&& (63 : Int32)))), .val (.int (2048 : Int32)), .val (.int (x2 &&& (255 : Int32)))] [(.int (55296 : Int32)), (.int ((((((x0 &&& (255 : Int32)) &&& (15 : Int32)) <<< ((6 : Int32) &&& 31)) ||| ((x1 &&& (255 : Int32)) &&& (63 : Int32))) <<< ((6 : Int32) &&& 31)) ||| ((x2 &&& (255 : Int32)) &&& (63 : Int32))))]))
                  refine Go.st (fun _ k => XS.icmpYes X0.here hx rfl (pc0 := 251) (pc' := 263) rfl (hb hby d2_251) rfl (tlt hc22).1 (by decide) (by decide) k) ?_
                  show Go p e below _ (s₁.setTop (mkF m 263 #[.val (.ref a0), .val (.int p1), .val (.int p2), .val (.int (x0 &&& (255 : Int32))), .val (.int (3 : Int32)), .val (.int ((((((x0 &&& (255 : Int32)) &&& (15 : Int32)) <<< ((6 : Int32) &&& 31)) ||| ((x1 &&& (255 : Int32)) &&& (63 : Int32))) <<< ((6 : Int32) &&& 31)) ||| ((x2 &&& (255 : Int32)) &&& (63 : Int32)))), .val (.int (2048 : Int32)), .val (.int (x2 &&& (255 : Int32)))] []))
                  refine Go.st (fun _ k => XS.iload X0.here hx rfl (hb hby d2_263) rfl k) ?_
                  show Go p e below _ (s₁.setTop (mkF m 265 #[.val (.ref a0), .val (.int p1), .val (.int p2), .val (.int (x0 &&& (255 : Int32))), .val (.int (3 : Int32)), .val (.int ((((((x0 &&& (255 : Int32)) &&& (15 : Int32)) <<< ((6 : Int32) &&& 31)) ||| ((x1 &&& (255 : Int32)) &&& (63 : Int32))) <<< ((6 : Int32) &&& 31)) ||| ((x2 &&& (255 : Int32)) &&& (63 : Int32)))), .val (.int (2048 : Int32)), .val (.int (x2 &&& (255 : Int32)))] [(.int ((((((x0 &&& (255 : Int32)) &&& (15 : Int32)) <<< ((6 : Int32) &&& 31)) ||| ((x1 &&& (255 : Int32)) &&& (63 : Int32))) <<< ((6 : Int32) &&& 31)) ||| ((x2 &&& (255 : Int32)) &&& (63 : Int32))))]))
                  refine Go.st (fun _ k => X0.ldcInt hx hown (mvT hZ (hw _ (List.mem_of_getElem? (i := 18) rfl))) (g := (mkF m 265 #[.val (.ref a0), .val (.int p1), .val (.int p2), .val (.int (x0 &&& (255 : Int32))), .val (.int (3 : Int32)), .val (.int ((((((x0 &&& (255 : Int32)) &&& (15 : Int32)) <<< ((6 : Int32) &&& 31)) ||| ((x1 &&& (255 : Int32)) &&& (63 : Int32))) <<< ((6 : Int32) &&& 31)) ||| ((x2 &&& (255 : Int32)) &&& (63 : Int32)))), .val (.int (2048 : Int32)), .val (.int (x2 &&& (255 : Int32)))] [(.int ((((((x0 &&& (255 : Int32)) &&& (15 : Int32)) <<< ((6 : Int32) &&& 31)) ||| ((x1 &&& (255 : Int32)) &&& (63 : Int32))) <<< ((6 : Int32) &&& 31)) ||| ((x2 &&& (255 : Int32)) &&& (63 : Int32))))])) rfl (hb hby d2_265) _ k) ?_
                  show Go p e below _ (s₁.setTop (mkF m 267 #[.val (.ref a0), .val (.int p1), .val (.int p2), .val (.int (x0 &&& (255 : Int32))), .val (.int (3 : Int32)), .val (.int ((((((x0 &&& (255 : Int32)) &&& (15 : Int32)) <<< ((6 : Int32) &&& 31)) ||| ((x1 &&& (255 : Int32)) &&& (63 : Int32))) <<< ((6 : Int32) &&& 31)) ||| ((x2 &&& (255 : Int32)) &&& (63 : Int32)))), .val (.int (2048 : Int32)), .val (.int (x2 &&& (255 : Int32)))] [(.int (1114111 : Int32)), (.int ((((((x0 &&& (255 : Int32)) &&& (15 : Int32)) <<< ((6 : Int32) &&& 31)) ||| ((x1 &&& (255 : Int32)) &&& (63 : Int32))) <<< ((6 : Int32) &&& 31)) ||| ((x2 &&& (255 : Int32)) &&& (63 : Int32))))]))
                  by_cases hc23 : (1114111 : Int32) < ((((((x0 &&& (255 : Int32)) &&& (15 : Int32)) <<< ((6 : Int32) &&& 31)) ||| ((x1 &&& (255 : Int32)) &&& (63 : Int32))) <<< ((6 : Int32) &&& 31)) ||| ((x2 &&& (255 : Int32)) &&& (63 : Int32)))
                  · show Go p e below _ (s₁.setTop (mkF m 267 #[.val (.ref a0), .val (.int p1), .val (.int p2), .val (.int (x0 &&& (255 : Int32))), .val (.int (3 : Int32)), .val (.int ((((((x0 &&& (255 : Int32)) &&& (15 : Int32)) <<< ((6 : Int32) &&& 31)) ||| ((x1 &&& (255 : Int32)) &&& (63 : Int32))) <<< ((6 : Int32) &&& 31)) ||| ((x2 &&& (255 : Int32)) &&& (63 : Int32)))), .val (.int (2048 : Int32)), .val (.int (x2 &&& (255 : Int32)))] [(.int (1114111 : Int32)), (.int ((((((x0 &&& (255 : Int32)) &&& (15 : Int32)) <<< ((6 : Int32) &&& 31)) ||| ((x1 &&& (255 : Int32)) &&& (63 : Int32))) <<< ((6 : Int32) &&& 31)) ||| ((x2 &&& (255 : Int32)) &&& (63 : Int32))))]))
                    refine Go.st (fun _ k => XS.icmpNo X0.here hx rfl (hb hby d2_267) rfl (tlt hc23).2.2.2 k) ?_
                    show Go p e below _ (s₁.setTop (mkF m 270 #[.val (.ref a0), .val (.int p1), .val (.int p2), .val (.int (x0 &&& (255 : Int32))), .val (.int (3 : Int32)), .val (.int ((((((x0 &&& (255 : Int32)) &&& (15 : Int32)) <<< ((6 : Int32) &&& 31)) ||| ((x1 &&& (255 : Int32)) &&& (63 : Int32))) <<< ((6 : Int32) &&& 31)) ||| ((x2 &&& (255 : Int32)) &&& (63 : Int32)))), .val (.int (2048 : Int32)), .val (.int (x2 &&& (255 : Int32)))] []))
                    refine Go.st (fun _ k => XS.iconst X0.here hx rfl (hb hby d2_270) k) ?_
                    obtain ⟨fs, hr, hrun, hended, hW, hsame⟩ := X0.leave (v := some (.int (0 : Int32))) (fun h => by rw [Bd.returns] at h; cases h)
                    refine ⟨_, _, retI X0 hx Bd.returns (hb hby d2_271) hr, hrun, hended, _, _, rfl, ?_, ⟨_, rfl⟩, hW, hsame.mono (by decide) (by decide)⟩
                    show Q_rmCL Z x0 x1 x2 x3 a0 p1 p2 kk z vs h0 n0 _ s₁.heap _
                    rw [e0]
                    refine ⟨?_, N0, rfl⟩
                    unfold fCL
                    rw [if_neg hc2, if_neg hc3, if_pos hc13, if_neg hc14, if_pos hc17, if_pos hc20, if_neg hc21, if_pos hc22, if_pos hc23]
                  · show Go p e below _ (s₁.setTop (mkF m 267 #[.val (.ref a0), .val (.int p1), .val (.int p2), .val (.int (x0 &&& (255 : Int32))), .val (.int (3 : Int32)), .val (.int ((((((x0 &&& (255 : Int32)) &&& (15 : Int32)) <<< ((6 : Int32) &&& 31)) ||| ((x1 &&& (255 : Int32)) &&& (63 : Int32))) <<< ((6 : Int32) &&& 31)) ||| ((x2 &&& (255 : Int32)) &&& (63 : Int32)))), .val (.int (2048 : Int32)), .val (.int (x2 &&& (255 : Int32)))] [(.int (1114111 : Int32)), (.int ((((((x0 &&& (255 : Int32)) &&& (15 : Int32)) <<< ((6 : Int32) &&& 31)) ||| ((x1 &&& (255 : Int32)) &&& (63 : Int32))) <<< ((6 : Int32) &&& 31)) ||| ((x2 &&& (255 : Int32)) &&& (63 : Int32))))]))
                    refine Go.st (fun _ k => XS.icmpYes X0.here hx rfl (pc0 := 267) (pc' := 272) rfl (hb hby d2_267) rfl (flt hc23).2.2.2 (by decide) (by decide) k) ?_
                    show Go p e below _ (s₁.setTop (mkF m 272 #[.val (.ref a0), .val (.int p1), .val (.int p2), .val (.int (x0 &&& (255 : Int32))), .val (.int (3 : Int32)), .val (.int ((((((x0 &&& (255 : Int32)) &&& (15 : Int32)) <<< ((6 : Int32) &&& 31)) ||| ((x1 &&& (255 : Int32)) &&& (63 : Int32))) <<< ((6 : Int32) &&& 31)) ||| ((x2 &&& (255 : Int32)) &&& (63 : Int32)))), .val (.int (2048 : Int32)), .val (.int (x2 &&& (255 : Int32)))] []))
                    refine Go.st (fun _ k => XS.iload X0.here hx rfl (hb hby d2_272) rfl k) ?_
                    obtain ⟨fs, hr, hrun, hended, hW, hsame⟩ := X0.leave (v := some (.int (3 : Int32))) (fun h => by rw [Bd.returns] at h; cases h)
                    refine ⟨_, _, retI X0 hx Bd.returns (hb hby d2_274) hr, hrun, hended, _, _, rfl, ?_, ⟨_, rfl⟩, hW, hsame.mono (by decide) (by decide)⟩
                    show Q_rmCL Z x0 x1 x2 x3 a0 p1 p2 kk z vs h0 n0 _ s₁.heap _
                    rw [e0]
                    refine ⟨?_, N0, rfl⟩
                    unfold fCL
                    rw [if_neg hc2, if_neg hc3, if_pos hc13, if_neg hc14, if_pos hc17, if_pos hc20, if_neg hc21, if_pos hc22, if_neg hc23]
                · show Go p e below _ (s₁.setTop (mkF m 251 #[.val (.ref a0), .val (.int p1), .val (.int p2), .val (.int (x0 &&& (255 : Int32))), .val (.int (3 : Int32)), .val (.int ((((((x0 &&& (255 : Int32)) &&& (15 : Int32)) <<< ((6 : Int32) &&& 31)) ||| ((x1 &&& (255 : Int32)) &&& (63 : Int32))) <<< ((6 : Int32) &&& 31)) ||| ((x2 &&& (255 : Int32)) &&& (63 : Int32)))), .val (.int (2048 : Int32)), .val (.int (x2 &&& (255 : Int32)))] [(.int (55296 : Int32)), (.int ((((((x0 &&& (255 : Int32)) &&& (15 : Int32)) <<< ((6 : Int32) &&& 31)) ||| ((x1 &&& (255 : Int32)) &&& (63 : Int32))) <<< ((6 : Int32) &&& 31)) ||| ((x2 &&& (255 : Int32)) &&& (63 : Int32))))]))
                  refine Go.st (fun _ k => XS.icmpNo X0.here hx rfl (hb hby d2_251) rfl (flt hc22).1 k) ?_
                  show Go p e below _ (s₁.setTop (mkF m 254 #[.val (.ref a0), .val (.int p1), .val (.int p2), .val (.int (x0 &&& (255 : Int32))), .val (.int (3 : Int32)), .val (.int ((((((x0 &&& (255 : Int32)) &&& (15 : Int32)) <<< ((6 : Int32) &&& 31)) ||| ((x1 &&& (255 : Int32)) &&& (63 : Int32))) <<< ((6 : Int32) &&& 31)) ||| ((x2 &&& (255 : Int32)) &&& (63 : Int32)))), .val (.int (2048 : Int32)), .val (.int (x2 &&& (255 : Int32)))] []))
                  refine Go.st (fun _ k => XS.iload X0.here hx rfl (hb hby d2_254) rfl k) ?_
                  show Go p e below _ (s₁.setTop (mkF m 256 #[.val (.ref a0), .val (.int p1), .val (.int p2), .val (.int (x0 &&& (255 : Int32))), .val (.int (3 : Int32)), .val (.int ((((((x0 &&& (255 : Int32)) &&& (15 : Int32)) <<< ((6 : Int32) &&& 31)) ||| ((x1 &&& (255 : Int32)) &&& (63 : Int32))) <<< ((6 : Int32) &&& 31)) ||| ((x2 &&& (255 : Int32)) &&& (63 : Int32)))), .val (.int (2048 : Int32)), .val (.int (x2 &&& (255 : Int32)))] [(.int ((((((x0 &&& (255 : Int32)) &&& (15 : Int32)) <<< ((6 : Int32) &&& 31)) ||| ((x1 &&& (255 : Int32)) &&& (63 : Int32))) <<< ((6 : Int32) &&& 31)) ||| ((x2 &&& (255 : Int32)) &&& (63 : Int32))))]))
                  refine Go.st (fun _ k => X0.ldcInt hx hown (mvT hZ (hw _ (List.mem_of_getElem? (i := 19) rfl))) (g := (mkF m 256 #[.val (.ref a0), .val (.int p1), .val (.int p2), .val (.int (x0 &&& (255 : Int32))), .val (.int (3 : Int32)), .val (.int ((((((x0 &&& (255 : Int32)) &&& (15 : Int32)) <<< ((6 : Int32) &&& 31)) ||| ((x1 &&& (255 : Int32)) &&& (63 : Int32))) <<< ((6 : Int32) &&& 31)) ||| ((x2 &&& (255 : Int32)) &&& (63 : Int32)))), .val (.int (2048 : Int32)), .val (.int (x2 &&& (255 : Int32)))] [(.int ((((((x0 &&& (255 : Int32)) &&& (15 : Int32)) <<< ((6 : Int32) &&& 31)) ||| ((x1 &&& (255 : Int32)) &&& (63 : Int32))) <<< ((6 : Int32) &&& 31)) ||| ((x2 &&& (255 : Int32)) &&& (63 : Int32))))])) rfl (hb hby d2_256) _ k) ?_
                  show Go p e below _ (s₁.setTop (mkF m 258 #[.val (.ref a0), .val (.int p1), .val (.int p2), .val (.int (x0 &&& (255 : Int32))), .val (.int (3 : Int32)), .val (.int ((((((x0 &&& (255 : Int32)) &&& (15 : Int32)) <<< ((6 : Int32) &&& 31)) ||| ((x1 &&& (255 : Int32)) &&& (63 : Int32))) <<< ((6 : Int32) &&& 31)) ||| ((x2 &&& (255 : Int32)) &&& (63 : Int32)))), .val (.int (2048 : Int32)), .val (.int (x2 &&& (255 : Int32)))] [(.int (57343 : Int32)), (.int ((((((x0 &&& (255 : Int32)) &&& (15 : Int32)) <<< ((6 : Int32) &&& 31)) ||| ((x1 &&& (255 : Int32)) &&& (63 : Int32))) <<< ((6 : Int32) &&& 31)) ||| ((x2 &&& (255 : Int32)) &&& (63 : Int32))))]))
                  by_cases hc24 : (57343 : Int32) < ((((((x0 &&& (255 : Int32)) &&& (15 : Int32)) <<< ((6 : Int32) &&& 31)) ||| ((x1 &&& (255 : Int32)) &&& (63 : Int32))) <<< ((6 : Int32) &&& 31)) ||| ((x2 &&& (255 : Int32)) &&& (63 : Int32)))
                  · show Go p e below _ (s₁.setTop (mkF m 258 #[.val (.ref a0), .val (.int p1), .val (.int p2), .val (.int (x0 &&& (255 : Int32))), .val (.int (3 : Int32)), .val (.int ((((((x0 &&& (255 : Int32)) &&& (15 : Int32)) <<< ((6 : Int32) &&& 31)) ||| ((x1 &&& (255 : Int32)) &&& (63 : Int32))) <<< ((6 : Int32) &&& 31)) ||| ((x2 &&& (255 : Int32)) &&& (63 : Int32)))), .val (.int (2048 : Int32)), .val (.int (x2 &&& (255 : Int32)))] [(.int (57343 : Int32)), (.int ((((((x0 &&& (255 : Int32)) &&& (15 : Int32)) <<< ((6 : Int32) &&& 31)) ||| ((x1 &&& (255 : Int32)) &&& (63 : Int32))) <<< ((6 : Int32) &&& 31)) ||| ((x2 &&& (255 : Int32)) &&& (63 : Int32))))]))
                    refine Go.st (fun _ k => XS.icmpYes X0.here hx rfl (pc0 := 258) (pc' := 263) rfl (hb hby d2_258) rfl (tlt hc24).2.2.1 (by decide) (by decide) k) ?_
                    show Go p e below _ (s₁.setTop (mkF m 263 #[.val (.ref a0), .val (.int p1), .val (.int p2), .val (.int (x0 &&& (255 : Int32))), .val (.int (3 : Int32)), .val (.int ((((((x0 &&& (255 : Int32)) &&& (15 : Int32)) <<< ((6 : Int32) &&& 31)) ||| ((x1 &&& (255 : Int32)) &&& (63 : Int32))) <<< ((6 : Int32) &&& 31)) ||| ((x2 &&& (255 : Int32)) &&& (63 : Int32)))), .val (.int (2048 : Int32)), .val (.int (x2 &&& (255 : Int32)))] []))
                    refine Go.st (fun _ k => XS.iload X0.here hx rfl (hb hby d2_263) rfl k) ?_
                    show Go p e below _ (s₁.setTop (mkF m 265 #[.val (.ref a0), .val (.int p1), .val (.int p2), .val (.int (x0 &&& (255 : Int32))), .val (.int (3 : Int32)), .val (.int ((((((x0 &&& (255 : Int32)) &&& (15 : Int32)) <<< ((6 : Int32) &&& 31)) ||| ((x1 &&& (255 : Int32)) &&& (63 : Int32))) <<< ((6 : Int32) &&& 31)) ||| ((x2 &&& (255 : Int32)) &&& (63 : Int32)))), .val (.int (2048 : Int32)), .val (.int (x2 &&& (255 : Int32)))] [(.int ((((((x0 &&& (255 : Int32)) &&& (15 : Int32)) <<< ((6 : Int32) &&& 31)) ||| ((x1 &&& (255 : Int32)) &&& (63 : Int32))) <<< ((6 : Int32) &&& 31)) ||| ((x2 &&& (255 : Int32)) &&& (63 : Int32))))]))
                    refine Go.st (fun _ k => X0.ldcInt hx hown (mvT hZ (hw _ (List.mem_of_getElem? (i := 18) rfl))) (g := (mkF m 265 #[.val (.ref a0), .val (.int p1), .val (.int p2), .val (.int (x0 &&& (255 : Int32))), .val (.int (3 : Int32)), .val (.int ((((((x0 &&& (255 : Int32)) &&& (15 : Int32)) <<< ((6 : Int32) &&& 31)) ||| ((x1 &&& (255 : Int32)) &&& (63 : Int32))) <<< ((6 : Int32) &&& 31)) ||| ((x2 &&& (255 : Int32)) &&& (63 : Int32)))), .val (.int (2048 : Int32)), .val (.int (x2 &&& (255 : Int32)))] [(.int ((((((x0 &&& (255 : Int32)) &&& (15 : Int32)) <<< ((6 : Int32) &&& 31)) ||| ((x1 &&& (255 : Int32)) &&& (63 : Int32))) <<< ((6 : Int32) &&& 31)) ||| ((x2 &&& (255 : Int32)) &&& (63 : Int32))))])) rfl (hb hby d2_265) _ k) ?_
                    show Go p e below _ (s₁.setTop (mkF m 267 #[.val (.ref a0), .val (.int p1), .val (.int p2), .val (.int (x0 &&& (255 : Int32))), .val (.int (3 : Int32)), .val (.int ((((((x0 &&& (255 : Int32)) &&& (15 : Int32)) <<< ((6 : Int32) &&& 31)) ||| ((x1 &&& (255 : Int32)) &&& (63 : Int32))) <<< ((6 : Int32) &&& 31)) ||| ((x2 &&& (255 : Int32)) &&& (63 : Int32)))), .val (.int (2048 : Int32)), .val (.int (x2 &&& (255 : Int32)))] [(.int (1114111 : Int32)), (.int ((((((x0 &&& (255 : Int32)) &&& (15 : Int32)) <<< ((6 : Int32) &&& 31)) ||| ((x1 &&& (255 : Int32)) &&& (63 : Int32))) <<< ((6 : Int32) &&& 31)) ||| ((x2 &&& (255 : Int32)) &&& (63 : Int32))))]))
                    by_cases hc25 : (1114111 : Int32) < ((((((x0 &&& (255 : Int32)) &&& (15 : Int32)) <<< ((6 : Int32) &&& 31)) ||| ((x1 &&& (255 : Int32)) &&& (63 : Int32))) <<< ((6 : Int32) &&& 31)) ||| ((x2 &&& (255 : Int32)) &&& (63 : Int32)))
                    · show Go p e below _ (s₁.setTop (mkF m 267 #[.val (.ref a0), .val (.int p1), .val (.int p2), .val (.int (x0 &&& (255 : Int32))), .val (.int (3 : Int32)), .val (.int ((((((x0 &&& (255 : Int32)) &&& (15 : Int32)) <<< ((6 : Int32) &&& 31)) ||| ((x1 &&& (255 : Int32)) &&& (63 : Int32))) <<< ((6 : Int32) &&& 31)) ||| ((x2 &&& (255 : Int32)) &&& (63 : Int32)))), .val (.int (2048 : Int32)), .val (.int (x2 &&& (255 : Int32)))] [(.int (1114111 : Int32)), (.int ((((((x0 &&& (255 : Int32)) &&& (15 : Int32)) <<< ((6 : Int32) &&& 31)) ||| ((x1 &&& (255 : Int32)) &&& (63 : Int32))) <<< ((6 : Int32) &&& 31)) ||| ((x2 &&& (255 : Int32)) &&& (63 : Int32))))]))
                      refine Go.st (fun _ k => XS.icmpNo X0.here hx rfl (hb hby d2_267) rfl (tlt hc25).2.2.2 k) ?_
                      show Go p e below _ (s₁.setTop (mkF m 270 #[.val (.ref a0), .val (.int p1), .val (.int p2), .val (.int (x0 &&& (255 : Int32))), .val (.int (3 : Int32)), .val (.int ((((((x0 &&& (255 : Int32)) &&& (15 : Int32)) <<< ((6 : Int32) &&& 31)) ||| ((x1 &&& (255 : Int32)) &&& (63 : Int32))) <<< ((6 : Int32) &&& 31)) ||| ((x2 &&& (255 : Int32)) &&& (63 : Int32)))), .val (.int (2048 : Int32)), .val (.int (x2 &&& (255 : Int32)))] []))
                      refine Go.st (fun _ k => XS.iconst X0.here hx rfl (hb hby d2_270) k) ?_
                      obtain ⟨fs, hr, hrun, hended, hW, hsame⟩ := X0.leave (v := some (.int (0 : Int32))) (fun h => by rw [Bd.returns] at h; cases h)
                      refine ⟨_, _, retI X0 hx Bd.returns (hb hby d2_271) hr, hrun, hended, _, _, rfl, ?_, ⟨_, rfl⟩, hW, hsame.mono (by decide) (by decide)⟩
                      show Q_rmCL Z x0 x1 x2 x3 a0 p1 p2 kk z vs h0 n0 _ s₁.heap _
                      rw [e0]
                      refine ⟨?_, N0, rfl⟩
                      unfold fCL
                      rw [if_neg hc2, if_neg hc3, if_pos hc13, if_neg hc14, if_pos hc17, if_pos hc20, if_neg hc21, if_neg hc22, if_pos hc24, if_pos hc25]
                    · show Go p e below _ (s₁.setTop (mkF m 267 #[.val (.ref a0), .val (.int p1), .val (.int p2), .val (.int (x0 &&& (255 : Int32))), .val (.int (3 : Int32)), .val (.int ((((((x0 &&& (255 : Int32)) &&& (15 : Int32)) <<< ((6 : Int32) &&& 31)) ||| ((x1 &&& (255 : Int32)) &&& (63 : Int32))) <<< ((6 : Int32) &&& 31)) ||| ((x2 &&& (255 : Int32)) &&& (63 : Int32)))), .val (.int (2048 : Int32)), .val (.int (x2 &&& (255 : Int32)))] [(.int (1114111 : Int32)), (.int ((((((x0 &&& (255 : Int32)) &&& (15 : Int32)) <<< ((6 : Int32) &&& 31)) ||| ((x1 &&& (255 : Int32)) &&& (63 : Int32))) <<< ((6 : Int32) &&& 31)) ||| ((x2 &&& (255 : Int32)) &&& (63 : Int32))))]))
                      refine Go.st (fun _ k => XS.icmpYes X0.here hx rfl (pc0 := 267) (pc' := 272) rfl (hb hby d2_267) rfl (flt hc25).2.2.2 (by decide) (by decide) k) ?_
                      show Go p e below _ (s₁.setTop (mkF m 272 #[.val (.ref a0), .val (.int p1), .val (.int p2), .val (.int (x0 &&& (255 : Int32))), .val (.int (3 : Int32)), .val (.int ((((((x0 &&& (255 : Int32)) &&& (15 : Int32)) <<< ((6 : Int32) &&& 31)) ||| ((x1 &&& (255 : Int32)) &&& (63 : Int32))) <<< ((6 : Int32) &&& 31)) ||| ((x2 &&& (255 : Int32)) &&& (63 : Int32)))), .val (.int (2048 : Int32)), .val (.int (x2 &&& (255 : Int32)))] []))
                      refine Go.st (fun _ k => XS.iload X0.here hx rfl (hb hby d2_272) rfl k) ?_
                      obtain ⟨fs, hr, hrun, hended, hW, hsame⟩ := X0.leave (v := some (.int (3 : Int32))) (fun h => by rw [Bd.returns] at h; cases h)
                      refine ⟨_, _, retI X0 hx Bd.returns (hb hby d2_274) hr, hrun, hended, _, _, rfl, ?_, ⟨_, rfl⟩, hW, hsame.mono (by decide) (by decide)⟩
                      show Q_rmCL Z x0 x1 x2 x3 a0 p1 p2 kk z vs h0 n0 _ s₁.heap _
                      rw [e0]
                      refine ⟨?_, N0, rfl⟩
                      unfold fCL
                      rw [if_neg hc2, if_neg hc3, if_pos hc13, if_neg hc14, if_pos hc17, if_pos hc20, if_neg hc21, if_neg hc22, if_pos hc24, if_neg hc25]
                  · show Go p e below _ (s₁.setTop (mkF m 258 #[.val (.ref a0), .val (.int p1), .val (.int p2), .val (.int (x0 &&& (255 : Int32))), .val (.int (3 : Int32)), .val (.int ((((((x0 &&& (255 : Int32)) &&& (15 : Int32)) <<< ((6 : Int32) &&& 31)) ||| ((x1 &&& (255 : Int32)) &&& (63 : Int32))) <<< ((6 : Int32) &&& 31)) ||| ((x2 &&& (255 : Int32)) &&& (63 : Int32)))), .val (.int (2048 : Int32)), .val (.int (x2 &&& (255 : Int32)))] [(.int (57343 : Int32)), (.int ((((((x0 &&& (255 : Int32)) &&& (15 : Int32)) <<< ((6 : Int32) &&& 31)) ||| ((x1 &&& (255 : Int32)) &&& (63 : Int32))) <<< ((6 : Int32) &&& 31)) ||| ((x2 &&& (255 : Int32)) &&& (63 : Int32))))]))
                    refine Go.st (fun _ k => XS.icmpNo X0.here hx rfl (hb hby d2_258) rfl (flt hc24).2.2.1 k) ?_
                    show Go p e below _ (s₁.setTop (mkF m 261 #[.val (.ref a0), .val (.int p1), .val (.int p2), .val (.int (x0 &&& (255 : Int32))), .val (.int (3 : Int32)), .val (.int ((((((x0 &&& (255 : Int32)) &&& (15 : Int32)) <<< ((6 : Int32) &&& 31)) ||| ((x1 &&& (255 : Int32)) &&& (63 : Int32))) <<< ((6 : Int32) &&& 31)) ||| ((x2 &&& (255 : Int32)) &&& (63 : Int32)))), .val (.int (2048 : Int32)), .val (.int (x2 &&& (255 : Int32)))] []))
                    refine Go.st (fun _ k => XS.iconst X0.here hx rfl (hb hby d2_261) k) ?_
                    obtain ⟨fs, hr, hrun, hended, hW, hsame⟩ := X0.leave (v := some (.int (0 : Int32))) (fun h => by rw [Bd.returns] at h; cases h)
                    refine ⟨_, _, retI X0 hx Bd.returns (hb hby d2_262) hr, hrun, hended, _, _, rfl, ?_, ⟨_, rfl⟩, hW, hsame.mono (by decide) (by decide)⟩
                    show Q_rmCL Z x0 x1 x2 x3 a0 p1 p2 kk z vs h0 n0 _ s₁.heap _
                    rw [e0]
                    refine ⟨?_, N0, rfl⟩
                    unfold fCL
                    rw [if_neg hc2, if_neg hc3, if_pos hc13, if_neg hc14, if_pos hc17, if_pos hc20, if_neg hc21, if_neg hc22, if_neg hc24]
            · show Go p e below _ (s₁.setTop (mkF m 176 #[.val (.ref a0), .val (.int p1), .val (.int p2), .val (.int (x0 &&& (255 : Int32))), .val (.int (3 : Int32)), .val (.int ((((x0 &&& (255 : Int32)) &&& (15 : Int32)) <<< ((6 : Int32) &&& 31)) ||| ((x1 &&& (255 : Int32)) &&& (63 : Int32)))), .val (.int (2048 : Int32)), .val (.int (x2 &&& (255 : Int32)))] [(.int (128 : Int32)), (.int ((x2 &&& (255 : Int32)) &&& (192 : Int32)))]))
              refine Go.st (fun _ k => XS.icmpNo X0.here hx rfl (hb hby d2_176) rfl (feq hc20).1 k) ?_
              show Go p e below _ (s₁.setTop (mkF m 179 #[.val (.ref a0), .val (.int p1), .val (.int p2), .val (.int (x0 &&& (255 : Int32))), .val (.int (3 : Int32)), .val (.int ((((x0 &&& (255 : Int32)) &&& (15 : Int32)) <<< ((6 : Int32) &&& 31)) ||| ((x1 &&& (255 : Int32)) &&& (63 : Int32)))), .val (.int (2048 : Int32)), .val (.int (x2 &&& (255 : Int32)))] []))
              refine Go.st (fun _ k => XS.iconst X0.here hx rfl (hb hby d2_179) k) ?_
              obtain ⟨fs, hr, hrun, hended, hW, hsame⟩ := X0.leave (v := some (.int (0 : Int32))) (fun h => by rw [Bd.returns] at h; cases h)
              refine ⟨_, _, retI X0 hx Bd.returns (hb hby d2_180) hr, hrun, hended, _, _, rfl, ?_, ⟨_, rfl⟩, hW, hsame.mono (by decide) (by decide)⟩
              show Q_rmCL Z x0 x1 x2 x3 a0 p1 p2 kk z vs h0 n0 _ s₁.heap _
              rw [e0]
              refine ⟨?_, N0, rfl⟩
              unfold fCL
              rw [if_neg hc2, if_neg hc3, if_pos hc13, if_neg hc14, if_pos hc17, if_neg hc20]
          · show Go p e below _ (s₁.setTop (mkF m 132 #[.val (.ref a0), .val (.int p1), .val (.int p2), .val (.int (x0 &&& (255 : Int32))), .val (.int (3 : Int32)), .val (.int ((x0 &&& (255 : Int32)) &&& (15 : Int32))), .val (.int (2048 : Int32)), .val (.int (x1 &&& (255 : Int32)))] [(.int (128 : Int32)), (.int ((x1 &&& (255 : Int32)) &&& (192 : Int32)))]))
            refine Go.st (fun _ k => XS.icmpNo X0.here hx rfl (hb hby d2_132) rfl (feq hc17).1 k) ?_
            show Go p e below _ (s₁.setTop (mkF m 135 #[.val (.ref a0), .val (.int p1), .val (.int p2), .val (.int (x0 &&& (255 : Int32))), .val (.int (3 : Int32)), .val (.int ((x0 &&& (255 : Int32)) &&& (15 : Int32))), .val (.int (2048 : Int32)), .val (.int (x1 &&& (255 : Int32)))] []))
            refine Go.st (fun _ k => XS.iconst X0.here hx rfl (hb hby d2_135) k) ?_
            obtain ⟨fs, hr, hrun, hended, hW, hsame⟩ := X0.leave (v := some (.int (0 : Int32))) (fun h => by rw [Bd.returns] at h; cases h)
            refine ⟨_, _, retI X0 hx Bd.returns (hb hby d2_136) hr, hrun, hended, _, _, rfl, ?_, ⟨_, rfl⟩, hW, hsame.mono (by decide) (by decide)⟩
            show Q_rmCL Z x0 x1 x2 x3 a0 p1 p2 kk z vs h0 n0 _ s₁.heap _
            rw [e0]
            refine ⟨?_, N0, rfl⟩
            unfold fCL
            rw [if_neg hc2, if_neg hc3, if_pos hc13, if_neg hc14, if_neg hc17]
      · show Go p e below _ (s₁.setTop (mkF m 53 #[.val (.ref a0), .val (.int p1), .val (.int p2), .val (.int (x0 &&& (255 : Int32))), .unset, .unset, .unset, .unset] [(.int (224 : Int32)), (.int ((x0 &&& (255 : Int32)) &&& (240 : Int32)))]))
        refine Go.st (fun _ k => XS.icmpYes X0.here hx rfl (pc0 := 53) (pc' := 73) rfl (hb hby d2_53) rfl (feq hc13).2 (by decide) (by decide) k) ?_
        show Go p e below _ (s₁.setTop (mkF m 73 #[.val (.ref a0), .val (.int p1), .val (.int p2), .val (.int (x0 &&& (255 : Int32))), .unset, .unset, .unset, .unset] []))
        refine Go.st (fun _ k => XS.iloadN X0.here hx rfl (hb hby d2_73) rfl k) ?_
        refine Go.st (fun _ k => XS.sipush X0.here hx rfl (hb hby d2_74) k) ?_
        show Go p e below _ (s₁.setTop (mkF m 77 #[.val (.ref a0), .val (.int p1), .val (.int p2), .val (.int (x0 &&& (255 : Int32))), .unset, .unset, .unset, .unset] [(.int (248 : Int32)), (.int (x0 &&& (255 : Int32)))]))
        refine Go.st (fun _ k => XS.iand X0.here hx rfl (hb hby d2_77) rfl k) ?_
        refine Go.st (fun _ k => XS.sipush X0.here hx rfl (hb hby d2_78) k) ?_
        show Go p e below _ (s₁.setTop (mkF m 81 #[.val (.ref a0), .val (.int p1), .val (.int p2), .val (.int (x0 &&& (255 : Int32))), .unset, .unset, .unset, .unset] [(.int (240 : Int32)), (.int ((x0 &&& (255 : Int32)) &&& (248 : Int32)))]))
        by_cases hc26 : ((x0 &&& (255 : Int32)) &&& (248 : Int32)) = (240 : Int32)
        · show Go p e below _ (s₁.setTop (mkF m 81 #[.val (.ref a0), .val (.int p1), .val (.int p2), .val (.int (x0 &&& (255 : Int32))), .unset, .unset, .unset, .unset] [(.int (240 : Int32)), (.int ((x0 &&& (255 : Int32)) &&& (248 : Int32)))]))
          refine Go.st (fun _ k => XS.icmpNo X0.here hx rfl (hb hby d2_81) rfl (teq hc26).2 k) ?_
          show Go p e below _ (s₁.setTop (mkF m 84 #[.val (.ref a0), .val (.int p1), .val (.int p2), .val (.int (x0 &&& (255 : Int32))), .unset, .unset, .unset, .unset] []))
          refine Go.st (fun _ k => XS.iconst X0.here hx rfl (hb hby d2_84) k) ?_
          refine Go.st (fun _ k => XS.istore X0.here hx rfl (hb hby d2_85) rfl (l' := #[.val (.ref a0), .val (.int p1), .val (.int p2), .val (.int (x0 &&& (255 : Int32))), .val (.int (4 : Int32)), .unset, .unset, .unset]) rfl k) ?_
          show Go p e below _ (s₁.setTop (mkF m 87 #[.val (.ref a0), .val (.int p1), .val (.int p2), .val (.int (x0 &&& (255 : Int32))), .val (.int (4 : Int32)), .unset, .unset, .unset] []))
          refine Go.st (fun _ k => XS.iloadN X0.here hx rfl (hb hby d2_87) rfl k) ?_
          refine Go.st (fun _ k => XS.bipush X0.here hx rfl (hb hby d2_88) k) ?_
          show Go p e below _ (s₁.setTop (mkF m 90 #[.val (.ref a0), .val (.int p1), .val (.int p2), .val (.int (x0 &&& (255 : Int32))), .val (.int (4 : Int32)), .unset, .unset, .unset] [(.int (7 : Int32)), (.int (x0 &&& (255 : Int32)))]))
          refine Go.st (fun _ k => XS.iand X0.here hx rfl (hb hby d2_90) rfl k) ?_
          refine Go.st (fun _ k => XS.istore X0.here hx rfl (hb hby d2_91) rfl (l' := #[.val (.ref a0), .val (.int p1), .val (.int p2), .val (.int (x0 &&& (255 : Int32))), .val (.int (4 : Int32)), .val (.int ((x0 &&& (255 : Int32)) &&& (7 : Int32))), .unset, .unset]) rfl k) ?_
          show Go p e below _ (s₁.setTop (mkF m 93 #[.val (.ref a0), .val (.int p1), .val (.int p2), .val (.int (x0 &&& (255 : Int32))), .val (.int (4 : Int32)), .val (.int ((x0 &&& (255 : Int32)) &&& (7 : Int32))), .unset, .unset] []))
          refine Go.st (fun _ k => X0.ldcInt hx hown (mvT hZ (hw _ (List.mem_of_getElem? (i := 16) rfl))) (g := (mkF m 93 #[.val (.ref a0), .val (.int p1), .val (.int p2), .val (.int (x0 &&& (255 : Int32))), .val (.int (4 : Int32)), .val (.int ((x0 &&& (255 : Int32)) &&& (7 : Int32))), .unset, .unset] [])) rfl (hb hby d2_93) _ k) ?_
          show Go p e below _ (s₁.setTop (mkF m 95 #[.val (.ref a0), .val (.int p1), .val (.int p2), .val (.int (x0 &&& (255 : Int32))), .val (.int (4 : Int32)), .val (.int ((x0 &&& (255 : Int32)) &&& (7 : Int32))), .unset, .unset] [(.int (65536 : Int32))]))
          refine Go.st (fun _ k => XS.istore X0.here hx rfl (hb hby d2_95) rfl (l' := #[.val (.ref a0), .val (.int p1), .val (.int p2), .val (.int (x0 &&& (255 : Int32))), .val (.int (4 : Int32)), .val (.int ((x0 &&& (255 : Int32)) &&& (7 : Int32))), .val (.int (65536 : Int32)), .unset]) rfl k) ?_
          show Go p e below _ (s₁.setTop (mkF m 97 #[.val (.ref a0), .val (.int p1), .val (.int p2), .val (.int (x0 &&& (255 : Int32))), .val (.int (4 : Int32)), .val (.int ((x0 &&& (255 : Int32)) &&& (7 : Int32))), .val (.int (65536 : Int32)), .unset] []))
          refine Go.st (fun _ k => XS.goto X0.here hx rfl (pc0 := 97) (pc' := 102) rfl (hb hby d2_97) (by decide) (by decide) k) ?_
          show Go p e below _ (s₁.setTop (mkF m 102 #[.val (.ref a0), .val (.int p1), .val (.int p2), .val (.int (x0 &&& (255 : Int32))), .val (.int (4 : Int32)), .val (.int ((x0 &&& (255 : Int32)) &&& (7 : Int32))), .val (.int (65536 : Int32)), .unset] []))
          refine Go.st (fun _ k => XS.iloadN X0.here hx rfl (hb hby d2_102) rfl k) ?_
          refine Go.st (fun _ k => XS.iload X0.here hx rfl (hb hby d2_103) rfl k) ?_
          show Go p e below _ (s₁.setTop (mkF m 105 #[.val (.ref a0), .val (.int p1), .val (.int p2), .val (.int (x0 &&& (255 : Int32))), .val (.int (4 : Int32)), .val (.int ((x0 &&& (255 : Int32)) &&& (7 : Int32))), .val (.int (65536 : Int32)), .unset] [(.int (4 : Int32)), (.int p2)]))
          refine Go.st (fun _ k => XS.iadd X0.here hx rfl (hb hby d2_105) rfl k) ?_
          refine Go.st (fun _ k => XS.iloadN X0.here hx rfl (hb hby d2_106) rfl k) ?_
          show Go p e below _ (s₁.setTop (mkF m 107 #[.val (.ref a0), .val (.int p1), .val (.int p2), .val (.int (x0 &&& (255 : Int32))), .val (.int (4 : Int32)), .val (.int ((x0 &&& (255 : Int32)) &&& (7 : Int32))), .val (.int (65536 : Int32)), .unset] [(.int p1), (.int (p2 + (4 : Int32)))]))
          by_cases hc27 : p1 < (p2 + (4 : Int32))
          · show Go p e below _ (s₁.setTop (mkF m 107 #[.val (.ref a0), .val (.int p1), .val (.int p2), .val (.int (x0 &&& (255 : Int32))), .val (.int (4 : Int32)), .val (.int ((x0 &&& (255 : Int32)) &&& (7 : Int32))), .val (.int (65536 : Int32)), .unset] [(.int p1), (.int (p2 + (4 : Int32)))]))
            refine Go.st (fun _ k => XS.icmpNo X0.here hx rfl (hb hby d2_107) rfl (tlt hc27).2.2.2 k) ?_
            show Go p e below _ (s₁.setTop (mkF m 110 #[.val (.ref a0), .val (.int p1), .val (.int p2), .val (.int (x0 &&& (255 : Int32))), .val (.int (4 : Int32)), .val (.int ((x0 &&& (255 : Int32)) &&& (7 : Int32))), .val (.int (65536 : Int32)), .unset] []))
            refine Go.st (fun _ k => XS.iconst X0.here hx rfl (hb hby d2_110) k) ?_
            obtain ⟨fs, hr, hrun, hended, hW, hsame⟩ := X0.leave (v := some (.int (0 : Int32))) (fun h => by rw [Bd.returns] at h; cases h)
            refine ⟨_, _, retI X0 hx Bd.returns (hb hby d2_111) hr, hrun, hended, _, _, rfl, ?_, ⟨_, rfl⟩, hW, hsame.mono (by decide) (by decide)⟩
            show Q_rmCL Z x0 x1 x2 x3 a0 p1 p2 kk z vs h0 n0 _ s₁.heap _
            rw [e0]
            refine ⟨?_, N0, rfl⟩
            unfold fCL
            rw [if_neg hc2, if_neg hc3, if_neg hc13, if_pos hc26, if_pos hc27]
          · show Go p e below _ (s₁.setTop (mkF m 107 #[.val (.ref a0), .val (.int p1), .val (.int p2), .val (.int (x0 &&& (255 : Int32))), .val (.int (4 : Int32)), .val (.int ((x0 &&& (255 : Int32)) &&& (7 : Int32))), .val (.int (65536 : Int32)), .unset] [(.int p1), (.int (p2 + (4 : Int32)))]))
            refine Go.st (fun _ k => XS.icmpYes X0.here hx rfl (pc0 := 107) (pc' := 112) rfl (hb hby d2_107) rfl (flt hc27).2.2.2 (by decide) (by decide) k) ?_
            show Go p e below _ (s₁.setTop (mkF m 112 #[.val (.ref a0), .val (.int p1), .val (.int p2), .val (.int (x0 &&& (255 : Int32))), .val (.int (4 : Int32)), .val (.int ((x0 &&& (255 : Int32)) &&& (7 : Int32))), .val (.int (65536 : Int32)), .unset] []))
            refine Go.st (fun _ k => XS.aloadN X0.here hx rfl (hb hby d2_112) rfl rfl k) ?_
            refine Go.st (fun _ k => XS.iloadN X0.here hx rfl (hb hby d2_113) rfl k) ?_
            show Go p e below _ (s₁.setTop (mkF m 114 #[.val (.ref a0), .val (.int p1), .val (.int p2), .val (.int (x0 &&& (255 : Int32))), .val (.int (4 : Int32)), .val (.int ((x0 &&& (255 : Int32)) &&& (7 : Int32))), .val (.int (65536 : Int32)), .unset] [(.int p2), (.ref a0)]))
            refine Go.st (fun _ k => XS.iconst X0.here hx rfl (hb hby d2_114) k) ?_
            refine Go.st (fun _ k => XS.iadd X0.here hx rfl (hb hby d2_115) rfl k) ?_
            show Go p e below _ (s₁.setTop (mkF m 116 #[.val (.ref a0), .val (.int p1), .val (.int p2), .val (.int (x0 &&& (255 : Int32))), .val (.int (4 : Int32)), .val (.int ((x0 &&& (255 : Int32)) &&& (7 : Int32))), .val (.int (65536 : Int32)), .unset] [(.int (p2 + (1 : Int32))), (.ref a0)]))
            have hk28 : p2.toInt + 1 < z.toInt := own_room2 hs0 hs1 hs2 hn hc27 (by decide) (by decide)
            obtain ⟨cl29, Ar29, ck29, Sz29, Nn29, Hs29, Gs29⟩ := id V_kk
            have hin29 : ¬ ((p2 + (1 : Int32)) < 0 ∨ cl29.slots.size ≤ ((p2 + (1 : Int32))).toNatClampNeg) := inb_of Sz29 (own_ink hs0 hs2 (k := (1 : Int32)) (by decide) (by decide) hk28)
            have hat29 : cl29.slots[((p2 + (1 : Int32))).toNatClampNeg]? = some (.int x1) := Hs29.at hin29 (he1 hk28)
            refine Go.st (fun _ k => X0.baloadBytes hx (j := (p2 + (1 : Int32))) (v := (.int x1)) (by rw [e0]; exact Ar29.1) (State.isArrayOf_alike hZ.alike Ar29.2.1) Ar29.2.2 hin29 hat29 (g := (mkF m 116 #[.val (.ref a0), .val (.int p1), .val (.int p2), .val (.int (x0 &&& (255 : Int32))), .val (.int (4 : Int32)), .val (.int ((x0 &&& (255 : Int32)) &&& (7 : Int32))), .val (.int (65536 : Int32)), .unset] [(.int (p2 + (1 : Int32))), (.ref a0)])) rfl rfl (hb hby d2_116) _ k) ?_
            show Go p e below _ (s₁.setTop (mkF m 117 #[.val (.ref a0), .val (.int p1), .val (.int p2), .val (.int (x0 &&& (255 : Int32))), .val (.int (4 : Int32)), .val (.int ((x0 &&& (255 : Int32)) &&& (7 : Int32))), .val (.int (65536 : Int32)), .unset] [(.int x1)]))
            refine Go.st (fun _ k => XS.sipush X0.here hx rfl (hb hby d2_117) k) ?_
            refine Go.st (fun _ k => XS.iand X0.here hx rfl (hb hby d2_120) rfl k) ?_
            show Go p e below _ (s₁.setTop (mkF m 121 #[.val (.ref a0), .val (.int p1), .val (.int p2), .val (.int (x0 &&& (255 : Int32))), .val (.int (4 : Int32)), .val (.int ((x0 &&& (255 : Int32)) &&& (7 : Int32))), .val (.int (65536 : Int32)), .unset] [(.int (x1 &&& (255 : Int32)))]))
            refine Go.st (fun _ k => XS.istore X0.here hx rfl (hb hby d2_121) rfl (l' := #[.val (.ref a0), .val (.int p1), .val (.int p2), .val (.int (x0 &&& (255 : Int32))), .val (.int (4 : Int32)), .val (.int ((x0 &&& (255 : Int32)) &&& (7 : Int32))), .val (.int (65536 : Int32)), .val (.int (x1 &&& (255 : Int32)))]) rfl k) ?_
            show Go p e below _ (s₁.setTop (mkF m 123 #[.val (.ref a0), .val (.int p1), .val (.int p2), .val (.int (x0 &&& (255 : Int32))), .val (.int (4 : Int32)), .val (.int ((x0 &&& (255 : Int32)) &&& (7 : Int32))), .val (.int (65536 : Int32)), .val (.int (x1 &&& (255 : Int32)))] []))
            refine Go.st (fun _ k => XS.iload X0.here hx rfl (hb hby d2_123) rfl k) ?_
            refine Go.st (fun _ k => XS.sipush X0.here hx rfl (hb hby d2_125) k) ?_
            show Go p e below _ (s₁.setTop (mkF m 128 #[.val (.ref a0), .val (.int p1), .val (.int p2), .val (.int (x0 &&& (255 : Int32))), .val (.int (4 : Int32)), .val (.int ((x0 &&& (255 : Int32)) &&& (7 : Int32))), .val (.int (65536 : Int32)), .val (.int (x1 &&& (255 : Int32)))] [(.int (192 : Int32)), (.int (x1 &&& (255 : Int32)))]))
            refine Go.st (fun _ k => XS.iand X0.here hx rfl (hb hby d2_128) rfl k) ?_
            refine Go.st (fun _ k => XS.sipush X0.here hx rfl (hb hby d2_129) k) ?_
            show Go p e below _ (s₁.setTop (mkF m 132 #[.val (.ref a0), .val (.int p1), .val (.int p2), .val (.int (x0 &&& (255 : Int32))), .val (.int (4 : Int32)), .val (.int ((x0 &&& (255 : Int32)) &&& (7 : Int32))), .val (.int (65536 : Int32)), .val (.int (x1 &&& (255 : Int32)))] [(.int (128 : Int32)), (.int ((x1 &&& (255 : Int32)) &&& (192 : Int32)))]))
            by_cases hc30 : ((x1 &&& (255 : Int32)) &&& (192 : Int32)) = (128 : Int32)
            · show Go p e below _ (s₁.setTop (mkF m 132 #[.val (.ref a0), .val (.int p1), .val (.int p2), .val (.int (x0 &&& (255 : Int32))), .val (.int (4 : Int32)), .val (.int ((x0 &&& (255 : Int32)) &&& (7 : Int32))), .val (.int (65536 : Int32)), .val (.int (x1 &&& (255 : Int32)))] [(.int (128 : Int32)), (.int ((x1 &&& (255 : Int32)) &&& (192 : Int32)))]))
              refine Go.st (fun _ k => XS.icmpYes X0.here hx rfl (pc0 := 132) (pc' := 137) rfl (hb hby d2_132) rfl (teq hc30).1 (by decide) (by decide) k) ?_
              show Go p e below _ (s₁.setTop (mkF m 137 #[.val (.ref a0), .val (.int p1), .val (.int p2), .val (.int (x0 &&& (255 : Int32))), .val (.int (4 : Int32)), .val (.int ((x0 &&& (255 : Int32)) &&& (7 : Int32))), .val (.int (65536 : Int32)), .val (.int (x1 &&& (255 : Int32)))] []))
              refine Go.st (fun _ k => XS.iload X0.here hx rfl (hb hby d2_137) rfl k) ?_
              refine Go.st (fun _ k => XS.bipush X0.here hx rfl (hb hby d2_139) k) ?_
              show Go p e below _ (s₁.setTop (mkF m 141 #[.val (.ref a0), .val (.int p1), .val (.int p2), .val (.int (x0 &&& (255 : Int32))), .val (.int (4 : Int32)), .val (.int ((x0 &&& (255 : Int32)) &&& (7 : Int32))), .val (.int (65536 : Int32)), .val (.int (x1 &&& (255 : Int32)))] [(.int (6 : Int32)), (.int ((x0 &&& (255 : Int32)) &&& (7 : Int32)))]))
              refine Go.st (fun _ k => XS.ishl X0.here hx rfl (hb hby d2_141) rfl k) ?_
              show Go p e below _ (s₁.setTop (mkF m 142 #[.val (.ref a0), .val (.int p1), .val (.int p2), .val (.int (x0 &&& (255 : Int32))), .val (.int (4 : Int32)), .val (.int ((x0 &&& (255 : Int32)) &&& (7 : Int32))), .val (.int (65536 : Int32)), .val (.int (x1 &&& (255 : Int32)))] [(.int (((x0 &&& (255 : Int32)) &&& (7 : Int32)) <<< ((6 : Int32) &&& 31)))]))
              refine Go.st (fun _ k => XS.iload X0.here hx rfl (hb hby d2_142) rfl k) ?_
              refine Go.st (fun _ k => XS.bipush X0.here hx rfl (hb hby d2_144) k) ?_
              show Go p e below _ (s₁.setTop (mkF m 146 #[.val (.ref a0), .val (.int p1), .val (.int p2), .val (.int (x0 &&& (255 : Int32))), .val (.int (4 : Int32)), .val (.int ((x0 &&& (255 : Int32)) &&& (7 : Int32))), .val (.int (65536 : Int32)), .val (.int (x1 &&& (255 : Int32)))] [(.int (63 : Int32)), (.int (x1 &&& (255 : Int32))), (.int (((x0 &&& (255 : Int32)) &&& (7 : Int32)) <<< ((6 : Int32) &&& 31)))]))
              refine Go.st (fun _ k => XS.iand X0.here hx rfl (hb hby d2_146) rfl k) ?_
              refine Go.st (fun _ k => XS.ior X0.here hx rfl (hb hby d2_147) rfl k) ?_
              show Go p e below _ (s₁.setTop (mkF m 148 #[.val (.ref a0), .val (.int p1), .val (.int p2), .val (.int (x0 &&& (255 : Int32))), .val (.int (4 : Int32)), .val (.int ((x0 &&& (255 : Int32)) &&& (7 : Int32))), .val (.int (65536 : Int32)), .val (.int (x1 &&& (255 : Int32)))] [(.int ((((x0 &&& (255 : Int32)) &&& (7 : Int32)) <<< ((6 : Int32) &&& 31)) ||| ((x1 &&& (255 : Int32)) &&& (63 : Int32))))]))
              refine Go.st (fun _ k => XS.istore X0.here hx rfl (hb hby d2_148) rfl (l' := #[.val (.ref a0), .val (.int p1), .val (.int p2), .val (.int (x0 &&& (255 : Int32))), .val (.int (4 : Int32)), .val (.int ((((x0 &&& (255 : Int32)) &&& (7 : Int32)) <<< ((6 : Int32) &&& 31)) ||| ((x1 &&& (255 : Int32)) &&& (63 : Int32)))), .val (.int (65536 : Int32)), .val (.int (x1 &&& (255 : Int32)))]) rfl k) ?_
              show Go p e below _ (s₁.setTop (mkF m 150 #[.val (.ref a0), .val (.int p1), .val (.int p2), .val (.int (x0 &&& (255 : Int32))), .val (.int (4 : Int32)), .val (.int ((((x0 &&& (255 : Int32)) &&& (7 : Int32)) <<< ((6 : Int32) &&& 31)) ||| ((x1 &&& (255 : Int32)) &&& (63 : Int32)))), .val (.int (65536 : Int32)), .val (.int (x1 &&& (255 : Int32)))] []))
              refine Go.st (fun _ k => XS.iload X0.here hx rfl (hb hby d2_150) rfl k) ?_
              refine Go.st (fun _ k => XS.iconst X0.here hx rfl (hb hby d2_152) k) ?_
              show Go p e below _ (s₁.setTop (mkF m 153 #[.val (.ref a0), .val (.int p1), .val (.int p2), .val (.int (x0 &&& (255 : Int32))), .val (.int (4 : Int32)), .val (.int ((((x0 &&& (255 : Int32)) &&& (7 : Int32)) <<< ((6 : Int32) &&& 31)) ||| ((x1 &&& (255 : Int32)) &&& (63 : Int32)))), .val (.int (65536 : Int32)), .val (.int (x1 &&& (255 : Int32)))] [(.int (3 : Int32)), (.int (4 : Int32))]))
              refine Go.st (fun _ k => XS.icmpNo X0.here hx rfl (hb hby d2_153) rfl (flt (by decide : ¬ ((4 : Int32) < (3 : Int32)))).1 k) ?_
              show Go p e below _ (s₁.setTop (mkF m 156 #[.val (.ref a0), .val (.int p1), .val (.int p2), .val (.int (x0 &&& (255 : Int32))), .val (.int (4 : Int32)), .val (.int ((((x0 &&& (255 : Int32)) &&& (7 : Int32)) <<< ((6 : Int32) &&& 31)) ||| ((x1 &&& (255 : Int32)) &&& (63 : Int32)))), .val (.int (65536 : Int32)), .val (.int (x1 &&& (255 : Int32)))] []))
              refine Go.st (fun _ k => XS.aloadN X0.here hx rfl (hb hby d2_156) rfl rfl k) ?_
              refine Go.st (fun _ k => XS.iloadN X0.here hx rfl (hb hby d2_157) rfl k) ?_
              show Go p e below _ (s₁.setTop (mkF m 158 #[.val (.ref a0), .val (.int p1), .val (.int p2), .val (.int (x0 &&& (255 : Int32))), .val (.int (4 : Int32)), .val (.int ((((x0 &&& (255 : Int32)) &&& (7 : Int32)) <<< ((6 : Int32) &&& 31)) ||| ((x1 &&& (255 : Int32)) &&& (63 : Int32)))), .val (.int (65536 : Int32)), .val (.int (x1 &&& (255 : Int32)))] [(.int p2), (.ref a0)]))
              refine Go.st (fun _ k => XS.iconst X0.here hx rfl (hb hby d2_158) k) ?_
              refine Go.st (fun _ k => XS.iadd X0.here hx rfl (hb hby d2_159) rfl k) ?_
              show Go p e below _ (s₁.setTop (mkF m 160 #[.val (.ref a0), .val (.int p1), .val (.int p2), .val (.int (x0 &&& (255 : Int32))), .val (.int (4 : Int32)), .val (.int ((((x0 &&& (255 : Int32)) &&& (7 : Int32)) <<< ((6 : Int32) &&& 31)) ||| ((x1 &&& (255 : Int32)) &&& (63 : Int32)))), .val (.int (65536 : Int32)), .val (.int (x1 &&& (255 : Int32)))] [(.int (p2 + (2 : Int32))), (.ref a0)]))
              have hk31 : p2.toInt + 2 < z.toInt := own_room2 hs0 hs1 hs2 hn hc27 (by decide) (by decide)
              obtain ⟨cl32, Ar32, ck32, Sz32, Nn32, Hs32, Gs32⟩ := id V_kk
              have hin32 : ¬ ((p2 + (2 : Int32)) < 0 ∨ cl32.slots.size ≤ ((p2 + (2 : Int32))).toNatClampNeg) := inb_of Sz32 (own_ink hs0 hs2 (k := (2 : Int32)) (by decide) (by decide) hk31)
              have hat32 : cl32.slots[((p2 + (2 : Int32))).toNatClampNeg]? = some (.int x2) := Hs32.at hin32 (he2 hk31)
              refine Go.st (fun _ k => X0.baloadBytes hx (j := (p2 + (2 : Int32))) (v := (.int x2)) (by rw [e0]; exact Ar32.1) (State.isArrayOf_alike hZ.alike Ar32.2.1) Ar32.2.2 hin32 hat32 (g := (mkF m 160 #[.val (.ref a0), .val (.int p1), .val (.int p2), .val (.int (x0 &&& (255 : Int32))), .val (.int (4 : Int32)), .val (.int ((((x0 &&& (255 : Int32)) &&& (7 : Int32)) <<< ((6 : Int32) &&& 31)) ||| ((x1 &&& (255 : Int32)) &&& (63 : Int32)))), .val (.int (65536 : Int32)), .val (.int (x1 &&& (255 : Int32)))] [(.int (p2 + (2 : Int32))), (.ref a0)])) rfl rfl (hb hby d2_160) _ k) ?_
              show Go p e below _ (s₁.setTop (mkF m 161 #[.val (.ref a0), .val (.int p1), .val (.int p2), .val (.int (x0 &&& (255 : Int32))), .val (.int (4 : Int32)), .val (.int ((((x0 &&& (255 : Int32)) &&& (7 : Int32)) <<< ((6 : Int32) &&& 31)) ||| ((x1 &&& (255 : Int32)) &&& (63 : Int32)))), .val (.int (65536 : Int32)), .val (.int (x1 &&& (255 : Int32)))] [(.int x2)]))
              refine Go.st (fun _ k => XS.sipush X0.here hx rfl (hb hby d2_161) k) ?_
              refine Go.st (fun _ k => XS.iand X0.here hx rfl (hb hby d2_164) rfl k) ?_
              show Go p e below _ (s₁.setTop (mkF m 165 #[.val (.ref a0), .val (.int p1), .val (.int p2), .val (.int (x0 &&& (255 : Int32))), .val (.int (4 : Int32)), .val (.int ((((x0 &&& (255 : Int32)) &&& (7 : Int32)) <<< ((6 : Int32) &&& 31)) ||| ((x1 &&& (255 : Int32)) &&& (63 : Int32)))), .val (.int (65536 : Int32)), .val (.int (x1 &&& (255 : Int32)))] [(.int (x2 &&& (255 : Int32)))]))
              refine Go.st (fun _ k => XS.istore X0.here hx rfl (hb hby d2_165) rfl (l' := #[.val (.ref a0), .val (.int p1), .val (.int p2), .val (.int (x0 &&& (255 : Int32))), .val (.int (4 : Int32)), .val (.int ((((x0 &&& (255 : Int32)) &&& (7 : Int32)) <<< ((6 : Int32) &&& 31)) ||| ((x1 &&& (255 : Int32)) &&& (63 : Int32)))), .val (.int (65536 : Int32)), .val (.int (x2 &&& (255 : Int32)))]) rfl k) ?_
              show Go p e below _ (s₁.setTop (mkF m 167 #[.val (.ref a0), .val (.int p1), .val (.int p2), .val (.int (x0 &&& (255 : Int32))), .val (.int (4 : Int32)), .val (.int ((((x0 &&& (255 : Int32)) &&& (7 : Int32)) <<< ((6 : Int32) &&& 31)) ||| ((x1 &&& (255 : Int32)) &&& (63 : Int32)))), .val (.int (65536 : Int32)), .val (.int (x2 &&& (255 : Int32)))] []))
              refine Go.st (fun _ k => XS.iload X0.here hx rfl (hb hby d2_167) rfl k) ?_
              refine Go.st (fun _ k => XS.sipush X0.here hx rfl (hb hby d2_169) k) ?_
              show Go p e below _ (s₁.setTop (mkF m 172 #[.val (.ref a0), .val (.int p1), .val (.int p2), .val (.int (x0 &&& (255 : Int32))), .val (.int (4 : Int32)), .val (.int ((((x0 &&& (255 : Int32)) &&& (7 : Int32)) <<< ((6 : Int32) &&& 31)) ||| ((x1 &&& (255 : Int32)) &&& (63 : Int32)))), .val (.int (65536 : Int32)), .val (.int (x2 &&& (255 : Int32)))] [(.int (192 : Int32)), (.int (x2 &&& (255 : Int32)))]))
              refine Go.st (fun _ k => XS.iand X0.here hx rfl (hb hby d2_172) rfl k) ?_
              refine Go.st (fun _ k => XS.sipush X0.here hx rfl (hb hby d2_173) k) ?_
              show Go p e below _ (s₁.setTop (mkF m 176 #[.val (.ref a0), .val (.int p1), .val (.int p2), .val (.int (x0 &&& (255 : Int32))), .val (.int (4 : Int32)), .val (.int ((((x0 &&& (255 : Int32)) &&& (7 : Int32)) <<< ((6 : Int32) &&& 31)) ||| ((x1 &&& (255 : Int32)) &&& (63 : Int32)))), .val (.int (65536 : Int32)), .val (.int (x2 &&& (255 : Int32)))] [(.int (128 : Int32)), (.int ((x2 &&& (255 : Int32)) &&& (192 : Int32)))]))
              by_cases hc33 : ((x2 &&& (255 : Int32)) &&& (192 : Int32)) = (128 : Int32)
              · show Go p e below _ (s₁.setTop (mkF m 176 #[.val (.ref a0), .val (.int p1), .val (.int p2), .val (.int (x0 &&& (255 : Int32))), .val (.int (4 : Int32)), .val (.int ((((x0 &&& (255 : Int32)) &&& (7 : Int32)) <<< ((6 : Int32) &&& 31)) ||| ((x1 &&& (255 : Int32)) &&& (63 : Int32)))), .val (.int (65536 : Int32)), .val (.int (x2 &&& (255 : Int32)))] [(.int (128 : Int32)), (.int ((x2 &&& (255 : Int32)) &&& (192 : Int32)))]))
                refine Go.st (fun _ k => XS.icmpYes X0.here hx rfl (pc0 := 176) (pc' := 181) rfl (hb hby d2_176) rfl (teq hc33).1 (by decide) (by decide) k) ?_
                show Go p e below _ (s₁.setTop (mkF m 181 #[.val (.ref a0), .val (.int p1), .val (.int p2), .val (.int (x0 &&& (255 : Int32))), .val (.int (4 : Int32)), .val (.int ((((x0 &&& (255 : Int32)) &&& (7 : Int32)) <<< ((6 : Int32) &&& 31)) ||| ((x1 &&& (255 : Int32)) &&& (63 : Int32)))), .val (.int (65536 : Int32)), .val (.int (x2 &&& (255 : Int32)))] []))
                refine Go.st (fun _ k => XS.iload X0.here hx rfl (hb hby d2_181) rfl k) ?_
                refine Go.st (fun _ k => XS.bipush X0.here hx rfl (hb hby d2_183) k) ?_
                show Go p e below _ (s₁.setTop (mkF m 185 #[.val (.ref a0), .val (.int p1), .val (.int p2), .val (.int (x0 &&& (255 : Int32))), .val (.int (4 : Int32)), .val (.int ((((x0 &&& (255 : Int32)) &&& (7 : Int32)) <<< ((6 : Int32) &&& 31)) ||| ((x1 &&& (255 : Int32)) &&& (63 : Int32)))), .val (.int (65536 : Int32)), .val (.int (x2 &&& (255 : Int32)))] [(.int (6 : Int32)), (.int ((((x0 &&& (255 : Int32)) &&& (7 : Int32)) <<< ((6 : Int32) &&& 31)) ||| ((x1 &&& (255 : Int32)) &&& (63 : Int32))))]))
                refine Go.st (fun _ k => XS.ishl X0.here hx rfl (hb hby d2_185) rfl k) ?_
                show Go p e below _ (s₁.setTop (mkF m 186 #[.val (.ref a0), .val (.int p1), .val (.int p2), .val (.int (x0 &&& (255 : Int32))), .val (.int (4 : Int32)), .val (.int ((((x0 &&& (255 : Int32)) &&& (7 : Int32)) <<< ((6 : Int32) &&& 31)) ||| ((x1 &&& (255 : Int32)) &&& (63 : Int32)))), .val (.int (65536 : Int32)), .val (.int (x2 &&& (255 : Int32)))] [(.int (((((x0 &&& (255 : Int32)) &&& (7 : Int32)) <<< ((6 : Int32) &&& 31)) ||| ((x1 &&& (255 : Int32)) &&& (63 : Int32))) <<< ((6 : Int32) &&& 31)))]))
                refine Go.st (fun _ k => XS.iload X0.here hx rfl (hb hby d2_186) rfl k) ?_
                refine Go.st (fun _ k => XS.bipush X0.here hx rfl (hb hby d2_188) k) ?_
                show Go p e below _ (s₁.setTop (mkF m 190 #[.val (.ref a0), .val (.int p1), .val (.int p2), .val (.int (x0 &&& (255 : Int32))), .val (.int (4 : Int32)), .val (.int ((((x0 &&& (255 : Int32)) &&& (7 : Int32)) <<< ((6 : Int32) &&& 31)) ||| ((x1 &&& (255 : Int32)) &&& (63 : Int32)))), .val (.int (65536 : Int32)), .val (.int (x2 &&& (255 : Int32)))] [(.int (63 : Int32)), (.int (x2 &&& (255 : Int32))), (.int (((((x0 &&& (255 : Int32)) &&& (7 : Int32)) <<< ((6 : Int32) &&& 31)) ||| ((x1 &&& (255 : Int32)) &&& (63 : Int32))) <<< ((6 : Int32) &&& 31)))]))
                refine Go.st (fun _ k => XS.iand X0.here hx rfl (hb hby d2_190) rfl k) ?_
                refine Go.st (fun _ k => XS.ior X0.here hx rfl (hb hby d2_191) rfl k) ?_
                show Go p e below _ (s₁.setTop (mkF m 192 #[.val (.ref a0), .val (.int p1), .val (.int p2), .val (.int (x0 &&& (255 : Int32))), .val (.int (4 : Int32)), .val (.int ((((x0 &&& (255 : Int32)) &&& (7 : Int32)) <<< ((6 : Int32) &&& 31)) ||| ((x1 &&& (255 : Int32)) &&& (63 : Int32)))), .val (.int (65536 : Int32)), .val (.int (x2 &&& (255 : Int32)))] [(.int ((((((x0 &&& (255 : Int32)) &&& (7 : Int32)) <<< ((6 : Int32) &&& 31)) ||| ((x1 &&& (255 : Int32)) &&& (63 : Int32))) <<< ((6 : Int32) &&& 31)) ||| ((x2 &&& (255 : Int32)) &&& (63 : Int32))))]))
                refine Go.st (fun _ k => XS.istore X0.here hx rfl (hb hby d2_192) rfl (l' := #[.val (.ref a0), .val (.int p1), .val (.int p2), .val (.int (x0 &&& (255 : Int32))), .val (.int (4 : Int32)), .val (.int ((((((x0 &&& (255 : Int32)) &&& (7 : Int32)) <<< ((6 : Int32) &&& 31)) ||| ((x1 &&& (255 : Int32)) &&& (63 : Int32))) <<< ((6 : Int32) &&& 31)) ||| ((x2 &&& (255 : Int32)) &&& (63 : Int32)))), .val (.int (65536 : Int32)), .val (.int (x2 &&& (255 : Int32)))]) rfl k) ?_
                show Go p e below _ (s₁.setTop (mkF m 194 #[.val (.ref a0), .val (.int p1), .val (.int p2), .val (.int (x0 &&& (255 : Int32))), .val (.int (4 : Int32)), .val (.int ((((((x0 &&& (255 : Int32)) &&& (7 : Int32)) <<< ((6 : Int32) &&& 31)) ||| ((x1 &&& (255 : Int32)) &&& (63 : Int32))) <<< ((6 : Int32) &&& 31)) ||| ((x2 &&& (255 : Int32)) &&& (63 : Int32)))), .val (.int (65536 : Int32)), .val (.int (x2 &&& (255 : Int32)))] []))
                refine Go.st (fun _ k => XS.iload X0.here hx rfl (hb hby d2_194) rfl k) ?_
                refine Go.st (fun _ k => XS.iconst X0.here hx rfl (hb hby d2_196) k) ?_
                show Go p e below _ (s₁.setTop (mkF m 197 #[.val (.ref a0), .val (.int p1), .val (.int p2), .val (.int (x0 &&& (255 : Int32))), .val (.int (4 : Int32)), .val (.int ((((((x0 &&& (255 : Int32)) &&& (7 : Int32)) <<< ((6 : Int32) &&& 31)) ||| ((x1 &&& (255 : Int32)) &&& (63 : Int32))) <<< ((6 : Int32) &&& 31)) ||| ((x2 &&& (255 : Int32)) &&& (63 : Int32)))), .val (.int (65536 : Int32)), .val (.int (x2 &&& (255 : Int32)))] [(.int (4 : Int32)), (.int (4 : Int32))]))
                refine Go.st (fun _ k => XS.icmpNo X0.here hx rfl (hb hby d2_197) rfl (teq (by decide : ((4 : Int32) = (4 : Int32)))).2 k) ?_
                show Go p e below _ (s₁.setTop (mkF m 200 #[.val (.ref a0), .val (.int p1), .val (.int p2), .val (.int (x0 &&& (255 : Int32))), .val (.int (4 : Int32)), .val (.int ((((((x0 &&& (255 : Int32)) &&& (7 : Int32)) <<< ((6 : Int32) &&& 31)) ||| ((x1 &&& (255 : Int32)) &&& (63 : Int32))) <<< ((6 : Int32) &&& 31)) ||| ((x2 &&& (255 : Int32)) &&& (63 : Int32)))), .val (.int (65536 : Int32)), .val (.int (x2 &&& (255 : Int32)))] []))
                refine Go.st (fun _ k => XS.aloadN X0.here hx rfl (hb hby d2_200) rfl rfl k) ?_
                refine Go.st (fun _ k => XS.iloadN X0.here hx rfl (hb hby d2_201) rfl k) ?_
                show Go p e below _ (s₁.setTop (mkF m 202 #[.val (.ref a0), .val (.int p1), .val (.int p2), .val (.int (x0 &&& (255 : Int32))), .val (.int (4 : Int32)), .val (.int ((((((x0 &&& (255 : Int32)) &&& (7 : Int32)) <<< ((6 : Int32) &&& 31)) ||| ((x1 &&& (255 : Int32)) &&& (63 : Int32))) <<< ((6 : Int32) &&& 31)) ||| ((x2 &&& (255 : Int32)) &&& (63 : Int32)))), .val (.int (65536 : Int32)), .val (.int (x2 &&& (255 : Int32)))] [(.int p2), (.ref a0)]))
                refine Go.st (fun _ k => XS.iconst X0.here hx rfl (hb hby d2_202) k) ?_
                refine Go.st (fun _ k => XS.iadd X0.here hx rfl (hb hby d2_203) rfl k) ?_
                show Go p e below _ (s₁.setTop (mkF m 204 #[.val (.ref a0), .val (.int p1), .val (.int p2), .val (.int (x0 &&& (255 : Int32))), .val (.int (4 : Int32)), .val (.int ((((((x0 &&& (255 : Int32)) &&& (7 : Int32)) <<< ((6 : Int32) &&& 31)) ||| ((x1 &&& (255 : Int32)) &&& (63 : Int32))) <<< ((6 : Int32) &&& 31)) ||| ((x2 &&& (255 : Int32)) &&& (63 : Int32)))), .val (.int (65536 : Int32)), .val (.int (x2 &&& (255 : Int32)))] [(.int (p2 + (3 : Int32))), (.ref a0)]))
                have hk34 : p2.toInt + 3 < z.toInt := own_room2 hs0 hs1 hs2 hn hc27 (by decide) (by decide)
                obtain ⟨cl35, Ar35, ck35, Sz35, Nn35, Hs35, Gs35⟩ := id V_kk
                have hin35 : ¬ ((p2 + (3 : Int32)) < 0 ∨ cl35.slots.size ≤ ((p2 + (3 : Int32))).toNatClampNeg) := inb_of Sz35 (own_ink hs0 hs2 (k := (3 : Int32)) (by decide) (by decide) hk34)
                have hat35 : cl35.slots[((p2 + (3 : Int32))).toNatClampNeg]? = some (.int x3) := Hs35.at hin35 (he3 hk34)
                refine Go.st (fun _ k => X0.baloadBytes hx (j := (p2 + (3 : Int32))) (v := (.int x3)) (by rw [e0]; exact Ar35.1) (State.isArrayOf_alike hZ.alike Ar35.2.1) Ar35.2.2 hin35 hat35 (g := (mkF m 204 #[.val (.ref a0), .val (.int p1), .val (.int p2), .val (.int (x0 &&& (255 : Int32))), .val (.int (4 : Int32)), .val (.int ((((((x0 &&& (255 : Int32)) &&& (7 : Int32)) <<< ((6 : Int32) &&& 31)) ||| ((x1 &&& (255 : Int32)) &&& (63 : Int32))) <<< ((6 : Int32) &&& 31)) ||| ((x2 &&& (255 : Int32)) &&& (63 : Int32)))), .val (.int (65536 : Int32)), .val (.int (x2 &&& (255 : Int32)))] [(.int (p2 + (3 : Int32))), (.ref a0)])) rfl rfl (hb hby d2_204) _ k) ?_
                show Go p e below _ (s₁.setTop (mkF m 205 #[.val (.ref a0), .val (.int p1), .val (.int p2), .val (.int (x0 &&& (255 : Int32))), .val (.int (4 : Int32)), .val (.int ((((((x0 &&& (255 : Int32)) &&& (7 : Int32)) <<< ((6 : Int32) &&& 31)) ||| ((x1 &&& (255 : Int32)) &&& (63 : Int32))) <<< ((6 : Int32) &&& 31)) ||| ((x2 &&& (255 : Int32)) &&& (63 : Int32)))), .val (.int (65536 : Int32)), .val (.int (x2 &&& (255 : Int32)))] [(.int x3)]))
                refine Go.st (fun _ k => XS.sipush X0.here hx rfl (hb hby d2_205) k) ?_
                refine Go.st (fun _ k => XS.iand X0.here hx rfl (hb hby d2_208) rfl k) ?_
                show Go p e below _ (s₁.setTop (mkF m 209 #[.val (.ref a0), .val (.int p1), .val (.int p2), .val (.int (x0 &&& (255 : Int32))), .val (.int (4 : Int32)), .val (.int ((((((x0 &&& (255 : Int32)) &&& (7 : Int32)) <<< ((6 : Int32) &&& 31)) ||| ((x1 &&& (255 : Int32)) &&& (63 : Int32))) <<< ((6 : Int32) &&& 31)) ||| ((x2 &&& (255 : Int32)) &&& (63 : Int32)))), .val (.int (65536 : Int32)), .val (.int (x2 &&& (255 : Int32)))] [(.int (x3 &&& (255 : Int32)))]))
                refine Go.st (fun _ k => XS.istore X0.here hx rfl (hb hby d2_209) rfl (l' := #[.val (.ref a0), .val (.int p1), .val (.int p2), .val (.int (x0 &&& (255 : Int32))), .val (.int (4 : Int32)), .val (.int ((((((x0 &&& (255 : Int32)) &&& (7 : Int32)) <<< ((6 : Int32) &&& 31)) ||| ((x1 &&& (255 : Int32)) &&& (63 : Int32))) <<< ((6 : Int32) &&& 31)) ||| ((x2 &&& (255 : Int32)) &&& (63 : Int32)))), .val (.int (65536 : Int32)), .val (.int (x3 &&& (255 : Int32)))]) rfl k) ?_
                show Go p e below _ (s₁.setTop (mkF m 211 #[.val (.ref a0), .val (.int p1), .val (.int p2), .val (.int (x0 &&& (255 : Int32))), .val (.int (4 : Int32)), .val (.int ((((((x0 &&& (255 : Int32)) &&& (7 : Int32)) <<< ((6 : Int32) &&& 31)) ||| ((x1 &&& (255 : Int32)) &&& (63 : Int32))) <<< ((6 : Int32) &&& 31)) ||| ((x2 &&& (255 : Int32)) &&& (63 : Int32)))), .val (.int (65536 : Int32)), .val (.int (x3 &&& (255 : Int32)))] []))
                refine Go.st (fun _ k => XS.iload X0.here hx rfl (hb hby d2_211) rfl k) ?_
                refine Go.st (fun _ k => XS.sipush X0.here hx rfl (hb hby d2_213) k) ?_
                show Go p e below _ (s₁.setTop (mkF m 216 #[.val (.ref a0), .val (.int p1), .val (.int p2), .val (.int (x0 &&& (255 : Int32))), .val (.int (4 : Int32)), .val (.int ((((((x0 &&& (255 : Int32)) &&& (7 : Int32)) <<< ((6 : Int32) &&& 31)) ||| ((x1 &&& (255 : Int32)) &&& (63 : Int32))) <<< ((6 : Int32) &&& 31)) ||| ((x2 &&& (255 : Int32)) &&& (63 : Int32)))), .val (.int (65536 : Int32)), .val (.int (x3 &&& (255 : Int32)))] [(.int (192 : Int32)), (.int (x3 &&& (255 : Int32)))]))
                refine Go.st (fun _ k => XS.iand X0.here hx rfl (hb hby d2_216) rfl k) ?_
                refine Go.st (fun _ k => XS.sipush X0.here hx rfl (hb hby d2_217) k) ?_
                show Go p e below _ (s₁.setTop (mkF m 220 #[.val (.ref a0), .val (.int p1), .val (.int p2), .val (.int (x0 &&& (255 : Int32))), .val (.int (4 : Int32)), .val (.int ((((((x0 &&& (255 : Int32)) &&& (7 : Int32)) <<< ((6 : Int32) &&& 31)) ||| ((x1 &&& (255 : Int32)) &&& (63 : Int32))) <<< ((6 : Int32) &&& 31)) ||| ((x2 &&& (255 : Int32)) &&& (63 : Int32)))), .val (.int (65536 : Int32)), .val (.int (x3 &&& (255 : Int32)))] [(.int (128 : Int32)), (.int ((x3 &&& (255 : Int32)) &&& (192 : Int32)))]))
                by_cases hc36 : ((x3 &&& (255 : Int32)) &&& (192 : Int32)) = (128 : Int32)
                · show Go p e below _ (s₁.setTop (mkF m 220 #[.val (.ref a0), .val (.int p1), .val (.int p2), .val (.int (x0 &&& (255 : Int32))), .val (.int (4 : Int32)), .val (.int ((((((x0 &&& (255 : Int32)) &&& (7 : Int32)) <<< ((6 : Int32) &&& 31)) ||| ((x1 &&& (255 : Int32)) &&& (63 : Int32))) <<< ((6 : Int32) &&& 31)) ||| ((x2 &&& (255 : Int32)) &&& (63 : Int32)))), .val (.int (65536 : Int32)), .val (.int (x3 &&& (255 : Int32)))] [(.int (128 : Int32)), (.int ((x3 &&& (255 : Int32)) &&& (192 : Int32)))]))
                  refine Go.st (fun _ k => XS.icmpYes X0.here hx rfl (pc0 := 220) (pc' := 225) rfl (hb hby d2_220) rfl (teq hc36).1 (by decide) (by decide) k) ?_
                  show Go p e below _ (s₁.setTop (mkF m 225 #[.val (.ref a0), .val (.int p1), .val (.int p2), .val (.int (x0 &&& (255 : Int32))), .val (.int (4 : Int32)), .val (.int ((((((x0 &&& (255 : Int32)) &&& (7 : Int32)) <<< ((6 : Int32) &&& 31)) ||| ((x1 &&& (255 : Int32)) &&& (63 : Int32))) <<< ((6 : Int32) &&& 31)) ||| ((x2 &&& (255 : Int32)) &&& (63 : Int32)))), .val (.int (65536 : Int32)), .val (.int (x3 &&& (255 : Int32)))] []))
                  refine Go.st (fun _ k => XS.iload X0.here hx rfl (hb hby d2_225) rfl k) ?_
                  refine Go.st (fun _ k => XS.bipush X0.here hx rfl (hb hby d2_227) k) ?_
                  show Go p e below _ (s₁.setTop (mkF m 229 #[.val (.ref a0), .val (.int p1), .val (.int p2), .val (.int (x0 &&& (255 : Int32))), .val (.int (4 : Int32)), .val (.int ((((((x0 &&& (255 : Int32)) &&& (7 : Int32)) <<< ((6 : Int32) &&& 31)) ||| ((x1 &&& (255 : Int32)) &&& (63 : Int32))) <<< ((6 : Int32) &&& 31)) ||| ((x2 &&& (255 : Int32)) &&& (63 : Int32)))), .val (.int (65536 : Int32)), .val (.int (x3 &&& (255 : Int32)))] [(.int (6 : Int32)), (.int ((((((x0 &&& (255 : Int32)) &&& (7 : Int32)) <<< ((6 : Int32) &&& 31)) ||| ((x1 &&& (255 : Int32)) &&& (63 : Int32))) <<< ((6 : Int32) &&& 31)) ||| ((x2 &&& (255 : Int32)) &&& (63 : Int32))))]))
                  refine Go.st (fun _ k => XS.ishl X0.here hx rfl (hb hby d2_229) rfl k) ?_
                  show Go p e below _ (s₁.setTop (mkF m 230 #[.val (.ref a0), .val (.int p1), .val (.int p2), .val (.int (x0 &&& (255 : Int32))), .val (.int (4 : Int32)), .val (.int ((((((x0 &&& (255 : Int32)) &&& (7 : Int32)) <<< ((6 : Int32) &&& 31)) ||| ((x1 &&& (255 : Int32)) &&& (63 : Int32))) <<< ((6 : Int32) &&& 31)) ||| ((x2 &&& (255 : Int32)) &&& (63 : Int32)))), .val (.int (65536 : Int32)), .val (.int (x3 &&& (255 : Int32)))] [(.int (((((((x0 &&& (255 : Int32)) &&& (7 : Int32)) <<< ((6 : Int32) &&& 31)) ||| ((x1 &&& (255 : Int32)) &&& (63 : Int32))) <<< ((6 : Int32) &&& 31)) ||| ((x2 &&& (255 : Int32)) &&& (63 : Int32))) <<< ((6 : Int32) &&& 31)))]))
                  refine Go.st (fun _ k => XS.iload X0.here hx rfl (hb hby d2_230) rfl k) ?_
                  refine Go.st (fun _ k => XS.bipush X0.here hx rfl (hb hby d2_232) k) ?_
                  show Go p e below _ (s₁.setTop (mkF m 234 #[.val (.ref a0), .val (.int p1), .val (.int p2), .val (.int (x0 &&& (255 : Int32))), .val (.int (4 : Int32)), .val (.int ((((((x0 &&& (255 : Int32)) &&& (7 : Int32)) <<< ((6 : Int32) &&& 31)) ||| ((x1 &&& (255 : Int32)) &&& (63 : Int32))) <<< ((6 : Int32) &&& 31)) ||| ((x2 &&& (255 : Int32)) &&& (63 : Int32)))), .val (.int (65536 : Int32)), .val (.int (x3 &&& (255 : Int32)))] [(.int (63 : Int32)), (.int (x3 &&& (255 : Int32))), (.int (((((((x0 &&& (255 : Int32)) &&& (7 : Int32)) <<< ((6 : Int32) &&& 31)) ||| ((x1 &&& (255 : Int32)) &&& (63 : Int32))) <<< ((6 : Int32) &&& 31)) ||| ((x2 &&& (255 : Int32)) &&& (63 : Int32))) <<< ((6 : Int32) &&& 31)))]))
                  refine Go.st (fun _ k => XS.iand X0.here hx rfl (hb hby d2_234) rfl k) ?_
                  refine Go.st (fun _ k => XS.ior X0.here hx rfl (hb hby d2_235) rfl k) ?_
                  show Go p e below _ (s₁.setTop (mkF m 236 #[.val (.ref a0), .val (.int p1), .val (.int p2), .val (.int (x0 &&& (255 : Int32))), .val (.int (4 : Int32)), .val (.int ((((((x0 &&& (255 : Int32)) &&& (7 : Int32)) <<< ((6 : Int32) &&& 31)) ||| ((x1 &&& (255 : Int32)) &&& (63 : Int32))) <<< ((6 : Int32) &&& 31)) ||| ((x2 &&& (255 : Int32)) &&& (63 : Int32)))), .val (.int (65536 : Int32)), .val (.int (x3 &&& (255 : Int32)))] [(.int ((((((((x0 &&& (255 : Int32)) &&& (7 : Int32)) <<< ((6 : Int32) &&& 31)) ||| ((x1 &&& (255 : Int32)) &&& (63 : Int32))) <<< ((6 : Int32) &&& 31)) ||| ((x2 &&& (255 : Int32)) &&& (63 : Int32))) <<< ((6 : Int32) &&& 31)) ||| ((x3 &&& (255 : Int32)) &&& (63 : Int32))))]))
                  refine Go.st (fun _ k => XS.istore X0.here hx rfl (hb hby d2_236) rfl (l' := #[.val (.ref a0), .val (.int p1), .val (.int p2), .val (.int (x0 &&& (255 : Int32))), .val (.int (4 : Int32)), .val (.int ((((((((x0 &&& (255 : Int32)) &&& (7 : Int32)) <<< ((6 : Int32) &&& 31)) ||| ((x1 &&& (255 : Int32)) &&& (63 : Int32))) <<< ((6 : Int32) &&& 31)) ||| ((x2 &&& (255 : Int32)) &&& (63 : Int32))) <<< ((6 : Int32) &&& 31)) ||| ((x3 &&& (255 : Int32)) &&& (63 : Int32)))), .val (.int (65536 : Int32)), .val (.int (x3 &&& (255 : Int32)))]) rfl k) ?_
                  show Go p e below _ (s₁.setTop (mkF m 238 #[.val (.ref a0), .val (.int p1), .val (.int p2), .val (.int (x0 &&& (255 : Int32))), .val (.int (4 : Int32)), .val (.int ((((((((x0 &&& (255 : Int32)) &&& (7 : Int32)) <<< ((6 : Int32) &&& 31)) ||| ((x1 &&& (255 : Int32)) &&& (63 : Int32))) <<< ((6 : Int32) &&& 31)) ||| ((x2 &&& (255 : Int32)) &&& (63 : Int32))) <<< ((6 : Int32) &&& 31)) ||| ((x3 &&& (255 : Int32)) &&& (63 : Int32)))), .val (.int (65536 : Int32)), .val (.int (x3 &&& (255 : Int32)))] []))
                  refine Go.st (fun _ k => XS.iload X0.here hx rfl (hb hby d2_238) rfl k) ?_
                  refine Go.st (fun _ k => XS.iload X0.here hx rfl (hb hby d2_240) rfl k) ?_
                  show Go p e below _ (s₁.setTop (mkF m 242 #[.val (.ref a0), .val (.int p1), .val (.int p2), .val (.int (x0 &&& (255 : Int32))), .val (.int (4 : Int32)), .val (.int ((((((((x0 &&& (255 : Int32)) &&& (7 : Int32)) <<< ((6 : Int32) &&& 31)) ||| ((x1 &&& (255 : Int32)) &&& (63 : Int32))) <<< ((6 : Int32) &&& 31)) ||| ((x2 &&& (255 : Int32)) &&& (63 : Int32))) <<< ((6 : Int32) &&& 31)) ||| ((x3 &&& (255 : Int32)) &&& (63 : Int32)))), .val (.int (65536 : Int32)), .val (.int (x3 &&& (255 : Int32)))] [(.int (65536 : Int32)), (.int ((((((((x0 &&& (255 : Int32)) &&& (7 : Int32)) <<< ((6 : Int32) &&& 31)) ||| ((x1 &&& (255 : Int32)) &&& (63 : Int32))) <<< ((6 : Int32) &&& 31)) ||| ((x2 &&& (255 : Int32)) &&& (63 : Int32))) <<< ((6 : Int32) &&& 31)) ||| ((x3 &&& (255 : Int32)) &&& (63 : Int32))))]))
                  by_cases hc37 : ((((((((x0 &&& (255 : Int32)) &&& (7 : Int32)) <<< ((6 : Int32) &&& 31)) ||| ((x1 &&& (255 : Int32)) &&& (63 : Int32))) <<< ((6 : Int32) &&& 31)) ||| ((x2 &&& (255 : Int32)) &&& (63 : Int32))) <<< ((6 : Int32) &&& 31)) ||| ((x3 &&& (255 : Int32)) &&& (63 : Int32))) < (65536 : Int32)
                  · show Go p e below _ (s₁.setTop (mkF m 242 #[.val (.ref a0), .val (.int p1), .val (.int p2), .val (.int (x0 &&& (255 : Int32))), .val (.int (4 : Int32)), .val (.int ((((((((x0 &&& (255 : Int32)) &&& (7 : Int32)) <<< ((6 : Int32) &&& 31)) ||| ((x1 &&& (255 : Int32)) &&& (63 : Int32))) <<< ((6 : Int32) &&& 31)) ||| ((x2 &&& (255 : Int32)) &&& (63 : Int32))) <<< ((6 : Int32) &&& 31)) ||| ((x3 &&& (255 : Int32)) &&& (63 : Int32)))), .val (.int (65536 : Int32)), .val (.int (x3 &&& (255 : Int32)))] [(.int (65536 : Int32)), (.int ((((((((x0 &&& (255 : Int32)) &&& (7 : Int32)) <<< ((6 : Int32) &&& 31)) ||| ((x1 &&& (255 : Int32)) &&& (63 : Int32))) <<< ((6 : Int32) &&& 31)) ||| ((x2 &&& (255 : Int32)) &&& (63 : Int32))) <<< ((6 : Int32) &&& 31)) ||| ((x3 &&& (255 : Int32)) &&& (63 : Int32))))]))
                    refine Go.st (fun _ k => XS.icmpNo X0.here hx rfl (hb hby d2_242) rfl (tlt hc37).2.1 k) ?_
                    show Go p e below _ (s₁.setTop (mkF m 245 #[.val (.ref a0), .val (.int p1), .val (.int p2), .val (.int (x0 &&& (255 : Int32))), .val (.int (4 : Int32)), .val (.int ((((((((x0 &&& (255 : Int32)) &&& (7 : Int32)) <<< ((6 : Int32) &&& 31)) ||| ((x1 &&& (255 : Int32)) &&& (63 : Int32))) <<< ((6 : Int32) &&& 31)) ||| ((x2 &&& (255 : Int32)) &&& (63 : Int32))) <<< ((6 : Int32) &&& 31)) ||| ((x3 &&& (255 : Int32)) &&& (63 : Int32)))), .val (.int (65536 : Int32)), .val (.int (x3 &&& (255 : Int32)))] []))
                    refine Go.st (fun _ k => XS.iconst X0.here hx rfl (hb hby d2_245) k) ?_
                    obtain ⟨fs, hr, hrun, hended, hW, hsame⟩ := X0.leave (v := some (.int (0 : Int32))) (fun h => by rw [Bd.returns] at h; cases h)
                    refine ⟨_, _, retI X0 hx Bd.returns (hb hby d2_246) hr, hrun, hended, _, _, rfl, ?_, ⟨_, rfl⟩, hW, hsame.mono (by decide) (by decide)⟩
                    show Q_rmCL Z x0 x1 x2 x3 a0 p1 p2 kk z vs h0 n0 _ s₁.heap _
                    rw [e0]
                    refine ⟨?_, N0, rfl⟩
                    unfold fCL
                    rw [if_neg hc2, if_neg hc3, if_neg hc13, if_pos hc26, if_neg hc27, if_pos hc30, if_pos hc33, if_pos hc36, if_pos hc37]
                  · show Go p e below _ (s₁.setTop (mkF m 242 #[.val (.ref a0), .val (.int p1), .val (.int p2), .val (.int (x0 &&& (255 : Int32))), .val (.int (4 : Int32)), .val (.int ((((((((x0 &&& (255 : Int32)) &&& (7 : Int32)) <<< ((6 : Int32) &&& 31)) ||| ((x1 &&& (255 : Int32)) &&& (63 : Int32))) <<< ((6 : Int32) &&& 31)) ||| ((x2 &&& (255 : Int32)) &&& (63 : Int32))) <<< ((6 : Int32) &&& 31)) ||| ((x3 &&& (255 : Int32)) &&& (63 : Int32)))), .val (.int (65536 : Int32)), .val (.int (x3 &&& (255 : Int32)))] [(.int (65536 : Int32)), (.int ((((((((x0 &&& (255 : Int32)) &&& (7 : Int32)) <<< ((6 : Int32) &&& 31)) ||| ((x1 &&& (255 : Int32)) &&& (63 : Int32))) <<< ((6 : Int32) &&& 31)) ||| ((x2 &&& (255 : Int32)) &&& (63 : Int32))) <<< ((6 : Int32) &&& 31)) ||| ((x3 &&& (255 : Int32)) &&& (63 : Int32))))]))
                    refine Go.st (fun _ k => XS.icmpYes X0.here hx rfl (pc0 := 242) (pc' := 247) rfl (hb hby d2_242) rfl (flt hc37).2.1 (by decide) (by decide) k) ?_
                    show Go p e below _ (s₁.setTop (mkF m 247 #[.val (.ref a0), .val (.int p1), .val (.int p2), .val (.int (x0 &&& (255 : Int32))), .val (.int (4 : Int32)), .val (.int ((((((((x0 &&& (255 : Int32)) &&& (7 : Int32)) <<< ((6 : Int32) &&& 31)) ||| ((x1 &&& (255 : Int32)) &&& (63 : Int32))) <<< ((6 : Int32) &&& 31)) ||| ((x2 &&& (255 : Int32)) &&& (63 : Int32))) <<< ((6 : Int32) &&& 31)) ||| ((x3 &&& (255 : Int32)) &&& (63 : Int32)))), .val (.int (65536 : Int32)), .val (.int (x3 &&& (255 : Int32)))] []))
                    refine Go.st (fun _ k => XS.iload X0.here hx rfl (hb hby d2_247) rfl k) ?_
                    show Go p e below _ (s₁.setTop (mkF m 249 #[.val (.ref a0), .val (.int p1), .val (.int p2), .val (.int (x0 &&& (255 : Int32))), .val (.int (4 : Int32)), .val (.int ((((((((x0 &&& (255 : Int32)) &&& (7 : Int32)) <<< ((6 : Int32) &&& 31)) ||| ((x1 &&& (255 : Int32)) &&& (63 : Int32))) <<< ((6 : Int32) &&& 31)) ||| ((x2 &&& (255 : Int32)) &&& (63 : Int32))) <<< ((6 : Int32) &&& 31)) ||| ((x3 &&& (255 : Int32)) &&& (63 : Int32)))), .val (.int (65536 : Int32)), .val (.int (x3 &&& (255 : Int32)))] [(.int ((((((((x0 &&& (255 : Int32)) &&& (7 : Int32)) <<< ((6 : Int32) &&& 31)) ||| ((x1 &&& (255 : Int32)) &&& (63 : Int32))) <<< ((6 : Int32) &&& 31)) ||| ((x2 &&& (255 : Int32)) &&& (63 : Int32))) <<< ((6 : Int32) &&& 31)) ||| ((x3 &&& (255 : Int32)) &&& (63 : Int32))))]))
                    refine Go.st (fun _ k => X0.ldcInt hx hown (mvT hZ (hw _ (List.mem_of_getElem? (i := 17) rfl))) (g := (mkF m 249 #[.val (.ref a0), .val (.int p1), .val (.int p2), .val (.int (x0 &&& (255 : Int32))), .val (.int (4 : Int32)), .val (.int ((((((((x0 &&& (255 : Int32)) &&& (7 : Int32)) <<< ((6 : Int32) &&& 31)) ||| ((x1 &&& (255 : Int32)) &&& (63 : Int32))) <<< ((6 : Int32) &&& 31)) ||| ((x2 &&& (255 : Int32)) &&& (63 : Int32))) <<< ((6 : Int32) &&& 31)) ||| ((x3 &&& (255 : Int32)) &&& (63 : Int32)))), .val (.int (65536 : Int32)), .val (.int (x3 &&& (255 : Int32)))] [(.int ((((((((x0 &&& (255 : Int32)) &&& (7 : Int32)) <<< ((6 : Int32) &&& 31)) ||| ((x1 &&& (255 : Int32)) &&& (63 : Int32))) <<< ((6 : Int32) &&& 31)) ||| ((x2 &&& (255 : Int32)) &&& (63 : Int32))) <<< ((6 : Int32) &&& 31)) ||| ((x3 &&& (255 : Int32)) &&& (63 : Int32))))])) rfl (hb hby d2_249) _ k) ?_
                    show Go p e below _ (s₁.setTop (mkF m 251 #[.val (.ref a0), .val (.int p1), .val (.int p2), .val (.int (x0 &&& (255 : Int32))), .val (.int (4 : Int32)), .val (.int ((((((((x0 &&& (255 : Int32)) &&& (7 : Int32)) <<< ((6 : Int32) &&& 31)) ||| ((x1 &&& (255 : Int32)) &&& (63 : Int32))) <<< ((6 : Int32) &&& 31)) ||| ((x2 &&& (255 : Int32)) &&& (63 : Int32))) <<< ((6 : Int32) &&& 31)) ||| ((x3 &&& (255 : Int32)) &&& (63 : Int32)))), .val (.int (65536 : Int32)), .val (.int (x3 &&& (255 : Int32)))] [(.int (55296 : Int32)), (.int ((((((((x0 &&& (255 : Int32)) &&& (7 : Int32)) <<< ((6 : Int32) &&& 31)) ||| ((x1 &&& (255 : Int32)) &&& (63 : Int32))) <<< ((6 : Int32) &&& 31)) ||| ((x2 &&& (255 : Int32)) &&& (63 : Int32))) <<< ((6 : Int32) &&& 31)) ||| ((x3 &&& (255 : Int32)) &&& (63 : Int32))))]))
                    by_cases hc38 : ((((((((x0 &&& (255 : Int32)) &&& (7 : Int32)) <<< ((6 : Int32) &&& 31)) ||| ((x1 &&& (255 : Int32)) &&& (63 : Int32))) <<< ((6 : Int32) &&& 31)) ||| ((x2 &&& (255 : Int32)) &&& (63 : Int32))) <<< ((6 : Int32) &&& 31)) ||| ((x3 &&& (255 : Int32)) &&& (63 : Int32))) < (55296 : Int32)
                    · show Go p e below _ (s₁.setTop (mkF m 251 #[.val (.ref a0), .val (.int p1), .val (.int p2), .val (.int (x0 &&& (255 : Int32))), .val (.int (4 : Int32)), .val (.int ((((((((x0 &&& (255 : Int32)) &&& (7 : Int32)) <<< ((6 : Int32) &&& 31)) ||| ((x1 &&& (255 : Int32)) &&& (63 : Int32))) <<< ((6 : Int32) &&& 31)) ||| ((x2 &&& (255 : Int32)) &&& (63 : Int32))) <<< ((6 : Int32) &&& 31)) ||| ((x3 &&& (255 : Int32)) &&& (63 : Int32)))), .val (.int (65536 : Int32)), .val (.int (x3 &&& (255 : Int32)))] [(.int (55296 : Int32)), (.int ((((((((x0 &&& (255 : Int32)) &&& (7 : Int32)) <<< ((6 : Int32) &&& 31)) ||| ((x1 &&& (255 : Int32)) &&& (63 : Int32))) <<< ((6 : Int32) &&& 31)) ||| ((x2 &&& (255 : Int32)) &&& (63 : Int32))) <<< ((6 : Int32) &&& 31)) ||| ((x3 &&& (255 : Int32)) &&& (63 : Int32))))]))
                      refine Go.st (fun _ k => XS.icmpYes X0.here hx rfl (pc0 := 251) (pc' := 263) rfl (hb hby d2_251) rfl (tlt hc38).1 (by decide) (by decide) k) ?_
                      show Go p e below _ (s₁.setTop (mkF m 263 #[.val (.ref a0), .val (.int p1), .val (.int p2), .val (.int (x0 &&& (255 : Int32))), .val (.int (4 : Int32)), .val (.int ((((((((x0 &&& (255 : Int32)) &&& (7 : Int32)) <<< ((6 : Int32) &&& 31)) ||| ((x1 &&& (255 : Int32)) &&& (63 : Int32))) <<< ((6 : Int32) &&& 31)) ||| ((x2 &&& (255 : Int32)) &&& (63 : Int32))) <<< ((6 : Int32) &&& 31)) ||| ((x3 &&& (255 : Int32)) &&& (63 : Int32)))), .val (.int (65536 : Int32)), .val (.int (x3 &&& (255 : Int32)))] []))
                      refine Go.st (fun _ k => XS.iload X0.here hx rfl (hb hby d2_263) rfl k) ?_
                      show Go p e below _ (s₁.setTop (mkF m 265 #[.val (.ref a0), .val (.int p1), .val (.int p2), .val (.int (x0 &&& (255 : Int32))), .val (.int (4 : Int32)), .val (.int ((((((((x0 &&& (255 : Int32)) &&& (7 : Int32)) <<< ((6 : Int32) &&& 31)) ||| ((x1 &&& (255 : Int32)) &&& (63 : Int32))) <<< ((6 : Int32) &&& 31)) ||| ((x2 &&& (255 : Int32)) &&& (63 : Int32))) <<< ((6 : Int32) &&& 31)) ||| ((x3 &&& (255 : Int32)) &&& (63 : Int32)))), .val (.int (65536 : Int32)), .val (.int (x3 &&& (255 : Int32)))] [(.int ((((((((x0 &&& (255 : Int32)) &&& (7 : Int32)) <<< ((6 : Int32) &&& 31)) ||| ((x1 &&& (255 : Int32)) &&& (63 : Int32))) <<< ((6 : Int32) &&& 31)) ||| ((x2 &&& (255 : Int32)) &&& (63 : Int32))) <<< ((6 : Int32) &&& 31)) ||| ((x3 &&& (255 : Int32)) &&& (63 : Int32))))]))
                      refine Go.st (fun _ k => X0.ldcInt hx hown (mvT hZ (hw _ (List.mem_of_getElem? (i := 18) rfl))) (g := (mkF m 265 #[.val (.ref a0), .val (.int p1), .val (.int p2), .val (.int (x0 &&& (255 : Int32))), .val (.int (4 : Int32)), .val (.int ((((((((x0 &&& (255 : Int32)) &&& (7 : Int32)) <<< ((6 : Int32) &&& 31)) ||| ((x1 &&& (255 : Int32)) &&& (63 : Int32))) <<< ((6 : Int32) &&& 31)) ||| ((x2 &&& (255 : Int32)) &&& (63 : Int32))) <<< ((6 : Int32) &&& 31)) ||| ((x3 &&& (255 : Int32)) &&& (63 : Int32)))), .val (.int (65536 : Int32)), .val (.int (x3 &&& (255 : Int32)))] [(.int ((((((((x0 &&& (255 : Int32)) &&& (7 : Int32)) <<< ((6 : Int32) &&& 31)) ||| ((x1 &&& (255 : Int32)) &&& (63 : Int32))) <<< ((6 : Int32) &&& 31)) ||| ((x2 &&& (255 : Int32)) &&& (63 : Int32))) <<< ((6 : Int32) &&& 31)) ||| ((x3 &&& (255 : Int32)) &&& (63 : Int32))))])) rfl (hb hby d2_265) _ k) ?_
                      show Go p e below _ (s₁.setTop (mkF m 267 #[.val (.ref a0), .val (.int p1), .val (.int p2), .val (.int (x0 &&& (255 : Int32))), .val (.int (4 : Int32)), .val (.int ((((((((x0 &&& (255 : Int32)) &&& (7 : Int32)) <<< ((6 : Int32) &&& 31)) ||| ((x1 &&& (255 : Int32)) &&& (63 : Int32))) <<< ((6 : Int32) &&& 31)) ||| ((x2 &&& (255 : Int32)) &&& (63 : Int32))) <<< ((6 : Int32) &&& 31)) ||| ((x3 &&& (255 : Int32)) &&& (63 : Int32)))), .val (.int (65536 : Int32)), .val (.int (x3 &&& (255 : Int32)))] [(.int (1114111 : Int32)), (.int ((((((((x0 &&& (255 : Int32)) &&& (7 : Int32)) <<< ((6 : Int32) &&& 31)) ||| ((x1 &&& (255 : Int32)) &&& (63 : Int32))) <<< ((6 : Int32) &&& 31)) ||| ((x2 &&& (255 : Int32)) &&& (63 : Int32))) <<< ((6 : Int32) &&& 31)) ||| ((x3 &&& (255 : Int32)) &&& (63 : Int32))))]))
                      by_cases hc39 : (1114111 : Int32) < ((((((((x0 &&& (255 : Int32)) &&& (7 : Int32)) <<< ((6 : Int32) &&& 31)) ||| ((x1 &&& (255 : Int32)) &&& (63 : Int32))) <<< ((6 : Int32) &&& 31)) ||| ((x2 &&& (255 : Int32)) &&& (63 : Int32))) <<< ((6 : Int32) &&& 31)) ||| ((x3 &&& (255 : Int32)) &&& (63 : Int32)))
                      · show Go p e below _ (s₁.setTop (mkF m 267 #[.val (.ref a0), .val (.int p1), .val (.int p2), .val (.int (x0 &&& (255 : Int32))), .val (.int (4 : Int32)), .val (.int ((((((((x0 &&& (255 : Int32)) &&& (7 : Int32)) <<< ((6 : Int32) &&& 31)) ||| ((x1 &&& (255 : Int32)) &&& (63 : Int32))) <<< ((6 : Int32) &&& 31)) ||| ((x2 &&& (255 : Int32)) &&& (63 : Int32))) <<< ((6 : Int32) &&& 31)) ||| ((x3 &&& (255 : Int32)) &&& (63 : Int32)))), .val (.int (65536 : Int32)), .val (.int (x3 &&& (255 : Int32)))] [(.int (1114111 : Int32)), (.int ((((((((x0 &&& (255 : Int32)) &&& (7 : Int32)) <<< ((6 : Int32) &&& 31)) ||| ((x1 &&& (255 : Int32)) &&& (63 : Int32))) <<< ((6 : Int32) &&& 31)) ||| ((x2 &&& (255 : Int32)) &&& (63 : Int32))) <<< ((6 : Int32) &&& 31)) ||| ((x3 &&& (255 : Int32)) &&& (63 : Int32))))]))
                        refine Go.st (fun _ k => XS.icmpNo X0.here hx rfl (hb hby d2_267) rfl (tlt hc39).2.2.2 k) ?_
                        show Go p e below _ (s₁.setTop (mkF m 270 #[.val (.ref a0), .val (.int p1), .val (.int p2), .val (.int (x0 &&& (255 : Int32))), .val (.int (4 : Int32)), .val (.int ((((((((x0 &&& (255 : Int32)) &&& (7 : Int32)) <<< ((6 : Int32) &&& 31)) ||| ((x1 &&& (255 : Int32)) &&& (63 : Int32))) <<< ((6 : Int32) &&& 31)) ||| ((x2 &&& (255 : Int32)) &&& (63 : Int32))) <<< ((6 : Int32) &&& 31)) ||| ((x3 &&& (255 : Int32)) &&& (63 : Int32)))), .val (.int (65536 : Int32)), .val (.int (x3 &&& (255 : Int32)))] []))
                        refine Go.st (fun _ k => XS.iconst X0.here hx rfl (hb hby d2_270) k) ?_
                        obtain ⟨fs, hr, hrun, hended, hW, hsame⟩ := X0.leave (v := some (.int (0 : Int32))) (fun h => by rw [Bd.returns] at h; cases h)
                        refine ⟨_, _, retI X0 hx Bd.returns (hb hby d2_271) hr, hrun, hended, _, _, rfl, ?_, ⟨_, rfl⟩, hW, hsame.mono (by decide) (by decide)⟩
                        show Q_rmCL Z x0 x1 x2 x3 a0 p1 p2 kk z vs h0 n0 _ s₁.heap _
                        rw [e0]
                        refine ⟨?_, N0, rfl⟩
                        unfold fCL
                        rw [if_neg hc2, if_neg hc3, if_neg hc13, if_pos hc26, if_neg hc27, if_pos hc30, if_pos hc33, if_pos hc36, if_neg hc37, if_pos hc38, if_pos hc39]
                      · show Go p e below _ (s₁.setTop (mkF m 267 #[.val (.ref a0), .val (.int p1), .val (.int p2), .val (.int (x0 &&& (255 : Int32))), .val (.int (4 : Int32)), .val (.int ((((((((x0 &&& (255 : Int32)) &&& (7 : Int32)) <<< ((6 : Int32) &&& 31)) ||| ((x1 &&& (255 : Int32)) &&& (63 : Int32))) <<< ((6 : Int32) &&& 31)) ||| ((x2 &&& (255 : Int32)) &&& (63 : Int32))) <<< ((6 : Int32) &&& 31)) ||| ((x3 &&& (255 : Int32)) &&& (63 : Int32)))), .val (.int (65536 : Int32)), .val (.int (x3 &&& (255 : Int32)))] [(.int (1114111 : Int32)), (.int ((((((((x0 &&& (255 : Int32)) &&& (7 : Int32)) <<< ((6 : Int32) &&& 31)) ||| ((x1 &&& (255 : Int32)) &&& (63 : Int32))) <<< ((6 : Int32) &&& 31)) ||| ((x2 &&& (255 : Int32)) &&& (63 : Int32))) <<< ((6 : Int32) &&& 31)) ||| ((x3 &&& (255 : Int32)) &&& (63 : Int32))))]))
                        refine Go.st (fun _ k => XS.icmpYes X0.here hx rfl (pc0 := 267) (pc' := 272) rfl (hb hby d2_267) rfl (flt hc39).2.2.2 (by decide) (by decide) k) ?_
                        show Go p e below _ (s₁.setTop (mkF m 272 #[.val (.ref a0), .val (.int p1), .val (.int p2), .val (.int (x0 &&& (255 : Int32))), .val (.int (4 : Int32)), .val (.int ((((((((x0 &&& (255 : Int32)) &&& (7 : Int32)) <<< ((6 : Int32) &&& 31)) ||| ((x1 &&& (255 : Int32)) &&& (63 : Int32))) <<< ((6 : Int32) &&& 31)) ||| ((x2 &&& (255 : Int32)) &&& (63 : Int32))) <<< ((6 : Int32) &&& 31)) ||| ((x3 &&& (255 : Int32)) &&& (63 : Int32)))), .val (.int (65536 : Int32)), .val (.int (x3 &&& (255 : Int32)))] []))
                        refine Go.st (fun _ k => XS.iload X0.here hx rfl (hb hby d2_272) rfl k) ?_
                        obtain ⟨fs, hr, hrun, hended, hW, hsame⟩ := X0.leave (v := some (.int (4 : Int32))) (fun h => by rw [Bd.returns] at h; cases h)
                        refine ⟨_, _, retI X0 hx Bd.returns (hb hby d2_274) hr, hrun, hended, _, _, rfl, ?_, ⟨_, rfl⟩, hW, hsame.mono (by decide) (by decide)⟩
                        show Q_rmCL Z x0 x1 x2 x3 a0 p1 p2 kk z vs h0 n0 _ s₁.heap _
                        rw [e0]
                        refine ⟨?_, N0, rfl⟩
                        unfold fCL
                        rw [if_neg hc2, if_neg hc3, if_neg hc13, if_pos hc26, if_neg hc27, if_pos hc30, if_pos hc33, if_pos hc36, if_neg hc37, if_pos hc38, if_neg hc39]
                    · show Go p e below _ (s₁.setTop (mkF m 251 #[.val (.ref a0), .val (.int p1), .val (.int p2), .val (.int (x0 &&& (255 : Int32))), .val (.int (4 : Int32)), .val (.int ((((((((x0 &&& (255 : Int32)) &&& (7 : Int32)) <<< ((6 : Int32) &&& 31)) ||| ((x1 &&& (255 : Int32)) &&& (63 : Int32))) <<< ((6 : Int32) &&& 31)) ||| ((x2 &&& (255 : Int32)) &&& (63 : Int32))) <<< ((6 : Int32) &&& 31)) ||| ((x3 &&& (255 : Int32)) &&& (63 : Int32)))), .val (.int (65536 : Int32)), .val (.int (x3 &&& (255 : Int32)))] [(.int (55296 : Int32)), (.int ((((((((x0 &&& (255 : Int32)) &&& (7 : Int32)) <<< ((6 : Int32) &&& 31)) ||| ((x1 &&& (255 : Int32)) &&& (63 : Int32))) <<< ((6 : Int32) &&& 31)) ||| ((x2 &&& (255 : Int32)) &&& (63 : Int32))) <<< ((6 : Int32) &&& 31)) ||| ((x3 &&& (255 : Int32)) &&& (63 : Int32))))]))
                      refine Go.st (fun _ k => XS.icmpNo X0.here hx rfl (hb hby d2_251) rfl (flt hc38).1 k) ?_
                      show Go p e below _ (s₁.setTop (mkF m 254 #[.val (.ref a0), .val (.int p1), .val (.int p2), .val (.int (x0 &&& (255 : Int32))), .val (.int (4 : Int32)), .val (.int ((((((((x0 &&& (255 : Int32)) &&& (7 : Int32)) <<< ((6 : Int32) &&& 31)) ||| ((x1 &&& (255 : Int32)) &&& (63 : Int32))) <<< ((6 : Int32) &&& 31)) ||| ((x2 &&& (255 : Int32)) &&& (63 : Int32))) <<< ((6 : Int32) &&& 31)) ||| ((x3 &&& (255 : Int32)) &&& (63 : Int32)))), .val (.int (65536 : Int32)), .val (.int (x3 &&& (255 : Int32)))] []))
                      refine Go.st (fun _ k => XS.iload X0.here hx rfl (hb hby d2_254) rfl k) ?_
                      show Go p e below _ (s₁.setTop (mkF m 256 #[.val (.ref a0), .val (.int p1), .val (.int p2), .val (.int (x0 &&& (255 : Int32))), .val (.int (4 : Int32)), .val (.int ((((((((x0 &&& (255 : Int32)) &&& (7 : Int32)) <<< ((6 : Int32) &&& 31)) ||| ((x1 &&& (255 : Int32)) &&& (63 : Int32))) <<< ((6 : Int32) &&& 31)) ||| ((x2 &&& (255 : Int32)) &&& (63 : Int32))) <<< ((6 : Int32) &&& 31)) ||| ((x3 &&& (255 : Int32)) &&& (63 : Int32)))), .val (.int (65536 : Int32)), .val (.int (x3 &&& (255 : Int32)))] [(.int ((((((((x0 &&& (255 : Int32)) &&& (7 : Int32)) <<< ((6 : Int32) &&& 31)) ||| ((x1 &&& (255 : Int32)) &&& (63 : Int32))) <<< ((6 : Int32) &&& 31)) ||| ((x2 &&& (255 : Int32)) &&& (63 : Int32))) <<< ((6 : Int32) &&& 31)) ||| ((x3 &&& (255 : Int32)) &&& (63 : Int32))))]))
                      refine Go.st (fun _ k => X0.ldcInt hx hown (mvT hZ (hw _ (List.mem_of_getElem? (i := 19) rfl))) (g := (mkF m 256 #[.val (.ref a0), .val (.int p1), .val (.int p2), .val (.int (x0 &&& (255 : Int32))), .val (.int (4 : Int32)), .val (.int ((((((((x0 &&& (255 : Int32)) &&& (7 : Int32)) <<< ((6 : Int32) &&& 31)) ||| ((x1 &&& (255 : Int32)) &&& (63 : Int32))) <<< ((6 : Int32) &&& 31)) ||| ((x2 &&& (255 : Int32)) &&& (63 : Int32))) <<< ((6 : Int32) &&& 31)) ||| ((x3 &&& (255 : Int32)) &&& (63 : Int32)))), .val (.int (65536 : Int32)), .val (.int (x3 &&& (255 : Int32)))] [(.int ((((((((x0 &&& (255 : Int32)) &&& (7 : Int32)) <<< ((6 : Int32) &&& 31)) ||| ((x1 &&& (255 : Int32)) &&& (63 : Int32))) <<< ((6 : Int32) &&& 31)) ||| ((x2 &&& (255 : Int32)) &&& (63 : Int32))) <<< ((6 : Int32) &&& 31)) ||| ((x3 &&& (255 : Int32)) &&& (63 : Int32))))])) rfl (hb hby d2_256) _ k) ?_
                      show Go p e below _ (s₁.setTop (mkF m 258 #[.val (.ref a0), .val (.int p1), .val (.int p2), .val (.int (x0 &&& (255 : Int32))), .val (.int (4 : Int32)), .val (.int ((((((((x0 &&& (255 : Int32)) &&& (7 : Int32)) <<< ((6 : Int32) &&& 31)) ||| ((x1 &&& (255 : Int32)) &&& (63 : Int32))) <<< ((6 : Int32) &&& 31)) ||| ((x2 &&& (255 : Int32)) &&& (63 : Int32))) <<< ((6 : Int32) &&& 31)) ||| ((x3 &&& (255 : Int32)) &&& (63 : Int32)))), .val (.int (65536 : Int32)), .val (.int (x3 &&& (255 : Int32)))] [(.int (57343 : Int32)), (.int ((((((((x0 &&& (255 : Int32)) &&& (7 : Int32)) <<< ((6 : Int32) &&& 31)) ||| ((x1 &&& (255 : Int32)) &&& (63 : Int32))) <<< ((6 : Int32) &&& 31)) ||| ((x2 &&& (255 : Int32)) &&& (63 : Int32))) <<< ((6 : Int32) &&& 31)) ||| ((x3 &&& (255 : Int32)) &&& (63 : Int32))))]))
                      by_cases hc40 : (57343 : Int32) < ((((((((x0 &&& (255 : Int32)) &&& (7 : Int32)) <<< ((6 : Int32) &&& 31)) ||| ((x1 &&& (255 : Int32)) &&& (63 : Int32))) <<< ((6 : Int32) &&& 31)) ||| ((x2 &&& (255 : Int32)) &&& (63 : Int32))) <<< ((6 : Int32) &&& 31)) ||| ((x3 &&& (255 : Int32)) &&& (63 : Int32)))
                      · show Go p e below _ (s₁.setTop (mkF m 258 #[.val (.ref a0), .val (.int p1), .val (.int p2), .val (.int (x0 &&& (255 : Int32))), .val (.int (4 : Int32)), .val (.int ((((((((x0 &&& (255 : Int32)) &&& (7 : Int32)) <<< ((6 : Int32) &&& 31)) ||| ((x1 &&& (255 : Int32)) &&& (63 : Int32))) <<< ((6 : Int32) &&& 31)) ||| ((x2 &&& (255 : Int32)) &&& (63 : Int32))) <<< ((6 : Int32) &&& 31)) ||| ((x3 &&& (255 : Int32)) &&& (63 : Int32)))), .val (.int (65536 : Int32)), .val (.int (x3 &&& (255 : Int32)))] [(.int (57343 : Int32)), (.int ((((((((x0 &&& (255 : Int32)) &&& (7 : Int32)) <<< ((6 : Int32) &&& 31)) ||| ((x1 &&& (255 : Int32)) &&& (63 : Int32))) <<< ((6 : Int32) &&& 31)) ||| ((x2 &&& (255 : Int32)) &&& (63 : Int32))) <<< ((6 : Int32) &&& 31)) ||| ((x3 &&& (255 : Int32)) &&& (63 : Int32))))]))
                        refine Go.st (fun _ k => XS.icmpYes X0.here hx rfl (pc0 := 258) (pc' := 263) rfl (hb hby d2_258) rfl (tlt hc40).2.2.1 (by decide) (by decide) k) ?_
                        show Go p e below _ (s₁.setTop (mkF m 263 #[.val (.ref a0), .val (.int p1), .val (.int p2), .val (.int (x0 &&& (255 : Int32))), .val (.int (4 : Int32)), .val (.int ((((((((x0 &&& (255 : Int32)) &&& (7 : Int32)) <<< ((6 : Int32) &&& 31)) ||| ((x1 &&& (255 : Int32)) &&& (63 : Int32))) <<< ((6 : Int32) &&& 31)) ||| ((x2 &&& (255 : Int32)) &&& (63 : Int32))) <<< ((6 : Int32) &&& 31)) ||| ((x3 &&& (255 : Int32)) &&& (63 : Int32)))), .val (.int (65536 : Int32)), .val (.int (x3 &&& (255 : Int32)))] []))
                        refine Go.st (fun _ k => XS.iload X0.here hx rfl (hb hby d2_263) rfl k) ?_
                        show Go p e below _ (s₁.setTop (mkF m 265 #[.val (.ref a0), .val (.int p1), .val (.int p2), .val (.int (x0 &&& (255 : Int32))), .val (.int (4 : Int32)), .val (.int ((((((((x0 &&& (255 : Int32)) &&& (7 : Int32)) <<< ((6 : Int32) &&& 31)) ||| ((x1 &&& (255 : Int32)) &&& (63 : Int32))) <<< ((6 : Int32) &&& 31)) ||| ((x2 &&& (255 : Int32)) &&& (63 : Int32))) <<< ((6 : Int32) &&& 31)) ||| ((x3 &&& (255 : Int32)) &&& (63 : Int32)))), .val (.int (65536 : Int32)), .val (.int (x3 &&& (255 : Int32)))] [(.int ((((((((x0 &&& (255 : Int32)) &&& (7 : Int32)) <<< ((6 : Int32) &&& 31)) ||| ((x1 &&& (255 : Int32)) &&& (63 : Int32))) <<< ((6 : Int32) &&& 31)) ||| ((x2 &&& (255 : Int32)) &&& (63 : Int32))) <<< ((6 : Int32) &&& 31)) ||| ((x3 &&& (255 : Int32)) &&& (63 : Int32))))]))
                        refine Go.st (fun _ k => X0.ldcInt hx hown (mvT hZ (hw _ (List.mem_of_getElem? (i := 18) rfl))) (g := (mkF m 265 #[.val (.ref a0), .val (.int p1), .val (.int p2), .val (.int (x0 &&& (255 : Int32))), .val (.int (4 : Int32)), .val (.int ((((((((x0 &&& (255 : Int32)) &&& (7 : Int32)) <<< ((6 : Int32) &&& 31)) ||| ((x1 &&& (255 : Int32)) &&& (63 : Int32))) <<< ((6 : Int32) &&& 31)) ||| ((x2 &&& (255 : Int32)) &&& (63 : Int32))) <<< ((6 : Int32) &&& 31)) ||| ((x3 &&& (255 : Int32)) &&& (63 : Int32)))), .val (.int (65536 : Int32)), .val (.int (x3 &&& (255 : Int32)))] [(.int ((((((((x0 &&& (255 : Int32)) &&& (7 : Int32)) <<< ((6 : Int32) &&& 31)) ||| ((x1 &&& (255 : Int32)) &&& (63 : Int32))) <<< ((6 : Int32) &&& 31)) ||| ((x2 &&& (255 : Int32)) &&& (63 : Int32))) <<< ((6 : Int32) &&& 31)) ||| ((x3 &&& (255 : Int32)) &&& (63 : Int32))))])) rfl (hb hby d2_265) _ k) ?_
                        show Go p e below _ (s₁.setTop (mkF m 267 #[.val (.ref a0), .val (.int p1), .val (.int p2), .val (.int (x0 &&& (255 : Int32))), .val (.int (4 : Int32)), .val (.int ((((((((x0 &&& (255 : Int32)) &&& (7 : Int32)) <<< ((6 : Int32) &&& 31)) ||| ((x1 &&& (255 : Int32)) &&& (63 : Int32))) <<< ((6 : Int32) &&& 31)) ||| ((x2 &&& (255 : Int32)) &&& (63 : Int32))) <<< ((6 : Int32) &&& 31)) ||| ((x3 &&& (255 : Int32)) &&& (63 : Int32)))), .val (.int (65536 : Int32)), .val (.int (x3 &&& (255 : Int32)))] [(.int (1114111 : Int32)), (.int ((((((((x0 &&& (255 : Int32)) &&& (7 : Int32)) <<< ((6 : Int32) &&& 31)) ||| ((x1 &&& (255 : Int32)) &&& (63 : Int32))) <<< ((6 : Int32) &&& 31)) ||| ((x2 &&& (255 : Int32)) &&& (63 : Int32))) <<< ((6 : Int32) &&& 31)) ||| ((x3 &&& (255 : Int32)) &&& (63 : Int32))))]))
                        by_cases hc41 : (1114111 : Int32) < ((((((((x0 &&& (255 : Int32)) &&& (7 : Int32)) <<< ((6 : Int32) &&& 31)) ||| ((x1 &&& (255 : Int32)) &&& (63 : Int32))) <<< ((6 : Int32) &&& 31)) ||| ((x2 &&& (255 : Int32)) &&& (63 : Int32))) <<< ((6 : Int32) &&& 31)) ||| ((x3 &&& (255 : Int32)) &&& (63 : Int32)))
                        · show Go p e below _ (s₁.setTop (mkF m 267 #[.val (.ref a0), .val (.int p1), .val (.int p2), .val (.int (x0 &&& (255 : Int32))), .val (.int (4 : Int32)), .val (.int ((((((((x0 &&& (255 : Int32)) &&& (7 : Int32)) <<< ((6 : Int32) &&& 31)) ||| ((x1 &&& (255 : Int32)) &&& (63 : Int32))) <<< ((6 : Int32) &&& 31)) ||| ((x2 &&& (255 : Int32)) &&& (63 : Int32))) <<< ((6 : Int32) &&& 31)) ||| ((x3 &&& (255 : Int32)) &&& (63 : Int32)))), .val (.int (65536 : Int32)), .val (.int (x3 &&& (255 : Int32)))] [(.int (1114111 : Int32)), (.int ((((((((x0 &&& (255 : Int32)) &&& (7 : Int32)) <<< ((6 : Int32) &&& 31)) ||| ((x1 &&& (255 : Int32)) &&& (63 : Int32))) <<< ((6 : Int32) &&& 31)) ||| ((x2 &&& (255 : Int32)) &&& (63 : Int32))) <<< ((6 : Int32) &&& 31)) ||| ((x3 &&& (255 : Int32)) &&& (63 : Int32))))]))
                          refine Go.st (fun _ k => XS.icmpNo X0.here hx rfl (hb hby d2_267) rfl (tlt hc41).2.2.2 k) ?_
                          show Go p e below _ (s₁.setTop (mkF m 270 #[.val (.ref a0), .val (.int p1), .val (.int p2), .val (.int (x0 &&& (255 : Int32))), .val (.int (4 : Int32)), .val (.int ((((((((x0 &&& (255 : Int32)) &&& (7 : Int32)) <<< ((6 : Int32) &&& 31)) ||| ((x1 &&& (255 : Int32)) &&& (63 : Int32))) <<< ((6 : Int32) &&& 31)) ||| ((x2 &&& (255 : Int32)) &&& (63 : Int32))) <<< ((6 : Int32) &&& 31)) ||| ((x3 &&& (255 : Int32)) &&& (63 : Int32)))), .val (.int (65536 : Int32)), .val (.int (x3 &&& (255 : Int32)))] []))
                          refine Go.st (fun _ k => XS.iconst X0.here hx rfl (hb hby d2_270) k) ?_
                          obtain ⟨fs, hr, hrun, hended, hW, hsame⟩ := X0.leave (v := some (.int (0 : Int32))) (fun h => by rw [Bd.returns] at h; cases h)
                          refine ⟨_, _, retI X0 hx Bd.returns (hb hby d2_271) hr, hrun, hended, _, _, rfl, ?_, ⟨_, rfl⟩, hW, hsame.mono (by decide) (by decide)⟩
                          show Q_rmCL Z x0 x1 x2 x3 a0 p1 p2 kk z vs h0 n0 _ s₁.heap _
                          rw [e0]
                          refine ⟨?_, N0, rfl⟩
                          unfold fCL
                          rw [if_neg hc2, if_neg hc3, if_neg hc13, if_pos hc26, if_neg hc27, if_pos hc30, if_pos hc33, if_pos hc36, if_neg hc37, if_neg hc38, if_pos hc40, if_pos hc41]
                        · show Go p e below _ (s₁.setTop (mkF m 267 #[.val (.ref a0), .val (.int p1), .val (.int p2), .val (.int (x0 &&& (255 : Int32))), .val (.int (4 : Int32)), .val (.int ((((((((x0 &&& (255 : Int32)) &&& (7 : Int32)) <<< ((6 : Int32) &&& 31)) ||| ((x1 &&& (255 : Int32)) &&& (63 : Int32))) <<< ((6 : Int32) &&& 31)) ||| ((x2 &&& (255 : Int32)) &&& (63 : Int32))) <<< ((6 : Int32) &&& 31)) ||| ((x3 &&& (255 : Int32)) &&& (63 : Int32)))), .val (.int (65536 : Int32)), .val (.int (x3 &&& (255 : Int32)))] [(.int (1114111 : Int32)), (.int ((((((((x0 &&& (255 : Int32)) &&& (7 : Int32)) <<< ((6 : Int32) &&& 31)) ||| ((x1 &&& (255 : Int32)) &&& (63 : Int32))) <<< ((6 : Int32) &&& 31)) ||| ((x2 &&& (255 : Int32)) &&& (63 : Int32))) <<< ((6 : Int32) &&& 31)) ||| ((x3 &&& (255 : Int32)) &&& (63 : Int32))))]))
                          refine Go.st (fun _ k => XS.icmpYes X0.here hx rfl (pc0 := 267) (pc' := 272) rfl (hb hby d2_267) rfl (flt hc41).2.2.2 (by decide) (by decide) k) ?_
                          show Go p e below _ (s₁.setTop (mkF m 272 #[.val (.ref a0), .val (.int p1), .val (.int p2), .val (.int (x0 &&& (255 : Int32))), .val (.int (4 : Int32)), .val (.int ((((((((x0 &&& (255 : Int32)) &&& (7 : Int32)) <<< ((6 : Int32) &&& 31)) ||| ((x1 &&& (255 : Int32)) &&& (63 : Int32))) <<< ((6 : Int32) &&& 31)) ||| ((x2 &&& (255 : Int32)) &&& (63 : Int32))) <<< ((6 : Int32) &&& 31)) ||| ((x3 &&& (255 : Int32)) &&& (63 : Int32)))), .val (.int (65536 : Int32)), .val (.int (x3 &&& (255 : Int32)))] []))
                          refine Go.st (fun _ k => XS.iload X0.here hx rfl (hb hby d2_272) rfl k) ?_
                          obtain ⟨fs, hr, hrun, hended, hW, hsame⟩ := X0.leave (v := some (.int (4 : Int32))) (fun h => by rw [Bd.returns] at h; cases h)
                          refine ⟨_, _, retI X0 hx Bd.returns (hb hby d2_274) hr, hrun, hended, _, _, rfl, ?_, ⟨_, rfl⟩, hW, hsame.mono (by decide) (by decide)⟩
                          show Q_rmCL Z x0 x1 x2 x3 a0 p1 p2 kk z vs h0 n0 _ s₁.heap _
                          rw [e0]
                          refine ⟨?_, N0, rfl⟩
                          unfold fCL
                          rw [if_neg hc2, if_neg hc3, if_neg hc13, if_pos hc26, if_neg hc27, if_pos hc30, if_pos hc33, if_pos hc36, if_neg hc37, if_neg hc38, if_pos hc40, if_neg hc41]
                      · show Go p e below _ (s₁.setTop (mkF m 258 #[.val (.ref a0), .val (.int p1), .val (.int p2), .val (.int (x0 &&& (255 : Int32))), .val (.int (4 : Int32)), .val (.int ((((((((x0 &&& (255 : Int32)) &&& (7 : Int32)) <<< ((6 : Int32) &&& 31)) ||| ((x1 &&& (255 : Int32)) &&& (63 : Int32))) <<< ((6 : Int32) &&& 31)) ||| ((x2 &&& (255 : Int32)) &&& (63 : Int32))) <<< ((6 : Int32) &&& 31)) ||| ((x3 &&& (255 : Int32)) &&& (63 : Int32)))), .val (.int (65536 : Int32)), .val (.int (x3 &&& (255 : Int32)))] [(.int (57343 : Int32)), (.int ((((((((x0 &&& (255 : Int32)) &&& (7 : Int32)) <<< ((6 : Int32) &&& 31)) ||| ((x1 &&& (255 : Int32)) &&& (63 : Int32))) <<< ((6 : Int32) &&& 31)) ||| ((x2 &&& (255 : Int32)) &&& (63 : Int32))) <<< ((6 : Int32) &&& 31)) ||| ((x3 &&& (255 : Int32)) &&& (63 : Int32))))]))
                        refine Go.st (fun _ k => XS.icmpNo X0.here hx rfl (hb hby d2_258) rfl (flt hc40).2.2.1 k) ?_
                        show Go p e below _ (s₁.setTop (mkF m 261 #[.val (.ref a0), .val (.int p1), .val (.int p2), .val (.int (x0 &&& (255 : Int32))), .val (.int (4 : Int32)), .val (.int ((((((((x0 &&& (255 : Int32)) &&& (7 : Int32)) <<< ((6 : Int32) &&& 31)) ||| ((x1 &&& (255 : Int32)) &&& (63 : Int32))) <<< ((6 : Int32) &&& 31)) ||| ((x2 &&& (255 : Int32)) &&& (63 : Int32))) <<< ((6 : Int32) &&& 31)) ||| ((x3 &&& (255 : Int32)) &&& (63 : Int32)))), .val (.int (65536 : Int32)), .val (.int (x3 &&& (255 : Int32)))] []))
                        refine Go.st (fun _ k => XS.iconst X0.here hx rfl (hb hby d2_261) k) ?_
                        obtain ⟨fs, hr, hrun, hended, hW, hsame⟩ := X0.leave (v := some (.int (0 : Int32))) (fun h => by rw [Bd.returns] at h; cases h)
                        refine ⟨_, _, retI X0 hx Bd.returns (hb hby d2_262) hr, hrun, hended, _, _, rfl, ?_, ⟨_, rfl⟩, hW, hsame.mono (by decide) (by decide)⟩
                        show Q_rmCL Z x0 x1 x2 x3 a0 p1 p2 kk z vs h0 n0 _ s₁.heap _
                        rw [e0]
                        refine ⟨?_, N0, rfl⟩
                        unfold fCL
                        rw [if_neg hc2, if_neg hc3, if_neg hc13, if_pos hc26, if_neg hc27, if_pos hc30, if_pos hc33, if_pos hc36, if_neg hc37, if_neg hc38, if_neg hc40]
                · show Go p e below _ (s₁.setTop (mkF m 220 #[.val (.ref a0), .val (.int p1), .val (.int p2), .val (.int (x0 &&& (255 : Int32))), .val (.int (4 : Int32)), .val (.int ((((((x0 &&& (255 : Int32)) &&& (7 : Int32)) <<< ((6 : Int32) &&& 31)) ||| ((x1 &&& (255 : Int32)) &&& (63 : Int32))) <<< ((6 : Int32) &&& 31)) ||| ((x2 &&& (255 : Int32)) &&& (63 : Int32)))), .val (.int (65536 : Int32)), .val (.int (x3 &&& (255 : Int32)))] [(.int (128 : Int32)), (.int ((x3 &&& (255 : Int32)) &&& (192 : Int32)))]))
                  refine Go.st (fun _ k => XS.icmpNo X0.here hx rfl (hb hby d2_220) rfl (feq hc36).1 k) ?_
                  show Go p e below _ (s₁.setTop (mkF m 223 #[.val (.ref a0), .val (.int p1), .val (.int p2), .val (.int (x0 &&& (255 : Int32))), .val (.int (4 : Int32)), .val (.int ((((((x0 &&& (255 : Int32)) &&& (7 : Int32)) <<< ((6 : Int32) &&& 31)) ||| ((x1 &&& (255 : Int32)) &&& (63 : Int32))) <<< ((6 : Int32) &&& 31)) ||| ((x2 &&& (255 : Int32)) &&& (63 : Int32)))), .val (.int (65536 : Int32)), .val (.int (x3 &&& (255 : Int32)))] []))
                  refine Go.st (fun _ k => XS.iconst X0.here hx rfl (hb hby d2_223) k) ?_
                  obtain ⟨fs, hr, hrun, hended, hW, hsame⟩ := X0.leave (v := some (.int (0 : Int32))) (fun h => by rw [Bd.returns] at h; cases h)
                  refine ⟨_, _, retI X0 hx Bd.returns (hb hby d2_224) hr, hrun, hended, _, _, rfl, ?_, ⟨_, rfl⟩, hW, hsame.mono (by decide) (by decide)⟩
                  show Q_rmCL Z x0 x1 x2 x3 a0 p1 p2 kk z vs h0 n0 _ s₁.heap _
                  rw [e0]
                  refine ⟨?_, N0, rfl⟩
                  unfold fCL
                  rw [if_neg hc2, if_neg hc3, if_neg hc13, if_pos hc26, if_neg hc27, if_pos hc30, if_pos hc33, if_neg hc36]
              · show Go p e below _ (s₁.setTop (mkF m 176 #[.val (.ref a0), .val (.int p1), .val (.int p2), .val (.int (x0 &&& (255 : Int32))), .val (.int (4 : Int32)), .val (.int ((((x0 &&& (255 : Int32)) &&& (7 : Int32)) <<< ((6 : Int32) &&& 31)) ||| ((x1 &&& (255 : Int32)) &&& (63 : Int32)))), .val (.int (65536 : Int32)), .val (.int (x2 &&& (255 : Int32)))] [(.int (128 : Int32)), (.int ((x2 &&& (255 : Int32)) &&& (192 : Int32)))]))
                refine Go.st (fun _ k => XS.icmpNo X0.here hx rfl (hb hby d2_176) rfl (feq hc33).1 k) ?_
                show Go p e below _ (s₁.setTop (mkF m 179 #[.val (.ref a0), .val (.int p1), .val (.int p2), .val (.int (x0 &&& (255 : Int32))), .val (.int (4 : Int32)), .val (.int ((((x0 &&& (255 : Int32)) &&& (7 : Int32)) <<< ((6 : Int32) &&& 31)) ||| ((x1 &&& (255 : Int32)) &&& (63 : Int32)))), .val (.int (65536 : Int32)), .val (.int (x2 &&& (255 : Int32)))] []))
                refine Go.st (fun _ k => XS.iconst X0.here hx rfl (hb hby d2_179) k) ?_
                obtain ⟨fs, hr, hrun, hended, hW, hsame⟩ := X0.leave (v := some (.int (0 : Int32))) (fun h => by rw [Bd.returns] at h; cases h)
                refine ⟨_, _, retI X0 hx Bd.returns (hb hby d2_180) hr, hrun, hended, _, _, rfl, ?_, ⟨_, rfl⟩, hW, hsame.mono (by decide) (by decide)⟩
                show Q_rmCL Z x0 x1 x2 x3 a0 p1 p2 kk z vs h0 n0 _ s₁.heap _
                rw [e0]
                refine ⟨?_, N0, rfl⟩
                unfold fCL
                rw [if_neg hc2, if_neg hc3, if_neg hc13, if_pos hc26, if_neg hc27, if_pos hc30, if_neg hc33]
            · show Go p e below _ (s₁.setTop (mkF m 132 #[.val (.ref a0), .val (.int p1), .val (.int p2), .val (.int (x0 &&& (255 : Int32))), .val (.int (4 : Int32)), .val (.int ((x0 &&& (255 : Int32)) &&& (7 : Int32))), .val (.int (65536 : Int32)), .val (.int (x1 &&& (255 : Int32)))] [(.int (128 : Int32)), (.int ((x1 &&& (255 : Int32)) &&& (192 : Int32)))]))
              refine Go.st (fun _ k => XS.icmpNo X0.here hx rfl (hb hby d2_132) rfl (feq hc30).1 k) ?_
              show Go p e below _ (s₁.setTop (mkF m 135 #[.val (.ref a0), .val (.int p1), .val (.int p2), .val (.int (x0 &&& (255 : Int32))), .val (.int (4 : Int32)), .val (.int ((x0 &&& (255 : Int32)) &&& (7 : Int32))), .val (.int (65536 : Int32)), .val (.int (x1 &&& (255 : Int32)))] []))
              refine Go.st (fun _ k => XS.iconst X0.here hx rfl (hb hby d2_135) k) ?_
              obtain ⟨fs, hr, hrun, hended, hW, hsame⟩ := X0.leave (v := some (.int (0 : Int32))) (fun h => by rw [Bd.returns] at h; cases h)
              refine ⟨_, _, retI X0 hx Bd.returns (hb hby d2_136) hr, hrun, hended, _, _, rfl, ?_, ⟨_, rfl⟩, hW, hsame.mono (by decide) (by decide)⟩
              show Q_rmCL Z x0 x1 x2 x3 a0 p1 p2 kk z vs h0 n0 _ s₁.heap _
              rw [e0]
              refine ⟨?_, N0, rfl⟩
              unfold fCL
              rw [if_neg hc2, if_neg hc3, if_neg hc13, if_pos hc26, if_neg hc27, if_neg hc30]
        · show Go p e below _ (s₁.setTop (mkF m 81 #[.val (.ref a0), .val (.int p1), .val (.int p2), .val (.int (x0 &&& (255 : Int32))), .unset, .unset, .unset, .unset] [(.int (240 : Int32)), (.int ((x0 &&& (255 : Int32)) &&& (248 : Int32)))]))
          refine Go.st (fun _ k => XS.icmpYes X0.here hx rfl (pc0 := 81) (pc' := 100) rfl (hb hby d2_81) rfl (feq hc26).2 (by decide) (by decide) k) ?_
          show Go p e below _ (s₁.setTop (mkF m 100 #[.val (.ref a0), .val (.int p1), .val (.int p2), .val (.int (x0 &&& (255 : Int32))), .unset, .unset, .unset, .unset] []))
          refine Go.st (fun _ k => XS.iconst X0.here hx rfl (hb hby d2_100) k) ?_
          obtain ⟨fs, hr, hrun, hended, hW, hsame⟩ := X0.leave (v := some (.int (0 : Int32))) (fun h => by rw [Bd.returns] at h; cases h)
          refine ⟨_, _, retI X0 hx Bd.returns (hb hby d2_101) hr, hrun, hended, _, _, rfl, ?_, ⟨_, rfl⟩, hW, hsame.mono (by decide) (by decide)⟩
          show Q_rmCL Z x0 x1 x2 x3 a0 p1 p2 kk z vs h0 n0 _ s₁.heap _
          rw [e0]
          refine ⟨?_, N0, rfl⟩
          unfold fCL
          rw [if_neg hc2, if_neg hc3, if_neg hc13, if_neg hc26]
theorem own_natI {x : Int32} (h : 0 ≤ x.toInt) : x.toInt = (x.toBitVec.toNat : Int) := by
  have e : x.toInt = x.toBitVec.toInt := rfl
  have hb := x.toBitVec.isLt
  rw [e, BitVec.toInt_eq_toNat_cond] at h ⊢
  split
  · rfl
  · rename_i hc
    rw [if_neg hc] at h
    omega
theorem own_orN {a b k : Nat} (hm : a % 2 ^ k = 0) (hb : b < 2 ^ k) : a ||| b = a + b := by
  have e : a = 2 ^ k * (a / 2 ^ k) := by
    have := Nat.div_add_mod a (2 ^ k)
    omega
  rw [e]
  exact (Nat.two_pow_add_eq_or_of_lt hb _).symm
theorem own_orI {a b : Int32} (k : Nat) (ha : 0 ≤ a.toInt) (hm : a.toInt % ((2 ^ k : Nat) : Int) = 0) (hb : 0 ≤ b.toInt) (hb2 : b.toInt < ((2 ^ k : Nat) : Int)) (hs : a.toInt + b.toInt < 2 ^ 31) : (a ||| b).toInt = a.toInt + b.toInt := by
  have ea := own_natI ha
  have eb := own_natI hb
  rw [ea] at hm hs ⊢
  rw [eb] at hb2 hs ⊢
  have e1 : (a ||| b).toBitVec.toNat = a.toBitVec.toNat + b.toBitVec.toNat := by
    rw [Int32.toBitVec_or, BitVec.toNat_or]
    exact own_orN (k := k) (by omega) (by omega)
  have e2 : (a ||| b).toInt = (a ||| b).toBitVec.toInt := rfl
  rw [e2, BitVec.toInt_eq_toNat_cond, e1, if_pos (by omega)]
  omega
theorem own_np {c b : Int32} (h : 0 ≤ c.toInt) (hc : c.toInt < 1048576) (b0 : 0 ≤ b.toInt) : ((c <<< ((6 : Int32) &&& 31)) ||| (b &&& (63 : Int32))).toInt = c.toInt * 64 + b.toInt % 64 := by
  have e2 := Jvm.Kit.i32_mask b 63 (k := 6) (by decide) (by decide)
  have e3 := Jvm.Kit.i32_shl c ((6 : Int32) &&& 31) (k := 6) (by decide) (by omega) (by omega)
  rw [own_orI 6 (by omega) (by omega) (by omega) (by omega) (by omega), e3, e2]
  omega
theorem own_b255 (b : Int32) : 0 ≤ (b &&& (255 : Int32)).toInt ∧ (b &&& (255 : Int32)).toInt ≤ 255 := by
  have e := Jvm.Kit.i32_mask b 255 (k := 8) (by decide) (by decide)
  omega
theorem own_ofn {a : Int32} (h0 : 0 ≤ a.toInt) : a = Int32.ofNat a.toInt.toNat := by
  have hl := a.toInt_lt
  apply Int32.toInt_inj.mp
  rw [Int32.toInt_ofNat_of_lt (by omega)]
  omega
theorem own_m2 {a : Int32} (h0 : 0 ≤ a.toInt ∧ a.toInt ≤ 255) : ((a &&& (224 : Int32)) = (192 : Int32)) = (192 ≤ a.toInt ∧ a.toInt ≤ 223) := by
  have tab : ∀ n : Fin 256, ((Int32.ofNat n.val &&& (224 : Int32)) = (192 : Int32)) = (192 ≤ n.val ∧ n.val ≤ 223) := by decide +kernel
  have e := own_ofn h0.1
  have := tab ⟨a.toInt.toNat, by omega⟩
  simp only at this
  rw [← e] at this
  rw [this]
  apply propext
  omega
theorem own_m3 {a : Int32} (h0 : 0 ≤ a.toInt ∧ a.toInt ≤ 255) : ((a &&& (240 : Int32)) = (224 : Int32)) = (224 ≤ a.toInt ∧ a.toInt ≤ 239) := by
  have tab : ∀ n : Fin 256, ((Int32.ofNat n.val &&& (240 : Int32)) = (224 : Int32)) = (224 ≤ n.val ∧ n.val ≤ 239) := by decide +kernel
  have e := own_ofn h0.1
  have := tab ⟨a.toInt.toNat, by omega⟩
  simp only at this
  rw [← e] at this
  rw [this]
  apply propext
  omega
theorem own_m4 {a : Int32} (h0 : 0 ≤ a.toInt ∧ a.toInt ≤ 255) : ((a &&& (248 : Int32)) = (240 : Int32)) = (240 ≤ a.toInt ∧ a.toInt ≤ 247) := by
  have tab : ∀ n : Fin 256, ((Int32.ofNat n.val &&& (248 : Int32)) = (240 : Int32)) = (240 ≤ n.val ∧ n.val ≤ 247) := by decide +kernel
  have e := own_ofn h0.1
  have := tab ⟨a.toInt.toNat, by omega⟩
  simp only at this
  rw [← e] at this
  rw [this]
  apply propext
  omega
theorem own_mc {a : Int32} (h0 : 0 ≤ a.toInt ∧ a.toInt ≤ 255) : ((a &&& (192 : Int32)) = (128 : Int32)) = (128 ≤ a.toInt ∧ a.toInt ≤ 191) := by
  have tab : ∀ n : Fin 256, ((Int32.ofNat n.val &&& (192 : Int32)) = (128 : Int32)) = (128 ≤ n.val ∧ n.val ≤ 191) := by decide +kernel
  have e := own_ofn h0.1
  have := tab ⟨a.toInt.toNat, by omega⟩
  simp only at this
  rw [← e] at this
  rw [this]
  apply propext
  omega
def own_R (p z A B : Int32) : Prop := (A = -1 ∧ B = 0) ∨ (1 ≤ B.toInt ∧ B.toInt ≤ 4 ∧ A = p + B ∧ p.toInt + B.toInt ≤ z.toInt)
theorem own_R0 {p z : Int32} : own_R p z (-1) 0 := Or.inl ⟨rfl, rfl⟩
theorem own_R2 {p z : Int32} (h : ¬ z.toInt < p.toInt + 2) : own_R p z (p + (2 : Int32)) 2 := Or.inr ⟨by decide, by decide, rfl, by have c : (2 : Int32).toInt = 2 := (by decide); omega⟩
theorem own_R3 {p z : Int32} (h : ¬ z.toInt < p.toInt + 3) : own_R p z (p + (3 : Int32)) 3 := Or.inr ⟨by decide, by decide, rfl, by have c : (3 : Int32).toInt = 3 := (by decide); omega⟩
theorem own_R4 {p z : Int32} (h : ¬ z.toInt < p.toInt + 4) : own_R p z (p + (4 : Int32)) 4 := Or.inr ⟨by decide, by decide, rfl, by have c : (4 : Int32).toInt = 4 := (by decide); omega⟩
set_option maxRecDepth 65536 in
set_option maxHeartbeats 40000000 in
theorem own_core {a0 a1 a2 a3 p z y0 y1 y2 y3 : Int32} (b0 : 128 ≤ a0.toInt ∧ a0.toInt ≤ 255) (b1 : 0 ≤ a1.toInt ∧ a1.toInt ≤ 255) (b2 : 0 ≤ a2.toInt ∧ a2.toInt ≤ 255) (b3 : 0 ≤ a3.toInt ∧ a3.toInt ≤ 255)
    (h0 : y0 &&& (255 : Int32) = a0) (h1 : y1 &&& (255 : Int32) = a1) (h2 : y2 &&& (255 : Int32) = a2) (h3 : y3 &&& (255 : Int32) = a3) (hp : 0 ≤ p.toInt) (hpz : p.toInt < z.toInt) (hz : z.toInt ≤ 100) :
    own_R p z (fCE y0 y1 y2 y3 p z) (fCL y0 y1 y2 y3 z p) := by
  have x0a := own_m2 (a := a0) ⟨by omega, b0.2⟩
  have x0b := own_m3 (a := a0) ⟨by omega, b0.2⟩
  have x0c := own_m4 (a := a0) ⟨by omega, b0.2⟩
  have x1 := own_mc b1
  have x2 := own_mc b2
  have x3 := own_mc b3
  have g2 := Jvm.Kit.i32_mask a0 31 (k := 5) (by decide) (by decide)
  have g3 := Jvm.Kit.i32_mask a0 15 (k := 4) (by decide) (by decide)
  have g4 := Jvm.Kit.i32_mask a0 7 (k := 3) (by decide) (by decide)
  have e2 := own_np (c := (a0 &&& (31 : Int32))) (by omega) (by omega) b1.1
  have e3' := own_np (c := (a0 &&& (15 : Int32))) (by omega) (by omega) b1.1
  have e3 := own_np (by omega) (by omega) b2.1 (c := (((a0 &&& (15 : Int32)) <<< ((6 : Int32) &&& 31)) ||| (a1 &&& (63 : Int32))))
  have e4' := own_np (c := (a0 &&& (7 : Int32))) (by omega) (by omega) b1.1
  have e4'' := own_np (by omega) (by omega) b2.1 (c := (((a0 &&& (7 : Int32)) <<< ((6 : Int32) &&& 31)) ||| (a1 &&& (63 : Int32))))
  have e4 := own_np (by omega) (by omega) b3.1 (c := (((((a0 &&& (7 : Int32)) <<< ((6 : Int32) &&& 31)) ||| (a1 &&& (63 : Int32))) <<< ((6 : Int32) &&& 31)) ||| (a2 &&& (63 : Int32))))
  rw [e3', g3] at e3
  rw [e4'', e4', g4] at e4
  rw [g2] at e2
  clear e3' e4' e4'' g2 g3 g4
  have s2 : (p + (2 : Int32)).toInt = p.toInt + 2 := own_addk hp (by omega) (by decide) (by decide)
  have s3 : (p + (3 : Int32)).toInt = p.toInt + 3 := own_addk hp (by omega) (by decide) (by decide)
  have s4 : (p + (4 : Int32)).toInt = p.toInt + 4 := own_addk hp (by omega) (by decide) (by decide)
  have s0 : (z - p).toInt = z.toInt - p.toInt := Jvm.Kit.i32_sub (by omega) (by omega)
  unfold fCE fCL fT2 fT3 fT4
  simp only [h0, h1, h2, h3, x0a, x0b, x0c, x1, x2, x3]
  generalize (((a0 &&& (31 : Int32)) <<< ((6 : Int32) &&& 31)) ||| (a1 &&& (63 : Int32))) = v2 at *
  generalize (((((a0 &&& (15 : Int32)) <<< ((6 : Int32) &&& 31)) ||| (a1 &&& (63 : Int32))) <<< ((6 : Int32) &&& 31)) ||| (a2 &&& (63 : Int32))) = v3 at *
  generalize (((((((a0 &&& (7 : Int32)) <<< ((6 : Int32) &&& 31)) ||| (a1 &&& (63 : Int32))) <<< ((6 : Int32) &&& 31)) ||| (a2 &&& (63 : Int32))) <<< ((6 : Int32) &&& 31)) ||| (a3 &&& (63 : Int32))) = v4 at *
  clear x0a x0b x0c x1 x2 x3 h0 h1 h2 h3
  have l2 : (2 : Int32).toInt = 2 := by decide
  have l3 : (3 : Int32).toInt = 3 := by decide
  have l4 : (4 : Int32).toInt = 4 := by decide
  have l128 : (128 : Int32).toInt = 128 := by decide
  have l143 : (143 : Int32).toInt = 143 := by decide
  have l144 : (144 : Int32).toInt = 144 := by decide
  have l159 : (159 : Int32).toInt = 159 := by decide
  have l160 : (160 : Int32).toInt = 160 := by decide
  have l191 : (191 : Int32).toInt = 191 := by decide
  have l194 : (194 : Int32).toInt = 194 := by decide
  have l223 : (223 : Int32).toInt = 223 := by decide
  have l224 : (224 : Int32).toInt = 224 := by decide
  have l237 : (237 : Int32).toInt = 237 := by decide
  have l239 : (239 : Int32).toInt = 239 := by decide
  have l240 : (240 : Int32).toInt = 240 := by decide
  have l244 : (244 : Int32).toInt = 244 := by decide
  have l2048 : (2048 : Int32).toInt = 2048 := by decide
  have l65536 : (65536 : Int32).toInt = 65536 := by decide
  have l1114111 : (1114111 : Int32).toInt = 1114111 := by decide
  have l55296 : (55296 : Int32).toInt = 55296 := by decide
  have l57343 : (57343 : Int32).toInt = 57343 := by decide
  simp only [Int32.lt_iff_toInt_lt, ← Int32.toInt_inj (x := a0), s0, s2, s3, s4, l2, l3, l4, l128, l143, l144, l159, l160, l191, l194, l223, l224, l237, l239, l240, l244, l2048, l65536, l1114111, l55296, l57343]
  clear s0 s2 s3 s4 l2 l3 l4 l128 l143 l144 l159 l160 l191 l194 l223 l224 l237 l239 l240 l244 l2048 l65536 l1114111 l55296 l57343
  have hr : (128 ≤ a0.toInt ∧ a0.toInt ≤ 191) ∨ (192 ≤ a0.toInt ∧ a0.toInt ≤ 193) ∨ (194 ≤ a0.toInt ∧ a0.toInt ≤ 223) ∨ (224 ≤ a0.toInt ∧ a0.toInt ≤ 224) ∨ (225 ≤ a0.toInt ∧ a0.toInt ≤ 236) ∨ (237 ≤ a0.toInt ∧ a0.toInt ≤ 237) ∨ (238 ≤ a0.toInt ∧ a0.toInt ≤ 239) ∨ (240 ≤ a0.toInt ∧ a0.toInt ≤ 240) ∨ (241 ≤ a0.toInt ∧ a0.toInt ≤ 243) ∨ (244 ≤ a0.toInt ∧ a0.toInt ≤ 244) ∨ (245 ≤ a0.toInt ∧ a0.toInt ≤ 247) ∨ (248 ≤ a0.toInt ∧ a0.toInt ≤ 255) := by omega
  rcases hr with hr | hr | hr | hr | hr | hr | hr | hr | hr | hr | hr | hr
  · have f0 : ¬ (a0.toInt < 128) := by omega
    have f1 : (a0.toInt < 194) := by omega
    have f2 : ¬ (223 < a0.toInt) := by omega
    have f3 : ¬ (239 < a0.toInt) := by omega
    have f4 : ¬ (244 < a0.toInt) := by omega
    have f5 : ¬ (a0.toInt = 224) := by omega
    have f6 : ¬ (a0.toInt = 237) := by omega
    have f7 : ¬ (a0.toInt = 240) := by omega
    have f8 : ¬ (a0.toInt = 244) := by omega
    have f9 : ¬ (192 ≤ a0.toInt ∧ a0.toInt ≤ 223) := by omega
    have f10 : ¬ (224 ≤ a0.toInt ∧ a0.toInt ≤ 239) := by omega
    have f11 : ¬ (240 ≤ a0.toInt ∧ a0.toInt ≤ 247) := by omega
    simp only [f0, f1, f2, f3, f4, f5, f6, f7, f8, f9, f10, f11, if_true, if_false]
    exact own_R0
  · have f0 : ¬ (a0.toInt < 128) := by omega
    have f1 : (a0.toInt < 194) := by omega
    have f2 : ¬ (223 < a0.toInt) := by omega
    have f3 : ¬ (239 < a0.toInt) := by omega
    have f4 : ¬ (244 < a0.toInt) := by omega
    have f5 : ¬ (a0.toInt = 224) := by omega
    have f6 : ¬ (a0.toInt = 237) := by omega
    have f7 : ¬ (a0.toInt = 240) := by omega
    have f8 : ¬ (a0.toInt = 244) := by omega
    have f9 : (192 ≤ a0.toInt ∧ a0.toInt ≤ 223) := by omega
    have f10 : ¬ (224 ≤ a0.toInt ∧ a0.toInt ≤ 239) := by omega
    have f11 : ¬ (240 ≤ a0.toInt ∧ a0.toInt ≤ 247) := by omega
    simp only [f0, f1, f2, f3, f4, f5, f6, f7, f8, eq_true f9, f10, f11, if_true, if_false]
    clear f0 f1 f2 f3 f4 f5 f6 f7 f8 f9 f10 f11
    clear e3 e4
    by_cases hk : z.toInt < p.toInt + 2
    · simp only [hk, if_true]
      exact own_R0
    · simp only [hk, if_false]
      by_cases q1 : 128 ≤ a1.toInt ∧ a1.toInt ≤ 191
      rotate_left
      · simp only [q1, if_false]
        exact own_R0
      simp only [eq_true q1, if_true]
      have ww : v2.toInt = (a0.toInt - 192) * 64 + (a1.toInt - 128) * 1 := by omega
      clear e2
      repeat' split
      all_goals first | exact own_R0 | exact own_R2 hk | (exfalso; omega)
  · have f0 : ¬ (a0.toInt < 128) := by omega
    have f1 : ¬ (a0.toInt < 194) := by omega
    have f2 : ¬ (223 < a0.toInt) := by omega
    have f3 : ¬ (239 < a0.toInt) := by omega
    have f4 : ¬ (244 < a0.toInt) := by omega
    have f5 : ¬ (a0.toInt = 224) := by omega
    have f6 : ¬ (a0.toInt = 237) := by omega
    have f7 : ¬ (a0.toInt = 240) := by omega
    have f8 : ¬ (a0.toInt = 244) := by omega
    have f9 : (192 ≤ a0.toInt ∧ a0.toInt ≤ 223) := by omega
    have f10 : ¬ (224 ≤ a0.toInt ∧ a0.toInt ≤ 239) := by omega
    have f11 : ¬ (240 ≤ a0.toInt ∧ a0.toInt ≤ 247) := by omega
    simp only [f0, f1, f2, f3, f4, f5, f6, f7, f8, eq_true f9, f10, f11, if_true, if_false]
    clear f0 f1 f2 f3 f4 f5 f6 f7 f8 f9 f10 f11
    clear e3 e4
    by_cases hk : z.toInt < p.toInt + 2
    · have hk' : z.toInt - p.toInt < 2 := by omega
      simp only [hk, hk', if_true]
      exact own_R0
    · have hk' : ¬ z.toInt - p.toInt < 2 := by omega
      simp only [hk, hk', if_false]
      by_cases q1 : 128 ≤ a1.toInt ∧ a1.toInt ≤ 191
      rotate_left
      · simp only [q1, if_false]
        clear e2
        repeat' split
        all_goals first | exact own_R0 | (exfalso; omega)
      simp only [eq_true q1, if_true]
      have ww : v2.toInt = (a0.toInt - 192) * 64 + (a1.toInt - 128) * 1 := by omega
      clear e2
      repeat' split
      all_goals first | exact own_R0 | exact own_R2 hk | (exfalso; omega)
  · have f0 : ¬ (a0.toInt < 128) := by omega
    have f1 : ¬ (a0.toInt < 194) := by omega
    have f2 : (223 < a0.toInt) := by omega
    have f3 : ¬ (239 < a0.toInt) := by omega
    have f4 : ¬ (244 < a0.toInt) := by omega
    have f5 : (a0.toInt = 224) := by omega
    have f6 : ¬ (a0.toInt = 237) := by omega
    have f7 : ¬ (a0.toInt = 240) := by omega
    have f8 : ¬ (a0.toInt = 244) := by omega
    have f9 : ¬ (192 ≤ a0.toInt ∧ a0.toInt ≤ 223) := by omega
    have f10 : (224 ≤ a0.toInt ∧ a0.toInt ≤ 239) := by omega
    have f11 : ¬ (240 ≤ a0.toInt ∧ a0.toInt ≤ 247) := by omega
    simp only [f0, f1, f2, f3, f4, eq_true f5, f6, f7, f8, f9, eq_true f10, f11, if_true, if_false]
    clear f0 f1 f2 f3 f4 f5 f6 f7 f8 f9 f10 f11
    clear e2 e4
    by_cases hk : z.toInt < p.toInt + 3
    · have hk' : z.toInt - p.toInt < 3 := by omega
      simp only [hk, hk', if_true]
      exact own_R0
    · have hk' : ¬ z.toInt - p.toInt < 3 := by omega
      simp only [hk, hk', if_false]
      by_cases q1 : 128 ≤ a1.toInt ∧ a1.toInt ≤ 191
      rotate_left
      · simp only [q1, if_false]
        clear e3
        repeat' split
        all_goals first | exact own_R0 | (exfalso; omega)
      simp only [eq_true q1, if_true]
      by_cases q2 : 128 ≤ a2.toInt ∧ a2.toInt ≤ 191
      rotate_left
      · simp only [q2, if_false]
        clear e3
        repeat' split
        all_goals first | exact own_R0 | (exfalso; omega)
      have u2 : ¬ a2.toInt < 128 := by omega
      have w2 : ¬ 191 < a2.toInt := by omega
      simp only [eq_true q2, u2, w2, if_true, if_false]
      have ww : v3.toInt = (a0.toInt - 224) * 4096 + (a1.toInt - 128) * 64 + (a2.toInt - 128) * 1 := by omega
      clear e3
      repeat' split
      all_goals first | exact own_R0 | exact own_R3 hk | (exfalso; omega)
  · have f0 : ¬ (a0.toInt < 128) := by omega
    have f1 : ¬ (a0.toInt < 194) := by omega
    have f2 : (223 < a0.toInt) := by omega
    have f3 : ¬ (239 < a0.toInt) := by omega
    have f4 : ¬ (244 < a0.toInt) := by omega
    have f5 : ¬ (a0.toInt = 224) := by omega
    have f6 : ¬ (a0.toInt = 237) := by omega
    have f7 : ¬ (a0.toInt = 240) := by omega
    have f8 : ¬ (a0.toInt = 244) := by omega
    have f9 : ¬ (192 ≤ a0.toInt ∧ a0.toInt ≤ 223) := by omega
    have f10 : (224 ≤ a0.toInt ∧ a0.toInt ≤ 239) := by omega
    have f11 : ¬ (240 ≤ a0.toInt ∧ a0.toInt ≤ 247) := by omega
    simp only [f0, f1, f2, f3, f4, f5, f6, f7, f8, f9, eq_true f10, f11, if_true, if_false]
    clear f0 f1 f2 f3 f4 f5 f6 f7 f8 f9 f10 f11
    clear e2 e4
    by_cases hk : z.toInt < p.toInt + 3
    · have hk' : z.toInt - p.toInt < 3 := by omega
      simp only [hk, hk', if_true]
      exact own_R0
    · have hk' : ¬ z.toInt - p.toInt < 3 := by omega
      simp only [hk, hk', if_false]
      by_cases q1 : 128 ≤ a1.toInt ∧ a1.toInt ≤ 191
      rotate_left
      · simp only [q1, if_false]
        clear e3
        repeat' split
        all_goals first | exact own_R0 | (exfalso; omega)
      simp only [eq_true q1, if_true]
      by_cases q2 : 128 ≤ a2.toInt ∧ a2.toInt ≤ 191
      rotate_left
      · simp only [q2, if_false]
        clear e3
        repeat' split
        all_goals first | exact own_R0 | (exfalso; omega)
      have u2 : ¬ a2.toInt < 128 := by omega
      have w2 : ¬ 191 < a2.toInt := by omega
      simp only [eq_true q2, u2, w2, if_true, if_false]
      have ww : v3.toInt = (a0.toInt - 224) * 4096 + (a1.toInt - 128) * 64 + (a2.toInt - 128) * 1 := by omega
      clear e3
      repeat' split
      all_goals first | exact own_R0 | exact own_R3 hk | (exfalso; omega)
  · have f0 : ¬ (a0.toInt < 128) := by omega
    have f1 : ¬ (a0.toInt < 194) := by omega
    have f2 : (223 < a0.toInt) := by omega
    have f3 : ¬ (239 < a0.toInt) := by omega
    have f4 : ¬ (244 < a0.toInt) := by omega
    have f5 : ¬ (a0.toInt = 224) := by omega
    have f6 : (a0.toInt = 237) := by omega
    have f7 : ¬ (a0.toInt = 240) := by omega
    have f8 : ¬ (a0.toInt = 244) := by omega
    have f9 : ¬ (192 ≤ a0.toInt ∧ a0.toInt ≤ 223) := by omega
    have f10 : (224 ≤ a0.toInt ∧ a0.toInt ≤ 239) := by omega
    have f11 : ¬ (240 ≤ a0.toInt ∧ a0.toInt ≤ 247) := by omega
    simp only [f0, f1, f2, f3, f4, f5, eq_true f6, f7, f8, f9, eq_true f10, f11, if_true, if_false]
    clear f0 f1 f2 f3 f4 f5 f6 f7 f8 f9 f10 f11
    clear e2 e4
    by_cases hk : z.toInt < p.toInt + 3
    · have hk' : z.toInt - p.toInt < 3 := by omega
      simp only [hk, hk', if_true]
      exact own_R0
    · have hk' : ¬ z.toInt - p.toInt < 3 := by omega
      simp only [hk, hk', if_false]
      by_cases q1 : 128 ≤ a1.toInt ∧ a1.toInt ≤ 191
      rotate_left
      · simp only [q1, if_false]
        clear e3
        repeat' split
        all_goals first | exact own_R0 | (exfalso; omega)
      simp only [eq_true q1, if_true]
      by_cases q2 : 128 ≤ a2.toInt ∧ a2.toInt ≤ 191
      rotate_left
      · simp only [q2, if_false]
        clear e3
        repeat' split
        all_goals first | exact own_R0 | (exfalso; omega)
      have u2 : ¬ a2.toInt < 128 := by omega
      have w2 : ¬ 191 < a2.toInt := by omega
      simp only [eq_true q2, u2, w2, if_true, if_false]
      have ww : v3.toInt = (a0.toInt - 224) * 4096 + (a1.toInt - 128) * 64 + (a2.toInt - 128) * 1 := by omega
      clear e3
      repeat' split
      all_goals first | exact own_R0 | exact own_R3 hk | (exfalso; omega)
  · have f0 : ¬ (a0.toInt < 128) := by omega
    have f1 : ¬ (a0.toInt < 194) := by omega
    have f2 : (223 < a0.toInt) := by omega
    have f3 : ¬ (239 < a0.toInt) := by omega
    have f4 : ¬ (244 < a0.toInt) := by omega
    have f5 : ¬ (a0.toInt = 224) := by omega
    have f6 : ¬ (a0.toInt = 237) := by omega
    have f7 : ¬ (a0.toInt = 240) := by omega
    have f8 : ¬ (a0.toInt = 244) := by omega
    have f9 : ¬ (192 ≤ a0.toInt ∧ a0.toInt ≤ 223) := by omega
    have f10 : (224 ≤ a0.toInt ∧ a0.toInt ≤ 239) := by omega
    have f11 : ¬ (240 ≤ a0.toInt ∧ a0.toInt ≤ 247) := by omega
    simp only [f0, f1, f2, f3, f4, f5, f6, f7, f8, f9, eq_true f10, f11, if_true, if_false]
    clear f0 f1 f2 f3 f4 f5 f6 f7 f8 f9 f10 f11
    clear e2 e4
    by_cases hk : z.toInt < p.toInt + 3
    · have hk' : z.toInt - p.toInt < 3 := by omega
      simp only [hk, hk', if_true]
      exact own_R0
    · have hk' : ¬ z.toInt - p.toInt < 3 := by omega
      simp only [hk, hk', if_false]
      by_cases q1 : 128 ≤ a1.toInt ∧ a1.toInt ≤ 191
      rotate_left
      · simp only [q1, if_false]
        clear e3
        repeat' split
        all_goals first | exact own_R0 | (exfalso; omega)
      simp only [eq_true q1, if_true]
      by_cases q2 : 128 ≤ a2.toInt ∧ a2.toInt ≤ 191
      rotate_left
      · simp only [q2, if_false]
        clear e3
        repeat' split
        all_goals first | exact own_R0 | (exfalso; omega)
      have u2 : ¬ a2.toInt < 128 := by omega
      have w2 : ¬ 191 < a2.toInt := by omega
      simp only [eq_true q2, u2, w2, if_true, if_false]
      have ww : v3.toInt = (a0.toInt - 224) * 4096 + (a1.toInt - 128) * 64 + (a2.toInt - 128) * 1 := by omega
      clear e3
      repeat' split
      all_goals first | exact own_R0 | exact own_R3 hk | (exfalso; omega)
  · have f0 : ¬ (a0.toInt < 128) := by omega
    have f1 : ¬ (a0.toInt < 194) := by omega
    have f2 : (223 < a0.toInt) := by omega
    have f3 : (239 < a0.toInt) := by omega
    have f4 : ¬ (244 < a0.toInt) := by omega
    have f5 : ¬ (a0.toInt = 224) := by omega
    have f6 : ¬ (a0.toInt = 237) := by omega
    have f7 : (a0.toInt = 240) := by omega
    have f8 : ¬ (a0.toInt = 244) := by omega
    have f9 : ¬ (192 ≤ a0.toInt ∧ a0.toInt ≤ 223) := by omega
    have f10 : ¬ (224 ≤ a0.toInt ∧ a0.toInt ≤ 239) := by omega
    have f11 : (240 ≤ a0.toInt ∧ a0.toInt ≤ 247) := by omega
    simp only [f0, f1, f2, f3, f4, f5, f6, eq_true f7, f8, f9, f10, eq_true f11, if_true, if_false]
    clear f0 f1 f2 f3 f4 f5 f6 f7 f8 f9 f10 f11
    clear e2 e3
    by_cases hk : z.toInt < p.toInt + 4
    · have hk' : z.toInt - p.toInt < 4 := by omega
      simp only [hk, hk', if_true]
      exact own_R0
    · have hk' : ¬ z.toInt - p.toInt < 4 := by omega
      simp only [hk, hk', if_false]
      by_cases q1 : 128 ≤ a1.toInt ∧ a1.toInt ≤ 191
      rotate_left
      · simp only [q1, if_false]
        clear e4
        repeat' split
        all_goals first | exact own_R0 | (exfalso; omega)
      simp only [eq_true q1, if_true]
      by_cases q2 : 128 ≤ a2.toInt ∧ a2.toInt ≤ 191
      rotate_left
      · simp only [q2, if_false]
        clear e4
        repeat' split
        all_goals first | exact own_R0 | (exfalso; omega)
      have u2 : ¬ a2.toInt < 128 := by omega
      have w2 : ¬ 191 < a2.toInt := by omega
      simp only [eq_true q2, u2, w2, if_true, if_false]
      by_cases q3 : 128 ≤ a3.toInt ∧ a3.toInt ≤ 191
      rotate_left
      · simp only [q3, if_false]
        clear e4
        repeat' split
        all_goals first | exact own_R0 | (exfalso; omega)
      have u3 : ¬ a3.toInt < 128 := by omega
      have w3 : ¬ 191 < a3.toInt := by omega
      simp only [eq_true q3, u3, w3, if_true, if_false]
      have ww : v4.toInt = (a0.toInt - 240) * 262144 + (a1.toInt - 128) * 4096 + (a2.toInt - 128) * 64 + (a3.toInt - 128) * 1 := by omega
      clear e4
      repeat' split
      all_goals first | exact own_R0 | exact own_R4 hk | (exfalso; omega)
  · have f0 : ¬ (a0.toInt < 128) := by omega
    have f1 : ¬ (a0.toInt < 194) := by omega
    have f2 : (223 < a0.toInt) := by omega
    have f3 : (239 < a0.toInt) := by omega
    have f4 : ¬ (244 < a0.toInt) := by omega
    have f5 : ¬ (a0.toInt = 224) := by omega
    have f6 : ¬ (a0.toInt = 237) := by omega
    have f7 : ¬ (a0.toInt = 240) := by omega
    have f8 : ¬ (a0.toInt = 244) := by omega
    have f9 : ¬ (192 ≤ a0.toInt ∧ a0.toInt ≤ 223) := by omega
    have f10 : ¬ (224 ≤ a0.toInt ∧ a0.toInt ≤ 239) := by omega
    have f11 : (240 ≤ a0.toInt ∧ a0.toInt ≤ 247) := by omega
    simp only [f0, f1, f2, f3, f4, f5, f6, f7, f8, f9, f10, eq_true f11, if_true, if_false]
    clear f0 f1 f2 f3 f4 f5 f6 f7 f8 f9 f10 f11
    clear e2 e3
    by_cases hk : z.toInt < p.toInt + 4
    · have hk' : z.toInt - p.toInt < 4 := by omega
      simp only [hk, hk', if_true]
      exact own_R0
    · have hk' : ¬ z.toInt - p.toInt < 4 := by omega
      simp only [hk, hk', if_false]
      by_cases q1 : 128 ≤ a1.toInt ∧ a1.toInt ≤ 191
      rotate_left
      · simp only [q1, if_false]
        clear e4
        repeat' split
        all_goals first | exact own_R0 | (exfalso; omega)
      simp only [eq_true q1, if_true]
      by_cases q2 : 128 ≤ a2.toInt ∧ a2.toInt ≤ 191
      rotate_left
      · simp only [q2, if_false]
        clear e4
        repeat' split
        all_goals first | exact own_R0 | (exfalso; omega)
      have u2 : ¬ a2.toInt < 128 := by omega
      have w2 : ¬ 191 < a2.toInt := by omega
      simp only [eq_true q2, u2, w2, if_true, if_false]
      by_cases q3 : 128 ≤ a3.toInt ∧ a3.toInt ≤ 191
      rotate_left
      · simp only [q3, if_false]
        clear e4
        repeat' split
        all_goals first | exact own_R0 | (exfalso; omega)
      have u3 : ¬ a3.toInt < 128 := by omega
      have w3 : ¬ 191 < a3.toInt := by omega
      simp only [eq_true q3, u3, w3, if_true, if_false]
      have ww : v4.toInt = (a0.toInt - 240) * 262144 + (a1.toInt - 128) * 4096 + (a2.toInt - 128) * 64 + (a3.toInt - 128) * 1 := by omega
      clear e4
      repeat' split
      all_goals first | exact own_R0 | exact own_R4 hk | (exfalso; omega)
  · have f0 : ¬ (a0.toInt < 128) := by omega
    have f1 : ¬ (a0.toInt < 194) := by omega
    have f2 : (223 < a0.toInt) := by omega
    have f3 : (239 < a0.toInt) := by omega
    have f4 : ¬ (244 < a0.toInt) := by omega
    have f5 : ¬ (a0.toInt = 224) := by omega
    have f6 : ¬ (a0.toInt = 237) := by omega
    have f7 : ¬ (a0.toInt = 240) := by omega
    have f8 : (a0.toInt = 244) := by omega
    have f9 : ¬ (192 ≤ a0.toInt ∧ a0.toInt ≤ 223) := by omega
    have f10 : ¬ (224 ≤ a0.toInt ∧ a0.toInt ≤ 239) := by omega
    have f11 : (240 ≤ a0.toInt ∧ a0.toInt ≤ 247) := by omega
    simp only [f0, f1, f2, f3, f4, f5, f6, f7, eq_true f8, f9, f10, eq_true f11, if_true, if_false]
    clear f0 f1 f2 f3 f4 f5 f6 f7 f8 f9 f10 f11
    clear e2 e3
    by_cases hk : z.toInt < p.toInt + 4
    · have hk' : z.toInt - p.toInt < 4 := by omega
      simp only [hk, hk', if_true]
      exact own_R0
    · have hk' : ¬ z.toInt - p.toInt < 4 := by omega
      simp only [hk, hk', if_false]
      by_cases q1 : 128 ≤ a1.toInt ∧ a1.toInt ≤ 191
      rotate_left
      · simp only [q1, if_false]
        clear e4
        repeat' split
        all_goals first | exact own_R0 | (exfalso; omega)
      simp only [eq_true q1, if_true]
      by_cases q2 : 128 ≤ a2.toInt ∧ a2.toInt ≤ 191
      rotate_left
      · simp only [q2, if_false]
        clear e4
        repeat' split
        all_goals first | exact own_R0 | (exfalso; omega)
      have u2 : ¬ a2.toInt < 128 := by omega
      have w2 : ¬ 191 < a2.toInt := by omega
      simp only [eq_true q2, u2, w2, if_true, if_false]
      by_cases q3 : 128 ≤ a3.toInt ∧ a3.toInt ≤ 191
      rotate_left
      · simp only [q3, if_false]
        clear e4
        repeat' split
        all_goals first | exact own_R0 | (exfalso; omega)
      have u3 : ¬ a3.toInt < 128 := by omega
      have w3 : ¬ 191 < a3.toInt := by omega
      simp only [eq_true q3, u3, w3, if_true, if_false]
      have ww : v4.toInt = (a0.toInt - 240) * 262144 + (a1.toInt - 128) * 4096 + (a2.toInt - 128) * 64 + (a3.toInt - 128) * 1 := by omega
      clear e4
      repeat' split
      all_goals first | exact own_R0 | exact own_R4 hk | (exfalso; omega)
  · have f0 : ¬ (a0.toInt < 128) := by omega
    have f1 : ¬ (a0.toInt < 194) := by omega
    have f2 : (223 < a0.toInt) := by omega
    have f3 : (239 < a0.toInt) := by omega
    have f4 : (244 < a0.toInt) := by omega
    have f5 : ¬ (a0.toInt = 224) := by omega
    have f6 : ¬ (a0.toInt = 237) := by omega
    have f7 : ¬ (a0.toInt = 240) := by omega
    have f8 : ¬ (a0.toInt = 244) := by omega
    have f9 : ¬ (192 ≤ a0.toInt ∧ a0.toInt ≤ 223) := by omega
    have f10 : ¬ (224 ≤ a0.toInt ∧ a0.toInt ≤ 239) := by omega
    have f11 : (240 ≤ a0.toInt ∧ a0.toInt ≤ 247) := by omega
    simp only [f0, f1, f2, f3, f4, f5, f6, f7, f8, f9, f10, eq_true f11, if_true, if_false]
    clear f0 f1 f2 f3 f4 f5 f6 f7 f8 f9 f10 f11
    clear e2 e3
    by_cases hk : z.toInt < p.toInt + 4
    · simp only [hk, if_true]
      exact own_R0
    · simp only [hk, if_false]
      by_cases q1 : 128 ≤ a1.toInt ∧ a1.toInt ≤ 191
      rotate_left
      · simp only [q1, if_false]
        exact own_R0
      simp only [eq_true q1, if_true]
      by_cases q2 : 128 ≤ a2.toInt ∧ a2.toInt ≤ 191
      rotate_left
      · simp only [q2, if_false]
        exact own_R0
      simp only [eq_true q2, if_true]
      by_cases q3 : 128 ≤ a3.toInt ∧ a3.toInt ≤ 191
      rotate_left
      · simp only [q3, if_false]
        exact own_R0
      simp only [eq_true q3, if_true]
      have ww : v4.toInt = (a0.toInt - 240) * 262144 + (a1.toInt - 128) * 4096 + (a2.toInt - 128) * 64 + (a3.toInt - 128) * 1 := by omega
      clear e4
      repeat' split
      all_goals first | exact own_R0 | exact own_R4 hk | (exfalso; omega)
  · have f0 : ¬ (a0.toInt < 128) := by omega
    have f1 : ¬ (a0.toInt < 194) := by omega
    have f2 : (223 < a0.toInt) := by omega
    have f3 : (239 < a0.toInt) := by omega
    have f4 : (244 < a0.toInt) := by omega
    have f5 : ¬ (a0.toInt = 224) := by omega
    have f6 : ¬ (a0.toInt = 237) := by omega
    have f7 : ¬ (a0.toInt = 240) := by omega
    have f8 : ¬ (a0.toInt = 244) := by omega
    have f9 : ¬ (192 ≤ a0.toInt ∧ a0.toInt ≤ 223) := by omega
    have f10 : ¬ (224 ≤ a0.toInt ∧ a0.toInt ≤ 239) := by omega
    have f11 : ¬ (240 ≤ a0.toInt ∧ a0.toInt ≤ 247) := by omega
    simp only [f0, f1, f2, f3, f4, f5, f6, f7, f8, f9, f10, f11, if_true, if_false]
    exact own_R0
def own_at (vs : List Value) (j : Int32) : Int32 := match vs.getD j.toNatClampNeg (.int (0 : Int32)) with | .int x => x | _ => 0
def own_g (vs : List Value) (z i : Int32) : Int32 := fCL (own_at vs i) (own_at vs (i + (1 : Int32))) (own_at vs (i + (2 : Int32))) (own_at vs (i + (3 : Int32))) z i
def own_scan (vs : List Value) (z : Int32) : Nat → Int32 → Int32
  | 0, _ => (-1 : Int32)
  | f + 1, i => if i < z then (if own_g vs z i = (0 : Int32) then i else own_scan vs z f (i + own_g vs z i)) else (-1 : Int32)
theorem own_scan_out (vs : List Value) {z i : Int32} {f : Nat} (h : ¬ i < z) : own_scan vs z f i = (-1 : Int32) := by
  cases f with
  | zero => rfl
  | succ f => simp only [own_scan, if_neg h]
theorem own_scan_bad (vs : List Value) {z i : Int32} {f : Nat} (h : i < z) (hg : own_g vs z i = (0 : Int32)) : own_scan vs z (f + 1) i = i := by simp only [own_scan, if_pos h, if_pos hg]
theorem own_scan_step (vs : List Value) {z i : Int32} {f : Nat} (h : i < z) (hg : ¬ own_g vs z i = (0 : Int32)) : own_scan vs z (f + 1) i = own_scan vs z f (i + own_g vs z i) := by simp only [own_scan, if_pos h, if_neg hg]
theorem own_scan_last (vs : List Value) {z i : Int32} (h : i < z) (hg : ¬ own_g vs z i = (0 : Int32)) : own_scan vs z 1 i = (-1 : Int32) := by rw [own_scan_step vs h hg]; rfl
abbrev Bs (vs : List Value) : Prop := ∀ j : Int32, -128 ≤ (own_at vs j).toInt ∧ (own_at vs j).toInt ≤ 127
/-- the lead byte is no sign: one byte -/
theorem own_g1 (vs : List Value) {z i : Int32} (hB : Bs vs) (hx : ¬ own_at vs i < (0 : Int32)) : own_g vs z i = 1 := by
  have hb := hB i
  have e := Jvm.Kit.i32_mask (own_at vs i) 255 (k := 8) (by decide) (by decide)
  have c0 : (0 : Int32).toInt = 0 := by decide
  have c1 : (128 : Int32).toInt = 128 := by decide
  rw [Int32.lt_iff_toInt_lt, c0] at hx
  unfold own_g fCL
  rw [if_pos]
  rw [Int32.lt_iff_toInt_lt, c1, e]
  omega
theorem own_gR (vs : List Value) {z i : Int32} (hB : Bs vs) (hi0 : 0 ≤ i.toInt) (hl : i < z) (hz2 : z.toInt ≤ 100) (hx : own_at vs i < (0 : Int32)) :
    own_R i z (fCE (own_at vs i) (own_at vs (i + (1 : Int32))) (own_at vs (i + (2 : Int32))) (own_at vs (i + (3 : Int32))) i z) (own_g vs z i) := by
  have hb := hB i
  have e := Jvm.Kit.i32_mask (own_at vs i) 255 (k := 8) (by decide) (by decide)
  have c0 : (0 : Int32).toInt = 0 := by decide
  rw [Int32.lt_iff_toInt_lt, c0] at hx
  exact own_core (by omega) (own_b255 _) (own_b255 _) (own_b255 _) rfl rfl rfl rfl hi0 (Int32.lt_iff_toInt_lt.mp hl) hz2
theorem own_gB (vs : List Value) {z i : Int32} (hB : Bs vs) (hi0 : 0 ≤ i.toInt) (hl : i < z) (hz2 : z.toInt ≤ 100) (hg : ¬ own_g vs z i = (0 : Int32)) :
    1 ≤ (own_g vs z i).toInt ∧ (own_g vs z i).toInt ≤ 4 ∧ (i + own_g vs z i).toInt = i.toInt + (own_g vs z i).toInt ∧ i.toInt + (own_g vs z i).toInt ≤ z.toInt := by
  have hl' := Int32.lt_iff_toInt_lt.mp hl
  have key : 1 ≤ (own_g vs z i).toInt ∧ (own_g vs z i).toInt ≤ 4 ∧ i.toInt + (own_g vs z i).toInt ≤ z.toInt := by
    by_cases hx : own_at vs i < (0 : Int32)
    · rcases own_gR vs hB hi0 hl hz2 hx with h | h
      · exact absurd h.2 hg
      · exact ⟨h.1, h.2.1, h.2.2.2⟩
    · have e := own_g1 (z := z) vs hB hx
      have c1 : (1 : Int32).toInt = 1 := by decide
      rw [e, c1]
      omega
  exact ⟨key.1, key.2.1, own_addk hi0 (by omega) (by omega) (by omega), key.2.2⟩
theorem own_step0 (vs : List Value) {z i : Int32} (hB : Bs vs) (hi0 : 0 ≤ i.toInt) (hl : i < z) (hz2 : z.toInt ≤ 100) (hg : ¬ own_g vs z i = (0 : Int32)) : 0 ≤ (i + own_g vs z i).toInt := by
  have h := own_gB vs hB hi0 hl hz2 hg
  omega
theorem own_step1 (vs : List Value) {z i : Int32} (hB : Bs vs) (hi0 : 0 ≤ i.toInt) (hl : i < z) (hz2 : z.toInt ≤ 100) (hg : ¬ own_g vs z i = (0 : Int32)) : (i + own_g vs z i).toInt ≤ z.toInt := by
  have h := own_gB vs hB hi0 hl hz2 hg
  omega
/-- any two fuels that reach -/
theorem own_two (vs : List Value) {z : Int32} (hB : Bs vs) (hz2 : z.toInt ≤ 100) : ∀ (f g : Nat) (i : Int32), 0 ≤ i.toInt → z.toInt - i.toInt ≤ (f : Int) → z.toInt - i.toInt ≤ (g : Int) → own_scan vs z f i = own_scan vs z g i := by
  intro f
  induction f with
  | zero =>
    intro g i h0 h1 h2
    have hn : ¬ i < z := by rw [Int32.lt_iff_toInt_lt]; omega
    rw [own_scan_out vs hn, own_scan_out vs hn]
  | succ f ih =>
    intro g i h0 h1 h2
    by_cases hl : i < z
    · have hl' := Int32.lt_iff_toInt_lt.mp hl
      cases g with
      | zero => omega
      | succ g =>
        by_cases hg : own_g vs z i = (0 : Int32)
        · rw [own_scan_bad vs hl hg, own_scan_bad vs hl hg]
        · have hb := own_gB vs hB h0 hl hz2 hg
          rw [own_scan_step vs hl hg, own_scan_step vs hl hg]
          exact ih g _ (by omega) (by omega) (by omega)
    · rw [own_scan_out vs hl, own_scan_out vs hl]
theorem own_nn {i : Int32} (hi0 : 0 ≤ i.toInt) : ¬ i < (0 : Int32) := by
  have c0 : (0 : Int32).toInt = 0 := by decide
  rw [Int32.lt_iff_toInt_lt, c0]
  omega
theorem own_start {z : Int32} (hz0 : 0 ≤ z.toInt) : z.toInt - (0 : Int32).toInt < ((z.toInt.toNat + 1 : Nat) : Int) := by
  have c0 : (0 : Int32).toInt = 0 := by decide
  omega
theorem own_scan_fuel (vs : List Value) {z : Int32} (hB : Bs vs) (hz0 : 0 ≤ z.toInt) (hz2 : z.toInt ≤ 100) (g : Nat) (h : z.toInt - (0 : Int32).toInt < (g : Int)) : own_scan vs z (z.toInt.toNat + 1) 0 = own_scan vs z g 0 := by
  have c0 : (0 : Int32).toInt = 0 := by decide
  exact own_two vs hB hz2 _ _ _ (by omega) (by omega) (by omega)
theorem own_fuel {vs : List Value} {z : Int32} (hB : Bs vs) (hz0 : 0 ≤ z.toInt) (hz2 : z.toInt ≤ 100) (h8 : z.toInt ≤ 8) : own_scan vs z (z.toInt.toNat + 1) 0 = own_scan vs z 8 0 := by
  have c0 : (0 : Int32).toInt = 0 := by decide
  exact own_two vs hB hz2 _ _ _ (by omega) (by omega) (by omega)
/-- on to the next place: by one, or by characterEnd -/
theorem own_nx (vs : List Value) {z i j C : Int32} (hB : Bs vs) (hi0 : 0 ≤ i.toInt) (hz2 : z.toInt ≤ 100) (hl : i < z) (hg : ¬ own_g vs z i = (0 : Int32)) (hj : ∀ g : Nat, z.toInt - i.toInt < g → C = own_scan vs z g i) (e : j = i + own_g vs z i) (g : Nat) (h : z.toInt - j.toInt < g) : C = own_scan vs z g j := by
  have hb := own_gB vs hB hi0 hl hz2 hg
  subst e
  rw [hj ((g + 4) + 1) (by omega), own_scan_step vs hl hg]
  exact own_two vs hB hz2 _ _ _ (by omega) (by omega) (by omega)
theorem own_one (vs : List Value) {z i : Int32} (hB : Bs vs) (hi0 : 0 ≤ i.toInt) (hl : i < z) (hz2 : z.toInt ≤ 100) (hx : ¬ own_at vs i < (0 : Int32)) : ¬ own_g vs z i = (0 : Int32) ∧ i + (1 : Int32) = i + own_g vs z i ∧ i.toInt + 1 ≤ (i + (1 : Int32)).toInt ∧ (i + (1 : Int32)).toInt ≤ z.toInt := by
  have e := own_g1 (z := z) vs hB hx
  have hg : ¬ own_g vs z i = (0 : Int32) := by rw [e]; decide
  have hb := own_gB vs hB hi0 hl hz2 hg
  rw [e] at hb ⊢
  exact ⟨by decide, rfl, by omega, by omega⟩
theorem own_end (vs : List Value) {z i : Int32} (hB : Bs vs) (hi0 : 0 ≤ i.toInt) (hl : i < z) (hz2 : z.toInt ≤ 100) (hx : own_at vs i < (0 : Int32)) (he : ¬ (fCE (own_at vs i) (own_at vs (i + (1 : Int32))) (own_at vs (i + (2 : Int32))) (own_at vs (i + (3 : Int32))) i z) = (-1 : Int32)) : ¬ own_g vs z i = (0 : Int32) ∧ (fCE (own_at vs i) (own_at vs (i + (1 : Int32))) (own_at vs (i + (2 : Int32))) (own_at vs (i + (3 : Int32))) i z) = i + own_g vs z i ∧ i.toInt + 1 ≤ (fCE (own_at vs i) (own_at vs (i + (1 : Int32))) (own_at vs (i + (2 : Int32))) (own_at vs (i + (3 : Int32))) i z).toInt ∧ (fCE (own_at vs i) (own_at vs (i + (1 : Int32))) (own_at vs (i + (2 : Int32))) (own_at vs (i + (3 : Int32))) i z).toInt ≤ z.toInt := by
  rcases own_gR vs hB hi0 hl hz2 hx with h | h
  · exact absurd h.1 he
  · have hg : ¬ own_g vs z i = (0 : Int32) := fun q => by
      have := h.1
      rw [q] at this
      exact absurd this (by decide)
    have hb := own_gB vs hB hi0 hl hz2 hg
    refine ⟨hg, h.2.2.1, ?_, ?_⟩
    · rw [h.2.2.1]
      omega
    · rw [h.2.2.1]
      omega
theorem own_bad (vs : List Value) {z i : Int32} (hB : Bs vs) (hi0 : 0 ≤ i.toInt) (hl : i < z) (hz2 : z.toInt ≤ 100) (hx : own_at vs i < (0 : Int32)) (he : (fCE (own_at vs i) (own_at vs (i + (1 : Int32))) (own_at vs (i + (2 : Int32))) (own_at vs (i + (3 : Int32))) i z) = (-1 : Int32)) : own_g vs z i = (0 : Int32) := by
  rcases own_gR vs hB hi0 hl hz2 hx with h | h
  · exact h.2
  · have c0 : (-1 : Int32).toInt = -1 := by decide
    have e := own_addk (k := own_g vs z i) hi0 (by have := Int32.lt_iff_toInt_lt.mp hl; omega) (by omega) (by omega)
    rw [h.2.2.1] at he
    have q := congrArg Int32.toInt he
    omega
theorem own_one0 (vs : List Value) {z i : Int32} (hB : Bs vs) (hi0 : 0 ≤ i.toInt) (hl : i < z) (hz2 : z.toInt ≤ 100) (hx : ¬ own_at vs i < (0 : Int32)) : 0 ≤ (i + (1 : Int32)).toInt := by
  have h := own_one vs hB hi0 hl hz2 hx
  omega
theorem own_one1 (vs : List Value) {z i : Int32} (hB : Bs vs) (hi0 : 0 ≤ i.toInt) (hl : i < z) (hz2 : z.toInt ≤ 100) (hx : ¬ own_at vs i < (0 : Int32)) : (i + (1 : Int32)).toInt ≤ z.toInt := (own_one vs hB hi0 hl hz2 hx).2.2.2
theorem own_one2 (vs : List Value) {z i : Int32} (hB : Bs vs) (hi0 : 0 ≤ i.toInt) (hl : i < z) (hz2 : z.toInt ≤ 100) (hx : ¬ own_at vs i < (0 : Int32)) {C : Int32} (hj : ∀ g : Nat, z.toInt - i.toInt < g → C = own_scan vs z g i) : ∀ g : Nat, z.toInt - (i + (1 : Int32)).toInt < g → C = own_scan vs z g (i + (1 : Int32)) := by
  have h := own_one vs hB hi0 hl hz2 hx
  exact fun g hh => own_nx vs hB hi0 hz2 hl h.1 hj h.2.1 g hh
theorem own_one3 (vs : List Value) {z i : Int32} (hB : Bs vs) (hi0 : 0 ≤ i.toInt) (hl : i < z) (hz2 : z.toInt ≤ 100) (hx : ¬ own_at vs i < (0 : Int32)) {fu : Nat} (hm : z.toInt - i.toInt < ((fu + 1 : Nat) : Int)) : z.toInt - (i + (1 : Int32)).toInt < (fu : Int) := by
  have h := own_one vs hB hi0 hl hz2 hx
  omega
theorem own_end0 (vs : List Value) {z i : Int32} (hB : Bs vs) (hi0 : 0 ≤ i.toInt) (hl : i < z) (hz2 : z.toInt ≤ 100) (hx : own_at vs i < (0 : Int32)) (he : ¬ (fCE (own_at vs i) (own_at vs (i + (1 : Int32))) (own_at vs (i + (2 : Int32))) (own_at vs (i + (3 : Int32))) i z) = (-1 : Int32)) : 0 ≤ (fCE (own_at vs i) (own_at vs (i + (1 : Int32))) (own_at vs (i + (2 : Int32))) (own_at vs (i + (3 : Int32))) i z).toInt := by
  have h := own_end vs hB hi0 hl hz2 hx he
  omega
theorem own_end1 (vs : List Value) {z i : Int32} (hB : Bs vs) (hi0 : 0 ≤ i.toInt) (hl : i < z) (hz2 : z.toInt ≤ 100) (hx : own_at vs i < (0 : Int32)) (he : ¬ (fCE (own_at vs i) (own_at vs (i + (1 : Int32))) (own_at vs (i + (2 : Int32))) (own_at vs (i + (3 : Int32))) i z) = (-1 : Int32)) : (fCE (own_at vs i) (own_at vs (i + (1 : Int32))) (own_at vs (i + (2 : Int32))) (own_at vs (i + (3 : Int32))) i z).toInt ≤ z.toInt := (own_end vs hB hi0 hl hz2 hx he).2.2.2
theorem own_end2 (vs : List Value) {z i : Int32} (hB : Bs vs) (hi0 : 0 ≤ i.toInt) (hl : i < z) (hz2 : z.toInt ≤ 100) (hx : own_at vs i < (0 : Int32)) (he : ¬ (fCE (own_at vs i) (own_at vs (i + (1 : Int32))) (own_at vs (i + (2 : Int32))) (own_at vs (i + (3 : Int32))) i z) = (-1 : Int32)) {C : Int32} (hj : ∀ g : Nat, z.toInt - i.toInt < g → C = own_scan vs z g i) : ∀ g : Nat, z.toInt - (fCE (own_at vs i) (own_at vs (i + (1 : Int32))) (own_at vs (i + (2 : Int32))) (own_at vs (i + (3 : Int32))) i z).toInt < g → C = own_scan vs z g (fCE (own_at vs i) (own_at vs (i + (1 : Int32))) (own_at vs (i + (2 : Int32))) (own_at vs (i + (3 : Int32))) i z) := by
  have h := own_end vs hB hi0 hl hz2 hx he
  exact fun g hh => own_nx vs hB hi0 hz2 hl h.1 hj h.2.1 g hh
theorem own_end3 (vs : List Value) {z i : Int32} (hB : Bs vs) (hi0 : 0 ≤ i.toInt) (hl : i < z) (hz2 : z.toInt ≤ 100) (hx : own_at vs i < (0 : Int32)) (he : ¬ (fCE (own_at vs i) (own_at vs (i + (1 : Int32))) (own_at vs (i + (2 : Int32))) (own_at vs (i + (3 : Int32))) i z) = (-1 : Int32)) {fu : Nat} (hm : z.toInt - i.toInt < ((fu + 1 : Nat) : Int)) : z.toInt - (fCE (own_at vs i) (own_at vs (i + (1 : Int32))) (own_at vs (i + (2 : Int32))) (own_at vs (i + (3 : Int32))) i z).toInt < (fu : Int) := by
  have h := own_end vs hB hi0 hl hz2 hx he
  omega

theorem d1_0 : decode method_3_code 0 = .ok (.iconst 0, 1) := by decide +kernel
theorem d1_1 : decode method_3_code 1 = .ok (.istore_n 2, 1) := by decide +kernel
theorem d1_2 : decode method_3_code 2 = .ok (.iload_n 2, 1) := by decide +kernel
theorem d1_3 : decode method_3_code 3 = .ok (.iload_n 1, 1) := by decide +kernel
theorem d1_4 : decode method_3_code 4 = .ok (.if_icmp .lt 5, 3) := by decide +kernel
theorem d1_7 : decode method_3_code 7 = .ok (.iconst (-1), 1) := by decide +kernel
theorem d1_8 : decode method_3_code 8 = .ok (.ireturn, 1) := by decide +kernel
theorem d1_9 : decode method_3_code 9 = .ok (.aload_n 0, 1) := by decide +kernel
theorem d1_10 : decode method_3_code 10 = .ok (.iload_n 1, 1) := by decide +kernel
theorem d1_11 : decode method_3_code 11 = .ok (.iload_n 2, 1) := by decide +kernel
theorem d1_12 : decode method_3_code 12 = .ok (.invokestatic 20, 3) := by decide +kernel
theorem d1_15 : decode method_3_code 15 = .ok (.istore_n 3, 1) := by decide +kernel
theorem d1_16 : decode method_3_code 16 = .ok (.iload_n 3, 1) := by decide +kernel
theorem d1_17 : decode method_3_code 17 = .ok (.ifCond .ne 5, 3) := by decide +kernel
theorem d1_20 : decode method_3_code 20 = .ok (.iload_n 2, 1) := by decide +kernel
theorem d1_21 : decode method_3_code 21 = .ok (.ireturn, 1) := by decide +kernel
theorem d1_22 : decode method_3_code 22 = .ok (.iload_n 2, 1) := by decide +kernel
theorem d1_23 : decode method_3_code 23 = .ok (.iload_n 3, 1) := by decide +kernel
theorem d1_24 : decode method_3_code 24 = .ok (.iadd, 1) := by decide +kernel
theorem d1_25 : decode method_3_code 25 = .ok (.istore_n 2, 1) := by decide +kernel
theorem d1_26 : decode method_3_code 26 = .ok (.iload_n 2, 1) := by decide +kernel
theorem d1_27 : decode method_3_code 27 = .ok (.iload_n 1, 1) := by decide +kernel
theorem d1_28 : decode method_3_code 28 = .ok (.if_icmp .lt 5, 3) := by decide +kernel
theorem d1_31 : decode method_3_code 31 = .ok (.iconst (-1), 1) := by decide +kernel
theorem d1_32 : decode method_3_code 32 = .ok (.ireturn, 1) := by decide +kernel
theorem d1_33 : decode method_3_code 33 = .ok (.aload_n 0, 1) := by decide +kernel
theorem d1_34 : decode method_3_code 34 = .ok (.iload_n 1, 1) := by decide +kernel
theorem d1_35 : decode method_3_code 35 = .ok (.iload_n 2, 1) := by decide +kernel
theorem d1_36 : decode method_3_code 36 = .ok (.invokestatic 20, 3) := by decide +kernel
theorem d1_39 : decode method_3_code 39 = .ok (.istore_n 3, 1) := by decide +kernel
theorem d1_40 : decode method_3_code 40 = .ok (.iload_n 3, 1) := by decide +kernel
theorem d1_41 : decode method_3_code 41 = .ok (.ifCond .ne 5, 3) := by decide +kernel
theorem d1_44 : decode method_3_code 44 = .ok (.iload_n 2, 1) := by decide +kernel
theorem d1_45 : decode method_3_code 45 = .ok (.ireturn, 1) := by decide +kernel
theorem d1_46 : decode method_3_code 46 = .ok (.iload_n 2, 1) := by decide +kernel
theorem d1_47 : decode method_3_code 47 = .ok (.iload_n 3, 1) := by decide +kernel
theorem d1_48 : decode method_3_code 48 = .ok (.iadd, 1) := by decide +kernel
theorem d1_49 : decode method_3_code 49 = .ok (.istore_n 2, 1) := by decide +kernel
theorem d1_50 : decode method_3_code 50 = .ok (.iload_n 2, 1) := by decide +kernel
theorem d1_51 : decode method_3_code 51 = .ok (.iload_n 1, 1) := by decide +kernel
theorem d1_52 : decode method_3_code 52 = .ok (.if_icmp .lt 5, 3) := by decide +kernel
theorem d1_55 : decode method_3_code 55 = .ok (.iconst (-1), 1) := by decide +kernel
theorem d1_56 : decode method_3_code 56 = .ok (.ireturn, 1) := by decide +kernel
theorem d1_57 : decode method_3_code 57 = .ok (.aload_n 0, 1) := by decide +kernel
theorem d1_58 : decode method_3_code 58 = .ok (.iload_n 1, 1) := by decide +kernel
theorem d1_59 : decode method_3_code 59 = .ok (.iload_n 2, 1) := by decide +kernel
theorem d1_60 : decode method_3_code 60 = .ok (.invokestatic 20, 3) := by decide +kernel
theorem d1_63 : decode method_3_code 63 = .ok (.istore_n 3, 1) := by decide +kernel
theorem d1_64 : decode method_3_code 64 = .ok (.iload_n 3, 1) := by decide +kernel
theorem d1_65 : decode method_3_code 65 = .ok (.ifCond .ne 5, 3) := by decide +kernel
theorem d1_68 : decode method_3_code 68 = .ok (.iload_n 2, 1) := by decide +kernel
theorem d1_69 : decode method_3_code 69 = .ok (.ireturn, 1) := by decide +kernel
theorem d1_70 : decode method_3_code 70 = .ok (.iload_n 2, 1) := by decide +kernel
theorem d1_71 : decode method_3_code 71 = .ok (.iload_n 3, 1) := by decide +kernel
theorem d1_72 : decode method_3_code 72 = .ok (.iadd, 1) := by decide +kernel
theorem d1_73 : decode method_3_code 73 = .ok (.istore_n 2, 1) := by decide +kernel
theorem d1_74 : decode method_3_code 74 = .ok (.iload_n 2, 1) := by decide +kernel
theorem d1_75 : decode method_3_code 75 = .ok (.iload_n 1, 1) := by decide +kernel
theorem d1_76 : decode method_3_code 76 = .ok (.if_icmp .lt 5, 3) := by decide +kernel
theorem d1_79 : decode method_3_code 79 = .ok (.iconst (-1), 1) := by decide +kernel
theorem d1_80 : decode method_3_code 80 = .ok (.ireturn, 1) := by decide +kernel
theorem d1_81 : decode method_3_code 81 = .ok (.aload_n 0, 1) := by decide +kernel
theorem d1_82 : decode method_3_code 82 = .ok (.iload_n 1, 1) := by decide +kernel
theorem d1_83 : decode method_3_code 83 = .ok (.iload_n 2, 1) := by decide +kernel
theorem d1_84 : decode method_3_code 84 = .ok (.invokestatic 20, 3) := by decide +kernel
theorem d1_87 : decode method_3_code 87 = .ok (.istore_n 3, 1) := by decide +kernel
theorem d1_88 : decode method_3_code 88 = .ok (.iload_n 3, 1) := by decide +kernel
theorem d1_89 : decode method_3_code 89 = .ok (.ifCond .ne 5, 3) := by decide +kernel
theorem d1_92 : decode method_3_code 92 = .ok (.iload_n 2, 1) := by decide +kernel
theorem d1_93 : decode method_3_code 93 = .ok (.ireturn, 1) := by decide +kernel
theorem d1_94 : decode method_3_code 94 = .ok (.iload_n 2, 1) := by decide +kernel
theorem d1_95 : decode method_3_code 95 = .ok (.iload_n 3, 1) := by decide +kernel
theorem d1_96 : decode method_3_code 96 = .ok (.iadd, 1) := by decide +kernel
theorem d1_97 : decode method_3_code 97 = .ok (.istore_n 2, 1) := by decide +kernel
theorem d1_98 : decode method_3_code 98 = .ok (.iload_n 2, 1) := by decide +kernel
theorem d1_99 : decode method_3_code 99 = .ok (.iload_n 1, 1) := by decide +kernel
theorem d1_100 : decode method_3_code 100 = .ok (.if_icmp .lt 5, 3) := by decide +kernel
theorem d1_103 : decode method_3_code 103 = .ok (.iconst (-1), 1) := by decide +kernel
theorem d1_104 : decode method_3_code 104 = .ok (.ireturn, 1) := by decide +kernel
theorem d1_105 : decode method_3_code 105 = .ok (.aload_n 0, 1) := by decide +kernel
theorem d1_106 : decode method_3_code 106 = .ok (.iload_n 1, 1) := by decide +kernel
theorem d1_107 : decode method_3_code 107 = .ok (.iload_n 2, 1) := by decide +kernel
theorem d1_108 : decode method_3_code 108 = .ok (.invokestatic 20, 3) := by decide +kernel
theorem d1_111 : decode method_3_code 111 = .ok (.istore_n 3, 1) := by decide +kernel
theorem d1_112 : decode method_3_code 112 = .ok (.iload_n 3, 1) := by decide +kernel
theorem d1_113 : decode method_3_code 113 = .ok (.ifCond .ne 5, 3) := by decide +kernel
theorem d1_116 : decode method_3_code 116 = .ok (.iload_n 2, 1) := by decide +kernel
theorem d1_117 : decode method_3_code 117 = .ok (.ireturn, 1) := by decide +kernel
theorem d1_118 : decode method_3_code 118 = .ok (.iload_n 2, 1) := by decide +kernel
theorem d1_119 : decode method_3_code 119 = .ok (.iload_n 3, 1) := by decide +kernel
theorem d1_120 : decode method_3_code 120 = .ok (.iadd, 1) := by decide +kernel
theorem d1_121 : decode method_3_code 121 = .ok (.istore_n 2, 1) := by decide +kernel
theorem d1_122 : decode method_3_code 122 = .ok (.iload_n 2, 1) := by decide +kernel
theorem d1_123 : decode method_3_code 123 = .ok (.iload_n 1, 1) := by decide +kernel
theorem d1_124 : decode method_3_code 124 = .ok (.if_icmp .lt 5, 3) := by decide +kernel
theorem d1_127 : decode method_3_code 127 = .ok (.iconst (-1), 1) := by decide +kernel
theorem d1_128 : decode method_3_code 128 = .ok (.ireturn, 1) := by decide +kernel
theorem d1_129 : decode method_3_code 129 = .ok (.aload_n 0, 1) := by decide +kernel
theorem d1_130 : decode method_3_code 130 = .ok (.iload_n 1, 1) := by decide +kernel
theorem d1_131 : decode method_3_code 131 = .ok (.iload_n 2, 1) := by decide +kernel
theorem d1_132 : decode method_3_code 132 = .ok (.invokestatic 20, 3) := by decide +kernel
theorem d1_135 : decode method_3_code 135 = .ok (.istore_n 3, 1) := by decide +kernel
theorem d1_136 : decode method_3_code 136 = .ok (.iload_n 3, 1) := by decide +kernel
theorem d1_137 : decode method_3_code 137 = .ok (.ifCond .ne 5, 3) := by decide +kernel
theorem d1_140 : decode method_3_code 140 = .ok (.iload_n 2, 1) := by decide +kernel
theorem d1_141 : decode method_3_code 141 = .ok (.ireturn, 1) := by decide +kernel
theorem d1_142 : decode method_3_code 142 = .ok (.iload_n 2, 1) := by decide +kernel
theorem d1_143 : decode method_3_code 143 = .ok (.iload_n 3, 1) := by decide +kernel
theorem d1_144 : decode method_3_code 144 = .ok (.iadd, 1) := by decide +kernel
theorem d1_145 : decode method_3_code 145 = .ok (.istore_n 2, 1) := by decide +kernel
theorem d1_146 : decode method_3_code 146 = .ok (.iload_n 2, 1) := by decide +kernel
theorem d1_147 : decode method_3_code 147 = .ok (.iload_n 1, 1) := by decide +kernel
theorem d1_148 : decode method_3_code 148 = .ok (.if_icmp .lt 5, 3) := by decide +kernel
theorem d1_151 : decode method_3_code 151 = .ok (.iconst (-1), 1) := by decide +kernel
theorem d1_152 : decode method_3_code 152 = .ok (.ireturn, 1) := by decide +kernel
theorem d1_153 : decode method_3_code 153 = .ok (.aload_n 0, 1) := by decide +kernel
theorem d1_154 : decode method_3_code 154 = .ok (.iload_n 1, 1) := by decide +kernel
theorem d1_155 : decode method_3_code 155 = .ok (.iload_n 2, 1) := by decide +kernel
theorem d1_156 : decode method_3_code 156 = .ok (.invokestatic 20, 3) := by decide +kernel
theorem d1_159 : decode method_3_code 159 = .ok (.istore_n 3, 1) := by decide +kernel
theorem d1_160 : decode method_3_code 160 = .ok (.iload_n 3, 1) := by decide +kernel
theorem d1_161 : decode method_3_code 161 = .ok (.ifCond .ne 5, 3) := by decide +kernel
theorem d1_164 : decode method_3_code 164 = .ok (.iload_n 2, 1) := by decide +kernel
theorem d1_165 : decode method_3_code 165 = .ok (.ireturn, 1) := by decide +kernel
theorem d1_166 : decode method_3_code 166 = .ok (.iload_n 2, 1) := by decide +kernel
theorem d1_167 : decode method_3_code 167 = .ok (.iload_n 3, 1) := by decide +kernel
theorem d1_168 : decode method_3_code 168 = .ok (.iadd, 1) := by decide +kernel
theorem d1_169 : decode method_3_code 169 = .ok (.istore_n 2, 1) := by decide +kernel
theorem d1_170 : decode method_3_code 170 = .ok (.iload_n 2, 1) := by decide +kernel
theorem d1_171 : decode method_3_code 171 = .ok (.iload_n 1, 1) := by decide +kernel
theorem d1_172 : decode method_3_code 172 = .ok (.if_icmp .lt 5, 3) := by decide +kernel
theorem d1_175 : decode method_3_code 175 = .ok (.iconst (-1), 1) := by decide +kernel
theorem d1_176 : decode method_3_code 176 = .ok (.ireturn, 1) := by decide +kernel
theorem d1_177 : decode method_3_code 177 = .ok (.aload_n 0, 1) := by decide +kernel
theorem d1_178 : decode method_3_code 178 = .ok (.iload_n 1, 1) := by decide +kernel
theorem d1_179 : decode method_3_code 179 = .ok (.iload_n 2, 1) := by decide +kernel
theorem d1_180 : decode method_3_code 180 = .ok (.invokestatic 20, 3) := by decide +kernel
theorem d1_183 : decode method_3_code 183 = .ok (.istore_n 3, 1) := by decide +kernel
theorem d1_184 : decode method_3_code 184 = .ok (.iload_n 3, 1) := by decide +kernel
theorem d1_185 : decode method_3_code 185 = .ok (.ifCond .ne 5, 3) := by decide +kernel
theorem d1_188 : decode method_3_code 188 = .ok (.iload_n 2, 1) := by decide +kernel
theorem d1_189 : decode method_3_code 189 = .ok (.ireturn, 1) := by decide +kernel
theorem d1_190 : decode method_3_code 190 = .ok (.iconst (-1), 1) := by decide +kernel
theorem d1_191 : decode method_3_code 191 = .ok (.ireturn, 1) := by decide +kernel
theorem pn_1 : plainName "com/example/apportis/apportis/Utf8FirstInvalidPinLaw" = true := by first | (simp [plainName, overriddenIn]; done) | decide +kernel
theorem pd345380b3 : parseMethodDescriptor "([BII)I" = some ⟨[(.array .byte), .int, .int], some .int⟩ := by decide +kernel
theorem ef_rmRef (m : MethodId) (a0 : Addr) (z : Int32) : entryFrame m #[(.ref a0), (.int z)] 4 = mkF m 0 #[.val (.ref a0), .val (.int z), .unset, .unset] [] := by first | (simp [entryFrame, mkF, argsToLocals, Value.category]; done) | rfl
def Q_rmRef (Z : State) (a0 : Addr) (z : Int32) (kk : ClassId) (vs : List Value) (h0 : Heap) (n0 : Nat) (v : Option Value) (h : Heap) (L : List Loc) : Prop := v = some (.int (own_scan vs z 8 0)) ∧ Fr n0 L ∧ h = h0
abbrev F_rmRef (Z : State) (a0 : Addr) (z : Int32) (kk : ClassId) (vs : List Value) (h0 : Heap) (n0 : Nat) (s : State) (o : Outcome) (U : State) : Prop := ∃ v L, o = .returned v ∧ Q_rmRef Z a0 z kk vs h0 n0 v U.heap L ∧ FrameEnd s o U L 0 0
set_option maxRecDepth 65536 in
set_option maxHeartbeats 40000000 in
theorem rmRef (l : Launch) (Z : State) (aZ : Array Value) (hw : ∀ d ∈ tables_1, d.before aZ Z = true) (ws : List Jvm.Cond) (a0 : Addr) (z : Int32) (kk : ClassId) (vs : List Value) (h0 : Heap) (n0 : Nat) (hz0 : 0 ≤ z.toInt) (hB : ∀ j : Int32, -128 ≤ (own_at vs j).toInt ∧ (own_at vs j).toInt ≤ 127) (hz2 : z.toInt ≤ 100) (hI : ∀ j : Int32, vs.getD j.toNatClampNeg (.int (0 : Int32)) = .int (own_at vs j)) (V : Arv Z h0 a0 kk .byte z vs (.int (0 : Int32))) :
    MetFree l (⟨"com/example/apportis/apportis/Utf8FirstInvalidPinLaw", "reference", "([BI)I"⟩ : MethodName) (head1 (Jvm.Cond.code (⟨"com/example/apportis/apportis/Utf8FirstInvalidPinLaw", "reference", "([BI)I"⟩ : MethodName) method_3_code 4 (some .int) :: ws) ({ frames := 1, cells := 0, slots := 0, locals := 19 } : Room)) (fun a U => a = #[(.ref a0), (.int z)] ∧ Z.Warmed39 U.vm ∧ U.heap = h0) (fun _ _ _ _ _ => True) (fun _ U o U' => ∃ v L, o = .returned v ∧ Q_rmRef Z a0 z kk vs h0 n0 v U'.heap L ∧ FrameEnd U o U' L 0 0) := by
  refine MetFree.of_bodySF (plainFor_of_name pn_1) hisR ?_
  intro p e s m args below meth c s₁ Bd hml0 hP hK
  obtain ⟨rfl, hZ, hh⟩ := hP
  have hx := Bd.exec
  have hby := Bd.bytes
  have hml : c.maxLocals = 4 := hml0
  have hown : s.vm.findClass "com/example/apportis/apportis/Utf8FirstInvalidPinLaw" = some m.cls := findClass_of_methodNamed Bd.named
  have hnm := (name_of_methodNamed Bd.named Bd.method).1
  have X0 : Stand p l e ({ frames := 1, cells := 0, slots := 0, locals := 19 } : Room) s m #[(.ref a0), (.int z)] below meth c s₁ [] 0 0 := Stand.of_body Bd
  have e0 : s₁.heap = h0 := by rw [← hh, Bd.state]; rfl
  have N0 := Fr.nil n0
  refine Go.st (fun _ k => castTop (ef_rmRef m a0 z) k) ?_
  show Go p e below _ (s₁.setTop (mkF m 0 #[.val (.ref a0), .val (.int z), .unset, .unset] []))
  have kr7 : ∀ (Tkr7 : State) (lkr7 : List Loc) (i : Int32) (k3 : Int32), (Stand p l e ({ frames := 1, cells := 0, slots := 0, locals := 19 } : Room) s m #[(.ref a0), (.int z)] below meth c Tkr7 lkr7 0 0) → (Tkr7.heap = h0) → (Fr n0 lkr7) → (0 ≤ i.toInt) → (i.toInt ≤ z.toInt) → (own_scan vs z 8 0 = own_scan vs z 1 i) → Go p e below (F_rmRef Z a0 z kk vs h0 n0 s) (Tkr7.setTop (mkF m 170 #[.val (.ref a0), .val (.int z), .val (.int i), .val (.int k3)] [])) := by
    intro Tkr7 lkr7 i k3 Xkr7 ekr7 Nkr7 hi0 hi8 hj
    show Go p e below _ (Tkr7.setTop (mkF m 170 #[.val (.ref a0), .val (.int z), .val (.int i), .val (.int k3)] []))
    refine Go.st (fun _ k => XS.iloadN Xkr7.here hx rfl (hb hby d1_170) rfl k) ?_
    refine Go.st (fun _ k => XS.iloadN Xkr7.here hx rfl (hb hby d1_171) rfl k) ?_
    show Go p e below _ (Tkr7.setTop (mkF m 172 #[.val (.ref a0), .val (.int z), .val (.int i), .val (.int k3)] [(.int z), (.int i)]))
    by_cases hc1 : i < z
    · show Go p e below _ (Tkr7.setTop (mkF m 172 #[.val (.ref a0), .val (.int z), .val (.int i), .val (.int k3)] [(.int z), (.int i)]))
      refine Go.st (fun _ k => XS.icmpYes Xkr7.here hx rfl (pc0 := 172) (pc' := 177) rfl (hb hby d1_172) rfl (tlt hc1).1 (by decide) (by decide) k) ?_
      show Go p e below _ (Tkr7.setTop (mkF m 177 #[.val (.ref a0), .val (.int z), .val (.int i), .val (.int k3)] []))
      refine Go.st (fun _ k => XS.aloadN Xkr7.here hx rfl (hb hby d1_177) rfl rfl k) ?_
      refine Go.st (fun _ k => XS.iloadN Xkr7.here hx rfl (hb hby d1_178) rfl k) ?_
      show Go p e below _ (Tkr7.setTop (mkF m 179 #[.val (.ref a0), .val (.int z), .val (.int i), .val (.int k3)] [(.int z), (.ref a0)]))
      refine Go.st (fun _ k => XS.iloadN Xkr7.here hx rfl (hb hby d1_179) rfl k) ?_
      show Go p e below _ (Tkr7.setTop (mkF m 180 #[.val (.ref a0), .val (.int z), .val (.int i), .val (.int k3)] [(.int i), (.int z), (.ref a0)]))
      obtain ⟨_, _, ⟨T2, L2, k2, n2⟩, -, X2, ⟨Lc2, hQ2, l2, y2, z2⟩, st2⟩ := Jvm.LawKit.callS Xkr7 hx (y := (⟨"com/example/apportis/apportis/Utf8FirstInvalidPinLaw", "charLen", "([BII)I"⟩ : MethodName)) hown (mvT hZ (hw _ (List.mem_of_getElem? (i := 6) rfl))) (mvT hZ (hw _ (List.mem_of_getElem? (i := 7) rfl))) (mvT hZ (hw _ (List.mem_of_getElem? (i := 4) rfl))) (mvT hZ (hw _ (List.mem_of_getElem? (i := 8) rfl))) (by decide) (backOf (W := 0) (rmCL l Z aZ hw [] (own_at vs i) (own_at vs (i + (1 : Int32))) (own_at vs (i + (2 : Int32))) (own_at vs (i + (3 : Int32))) a0 z i kk z vs h0 n0 rfl hi0 (Int32.lt_iff_toInt_lt.mp hc1) hz2 (hI _) (fun _ => hI _) (fun _ => hI _) (fun _ => hI _) V) hZ (hw _ (List.mem_of_getElem? (i := 8) rfl)) (hw _ (List.mem_of_getElem? (i := 4) rfl)) (by decide) (by decide)) (g := (mkF m 180 #[.val (.ref a0), .val (.int z), .val (.int i), .val (.int k3)] [(.int i), (.int z), (.ref a0)])) rfl (by rw [hml]; rfl) (argsL := [(.ref a0), (.int z), (.int i)]) (rest := []) (lenOf pd345380b3 rfl) rfl (by show 2 * 0 + _ ≤ _; exact Nat.le_of_eq rfl) (hb hby d1_180) (fun _ _ => ⟨rfl, ekr7, (by decide : 0 + 0 ≤ _), (by decide : 0 + 0 ≤ _)⟩)
      dsimp only [Pt.U, Pt.locs, Pt.cells, Pt.slots] at X2 l2 y2 z2 st2 hQ2
      subst l2 y2 z2
      obtain ⟨rfl, N2q, e2⟩ := hQ2
      have N2 := Fr.app Nkr7 N2q
      refine Go.st (fun _ k => st2 _ k) ?_
      show Go p e below _ (T2.setTop (mkF m 183 #[.val (.ref a0), .val (.int z), .val (.int i), .val (.int k3)] [(.int (own_g vs z i))]))
      refine Go.st (fun _ k => XS.istoreN X2.here hx rfl (hb hby d1_183) rfl (l' := #[.val (.ref a0), .val (.int z), .val (.int i), .val (.int (own_g vs z i))]) rfl k) ?_
      show Go p e below _ (T2.setTop (mkF m 184 #[.val (.ref a0), .val (.int z), .val (.int i), .val (.int (own_g vs z i))] []))
      refine Go.st (fun _ k => XS.iloadN X2.here hx rfl (hb hby d1_184) rfl k) ?_
      by_cases hc3 : (own_g vs z i) = (0 : Int32)
      · show Go p e below _ (T2.setTop (mkF m 185 #[.val (.ref a0), .val (.int z), .val (.int i), .val (.int (own_g vs z i))] [(.int (own_g vs z i))]))
        refine Go.st (fun _ k => XS.ifNo X2.here hx rfl (hb hby d1_185) rfl ((if0 _ _).trans (teq hc3).2) k) ?_
        show Go p e below _ (T2.setTop (mkF m 188 #[.val (.ref a0), .val (.int z), .val (.int i), .val (.int (own_g vs z i))] []))
        refine Go.st (fun _ k => XS.iloadN X2.here hx rfl (hb hby d1_188) rfl k) ?_
        obtain ⟨fs, hr, hrun, hended, hW, hsame⟩ := X2.leave (v := some (.int i)) (fun h => by rw [Bd.returns] at h; cases h)
        refine ⟨_, _, retI X2 hx Bd.returns (hb hby d1_189) hr, hrun, hended, _, _, rfl, ?_, ⟨_, rfl⟩, hW, hsame.mono (by decide) (by decide)⟩
        show Q_rmRef Z a0 z kk vs h0 n0 _ T2.heap _
        rw [e2]
        refine ⟨?_, N2, rfl⟩
        rw [hj, own_scan_bad vs hc1 hc3]
      · show Go p e below _ (T2.setTop (mkF m 185 #[.val (.ref a0), .val (.int z), .val (.int i), .val (.int (own_g vs z i))] [(.int (own_g vs z i))]))
        refine Go.st (fun _ k => XS.ifYes X2.here hx rfl (pc0 := 185) (pc' := 190) rfl (hb hby d1_185) rfl ((if0 _ _).trans (feq hc3).2) (by decide) (by decide) k) ?_
        show Go p e below _ (T2.setTop (mkF m 190 #[.val (.ref a0), .val (.int z), .val (.int i), .val (.int (own_g vs z i))] []))
        refine Go.st (fun _ k => XS.iconst X2.here hx rfl (hb hby d1_190) k) ?_
        obtain ⟨fs, hr, hrun, hended, hW, hsame⟩ := X2.leave (v := some (.int (-1 : Int32))) (fun h => by rw [Bd.returns] at h; cases h)
        refine ⟨_, _, retI X2 hx Bd.returns (hb hby d1_191) hr, hrun, hended, _, _, rfl, ?_, ⟨_, rfl⟩, hW, hsame.mono (by decide) (by decide)⟩
        show Q_rmRef Z a0 z kk vs h0 n0 _ T2.heap _
        rw [e2]
        refine ⟨?_, N2, rfl⟩
        rw [hj, own_scan_last vs hc1 hc3]
    · show Go p e below _ (Tkr7.setTop (mkF m 172 #[.val (.ref a0), .val (.int z), .val (.int i), .val (.int k3)] [(.int z), (.int i)]))
      refine Go.st (fun _ k => XS.icmpNo Xkr7.here hx rfl (hb hby d1_172) rfl (flt hc1).1 k) ?_
      show Go p e below _ (Tkr7.setTop (mkF m 175 #[.val (.ref a0), .val (.int z), .val (.int i), .val (.int k3)] []))
      refine Go.st (fun _ k => XS.iconst Xkr7.here hx rfl (hb hby d1_175) k) ?_
      obtain ⟨fs, hr, hrun, hended, hW, hsame⟩ := Xkr7.leave (v := some (.int (-1 : Int32))) (fun h => by rw [Bd.returns] at h; cases h)
      refine ⟨_, _, retI Xkr7 hx Bd.returns (hb hby d1_176) hr, hrun, hended, _, _, rfl, ?_, ⟨_, rfl⟩, hW, hsame.mono (by decide) (by decide)⟩
      show Q_rmRef Z a0 z kk vs h0 n0 _ Tkr7.heap _
      rw [ekr7]
      refine ⟨?_, Nkr7, rfl⟩
      rw [hj, own_scan_out vs hc1]
  have kr6 : ∀ (Tkr6 : State) (lkr6 : List Loc) (i : Int32) (k3 : Int32), (Stand p l e ({ frames := 1, cells := 0, slots := 0, locals := 19 } : Room) s m #[(.ref a0), (.int z)] below meth c Tkr6 lkr6 0 0) → (Tkr6.heap = h0) → (Fr n0 lkr6) → (0 ≤ i.toInt) → (i.toInt ≤ z.toInt) → (own_scan vs z 8 0 = own_scan vs z 2 i) → Go p e below (F_rmRef Z a0 z kk vs h0 n0 s) (Tkr6.setTop (mkF m 146 #[.val (.ref a0), .val (.int z), .val (.int i), .val (.int k3)] [])) := by
    intro Tkr6 lkr6 i k3 Xkr6 ekr6 Nkr6 hi0 hi8 hj
    show Go p e below _ (Tkr6.setTop (mkF m 146 #[.val (.ref a0), .val (.int z), .val (.int i), .val (.int k3)] []))
    refine Go.st (fun _ k => XS.iloadN Xkr6.here hx rfl (hb hby d1_146) rfl k) ?_
    refine Go.st (fun _ k => XS.iloadN Xkr6.here hx rfl (hb hby d1_147) rfl k) ?_
    show Go p e below _ (Tkr6.setTop (mkF m 148 #[.val (.ref a0), .val (.int z), .val (.int i), .val (.int k3)] [(.int z), (.int i)]))
    by_cases hc4 : i < z
    · show Go p e below _ (Tkr6.setTop (mkF m 148 #[.val (.ref a0), .val (.int z), .val (.int i), .val (.int k3)] [(.int z), (.int i)]))
      refine Go.st (fun _ k => XS.icmpYes Xkr6.here hx rfl (pc0 := 148) (pc' := 153) rfl (hb hby d1_148) rfl (tlt hc4).1 (by decide) (by decide) k) ?_
      show Go p e below _ (Tkr6.setTop (mkF m 153 #[.val (.ref a0), .val (.int z), .val (.int i), .val (.int k3)] []))
      refine Go.st (fun _ k => XS.aloadN Xkr6.here hx rfl (hb hby d1_153) rfl rfl k) ?_
      refine Go.st (fun _ k => XS.iloadN Xkr6.here hx rfl (hb hby d1_154) rfl k) ?_
      show Go p e below _ (Tkr6.setTop (mkF m 155 #[.val (.ref a0), .val (.int z), .val (.int i), .val (.int k3)] [(.int z), (.ref a0)]))
      refine Go.st (fun _ k => XS.iloadN Xkr6.here hx rfl (hb hby d1_155) rfl k) ?_
      show Go p e below _ (Tkr6.setTop (mkF m 156 #[.val (.ref a0), .val (.int z), .val (.int i), .val (.int k3)] [(.int i), (.int z), (.ref a0)]))
      obtain ⟨_, _, ⟨T5, L5, k5, n5⟩, -, X5, ⟨Lc5, hQ5, l5, y5, z5⟩, st5⟩ := Jvm.LawKit.callS Xkr6 hx (y := (⟨"com/example/apportis/apportis/Utf8FirstInvalidPinLaw", "charLen", "([BII)I"⟩ : MethodName)) hown (mvT hZ (hw _ (List.mem_of_getElem? (i := 6) rfl))) (mvT hZ (hw _ (List.mem_of_getElem? (i := 7) rfl))) (mvT hZ (hw _ (List.mem_of_getElem? (i := 4) rfl))) (mvT hZ (hw _ (List.mem_of_getElem? (i := 8) rfl))) (by decide) (backOf (W := 0) (rmCL l Z aZ hw [] (own_at vs i) (own_at vs (i + (1 : Int32))) (own_at vs (i + (2 : Int32))) (own_at vs (i + (3 : Int32))) a0 z i kk z vs h0 n0 rfl hi0 (Int32.lt_iff_toInt_lt.mp hc4) hz2 (hI _) (fun _ => hI _) (fun _ => hI _) (fun _ => hI _) V) hZ (hw _ (List.mem_of_getElem? (i := 8) rfl)) (hw _ (List.mem_of_getElem? (i := 4) rfl)) (by decide) (by decide)) (g := (mkF m 156 #[.val (.ref a0), .val (.int z), .val (.int i), .val (.int k3)] [(.int i), (.int z), (.ref a0)])) rfl (by rw [hml]; rfl) (argsL := [(.ref a0), (.int z), (.int i)]) (rest := []) (lenOf pd345380b3 rfl) rfl (by show 2 * 0 + _ ≤ _; exact Nat.le_of_eq rfl) (hb hby d1_156) (fun _ _ => ⟨rfl, ekr6, (by decide : 0 + 0 ≤ _), (by decide : 0 + 0 ≤ _)⟩)
      dsimp only [Pt.U, Pt.locs, Pt.cells, Pt.slots] at X5 l5 y5 z5 st5 hQ5
      subst l5 y5 z5
      obtain ⟨rfl, N5q, e5⟩ := hQ5
      have N5 := Fr.app Nkr6 N5q
      refine Go.st (fun _ k => st5 _ k) ?_
      show Go p e below _ (T5.setTop (mkF m 159 #[.val (.ref a0), .val (.int z), .val (.int i), .val (.int k3)] [(.int (own_g vs z i))]))
      refine Go.st (fun _ k => XS.istoreN X5.here hx rfl (hb hby d1_159) rfl (l' := #[.val (.ref a0), .val (.int z), .val (.int i), .val (.int (own_g vs z i))]) rfl k) ?_
      show Go p e below _ (T5.setTop (mkF m 160 #[.val (.ref a0), .val (.int z), .val (.int i), .val (.int (own_g vs z i))] []))
      refine Go.st (fun _ k => XS.iloadN X5.here hx rfl (hb hby d1_160) rfl k) ?_
      by_cases hc6 : (own_g vs z i) = (0 : Int32)
      · show Go p e below _ (T5.setTop (mkF m 161 #[.val (.ref a0), .val (.int z), .val (.int i), .val (.int (own_g vs z i))] [(.int (own_g vs z i))]))
        refine Go.st (fun _ k => XS.ifNo X5.here hx rfl (hb hby d1_161) rfl ((if0 _ _).trans (teq hc6).2) k) ?_
        show Go p e below _ (T5.setTop (mkF m 164 #[.val (.ref a0), .val (.int z), .val (.int i), .val (.int (own_g vs z i))] []))
        refine Go.st (fun _ k => XS.iloadN X5.here hx rfl (hb hby d1_164) rfl k) ?_
        obtain ⟨fs, hr, hrun, hended, hW, hsame⟩ := X5.leave (v := some (.int i)) (fun h => by rw [Bd.returns] at h; cases h)
        refine ⟨_, _, retI X5 hx Bd.returns (hb hby d1_165) hr, hrun, hended, _, _, rfl, ?_, ⟨_, rfl⟩, hW, hsame.mono (by decide) (by decide)⟩
        show Q_rmRef Z a0 z kk vs h0 n0 _ T5.heap _
        rw [e5]
        refine ⟨?_, N5, rfl⟩
        rw [hj, own_scan_bad vs hc4 hc6]
      · show Go p e below _ (T5.setTop (mkF m 161 #[.val (.ref a0), .val (.int z), .val (.int i), .val (.int (own_g vs z i))] [(.int (own_g vs z i))]))
        refine Go.st (fun _ k => XS.ifYes X5.here hx rfl (pc0 := 161) (pc' := 166) rfl (hb hby d1_161) rfl ((if0 _ _).trans (feq hc6).2) (by decide) (by decide) k) ?_
        show Go p e below _ (T5.setTop (mkF m 166 #[.val (.ref a0), .val (.int z), .val (.int i), .val (.int (own_g vs z i))] []))
        refine Go.st (fun _ k => XS.iloadN X5.here hx rfl (hb hby d1_166) rfl k) ?_
        refine Go.st (fun _ k => XS.iloadN X5.here hx rfl (hb hby d1_167) rfl k) ?_
        show Go p e below _ (T5.setTop (mkF m 168 #[.val (.ref a0), .val (.int z), .val (.int i), .val (.int (own_g vs z i))] [(.int (own_g vs z i)), (.int i)]))
        refine Go.st (fun _ k => XS.iadd X5.here hx rfl (hb hby d1_168) rfl k) ?_
        refine Go.st (fun _ k => XS.istoreN X5.here hx rfl (hb hby d1_169) rfl (l' := #[.val (.ref a0), .val (.int z), .val (.int (i + (own_g vs z i))), .val (.int (own_g vs z i))]) rfl k) ?_
        show Go p e below _ (T5.setTop (mkF m 170 #[.val (.ref a0), .val (.int z), .val (.int (i + (own_g vs z i))), .val (.int (own_g vs z i))] []))
        exact kr7 _ _ (i + (own_g vs z i)) (own_g vs z i) X5 e5 N5 (own_step0 vs hB hi0 hc4 hz2 hc6) (own_step1 vs hB hi0 hc4 hz2 hc6) (hj.trans (own_scan_step vs hc4 hc6))
    · show Go p e below _ (Tkr6.setTop (mkF m 148 #[.val (.ref a0), .val (.int z), .val (.int i), .val (.int k3)] [(.int z), (.int i)]))
      refine Go.st (fun _ k => XS.icmpNo Xkr6.here hx rfl (hb hby d1_148) rfl (flt hc4).1 k) ?_
      show Go p e below _ (Tkr6.setTop (mkF m 151 #[.val (.ref a0), .val (.int z), .val (.int i), .val (.int k3)] []))
      refine Go.st (fun _ k => XS.iconst Xkr6.here hx rfl (hb hby d1_151) k) ?_
      obtain ⟨fs, hr, hrun, hended, hW, hsame⟩ := Xkr6.leave (v := some (.int (-1 : Int32))) (fun h => by rw [Bd.returns] at h; cases h)
      refine ⟨_, _, retI Xkr6 hx Bd.returns (hb hby d1_152) hr, hrun, hended, _, _, rfl, ?_, ⟨_, rfl⟩, hW, hsame.mono (by decide) (by decide)⟩
      show Q_rmRef Z a0 z kk vs h0 n0 _ Tkr6.heap _
      rw [ekr6]
      refine ⟨?_, Nkr6, rfl⟩
      rw [hj, own_scan_out vs hc4]
  have kr5 : ∀ (Tkr5 : State) (lkr5 : List Loc) (i : Int32) (k3 : Int32), (Stand p l e ({ frames := 1, cells := 0, slots := 0, locals := 19 } : Room) s m #[(.ref a0), (.int z)] below meth c Tkr5 lkr5 0 0) → (Tkr5.heap = h0) → (Fr n0 lkr5) → (0 ≤ i.toInt) → (i.toInt ≤ z.toInt) → (own_scan vs z 8 0 = own_scan vs z 3 i) → Go p e below (F_rmRef Z a0 z kk vs h0 n0 s) (Tkr5.setTop (mkF m 122 #[.val (.ref a0), .val (.int z), .val (.int i), .val (.int k3)] [])) := by
    intro Tkr5 lkr5 i k3 Xkr5 ekr5 Nkr5 hi0 hi8 hj
    show Go p e below _ (Tkr5.setTop (mkF m 122 #[.val (.ref a0), .val (.int z), .val (.int i), .val (.int k3)] []))
    refine Go.st (fun _ k => XS.iloadN Xkr5.here hx rfl (hb hby d1_122) rfl k) ?_
    refine Go.st (fun _ k => XS.iloadN Xkr5.here hx rfl (hb hby d1_123) rfl k) ?_
    show Go p e below _ (Tkr5.setTop (mkF m 124 #[.val (.ref a0), .val (.int z), .val (.int i), .val (.int k3)] [(.int z), (.int i)]))
    by_cases hc7 : i < z
    · show Go p e below _ (Tkr5.setTop (mkF m 124 #[.val (.ref a0), .val (.int z), .val (.int i), .val (.int k3)] [(.int z), (.int i)]))
      refine Go.st (fun _ k => XS.icmpYes Xkr5.here hx rfl (pc0 := 124) (pc' := 129) rfl (hb hby d1_124) rfl (tlt hc7).1 (by decide) (by decide) k) ?_
      show Go p e below _ (Tkr5.setTop (mkF m 129 #[.val (.ref a0), .val (.int z), .val (.int i), .val (.int k3)] []))
      refine Go.st (fun _ k => XS.aloadN Xkr5.here hx rfl (hb hby d1_129) rfl rfl k) ?_
      refine Go.st (fun _ k => XS.iloadN Xkr5.here hx rfl (hb hby d1_130) rfl k) ?_
      show Go p e below _ (Tkr5.setTop (mkF m 131 #[.val (.ref a0), .val (.int z), .val (.int i), .val (.int k3)] [(.int z), (.ref a0)]))
      refine Go.st (fun _ k => XS.iloadN Xkr5.here hx rfl (hb hby d1_131) rfl k) ?_
      show Go p e below _ (Tkr5.setTop (mkF m 132 #[.val (.ref a0), .val (.int z), .val (.int i), .val (.int k3)] [(.int i), (.int z), (.ref a0)]))
      obtain ⟨_, _, ⟨T8, L8, k8, n8⟩, -, X8, ⟨Lc8, hQ8, l8, y8, z8⟩, st8⟩ := Jvm.LawKit.callS Xkr5 hx (y := (⟨"com/example/apportis/apportis/Utf8FirstInvalidPinLaw", "charLen", "([BII)I"⟩ : MethodName)) hown (mvT hZ (hw _ (List.mem_of_getElem? (i := 6) rfl))) (mvT hZ (hw _ (List.mem_of_getElem? (i := 7) rfl))) (mvT hZ (hw _ (List.mem_of_getElem? (i := 4) rfl))) (mvT hZ (hw _ (List.mem_of_getElem? (i := 8) rfl))) (by decide) (backOf (W := 0) (rmCL l Z aZ hw [] (own_at vs i) (own_at vs (i + (1 : Int32))) (own_at vs (i + (2 : Int32))) (own_at vs (i + (3 : Int32))) a0 z i kk z vs h0 n0 rfl hi0 (Int32.lt_iff_toInt_lt.mp hc7) hz2 (hI _) (fun _ => hI _) (fun _ => hI _) (fun _ => hI _) V) hZ (hw _ (List.mem_of_getElem? (i := 8) rfl)) (hw _ (List.mem_of_getElem? (i := 4) rfl)) (by decide) (by decide)) (g := (mkF m 132 #[.val (.ref a0), .val (.int z), .val (.int i), .val (.int k3)] [(.int i), (.int z), (.ref a0)])) rfl (by rw [hml]; rfl) (argsL := [(.ref a0), (.int z), (.int i)]) (rest := []) (lenOf pd345380b3 rfl) rfl (by show 2 * 0 + _ ≤ _; exact Nat.le_of_eq rfl) (hb hby d1_132) (fun _ _ => ⟨rfl, ekr5, (by decide : 0 + 0 ≤ _), (by decide : 0 + 0 ≤ _)⟩)
      dsimp only [Pt.U, Pt.locs, Pt.cells, Pt.slots] at X8 l8 y8 z8 st8 hQ8
      subst l8 y8 z8
      obtain ⟨rfl, N8q, e8⟩ := hQ8
      have N8 := Fr.app Nkr5 N8q
      refine Go.st (fun _ k => st8 _ k) ?_
      show Go p e below _ (T8.setTop (mkF m 135 #[.val (.ref a0), .val (.int z), .val (.int i), .val (.int k3)] [(.int (own_g vs z i))]))
      refine Go.st (fun _ k => XS.istoreN X8.here hx rfl (hb hby d1_135) rfl (l' := #[.val (.ref a0), .val (.int z), .val (.int i), .val (.int (own_g vs z i))]) rfl k) ?_
      show Go p e below _ (T8.setTop (mkF m 136 #[.val (.ref a0), .val (.int z), .val (.int i), .val (.int (own_g vs z i))] []))
      refine Go.st (fun _ k => XS.iloadN X8.here hx rfl (hb hby d1_136) rfl k) ?_
      by_cases hc9 : (own_g vs z i) = (0 : Int32)
      · show Go p e below _ (T8.setTop (mkF m 137 #[.val (.ref a0), .val (.int z), .val (.int i), .val (.int (own_g vs z i))] [(.int (own_g vs z i))]))
        refine Go.st (fun _ k => XS.ifNo X8.here hx rfl (hb hby d1_137) rfl ((if0 _ _).trans (teq hc9).2) k) ?_
        show Go p e below _ (T8.setTop (mkF m 140 #[.val (.ref a0), .val (.int z), .val (.int i), .val (.int (own_g vs z i))] []))
        refine Go.st (fun _ k => XS.iloadN X8.here hx rfl (hb hby d1_140) rfl k) ?_
        obtain ⟨fs, hr, hrun, hended, hW, hsame⟩ := X8.leave (v := some (.int i)) (fun h => by rw [Bd.returns] at h; cases h)
        refine ⟨_, _, retI X8 hx Bd.returns (hb hby d1_141) hr, hrun, hended, _, _, rfl, ?_, ⟨_, rfl⟩, hW, hsame.mono (by decide) (by decide)⟩
        show Q_rmRef Z a0 z kk vs h0 n0 _ T8.heap _
        rw [e8]
        refine ⟨?_, N8, rfl⟩
        rw [hj, own_scan_bad vs hc7 hc9]
      · show Go p e below _ (T8.setTop (mkF m 137 #[.val (.ref a0), .val (.int z), .val (.int i), .val (.int (own_g vs z i))] [(.int (own_g vs z i))]))
        refine Go.st (fun _ k => XS.ifYes X8.here hx rfl (pc0 := 137) (pc' := 142) rfl (hb hby d1_137) rfl ((if0 _ _).trans (feq hc9).2) (by decide) (by decide) k) ?_
        show Go p e below _ (T8.setTop (mkF m 142 #[.val (.ref a0), .val (.int z), .val (.int i), .val (.int (own_g vs z i))] []))
        refine Go.st (fun _ k => XS.iloadN X8.here hx rfl (hb hby d1_142) rfl k) ?_
        refine Go.st (fun _ k => XS.iloadN X8.here hx rfl (hb hby d1_143) rfl k) ?_
        show Go p e below _ (T8.setTop (mkF m 144 #[.val (.ref a0), .val (.int z), .val (.int i), .val (.int (own_g vs z i))] [(.int (own_g vs z i)), (.int i)]))
        refine Go.st (fun _ k => XS.iadd X8.here hx rfl (hb hby d1_144) rfl k) ?_
        refine Go.st (fun _ k => XS.istoreN X8.here hx rfl (hb hby d1_145) rfl (l' := #[.val (.ref a0), .val (.int z), .val (.int (i + (own_g vs z i))), .val (.int (own_g vs z i))]) rfl k) ?_
        show Go p e below _ (T8.setTop (mkF m 146 #[.val (.ref a0), .val (.int z), .val (.int (i + (own_g vs z i))), .val (.int (own_g vs z i))] []))
        exact kr6 _ _ (i + (own_g vs z i)) (own_g vs z i) X8 e8 N8 (own_step0 vs hB hi0 hc7 hz2 hc9) (own_step1 vs hB hi0 hc7 hz2 hc9) (hj.trans (own_scan_step vs hc7 hc9))
    · show Go p e below _ (Tkr5.setTop (mkF m 124 #[.val (.ref a0), .val (.int z), .val (.int i), .val (.int k3)] [(.int z), (.int i)]))
      refine Go.st (fun _ k => XS.icmpNo Xkr5.here hx rfl (hb hby d1_124) rfl (flt hc7).1 k) ?_
      show Go p e below _ (Tkr5.setTop (mkF m 127 #[.val (.ref a0), .val (.int z), .val (.int i), .val (.int k3)] []))
      refine Go.st (fun _ k => XS.iconst Xkr5.here hx rfl (hb hby d1_127) k) ?_
      obtain ⟨fs, hr, hrun, hended, hW, hsame⟩ := Xkr5.leave (v := some (.int (-1 : Int32))) (fun h => by rw [Bd.returns] at h; cases h)
      refine ⟨_, _, retI Xkr5 hx Bd.returns (hb hby d1_128) hr, hrun, hended, _, _, rfl, ?_, ⟨_, rfl⟩, hW, hsame.mono (by decide) (by decide)⟩
      show Q_rmRef Z a0 z kk vs h0 n0 _ Tkr5.heap _
      rw [ekr5]
      refine ⟨?_, Nkr5, rfl⟩
      rw [hj, own_scan_out vs hc7]
  have kr4 : ∀ (Tkr4 : State) (lkr4 : List Loc) (i : Int32) (k3 : Int32), (Stand p l e ({ frames := 1, cells := 0, slots := 0, locals := 19 } : Room) s m #[(.ref a0), (.int z)] below meth c Tkr4 lkr4 0 0) → (Tkr4.heap = h0) → (Fr n0 lkr4) → (0 ≤ i.toInt) → (i.toInt ≤ z.toInt) → (own_scan vs z 8 0 = own_scan vs z 4 i) → Go p e below (F_rmRef Z a0 z kk vs h0 n0 s) (Tkr4.setTop (mkF m 98 #[.val (.ref a0), .val (.int z), .val (.int i), .val (.int k3)] [])) := by
    intro Tkr4 lkr4 i k3 Xkr4 ekr4 Nkr4 hi0 hi8 hj
    show Go p e below _ (Tkr4.setTop (mkF m 98 #[.val (.ref a0), .val (.int z), .val (.int i), .val (.int k3)] []))
    refine Go.st (fun _ k => XS.iloadN Xkr4.here hx rfl (hb hby d1_98) rfl k) ?_
    refine Go.st (fun _ k => XS.iloadN Xkr4.here hx rfl (hb hby d1_99) rfl k) ?_
    show Go p e below _ (Tkr4.setTop (mkF m 100 #[.val (.ref a0), .val (.int z), .val (.int i), .val (.int k3)] [(.int z), (.int i)]))
    by_cases hc10 : i < z
    · show Go p e below _ (Tkr4.setTop (mkF m 100 #[.val (.ref a0), .val (.int z), .val (.int i), .val (.int k3)] [(.int z), (.int i)]))
      refine Go.st (fun _ k => XS.icmpYes Xkr4.here hx rfl (pc0 := 100) (pc' := 105) rfl (hb hby d1_100) rfl (tlt hc10).1 (by decide) (by decide) k) ?_
      show Go p e below _ (Tkr4.setTop (mkF m 105 #[.val (.ref a0), .val (.int z), .val (.int i), .val (.int k3)] []))
      refine Go.st (fun _ k => XS.aloadN Xkr4.here hx rfl (hb hby d1_105) rfl rfl k) ?_
      refine Go.st (fun _ k => XS.iloadN Xkr4.here hx rfl (hb hby d1_106) rfl k) ?_
      show Go p e below _ (Tkr4.setTop (mkF m 107 #[.val (.ref a0), .val (.int z), .val (.int i), .val (.int k3)] [(.int z), (.ref a0)]))
      refine Go.st (fun _ k => XS.iloadN Xkr4.here hx rfl (hb hby d1_107) rfl k) ?_
      show Go p e below _ (Tkr4.setTop (mkF m 108 #[.val (.ref a0), .val (.int z), .val (.int i), .val (.int k3)] [(.int i), (.int z), (.ref a0)]))
      obtain ⟨_, _, ⟨T11, L11, k11, n11⟩, -, X11, ⟨Lc11, hQ11, l11, y11, z11⟩, st11⟩ := Jvm.LawKit.callS Xkr4 hx (y := (⟨"com/example/apportis/apportis/Utf8FirstInvalidPinLaw", "charLen", "([BII)I"⟩ : MethodName)) hown (mvT hZ (hw _ (List.mem_of_getElem? (i := 6) rfl))) (mvT hZ (hw _ (List.mem_of_getElem? (i := 7) rfl))) (mvT hZ (hw _ (List.mem_of_getElem? (i := 4) rfl))) (mvT hZ (hw _ (List.mem_of_getElem? (i := 8) rfl))) (by decide) (backOf (W := 0) (rmCL l Z aZ hw [] (own_at vs i) (own_at vs (i + (1 : Int32))) (own_at vs (i + (2 : Int32))) (own_at vs (i + (3 : Int32))) a0 z i kk z vs h0 n0 rfl hi0 (Int32.lt_iff_toInt_lt.mp hc10) hz2 (hI _) (fun _ => hI _) (fun _ => hI _) (fun _ => hI _) V) hZ (hw _ (List.mem_of_getElem? (i := 8) rfl)) (hw _ (List.mem_of_getElem? (i := 4) rfl)) (by decide) (by decide)) (g := (mkF m 108 #[.val (.ref a0), .val (.int z), .val (.int i), .val (.int k3)] [(.int i), (.int z), (.ref a0)])) rfl (by rw [hml]; rfl) (argsL := [(.ref a0), (.int z), (.int i)]) (rest := []) (lenOf pd345380b3 rfl) rfl (by show 2 * 0 + _ ≤ _; exact Nat.le_of_eq rfl) (hb hby d1_108) (fun _ _ => ⟨rfl, ekr4, (by decide : 0 + 0 ≤ _), (by decide : 0 + 0 ≤ _)⟩)
      dsimp only [Pt.U, Pt.locs, Pt.cells, Pt.slots] at X11 l11 y11 z11 st11 hQ11
      subst l11 y11 z11
      obtain ⟨rfl, N11q, e11⟩ := hQ11
      have N11 := Fr.app Nkr4 N11q
      refine Go.st (fun _ k => st11 _ k) ?_
      show Go p e below _ (T11.setTop (mkF m 111 #[.val (.ref a0), .val (.int z), .val (.int i), .val (.int k3)] [(.int (own_g vs z i))]))
      refine Go.st (fun _ k => XS.istoreN X11.here hx rfl (hb hby d1_111) rfl (l' := #[.val (.ref a0), .val (.int z), .val (.int i), .val (.int (own_g vs z i))]) rfl k) ?_
      show Go p e below _ (T11.setTop (mkF m 112 #[.val (.ref a0), .val (.int z), .val (.int i), .val (.int (own_g vs z i))] []))
      refine Go.st (fun _ k => XS.iloadN X11.here hx rfl (hb hby d1_112) rfl k) ?_
      by_cases hc12 : (own_g vs z i) = (0 : Int32)
      · show Go p e below _ (T11.setTop (mkF m 113 #[.val (.ref a0), .val (.int z), .val (.int i), .val (.int (own_g vs z i))] [(.int (own_g vs z i))]))
        refine Go.st (fun _ k => XS.ifNo X11.here hx rfl (hb hby d1_113) rfl ((if0 _ _).trans (teq hc12).2) k) ?_
        show Go p e below _ (T11.setTop (mkF m 116 #[.val (.ref a0), .val (.int z), .val (.int i), .val (.int (own_g vs z i))] []))
        refine Go.st (fun _ k => XS.iloadN X11.here hx rfl (hb hby d1_116) rfl k) ?_
        obtain ⟨fs, hr, hrun, hended, hW, hsame⟩ := X11.leave (v := some (.int i)) (fun h => by rw [Bd.returns] at h; cases h)
        refine ⟨_, _, retI X11 hx Bd.returns (hb hby d1_117) hr, hrun, hended, _, _, rfl, ?_, ⟨_, rfl⟩, hW, hsame.mono (by decide) (by decide)⟩
        show Q_rmRef Z a0 z kk vs h0 n0 _ T11.heap _
        rw [e11]
        refine ⟨?_, N11, rfl⟩
        rw [hj, own_scan_bad vs hc10 hc12]
      · show Go p e below _ (T11.setTop (mkF m 113 #[.val (.ref a0), .val (.int z), .val (.int i), .val (.int (own_g vs z i))] [(.int (own_g vs z i))]))
        refine Go.st (fun _ k => XS.ifYes X11.here hx rfl (pc0 := 113) (pc' := 118) rfl (hb hby d1_113) rfl ((if0 _ _).trans (feq hc12).2) (by decide) (by decide) k) ?_
        show Go p e below _ (T11.setTop (mkF m 118 #[.val (.ref a0), .val (.int z), .val (.int i), .val (.int (own_g vs z i))] []))
        refine Go.st (fun _ k => XS.iloadN X11.here hx rfl (hb hby d1_118) rfl k) ?_
        refine Go.st (fun _ k => XS.iloadN X11.here hx rfl (hb hby d1_119) rfl k) ?_
        show Go p e below _ (T11.setTop (mkF m 120 #[.val (.ref a0), .val (.int z), .val (.int i), .val (.int (own_g vs z i))] [(.int (own_g vs z i)), (.int i)]))
        refine Go.st (fun _ k => XS.iadd X11.here hx rfl (hb hby d1_120) rfl k) ?_
        refine Go.st (fun _ k => XS.istoreN X11.here hx rfl (hb hby d1_121) rfl (l' := #[.val (.ref a0), .val (.int z), .val (.int (i + (own_g vs z i))), .val (.int (own_g vs z i))]) rfl k) ?_
        show Go p e below _ (T11.setTop (mkF m 122 #[.val (.ref a0), .val (.int z), .val (.int (i + (own_g vs z i))), .val (.int (own_g vs z i))] []))
        exact kr5 _ _ (i + (own_g vs z i)) (own_g vs z i) X11 e11 N11 (own_step0 vs hB hi0 hc10 hz2 hc12) (own_step1 vs hB hi0 hc10 hz2 hc12) (hj.trans (own_scan_step vs hc10 hc12))
    · show Go p e below _ (Tkr4.setTop (mkF m 100 #[.val (.ref a0), .val (.int z), .val (.int i), .val (.int k3)] [(.int z), (.int i)]))
      refine Go.st (fun _ k => XS.icmpNo Xkr4.here hx rfl (hb hby d1_100) rfl (flt hc10).1 k) ?_
      show Go p e below _ (Tkr4.setTop (mkF m 103 #[.val (.ref a0), .val (.int z), .val (.int i), .val (.int k3)] []))
      refine Go.st (fun _ k => XS.iconst Xkr4.here hx rfl (hb hby d1_103) k) ?_
      obtain ⟨fs, hr, hrun, hended, hW, hsame⟩ := Xkr4.leave (v := some (.int (-1 : Int32))) (fun h => by rw [Bd.returns] at h; cases h)
      refine ⟨_, _, retI Xkr4 hx Bd.returns (hb hby d1_104) hr, hrun, hended, _, _, rfl, ?_, ⟨_, rfl⟩, hW, hsame.mono (by decide) (by decide)⟩
      show Q_rmRef Z a0 z kk vs h0 n0 _ Tkr4.heap _
      rw [ekr4]
      refine ⟨?_, Nkr4, rfl⟩
      rw [hj, own_scan_out vs hc10]
  have kr3 : ∀ (Tkr3 : State) (lkr3 : List Loc) (i : Int32) (k3 : Int32), (Stand p l e ({ frames := 1, cells := 0, slots := 0, locals := 19 } : Room) s m #[(.ref a0), (.int z)] below meth c Tkr3 lkr3 0 0) → (Tkr3.heap = h0) → (Fr n0 lkr3) → (0 ≤ i.toInt) → (i.toInt ≤ z.toInt) → (own_scan vs z 8 0 = own_scan vs z 5 i) → Go p e below (F_rmRef Z a0 z kk vs h0 n0 s) (Tkr3.setTop (mkF m 74 #[.val (.ref a0), .val (.int z), .val (.int i), .val (.int k3)] [])) := by
    intro Tkr3 lkr3 i k3 Xkr3 ekr3 Nkr3 hi0 hi8 hj
    show Go p e below _ (Tkr3.setTop (mkF m 74 #[.val (.ref a0), .val (.int z), .val (.int i), .val (.int k3)] []))
    refine Go.st (fun _ k => XS.iloadN Xkr3.here hx rfl (hb hby d1_74) rfl k) ?_
    refine Go.st (fun _ k => XS.iloadN Xkr3.here hx rfl (hb hby d1_75) rfl k) ?_
    show Go p e below _ (Tkr3.setTop (mkF m 76 #[.val (.ref a0), .val (.int z), .val (.int i), .val (.int k3)] [(.int z), (.int i)]))
    by_cases hc13 : i < z
    · show Go p e below _ (Tkr3.setTop (mkF m 76 #[.val (.ref a0), .val (.int z), .val (.int i), .val (.int k3)] [(.int z), (.int i)]))
      refine Go.st (fun _ k => XS.icmpYes Xkr3.here hx rfl (pc0 := 76) (pc' := 81) rfl (hb hby d1_76) rfl (tlt hc13).1 (by decide) (by decide) k) ?_
      show Go p e below _ (Tkr3.setTop (mkF m 81 #[.val (.ref a0), .val (.int z), .val (.int i), .val (.int k3)] []))
      refine Go.st (fun _ k => XS.aloadN Xkr3.here hx rfl (hb hby d1_81) rfl rfl k) ?_
      refine Go.st (fun _ k => XS.iloadN Xkr3.here hx rfl (hb hby d1_82) rfl k) ?_
      show Go p e below _ (Tkr3.setTop (mkF m 83 #[.val (.ref a0), .val (.int z), .val (.int i), .val (.int k3)] [(.int z), (.ref a0)]))
      refine Go.st (fun _ k => XS.iloadN Xkr3.here hx rfl (hb hby d1_83) rfl k) ?_
      show Go p e below _ (Tkr3.setTop (mkF m 84 #[.val (.ref a0), .val (.int z), .val (.int i), .val (.int k3)] [(.int i), (.int z), (.ref a0)]))
      obtain ⟨_, _, ⟨T14, L14, k14, n14⟩, -, X14, ⟨Lc14, hQ14, l14, y14, z14⟩, st14⟩ := Jvm.LawKit.callS Xkr3 hx (y := (⟨"com/example/apportis/apportis/Utf8FirstInvalidPinLaw", "charLen", "([BII)I"⟩ : MethodName)) hown (mvT hZ (hw _ (List.mem_of_getElem? (i := 6) rfl))) (mvT hZ (hw _ (List.mem_of_getElem? (i := 7) rfl))) (mvT hZ (hw _ (List.mem_of_getElem? (i := 4) rfl))) (mvT hZ (hw _ (List.mem_of_getElem? (i := 8) rfl))) (by decide) (backOf (W := 0) (rmCL l Z aZ hw [] (own_at vs i) (own_at vs (i + (1 : Int32))) (own_at vs (i + (2 : Int32))) (own_at vs (i + (3 : Int32))) a0 z i kk z vs h0 n0 rfl hi0 (Int32.lt_iff_toInt_lt.mp hc13) hz2 (hI _) (fun _ => hI _) (fun _ => hI _) (fun _ => hI _) V) hZ (hw _ (List.mem_of_getElem? (i := 8) rfl)) (hw _ (List.mem_of_getElem? (i := 4) rfl)) (by decide) (by decide)) (g := (mkF m 84 #[.val (.ref a0), .val (.int z), .val (.int i), .val (.int k3)] [(.int i), (.int z), (.ref a0)])) rfl (by rw [hml]; rfl) (argsL := [(.ref a0), (.int z), (.int i)]) (rest := []) (lenOf pd345380b3 rfl) rfl (by show 2 * 0 + _ ≤ _; exact Nat.le_of_eq rfl) (hb hby d1_84) (fun _ _ => ⟨rfl, ekr3, (by decide : 0 + 0 ≤ _), (by decide : 0 + 0 ≤ _)⟩)
      dsimp only [Pt.U, Pt.locs, Pt.cells, Pt.slots] at X14 l14 y14 z14 st14 hQ14
      subst l14 y14 z14
      obtain ⟨rfl, N14q, e14⟩ := hQ14
      have N14 := Fr.app Nkr3 N14q
      refine Go.st (fun _ k => st14 _ k) ?_
      show Go p e below _ (T14.setTop (mkF m 87 #[.val (.ref a0), .val (.int z), .val (.int i), .val (.int k3)] [(.int (own_g vs z i))]))
      refine Go.st (fun _ k => XS.istoreN X14.here hx rfl (hb hby d1_87) rfl (l' := #[.val (.ref a0), .val (.int z), .val (.int i), .val (.int (own_g vs z i))]) rfl k) ?_
      show Go p e below _ (T14.setTop (mkF m 88 #[.val (.ref a0), .val (.int z), .val (.int i), .val (.int (own_g vs z i))] []))
      refine Go.st (fun _ k => XS.iloadN X14.here hx rfl (hb hby d1_88) rfl k) ?_
      by_cases hc15 : (own_g vs z i) = (0 : Int32)
      · show Go p e below _ (T14.setTop (mkF m 89 #[.val (.ref a0), .val (.int z), .val (.int i), .val (.int (own_g vs z i))] [(.int (own_g vs z i))]))
        refine Go.st (fun _ k => XS.ifNo X14.here hx rfl (hb hby d1_89) rfl ((if0 _ _).trans (teq hc15).2) k) ?_
        show Go p e below _ (T14.setTop (mkF m 92 #[.val (.ref a0), .val (.int z), .val (.int i), .val (.int (own_g vs z i))] []))
        refine Go.st (fun _ k => XS.iloadN X14.here hx rfl (hb hby d1_92) rfl k) ?_
        obtain ⟨fs, hr, hrun, hended, hW, hsame⟩ := X14.leave (v := some (.int i)) (fun h => by rw [Bd.returns] at h; cases h)
        refine ⟨_, _, retI X14 hx Bd.returns (hb hby d1_93) hr, hrun, hended, _, _, rfl, ?_, ⟨_, rfl⟩, hW, hsame.mono (by decide) (by decide)⟩
        show Q_rmRef Z a0 z kk vs h0 n0 _ T14.heap _
        rw [e14]
        refine ⟨?_, N14, rfl⟩
        rw [hj, own_scan_bad vs hc13 hc15]
      · show Go p e below _ (T14.setTop (mkF m 89 #[.val (.ref a0), .val (.int z), .val (.int i), .val (.int (own_g vs z i))] [(.int (own_g vs z i))]))
        refine Go.st (fun _ k => XS.ifYes X14.here hx rfl (pc0 := 89) (pc' := 94) rfl (hb hby d1_89) rfl ((if0 _ _).trans (feq hc15).2) (by decide) (by decide) k) ?_
        show Go p e below _ (T14.setTop (mkF m 94 #[.val (.ref a0), .val (.int z), .val (.int i), .val (.int (own_g vs z i))] []))
        refine Go.st (fun _ k => XS.iloadN X14.here hx rfl (hb hby d1_94) rfl k) ?_
        refine Go.st (fun _ k => XS.iloadN X14.here hx rfl (hb hby d1_95) rfl k) ?_
        show Go p e below _ (T14.setTop (mkF m 96 #[.val (.ref a0), .val (.int z), .val (.int i), .val (.int (own_g vs z i))] [(.int (own_g vs z i)), (.int i)]))
        refine Go.st (fun _ k => XS.iadd X14.here hx rfl (hb hby d1_96) rfl k) ?_
        refine Go.st (fun _ k => XS.istoreN X14.here hx rfl (hb hby d1_97) rfl (l' := #[.val (.ref a0), .val (.int z), .val (.int (i + (own_g vs z i))), .val (.int (own_g vs z i))]) rfl k) ?_
        show Go p e below _ (T14.setTop (mkF m 98 #[.val (.ref a0), .val (.int z), .val (.int (i + (own_g vs z i))), .val (.int (own_g vs z i))] []))
        exact kr4 _ _ (i + (own_g vs z i)) (own_g vs z i) X14 e14 N14 (own_step0 vs hB hi0 hc13 hz2 hc15) (own_step1 vs hB hi0 hc13 hz2 hc15) (hj.trans (own_scan_step vs hc13 hc15))
    · show Go p e below _ (Tkr3.setTop (mkF m 76 #[.val (.ref a0), .val (.int z), .val (.int i), .val (.int k3)] [(.int z), (.int i)]))
      refine Go.st (fun _ k => XS.icmpNo Xkr3.here hx rfl (hb hby d1_76) rfl (flt hc13).1 k) ?_
      show Go p e below _ (Tkr3.setTop (mkF m 79 #[.val (.ref a0), .val (.int z), .val (.int i), .val (.int k3)] []))
      refine Go.st (fun _ k => XS.iconst Xkr3.here hx rfl (hb hby d1_79) k) ?_
      obtain ⟨fs, hr, hrun, hended, hW, hsame⟩ := Xkr3.leave (v := some (.int (-1 : Int32))) (fun h => by rw [Bd.returns] at h; cases h)
      refine ⟨_, _, retI Xkr3 hx Bd.returns (hb hby d1_80) hr, hrun, hended, _, _, rfl, ?_, ⟨_, rfl⟩, hW, hsame.mono (by decide) (by decide)⟩
      show Q_rmRef Z a0 z kk vs h0 n0 _ Tkr3.heap _
      rw [ekr3]
      refine ⟨?_, Nkr3, rfl⟩
      rw [hj, own_scan_out vs hc13]
  have kr2 : ∀ (Tkr2 : State) (lkr2 : List Loc) (i : Int32) (k3 : Int32), (Stand p l e ({ frames := 1, cells := 0, slots := 0, locals := 19 } : Room) s m #[(.ref a0), (.int z)] below meth c Tkr2 lkr2 0 0) → (Tkr2.heap = h0) → (Fr n0 lkr2) → (0 ≤ i.toInt) → (i.toInt ≤ z.toInt) → (own_scan vs z 8 0 = own_scan vs z 6 i) → Go p e below (F_rmRef Z a0 z kk vs h0 n0 s) (Tkr2.setTop (mkF m 50 #[.val (.ref a0), .val (.int z), .val (.int i), .val (.int k3)] [])) := by
    intro Tkr2 lkr2 i k3 Xkr2 ekr2 Nkr2 hi0 hi8 hj
    show Go p e below _ (Tkr2.setTop (mkF m 50 #[.val (.ref a0), .val (.int z), .val (.int i), .val (.int k3)] []))
    refine Go.st (fun _ k => XS.iloadN Xkr2.here hx rfl (hb hby d1_50) rfl k) ?_
    refine Go.st (fun _ k => XS.iloadN Xkr2.here hx rfl (hb hby d1_51) rfl k) ?_
    show Go p e below _ (Tkr2.setTop (mkF m 52 #[.val (.ref a0), .val (.int z), .val (.int i), .val (.int k3)] [(.int z), (.int i)]))
    by_cases hc16 : i < z
    · show Go p e below _ (Tkr2.setTop (mkF m 52 #[.val (.ref a0), .val (.int z), .val (.int i), .val (.int k3)] [(.int z), (.int i)]))
      refine Go.st (fun _ k => XS.icmpYes Xkr2.here hx rfl (pc0 := 52) (pc' := 57) rfl (hb hby d1_52) rfl (tlt hc16).1 (by decide) (by decide) k) ?_
      show Go p e below _ (Tkr2.setTop (mkF m 57 #[.val (.ref a0), .val (.int z), .val (.int i), .val (.int k3)] []))
      refine Go.st (fun _ k => XS.aloadN Xkr2.here hx rfl (hb hby d1_57) rfl rfl k) ?_
      refine Go.st (fun _ k => XS.iloadN Xkr2.here hx rfl (hb hby d1_58) rfl k) ?_
      show Go p e below _ (Tkr2.setTop (mkF m 59 #[.val (.ref a0), .val (.int z), .val (.int i), .val (.int k3)] [(.int z), (.ref a0)]))
      refine Go.st (fun _ k => XS.iloadN Xkr2.here hx rfl (hb hby d1_59) rfl k) ?_
      show Go p e below _ (Tkr2.setTop (mkF m 60 #[.val (.ref a0), .val (.int z), .val (.int i), .val (.int k3)] [(.int i), (.int z), (.ref a0)]))
      obtain ⟨_, _, ⟨T17, L17, k17, n17⟩, -, X17, ⟨Lc17, hQ17, l17, y17, z17⟩, st17⟩ := Jvm.LawKit.callS Xkr2 hx (y := (⟨"com/example/apportis/apportis/Utf8FirstInvalidPinLaw", "charLen", "([BII)I"⟩ : MethodName)) hown (mvT hZ (hw _ (List.mem_of_getElem? (i := 6) rfl))) (mvT hZ (hw _ (List.mem_of_getElem? (i := 7) rfl))) (mvT hZ (hw _ (List.mem_of_getElem? (i := 4) rfl))) (mvT hZ (hw _ (List.mem_of_getElem? (i := 8) rfl))) (by decide) (backOf (W := 0) (rmCL l Z aZ hw [] (own_at vs i) (own_at vs (i + (1 : Int32))) (own_at vs (i + (2 : Int32))) (own_at vs (i + (3 : Int32))) a0 z i kk z vs h0 n0 rfl hi0 (Int32.lt_iff_toInt_lt.mp hc16) hz2 (hI _) (fun _ => hI _) (fun _ => hI _) (fun _ => hI _) V) hZ (hw _ (List.mem_of_getElem? (i := 8) rfl)) (hw _ (List.mem_of_getElem? (i := 4) rfl)) (by decide) (by decide)) (g := (mkF m 60 #[.val (.ref a0), .val (.int z), .val (.int i), .val (.int k3)] [(.int i), (.int z), (.ref a0)])) rfl (by rw [hml]; rfl) (argsL := [(.ref a0), (.int z), (.int i)]) (rest := []) (lenOf pd345380b3 rfl) rfl (by show 2 * 0 + _ ≤ _; exact Nat.le_of_eq rfl) (hb hby d1_60) (fun _ _ => ⟨rfl, ekr2, (by decide : 0 + 0 ≤ _), (by decide : 0 + 0 ≤ _)⟩)
      dsimp only [Pt.U, Pt.locs, Pt.cells, Pt.slots] at X17 l17 y17 z17 st17 hQ17
      subst l17 y17 z17
      obtain ⟨rfl, N17q, e17⟩ := hQ17
      have N17 := Fr.app Nkr2 N17q
      refine Go.st (fun _ k => st17 _ k) ?_
      show Go p e below _ (T17.setTop (mkF m 63 #[.val (.ref a0), .val (.int z), .val (.int i), .val (.int k3)] [(.int (own_g vs z i))]))
      refine Go.st (fun _ k => XS.istoreN X17.here hx rfl (hb hby d1_63) rfl (l' := #[.val (.ref a0), .val (.int z), .val (.int i), .val (.int (own_g vs z i))]) rfl k) ?_
      show Go p e below _ (T17.setTop (mkF m 64 #[.val (.ref a0), .val (.int z), .val (.int i), .val (.int (own_g vs z i))] []))
      refine Go.st (fun _ k => XS.iloadN X17.here hx rfl (hb hby d1_64) rfl k) ?_
      by_cases hc18 : (own_g vs z i) = (0 : Int32)
      · show Go p e below _ (T17.setTop (mkF m 65 #[.val (.ref a0), .val (.int z), .val (.int i), .val (.int (own_g vs z i))] [(.int (own_g vs z i))]))
        refine Go.st (fun _ k => XS.ifNo X17.here hx rfl (hb hby d1_65) rfl ((if0 _ _).trans (teq hc18).2) k) ?_
        show Go p e below _ (T17.setTop (mkF m 68 #[.val (.ref a0), .val (.int z), .val (.int i), .val (.int (own_g vs z i))] []))
        refine Go.st (fun _ k => XS.iloadN X17.here hx rfl (hb hby d1_68) rfl k) ?_
        obtain ⟨fs, hr, hrun, hended, hW, hsame⟩ := X17.leave (v := some (.int i)) (fun h => by rw [Bd.returns] at h; cases h)
        refine ⟨_, _, retI X17 hx Bd.returns (hb hby d1_69) hr, hrun, hended, _, _, rfl, ?_, ⟨_, rfl⟩, hW, hsame.mono (by decide) (by decide)⟩
        show Q_rmRef Z a0 z kk vs h0 n0 _ T17.heap _
        rw [e17]
        refine ⟨?_, N17, rfl⟩
        rw [hj, own_scan_bad vs hc16 hc18]
      · show Go p e below _ (T17.setTop (mkF m 65 #[.val (.ref a0), .val (.int z), .val (.int i), .val (.int (own_g vs z i))] [(.int (own_g vs z i))]))
        refine Go.st (fun _ k => XS.ifYes X17.here hx rfl (pc0 := 65) (pc' := 70) rfl (hb hby d1_65) rfl ((if0 _ _).trans (feq hc18).2) (by decide) (by decide) k) ?_
        show Go p e below _ (T17.setTop (mkF m 70 #[.val (.ref a0), .val (.int z), .val (.int i), .val (.int (own_g vs z i))] []))
        refine Go.st (fun _ k => XS.iloadN X17.here hx rfl (hb hby d1_70) rfl k) ?_
        refine Go.st (fun _ k => XS.iloadN X17.here hx rfl (hb hby d1_71) rfl k) ?_
        show Go p e below _ (T17.setTop (mkF m 72 #[.val (.ref a0), .val (.int z), .val (.int i), .val (.int (own_g vs z i))] [(.int (own_g vs z i)), (.int i)]))
        refine Go.st (fun _ k => XS.iadd X17.here hx rfl (hb hby d1_72) rfl k) ?_
        refine Go.st (fun _ k => XS.istoreN X17.here hx rfl (hb hby d1_73) rfl (l' := #[.val (.ref a0), .val (.int z), .val (.int (i + (own_g vs z i))), .val (.int (own_g vs z i))]) rfl k) ?_
        show Go p e below _ (T17.setTop (mkF m 74 #[.val (.ref a0), .val (.int z), .val (.int (i + (own_g vs z i))), .val (.int (own_g vs z i))] []))
        exact kr3 _ _ (i + (own_g vs z i)) (own_g vs z i) X17 e17 N17 (own_step0 vs hB hi0 hc16 hz2 hc18) (own_step1 vs hB hi0 hc16 hz2 hc18) (hj.trans (own_scan_step vs hc16 hc18))
    · show Go p e below _ (Tkr2.setTop (mkF m 52 #[.val (.ref a0), .val (.int z), .val (.int i), .val (.int k3)] [(.int z), (.int i)]))
      refine Go.st (fun _ k => XS.icmpNo Xkr2.here hx rfl (hb hby d1_52) rfl (flt hc16).1 k) ?_
      show Go p e below _ (Tkr2.setTop (mkF m 55 #[.val (.ref a0), .val (.int z), .val (.int i), .val (.int k3)] []))
      refine Go.st (fun _ k => XS.iconst Xkr2.here hx rfl (hb hby d1_55) k) ?_
      obtain ⟨fs, hr, hrun, hended, hW, hsame⟩ := Xkr2.leave (v := some (.int (-1 : Int32))) (fun h => by rw [Bd.returns] at h; cases h)
      refine ⟨_, _, retI Xkr2 hx Bd.returns (hb hby d1_56) hr, hrun, hended, _, _, rfl, ?_, ⟨_, rfl⟩, hW, hsame.mono (by decide) (by decide)⟩
      show Q_rmRef Z a0 z kk vs h0 n0 _ Tkr2.heap _
      rw [ekr2]
      refine ⟨?_, Nkr2, rfl⟩
      rw [hj, own_scan_out vs hc16]
  have kr1 : ∀ (Tkr1 : State) (lkr1 : List Loc) (i : Int32) (k3 : Int32), (Stand p l e ({ frames := 1, cells := 0, slots := 0, locals := 19 } : Room) s m #[(.ref a0), (.int z)] below meth c Tkr1 lkr1 0 0) → (Tkr1.heap = h0) → (Fr n0 lkr1) → (0 ≤ i.toInt) → (i.toInt ≤ z.toInt) → (own_scan vs z 8 0 = own_scan vs z 7 i) → Go p e below (F_rmRef Z a0 z kk vs h0 n0 s) (Tkr1.setTop (mkF m 26 #[.val (.ref a0), .val (.int z), .val (.int i), .val (.int k3)] [])) := by
    intro Tkr1 lkr1 i k3 Xkr1 ekr1 Nkr1 hi0 hi8 hj
    show Go p e below _ (Tkr1.setTop (mkF m 26 #[.val (.ref a0), .val (.int z), .val (.int i), .val (.int k3)] []))
    refine Go.st (fun _ k => XS.iloadN Xkr1.here hx rfl (hb hby d1_26) rfl k) ?_
    refine Go.st (fun _ k => XS.iloadN Xkr1.here hx rfl (hb hby d1_27) rfl k) ?_
    show Go p e below _ (Tkr1.setTop (mkF m 28 #[.val (.ref a0), .val (.int z), .val (.int i), .val (.int k3)] [(.int z), (.int i)]))
    by_cases hc19 : i < z
    · show Go p e below _ (Tkr1.setTop (mkF m 28 #[.val (.ref a0), .val (.int z), .val (.int i), .val (.int k3)] [(.int z), (.int i)]))
      refine Go.st (fun _ k => XS.icmpYes Xkr1.here hx rfl (pc0 := 28) (pc' := 33) rfl (hb hby d1_28) rfl (tlt hc19).1 (by decide) (by decide) k) ?_
      show Go p e below _ (Tkr1.setTop (mkF m 33 #[.val (.ref a0), .val (.int z), .val (.int i), .val (.int k3)] []))
      refine Go.st (fun _ k => XS.aloadN Xkr1.here hx rfl (hb hby d1_33) rfl rfl k) ?_
      refine Go.st (fun _ k => XS.iloadN Xkr1.here hx rfl (hb hby d1_34) rfl k) ?_
      show Go p e below _ (Tkr1.setTop (mkF m 35 #[.val (.ref a0), .val (.int z), .val (.int i), .val (.int k3)] [(.int z), (.ref a0)]))
      refine Go.st (fun _ k => XS.iloadN Xkr1.here hx rfl (hb hby d1_35) rfl k) ?_
      show Go p e below _ (Tkr1.setTop (mkF m 36 #[.val (.ref a0), .val (.int z), .val (.int i), .val (.int k3)] [(.int i), (.int z), (.ref a0)]))
      obtain ⟨_, _, ⟨T20, L20, k20, n20⟩, -, X20, ⟨Lc20, hQ20, l20, y20, z20⟩, st20⟩ := Jvm.LawKit.callS Xkr1 hx (y := (⟨"com/example/apportis/apportis/Utf8FirstInvalidPinLaw", "charLen", "([BII)I"⟩ : MethodName)) hown (mvT hZ (hw _ (List.mem_of_getElem? (i := 6) rfl))) (mvT hZ (hw _ (List.mem_of_getElem? (i := 7) rfl))) (mvT hZ (hw _ (List.mem_of_getElem? (i := 4) rfl))) (mvT hZ (hw _ (List.mem_of_getElem? (i := 8) rfl))) (by decide) (backOf (W := 0) (rmCL l Z aZ hw [] (own_at vs i) (own_at vs (i + (1 : Int32))) (own_at vs (i + (2 : Int32))) (own_at vs (i + (3 : Int32))) a0 z i kk z vs h0 n0 rfl hi0 (Int32.lt_iff_toInt_lt.mp hc19) hz2 (hI _) (fun _ => hI _) (fun _ => hI _) (fun _ => hI _) V) hZ (hw _ (List.mem_of_getElem? (i := 8) rfl)) (hw _ (List.mem_of_getElem? (i := 4) rfl)) (by decide) (by decide)) (g := (mkF m 36 #[.val (.ref a0), .val (.int z), .val (.int i), .val (.int k3)] [(.int i), (.int z), (.ref a0)])) rfl (by rw [hml]; rfl) (argsL := [(.ref a0), (.int z), (.int i)]) (rest := []) (lenOf pd345380b3 rfl) rfl (by show 2 * 0 + _ ≤ _; exact Nat.le_of_eq rfl) (hb hby d1_36) (fun _ _ => ⟨rfl, ekr1, (by decide : 0 + 0 ≤ _), (by decide : 0 + 0 ≤ _)⟩)
      dsimp only [Pt.U, Pt.locs, Pt.cells, Pt.slots] at X20 l20 y20 z20 st20 hQ20
      subst l20 y20 z20
      obtain ⟨rfl, N20q, e20⟩ := hQ20
      have N20 := Fr.app Nkr1 N20q
      refine Go.st (fun _ k => st20 _ k) ?_
      show Go p e below _ (T20.setTop (mkF m 39 #[.val (.ref a0), .val (.int z), .val (.int i), .val (.int k3)] [(.int (own_g vs z i))]))
      refine Go.st (fun _ k => XS.istoreN X20.here hx rfl (hb hby d1_39) rfl (l' := #[.val (.ref a0), .val (.int z), .val (.int i), .val (.int (own_g vs z i))]) rfl k) ?_
      show Go p e below _ (T20.setTop (mkF m 40 #[.val (.ref a0), .val (.int z), .val (.int i), .val (.int (own_g vs z i))] []))
      refine Go.st (fun _ k => XS.iloadN X20.here hx rfl (hb hby d1_40) rfl k) ?_
      by_cases hc21 : (own_g vs z i) = (0 : Int32)
      · show Go p e below _ (T20.setTop (mkF m 41 #[.val (.ref a0), .val (.int z), .val (.int i), .val (.int (own_g vs z i))] [(.int (own_g vs z i))]))
        refine Go.st (fun _ k => XS.ifNo X20.here hx rfl (hb hby d1_41) rfl ((if0 _ _).trans (teq hc21).2) k) ?_
        show Go p e below _ (T20.setTop (mkF m 44 #[.val (.ref a0), .val (.int z), .val (.int i), .val (.int (own_g vs z i))] []))
        refine Go.st (fun _ k => XS.iloadN X20.here hx rfl (hb hby d1_44) rfl k) ?_
        obtain ⟨fs, hr, hrun, hended, hW, hsame⟩ := X20.leave (v := some (.int i)) (fun h => by rw [Bd.returns] at h; cases h)
        refine ⟨_, _, retI X20 hx Bd.returns (hb hby d1_45) hr, hrun, hended, _, _, rfl, ?_, ⟨_, rfl⟩, hW, hsame.mono (by decide) (by decide)⟩
        show Q_rmRef Z a0 z kk vs h0 n0 _ T20.heap _
        rw [e20]
        refine ⟨?_, N20, rfl⟩
        rw [hj, own_scan_bad vs hc19 hc21]
      · show Go p e below _ (T20.setTop (mkF m 41 #[.val (.ref a0), .val (.int z), .val (.int i), .val (.int (own_g vs z i))] [(.int (own_g vs z i))]))
        refine Go.st (fun _ k => XS.ifYes X20.here hx rfl (pc0 := 41) (pc' := 46) rfl (hb hby d1_41) rfl ((if0 _ _).trans (feq hc21).2) (by decide) (by decide) k) ?_
        show Go p e below _ (T20.setTop (mkF m 46 #[.val (.ref a0), .val (.int z), .val (.int i), .val (.int (own_g vs z i))] []))
        refine Go.st (fun _ k => XS.iloadN X20.here hx rfl (hb hby d1_46) rfl k) ?_
        refine Go.st (fun _ k => XS.iloadN X20.here hx rfl (hb hby d1_47) rfl k) ?_
        show Go p e below _ (T20.setTop (mkF m 48 #[.val (.ref a0), .val (.int z), .val (.int i), .val (.int (own_g vs z i))] [(.int (own_g vs z i)), (.int i)]))
        refine Go.st (fun _ k => XS.iadd X20.here hx rfl (hb hby d1_48) rfl k) ?_
        refine Go.st (fun _ k => XS.istoreN X20.here hx rfl (hb hby d1_49) rfl (l' := #[.val (.ref a0), .val (.int z), .val (.int (i + (own_g vs z i))), .val (.int (own_g vs z i))]) rfl k) ?_
        show Go p e below _ (T20.setTop (mkF m 50 #[.val (.ref a0), .val (.int z), .val (.int (i + (own_g vs z i))), .val (.int (own_g vs z i))] []))
        exact kr2 _ _ (i + (own_g vs z i)) (own_g vs z i) X20 e20 N20 (own_step0 vs hB hi0 hc19 hz2 hc21) (own_step1 vs hB hi0 hc19 hz2 hc21) (hj.trans (own_scan_step vs hc19 hc21))
    · show Go p e below _ (Tkr1.setTop (mkF m 28 #[.val (.ref a0), .val (.int z), .val (.int i), .val (.int k3)] [(.int z), (.int i)]))
      refine Go.st (fun _ k => XS.icmpNo Xkr1.here hx rfl (hb hby d1_28) rfl (flt hc19).1 k) ?_
      show Go p e below _ (Tkr1.setTop (mkF m 31 #[.val (.ref a0), .val (.int z), .val (.int i), .val (.int k3)] []))
      refine Go.st (fun _ k => XS.iconst Xkr1.here hx rfl (hb hby d1_31) k) ?_
      obtain ⟨fs, hr, hrun, hended, hW, hsame⟩ := Xkr1.leave (v := some (.int (-1 : Int32))) (fun h => by rw [Bd.returns] at h; cases h)
      refine ⟨_, _, retI Xkr1 hx Bd.returns (hb hby d1_32) hr, hrun, hended, _, _, rfl, ?_, ⟨_, rfl⟩, hW, hsame.mono (by decide) (by decide)⟩
      show Q_rmRef Z a0 z kk vs h0 n0 _ Tkr1.heap _
      rw [ekr1]
      refine ⟨?_, Nkr1, rfl⟩
      rw [hj, own_scan_out vs hc19]
  have kr0 : ∀ (Tkr0 : State) (lkr0 : List Loc) (i : Int32), (Stand p l e ({ frames := 1, cells := 0, slots := 0, locals := 19 } : Room) s m #[(.ref a0), (.int z)] below meth c Tkr0 lkr0 0 0) → (Tkr0.heap = h0) → (Fr n0 lkr0) → (0 ≤ i.toInt) → (i.toInt ≤ z.toInt) → (own_scan vs z 8 0 = own_scan vs z 8 i) → Go p e below (F_rmRef Z a0 z kk vs h0 n0 s) (Tkr0.setTop (mkF m 2 #[.val (.ref a0), .val (.int z), .val (.int i), .unset] [])) := by
    intro Tkr0 lkr0 i Xkr0 ekr0 Nkr0 hi0 hi8 hj
    show Go p e below _ (Tkr0.setTop (mkF m 2 #[.val (.ref a0), .val (.int z), .val (.int i), .unset] []))
    refine Go.st (fun _ k => XS.iloadN Xkr0.here hx rfl (hb hby d1_2) rfl k) ?_
    refine Go.st (fun _ k => XS.iloadN Xkr0.here hx rfl (hb hby d1_3) rfl k) ?_
    show Go p e below _ (Tkr0.setTop (mkF m 4 #[.val (.ref a0), .val (.int z), .val (.int i), .unset] [(.int z), (.int i)]))
    by_cases hc22 : i < z
    · show Go p e below _ (Tkr0.setTop (mkF m 4 #[.val (.ref a0), .val (.int z), .val (.int i), .unset] [(.int z), (.int i)]))
      refine Go.st (fun _ k => XS.icmpYes Xkr0.here hx rfl (pc0 := 4) (pc' := 9) rfl (hb hby d1_4) rfl (tlt hc22).1 (by decide) (by decide) k) ?_
      show Go p e below _ (Tkr0.setTop (mkF m 9 #[.val (.ref a0), .val (.int z), .val (.int i), .unset] []))
      refine Go.st (fun _ k => XS.aloadN Xkr0.here hx rfl (hb hby d1_9) rfl rfl k) ?_
      refine Go.st (fun _ k => XS.iloadN Xkr0.here hx rfl (hb hby d1_10) rfl k) ?_
      show Go p e below _ (Tkr0.setTop (mkF m 11 #[.val (.ref a0), .val (.int z), .val (.int i), .unset] [(.int z), (.ref a0)]))
      refine Go.st (fun _ k => XS.iloadN Xkr0.here hx rfl (hb hby d1_11) rfl k) ?_
      show Go p e below _ (Tkr0.setTop (mkF m 12 #[.val (.ref a0), .val (.int z), .val (.int i), .unset] [(.int i), (.int z), (.ref a0)]))
      obtain ⟨_, _, ⟨T23, L23, k23, n23⟩, -, X23, ⟨Lc23, hQ23, l23, y23, z23⟩, st23⟩ := Jvm.LawKit.callS Xkr0 hx (y := (⟨"com/example/apportis/apportis/Utf8FirstInvalidPinLaw", "charLen", "([BII)I"⟩ : MethodName)) hown (mvT hZ (hw _ (List.mem_of_getElem? (i := 6) rfl))) (mvT hZ (hw _ (List.mem_of_getElem? (i := 7) rfl))) (mvT hZ (hw _ (List.mem_of_getElem? (i := 4) rfl))) (mvT hZ (hw _ (List.mem_of_getElem? (i := 8) rfl))) (by decide) (backOf (W := 0) (rmCL l Z aZ hw [] (own_at vs i) (own_at vs (i + (1 : Int32))) (own_at vs (i + (2 : Int32))) (own_at vs (i + (3 : Int32))) a0 z i kk z vs h0 n0 rfl hi0 (Int32.lt_iff_toInt_lt.mp hc22) hz2 (hI _) (fun _ => hI _) (fun _ => hI _) (fun _ => hI _) V) hZ (hw _ (List.mem_of_getElem? (i := 8) rfl)) (hw _ (List.mem_of_getElem? (i := 4) rfl)) (by decide) (by decide)) (g := (mkF m 12 #[.val (.ref a0), .val (.int z), .val (.int i), .unset] [(.int i), (.int z), (.ref a0)])) rfl (by rw [hml]; rfl) (argsL := [(.ref a0), (.int z), (.int i)]) (rest := []) (lenOf pd345380b3 rfl) rfl (by show 2 * 0 + _ ≤ _; exact Nat.le_of_eq rfl) (hb hby d1_12) (fun _ _ => ⟨rfl, ekr0, (by decide : 0 + 0 ≤ _), (by decide : 0 + 0 ≤ _)⟩)
      dsimp only [Pt.U, Pt.locs, Pt.cells, Pt.slots] at X23 l23 y23 z23 st23 hQ23
      subst l23 y23 z23
      obtain ⟨rfl, N23q, e23⟩ := hQ23
      have N23 := Fr.app Nkr0 N23q
      refine Go.st (fun _ k => st23 _ k) ?_
      show Go p e below _ (T23.setTop (mkF m 15 #[.val (.ref a0), .val (.int z), .val (.int i), .unset] [(.int (own_g vs z i))]))
      refine Go.st (fun _ k => XS.istoreN X23.here hx rfl (hb hby d1_15) rfl (l' := #[.val (.ref a0), .val (.int z), .val (.int i), .val (.int (own_g vs z i))]) rfl k) ?_
      show Go p e below _ (T23.setTop (mkF m 16 #[.val (.ref a0), .val (.int z), .val (.int i), .val (.int (own_g vs z i))] []))
      refine Go.st (fun _ k => XS.iloadN X23.here hx rfl (hb hby d1_16) rfl k) ?_
      by_cases hc24 : (own_g vs z i) = (0 : Int32)
      · show Go p e below _ (T23.setTop (mkF m 17 #[.val (.ref a0), .val (.int z), .val (.int i), .val (.int (own_g vs z i))] [(.int (own_g vs z i))]))
        refine Go.st (fun _ k => XS.ifNo X23.here hx rfl (hb hby d1_17) rfl ((if0 _ _).trans (teq hc24).2) k) ?_
        show Go p e below _ (T23.setTop (mkF m 20 #[.val (.ref a0), .val (.int z), .val (.int i), .val (.int (own_g vs z i))] []))
        refine Go.st (fun _ k => XS.iloadN X23.here hx rfl (hb hby d1_20) rfl k) ?_
        obtain ⟨fs, hr, hrun, hended, hW, hsame⟩ := X23.leave (v := some (.int i)) (fun h => by rw [Bd.returns] at h; cases h)
        refine ⟨_, _, retI X23 hx Bd.returns (hb hby d1_21) hr, hrun, hended, _, _, rfl, ?_, ⟨_, rfl⟩, hW, hsame.mono (by decide) (by decide)⟩
        show Q_rmRef Z a0 z kk vs h0 n0 _ T23.heap _
        rw [e23]
        refine ⟨?_, N23, rfl⟩
        rw [hj, own_scan_bad vs hc22 hc24]
      · show Go p e below _ (T23.setTop (mkF m 17 #[.val (.ref a0), .val (.int z), .val (.int i), .val (.int (own_g vs z i))] [(.int (own_g vs z i))]))
        refine Go.st (fun _ k => XS.ifYes X23.here hx rfl (pc0 := 17) (pc' := 22) rfl (hb hby d1_17) rfl ((if0 _ _).trans (feq hc24).2) (by decide) (by decide) k) ?_
        show Go p e below _ (T23.setTop (mkF m 22 #[.val (.ref a0), .val (.int z), .val (.int i), .val (.int (own_g vs z i))] []))
        refine Go.st (fun _ k => XS.iloadN X23.here hx rfl (hb hby d1_22) rfl k) ?_
        refine Go.st (fun _ k => XS.iloadN X23.here hx rfl (hb hby d1_23) rfl k) ?_
        show Go p e below _ (T23.setTop (mkF m 24 #[.val (.ref a0), .val (.int z), .val (.int i), .val (.int (own_g vs z i))] [(.int (own_g vs z i)), (.int i)]))
        refine Go.st (fun _ k => XS.iadd X23.here hx rfl (hb hby d1_24) rfl k) ?_
        refine Go.st (fun _ k => XS.istoreN X23.here hx rfl (hb hby d1_25) rfl (l' := #[.val (.ref a0), .val (.int z), .val (.int (i + (own_g vs z i))), .val (.int (own_g vs z i))]) rfl k) ?_
        show Go p e below _ (T23.setTop (mkF m 26 #[.val (.ref a0), .val (.int z), .val (.int (i + (own_g vs z i))), .val (.int (own_g vs z i))] []))
        exact kr1 _ _ (i + (own_g vs z i)) (own_g vs z i) X23 e23 N23 (own_step0 vs hB hi0 hc22 hz2 hc24) (own_step1 vs hB hi0 hc22 hz2 hc24) (hj.trans (own_scan_step vs hc22 hc24))
    · show Go p e below _ (Tkr0.setTop (mkF m 4 #[.val (.ref a0), .val (.int z), .val (.int i), .unset] [(.int z), (.int i)]))
      refine Go.st (fun _ k => XS.icmpNo Xkr0.here hx rfl (hb hby d1_4) rfl (flt hc22).1 k) ?_
      show Go p e below _ (Tkr0.setTop (mkF m 7 #[.val (.ref a0), .val (.int z), .val (.int i), .unset] []))
      refine Go.st (fun _ k => XS.iconst Xkr0.here hx rfl (hb hby d1_7) k) ?_
      obtain ⟨fs, hr, hrun, hended, hW, hsame⟩ := Xkr0.leave (v := some (.int (-1 : Int32))) (fun h => by rw [Bd.returns] at h; cases h)
      refine ⟨_, _, retI Xkr0 hx Bd.returns (hb hby d1_8) hr, hrun, hended, _, _, rfl, ?_, ⟨_, rfl⟩, hW, hsame.mono (by decide) (by decide)⟩
      show Q_rmRef Z a0 z kk vs h0 n0 _ Tkr0.heap _
      rw [ekr0]
      refine ⟨?_, Nkr0, rfl⟩
      rw [hj, own_scan_out vs hc22]
  refine Go.st (fun _ k => XS.iconst X0.here hx rfl (hb hby d1_0) k) ?_
  show Go p e below _ (s₁.setTop (mkF m 1 #[.val (.ref a0), .val (.int z), .unset, .unset] [(.int (0 : Int32))]))
  refine Go.st (fun _ k => XS.istoreN X0.here hx rfl (hb hby d1_1) rfl (l' := #[.val (.ref a0), .val (.int z), .val (.int (0 : Int32)), .unset]) rfl k) ?_
  show Go p e below _ (s₁.setTop (mkF m 2 #[.val (.ref a0), .val (.int z), .val (.int (0 : Int32)), .unset] []))
  exact kr0 _ _ (0 : Int32) X0 e0 N0 (by decide) hz0 rfl
theorem own_os3_31 {z0 : Value} {z1 : Value} {z2 : Value} {s3 : Slot} {v : Int32} (h : One s3) : storeLocals #[.val z0, .val z1, .val z2, s3] 3 (.int v) = some #[.val z0, .val z1, .val z2, .val (.int v)] := by
  rcases h with rfl | ⟨w, rfl, hw⟩
  · rfl
  · cases w <;> first | rfl | (simp [Value.category] at hw)
theorem d3_0 : decode prog_85_method_3_code 0 = .ok (.iconst (-1), 1) := by decide +kernel
theorem d3_1 : decode prog_85_method_3_code 1 = .ok (.istore_n 1, 1) := by decide +kernel
theorem d3_2 : decode prog_85_method_3_code 2 = .ok (.iconst 0, 1) := by decide +kernel
theorem d3_3 : decode prog_85_method_3_code 3 = .ok (.istore_n 2, 1) := by decide +kernel
theorem d3_4 : decode prog_85_method_3_code 4 = .ok (.iload_n 2, 1) := by decide +kernel
theorem d3_5 : decode prog_85_method_3_code 5 = .ok (.aload_n 0, 1) := by decide +kernel
theorem d3_6 : decode prog_85_method_3_code 6 = .ok (.arraylength, 1) := by decide +kernel
theorem d3_7 : decode prog_85_method_3_code 7 = .ok (.if_icmp .ge 40, 3) := by decide +kernel
theorem d3_10 : decode prog_85_method_3_code 10 = .ok (.iload_n 1, 1) := by decide +kernel
theorem d3_11 : decode prog_85_method_3_code 11 = .ok (.ifCond .ge 36, 3) := by decide +kernel
theorem d3_14 : decode prog_85_method_3_code 14 = .ok (.aload_n 0, 1) := by decide +kernel
theorem d3_15 : decode prog_85_method_3_code 15 = .ok (.iload_n 2, 1) := by decide +kernel
theorem d3_16 : decode prog_85_method_3_code 16 = .ok (.baload, 1) := by decide +kernel
theorem d3_17 : decode prog_85_method_3_code 17 = .ok (.ifCond .lt 9, 3) := by decide +kernel
theorem d3_20 : decode prog_85_method_3_code 20 = .ok (.iinc 2 1, 3) := by decide +kernel
theorem d3_23 : decode prog_85_method_3_code 23 = .ok (.goto (-19), 3) := by decide +kernel
theorem d3_26 : decode prog_85_method_3_code 26 = .ok (.aload_n 0, 1) := by decide +kernel
theorem d3_27 : decode prog_85_method_3_code 27 = .ok (.iload_n 2, 1) := by decide +kernel
theorem d3_28 : decode prog_85_method_3_code 28 = .ok (.invokestatic 9, 3) := by decide +kernel
theorem d3_31 : decode prog_85_method_3_code 31 = .ok (.istore_n 3, 1) := by decide +kernel
theorem d3_32 : decode prog_85_method_3_code 32 = .ok (.iload_n 3, 1) := by decide +kernel
theorem d3_33 : decode prog_85_method_3_code 33 = .ok (.iconst (-1), 1) := by decide +kernel
theorem d3_34 : decode prog_85_method_3_code 34 = .ok (.if_icmp .ne 8, 3) := by decide +kernel
theorem d3_37 : decode prog_85_method_3_code 37 = .ok (.iload_n 2, 1) := by decide +kernel
theorem d3_38 : decode prog_85_method_3_code 38 = .ok (.istore_n 1, 1) := by decide +kernel
theorem d3_39 : decode prog_85_method_3_code 39 = .ok (.goto 5, 3) := by decide +kernel
theorem d3_42 : decode prog_85_method_3_code 42 = .ok (.iload_n 3, 1) := by decide +kernel
theorem d3_43 : decode prog_85_method_3_code 43 = .ok (.istore_n 2, 1) := by decide +kernel
theorem d3_44 : decode prog_85_method_3_code 44 = .ok (.goto (-40), 3) := by decide +kernel
theorem d3_47 : decode prog_85_method_3_code 47 = .ok (.iload_n 1, 1) := by decide +kernel
theorem d3_48 : decode prog_85_method_3_code 48 = .ok (.ireturn, 1) := by decide +kernel
theorem pn_3 : plainName "com/example/apportis/apportis/Utf8" = true := by first | (simp [plainName, overriddenIn]; done) | decide +kernel
theorem pd92f6cd8e : parseMethodDescriptor "([BI)I" = some ⟨[(.array .byte), .int], some .int⟩ := by decide +kernel
theorem ef_rmFI (m : MethodId) (a0 : Addr) : entryFrame m #[(.ref a0)] 4 = mkF m 0 #[.val (.ref a0), .unset, .unset, .unset] [] := by first | (simp [entryFrame, mkF, argsToLocals, Value.category]; done) | rfl
def Q_rmFI (Z : State) (a0 : Addr) (kk : ClassId) (z : Int32) (vs : List Value) (h0 : Heap) (n0 : Nat) (v : Option Value) (h : Heap) (L : List Loc) : Prop := v = some (.int (own_scan vs z (z.toInt.toNat + 1) 0)) ∧ Fr n0 L ∧ h = h0
abbrev F_rmFI (Z : State) (a0 : Addr) (kk : ClassId) (z : Int32) (vs : List Value) (h0 : Heap) (n0 : Nat) (s : State) (o : Outcome) (U : State) : Prop := ∃ v L, o = .returned v ∧ Q_rmFI Z a0 kk z vs h0 n0 v U.heap L ∧ FrameEnd s o U L 0 0
set_option maxRecDepth 65536 in
set_option maxHeartbeats 40000000 in
theorem rmFI (l : Launch) (Z : State) (aZ : Array Value) (hw : ∀ d ∈ tables_1, d.before aZ Z = true) (ws : List Jvm.Cond) (a0 : Addr) (kk : ClassId) (z : Int32) (vs : List Value) (h0 : Heap) (n0 : Nat) (hz0 : 0 ≤ z.toInt) (hB : ∀ j : Int32, -128 ≤ (own_at vs j).toInt ∧ (own_at vs j).toInt ≤ 127) (hz2 : z.toInt ≤ 100) (hI : ∀ j : Int32, vs.getD j.toNatClampNeg (.int (0 : Int32)) = .int (own_at vs j)) (V : Arv Z h0 a0 kk .byte z vs (.int (0 : Int32))) :
    MetFree l (⟨"com/example/apportis/apportis/Utf8", "firstInvalid", "([B)I"⟩ : MethodName) (head1 (Jvm.Cond.code (⟨"com/example/apportis/apportis/Utf8", "firstInvalid", "([B)I"⟩ : MethodName) prog_85_method_3_code 4 (some .int) :: ws) ({ frames := 1, cells := 0, slots := 0, locals := 21 } : Room)) (fun a U => a = #[(.ref a0)] ∧ Z.Warmed39 U.vm ∧ U.heap = h0) (fun _ _ _ _ _ => True) (fun _ U o U' => ∃ v L, o = .returned v ∧ Q_rmFI Z a0 kk z vs h0 n0 v U'.heap L ∧ FrameEnd U o U' L 0 0) := by
  refine MetFree.of_bodySF (plainFor_of_name pn_3) hisR ?_
  intro p e s m args below meth c s₁ Bd hml0 hP hK
  obtain ⟨rfl, hZ, hh⟩ := hP
  have hx := Bd.exec
  have hby := Bd.bytes
  have hml : c.maxLocals = 4 := hml0
  have hown : s.vm.findClass "com/example/apportis/apportis/Utf8" = some m.cls := findClass_of_methodNamed Bd.named
  have hnm := (name_of_methodNamed Bd.named Bd.method).1
  have X0 : Stand p l e ({ frames := 1, cells := 0, slots := 0, locals := 21 } : Room) s m #[(.ref a0)] below meth c s₁ [] 0 0 := Stand.of_body Bd
  have e0 : s₁.heap = h0 := by rw [← hh, Bd.state]; rfl
  have N0 := Fr.nil n0
  refine Go.st (fun _ k => castTop (ef_rmFI m a0) k) ?_
  show Go p e below _ (s₁.setTop (mkF m 0 #[.val (.ref a0), .unset, .unset, .unset] []))
  refine Go.st (fun _ k => XS.iconst X0.here hx rfl (hb hby d3_0) k) ?_
  refine Go.st (fun _ k => XS.istoreN X0.here hx rfl (hb hby d3_1) rfl (l' := #[.val (.ref a0), .val (.int (-1 : Int32)), .unset, .unset]) rfl k) ?_
  show Go p e below _ (s₁.setTop (mkF m 2 #[.val (.ref a0), .val (.int (-1 : Int32)), .unset, .unset] []))
  refine Go.st (fun _ k => XS.iconst X0.here hx rfl (hb hby d3_2) k) ?_
  refine Go.st (fun _ k => XS.istoreN X0.here hx rfl (hb hby d3_3) rfl (l' := #[.val (.ref a0), .val (.int (-1 : Int32)), .val (.int (0 : Int32)), .unset]) rfl k) ?_
  show Go p e below _ (s₁.setTop (mkF m 4 #[.val (.ref a0), .val (.int (-1 : Int32)), .val (.int (0 : Int32)), .unset] []))
  have kf : ∀ (fu : Nat) (Tkf : State) (lkf : List Loc) (i : Int32) (s3 : Slot), (Stand p l e ({ frames := 1, cells := 0, slots := 0, locals := 21 } : Room) s m #[(.ref a0)] below meth c Tkf lkf 0 0) → (Tkf.heap = h0) → (Fr n0 lkf) → (One s3) → (0 ≤ i.toInt) → (i.toInt ≤ z.toInt) → (∀ g : Nat, z.toInt - i.toInt < g → own_scan vs z (z.toInt.toNat + 1) 0 = own_scan vs z g i) → (z.toInt - i.toInt < fu) → Go p e below (F_rmFI Z a0 kk z vs h0 n0 s) (Tkf.setTop (mkF m 4 #[.val (.ref a0), .val (.int (-1 : Int32)), .val (.int i), s3] [])) := by
    intro fu
    induction fu with
    | zero => intro Tkf lkf i s3 Xkf ekf Nkf h_s3 hi0 hi8 hj hmkf; exact absurd hmkf (by omega)
    | succ fu ih =>
      intro Tkf lkf i s3 Xkf ekf Nkf h_s3 hi0 hi8 hj hmkf
      show Go p e below _ (Tkf.setTop (mkF m 4 #[.val (.ref a0), .val (.int (-1 : Int32)), .val (.int i), s3] []))
      refine Go.st (fun _ k => XS.iloadN Xkf.here hx rfl (hb hby d3_4) rfl k) ?_
      refine Go.st (fun _ k => XS.aloadN Xkf.here hx rfl (hb hby d3_5) rfl rfl k) ?_
      show Go p e below _ (Tkf.setTop (mkF m 6 #[.val (.ref a0), .val (.int (-1 : Int32)), .val (.int i), s3] [(.ref a0), (.int i)]))
      obtain ⟨cl1, Ar1, ck1, Sz1, Nn1, Hs1, Gs1⟩ := id V
      refine Go.st (fun _ k => Xkf.arraylength hx (by rw [ekf]; exact Ar1.1) (State.isArrayOf_alike hZ.alike Ar1.2.1) (g := (mkF m 6 #[.val (.ref a0), .val (.int (-1 : Int32)), .val (.int i), s3] [(.ref a0), (.int i)])) rfl rfl (hb hby d3_6) _ k) ?_
      rw [len_of Sz1 Nn1]
      show Go p e below _ (Tkf.setTop (mkF m 7 #[.val (.ref a0), .val (.int (-1 : Int32)), .val (.int i), s3] [(.int z), (.int i)]))
      by_cases hc2 : i < z
      · show Go p e below _ (Tkf.setTop (mkF m 7 #[.val (.ref a0), .val (.int (-1 : Int32)), .val (.int i), s3] [(.int z), (.int i)]))
        refine Go.st (fun _ k => XS.icmpNo Xkf.here hx rfl (hb hby d3_7) rfl (tlt hc2).2.1 k) ?_
        show Go p e below _ (Tkf.setTop (mkF m 10 #[.val (.ref a0), .val (.int (-1 : Int32)), .val (.int i), s3] []))
        refine Go.st (fun _ k => XS.iloadN Xkf.here hx rfl (hb hby d3_10) rfl k) ?_
        refine Go.st (fun _ k => XS.ifNo Xkf.here hx rfl (hb hby d3_11) rfl ((if0 _ _).trans (tlt (by decide : ((-1 : Int32) < (0 : Int32)))).2.1) k) ?_
        show Go p e below _ (Tkf.setTop (mkF m 14 #[.val (.ref a0), .val (.int (-1 : Int32)), .val (.int i), s3] []))
        refine Go.st (fun _ k => XS.aloadN Xkf.here hx rfl (hb hby d3_14) rfl rfl k) ?_
        refine Go.st (fun _ k => XS.iloadN Xkf.here hx rfl (hb hby d3_15) rfl k) ?_
        show Go p e below _ (Tkf.setTop (mkF m 16 #[.val (.ref a0), .val (.int (-1 : Int32)), .val (.int i), s3] [(.int i), (.ref a0)]))
        obtain ⟨cl3, Ar3, ck3, Sz3, Nn3, Hs3, Gs3⟩ := id V
        have hin3 : ¬ (i < 0 ∨ cl3.slots.size ≤ (i).toNatClampNeg) := inb_of Sz3 (own_in0 hi0 (Int32.lt_iff_toInt_lt.mp hc2))
        have hat3 : cl3.slots[(i).toNatClampNeg]? = some (.int (own_at vs i)) := Hs3.at hin3 (hI _)
        refine Go.st (fun _ k => Xkf.baloadBytes hx (j := i) (v := (.int (own_at vs i))) (by rw [ekf]; exact Ar3.1) (State.isArrayOf_alike hZ.alike Ar3.2.1) Ar3.2.2 hin3 hat3 (g := (mkF m 16 #[.val (.ref a0), .val (.int (-1 : Int32)), .val (.int i), s3] [(.int i), (.ref a0)])) rfl rfl (hb hby d3_16) _ k) ?_
        show Go p e below _ (Tkf.setTop (mkF m 17 #[.val (.ref a0), .val (.int (-1 : Int32)), .val (.int i), s3] [(.int (own_at vs i))]))
        by_cases hc4 : (own_at vs i) < (0 : Int32)
        · show Go p e below _ (Tkf.setTop (mkF m 17 #[.val (.ref a0), .val (.int (-1 : Int32)), .val (.int i), s3] [(.int (own_at vs i))]))
          refine Go.st (fun _ k => XS.ifYes Xkf.here hx rfl (pc0 := 17) (pc' := 26) rfl (hb hby d3_17) rfl ((if0 _ _).trans (tlt hc4).1) (by decide) (by decide) k) ?_
          show Go p e below _ (Tkf.setTop (mkF m 26 #[.val (.ref a0), .val (.int (-1 : Int32)), .val (.int i), s3] []))
          refine Go.st (fun _ k => XS.aloadN Xkf.here hx rfl (hb hby d3_26) rfl rfl k) ?_
          refine Go.st (fun _ k => XS.iloadN Xkf.here hx rfl (hb hby d3_27) rfl k) ?_
          show Go p e below _ (Tkf.setTop (mkF m 28 #[.val (.ref a0), .val (.int (-1 : Int32)), .val (.int i), s3] [(.int i), (.ref a0)]))
          obtain ⟨_, _, ⟨T5, L5, k5, n5⟩, -, X5, ⟨Lc5, hQ5, l5, y5, z5⟩, st5⟩ := Jvm.LawKit.callS Xkf hx (y := (⟨"com/example/apportis/apportis/Utf8", "characterEnd", "([BI)I"⟩ : MethodName)) hown (mvT hZ (hw _ (List.mem_of_getElem? (i := 13) rfl))) (mvT hZ (hw _ (List.mem_of_getElem? (i := 14) rfl))) (mvT hZ (hw _ (List.mem_of_getElem? (i := 11) rfl))) (mvT hZ (hw _ (List.mem_of_getElem? (i := 15) rfl))) (by decide) (backOf (W := 0) (rmCE l Z aZ hw [] (own_at vs i) (own_at vs (i + (1 : Int32))) (own_at vs (i + (2 : Int32))) (own_at vs (i + (3 : Int32))) a0 i kk z vs h0 n0 hi0 (Int32.lt_iff_toInt_lt.mp hc2) hz2 (hI _) (fun _ => hI _) (fun _ => hI _) (fun _ => hI _) V) hZ (hw _ (List.mem_of_getElem? (i := 15) rfl)) (hw _ (List.mem_of_getElem? (i := 11) rfl)) (by decide) (by decide)) (g := (mkF m 28 #[.val (.ref a0), .val (.int (-1 : Int32)), .val (.int i), s3] [(.int i), (.ref a0)])) rfl (by rw [hml]; rfl) (argsL := [(.ref a0), (.int i)]) (rest := []) (lenOf pd92f6cd8e rfl) rfl (by show 2 * 0 + _ ≤ _; exact Nat.le_of_eq rfl) (hb hby d3_28) (fun _ _ => ⟨rfl, ekf, (by decide : 0 + 0 ≤ _), (by decide : 0 + 0 ≤ _)⟩)
          dsimp only [Pt.U, Pt.locs, Pt.cells, Pt.slots] at X5 l5 y5 z5 st5 hQ5
          subst l5 y5 z5
          obtain ⟨rfl, N5q, e5⟩ := hQ5
          have N5 := Fr.app Nkf N5q
          refine Go.st (fun _ k => st5 _ k) ?_
          show Go p e below _ (T5.setTop (mkF m 31 #[.val (.ref a0), .val (.int (-1 : Int32)), .val (.int i), s3] [(.int (fCE (own_at vs i) (own_at vs (i + (1 : Int32))) (own_at vs (i + (2 : Int32))) (own_at vs (i + (3 : Int32))) i z))]))
          refine Go.st (fun _ k => XS.istoreN X5.here hx rfl (hb hby d3_31) rfl (l' := #[.val (.ref a0), .val (.int (-1 : Int32)), .val (.int i), .val (.int (fCE (own_at vs i) (own_at vs (i + (1 : Int32))) (own_at vs (i + (2 : Int32))) (own_at vs (i + (3 : Int32))) i z))]) (own_os3_31 h_s3) k) ?_
          show Go p e below _ (T5.setTop (mkF m 32 #[.val (.ref a0), .val (.int (-1 : Int32)), .val (.int i), .val (.int (fCE (own_at vs i) (own_at vs (i + (1 : Int32))) (own_at vs (i + (2 : Int32))) (own_at vs (i + (3 : Int32))) i z))] []))
          refine Go.st (fun _ k => XS.iloadN X5.here hx rfl (hb hby d3_32) rfl k) ?_
          refine Go.st (fun _ k => XS.iconst X5.here hx rfl (hb hby d3_33) k) ?_
          show Go p e below _ (T5.setTop (mkF m 34 #[.val (.ref a0), .val (.int (-1 : Int32)), .val (.int i), .val (.int (fCE (own_at vs i) (own_at vs (i + (1 : Int32))) (own_at vs (i + (2 : Int32))) (own_at vs (i + (3 : Int32))) i z))] [(.int (-1 : Int32)), (.int (fCE (own_at vs i) (own_at vs (i + (1 : Int32))) (own_at vs (i + (2 : Int32))) (own_at vs (i + (3 : Int32))) i z))]))
          by_cases hc6 : (fCE (own_at vs i) (own_at vs (i + (1 : Int32))) (own_at vs (i + (2 : Int32))) (own_at vs (i + (3 : Int32))) i z) = (-1 : Int32)
          · show Go p e below _ (T5.setTop (mkF m 34 #[.val (.ref a0), .val (.int (-1 : Int32)), .val (.int i), .val (.int (fCE (own_at vs i) (own_at vs (i + (1 : Int32))) (own_at vs (i + (2 : Int32))) (own_at vs (i + (3 : Int32))) i z))] [(.int (-1 : Int32)), (.int (fCE (own_at vs i) (own_at vs (i + (1 : Int32))) (own_at vs (i + (2 : Int32))) (own_at vs (i + (3 : Int32))) i z))]))
            refine Go.st (fun _ k => XS.icmpNo X5.here hx rfl (hb hby d3_34) rfl (teq hc6).2 k) ?_
            show Go p e below _ (T5.setTop (mkF m 37 #[.val (.ref a0), .val (.int (-1 : Int32)), .val (.int i), .val (.int (fCE (own_at vs i) (own_at vs (i + (1 : Int32))) (own_at vs (i + (2 : Int32))) (own_at vs (i + (3 : Int32))) i z))] []))
            refine Go.st (fun _ k => XS.iloadN X5.here hx rfl (hb hby d3_37) rfl k) ?_
            refine Go.st (fun _ k => XS.istoreN X5.here hx rfl (hb hby d3_38) rfl (l' := #[.val (.ref a0), .val (.int i), .val (.int i), .val (.int (fCE (own_at vs i) (own_at vs (i + (1 : Int32))) (own_at vs (i + (2 : Int32))) (own_at vs (i + (3 : Int32))) i z))]) rfl k) ?_
            show Go p e below _ (T5.setTop (mkF m 39 #[.val (.ref a0), .val (.int i), .val (.int i), .val (.int (fCE (own_at vs i) (own_at vs (i + (1 : Int32))) (own_at vs (i + (2 : Int32))) (own_at vs (i + (3 : Int32))) i z))] []))
            refine Go.st (fun _ k => XS.goto X5.here hx rfl (pc0 := 39) (pc' := 44) rfl (hb hby d3_39) (by decide) (by decide) k) ?_
            show Go p e below _ (T5.setTop (mkF m 44 #[.val (.ref a0), .val (.int i), .val (.int i), .val (.int (fCE (own_at vs i) (own_at vs (i + (1 : Int32))) (own_at vs (i + (2 : Int32))) (own_at vs (i + (3 : Int32))) i z))] []))
            refine Go.st (fun _ k => XS.goto X5.here hx rfl (pc0 := 44) (pc' := 4) rfl (hb hby d3_44) (by decide) (by decide) k) ?_
            show Go p e below _ (T5.setTop (mkF m 4 #[.val (.ref a0), .val (.int i), .val (.int i), .val (.int (fCE (own_at vs i) (own_at vs (i + (1 : Int32))) (own_at vs (i + (2 : Int32))) (own_at vs (i + (3 : Int32))) i z))] []))
            refine Go.st (fun _ k => XS.iloadN X5.here hx rfl (hb hby d3_4) rfl k) ?_
            refine Go.st (fun _ k => XS.aloadN X5.here hx rfl (hb hby d3_5) rfl rfl k) ?_
            show Go p e below _ (T5.setTop (mkF m 6 #[.val (.ref a0), .val (.int i), .val (.int i), .val (.int (fCE (own_at vs i) (own_at vs (i + (1 : Int32))) (own_at vs (i + (2 : Int32))) (own_at vs (i + (3 : Int32))) i z))] [(.ref a0), (.int i)]))
            obtain ⟨cl7, Ar7, ck7, Sz7, Nn7, Hs7, Gs7⟩ := id V
            refine Go.st (fun _ k => X5.arraylength hx (by rw [e5]; exact Ar7.1) (State.isArrayOf_alike hZ.alike Ar7.2.1) (g := (mkF m 6 #[.val (.ref a0), .val (.int i), .val (.int i), .val (.int (fCE (own_at vs i) (own_at vs (i + (1 : Int32))) (own_at vs (i + (2 : Int32))) (own_at vs (i + (3 : Int32))) i z))] [(.ref a0), (.int i)])) rfl rfl (hb hby d3_6) _ k) ?_
            rw [len_of Sz7 Nn7]
            show Go p e below _ (T5.setTop (mkF m 7 #[.val (.ref a0), .val (.int i), .val (.int i), .val (.int (fCE (own_at vs i) (own_at vs (i + (1 : Int32))) (own_at vs (i + (2 : Int32))) (own_at vs (i + (3 : Int32))) i z))] [(.int z), (.int i)]))
            refine Go.st (fun _ k => XS.icmpNo X5.here hx rfl (hb hby d3_7) rfl (tlt hc2).2.1 k) ?_
            show Go p e below _ (T5.setTop (mkF m 10 #[.val (.ref a0), .val (.int i), .val (.int i), .val (.int (fCE (own_at vs i) (own_at vs (i + (1 : Int32))) (own_at vs (i + (2 : Int32))) (own_at vs (i + (3 : Int32))) i z))] []))
            refine Go.st (fun _ k => XS.iloadN X5.here hx rfl (hb hby d3_10) rfl k) ?_
            refine Go.st (fun _ k => XS.ifYes X5.here hx rfl (pc0 := 11) (pc' := 47) rfl (hb hby d3_11) rfl ((if0 _ _).trans (flt (own_nn hi0)).2.1) (by decide) (by decide) k) ?_
            show Go p e below _ (T5.setTop (mkF m 47 #[.val (.ref a0), .val (.int i), .val (.int i), .val (.int (fCE (own_at vs i) (own_at vs (i + (1 : Int32))) (own_at vs (i + (2 : Int32))) (own_at vs (i + (3 : Int32))) i z))] []))
            refine Go.st (fun _ k => XS.iloadN X5.here hx rfl (hb hby d3_47) rfl k) ?_
            obtain ⟨fs, hr, hrun, hended, hW, hsame⟩ := X5.leave (v := some (.int i)) (fun h => by rw [Bd.returns] at h; cases h)
            refine ⟨_, _, retI X5 hx Bd.returns (hb hby d3_48) hr, hrun, hended, _, _, rfl, ?_, ⟨_, rfl⟩, hW, hsame.mono (by decide) (by decide)⟩
            show Q_rmFI Z a0 kk z vs h0 n0 _ T5.heap _
            rw [e5]
            refine ⟨?_, N5, rfl⟩
            rw [hj (fu + 1) hmkf, own_scan_bad vs hc2 (own_bad vs hB hi0 hc2 hz2 hc4 hc6)]
          · show Go p e below _ (T5.setTop (mkF m 34 #[.val (.ref a0), .val (.int (-1 : Int32)), .val (.int i), .val (.int (fCE (own_at vs i) (own_at vs (i + (1 : Int32))) (own_at vs (i + (2 : Int32))) (own_at vs (i + (3 : Int32))) i z))] [(.int (-1 : Int32)), (.int (fCE (own_at vs i) (own_at vs (i + (1 : Int32))) (own_at vs (i + (2 : Int32))) (own_at vs (i + (3 : Int32))) i z))]))
            refine Go.st (fun _ k => XS.icmpYes X5.here hx rfl (pc0 := 34) (pc' := 42) rfl (hb hby d3_34) rfl (feq hc6).2 (by decide) (by decide) k) ?_
            show Go p e below _ (T5.setTop (mkF m 42 #[.val (.ref a0), .val (.int (-1 : Int32)), .val (.int i), .val (.int (fCE (own_at vs i) (own_at vs (i + (1 : Int32))) (own_at vs (i + (2 : Int32))) (own_at vs (i + (3 : Int32))) i z))] []))
            refine Go.st (fun _ k => XS.iloadN X5.here hx rfl (hb hby d3_42) rfl k) ?_
            refine Go.st (fun _ k => XS.istoreN X5.here hx rfl (hb hby d3_43) rfl (l' := #[.val (.ref a0), .val (.int (-1 : Int32)), .val (.int (fCE (own_at vs i) (own_at vs (i + (1 : Int32))) (own_at vs (i + (2 : Int32))) (own_at vs (i + (3 : Int32))) i z)), .val (.int (fCE (own_at vs i) (own_at vs (i + (1 : Int32))) (own_at vs (i + (2 : Int32))) (own_at vs (i + (3 : Int32))) i z))]) rfl k) ?_
            show Go p e below _ (T5.setTop (mkF m 44 #[.val (.ref a0), .val (.int (-1 : Int32)), .val (.int (fCE (own_at vs i) (own_at vs (i + (1 : Int32))) (own_at vs (i + (2 : Int32))) (own_at vs (i + (3 : Int32))) i z)), .val (.int (fCE (own_at vs i) (own_at vs (i + (1 : Int32))) (own_at vs (i + (2 : Int32))) (own_at vs (i + (3 : Int32))) i z))] []))
            refine Go.st (fun _ k => XS.goto X5.here hx rfl (pc0 := 44) (pc' := 4) rfl (hb hby d3_44) (by decide) (by decide) k) ?_
            show Go p e below _ (T5.setTop (mkF m 4 #[.val (.ref a0), .val (.int (-1 : Int32)), .val (.int (fCE (own_at vs i) (own_at vs (i + (1 : Int32))) (own_at vs (i + (2 : Int32))) (own_at vs (i + (3 : Int32))) i z)), .val (.int (fCE (own_at vs i) (own_at vs (i + (1 : Int32))) (own_at vs (i + (2 : Int32))) (own_at vs (i + (3 : Int32))) i z))] []))
            exact ih _ _ _ _ X5 e5 N5 (One.val rfl) (own_end0 vs hB hi0 hc2 hz2 hc4 hc6) (own_end1 vs hB hi0 hc2 hz2 hc4 hc6) (own_end2 vs hB hi0 hc2 hz2 hc4 hc6 hj) (own_end3 vs hB hi0 hc2 hz2 hc4 hc6 hmkf)
        · show Go p e below _ (Tkf.setTop (mkF m 17 #[.val (.ref a0), .val (.int (-1 : Int32)), .val (.int i), s3] [(.int (own_at vs i))]))
          refine Go.st (fun _ k => XS.ifNo Xkf.here hx rfl (hb hby d3_17) rfl ((if0 _ _).trans (flt hc4).1) k) ?_
          show Go p e below _ (Tkf.setTop (mkF m 20 #[.val (.ref a0), .val (.int (-1 : Int32)), .val (.int i), s3] []))
          refine Go.st (fun _ k => XS.iinc Xkf.here hx rfl (hb hby d3_20) rfl (l' := #[.val (.ref a0), .val (.int (-1 : Int32)), .val (.int (i + (1 : Int32))), s3]) rfl k) ?_
          show Go p e below _ (Tkf.setTop (mkF m 23 #[.val (.ref a0), .val (.int (-1 : Int32)), .val (.int (i + (1 : Int32))), s3] []))
          refine Go.st (fun _ k => XS.goto Xkf.here hx rfl (pc0 := 23) (pc' := 4) rfl (hb hby d3_23) (by decide) (by decide) k) ?_
          show Go p e below _ (Tkf.setTop (mkF m 4 #[.val (.ref a0), .val (.int (-1 : Int32)), .val (.int (i + (1 : Int32))), s3] []))
          exact ih _ _ _ s3 Xkf ekf Nkf h_s3 (own_one0 vs hB hi0 hc2 hz2 hc4) (own_one1 vs hB hi0 hc2 hz2 hc4) (own_one2 vs hB hi0 hc2 hz2 hc4 hj) (own_one3 vs hB hi0 hc2 hz2 hc4 hmkf)
      · show Go p e below _ (Tkf.setTop (mkF m 7 #[.val (.ref a0), .val (.int (-1 : Int32)), .val (.int i), s3] [(.int z), (.int i)]))
        refine Go.st (fun _ k => XS.icmpYes Xkf.here hx rfl (pc0 := 7) (pc' := 47) rfl (hb hby d3_7) rfl (flt hc2).2.1 (by decide) (by decide) k) ?_
        show Go p e below _ (Tkf.setTop (mkF m 47 #[.val (.ref a0), .val (.int (-1 : Int32)), .val (.int i), s3] []))
        refine Go.st (fun _ k => XS.iloadN Xkf.here hx rfl (hb hby d3_47) rfl k) ?_
        obtain ⟨fs, hr, hrun, hended, hW, hsame⟩ := Xkf.leave (v := some (.int (-1 : Int32))) (fun h => by rw [Bd.returns] at h; cases h)
        refine ⟨_, _, retI Xkf hx Bd.returns (hb hby d3_48) hr, hrun, hended, _, _, rfl, ?_, ⟨_, rfl⟩, hW, hsame.mono (by decide) (by decide)⟩
        show Q_rmFI Z a0 kk z vs h0 n0 _ Tkf.heap _
        rw [ekf]
        refine ⟨?_, Nkf, rfl⟩
        rw [hj (fu + 1) hmkf, own_scan_out vs hc2]
  exact kf (z.toInt.toNat + 1) _ _ _ _ X0 e0 N0 One.u (by decide) hz0 (own_scan_fuel vs hB hz0 hz2) (own_start hz0)
abbrev Ii (vs : List Value) : Prop := ∀ j : Int32, vs.getD j.toNatClampNeg (.int (0 : Int32)) = .int (own_at vs j)
abbrev Bl (vs : List Value) : Prop := ∀ v ∈ vs, ∃ y : Int32, v = .int (nar .byte y)
theorem own_bl0 : Bl [] := fun v h => absurd h (List.not_mem_nil)
theorem own_blc {vs : List Value} (y : Int32) (h : Bl vs) : Bl ((.int (nar .byte y)) :: vs) := fun v hv => by
  rcases List.mem_cons.mp hv with q | q
  · exact ⟨y, q⟩
  · exact h v q
theorem own_nar (y : Int32) : -128 ≤ (nar .byte y).toInt ∧ (nar .byte y).toInt ≤ 127 := by
  show -128 ≤ (y.toInt8.toInt32).toInt ∧ (y.toInt8.toInt32).toInt ≤ 127
  rw [Int8.toInt_toInt32]
  have a := y.toInt8.toInt_lt
  have b := y.toInt8.le_toInt
  omega
theorem own_get {vs : List Value} (h : Bl vs) (n : Nat) : vs.getD n (.int (0 : Int32)) = .int (0 : Int32) ∨ ∃ y : Int32, vs.getD n (.int (0 : Int32)) = .int (nar .byte y) := by
  rw [List.getD_eq_getElem?_getD]
  cases hq : vs[n]? with
  | none => exact Or.inl rfl
  | some v =>
    obtain ⟨y, e⟩ := h v (List.mem_of_getElem? hq)
    exact Or.inr ⟨y, by rw [e]; rfl⟩
theorem own_int {vs : List Value} (h : Bl vs) : Ii vs := fun j => by
  rcases own_get h j.toNatClampNeg with q | ⟨y, q⟩
  · unfold own_at; rw [q]
  · unfold own_at; rw [q]
theorem own_byt {vs : List Value} (h : Bl vs) : Bs vs := fun j => by
  rcases own_get h j.toNatClampNeg with q | ⟨y, q⟩
  · unfold own_at; rw [q]; decide
  · unfold own_at; rw [q]; exact own_nar y
theorem own_div {x y : Int32} (hx : 0 ≤ x.toInt) (hy : 0 < y.toInt) : (x / y).toInt = x.toInt / y.toInt := by
  rw [Jvm.Kit.i32_div (by omega), Int.tdiv_eq_ediv_of_nonneg hx]
theorem own_jrem {x y : Int32} (hx : 0 ≤ x.toInt) (hy : 0 < y.toInt) : (jrem x y).toInt = x.toInt % y.toInt := by
  have hd := own_div hx hy
  have hm := Int.emod_add_ediv_mul x.toInt y.toInt
  have h0 := Int.emod_nonneg x.toInt (b := y.toInt) (by omega)
  have h1 := Int.emod_lt_of_pos x.toInt hy
  have hq : 0 ≤ x.toInt / y.toInt * y.toInt := Int.mul_nonneg (Int.ediv_nonneg hx (by omega)) (by omega)
  have hl := x.toInt_lt
  have e1 : (x / y * y).toInt = x.toInt / y.toInt * y.toInt := by
    rw [Jvm.Kit.i32_mul (by rw [hd]; omega) (by rw [hd]; omega), hd]
  have e2 : (jrem x y).toInt = x.toInt - (x / y * y).toInt := Jvm.Kit.i32_sub (by rw [e1]; omega) (by rw [e1]; omega)
  rw [e2, e1]
  omega
theorem own_nine (p2 : Int32) : (jrem (p2 &&& (2147483647 : Int32)) (9 : Int32)) = 0 ∨ (jrem (p2 &&& (2147483647 : Int32)) (9 : Int32)) = 1 ∨ (jrem (p2 &&& (2147483647 : Int32)) (9 : Int32)) = 2 ∨ (jrem (p2 &&& (2147483647 : Int32)) (9 : Int32)) = 3 ∨ (jrem (p2 &&& (2147483647 : Int32)) (9 : Int32)) = 4 ∨ (jrem (p2 &&& (2147483647 : Int32)) (9 : Int32)) = 5 ∨ (jrem (p2 &&& (2147483647 : Int32)) (9 : Int32)) = 6 ∨ (jrem (p2 &&& (2147483647 : Int32)) (9 : Int32)) = 7 ∨ (jrem (p2 &&& (2147483647 : Int32)) (9 : Int32)) = 8 := by
  have hm := Jvm.Kit.i32_mask p2 2147483647 (k := 31) (by decide) (by decide)
  have e := own_jrem (x := p2 &&& (2147483647 : Int32)) (y := (9 : Int32)) (by omega) (by decide)
  have c9 : (9 : Int32).toInt = 9 := by decide
  rw [c9] at e
  have c0 : (0 : Int32).toInt = 0 := by decide
  have c1 : (1 : Int32).toInt = 1 := by decide
  have c2 : (2 : Int32).toInt = 2 := by decide
  have c3 : (3 : Int32).toInt = 3 := by decide
  have c4 : (4 : Int32).toInt = 4 := by decide
  have c5 : (5 : Int32).toInt = 5 := by decide
  have c6 : (6 : Int32).toInt = 6 := by decide
  have c7 : (7 : Int32).toInt = 7 := by decide
  have c8 : (8 : Int32).toInt = 8 := by decide
  simp only [← Int32.toInt_inj, c0, c1, c2, c3, c4, c5, c6, c7, c8]
  omega
theorem own_byt0 : Bs [] := own_byt own_bl0
theorem own_int0 : Ii [] := own_int own_bl0
theorem own_byt1 (y0 : Int32) : Bs [(.int (nar .byte y0))] := own_byt (own_blc y0 own_bl0)
theorem own_int1 (y0 : Int32) : Ii [(.int (nar .byte y0))] := own_int (own_blc y0 own_bl0)
theorem own_byt2 (y0 : Int32) (y1 : Int32) : Bs [(.int (nar .byte y0)), (.int (nar .byte y1))] := own_byt (own_blc y0 (own_blc y1 own_bl0))
theorem own_int2 (y0 : Int32) (y1 : Int32) : Ii [(.int (nar .byte y0)), (.int (nar .byte y1))] := own_int (own_blc y0 (own_blc y1 own_bl0))
theorem own_byt3 (y0 : Int32) (y1 : Int32) (y2 : Int32) : Bs [(.int (nar .byte y0)), (.int (nar .byte y1)), (.int (nar .byte y2))] := own_byt (own_blc y0 (own_blc y1 (own_blc y2 own_bl0)))
theorem own_int3 (y0 : Int32) (y1 : Int32) (y2 : Int32) : Ii [(.int (nar .byte y0)), (.int (nar .byte y1)), (.int (nar .byte y2))] := own_int (own_blc y0 (own_blc y1 (own_blc y2 own_bl0)))
theorem own_byt4 (y0 : Int32) (y1 : Int32) (y2 : Int32) (y3 : Int32) : Bs [(.int (nar .byte y0)), (.int (nar .byte y1)), (.int (nar .byte y2)), (.int (nar .byte y3))] := own_byt (own_blc y0 (own_blc y1 (own_blc y2 (own_blc y3 own_bl0))))
theorem own_int4 (y0 : Int32) (y1 : Int32) (y2 : Int32) (y3 : Int32) : Ii [(.int (nar .byte y0)), (.int (nar .byte y1)), (.int (nar .byte y2)), (.int (nar .byte y3))] := own_int (own_blc y0 (own_blc y1 (own_blc y2 (own_blc y3 own_bl0))))
theorem own_byt5 (y0 : Int32) (y1 : Int32) (y2 : Int32) (y3 : Int32) (y4 : Int32) : Bs [(.int (nar .byte y0)), (.int (nar .byte y1)), (.int (nar .byte y2)), (.int (nar .byte y3)), (.int (nar .byte y4))] := own_byt (own_blc y0 (own_blc y1 (own_blc y2 (own_blc y3 (own_blc y4 own_bl0)))))
theorem own_int5 (y0 : Int32) (y1 : Int32) (y2 : Int32) (y3 : Int32) (y4 : Int32) : Ii [(.int (nar .byte y0)), (.int (nar .byte y1)), (.int (nar .byte y2)), (.int (nar .byte y3)), (.int (nar .byte y4))] := own_int (own_blc y0 (own_blc y1 (own_blc y2 (own_blc y3 (own_blc y4 own_bl0)))))
theorem own_byt6 (y0 : Int32) (y1 : Int32) (y2 : Int32) (y3 : Int32) (y4 : Int32) (y5 : Int32) : Bs [(.int (nar .byte y0)), (.int (nar .byte y1)), (.int (nar .byte y2)), (.int (nar .byte y3)), (.int (nar .byte y4)), (.int (nar .byte y5))] := own_byt (own_blc y0 (own_blc y1 (own_blc y2 (own_blc y3 (own_blc y4 (own_blc y5 own_bl0))))))
theorem own_int6 (y0 : Int32) (y1 : Int32) (y2 : Int32) (y3 : Int32) (y4 : Int32) (y5 : Int32) : Ii [(.int (nar .byte y0)), (.int (nar .byte y1)), (.int (nar .byte y2)), (.int (nar .byte y3)), (.int (nar .byte y4)), (.int (nar .byte y5))] := own_int (own_blc y0 (own_blc y1 (own_blc y2 (own_blc y3 (own_blc y4 (own_blc y5 own_bl0))))))
theorem own_byt7 (y0 : Int32) (y1 : Int32) (y2 : Int32) (y3 : Int32) (y4 : Int32) (y5 : Int32) (y6 : Int32) : Bs [(.int (nar .byte y0)), (.int (nar .byte y1)), (.int (nar .byte y2)), (.int (nar .byte y3)), (.int (nar .byte y4)), (.int (nar .byte y5)), (.int (nar .byte y6))] := own_byt (own_blc y0 (own_blc y1 (own_blc y2 (own_blc y3 (own_blc y4 (own_blc y5 (own_blc y6 own_bl0)))))))
theorem own_int7 (y0 : Int32) (y1 : Int32) (y2 : Int32) (y3 : Int32) (y4 : Int32) (y5 : Int32) (y6 : Int32) : Ii [(.int (nar .byte y0)), (.int (nar .byte y1)), (.int (nar .byte y2)), (.int (nar .byte y3)), (.int (nar .byte y4)), (.int (nar .byte y5)), (.int (nar .byte y6))] := own_int (own_blc y0 (own_blc y1 (own_blc y2 (own_blc y3 (own_blc y4 (own_blc y5 (own_blc y6 own_bl0)))))))
theorem own_byt8 (y0 : Int32) (y1 : Int32) (y2 : Int32) (y3 : Int32) (y4 : Int32) (y5 : Int32) (y6 : Int32) (y7 : Int32) : Bs [(.int (nar .byte y0)), (.int (nar .byte y1)), (.int (nar .byte y2)), (.int (nar .byte y3)), (.int (nar .byte y4)), (.int (nar .byte y5)), (.int (nar .byte y6)), (.int (nar .byte y7))] := own_byt (own_blc y0 (own_blc y1 (own_blc y2 (own_blc y3 (own_blc y4 (own_blc y5 (own_blc y6 (own_blc y7 own_bl0))))))))
theorem own_int8 (y0 : Int32) (y1 : Int32) (y2 : Int32) (y3 : Int32) (y4 : Int32) (y5 : Int32) (y6 : Int32) (y7 : Int32) : Ii [(.int (nar .byte y0)), (.int (nar .byte y1)), (.int (nar .byte y2)), (.int (nar .byte y3)), (.int (nar .byte y4)), (.int (nar .byte y5)), (.int (nar .byte y6)), (.int (nar .byte y7))] := own_int (own_blc y0 (own_blc y1 (own_blc y2 (own_blc y3 (own_blc y4 (own_blc y5 (own_blc y6 (own_blc y7 own_bl0))))))))

theorem pn_0 : plainName "com/example/apportis/apportis/Utf8FirstInvalidPinLaw" = true := by first | (simp [plainName, overriddenIn]; done) | decide +kernel
theorem pdca677057 : parseMethodDescriptor "([B)I" = some ⟨[(.array .byte)], some .int⟩ := by decide +kernel
theorem ef_rm0 (m : MethodId) (p0 : Int32) (p1 : Int32) (p2 : Int32) : entryFrame m #[(.int p0), (.int p1), (.int p2)] maxLocals = mkF m 0 #[.val (.int p0), .val (.int p1), .val (.int p2), .unset, .unset, .unset, .unset] [] := by first | (simp [entryFrame, mkF, argsToLocals, Value.category, maxLocals]; done) | rfl
def Q_rm0 (Z : State) (p0 : Int32) (p1 : Int32) (p2 : Int32) (h0 : Heap) (n0 : Nat) (v : Option Value) (h : Heap) (L : List Loc) : Prop := v = some (.int 1) ∧ Fr n0 L
abbrev F_rm0 (Z : State) (p0 : Int32) (p1 : Int32) (p2 : Int32) (h0 : Heap) (n0 : Nat) (s : State) (o : Outcome) (U : State) : Prop := ∃ v L, o = .returned v ∧ Q_rm0 Z p0 p1 p2 h0 n0 v U.heap L ∧ FrameEnd s o U L room_1.cells room_1.slots
set_option maxRecDepth 65536 in
set_option maxHeartbeats 40000000 in
theorem rm0 (l : Launch) (Z : State) (aZ : Array Value) (hw : ∀ d ∈ tables_1, d.before aZ Z = true) (ws : List Jvm.Cond) (p0 : Int32) (p1 : Int32) (p2 : Int32) (h0 : Heap) (n0 : Nat) (Z0 : n0 ≤ h0.size) :
    MetFree l x (head1 (Jvm.Cond.code x code maxLocals ret :: ws) room_1) (fun a U => a = #[(.int p0), (.int p1), (.int p2)] ∧ Z.Warmed39 U.vm ∧ U.heap = h0) (fun _ _ _ _ _ => True) (fun _ U o U' => ∃ v L, o = .returned v ∧ Q_rm0 Z p0 p1 p2 h0 n0 v U'.heap L ∧ FrameEnd U o U' L room_1.cells room_1.slots) := by
  refine MetFree.of_bodySF (plainFor_of_name pn_0) hisR ?_
  intro p e s m args below meth c s₁ Bd hml0 hP hK
  obtain ⟨rfl, hZ, hh⟩ := hP
  have hx := Bd.exec
  have hby := Bd.bytes
  have hml : c.maxLocals = 7 := hml0
  have hown : s.vm.findClass "com/example/apportis/apportis/Utf8FirstInvalidPinLaw" = some m.cls := findClass_of_methodNamed Bd.named
  have hnm := (name_of_methodNamed Bd.named Bd.method).1
  have X0 : Stand p l e room_1 s m #[(.int p0), (.int p1), (.int p2)] below meth c s₁ [] 0 0 := Stand.of_body Bd
  have e0 : s₁.heap = h0 := by rw [← hh, Bd.state]; rfl
  have N0 := Fr.nil n0
  refine Go.st (fun _ k => castTop (ef_rm0 m p0 p1 p2) k) ?_
  show Go p e below _ (s₁.setTop (mkF m 0 #[.val (.int p0), .val (.int p1), .val (.int p2), .unset, .unset, .unset, .unset] []))
  refine Go.st (fun _ k => XS.iloadN X0.here hx rfl (hb hby at_0) rfl k) ?_
  show Go p e below _ (s₁.setTop (mkF m 1 #[.val (.int p0), .val (.int p1), .val (.int p2), .unset, .unset, .unset, .unset] [(.int p2)]))
  refine Go.st (fun _ k => X0.ldcInt hx hown (mvT hZ (hw _ (List.mem_of_getElem? (i := 0) rfl))) (g := (mkF m 1 #[.val (.int p0), .val (.int p1), .val (.int p2), .unset, .unset, .unset, .unset] [(.int p2)])) rfl (hb hby at_1) _ k) ?_
  show Go p e below _ (s₁.setTop (mkF m 3 #[.val (.int p0), .val (.int p1), .val (.int p2), .unset, .unset, .unset, .unset] [(.int (2147483647 : Int32)), (.int p2)]))
  refine Go.st (fun _ k => XS.iand X0.here hx rfl (hb hby at_3) rfl k) ?_
  refine Go.st (fun _ k => XS.bipush X0.here hx rfl (hb hby at_4) k) ?_
  show Go p e below _ (s₁.setTop (mkF m 6 #[.val (.int p0), .val (.int p1), .val (.int p2), .unset, .unset, .unset, .unset] [(.int (9 : Int32)), (.int (p2 &&& (2147483647 : Int32)))]))
  refine Go.st (fun _ k => XS.irem X0.here hx rfl (hb hby at_6) rfl (by decide) k) ?_
  show Go p e below _ (s₁.setTop (mkF m 7 #[.val (.int p0), .val (.int p1), .val (.int p2), .unset, .unset, .unset, .unset] [(.int (jrem (p2 &&& (2147483647 : Int32)) (9 : Int32)))]))
  refine Go.st (fun _ k => XS.istoreN X0.here hx rfl (hb hby at_7) rfl (l' := #[.val (.int p0), .val (.int p1), .val (.int p2), .val (.int (jrem (p2 &&& (2147483647 : Int32)) (9 : Int32))), .unset, .unset, .unset]) rfl k) ?_
  show Go p e below _ (s₁.setTop (mkF m 8 #[.val (.int p0), .val (.int p1), .val (.int p2), .val (.int (jrem (p2 &&& (2147483647 : Int32)) (9 : Int32))), .unset, .unset, .unset] []))
  refine Go.st (fun _ k => XS.bipush X0.here hx rfl (hb hby at_8) k) ?_
  show Go p e below _ (s₁.setTop (mkF m 10 #[.val (.int p0), .val (.int p1), .val (.int p2), .val (.int (jrem (p2 &&& (2147483647 : Int32)) (9 : Int32))), .unset, .unset, .unset] [(.int (8 : Int32))]))
  obtain ⟨T1, h1, k1, X1, e1, E1, A1, st1⟩ := newP X0 hx hZ (hw _ (List.mem_of_getElem? (i := 1) rfl)) e0 (g := (mkF m 10 #[.val (.int p0), .val (.int p1), .val (.int p2), .val (.int (jrem (p2 &&& (2147483647 : Int32)) (9 : Int32))), .unset, .unset, .unset] [(.int (8 : Int32))])) rfl (hb hby at_10) rfl (by decide) (cap := 8) (by decide) (by decide) (by decide) (by decide)
  obtain ⟨b1, g1⟩ : ∃ z, z = h0.size := ⟨_, rfl⟩
  have gg1 : n0 ≤ b1 := Nat.le_trans Z0 (Nat.le_of_eq g1.symm)
  rw [← g1] at A1 st1
  have Z1 : n0 ≤ h1.size := Nat.le_trans Z0 E1.1
  have V1 : Arv Z h1 b1 k1 .byte (8 : Int32) [(.int (0 : Int32)), (.int (0 : Int32)), (.int (0 : Int32)), (.int (0 : Int32)), (.int (0 : Int32)), (.int (0 : Int32)), (.int (0 : Int32)), (.int (0 : Int32))] (.int (0 : Int32)) := (Arv.new A1 (by decide)).pad (pad_rep [] (.int (0 : Int32)) 8)
  refine Go.st (fun _ k => st1 _ k) ?_
  show Go p e below _ (T1.setTop (mkF m 12 #[.val (.int p0), .val (.int p1), .val (.int p2), .val (.int (jrem (p2 &&& (2147483647 : Int32)) (9 : Int32))), .unset, .unset, .unset] [(.ref b1)]))
  refine Go.st (fun _ k => XS.astore X1.here hx rfl (hb hby at_12) rfl rfl (l' := #[.val (.int p0), .val (.int p1), .val (.int p2), .val (.int (jrem (p2 &&& (2147483647 : Int32)) (9 : Int32))), .val (.ref b1), .unset, .unset]) rfl k) ?_
  show Go p e below _ (T1.setTop (mkF m 14 #[.val (.int p0), .val (.int p1), .val (.int p2), .val (.int (jrem (p2 &&& (2147483647 : Int32)) (9 : Int32))), .val (.ref b1), .unset, .unset] []))
  refine Go.st (fun _ k => XS.aload X1.here hx rfl (hb hby at_14) rfl rfl k) ?_
  refine Go.st (fun _ k => XS.iconst X1.here hx rfl (hb hby at_16) k) ?_
  show Go p e below _ (T1.setTop (mkF m 17 #[.val (.int p0), .val (.int p1), .val (.int p2), .val (.int (jrem (p2 &&& (2147483647 : Int32)) (9 : Int32))), .val (.ref b1), .unset, .unset] [(.int (0 : Int32)), (.ref b1)]))
  refine Go.st (fun _ k => XS.iloadN X1.here hx rfl (hb hby at_17) rfl k) ?_
  refine Go.st (fun _ k => XS.i2b X1.here hx rfl (hb hby at_18) rfl k) ?_
  show Go p e below _ (T1.setTop (mkF m 19 #[.val (.int p0), .val (.int p1), .val (.int p2), .val (.int (jrem (p2 &&& (2147483647 : Int32)) (9 : Int32))), .val (.ref b1), .unset, .unset] [(.int (p0.toInt8.toInt32)), (.int (0 : Int32)), (.ref b1)]))
  generalize hy2 : (p0.toInt8.toInt32) = y2
  show Go p e below _ (T1.setTop (mkF m 19 #[.val (.int p0), .val (.int p1), .val (.int p2), .val (.int (jrem (p2 &&& (2147483647 : Int32)) (9 : Int32))), .val (.ref b1), .unset, .unset] [(.int y2), (.int (0 : Int32)), (.ref b1)]))
  obtain ⟨cl3, Ar3, ck3, Sz3, Nn3, Hs3, Gs3⟩ := id V1
  have hin3 : ¬ ((0 : Int32) < 0 ∨ cl3.slots.size ≤ ((0 : Int32)).toNatClampNeg) := inb_of Sz3 ⟨by decide, by decide⟩
  obtain ⟨T4, h4, X4, e4, W4, st4⟩ := stB X1 hx hZ e1 Ar3 (j := (0 : Int32)) hin3 (g := (mkF m 19 #[.val (.int p0), .val (.int p1), .val (.int p2), .val (.int (jrem (p2 &&& (2147483647 : Int32)) (9 : Int32))), .val (.ref b1), .unset, .unset] [(.int y2), (.int (0 : Int32)), (.ref b1)])) rfl rfl (hb hby at_19)
  have V4 : Arv Z h4 b1 k1 .byte (8 : Int32) [(.int (nar .byte y2)), (.int (0 : Int32)), (.int (0 : Int32)), (.int (0 : Int32)), (.int (0 : Int32)), (.int (0 : Int32)), (.int (0 : Int32)), (.int (0 : Int32))] (.int (0 : Int32)) := Arv.set Ar3 ck3 Sz3 Nn3 Hs3 Gs3 (fits_nar_byte _) W4 0 rfl (Nat.le_of_ble_eq_true rfl)
  have N4 := Fr.snoc X4 N0 gg1
  have Z4 : n0 ≤ h4.size := by rw [W4.size]; exact Z1
  refine Go.st (fun _ k => st4 _ k) ?_
  show Go p e below _ (T4.setTop (mkF m 20 #[.val (.int p0), .val (.int p1), .val (.int p2), .val (.int (jrem (p2 &&& (2147483647 : Int32)) (9 : Int32))), .val (.ref b1), .unset, .unset] []))
  refine Go.st (fun _ k => XS.aload X4.here hx rfl (hb hby at_20) rfl rfl k) ?_
  refine Go.st (fun _ k => XS.iconst X4.here hx rfl (hb hby at_22) k) ?_
  show Go p e below _ (T4.setTop (mkF m 23 #[.val (.int p0), .val (.int p1), .val (.int p2), .val (.int (jrem (p2 &&& (2147483647 : Int32)) (9 : Int32))), .val (.ref b1), .unset, .unset] [(.int (1 : Int32)), (.ref b1)]))
  refine Go.st (fun _ k => XS.iloadN X4.here hx rfl (hb hby at_23) rfl k) ?_
  refine Go.st (fun _ k => XS.bipush X4.here hx rfl (hb hby at_24) k) ?_
  show Go p e below _ (T4.setTop (mkF m 26 #[.val (.int p0), .val (.int p1), .val (.int p2), .val (.int (jrem (p2 &&& (2147483647 : Int32)) (9 : Int32))), .val (.ref b1), .unset, .unset] [(.int (8 : Int32)), (.int p0), (.int (1 : Int32)), (.ref b1)]))
  refine Go.st (fun _ k => XS.iushr X4.here hx rfl (hb hby at_26) rfl k) ?_
  show Go p e below _ (T4.setTop (mkF m 27 #[.val (.int p0), .val (.int p1), .val (.int p2), .val (.int (jrem (p2 &&& (2147483647 : Int32)) (9 : Int32))), .val (.ref b1), .unset, .unset] [(.int ((p0.toUInt32 >>> ((8 : Int32) &&& 31).toUInt32).toInt32)), (.int (1 : Int32)), (.ref b1)]))
  refine Go.st (fun _ k => XS.i2b X4.here hx rfl (hb hby at_27) rfl k) ?_
  show Go p e below _ (T4.setTop (mkF m 28 #[.val (.int p0), .val (.int p1), .val (.int p2), .val (.int (jrem (p2 &&& (2147483647 : Int32)) (9 : Int32))), .val (.ref b1), .unset, .unset] [(.int (((p0.toUInt32 >>> ((8 : Int32) &&& 31).toUInt32).toInt32).toInt8.toInt32)), (.int (1 : Int32)), (.ref b1)]))
  generalize hy5 : (((p0.toUInt32 >>> ((8 : Int32) &&& 31).toUInt32).toInt32).toInt8.toInt32) = y5
  show Go p e below _ (T4.setTop (mkF m 28 #[.val (.int p0), .val (.int p1), .val (.int p2), .val (.int (jrem (p2 &&& (2147483647 : Int32)) (9 : Int32))), .val (.ref b1), .unset, .unset] [(.int y5), (.int (1 : Int32)), (.ref b1)]))
  obtain ⟨cl6, Ar6, ck6, Sz6, Nn6, Hs6, Gs6⟩ := id V4
  have hin6 : ¬ ((1 : Int32) < 0 ∨ cl6.slots.size ≤ ((1 : Int32)).toNatClampNeg) := inb_of Sz6 ⟨by decide, by decide⟩
  obtain ⟨T7, h7, X7, e7, W7, st7⟩ := stB X4 hx hZ e4 Ar6 (j := (1 : Int32)) hin6 (g := (mkF m 28 #[.val (.int p0), .val (.int p1), .val (.int p2), .val (.int (jrem (p2 &&& (2147483647 : Int32)) (9 : Int32))), .val (.ref b1), .unset, .unset] [(.int y5), (.int (1 : Int32)), (.ref b1)])) rfl rfl (hb hby at_28)
  have V7 : Arv Z h7 b1 k1 .byte (8 : Int32) [(.int (nar .byte y2)), (.int (nar .byte y5)), (.int (0 : Int32)), (.int (0 : Int32)), (.int (0 : Int32)), (.int (0 : Int32)), (.int (0 : Int32)), (.int (0 : Int32))] (.int (0 : Int32)) := Arv.set Ar6 ck6 Sz6 Nn6 Hs6 Gs6 (fits_nar_byte _) W7 1 rfl (Nat.le_of_ble_eq_true rfl)
  have N7 := Fr.snoc X7 N4 gg1
  have Z7 : n0 ≤ h7.size := by rw [W7.size]; exact Z4
  refine Go.st (fun _ k => st7 _ k) ?_
  show Go p e below _ (T7.setTop (mkF m 29 #[.val (.int p0), .val (.int p1), .val (.int p2), .val (.int (jrem (p2 &&& (2147483647 : Int32)) (9 : Int32))), .val (.ref b1), .unset, .unset] []))
  refine Go.st (fun _ k => XS.aload X7.here hx rfl (hb hby at_29) rfl rfl k) ?_
  refine Go.st (fun _ k => XS.iconst X7.here hx rfl (hb hby at_31) k) ?_
  show Go p e below _ (T7.setTop (mkF m 32 #[.val (.int p0), .val (.int p1), .val (.int p2), .val (.int (jrem (p2 &&& (2147483647 : Int32)) (9 : Int32))), .val (.ref b1), .unset, .unset] [(.int (2 : Int32)), (.ref b1)]))
  refine Go.st (fun _ k => XS.iloadN X7.here hx rfl (hb hby at_32) rfl k) ?_
  refine Go.st (fun _ k => XS.bipush X7.here hx rfl (hb hby at_33) k) ?_
  show Go p e below _ (T7.setTop (mkF m 35 #[.val (.int p0), .val (.int p1), .val (.int p2), .val (.int (jrem (p2 &&& (2147483647 : Int32)) (9 : Int32))), .val (.ref b1), .unset, .unset] [(.int (16 : Int32)), (.int p0), (.int (2 : Int32)), (.ref b1)]))
  refine Go.st (fun _ k => XS.iushr X7.here hx rfl (hb hby at_35) rfl k) ?_
  show Go p e below _ (T7.setTop (mkF m 36 #[.val (.int p0), .val (.int p1), .val (.int p2), .val (.int (jrem (p2 &&& (2147483647 : Int32)) (9 : Int32))), .val (.ref b1), .unset, .unset] [(.int ((p0.toUInt32 >>> ((16 : Int32) &&& 31).toUInt32).toInt32)), (.int (2 : Int32)), (.ref b1)]))
  refine Go.st (fun _ k => XS.i2b X7.here hx rfl (hb hby at_36) rfl k) ?_
  show Go p e below _ (T7.setTop (mkF m 37 #[.val (.int p0), .val (.int p1), .val (.int p2), .val (.int (jrem (p2 &&& (2147483647 : Int32)) (9 : Int32))), .val (.ref b1), .unset, .unset] [(.int (((p0.toUInt32 >>> ((16 : Int32) &&& 31).toUInt32).toInt32).toInt8.toInt32)), (.int (2 : Int32)), (.ref b1)]))
  generalize hy8 : (((p0.toUInt32 >>> ((16 : Int32) &&& 31).toUInt32).toInt32).toInt8.toInt32) = y8
  show Go p e below _ (T7.setTop (mkF m 37 #[.val (.int p0), .val (.int p1), .val (.int p2), .val (.int (jrem (p2 &&& (2147483647 : Int32)) (9 : Int32))), .val (.ref b1), .unset, .unset] [(.int y8), (.int (2 : Int32)), (.ref b1)]))
  obtain ⟨cl9, Ar9, ck9, Sz9, Nn9, Hs9, Gs9⟩ := id V7
  have hin9 : ¬ ((2 : Int32) < 0 ∨ cl9.slots.size ≤ ((2 : Int32)).toNatClampNeg) := inb_of Sz9 ⟨by decide, by decide⟩
  obtain ⟨T10, h10, X10, e10, W10, st10⟩ := stB X7 hx hZ e7 Ar9 (j := (2 : Int32)) hin9 (g := (mkF m 37 #[.val (.int p0), .val (.int p1), .val (.int p2), .val (.int (jrem (p2 &&& (2147483647 : Int32)) (9 : Int32))), .val (.ref b1), .unset, .unset] [(.int y8), (.int (2 : Int32)), (.ref b1)])) rfl rfl (hb hby at_37)
  have V10 : Arv Z h10 b1 k1 .byte (8 : Int32) [(.int (nar .byte y2)), (.int (nar .byte y5)), (.int (nar .byte y8)), (.int (0 : Int32)), (.int (0 : Int32)), (.int (0 : Int32)), (.int (0 : Int32)), (.int (0 : Int32))] (.int (0 : Int32)) := Arv.set Ar9 ck9 Sz9 Nn9 Hs9 Gs9 (fits_nar_byte _) W10 2 rfl (Nat.le_of_ble_eq_true rfl)
  have N10 := Fr.snoc X10 N7 gg1
  have Z10 : n0 ≤ h10.size := by rw [W10.size]; exact Z7
  refine Go.st (fun _ k => st10 _ k) ?_
  show Go p e below _ (T10.setTop (mkF m 38 #[.val (.int p0), .val (.int p1), .val (.int p2), .val (.int (jrem (p2 &&& (2147483647 : Int32)) (9 : Int32))), .val (.ref b1), .unset, .unset] []))
  refine Go.st (fun _ k => XS.aload X10.here hx rfl (hb hby at_38) rfl rfl k) ?_
  refine Go.st (fun _ k => XS.iconst X10.here hx rfl (hb hby at_40) k) ?_
  show Go p e below _ (T10.setTop (mkF m 41 #[.val (.int p0), .val (.int p1), .val (.int p2), .val (.int (jrem (p2 &&& (2147483647 : Int32)) (9 : Int32))), .val (.ref b1), .unset, .unset] [(.int (3 : Int32)), (.ref b1)]))
  refine Go.st (fun _ k => XS.iloadN X10.here hx rfl (hb hby at_41) rfl k) ?_
  refine Go.st (fun _ k => XS.bipush X10.here hx rfl (hb hby at_42) k) ?_
  show Go p e below _ (T10.setTop (mkF m 44 #[.val (.int p0), .val (.int p1), .val (.int p2), .val (.int (jrem (p2 &&& (2147483647 : Int32)) (9 : Int32))), .val (.ref b1), .unset, .unset] [(.int (24 : Int32)), (.int p0), (.int (3 : Int32)), (.ref b1)]))
  refine Go.st (fun _ k => XS.iushr X10.here hx rfl (hb hby at_44) rfl k) ?_
  show Go p e below _ (T10.setTop (mkF m 45 #[.val (.int p0), .val (.int p1), .val (.int p2), .val (.int (jrem (p2 &&& (2147483647 : Int32)) (9 : Int32))), .val (.ref b1), .unset, .unset] [(.int ((p0.toUInt32 >>> ((24 : Int32) &&& 31).toUInt32).toInt32)), (.int (3 : Int32)), (.ref b1)]))
  refine Go.st (fun _ k => XS.i2b X10.here hx rfl (hb hby at_45) rfl k) ?_
  show Go p e below _ (T10.setTop (mkF m 46 #[.val (.int p0), .val (.int p1), .val (.int p2), .val (.int (jrem (p2 &&& (2147483647 : Int32)) (9 : Int32))), .val (.ref b1), .unset, .unset] [(.int (((p0.toUInt32 >>> ((24 : Int32) &&& 31).toUInt32).toInt32).toInt8.toInt32)), (.int (3 : Int32)), (.ref b1)]))
  generalize hy11 : (((p0.toUInt32 >>> ((24 : Int32) &&& 31).toUInt32).toInt32).toInt8.toInt32) = y11
  show Go p e below _ (T10.setTop (mkF m 46 #[.val (.int p0), .val (.int p1), .val (.int p2), .val (.int (jrem (p2 &&& (2147483647 : Int32)) (9 : Int32))), .val (.ref b1), .unset, .unset] [(.int y11), (.int (3 : Int32)), (.ref b1)]))
  obtain ⟨cl12, Ar12, ck12, Sz12, Nn12, Hs12, Gs12⟩ := id V10
  have hin12 : ¬ ((3 : Int32) < 0 ∨ cl12.slots.size ≤ ((3 : Int32)).toNatClampNeg) := inb_of Sz12 ⟨by decide, by decide⟩
  obtain ⟨T13, h13, X13, e13, W13, st13⟩ := stB X10 hx hZ e10 Ar12 (j := (3 : Int32)) hin12 (g := (mkF m 46 #[.val (.int p0), .val (.int p1), .val (.int p2), .val (.int (jrem (p2 &&& (2147483647 : Int32)) (9 : Int32))), .val (.ref b1), .unset, .unset] [(.int y11), (.int (3 : Int32)), (.ref b1)])) rfl rfl (hb hby at_46)
  have V13 : Arv Z h13 b1 k1 .byte (8 : Int32) [(.int (nar .byte y2)), (.int (nar .byte y5)), (.int (nar .byte y8)), (.int (nar .byte y11)), (.int (0 : Int32)), (.int (0 : Int32)), (.int (0 : Int32)), (.int (0 : Int32))] (.int (0 : Int32)) := Arv.set Ar12 ck12 Sz12 Nn12 Hs12 Gs12 (fits_nar_byte _) W13 3 rfl (Nat.le_of_ble_eq_true rfl)
  have N13 := Fr.snoc X13 N10 gg1
  have Z13 : n0 ≤ h13.size := by rw [W13.size]; exact Z10
  refine Go.st (fun _ k => st13 _ k) ?_
  show Go p e below _ (T13.setTop (mkF m 47 #[.val (.int p0), .val (.int p1), .val (.int p2), .val (.int (jrem (p2 &&& (2147483647 : Int32)) (9 : Int32))), .val (.ref b1), .unset, .unset] []))
  refine Go.st (fun _ k => XS.aload X13.here hx rfl (hb hby at_47) rfl rfl k) ?_
  refine Go.st (fun _ k => XS.iconst X13.here hx rfl (hb hby at_49) k) ?_
  show Go p e below _ (T13.setTop (mkF m 50 #[.val (.int p0), .val (.int p1), .val (.int p2), .val (.int (jrem (p2 &&& (2147483647 : Int32)) (9 : Int32))), .val (.ref b1), .unset, .unset] [(.int (4 : Int32)), (.ref b1)]))
  refine Go.st (fun _ k => XS.iloadN X13.here hx rfl (hb hby at_50) rfl k) ?_
  refine Go.st (fun _ k => XS.i2b X13.here hx rfl (hb hby at_51) rfl k) ?_
  show Go p e below _ (T13.setTop (mkF m 52 #[.val (.int p0), .val (.int p1), .val (.int p2), .val (.int (jrem (p2 &&& (2147483647 : Int32)) (9 : Int32))), .val (.ref b1), .unset, .unset] [(.int (p1.toInt8.toInt32)), (.int (4 : Int32)), (.ref b1)]))
  generalize hy14 : (p1.toInt8.toInt32) = y14
  show Go p e below _ (T13.setTop (mkF m 52 #[.val (.int p0), .val (.int p1), .val (.int p2), .val (.int (jrem (p2 &&& (2147483647 : Int32)) (9 : Int32))), .val (.ref b1), .unset, .unset] [(.int y14), (.int (4 : Int32)), (.ref b1)]))
  obtain ⟨cl15, Ar15, ck15, Sz15, Nn15, Hs15, Gs15⟩ := id V13
  have hin15 : ¬ ((4 : Int32) < 0 ∨ cl15.slots.size ≤ ((4 : Int32)).toNatClampNeg) := inb_of Sz15 ⟨by decide, by decide⟩
  obtain ⟨T16, h16, X16, e16, W16, st16⟩ := stB X13 hx hZ e13 Ar15 (j := (4 : Int32)) hin15 (g := (mkF m 52 #[.val (.int p0), .val (.int p1), .val (.int p2), .val (.int (jrem (p2 &&& (2147483647 : Int32)) (9 : Int32))), .val (.ref b1), .unset, .unset] [(.int y14), (.int (4 : Int32)), (.ref b1)])) rfl rfl (hb hby at_52)
  have V16 : Arv Z h16 b1 k1 .byte (8 : Int32) [(.int (nar .byte y2)), (.int (nar .byte y5)), (.int (nar .byte y8)), (.int (nar .byte y11)), (.int (nar .byte y14)), (.int (0 : Int32)), (.int (0 : Int32)), (.int (0 : Int32))] (.int (0 : Int32)) := Arv.set Ar15 ck15 Sz15 Nn15 Hs15 Gs15 (fits_nar_byte _) W16 4 rfl (Nat.le_of_ble_eq_true rfl)
  have N16 := Fr.snoc X16 N13 gg1
  have Z16 : n0 ≤ h16.size := by rw [W16.size]; exact Z13
  refine Go.st (fun _ k => st16 _ k) ?_
  show Go p e below _ (T16.setTop (mkF m 53 #[.val (.int p0), .val (.int p1), .val (.int p2), .val (.int (jrem (p2 &&& (2147483647 : Int32)) (9 : Int32))), .val (.ref b1), .unset, .unset] []))
  refine Go.st (fun _ k => XS.aload X16.here hx rfl (hb hby at_53) rfl rfl k) ?_
  refine Go.st (fun _ k => XS.iconst X16.here hx rfl (hb hby at_55) k) ?_
  show Go p e below _ (T16.setTop (mkF m 56 #[.val (.int p0), .val (.int p1), .val (.int p2), .val (.int (jrem (p2 &&& (2147483647 : Int32)) (9 : Int32))), .val (.ref b1), .unset, .unset] [(.int (5 : Int32)), (.ref b1)]))
  refine Go.st (fun _ k => XS.iloadN X16.here hx rfl (hb hby at_56) rfl k) ?_
  refine Go.st (fun _ k => XS.bipush X16.here hx rfl (hb hby at_57) k) ?_
  show Go p e below _ (T16.setTop (mkF m 59 #[.val (.int p0), .val (.int p1), .val (.int p2), .val (.int (jrem (p2 &&& (2147483647 : Int32)) (9 : Int32))), .val (.ref b1), .unset, .unset] [(.int (8 : Int32)), (.int p1), (.int (5 : Int32)), (.ref b1)]))
  refine Go.st (fun _ k => XS.iushr X16.here hx rfl (hb hby at_59) rfl k) ?_
  show Go p e below _ (T16.setTop (mkF m 60 #[.val (.int p0), .val (.int p1), .val (.int p2), .val (.int (jrem (p2 &&& (2147483647 : Int32)) (9 : Int32))), .val (.ref b1), .unset, .unset] [(.int ((p1.toUInt32 >>> ((8 : Int32) &&& 31).toUInt32).toInt32)), (.int (5 : Int32)), (.ref b1)]))
  refine Go.st (fun _ k => XS.i2b X16.here hx rfl (hb hby at_60) rfl k) ?_
  show Go p e below _ (T16.setTop (mkF m 61 #[.val (.int p0), .val (.int p1), .val (.int p2), .val (.int (jrem (p2 &&& (2147483647 : Int32)) (9 : Int32))), .val (.ref b1), .unset, .unset] [(.int (((p1.toUInt32 >>> ((8 : Int32) &&& 31).toUInt32).toInt32).toInt8.toInt32)), (.int (5 : Int32)), (.ref b1)]))
  generalize hy17 : (((p1.toUInt32 >>> ((8 : Int32) &&& 31).toUInt32).toInt32).toInt8.toInt32) = y17
  show Go p e below _ (T16.setTop (mkF m 61 #[.val (.int p0), .val (.int p1), .val (.int p2), .val (.int (jrem (p2 &&& (2147483647 : Int32)) (9 : Int32))), .val (.ref b1), .unset, .unset] [(.int y17), (.int (5 : Int32)), (.ref b1)]))
  obtain ⟨cl18, Ar18, ck18, Sz18, Nn18, Hs18, Gs18⟩ := id V16
  have hin18 : ¬ ((5 : Int32) < 0 ∨ cl18.slots.size ≤ ((5 : Int32)).toNatClampNeg) := inb_of Sz18 ⟨by decide, by decide⟩
  obtain ⟨T19, h19, X19, e19, W19, st19⟩ := stB X16 hx hZ e16 Ar18 (j := (5 : Int32)) hin18 (g := (mkF m 61 #[.val (.int p0), .val (.int p1), .val (.int p2), .val (.int (jrem (p2 &&& (2147483647 : Int32)) (9 : Int32))), .val (.ref b1), .unset, .unset] [(.int y17), (.int (5 : Int32)), (.ref b1)])) rfl rfl (hb hby at_61)
  have V19 : Arv Z h19 b1 k1 .byte (8 : Int32) [(.int (nar .byte y2)), (.int (nar .byte y5)), (.int (nar .byte y8)), (.int (nar .byte y11)), (.int (nar .byte y14)), (.int (nar .byte y17)), (.int (0 : Int32)), (.int (0 : Int32))] (.int (0 : Int32)) := Arv.set Ar18 ck18 Sz18 Nn18 Hs18 Gs18 (fits_nar_byte _) W19 5 rfl (Nat.le_of_ble_eq_true rfl)
  have N19 := Fr.snoc X19 N16 gg1
  have Z19 : n0 ≤ h19.size := by rw [W19.size]; exact Z16
  refine Go.st (fun _ k => st19 _ k) ?_
  show Go p e below _ (T19.setTop (mkF m 62 #[.val (.int p0), .val (.int p1), .val (.int p2), .val (.int (jrem (p2 &&& (2147483647 : Int32)) (9 : Int32))), .val (.ref b1), .unset, .unset] []))
  refine Go.st (fun _ k => XS.aload X19.here hx rfl (hb hby at_62) rfl rfl k) ?_
  refine Go.st (fun _ k => XS.bipush X19.here hx rfl (hb hby at_64) k) ?_
  show Go p e below _ (T19.setTop (mkF m 66 #[.val (.int p0), .val (.int p1), .val (.int p2), .val (.int (jrem (p2 &&& (2147483647 : Int32)) (9 : Int32))), .val (.ref b1), .unset, .unset] [(.int (6 : Int32)), (.ref b1)]))
  refine Go.st (fun _ k => XS.iloadN X19.here hx rfl (hb hby at_66) rfl k) ?_
  refine Go.st (fun _ k => XS.bipush X19.here hx rfl (hb hby at_67) k) ?_
  show Go p e below _ (T19.setTop (mkF m 69 #[.val (.int p0), .val (.int p1), .val (.int p2), .val (.int (jrem (p2 &&& (2147483647 : Int32)) (9 : Int32))), .val (.ref b1), .unset, .unset] [(.int (16 : Int32)), (.int p1), (.int (6 : Int32)), (.ref b1)]))
  refine Go.st (fun _ k => XS.iushr X19.here hx rfl (hb hby at_69) rfl k) ?_
  show Go p e below _ (T19.setTop (mkF m 70 #[.val (.int p0), .val (.int p1), .val (.int p2), .val (.int (jrem (p2 &&& (2147483647 : Int32)) (9 : Int32))), .val (.ref b1), .unset, .unset] [(.int ((p1.toUInt32 >>> ((16 : Int32) &&& 31).toUInt32).toInt32)), (.int (6 : Int32)), (.ref b1)]))
  refine Go.st (fun _ k => XS.i2b X19.here hx rfl (hb hby at_70) rfl k) ?_
  show Go p e below _ (T19.setTop (mkF m 71 #[.val (.int p0), .val (.int p1), .val (.int p2), .val (.int (jrem (p2 &&& (2147483647 : Int32)) (9 : Int32))), .val (.ref b1), .unset, .unset] [(.int (((p1.toUInt32 >>> ((16 : Int32) &&& 31).toUInt32).toInt32).toInt8.toInt32)), (.int (6 : Int32)), (.ref b1)]))
  generalize hy20 : (((p1.toUInt32 >>> ((16 : Int32) &&& 31).toUInt32).toInt32).toInt8.toInt32) = y20
  show Go p e below _ (T19.setTop (mkF m 71 #[.val (.int p0), .val (.int p1), .val (.int p2), .val (.int (jrem (p2 &&& (2147483647 : Int32)) (9 : Int32))), .val (.ref b1), .unset, .unset] [(.int y20), (.int (6 : Int32)), (.ref b1)]))
  obtain ⟨cl21, Ar21, ck21, Sz21, Nn21, Hs21, Gs21⟩ := id V19
  have hin21 : ¬ ((6 : Int32) < 0 ∨ cl21.slots.size ≤ ((6 : Int32)).toNatClampNeg) := inb_of Sz21 ⟨by decide, by decide⟩
  obtain ⟨T22, h22, X22, e22, W22, st22⟩ := stB X19 hx hZ e19 Ar21 (j := (6 : Int32)) hin21 (g := (mkF m 71 #[.val (.int p0), .val (.int p1), .val (.int p2), .val (.int (jrem (p2 &&& (2147483647 : Int32)) (9 : Int32))), .val (.ref b1), .unset, .unset] [(.int y20), (.int (6 : Int32)), (.ref b1)])) rfl rfl (hb hby at_71)
  have V22 : Arv Z h22 b1 k1 .byte (8 : Int32) [(.int (nar .byte y2)), (.int (nar .byte y5)), (.int (nar .byte y8)), (.int (nar .byte y11)), (.int (nar .byte y14)), (.int (nar .byte y17)), (.int (nar .byte y20)), (.int (0 : Int32))] (.int (0 : Int32)) := Arv.set Ar21 ck21 Sz21 Nn21 Hs21 Gs21 (fits_nar_byte _) W22 6 rfl (Nat.le_of_ble_eq_true rfl)
  have N22 := Fr.snoc X22 N19 gg1
  have Z22 : n0 ≤ h22.size := by rw [W22.size]; exact Z19
  refine Go.st (fun _ k => st22 _ k) ?_
  show Go p e below _ (T22.setTop (mkF m 72 #[.val (.int p0), .val (.int p1), .val (.int p2), .val (.int (jrem (p2 &&& (2147483647 : Int32)) (9 : Int32))), .val (.ref b1), .unset, .unset] []))
  refine Go.st (fun _ k => XS.aload X22.here hx rfl (hb hby at_72) rfl rfl k) ?_
  refine Go.st (fun _ k => XS.bipush X22.here hx rfl (hb hby at_74) k) ?_
  show Go p e below _ (T22.setTop (mkF m 76 #[.val (.int p0), .val (.int p1), .val (.int p2), .val (.int (jrem (p2 &&& (2147483647 : Int32)) (9 : Int32))), .val (.ref b1), .unset, .unset] [(.int (7 : Int32)), (.ref b1)]))
  refine Go.st (fun _ k => XS.iloadN X22.here hx rfl (hb hby at_76) rfl k) ?_
  refine Go.st (fun _ k => XS.bipush X22.here hx rfl (hb hby at_77) k) ?_
  show Go p e below _ (T22.setTop (mkF m 79 #[.val (.int p0), .val (.int p1), .val (.int p2), .val (.int (jrem (p2 &&& (2147483647 : Int32)) (9 : Int32))), .val (.ref b1), .unset, .unset] [(.int (24 : Int32)), (.int p1), (.int (7 : Int32)), (.ref b1)]))
  refine Go.st (fun _ k => XS.iushr X22.here hx rfl (hb hby at_79) rfl k) ?_
  show Go p e below _ (T22.setTop (mkF m 80 #[.val (.int p0), .val (.int p1), .val (.int p2), .val (.int (jrem (p2 &&& (2147483647 : Int32)) (9 : Int32))), .val (.ref b1), .unset, .unset] [(.int ((p1.toUInt32 >>> ((24 : Int32) &&& 31).toUInt32).toInt32)), (.int (7 : Int32)), (.ref b1)]))
  refine Go.st (fun _ k => XS.i2b X22.here hx rfl (hb hby at_80) rfl k) ?_
  show Go p e below _ (T22.setTop (mkF m 81 #[.val (.int p0), .val (.int p1), .val (.int p2), .val (.int (jrem (p2 &&& (2147483647 : Int32)) (9 : Int32))), .val (.ref b1), .unset, .unset] [(.int (((p1.toUInt32 >>> ((24 : Int32) &&& 31).toUInt32).toInt32).toInt8.toInt32)), (.int (7 : Int32)), (.ref b1)]))
  generalize hy23 : (((p1.toUInt32 >>> ((24 : Int32) &&& 31).toUInt32).toInt32).toInt8.toInt32) = y23
  show Go p e below _ (T22.setTop (mkF m 81 #[.val (.int p0), .val (.int p1), .val (.int p2), .val (.int (jrem (p2 &&& (2147483647 : Int32)) (9 : Int32))), .val (.ref b1), .unset, .unset] [(.int y23), (.int (7 : Int32)), (.ref b1)]))
  obtain ⟨cl24, Ar24, ck24, Sz24, Nn24, Hs24, Gs24⟩ := id V22
  have hin24 : ¬ ((7 : Int32) < 0 ∨ cl24.slots.size ≤ ((7 : Int32)).toNatClampNeg) := inb_of Sz24 ⟨by decide, by decide⟩
  obtain ⟨T25, h25, X25, e25, W25, st25⟩ := stB X22 hx hZ e22 Ar24 (j := (7 : Int32)) hin24 (g := (mkF m 81 #[.val (.int p0), .val (.int p1), .val (.int p2), .val (.int (jrem (p2 &&& (2147483647 : Int32)) (9 : Int32))), .val (.ref b1), .unset, .unset] [(.int y23), (.int (7 : Int32)), (.ref b1)])) rfl rfl (hb hby at_81)
  have V25 : Arv Z h25 b1 k1 .byte (8 : Int32) [(.int (nar .byte y2)), (.int (nar .byte y5)), (.int (nar .byte y8)), (.int (nar .byte y11)), (.int (nar .byte y14)), (.int (nar .byte y17)), (.int (nar .byte y20)), (.int (nar .byte y23))] (.int (0 : Int32)) := Arv.set Ar24 ck24 Sz24 Nn24 Hs24 Gs24 (fits_nar_byte _) W25 7 rfl (Nat.le_of_ble_eq_true rfl)
  have N25 := Fr.snoc X25 N22 gg1
  have Z25 : n0 ≤ h25.size := by rw [W25.size]; exact Z22
  refine Go.st (fun _ k => st25 _ k) ?_
  show Go p e below _ (T25.setTop (mkF m 82 #[.val (.int p0), .val (.int p1), .val (.int p2), .val (.int (jrem (p2 &&& (2147483647 : Int32)) (9 : Int32))), .val (.ref b1), .unset, .unset] []))
  rcases own_nine p2 with hr26 | hr26 | hr26 | hr26 | hr26 | hr26 | hr26 | hr26 | hr26
  · rw [hr26]
    show Go p e below _ (T25.setTop (mkF m 82 #[.val (.int p0), .val (.int p1), .val (.int p2), .val (.int (0 : Int32)), .val (.ref b1), .unset, .unset] []))
    refine Go.st (fun _ k => XS.iloadN X25.here hx rfl (hb hby at_82) rfl k) ?_
    show Go p e below _ (T25.setTop (mkF m 83 #[.val (.int p0), .val (.int p1), .val (.int p2), .val (.int (0 : Int32)), .val (.ref b1), .unset, .unset] [(.int (0 : Int32))]))
    obtain ⟨T27, h27, k27, X27, e27, E27, A27, st27⟩ := newP X25 hx hZ (hw _ (List.mem_of_getElem? (i := 1) rfl)) e25 (g := (mkF m 83 #[.val (.int p0), .val (.int p1), .val (.int p2), .val (.int (0 : Int32)), .val (.ref b1), .unset, .unset] [(.int (0 : Int32))])) rfl (hb hby at_83) rfl (by decide) (cap := 0) (by decide) (by decide) (by decide) (by decide)
    obtain ⟨b27, g27⟩ : ∃ z, z = h25.size := ⟨_, rfl⟩
    have ne27_b1 : b1 ≠ b27 := Nat.ne_of_lt (Nat.lt_of_lt_of_le V25.lt (Nat.le_of_eq g27.symm))
    have gg27 : n0 ≤ b27 := Nat.le_trans Z25 (Nat.le_of_eq g27.symm)
    rw [← g27] at A27 st27
    have F27_V_b1 := V25.ext E27
    have Z27 : n0 ≤ h27.size := Nat.le_trans Z25 E27.1
    have V27 : Arv Z h27 b27 k27 .byte (0 : Int32) [] (.int (0 : Int32)) := (Arv.new A27 (by decide)).pad (pad_rep [] (.int (0 : Int32)) 0)
    refine Go.st (fun _ k => st27 _ k) ?_
    show Go p e below _ (T27.setTop (mkF m 85 #[.val (.int p0), .val (.int p1), .val (.int p2), .val (.int (0 : Int32)), .val (.ref b1), .unset, .unset] [(.ref b27)]))
    refine Go.st (fun _ k => XS.astore X27.here hx rfl (hb hby at_85) rfl rfl (l' := #[.val (.int p0), .val (.int p1), .val (.int p2), .val (.int (0 : Int32)), .val (.ref b1), .val (.ref b27), .unset]) rfl k) ?_
    show Go p e below _ (T27.setTop (mkF m 87 #[.val (.int p0), .val (.int p1), .val (.int p2), .val (.int (0 : Int32)), .val (.ref b1), .val (.ref b27), .unset] []))
    refine Go.st (fun _ k => XS.iloadN X27.here hx rfl (hb hby at_87) rfl k) ?_
    refine Go.st (fun _ k => XS.ifYes X27.here hx rfl (pc0 := 88) (pc' := 99) rfl (hb hby at_88) rfl ((if0 _ _).trans (flt (by decide : ¬ ((0 : Int32) < (0 : Int32)))).2.2.2) (by decide) (by decide) k) ?_
    show Go p e below _ (T27.setTop (mkF m 99 #[.val (.int p0), .val (.int p1), .val (.int p2), .val (.int (0 : Int32)), .val (.ref b1), .val (.ref b27), .unset] []))
    refine Go.st (fun _ k => XS.iloadN X27.here hx rfl (hb hby at_99) rfl k) ?_
    refine Go.st (fun _ k => XS.iconst X27.here hx rfl (hb hby at_100) k) ?_
    show Go p e below _ (T27.setTop (mkF m 101 #[.val (.int p0), .val (.int p1), .val (.int p2), .val (.int (0 : Int32)), .val (.ref b1), .val (.ref b27), .unset] [(.int (1 : Int32)), (.int (0 : Int32))]))
    refine Go.st (fun _ k => XS.icmpYes X27.here hx rfl (pc0 := 101) (pc' := 112) rfl (hb hby at_101) rfl (flt (by decide : ¬ ((1 : Int32) < (0 : Int32)))).2.2.2 (by decide) (by decide) k) ?_
    show Go p e below _ (T27.setTop (mkF m 112 #[.val (.int p0), .val (.int p1), .val (.int p2), .val (.int (0 : Int32)), .val (.ref b1), .val (.ref b27), .unset] []))
    refine Go.st (fun _ k => XS.iloadN X27.here hx rfl (hb hby at_112) rfl k) ?_
    refine Go.st (fun _ k => XS.iconst X27.here hx rfl (hb hby at_113) k) ?_
    show Go p e below _ (T27.setTop (mkF m 114 #[.val (.int p0), .val (.int p1), .val (.int p2), .val (.int (0 : Int32)), .val (.ref b1), .val (.ref b27), .unset] [(.int (2 : Int32)), (.int (0 : Int32))]))
    refine Go.st (fun _ k => XS.icmpYes X27.here hx rfl (pc0 := 114) (pc' := 125) rfl (hb hby at_114) rfl (flt (by decide : ¬ ((2 : Int32) < (0 : Int32)))).2.2.2 (by decide) (by decide) k) ?_
    show Go p e below _ (T27.setTop (mkF m 125 #[.val (.int p0), .val (.int p1), .val (.int p2), .val (.int (0 : Int32)), .val (.ref b1), .val (.ref b27), .unset] []))
    refine Go.st (fun _ k => XS.iloadN X27.here hx rfl (hb hby at_125) rfl k) ?_
    refine Go.st (fun _ k => XS.iconst X27.here hx rfl (hb hby at_126) k) ?_
    show Go p e below _ (T27.setTop (mkF m 127 #[.val (.int p0), .val (.int p1), .val (.int p2), .val (.int (0 : Int32)), .val (.ref b1), .val (.ref b27), .unset] [(.int (3 : Int32)), (.int (0 : Int32))]))
    refine Go.st (fun _ k => XS.icmpYes X27.here hx rfl (pc0 := 127) (pc' := 138) rfl (hb hby at_127) rfl (flt (by decide : ¬ ((3 : Int32) < (0 : Int32)))).2.2.2 (by decide) (by decide) k) ?_
    show Go p e below _ (T27.setTop (mkF m 138 #[.val (.int p0), .val (.int p1), .val (.int p2), .val (.int (0 : Int32)), .val (.ref b1), .val (.ref b27), .unset] []))
    refine Go.st (fun _ k => XS.iloadN X27.here hx rfl (hb hby at_138) rfl k) ?_
    refine Go.st (fun _ k => XS.iconst X27.here hx rfl (hb hby at_139) k) ?_
    show Go p e below _ (T27.setTop (mkF m 140 #[.val (.int p0), .val (.int p1), .val (.int p2), .val (.int (0 : Int32)), .val (.ref b1), .val (.ref b27), .unset] [(.int (4 : Int32)), (.int (0 : Int32))]))
    refine Go.st (fun _ k => XS.icmpYes X27.here hx rfl (pc0 := 140) (pc' := 151) rfl (hb hby at_140) rfl (flt (by decide : ¬ ((4 : Int32) < (0 : Int32)))).2.2.2 (by decide) (by decide) k) ?_
    show Go p e below _ (T27.setTop (mkF m 151 #[.val (.int p0), .val (.int p1), .val (.int p2), .val (.int (0 : Int32)), .val (.ref b1), .val (.ref b27), .unset] []))
    refine Go.st (fun _ k => XS.iloadN X27.here hx rfl (hb hby at_151) rfl k) ?_
    refine Go.st (fun _ k => XS.iconst X27.here hx rfl (hb hby at_152) k) ?_
    show Go p e below _ (T27.setTop (mkF m 153 #[.val (.int p0), .val (.int p1), .val (.int p2), .val (.int (0 : Int32)), .val (.ref b1), .val (.ref b27), .unset] [(.int (5 : Int32)), (.int (0 : Int32))]))
    refine Go.st (fun _ k => XS.icmpYes X27.here hx rfl (pc0 := 153) (pc' := 164) rfl (hb hby at_153) rfl (flt (by decide : ¬ ((5 : Int32) < (0 : Int32)))).2.2.2 (by decide) (by decide) k) ?_
    show Go p e below _ (T27.setTop (mkF m 164 #[.val (.int p0), .val (.int p1), .val (.int p2), .val (.int (0 : Int32)), .val (.ref b1), .val (.ref b27), .unset] []))
    refine Go.st (fun _ k => XS.iloadN X27.here hx rfl (hb hby at_164) rfl k) ?_
    refine Go.st (fun _ k => XS.bipush X27.here hx rfl (hb hby at_165) k) ?_
    show Go p e below _ (T27.setTop (mkF m 167 #[.val (.int p0), .val (.int p1), .val (.int p2), .val (.int (0 : Int32)), .val (.ref b1), .val (.ref b27), .unset] [(.int (6 : Int32)), (.int (0 : Int32))]))
    refine Go.st (fun _ k => XS.icmpYes X27.here hx rfl (pc0 := 167) (pc' := 180) rfl (hb hby at_167) rfl (flt (by decide : ¬ ((6 : Int32) < (0 : Int32)))).2.2.2 (by decide) (by decide) k) ?_
    show Go p e below _ (T27.setTop (mkF m 180 #[.val (.int p0), .val (.int p1), .val (.int p2), .val (.int (0 : Int32)), .val (.ref b1), .val (.ref b27), .unset] []))
    refine Go.st (fun _ k => XS.iloadN X27.here hx rfl (hb hby at_180) rfl k) ?_
    refine Go.st (fun _ k => XS.bipush X27.here hx rfl (hb hby at_181) k) ?_
    show Go p e below _ (T27.setTop (mkF m 183 #[.val (.int p0), .val (.int p1), .val (.int p2), .val (.int (0 : Int32)), .val (.ref b1), .val (.ref b27), .unset] [(.int (7 : Int32)), (.int (0 : Int32))]))
    refine Go.st (fun _ k => XS.icmpYes X27.here hx rfl (pc0 := 183) (pc' := 196) rfl (hb hby at_183) rfl (flt (by decide : ¬ ((7 : Int32) < (0 : Int32)))).2.2.2 (by decide) (by decide) k) ?_
    show Go p e below _ (T27.setTop (mkF m 196 #[.val (.int p0), .val (.int p1), .val (.int p2), .val (.int (0 : Int32)), .val (.ref b1), .val (.ref b27), .unset] []))
    refine Go.st (fun _ k => XS.aload X27.here hx rfl (hb hby at_196) rfl rfl k) ?_
    refine Go.st (fun _ k => XS.iloadN X27.here hx rfl (hb hby at_198) rfl k) ?_
    show Go p e below _ (T27.setTop (mkF m 199 #[.val (.int p0), .val (.int p1), .val (.int p2), .val (.int (0 : Int32)), .val (.ref b1), .val (.ref b27), .unset] [(.int (0 : Int32)), (.ref b27)]))
    obtain ⟨_, _, ⟨T28, L28, k28, n28⟩, -, X28, ⟨Lc28, hQ28, l28, y28, z28⟩, st28⟩ := Jvm.LawKit.callS X27 hx (y := (⟨"com/example/apportis/apportis/Utf8FirstInvalidPinLaw", "reference", "([BI)I"⟩ : MethodName)) hown (mvT hZ (hw _ (List.mem_of_getElem? (i := 2) rfl))) (mvT hZ (hw _ (List.mem_of_getElem? (i := 3) rfl))) (mvT hZ (hw _ (List.mem_of_getElem? (i := 4) rfl))) (mvT hZ (hw _ (List.mem_of_getElem? (i := 5) rfl))) (by decide) (backOf (W := 0) (rmRef l Z aZ hw [] b27 (0 : Int32) k27 [] h27 n0 (by decide) (own_byt0 ) (by decide) (own_int0 ) V27) hZ (hw _ (List.mem_of_getElem? (i := 5) rfl)) (hw _ (List.mem_of_getElem? (i := 4) rfl)) (by decide) (by decide)) (g := (mkF m 199 #[.val (.int p0), .val (.int p1), .val (.int p2), .val (.int (0 : Int32)), .val (.ref b1), .val (.ref b27), .unset] [(.int (0 : Int32)), (.ref b27)])) rfl (by rw [hml]; rfl) (argsL := [(.ref b27), (.int (0 : Int32))]) (rest := []) (lenOf pd92f6cd8e rfl) rfl (by show 2 * 0 + _ ≤ _; exact Nat.le_of_eq rfl) (hb hby at_199) (fun _ _ => ⟨rfl, e27, (by decide : 2 + 0 ≤ _), (by decide : 8 + 0 ≤ _)⟩)
    dsimp only [Pt.U, Pt.locs, Pt.cells, Pt.slots] at X28 l28 y28 z28 st28 hQ28
    subst l28 y28 z28
    obtain ⟨rfl, N28q, e28⟩ := hQ28
    have N28 := Fr.app N25 N28q
    refine Go.st (fun _ k => st28 _ k) ?_
    show Go p e below _ (T28.setTop (mkF m 202 #[.val (.int p0), .val (.int p1), .val (.int p2), .val (.int (0 : Int32)), .val (.ref b1), .val (.ref b27), .unset] [(.int (own_scan [] (0 : Int32) 8 0))]))
    refine Go.st (fun _ k => XS.istore X28.here hx rfl (hb hby at_202) rfl (l' := #[.val (.int p0), .val (.int p1), .val (.int p2), .val (.int (0 : Int32)), .val (.ref b1), .val (.ref b27), .val (.int (own_scan [] (0 : Int32) 8 0))]) rfl k) ?_
    show Go p e below _ (T28.setTop (mkF m 204 #[.val (.int p0), .val (.int p1), .val (.int p2), .val (.int (0 : Int32)), .val (.ref b1), .val (.ref b27), .val (.int (own_scan [] (0 : Int32) 8 0))] []))
    refine Go.st (fun _ k => XS.aload X28.here hx rfl (hb hby at_204) rfl rfl k) ?_
    show Go p e below _ (T28.setTop (mkF m 206 #[.val (.int p0), .val (.int p1), .val (.int p2), .val (.int (0 : Int32)), .val (.ref b1), .val (.ref b27), .val (.int (own_scan [] (0 : Int32) 8 0))] [(.ref b27)]))
    obtain ⟨_, _, ⟨T29, L29, k29, n29⟩, -, X29, ⟨Lc29, hQ29, l29, y29, z29⟩, st29⟩ := Jvm.LawKit.callS X28 hx (y := (⟨"com/example/apportis/apportis/Utf8", "firstInvalid", "([B)I"⟩ : MethodName)) hown (mvT hZ (hw _ (List.mem_of_getElem? (i := 9) rfl))) (mvT hZ (hw _ (List.mem_of_getElem? (i := 10) rfl))) (mvT hZ (hw _ (List.mem_of_getElem? (i := 11) rfl))) (mvT hZ (hw _ (List.mem_of_getElem? (i := 12) rfl))) (by decide) (backOf (W := 0) (rmFI l Z aZ hw [] b27 k27 (0 : Int32) [] h27 n0 (by decide) (own_byt0 ) (by decide) (own_int0 ) V27) hZ (hw _ (List.mem_of_getElem? (i := 12) rfl)) (hw _ (List.mem_of_getElem? (i := 11) rfl)) (by decide) (by decide)) (g := (mkF m 206 #[.val (.int p0), .val (.int p1), .val (.int p2), .val (.int (0 : Int32)), .val (.ref b1), .val (.ref b27), .val (.int (own_scan [] (0 : Int32) 8 0))] [(.ref b27)])) rfl (by rw [hml]; rfl) (argsL := [(.ref b27)]) (rest := []) (lenOf pdca677057 rfl) rfl (by show 2 * 0 + _ ≤ _; exact Nat.le_of_eq rfl) (hb hby at_206) (fun _ _ => ⟨rfl, e28, (by decide : 2 + 0 ≤ _), (by decide : 8 + 0 ≤ _)⟩)
    dsimp only [Pt.U, Pt.locs, Pt.cells, Pt.slots] at X29 l29 y29 z29 st29 hQ29
    subst l29 y29 z29
    obtain ⟨rfl, N29q, e29⟩ := hQ29
    have N29 := Fr.app N28 N29q
    refine Go.st (fun _ k => st29 _ k) ?_
    show Go p e below _ (T29.setTop (mkF m 209 #[.val (.int p0), .val (.int p1), .val (.int p2), .val (.int (0 : Int32)), .val (.ref b1), .val (.ref b27), .val (.int (own_scan [] (0 : Int32) 8 0))] [(.int (own_scan [] (0 : Int32) ((0 : Int32).toInt.toNat + 1) 0))]))
    refine Go.st (fun _ k => XS.iload X29.here hx rfl (hb hby at_209) rfl k) ?_
    refine Go.st (fun _ k => XS.icmpNo X29.here hx rfl (hb hby at_211) rfl (teq (own_fuel (own_byt0 ) (by decide) (by decide) (by decide))).2 k) ?_
    show Go p e below _ (T29.setTop (mkF m 214 #[.val (.int p0), .val (.int p1), .val (.int p2), .val (.int (0 : Int32)), .val (.ref b1), .val (.ref b27), .val (.int (own_scan [] (0 : Int32) 8 0))] []))
    refine Go.st (fun _ k => XS.iconst X29.here hx rfl (hb hby at_214) k) ?_
    refine Go.st (fun _ k => XS.goto X29.here hx rfl (pc0 := 215) (pc' := 219) rfl (hb hby at_215) (by decide) (by decide) k) ?_
    show Go p e below _ (T29.setTop (mkF m 219 #[.val (.int p0), .val (.int p1), .val (.int p2), .val (.int (0 : Int32)), .val (.ref b1), .val (.ref b27), .val (.int (own_scan [] (0 : Int32) 8 0))] [(.int (1 : Int32))]))
    obtain ⟨fs, hr, hrun, hended, hW, hsame⟩ := X29.leave (v := some (.int (1 : Int32))) (fun h => by rw [Bd.returns] at h; cases h)
    refine ⟨_, _, retN X29 hx (t := .boolean) Bd.returns (by simp) (hb hby at_219) hr, hrun, hended, _, _, rfl, ?_, ⟨_, rfl⟩, hW, hsame.mono (by decide) (by decide)⟩
    show Q_rm0 Z p0 p1 p2 h0 n0 _ T29.heap _
    rw [e29]
    exact ⟨rfl, N29⟩
  · rw [hr26]
    show Go p e below _ (T25.setTop (mkF m 82 #[.val (.int p0), .val (.int p1), .val (.int p2), .val (.int (1 : Int32)), .val (.ref b1), .unset, .unset] []))
    refine Go.st (fun _ k => XS.iloadN X25.here hx rfl (hb hby at_82) rfl k) ?_
    show Go p e below _ (T25.setTop (mkF m 83 #[.val (.int p0), .val (.int p1), .val (.int p2), .val (.int (1 : Int32)), .val (.ref b1), .unset, .unset] [(.int (1 : Int32))]))
    obtain ⟨T30, h30, k30, X30, e30, E30, A30, st30⟩ := newP X25 hx hZ (hw _ (List.mem_of_getElem? (i := 1) rfl)) e25 (g := (mkF m 83 #[.val (.int p0), .val (.int p1), .val (.int p2), .val (.int (1 : Int32)), .val (.ref b1), .unset, .unset] [(.int (1 : Int32))])) rfl (hb hby at_83) rfl (by decide) (cap := 1) (by decide) (by decide) (by decide) (by decide)
    obtain ⟨b30, g30⟩ : ∃ z, z = h25.size := ⟨_, rfl⟩
    have ne30_b1 : b1 ≠ b30 := Nat.ne_of_lt (Nat.lt_of_lt_of_le V25.lt (Nat.le_of_eq g30.symm))
    have gg30 : n0 ≤ b30 := Nat.le_trans Z25 (Nat.le_of_eq g30.symm)
    rw [← g30] at A30 st30
    have F30_V_b1 := V25.ext E30
    have Z30 : n0 ≤ h30.size := Nat.le_trans Z25 E30.1
    have V30 : Arv Z h30 b30 k30 .byte (1 : Int32) [(.int (0 : Int32))] (.int (0 : Int32)) := (Arv.new A30 (by decide)).pad (pad_rep [] (.int (0 : Int32)) 1)
    refine Go.st (fun _ k => st30 _ k) ?_
    show Go p e below _ (T30.setTop (mkF m 85 #[.val (.int p0), .val (.int p1), .val (.int p2), .val (.int (1 : Int32)), .val (.ref b1), .unset, .unset] [(.ref b30)]))
    refine Go.st (fun _ k => XS.astore X30.here hx rfl (hb hby at_85) rfl rfl (l' := #[.val (.int p0), .val (.int p1), .val (.int p2), .val (.int (1 : Int32)), .val (.ref b1), .val (.ref b30), .unset]) rfl k) ?_
    show Go p e below _ (T30.setTop (mkF m 87 #[.val (.int p0), .val (.int p1), .val (.int p2), .val (.int (1 : Int32)), .val (.ref b1), .val (.ref b30), .unset] []))
    refine Go.st (fun _ k => XS.iloadN X30.here hx rfl (hb hby at_87) rfl k) ?_
    refine Go.st (fun _ k => XS.ifNo X30.here hx rfl (hb hby at_88) rfl ((if0 _ _).trans (tlt (by decide : ((0 : Int32) < (1 : Int32)))).2.2.2) k) ?_
    show Go p e below _ (T30.setTop (mkF m 91 #[.val (.int p0), .val (.int p1), .val (.int p2), .val (.int (1 : Int32)), .val (.ref b1), .val (.ref b30), .unset] []))
    refine Go.st (fun _ k => XS.aload X30.here hx rfl (hb hby at_91) rfl rfl k) ?_
    refine Go.st (fun _ k => XS.iconst X30.here hx rfl (hb hby at_93) k) ?_
    show Go p e below _ (T30.setTop (mkF m 94 #[.val (.int p0), .val (.int p1), .val (.int p2), .val (.int (1 : Int32)), .val (.ref b1), .val (.ref b30), .unset] [(.int (0 : Int32)), (.ref b30)]))
    refine Go.st (fun _ k => XS.aload X30.here hx rfl (hb hby at_94) rfl rfl k) ?_
    refine Go.st (fun _ k => XS.iconst X30.here hx rfl (hb hby at_96) k) ?_
    show Go p e below _ (T30.setTop (mkF m 97 #[.val (.int p0), .val (.int p1), .val (.int p2), .val (.int (1 : Int32)), .val (.ref b1), .val (.ref b30), .unset] [(.int (0 : Int32)), (.ref b1), (.int (0 : Int32)), (.ref b30)]))
    obtain ⟨cl31, Ar31, ck31, Sz31, Nn31, Hs31, Gs31⟩ := id F30_V_b1
    have hin31 : ¬ ((0 : Int32) < 0 ∨ cl31.slots.size ≤ ((0 : Int32)).toNatClampNeg) := inb_of Sz31 ⟨by decide, by decide⟩
    have hat31 : cl31.slots[((0 : Int32)).toNatClampNeg]? = some (.int (nar .byte y2)) := Hs31.at hin31 rfl
    refine Go.st (fun _ k => X30.baloadBytes hx (j := (0 : Int32)) (v := (.int (nar .byte y2))) (by rw [e30]; exact Ar31.1) (State.isArrayOf_alike hZ.alike Ar31.2.1) Ar31.2.2 hin31 hat31 (g := (mkF m 97 #[.val (.int p0), .val (.int p1), .val (.int p2), .val (.int (1 : Int32)), .val (.ref b1), .val (.ref b30), .unset] [(.int (0 : Int32)), (.ref b1), (.int (0 : Int32)), (.ref b30)])) rfl rfl (hb hby at_97) _ k) ?_
    show Go p e below _ (T30.setTop (mkF m 98 #[.val (.int p0), .val (.int p1), .val (.int p2), .val (.int (1 : Int32)), .val (.ref b1), .val (.ref b30), .unset] [(.int (nar .byte y2)), (.int (0 : Int32)), (.ref b30)]))
    generalize hy32 : (nar .byte y2) = y32
    show Go p e below _ (T30.setTop (mkF m 98 #[.val (.int p0), .val (.int p1), .val (.int p2), .val (.int (1 : Int32)), .val (.ref b1), .val (.ref b30), .unset] [(.int y32), (.int (0 : Int32)), (.ref b30)]))
    obtain ⟨cl33, Ar33, ck33, Sz33, Nn33, Hs33, Gs33⟩ := id V30
    have hin33 : ¬ ((0 : Int32) < 0 ∨ cl33.slots.size ≤ ((0 : Int32)).toNatClampNeg) := inb_of Sz33 ⟨by decide, by decide⟩
    obtain ⟨T34, h34, X34, e34, W34, st34⟩ := stB X30 hx hZ e30 Ar33 (j := (0 : Int32)) hin33 (g := (mkF m 98 #[.val (.int p0), .val (.int p1), .val (.int p2), .val (.int (1 : Int32)), .val (.ref b1), .val (.ref b30), .unset] [(.int y32), (.int (0 : Int32)), (.ref b30)])) rfl rfl (hb hby at_98)
    have F34_V_b1 := F30_V_b1.other W34 ne30_b1
    have V34 : Arv Z h34 b30 k30 .byte (1 : Int32) [(.int (nar .byte y32))] (.int (0 : Int32)) := Arv.set Ar33 ck33 Sz33 Nn33 Hs33 Gs33 (fits_nar_byte _) W34 0 rfl (Nat.le_of_ble_eq_true rfl)
    have N34 := Fr.snoc X34 N25 gg30
    have Z34 : n0 ≤ h34.size := by rw [W34.size]; exact Z30
    refine Go.st (fun _ k => st34 _ k) ?_
    show Go p e below _ (T34.setTop (mkF m 99 #[.val (.int p0), .val (.int p1), .val (.int p2), .val (.int (1 : Int32)), .val (.ref b1), .val (.ref b30), .unset] []))
    refine Go.st (fun _ k => XS.iloadN X34.here hx rfl (hb hby at_99) rfl k) ?_
    refine Go.st (fun _ k => XS.iconst X34.here hx rfl (hb hby at_100) k) ?_
    show Go p e below _ (T34.setTop (mkF m 101 #[.val (.int p0), .val (.int p1), .val (.int p2), .val (.int (1 : Int32)), .val (.ref b1), .val (.ref b30), .unset] [(.int (1 : Int32)), (.int (1 : Int32))]))
    refine Go.st (fun _ k => XS.icmpYes X34.here hx rfl (pc0 := 101) (pc' := 112) rfl (hb hby at_101) rfl (flt (by decide : ¬ ((1 : Int32) < (1 : Int32)))).2.2.2 (by decide) (by decide) k) ?_
    show Go p e below _ (T34.setTop (mkF m 112 #[.val (.int p0), .val (.int p1), .val (.int p2), .val (.int (1 : Int32)), .val (.ref b1), .val (.ref b30), .unset] []))
    refine Go.st (fun _ k => XS.iloadN X34.here hx rfl (hb hby at_112) rfl k) ?_
    refine Go.st (fun _ k => XS.iconst X34.here hx rfl (hb hby at_113) k) ?_
    show Go p e below _ (T34.setTop (mkF m 114 #[.val (.int p0), .val (.int p1), .val (.int p2), .val (.int (1 : Int32)), .val (.ref b1), .val (.ref b30), .unset] [(.int (2 : Int32)), (.int (1 : Int32))]))
    refine Go.st (fun _ k => XS.icmpYes X34.here hx rfl (pc0 := 114) (pc' := 125) rfl (hb hby at_114) rfl (flt (by decide : ¬ ((2 : Int32) < (1 : Int32)))).2.2.2 (by decide) (by decide) k) ?_
    show Go p e below _ (T34.setTop (mkF m 125 #[.val (.int p0), .val (.int p1), .val (.int p2), .val (.int (1 : Int32)), .val (.ref b1), .val (.ref b30), .unset] []))
    refine Go.st (fun _ k => XS.iloadN X34.here hx rfl (hb hby at_125) rfl k) ?_
    refine Go.st (fun _ k => XS.iconst X34.here hx rfl (hb hby at_126) k) ?_
    show Go p e below _ (T34.setTop (mkF m 127 #[.val (.int p0), .val (.int p1), .val (.int p2), .val (.int (1 : Int32)), .val (.ref b1), .val (.ref b30), .unset] [(.int (3 : Int32)), (.int (1 : Int32))]))
    refine Go.st (fun _ k => XS.icmpYes X34.here hx rfl (pc0 := 127) (pc' := 138) rfl (hb hby at_127) rfl (flt (by decide : ¬ ((3 : Int32) < (1 : Int32)))).2.2.2 (by decide) (by decide) k) ?_
    show Go p e below _ (T34.setTop (mkF m 138 #[.val (.int p0), .val (.int p1), .val (.int p2), .val (.int (1 : Int32)), .val (.ref b1), .val (.ref b30), .unset] []))
    refine Go.st (fun _ k => XS.iloadN X34.here hx rfl (hb hby at_138) rfl k) ?_
    refine Go.st (fun _ k => XS.iconst X34.here hx rfl (hb hby at_139) k) ?_
    show Go p e below _ (T34.setTop (mkF m 140 #[.val (.int p0), .val (.int p1), .val (.int p2), .val (.int (1 : Int32)), .val (.ref b1), .val (.ref b30), .unset] [(.int (4 : Int32)), (.int (1 : Int32))]))
    refine Go.st (fun _ k => XS.icmpYes X34.here hx rfl (pc0 := 140) (pc' := 151) rfl (hb hby at_140) rfl (flt (by decide : ¬ ((4 : Int32) < (1 : Int32)))).2.2.2 (by decide) (by decide) k) ?_
    show Go p e below _ (T34.setTop (mkF m 151 #[.val (.int p0), .val (.int p1), .val (.int p2), .val (.int (1 : Int32)), .val (.ref b1), .val (.ref b30), .unset] []))
    refine Go.st (fun _ k => XS.iloadN X34.here hx rfl (hb hby at_151) rfl k) ?_
    refine Go.st (fun _ k => XS.iconst X34.here hx rfl (hb hby at_152) k) ?_
    show Go p e below _ (T34.setTop (mkF m 153 #[.val (.int p0), .val (.int p1), .val (.int p2), .val (.int (1 : Int32)), .val (.ref b1), .val (.ref b30), .unset] [(.int (5 : Int32)), (.int (1 : Int32))]))
    refine Go.st (fun _ k => XS.icmpYes X34.here hx rfl (pc0 := 153) (pc' := 164) rfl (hb hby at_153) rfl (flt (by decide : ¬ ((5 : Int32) < (1 : Int32)))).2.2.2 (by decide) (by decide) k) ?_
    show Go p e below _ (T34.setTop (mkF m 164 #[.val (.int p0), .val (.int p1), .val (.int p2), .val (.int (1 : Int32)), .val (.ref b1), .val (.ref b30), .unset] []))
    refine Go.st (fun _ k => XS.iloadN X34.here hx rfl (hb hby at_164) rfl k) ?_
    refine Go.st (fun _ k => XS.bipush X34.here hx rfl (hb hby at_165) k) ?_
    show Go p e below _ (T34.setTop (mkF m 167 #[.val (.int p0), .val (.int p1), .val (.int p2), .val (.int (1 : Int32)), .val (.ref b1), .val (.ref b30), .unset] [(.int (6 : Int32)), (.int (1 : Int32))]))
    refine Go.st (fun _ k => XS.icmpYes X34.here hx rfl (pc0 := 167) (pc' := 180) rfl (hb hby at_167) rfl (flt (by decide : ¬ ((6 : Int32) < (1 : Int32)))).2.2.2 (by decide) (by decide) k) ?_
    show Go p e below _ (T34.setTop (mkF m 180 #[.val (.int p0), .val (.int p1), .val (.int p2), .val (.int (1 : Int32)), .val (.ref b1), .val (.ref b30), .unset] []))
    refine Go.st (fun _ k => XS.iloadN X34.here hx rfl (hb hby at_180) rfl k) ?_
    refine Go.st (fun _ k => XS.bipush X34.here hx rfl (hb hby at_181) k) ?_
    show Go p e below _ (T34.setTop (mkF m 183 #[.val (.int p0), .val (.int p1), .val (.int p2), .val (.int (1 : Int32)), .val (.ref b1), .val (.ref b30), .unset] [(.int (7 : Int32)), (.int (1 : Int32))]))
    refine Go.st (fun _ k => XS.icmpYes X34.here hx rfl (pc0 := 183) (pc' := 196) rfl (hb hby at_183) rfl (flt (by decide : ¬ ((7 : Int32) < (1 : Int32)))).2.2.2 (by decide) (by decide) k) ?_
    show Go p e below _ (T34.setTop (mkF m 196 #[.val (.int p0), .val (.int p1), .val (.int p2), .val (.int (1 : Int32)), .val (.ref b1), .val (.ref b30), .unset] []))
    refine Go.st (fun _ k => XS.aload X34.here hx rfl (hb hby at_196) rfl rfl k) ?_
    refine Go.st (fun _ k => XS.iloadN X34.here hx rfl (hb hby at_198) rfl k) ?_
    show Go p e below _ (T34.setTop (mkF m 199 #[.val (.int p0), .val (.int p1), .val (.int p2), .val (.int (1 : Int32)), .val (.ref b1), .val (.ref b30), .unset] [(.int (1 : Int32)), (.ref b30)]))
    obtain ⟨_, _, ⟨T35, L35, k35, n35⟩, -, X35, ⟨Lc35, hQ35, l35, y35, z35⟩, st35⟩ := Jvm.LawKit.callS X34 hx (y := (⟨"com/example/apportis/apportis/Utf8FirstInvalidPinLaw", "reference", "([BI)I"⟩ : MethodName)) hown (mvT hZ (hw _ (List.mem_of_getElem? (i := 2) rfl))) (mvT hZ (hw _ (List.mem_of_getElem? (i := 3) rfl))) (mvT hZ (hw _ (List.mem_of_getElem? (i := 4) rfl))) (mvT hZ (hw _ (List.mem_of_getElem? (i := 5) rfl))) (by decide) (backOf (W := 0) (rmRef l Z aZ hw [] b30 (1 : Int32) k30 [(.int (nar .byte y32))] h34 n0 (by decide) (own_byt1 y32) (by decide) (own_int1 y32) V34) hZ (hw _ (List.mem_of_getElem? (i := 5) rfl)) (hw _ (List.mem_of_getElem? (i := 4) rfl)) (by decide) (by decide)) (g := (mkF m 199 #[.val (.int p0), .val (.int p1), .val (.int p2), .val (.int (1 : Int32)), .val (.ref b1), .val (.ref b30), .unset] [(.int (1 : Int32)), (.ref b30)])) rfl (by rw [hml]; rfl) (argsL := [(.ref b30), (.int (1 : Int32))]) (rest := []) (lenOf pd92f6cd8e rfl) rfl (by show 2 * 0 + _ ≤ _; exact Nat.le_of_eq rfl) (hb hby at_199) (fun _ _ => ⟨rfl, e34, (by decide : 2 + 0 ≤ _), (by decide : 9 + 0 ≤ _)⟩)
    dsimp only [Pt.U, Pt.locs, Pt.cells, Pt.slots] at X35 l35 y35 z35 st35 hQ35
    subst l35 y35 z35
    obtain ⟨rfl, N35q, e35⟩ := hQ35
    have N35 := Fr.app N34 N35q
    refine Go.st (fun _ k => st35 _ k) ?_
    show Go p e below _ (T35.setTop (mkF m 202 #[.val (.int p0), .val (.int p1), .val (.int p2), .val (.int (1 : Int32)), .val (.ref b1), .val (.ref b30), .unset] [(.int (own_scan [(.int (nar .byte y32))] (1 : Int32) 8 0))]))
    refine Go.st (fun _ k => XS.istore X35.here hx rfl (hb hby at_202) rfl (l' := #[.val (.int p0), .val (.int p1), .val (.int p2), .val (.int (1 : Int32)), .val (.ref b1), .val (.ref b30), .val (.int (own_scan [(.int (nar .byte y32))] (1 : Int32) 8 0))]) rfl k) ?_
    show Go p e below _ (T35.setTop (mkF m 204 #[.val (.int p0), .val (.int p1), .val (.int p2), .val (.int (1 : Int32)), .val (.ref b1), .val (.ref b30), .val (.int (own_scan [(.int (nar .byte y32))] (1 : Int32) 8 0))] []))
    refine Go.st (fun _ k => XS.aload X35.here hx rfl (hb hby at_204) rfl rfl k) ?_
    show Go p e below _ (T35.setTop (mkF m 206 #[.val (.int p0), .val (.int p1), .val (.int p2), .val (.int (1 : Int32)), .val (.ref b1), .val (.ref b30), .val (.int (own_scan [(.int (nar .byte y32))] (1 : Int32) 8 0))] [(.ref b30)]))
    obtain ⟨_, _, ⟨T36, L36, k36, n36⟩, -, X36, ⟨Lc36, hQ36, l36, y36, z36⟩, st36⟩ := Jvm.LawKit.callS X35 hx (y := (⟨"com/example/apportis/apportis/Utf8", "firstInvalid", "([B)I"⟩ : MethodName)) hown (mvT hZ (hw _ (List.mem_of_getElem? (i := 9) rfl))) (mvT hZ (hw _ (List.mem_of_getElem? (i := 10) rfl))) (mvT hZ (hw _ (List.mem_of_getElem? (i := 11) rfl))) (mvT hZ (hw _ (List.mem_of_getElem? (i := 12) rfl))) (by decide) (backOf (W := 0) (rmFI l Z aZ hw [] b30 k30 (1 : Int32) [(.int (nar .byte y32))] h34 n0 (by decide) (own_byt1 y32) (by decide) (own_int1 y32) V34) hZ (hw _ (List.mem_of_getElem? (i := 12) rfl)) (hw _ (List.mem_of_getElem? (i := 11) rfl)) (by decide) (by decide)) (g := (mkF m 206 #[.val (.int p0), .val (.int p1), .val (.int p2), .val (.int (1 : Int32)), .val (.ref b1), .val (.ref b30), .val (.int (own_scan [(.int (nar .byte y32))] (1 : Int32) 8 0))] [(.ref b30)])) rfl (by rw [hml]; rfl) (argsL := [(.ref b30)]) (rest := []) (lenOf pdca677057 rfl) rfl (by show 2 * 0 + _ ≤ _; exact Nat.le_of_eq rfl) (hb hby at_206) (fun _ _ => ⟨rfl, e35, (by decide : 2 + 0 ≤ _), (by decide : 9 + 0 ≤ _)⟩)
    dsimp only [Pt.U, Pt.locs, Pt.cells, Pt.slots] at X36 l36 y36 z36 st36 hQ36
    subst l36 y36 z36
    obtain ⟨rfl, N36q, e36⟩ := hQ36
    have N36 := Fr.app N35 N36q
    refine Go.st (fun _ k => st36 _ k) ?_
    show Go p e below _ (T36.setTop (mkF m 209 #[.val (.int p0), .val (.int p1), .val (.int p2), .val (.int (1 : Int32)), .val (.ref b1), .val (.ref b30), .val (.int (own_scan [(.int (nar .byte y32))] (1 : Int32) 8 0))] [(.int (own_scan [(.int (nar .byte y32))] (1 : Int32) ((1 : Int32).toInt.toNat + 1) 0))]))
    refine Go.st (fun _ k => XS.iload X36.here hx rfl (hb hby at_209) rfl k) ?_
    refine Go.st (fun _ k => XS.icmpNo X36.here hx rfl (hb hby at_211) rfl (teq (own_fuel (own_byt1 y32) (by decide) (by decide) (by decide))).2 k) ?_
    show Go p e below _ (T36.setTop (mkF m 214 #[.val (.int p0), .val (.int p1), .val (.int p2), .val (.int (1 : Int32)), .val (.ref b1), .val (.ref b30), .val (.int (own_scan [(.int (nar .byte y32))] (1 : Int32) 8 0))] []))
    refine Go.st (fun _ k => XS.iconst X36.here hx rfl (hb hby at_214) k) ?_
    refine Go.st (fun _ k => XS.goto X36.here hx rfl (pc0 := 215) (pc' := 219) rfl (hb hby at_215) (by decide) (by decide) k) ?_
    show Go p e below _ (T36.setTop (mkF m 219 #[.val (.int p0), .val (.int p1), .val (.int p2), .val (.int (1 : Int32)), .val (.ref b1), .val (.ref b30), .val (.int (own_scan [(.int (nar .byte y32))] (1 : Int32) 8 0))] [(.int (1 : Int32))]))
    obtain ⟨fs, hr, hrun, hended, hW, hsame⟩ := X36.leave (v := some (.int (1 : Int32))) (fun h => by rw [Bd.returns] at h; cases h)
    refine ⟨_, _, retN X36 hx (t := .boolean) Bd.returns (by simp) (hb hby at_219) hr, hrun, hended, _, _, rfl, ?_, ⟨_, rfl⟩, hW, hsame.mono (by decide) (by decide)⟩
    show Q_rm0 Z p0 p1 p2 h0 n0 _ T36.heap _
    rw [e36]
    exact ⟨rfl, N36⟩
  · rw [hr26]
    show Go p e below _ (T25.setTop (mkF m 82 #[.val (.int p0), .val (.int p1), .val (.int p2), .val (.int (2 : Int32)), .val (.ref b1), .unset, .unset] []))
    refine Go.st (fun _ k => XS.iloadN X25.here hx rfl (hb hby at_82) rfl k) ?_
    show Go p e below _ (T25.setTop (mkF m 83 #[.val (.int p0), .val (.int p1), .val (.int p2), .val (.int (2 : Int32)), .val (.ref b1), .unset, .unset] [(.int (2 : Int32))]))
    obtain ⟨T37, h37, k37, X37, e37, E37, A37, st37⟩ := newP X25 hx hZ (hw _ (List.mem_of_getElem? (i := 1) rfl)) e25 (g := (mkF m 83 #[.val (.int p0), .val (.int p1), .val (.int p2), .val (.int (2 : Int32)), .val (.ref b1), .unset, .unset] [(.int (2 : Int32))])) rfl (hb hby at_83) rfl (by decide) (cap := 2) (by decide) (by decide) (by decide) (by decide)
    obtain ⟨b37, g37⟩ : ∃ z, z = h25.size := ⟨_, rfl⟩
    have ne37_b1 : b1 ≠ b37 := Nat.ne_of_lt (Nat.lt_of_lt_of_le V25.lt (Nat.le_of_eq g37.symm))
    have gg37 : n0 ≤ b37 := Nat.le_trans Z25 (Nat.le_of_eq g37.symm)
    rw [← g37] at A37 st37
    have F37_V_b1 := V25.ext E37
    have Z37 : n0 ≤ h37.size := Nat.le_trans Z25 E37.1
    have V37 : Arv Z h37 b37 k37 .byte (2 : Int32) [(.int (0 : Int32)), (.int (0 : Int32))] (.int (0 : Int32)) := (Arv.new A37 (by decide)).pad (pad_rep [] (.int (0 : Int32)) 2)
    refine Go.st (fun _ k => st37 _ k) ?_
    show Go p e below _ (T37.setTop (mkF m 85 #[.val (.int p0), .val (.int p1), .val (.int p2), .val (.int (2 : Int32)), .val (.ref b1), .unset, .unset] [(.ref b37)]))
    refine Go.st (fun _ k => XS.astore X37.here hx rfl (hb hby at_85) rfl rfl (l' := #[.val (.int p0), .val (.int p1), .val (.int p2), .val (.int (2 : Int32)), .val (.ref b1), .val (.ref b37), .unset]) rfl k) ?_
    show Go p e below _ (T37.setTop (mkF m 87 #[.val (.int p0), .val (.int p1), .val (.int p2), .val (.int (2 : Int32)), .val (.ref b1), .val (.ref b37), .unset] []))
    refine Go.st (fun _ k => XS.iloadN X37.here hx rfl (hb hby at_87) rfl k) ?_
    refine Go.st (fun _ k => XS.ifNo X37.here hx rfl (hb hby at_88) rfl ((if0 _ _).trans (tlt (by decide : ((0 : Int32) < (2 : Int32)))).2.2.2) k) ?_
    show Go p e below _ (T37.setTop (mkF m 91 #[.val (.int p0), .val (.int p1), .val (.int p2), .val (.int (2 : Int32)), .val (.ref b1), .val (.ref b37), .unset] []))
    refine Go.st (fun _ k => XS.aload X37.here hx rfl (hb hby at_91) rfl rfl k) ?_
    refine Go.st (fun _ k => XS.iconst X37.here hx rfl (hb hby at_93) k) ?_
    show Go p e below _ (T37.setTop (mkF m 94 #[.val (.int p0), .val (.int p1), .val (.int p2), .val (.int (2 : Int32)), .val (.ref b1), .val (.ref b37), .unset] [(.int (0 : Int32)), (.ref b37)]))
    refine Go.st (fun _ k => XS.aload X37.here hx rfl (hb hby at_94) rfl rfl k) ?_
    refine Go.st (fun _ k => XS.iconst X37.here hx rfl (hb hby at_96) k) ?_
    show Go p e below _ (T37.setTop (mkF m 97 #[.val (.int p0), .val (.int p1), .val (.int p2), .val (.int (2 : Int32)), .val (.ref b1), .val (.ref b37), .unset] [(.int (0 : Int32)), (.ref b1), (.int (0 : Int32)), (.ref b37)]))
    obtain ⟨cl38, Ar38, ck38, Sz38, Nn38, Hs38, Gs38⟩ := id F37_V_b1
    have hin38 : ¬ ((0 : Int32) < 0 ∨ cl38.slots.size ≤ ((0 : Int32)).toNatClampNeg) := inb_of Sz38 ⟨by decide, by decide⟩
    have hat38 : cl38.slots[((0 : Int32)).toNatClampNeg]? = some (.int (nar .byte y2)) := Hs38.at hin38 rfl
    refine Go.st (fun _ k => X37.baloadBytes hx (j := (0 : Int32)) (v := (.int (nar .byte y2))) (by rw [e37]; exact Ar38.1) (State.isArrayOf_alike hZ.alike Ar38.2.1) Ar38.2.2 hin38 hat38 (g := (mkF m 97 #[.val (.int p0), .val (.int p1), .val (.int p2), .val (.int (2 : Int32)), .val (.ref b1), .val (.ref b37), .unset] [(.int (0 : Int32)), (.ref b1), (.int (0 : Int32)), (.ref b37)])) rfl rfl (hb hby at_97) _ k) ?_
    show Go p e below _ (T37.setTop (mkF m 98 #[.val (.int p0), .val (.int p1), .val (.int p2), .val (.int (2 : Int32)), .val (.ref b1), .val (.ref b37), .unset] [(.int (nar .byte y2)), (.int (0 : Int32)), (.ref b37)]))
    generalize hy39 : (nar .byte y2) = y39
    show Go p e below _ (T37.setTop (mkF m 98 #[.val (.int p0), .val (.int p1), .val (.int p2), .val (.int (2 : Int32)), .val (.ref b1), .val (.ref b37), .unset] [(.int y39), (.int (0 : Int32)), (.ref b37)]))
    obtain ⟨cl40, Ar40, ck40, Sz40, Nn40, Hs40, Gs40⟩ := id V37
    have hin40 : ¬ ((0 : Int32) < 0 ∨ cl40.slots.size ≤ ((0 : Int32)).toNatClampNeg) := inb_of Sz40 ⟨by decide, by decide⟩
    obtain ⟨T41, h41, X41, e41, W41, st41⟩ := stB X37 hx hZ e37 Ar40 (j := (0 : Int32)) hin40 (g := (mkF m 98 #[.val (.int p0), .val (.int p1), .val (.int p2), .val (.int (2 : Int32)), .val (.ref b1), .val (.ref b37), .unset] [(.int y39), (.int (0 : Int32)), (.ref b37)])) rfl rfl (hb hby at_98)
    have F41_V_b1 := F37_V_b1.other W41 ne37_b1
    have V41 : Arv Z h41 b37 k37 .byte (2 : Int32) [(.int (nar .byte y39)), (.int (0 : Int32))] (.int (0 : Int32)) := Arv.set Ar40 ck40 Sz40 Nn40 Hs40 Gs40 (fits_nar_byte _) W41 0 rfl (Nat.le_of_ble_eq_true rfl)
    have N41 := Fr.snoc X41 N25 gg37
    have Z41 : n0 ≤ h41.size := by rw [W41.size]; exact Z37
    refine Go.st (fun _ k => st41 _ k) ?_
    show Go p e below _ (T41.setTop (mkF m 99 #[.val (.int p0), .val (.int p1), .val (.int p2), .val (.int (2 : Int32)), .val (.ref b1), .val (.ref b37), .unset] []))
    refine Go.st (fun _ k => XS.iloadN X41.here hx rfl (hb hby at_99) rfl k) ?_
    refine Go.st (fun _ k => XS.iconst X41.here hx rfl (hb hby at_100) k) ?_
    show Go p e below _ (T41.setTop (mkF m 101 #[.val (.int p0), .val (.int p1), .val (.int p2), .val (.int (2 : Int32)), .val (.ref b1), .val (.ref b37), .unset] [(.int (1 : Int32)), (.int (2 : Int32))]))
    refine Go.st (fun _ k => XS.icmpNo X41.here hx rfl (hb hby at_101) rfl (tlt (by decide : ((1 : Int32) < (2 : Int32)))).2.2.2 k) ?_
    show Go p e below _ (T41.setTop (mkF m 104 #[.val (.int p0), .val (.int p1), .val (.int p2), .val (.int (2 : Int32)), .val (.ref b1), .val (.ref b37), .unset] []))
    refine Go.st (fun _ k => XS.aload X41.here hx rfl (hb hby at_104) rfl rfl k) ?_
    refine Go.st (fun _ k => XS.iconst X41.here hx rfl (hb hby at_106) k) ?_
    show Go p e below _ (T41.setTop (mkF m 107 #[.val (.int p0), .val (.int p1), .val (.int p2), .val (.int (2 : Int32)), .val (.ref b1), .val (.ref b37), .unset] [(.int (1 : Int32)), (.ref b37)]))
    refine Go.st (fun _ k => XS.aload X41.here hx rfl (hb hby at_107) rfl rfl k) ?_
    refine Go.st (fun _ k => XS.iconst X41.here hx rfl (hb hby at_109) k) ?_
    show Go p e below _ (T41.setTop (mkF m 110 #[.val (.int p0), .val (.int p1), .val (.int p2), .val (.int (2 : Int32)), .val (.ref b1), .val (.ref b37), .unset] [(.int (1 : Int32)), (.ref b1), (.int (1 : Int32)), (.ref b37)]))
    obtain ⟨cl42, Ar42, ck42, Sz42, Nn42, Hs42, Gs42⟩ := id F41_V_b1
    have hin42 : ¬ ((1 : Int32) < 0 ∨ cl42.slots.size ≤ ((1 : Int32)).toNatClampNeg) := inb_of Sz42 ⟨by decide, by decide⟩
    have hat42 : cl42.slots[((1 : Int32)).toNatClampNeg]? = some (.int (nar .byte y5)) := Hs42.at hin42 rfl
    refine Go.st (fun _ k => X41.baloadBytes hx (j := (1 : Int32)) (v := (.int (nar .byte y5))) (by rw [e41]; exact Ar42.1) (State.isArrayOf_alike hZ.alike Ar42.2.1) Ar42.2.2 hin42 hat42 (g := (mkF m 110 #[.val (.int p0), .val (.int p1), .val (.int p2), .val (.int (2 : Int32)), .val (.ref b1), .val (.ref b37), .unset] [(.int (1 : Int32)), (.ref b1), (.int (1 : Int32)), (.ref b37)])) rfl rfl (hb hby at_110) _ k) ?_
    show Go p e below _ (T41.setTop (mkF m 111 #[.val (.int p0), .val (.int p1), .val (.int p2), .val (.int (2 : Int32)), .val (.ref b1), .val (.ref b37), .unset] [(.int (nar .byte y5)), (.int (1 : Int32)), (.ref b37)]))
    generalize hy43 : (nar .byte y5) = y43
    show Go p e below _ (T41.setTop (mkF m 111 #[.val (.int p0), .val (.int p1), .val (.int p2), .val (.int (2 : Int32)), .val (.ref b1), .val (.ref b37), .unset] [(.int y43), (.int (1 : Int32)), (.ref b37)]))
    obtain ⟨cl44, Ar44, ck44, Sz44, Nn44, Hs44, Gs44⟩ := id V41
    have hin44 : ¬ ((1 : Int32) < 0 ∨ cl44.slots.size ≤ ((1 : Int32)).toNatClampNeg) := inb_of Sz44 ⟨by decide, by decide⟩
    obtain ⟨T45, h45, X45, e45, W45, st45⟩ := stB X41 hx hZ e41 Ar44 (j := (1 : Int32)) hin44 (g := (mkF m 111 #[.val (.int p0), .val (.int p1), .val (.int p2), .val (.int (2 : Int32)), .val (.ref b1), .val (.ref b37), .unset] [(.int y43), (.int (1 : Int32)), (.ref b37)])) rfl rfl (hb hby at_111)
    have F45_V_b1 := F41_V_b1.other W45 ne37_b1
    have V45 : Arv Z h45 b37 k37 .byte (2 : Int32) [(.int (nar .byte y39)), (.int (nar .byte y43))] (.int (0 : Int32)) := Arv.set Ar44 ck44 Sz44 Nn44 Hs44 Gs44 (fits_nar_byte _) W45 1 rfl (Nat.le_of_ble_eq_true rfl)
    have N45 := Fr.snoc X45 N41 gg37
    have Z45 : n0 ≤ h45.size := by rw [W45.size]; exact Z41
    refine Go.st (fun _ k => st45 _ k) ?_
    show Go p e below _ (T45.setTop (mkF m 112 #[.val (.int p0), .val (.int p1), .val (.int p2), .val (.int (2 : Int32)), .val (.ref b1), .val (.ref b37), .unset] []))
    refine Go.st (fun _ k => XS.iloadN X45.here hx rfl (hb hby at_112) rfl k) ?_
    refine Go.st (fun _ k => XS.iconst X45.here hx rfl (hb hby at_113) k) ?_
    show Go p e below _ (T45.setTop (mkF m 114 #[.val (.int p0), .val (.int p1), .val (.int p2), .val (.int (2 : Int32)), .val (.ref b1), .val (.ref b37), .unset] [(.int (2 : Int32)), (.int (2 : Int32))]))
    refine Go.st (fun _ k => XS.icmpYes X45.here hx rfl (pc0 := 114) (pc' := 125) rfl (hb hby at_114) rfl (flt (by decide : ¬ ((2 : Int32) < (2 : Int32)))).2.2.2 (by decide) (by decide) k) ?_
    show Go p e below _ (T45.setTop (mkF m 125 #[.val (.int p0), .val (.int p1), .val (.int p2), .val (.int (2 : Int32)), .val (.ref b1), .val (.ref b37), .unset] []))
    refine Go.st (fun _ k => XS.iloadN X45.here hx rfl (hb hby at_125) rfl k) ?_
    refine Go.st (fun _ k => XS.iconst X45.here hx rfl (hb hby at_126) k) ?_
    show Go p e below _ (T45.setTop (mkF m 127 #[.val (.int p0), .val (.int p1), .val (.int p2), .val (.int (2 : Int32)), .val (.ref b1), .val (.ref b37), .unset] [(.int (3 : Int32)), (.int (2 : Int32))]))
    refine Go.st (fun _ k => XS.icmpYes X45.here hx rfl (pc0 := 127) (pc' := 138) rfl (hb hby at_127) rfl (flt (by decide : ¬ ((3 : Int32) < (2 : Int32)))).2.2.2 (by decide) (by decide) k) ?_
    show Go p e below _ (T45.setTop (mkF m 138 #[.val (.int p0), .val (.int p1), .val (.int p2), .val (.int (2 : Int32)), .val (.ref b1), .val (.ref b37), .unset] []))
    refine Go.st (fun _ k => XS.iloadN X45.here hx rfl (hb hby at_138) rfl k) ?_
    refine Go.st (fun _ k => XS.iconst X45.here hx rfl (hb hby at_139) k) ?_
    show Go p e below _ (T45.setTop (mkF m 140 #[.val (.int p0), .val (.int p1), .val (.int p2), .val (.int (2 : Int32)), .val (.ref b1), .val (.ref b37), .unset] [(.int (4 : Int32)), (.int (2 : Int32))]))
    refine Go.st (fun _ k => XS.icmpYes X45.here hx rfl (pc0 := 140) (pc' := 151) rfl (hb hby at_140) rfl (flt (by decide : ¬ ((4 : Int32) < (2 : Int32)))).2.2.2 (by decide) (by decide) k) ?_
    show Go p e below _ (T45.setTop (mkF m 151 #[.val (.int p0), .val (.int p1), .val (.int p2), .val (.int (2 : Int32)), .val (.ref b1), .val (.ref b37), .unset] []))
    refine Go.st (fun _ k => XS.iloadN X45.here hx rfl (hb hby at_151) rfl k) ?_
    refine Go.st (fun _ k => XS.iconst X45.here hx rfl (hb hby at_152) k) ?_
    show Go p e below _ (T45.setTop (mkF m 153 #[.val (.int p0), .val (.int p1), .val (.int p2), .val (.int (2 : Int32)), .val (.ref b1), .val (.ref b37), .unset] [(.int (5 : Int32)), (.int (2 : Int32))]))
    refine Go.st (fun _ k => XS.icmpYes X45.here hx rfl (pc0 := 153) (pc' := 164) rfl (hb hby at_153) rfl (flt (by decide : ¬ ((5 : Int32) < (2 : Int32)))).2.2.2 (by decide) (by decide) k) ?_
    show Go p e below _ (T45.setTop (mkF m 164 #[.val (.int p0), .val (.int p1), .val (.int p2), .val (.int (2 : Int32)), .val (.ref b1), .val (.ref b37), .unset] []))
    refine Go.st (fun _ k => XS.iloadN X45.here hx rfl (hb hby at_164) rfl k) ?_
    refine Go.st (fun _ k => XS.bipush X45.here hx rfl (hb hby at_165) k) ?_
    show Go p e below _ (T45.setTop (mkF m 167 #[.val (.int p0), .val (.int p1), .val (.int p2), .val (.int (2 : Int32)), .val (.ref b1), .val (.ref b37), .unset] [(.int (6 : Int32)), (.int (2 : Int32))]))
    refine Go.st (fun _ k => XS.icmpYes X45.here hx rfl (pc0 := 167) (pc' := 180) rfl (hb hby at_167) rfl (flt (by decide : ¬ ((6 : Int32) < (2 : Int32)))).2.2.2 (by decide) (by decide) k) ?_
    show Go p e below _ (T45.setTop (mkF m 180 #[.val (.int p0), .val (.int p1), .val (.int p2), .val (.int (2 : Int32)), .val (.ref b1), .val (.ref b37), .unset] []))
    refine Go.st (fun _ k => XS.iloadN X45.here hx rfl (hb hby at_180) rfl k) ?_
    refine Go.st (fun _ k => XS.bipush X45.here hx rfl (hb hby at_181) k) ?_
    show Go p e below _ (T45.setTop (mkF m 183 #[.val (.int p0), .val (.int p1), .val (.int p2), .val (.int (2 : Int32)), .val (.ref b1), .val (.ref b37), .unset] [(.int (7 : Int32)), (.int (2 : Int32))]))
    refine Go.st (fun _ k => XS.icmpYes X45.here hx rfl (pc0 := 183) (pc' := 196) rfl (hb hby at_183) rfl (flt (by decide : ¬ ((7 : Int32) < (2 : Int32)))).2.2.2 (by decide) (by decide) k) ?_
    show Go p e below _ (T45.setTop (mkF m 196 #[.val (.int p0), .val (.int p1), .val (.int p2), .val (.int (2 : Int32)), .val (.ref b1), .val (.ref b37), .unset] []))
    refine Go.st (fun _ k => XS.aload X45.here hx rfl (hb hby at_196) rfl rfl k) ?_
    refine Go.st (fun _ k => XS.iloadN X45.here hx rfl (hb hby at_198) rfl k) ?_
    show Go p e below _ (T45.setTop (mkF m 199 #[.val (.int p0), .val (.int p1), .val (.int p2), .val (.int (2 : Int32)), .val (.ref b1), .val (.ref b37), .unset] [(.int (2 : Int32)), (.ref b37)]))
    obtain ⟨_, _, ⟨T46, L46, k46, n46⟩, -, X46, ⟨Lc46, hQ46, l46, y46, z46⟩, st46⟩ := Jvm.LawKit.callS X45 hx (y := (⟨"com/example/apportis/apportis/Utf8FirstInvalidPinLaw", "reference", "([BI)I"⟩ : MethodName)) hown (mvT hZ (hw _ (List.mem_of_getElem? (i := 2) rfl))) (mvT hZ (hw _ (List.mem_of_getElem? (i := 3) rfl))) (mvT hZ (hw _ (List.mem_of_getElem? (i := 4) rfl))) (mvT hZ (hw _ (List.mem_of_getElem? (i := 5) rfl))) (by decide) (backOf (W := 0) (rmRef l Z aZ hw [] b37 (2 : Int32) k37 [(.int (nar .byte y39)), (.int (nar .byte y43))] h45 n0 (by decide) (own_byt2 y39 y43) (by decide) (own_int2 y39 y43) V45) hZ (hw _ (List.mem_of_getElem? (i := 5) rfl)) (hw _ (List.mem_of_getElem? (i := 4) rfl)) (by decide) (by decide)) (g := (mkF m 199 #[.val (.int p0), .val (.int p1), .val (.int p2), .val (.int (2 : Int32)), .val (.ref b1), .val (.ref b37), .unset] [(.int (2 : Int32)), (.ref b37)])) rfl (by rw [hml]; rfl) (argsL := [(.ref b37), (.int (2 : Int32))]) (rest := []) (lenOf pd92f6cd8e rfl) rfl (by show 2 * 0 + _ ≤ _; exact Nat.le_of_eq rfl) (hb hby at_199) (fun _ _ => ⟨rfl, e45, (by decide : 2 + 0 ≤ _), (by decide : 10 + 0 ≤ _)⟩)
    dsimp only [Pt.U, Pt.locs, Pt.cells, Pt.slots] at X46 l46 y46 z46 st46 hQ46
    subst l46 y46 z46
    obtain ⟨rfl, N46q, e46⟩ := hQ46
    have N46 := Fr.app N45 N46q
    refine Go.st (fun _ k => st46 _ k) ?_
    show Go p e below _ (T46.setTop (mkF m 202 #[.val (.int p0), .val (.int p1), .val (.int p2), .val (.int (2 : Int32)), .val (.ref b1), .val (.ref b37), .unset] [(.int (own_scan [(.int (nar .byte y39)), (.int (nar .byte y43))] (2 : Int32) 8 0))]))
    refine Go.st (fun _ k => XS.istore X46.here hx rfl (hb hby at_202) rfl (l' := #[.val (.int p0), .val (.int p1), .val (.int p2), .val (.int (2 : Int32)), .val (.ref b1), .val (.ref b37), .val (.int (own_scan [(.int (nar .byte y39)), (.int (nar .byte y43))] (2 : Int32) 8 0))]) rfl k) ?_
    show Go p e below _ (T46.setTop (mkF m 204 #[.val (.int p0), .val (.int p1), .val (.int p2), .val (.int (2 : Int32)), .val (.ref b1), .val (.ref b37), .val (.int (own_scan [(.int (nar .byte y39)), (.int (nar .byte y43))] (2 : Int32) 8 0))] []))
    refine Go.st (fun _ k => XS.aload X46.here hx rfl (hb hby at_204) rfl rfl k) ?_
    show Go p e below _ (T46.setTop (mkF m 206 #[.val (.int p0), .val (.int p1), .val (.int p2), .val (.int (2 : Int32)), .val (.ref b1), .val (.ref b37), .val (.int (own_scan [(.int (nar .byte y39)), (.int (nar .byte y43))] (2 : Int32) 8 0))] [(.ref b37)]))
    obtain ⟨_, _, ⟨T47, L47, k47, n47⟩, -, X47, ⟨Lc47, hQ47, l47, y47, z47⟩, st47⟩ := Jvm.LawKit.callS X46 hx (y := (⟨"com/example/apportis/apportis/Utf8", "firstInvalid", "([B)I"⟩ : MethodName)) hown (mvT hZ (hw _ (List.mem_of_getElem? (i := 9) rfl))) (mvT hZ (hw _ (List.mem_of_getElem? (i := 10) rfl))) (mvT hZ (hw _ (List.mem_of_getElem? (i := 11) rfl))) (mvT hZ (hw _ (List.mem_of_getElem? (i := 12) rfl))) (by decide) (backOf (W := 0) (rmFI l Z aZ hw [] b37 k37 (2 : Int32) [(.int (nar .byte y39)), (.int (nar .byte y43))] h45 n0 (by decide) (own_byt2 y39 y43) (by decide) (own_int2 y39 y43) V45) hZ (hw _ (List.mem_of_getElem? (i := 12) rfl)) (hw _ (List.mem_of_getElem? (i := 11) rfl)) (by decide) (by decide)) (g := (mkF m 206 #[.val (.int p0), .val (.int p1), .val (.int p2), .val (.int (2 : Int32)), .val (.ref b1), .val (.ref b37), .val (.int (own_scan [(.int (nar .byte y39)), (.int (nar .byte y43))] (2 : Int32) 8 0))] [(.ref b37)])) rfl (by rw [hml]; rfl) (argsL := [(.ref b37)]) (rest := []) (lenOf pdca677057 rfl) rfl (by show 2 * 0 + _ ≤ _; exact Nat.le_of_eq rfl) (hb hby at_206) (fun _ _ => ⟨rfl, e46, (by decide : 2 + 0 ≤ _), (by decide : 10 + 0 ≤ _)⟩)
    dsimp only [Pt.U, Pt.locs, Pt.cells, Pt.slots] at X47 l47 y47 z47 st47 hQ47
    subst l47 y47 z47
    obtain ⟨rfl, N47q, e47⟩ := hQ47
    have N47 := Fr.app N46 N47q
    refine Go.st (fun _ k => st47 _ k) ?_
    show Go p e below _ (T47.setTop (mkF m 209 #[.val (.int p0), .val (.int p1), .val (.int p2), .val (.int (2 : Int32)), .val (.ref b1), .val (.ref b37), .val (.int (own_scan [(.int (nar .byte y39)), (.int (nar .byte y43))] (2 : Int32) 8 0))] [(.int (own_scan [(.int (nar .byte y39)), (.int (nar .byte y43))] (2 : Int32) ((2 : Int32).toInt.toNat + 1) 0))]))
    refine Go.st (fun _ k => XS.iload X47.here hx rfl (hb hby at_209) rfl k) ?_
    refine Go.st (fun _ k => XS.icmpNo X47.here hx rfl (hb hby at_211) rfl (teq (own_fuel (own_byt2 y39 y43) (by decide) (by decide) (by decide))).2 k) ?_
    show Go p e below _ (T47.setTop (mkF m 214 #[.val (.int p0), .val (.int p1), .val (.int p2), .val (.int (2 : Int32)), .val (.ref b1), .val (.ref b37), .val (.int (own_scan [(.int (nar .byte y39)), (.int (nar .byte y43))] (2 : Int32) 8 0))] []))
    refine Go.st (fun _ k => XS.iconst X47.here hx rfl (hb hby at_214) k) ?_
    refine Go.st (fun _ k => XS.goto X47.here hx rfl (pc0 := 215) (pc' := 219) rfl (hb hby at_215) (by decide) (by decide) k) ?_
    show Go p e below _ (T47.setTop (mkF m 219 #[.val (.int p0), .val (.int p1), .val (.int p2), .val (.int (2 : Int32)), .val (.ref b1), .val (.ref b37), .val (.int (own_scan [(.int (nar .byte y39)), (.int (nar .byte y43))] (2 : Int32) 8 0))] [(.int (1 : Int32))]))
    obtain ⟨fs, hr, hrun, hended, hW, hsame⟩ := X47.leave (v := some (.int (1 : Int32))) (fun h => by rw [Bd.returns] at h; cases h)
    refine ⟨_, _, retN X47 hx (t := .boolean) Bd.returns (by simp) (hb hby at_219) hr, hrun, hended, _, _, rfl, ?_, ⟨_, rfl⟩, hW, hsame.mono (by decide) (by decide)⟩
    show Q_rm0 Z p0 p1 p2 h0 n0 _ T47.heap _
    rw [e47]
    exact ⟨rfl, N47⟩
  · rw [hr26]
    show Go p e below _ (T25.setTop (mkF m 82 #[.val (.int p0), .val (.int p1), .val (.int p2), .val (.int (3 : Int32)), .val (.ref b1), .unset, .unset] []))
    refine Go.st (fun _ k => XS.iloadN X25.here hx rfl (hb hby at_82) rfl k) ?_
    show Go p e below _ (T25.setTop (mkF m 83 #[.val (.int p0), .val (.int p1), .val (.int p2), .val (.int (3 : Int32)), .val (.ref b1), .unset, .unset] [(.int (3 : Int32))]))
    obtain ⟨T48, h48, k48, X48, e48, E48, A48, st48⟩ := newP X25 hx hZ (hw _ (List.mem_of_getElem? (i := 1) rfl)) e25 (g := (mkF m 83 #[.val (.int p0), .val (.int p1), .val (.int p2), .val (.int (3 : Int32)), .val (.ref b1), .unset, .unset] [(.int (3 : Int32))])) rfl (hb hby at_83) rfl (by decide) (cap := 3) (by decide) (by decide) (by decide) (by decide)
    obtain ⟨b48, g48⟩ : ∃ z, z = h25.size := ⟨_, rfl⟩
    have ne48_b1 : b1 ≠ b48 := Nat.ne_of_lt (Nat.lt_of_lt_of_le V25.lt (Nat.le_of_eq g48.symm))
    have gg48 : n0 ≤ b48 := Nat.le_trans Z25 (Nat.le_of_eq g48.symm)
    rw [← g48] at A48 st48
    have F48_V_b1 := V25.ext E48
    have Z48 : n0 ≤ h48.size := Nat.le_trans Z25 E48.1
    have V48 : Arv Z h48 b48 k48 .byte (3 : Int32) [(.int (0 : Int32)), (.int (0 : Int32)), (.int (0 : Int32))] (.int (0 : Int32)) := (Arv.new A48 (by decide)).pad (pad_rep [] (.int (0 : Int32)) 3)
    refine Go.st (fun _ k => st48 _ k) ?_
    show Go p e below _ (T48.setTop (mkF m 85 #[.val (.int p0), .val (.int p1), .val (.int p2), .val (.int (3 : Int32)), .val (.ref b1), .unset, .unset] [(.ref b48)]))
    refine Go.st (fun _ k => XS.astore X48.here hx rfl (hb hby at_85) rfl rfl (l' := #[.val (.int p0), .val (.int p1), .val (.int p2), .val (.int (3 : Int32)), .val (.ref b1), .val (.ref b48), .unset]) rfl k) ?_
    show Go p e below _ (T48.setTop (mkF m 87 #[.val (.int p0), .val (.int p1), .val (.int p2), .val (.int (3 : Int32)), .val (.ref b1), .val (.ref b48), .unset] []))
    refine Go.st (fun _ k => XS.iloadN X48.here hx rfl (hb hby at_87) rfl k) ?_
    refine Go.st (fun _ k => XS.ifNo X48.here hx rfl (hb hby at_88) rfl ((if0 _ _).trans (tlt (by decide : ((0 : Int32) < (3 : Int32)))).2.2.2) k) ?_
    show Go p e below _ (T48.setTop (mkF m 91 #[.val (.int p0), .val (.int p1), .val (.int p2), .val (.int (3 : Int32)), .val (.ref b1), .val (.ref b48), .unset] []))
    refine Go.st (fun _ k => XS.aload X48.here hx rfl (hb hby at_91) rfl rfl k) ?_
    refine Go.st (fun _ k => XS.iconst X48.here hx rfl (hb hby at_93) k) ?_
    show Go p e below _ (T48.setTop (mkF m 94 #[.val (.int p0), .val (.int p1), .val (.int p2), .val (.int (3 : Int32)), .val (.ref b1), .val (.ref b48), .unset] [(.int (0 : Int32)), (.ref b48)]))
    refine Go.st (fun _ k => XS.aload X48.here hx rfl (hb hby at_94) rfl rfl k) ?_
    refine Go.st (fun _ k => XS.iconst X48.here hx rfl (hb hby at_96) k) ?_
    show Go p e below _ (T48.setTop (mkF m 97 #[.val (.int p0), .val (.int p1), .val (.int p2), .val (.int (3 : Int32)), .val (.ref b1), .val (.ref b48), .unset] [(.int (0 : Int32)), (.ref b1), (.int (0 : Int32)), (.ref b48)]))
    obtain ⟨cl49, Ar49, ck49, Sz49, Nn49, Hs49, Gs49⟩ := id F48_V_b1
    have hin49 : ¬ ((0 : Int32) < 0 ∨ cl49.slots.size ≤ ((0 : Int32)).toNatClampNeg) := inb_of Sz49 ⟨by decide, by decide⟩
    have hat49 : cl49.slots[((0 : Int32)).toNatClampNeg]? = some (.int (nar .byte y2)) := Hs49.at hin49 rfl
    refine Go.st (fun _ k => X48.baloadBytes hx (j := (0 : Int32)) (v := (.int (nar .byte y2))) (by rw [e48]; exact Ar49.1) (State.isArrayOf_alike hZ.alike Ar49.2.1) Ar49.2.2 hin49 hat49 (g := (mkF m 97 #[.val (.int p0), .val (.int p1), .val (.int p2), .val (.int (3 : Int32)), .val (.ref b1), .val (.ref b48), .unset] [(.int (0 : Int32)), (.ref b1), (.int (0 : Int32)), (.ref b48)])) rfl rfl (hb hby at_97) _ k) ?_
    show Go p e below _ (T48.setTop (mkF m 98 #[.val (.int p0), .val (.int p1), .val (.int p2), .val (.int (3 : Int32)), .val (.ref b1), .val (.ref b48), .unset] [(.int (nar .byte y2)), (.int (0 : Int32)), (.ref b48)]))
    generalize hy50 : (nar .byte y2) = y50
    show Go p e below _ (T48.setTop (mkF m 98 #[.val (.int p0), .val (.int p1), .val (.int p2), .val (.int (3 : Int32)), .val (.ref b1), .val (.ref b48), .unset] [(.int y50), (.int (0 : Int32)), (.ref b48)]))
    obtain ⟨cl51, Ar51, ck51, Sz51, Nn51, Hs51, Gs51⟩ := id V48
    have hin51 : ¬ ((0 : Int32) < 0 ∨ cl51.slots.size ≤ ((0 : Int32)).toNatClampNeg) := inb_of Sz51 ⟨by decide, by decide⟩
    obtain ⟨T52, h52, X52, e52, W52, st52⟩ := stB X48 hx hZ e48 Ar51 (j := (0 : Int32)) hin51 (g := (mkF m 98 #[.val (.int p0), .val (.int p1), .val (.int p2), .val (.int (3 : Int32)), .val (.ref b1), .val (.ref b48), .unset] [(.int y50), (.int (0 : Int32)), (.ref b48)])) rfl rfl (hb hby at_98)
    have F52_V_b1 := F48_V_b1.other W52 ne48_b1
    have V52 : Arv Z h52 b48 k48 .byte (3 : Int32) [(.int (nar .byte y50)), (.int (0 : Int32)), (.int (0 : Int32))] (.int (0 : Int32)) := Arv.set Ar51 ck51 Sz51 Nn51 Hs51 Gs51 (fits_nar_byte _) W52 0 rfl (Nat.le_of_ble_eq_true rfl)
    have N52 := Fr.snoc X52 N25 gg48
    have Z52 : n0 ≤ h52.size := by rw [W52.size]; exact Z48
    refine Go.st (fun _ k => st52 _ k) ?_
    show Go p e below _ (T52.setTop (mkF m 99 #[.val (.int p0), .val (.int p1), .val (.int p2), .val (.int (3 : Int32)), .val (.ref b1), .val (.ref b48), .unset] []))
    refine Go.st (fun _ k => XS.iloadN X52.here hx rfl (hb hby at_99) rfl k) ?_
    refine Go.st (fun _ k => XS.iconst X52.here hx rfl (hb hby at_100) k) ?_
    show Go p e below _ (T52.setTop (mkF m 101 #[.val (.int p0), .val (.int p1), .val (.int p2), .val (.int (3 : Int32)), .val (.ref b1), .val (.ref b48), .unset] [(.int (1 : Int32)), (.int (3 : Int32))]))
    refine Go.st (fun _ k => XS.icmpNo X52.here hx rfl (hb hby at_101) rfl (tlt (by decide : ((1 : Int32) < (3 : Int32)))).2.2.2 k) ?_
    show Go p e below _ (T52.setTop (mkF m 104 #[.val (.int p0), .val (.int p1), .val (.int p2), .val (.int (3 : Int32)), .val (.ref b1), .val (.ref b48), .unset] []))
    refine Go.st (fun _ k => XS.aload X52.here hx rfl (hb hby at_104) rfl rfl k) ?_
    refine Go.st (fun _ k => XS.iconst X52.here hx rfl (hb hby at_106) k) ?_
    show Go p e below _ (T52.setTop (mkF m 107 #[.val (.int p0), .val (.int p1), .val (.int p2), .val (.int (3 : Int32)), .val (.ref b1), .val (.ref b48), .unset] [(.int (1 : Int32)), (.ref b48)]))
    refine Go.st (fun _ k => XS.aload X52.here hx rfl (hb hby at_107) rfl rfl k) ?_
    refine Go.st (fun _ k => XS.iconst X52.here hx rfl (hb hby at_109) k) ?_
    show Go p e below _ (T52.setTop (mkF m 110 #[.val (.int p0), .val (.int p1), .val (.int p2), .val (.int (3 : Int32)), .val (.ref b1), .val (.ref b48), .unset] [(.int (1 : Int32)), (.ref b1), (.int (1 : Int32)), (.ref b48)]))
    obtain ⟨cl53, Ar53, ck53, Sz53, Nn53, Hs53, Gs53⟩ := id F52_V_b1
    have hin53 : ¬ ((1 : Int32) < 0 ∨ cl53.slots.size ≤ ((1 : Int32)).toNatClampNeg) := inb_of Sz53 ⟨by decide, by decide⟩
    have hat53 : cl53.slots[((1 : Int32)).toNatClampNeg]? = some (.int (nar .byte y5)) := Hs53.at hin53 rfl
    refine Go.st (fun _ k => X52.baloadBytes hx (j := (1 : Int32)) (v := (.int (nar .byte y5))) (by rw [e52]; exact Ar53.1) (State.isArrayOf_alike hZ.alike Ar53.2.1) Ar53.2.2 hin53 hat53 (g := (mkF m 110 #[.val (.int p0), .val (.int p1), .val (.int p2), .val (.int (3 : Int32)), .val (.ref b1), .val (.ref b48), .unset] [(.int (1 : Int32)), (.ref b1), (.int (1 : Int32)), (.ref b48)])) rfl rfl (hb hby at_110) _ k) ?_
    show Go p e below _ (T52.setTop (mkF m 111 #[.val (.int p0), .val (.int p1), .val (.int p2), .val (.int (3 : Int32)), .val (.ref b1), .val (.ref b48), .unset] [(.int (nar .byte y5)), (.int (1 : Int32)), (.ref b48)]))
    generalize hy54 : (nar .byte y5) = y54
    show Go p e below _ (T52.setTop (mkF m 111 #[.val (.int p0), .val (.int p1), .val (.int p2), .val (.int (3 : Int32)), .val (.ref b1), .val (.ref b48), .unset] [(.int y54), (.int (1 : Int32)), (.ref b48)]))
    obtain ⟨cl55, Ar55, ck55, Sz55, Nn55, Hs55, Gs55⟩ := id V52
    have hin55 : ¬ ((1 : Int32) < 0 ∨ cl55.slots.size ≤ ((1 : Int32)).toNatClampNeg) := inb_of Sz55 ⟨by decide, by decide⟩
    obtain ⟨T56, h56, X56, e56, W56, st56⟩ := stB X52 hx hZ e52 Ar55 (j := (1 : Int32)) hin55 (g := (mkF m 111 #[.val (.int p0), .val (.int p1), .val (.int p2), .val (.int (3 : Int32)), .val (.ref b1), .val (.ref b48), .unset] [(.int y54), (.int (1 : Int32)), (.ref b48)])) rfl rfl (hb hby at_111)
    have F56_V_b1 := F52_V_b1.other W56 ne48_b1
    have V56 : Arv Z h56 b48 k48 .byte (3 : Int32) [(.int (nar .byte y50)), (.int (nar .byte y54)), (.int (0 : Int32))] (.int (0 : Int32)) := Arv.set Ar55 ck55 Sz55 Nn55 Hs55 Gs55 (fits_nar_byte _) W56 1 rfl (Nat.le_of_ble_eq_true rfl)
    have N56 := Fr.snoc X56 N52 gg48
    have Z56 : n0 ≤ h56.size := by rw [W56.size]; exact Z52
    refine Go.st (fun _ k => st56 _ k) ?_
    show Go p e below _ (T56.setTop (mkF m 112 #[.val (.int p0), .val (.int p1), .val (.int p2), .val (.int (3 : Int32)), .val (.ref b1), .val (.ref b48), .unset] []))
    refine Go.st (fun _ k => XS.iloadN X56.here hx rfl (hb hby at_112) rfl k) ?_
    refine Go.st (fun _ k => XS.iconst X56.here hx rfl (hb hby at_113) k) ?_
    show Go p e below _ (T56.setTop (mkF m 114 #[.val (.int p0), .val (.int p1), .val (.int p2), .val (.int (3 : Int32)), .val (.ref b1), .val (.ref b48), .unset] [(.int (2 : Int32)), (.int (3 : Int32))]))
    refine Go.st (fun _ k => XS.icmpNo X56.here hx rfl (hb hby at_114) rfl (tlt (by decide : ((2 : Int32) < (3 : Int32)))).2.2.2 k) ?_
    show Go p e below _ (T56.setTop (mkF m 117 #[.val (.int p0), .val (.int p1), .val (.int p2), .val (.int (3 : Int32)), .val (.ref b1), .val (.ref b48), .unset] []))
    refine Go.st (fun _ k => XS.aload X56.here hx rfl (hb hby at_117) rfl rfl k) ?_
    refine Go.st (fun _ k => XS.iconst X56.here hx rfl (hb hby at_119) k) ?_
    show Go p e below _ (T56.setTop (mkF m 120 #[.val (.int p0), .val (.int p1), .val (.int p2), .val (.int (3 : Int32)), .val (.ref b1), .val (.ref b48), .unset] [(.int (2 : Int32)), (.ref b48)]))
    refine Go.st (fun _ k => XS.aload X56.here hx rfl (hb hby at_120) rfl rfl k) ?_
    refine Go.st (fun _ k => XS.iconst X56.here hx rfl (hb hby at_122) k) ?_
    show Go p e below _ (T56.setTop (mkF m 123 #[.val (.int p0), .val (.int p1), .val (.int p2), .val (.int (3 : Int32)), .val (.ref b1), .val (.ref b48), .unset] [(.int (2 : Int32)), (.ref b1), (.int (2 : Int32)), (.ref b48)]))
    obtain ⟨cl57, Ar57, ck57, Sz57, Nn57, Hs57, Gs57⟩ := id F56_V_b1
    have hin57 : ¬ ((2 : Int32) < 0 ∨ cl57.slots.size ≤ ((2 : Int32)).toNatClampNeg) := inb_of Sz57 ⟨by decide, by decide⟩
    have hat57 : cl57.slots[((2 : Int32)).toNatClampNeg]? = some (.int (nar .byte y8)) := Hs57.at hin57 rfl
    refine Go.st (fun _ k => X56.baloadBytes hx (j := (2 : Int32)) (v := (.int (nar .byte y8))) (by rw [e56]; exact Ar57.1) (State.isArrayOf_alike hZ.alike Ar57.2.1) Ar57.2.2 hin57 hat57 (g := (mkF m 123 #[.val (.int p0), .val (.int p1), .val (.int p2), .val (.int (3 : Int32)), .val (.ref b1), .val (.ref b48), .unset] [(.int (2 : Int32)), (.ref b1), (.int (2 : Int32)), (.ref b48)])) rfl rfl (hb hby at_123) _ k) ?_
    show Go p e below _ (T56.setTop (mkF m 124 #[.val (.int p0), .val (.int p1), .val (.int p2), .val (.int (3 : Int32)), .val (.ref b1), .val (.ref b48), .unset] [(.int (nar .byte y8)), (.int (2 : Int32)), (.ref b48)]))
    generalize hy58 : (nar .byte y8) = y58
    show Go p e below _ (T56.setTop (mkF m 124 #[.val (.int p0), .val (.int p1), .val (.int p2), .val (.int (3 : Int32)), .val (.ref b1), .val (.ref b48), .unset] [(.int y58), (.int (2 : Int32)), (.ref b48)]))
    obtain ⟨cl59, Ar59, ck59, Sz59, Nn59, Hs59, Gs59⟩ := id V56
    have hin59 : ¬ ((2 : Int32) < 0 ∨ cl59.slots.size ≤ ((2 : Int32)).toNatClampNeg) := inb_of Sz59 ⟨by decide, by decide⟩
    obtain ⟨T60, h60, X60, e60, W60, st60⟩ := stB X56 hx hZ e56 Ar59 (j := (2 : Int32)) hin59 (g := (mkF m 124 #[.val (.int p0), .val (.int p1), .val (.int p2), .val (.int (3 : Int32)), .val (.ref b1), .val (.ref b48), .unset] [(.int y58), (.int (2 : Int32)), (.ref b48)])) rfl rfl (hb hby at_124)
    have F60_V_b1 := F56_V_b1.other W60 ne48_b1
    have V60 : Arv Z h60 b48 k48 .byte (3 : Int32) [(.int (nar .byte y50)), (.int (nar .byte y54)), (.int (nar .byte y58))] (.int (0 : Int32)) := Arv.set Ar59 ck59 Sz59 Nn59 Hs59 Gs59 (fits_nar_byte _) W60 2 rfl (Nat.le_of_ble_eq_true rfl)
    have N60 := Fr.snoc X60 N56 gg48
    have Z60 : n0 ≤ h60.size := by rw [W60.size]; exact Z56
    refine Go.st (fun _ k => st60 _ k) ?_
    show Go p e below _ (T60.setTop (mkF m 125 #[.val (.int p0), .val (.int p1), .val (.int p2), .val (.int (3 : Int32)), .val (.ref b1), .val (.ref b48), .unset] []))
    refine Go.st (fun _ k => XS.iloadN X60.here hx rfl (hb hby at_125) rfl k) ?_
    refine Go.st (fun _ k => XS.iconst X60.here hx rfl (hb hby at_126) k) ?_
    show Go p e below _ (T60.setTop (mkF m 127 #[.val (.int p0), .val (.int p1), .val (.int p2), .val (.int (3 : Int32)), .val (.ref b1), .val (.ref b48), .unset] [(.int (3 : Int32)), (.int (3 : Int32))]))
    refine Go.st (fun _ k => XS.icmpYes X60.here hx rfl (pc0 := 127) (pc' := 138) rfl (hb hby at_127) rfl (flt (by decide : ¬ ((3 : Int32) < (3 : Int32)))).2.2.2 (by decide) (by decide) k) ?_
    show Go p e below _ (T60.setTop (mkF m 138 #[.val (.int p0), .val (.int p1), .val (.int p2), .val (.int (3 : Int32)), .val (.ref b1), .val (.ref b48), .unset] []))
    refine Go.st (fun _ k => XS.iloadN X60.here hx rfl (hb hby at_138) rfl k) ?_
    refine Go.st (fun _ k => XS.iconst X60.here hx rfl (hb hby at_139) k) ?_
    show Go p e below _ (T60.setTop (mkF m 140 #[.val (.int p0), .val (.int p1), .val (.int p2), .val (.int (3 : Int32)), .val (.ref b1), .val (.ref b48), .unset] [(.int (4 : Int32)), (.int (3 : Int32))]))
    refine Go.st (fun _ k => XS.icmpYes X60.here hx rfl (pc0 := 140) (pc' := 151) rfl (hb hby at_140) rfl (flt (by decide : ¬ ((4 : Int32) < (3 : Int32)))).2.2.2 (by decide) (by decide) k) ?_
    show Go p e below _ (T60.setTop (mkF m 151 #[.val (.int p0), .val (.int p1), .val (.int p2), .val (.int (3 : Int32)), .val (.ref b1), .val (.ref b48), .unset] []))
    refine Go.st (fun _ k => XS.iloadN X60.here hx rfl (hb hby at_151) rfl k) ?_
    refine Go.st (fun _ k => XS.iconst X60.here hx rfl (hb hby at_152) k) ?_
    show Go p e below _ (T60.setTop (mkF m 153 #[.val (.int p0), .val (.int p1), .val (.int p2), .val (.int (3 : Int32)), .val (.ref b1), .val (.ref b48), .unset] [(.int (5 : Int32)), (.int (3 : Int32))]))
    refine Go.st (fun _ k => XS.icmpYes X60.here hx rfl (pc0 := 153) (pc' := 164) rfl (hb hby at_153) rfl (flt (by decide : ¬ ((5 : Int32) < (3 : Int32)))).2.2.2 (by decide) (by decide) k) ?_
    show Go p e below _ (T60.setTop (mkF m 164 #[.val (.int p0), .val (.int p1), .val (.int p2), .val (.int (3 : Int32)), .val (.ref b1), .val (.ref b48), .unset] []))
    refine Go.st (fun _ k => XS.iloadN X60.here hx rfl (hb hby at_164) rfl k) ?_
    refine Go.st (fun _ k => XS.bipush X60.here hx rfl (hb hby at_165) k) ?_
    show Go p e below _ (T60.setTop (mkF m 167 #[.val (.int p0), .val (.int p1), .val (.int p2), .val (.int (3 : Int32)), .val (.ref b1), .val (.ref b48), .unset] [(.int (6 : Int32)), (.int (3 : Int32))]))
    refine Go.st (fun _ k => XS.icmpYes X60.here hx rfl (pc0 := 167) (pc' := 180) rfl (hb hby at_167) rfl (flt (by decide : ¬ ((6 : Int32) < (3 : Int32)))).2.2.2 (by decide) (by decide) k) ?_
    show Go p e below _ (T60.setTop (mkF m 180 #[.val (.int p0), .val (.int p1), .val (.int p2), .val (.int (3 : Int32)), .val (.ref b1), .val (.ref b48), .unset] []))
    refine Go.st (fun _ k => XS.iloadN X60.here hx rfl (hb hby at_180) rfl k) ?_
    refine Go.st (fun _ k => XS.bipush X60.here hx rfl (hb hby at_181) k) ?_
    show Go p e below _ (T60.setTop (mkF m 183 #[.val (.int p0), .val (.int p1), .val (.int p2), .val (.int (3 : Int32)), .val (.ref b1), .val (.ref b48), .unset] [(.int (7 : Int32)), (.int (3 : Int32))]))
    refine Go.st (fun _ k => XS.icmpYes X60.here hx rfl (pc0 := 183) (pc' := 196) rfl (hb hby at_183) rfl (flt (by decide : ¬ ((7 : Int32) < (3 : Int32)))).2.2.2 (by decide) (by decide) k) ?_
    show Go p e below _ (T60.setTop (mkF m 196 #[.val (.int p0), .val (.int p1), .val (.int p2), .val (.int (3 : Int32)), .val (.ref b1), .val (.ref b48), .unset] []))
    refine Go.st (fun _ k => XS.aload X60.here hx rfl (hb hby at_196) rfl rfl k) ?_
    refine Go.st (fun _ k => XS.iloadN X60.here hx rfl (hb hby at_198) rfl k) ?_
    show Go p e below _ (T60.setTop (mkF m 199 #[.val (.int p0), .val (.int p1), .val (.int p2), .val (.int (3 : Int32)), .val (.ref b1), .val (.ref b48), .unset] [(.int (3 : Int32)), (.ref b48)]))
    obtain ⟨_, _, ⟨T61, L61, k61, n61⟩, -, X61, ⟨Lc61, hQ61, l61, y61, z61⟩, st61⟩ := Jvm.LawKit.callS X60 hx (y := (⟨"com/example/apportis/apportis/Utf8FirstInvalidPinLaw", "reference", "([BI)I"⟩ : MethodName)) hown (mvT hZ (hw _ (List.mem_of_getElem? (i := 2) rfl))) (mvT hZ (hw _ (List.mem_of_getElem? (i := 3) rfl))) (mvT hZ (hw _ (List.mem_of_getElem? (i := 4) rfl))) (mvT hZ (hw _ (List.mem_of_getElem? (i := 5) rfl))) (by decide) (backOf (W := 0) (rmRef l Z aZ hw [] b48 (3 : Int32) k48 [(.int (nar .byte y50)), (.int (nar .byte y54)), (.int (nar .byte y58))] h60 n0 (by decide) (own_byt3 y50 y54 y58) (by decide) (own_int3 y50 y54 y58) V60) hZ (hw _ (List.mem_of_getElem? (i := 5) rfl)) (hw _ (List.mem_of_getElem? (i := 4) rfl)) (by decide) (by decide)) (g := (mkF m 199 #[.val (.int p0), .val (.int p1), .val (.int p2), .val (.int (3 : Int32)), .val (.ref b1), .val (.ref b48), .unset] [(.int (3 : Int32)), (.ref b48)])) rfl (by rw [hml]; rfl) (argsL := [(.ref b48), (.int (3 : Int32))]) (rest := []) (lenOf pd92f6cd8e rfl) rfl (by show 2 * 0 + _ ≤ _; exact Nat.le_of_eq rfl) (hb hby at_199) (fun _ _ => ⟨rfl, e60, (by decide : 2 + 0 ≤ _), (by decide : 11 + 0 ≤ _)⟩)
    dsimp only [Pt.U, Pt.locs, Pt.cells, Pt.slots] at X61 l61 y61 z61 st61 hQ61
    subst l61 y61 z61
    obtain ⟨rfl, N61q, e61⟩ := hQ61
    have N61 := Fr.app N60 N61q
    refine Go.st (fun _ k => st61 _ k) ?_
    show Go p e below _ (T61.setTop (mkF m 202 #[.val (.int p0), .val (.int p1), .val (.int p2), .val (.int (3 : Int32)), .val (.ref b1), .val (.ref b48), .unset] [(.int (own_scan [(.int (nar .byte y50)), (.int (nar .byte y54)), (.int (nar .byte y58))] (3 : Int32) 8 0))]))
    refine Go.st (fun _ k => XS.istore X61.here hx rfl (hb hby at_202) rfl (l' := #[.val (.int p0), .val (.int p1), .val (.int p2), .val (.int (3 : Int32)), .val (.ref b1), .val (.ref b48), .val (.int (own_scan [(.int (nar .byte y50)), (.int (nar .byte y54)), (.int (nar .byte y58))] (3 : Int32) 8 0))]) rfl k) ?_
    show Go p e below _ (T61.setTop (mkF m 204 #[.val (.int p0), .val (.int p1), .val (.int p2), .val (.int (3 : Int32)), .val (.ref b1), .val (.ref b48), .val (.int (own_scan [(.int (nar .byte y50)), (.int (nar .byte y54)), (.int (nar .byte y58))] (3 : Int32) 8 0))] []))
    refine Go.st (fun _ k => XS.aload X61.here hx rfl (hb hby at_204) rfl rfl k) ?_
    show Go p e below _ (T61.setTop (mkF m 206 #[.val (.int p0), .val (.int p1), .val (.int p2), .val (.int (3 : Int32)), .val (.ref b1), .val (.ref b48), .val (.int (own_scan [(.int (nar .byte y50)), (.int (nar .byte y54)), (.int (nar .byte y58))] (3 : Int32) 8 0))] [(.ref b48)]))
    obtain ⟨_, _, ⟨T62, L62, k62, n62⟩, -, X62, ⟨Lc62, hQ62, l62, y62, z62⟩, st62⟩ := Jvm.LawKit.callS X61 hx (y := (⟨"com/example/apportis/apportis/Utf8", "firstInvalid", "([B)I"⟩ : MethodName)) hown (mvT hZ (hw _ (List.mem_of_getElem? (i := 9) rfl))) (mvT hZ (hw _ (List.mem_of_getElem? (i := 10) rfl))) (mvT hZ (hw _ (List.mem_of_getElem? (i := 11) rfl))) (mvT hZ (hw _ (List.mem_of_getElem? (i := 12) rfl))) (by decide) (backOf (W := 0) (rmFI l Z aZ hw [] b48 k48 (3 : Int32) [(.int (nar .byte y50)), (.int (nar .byte y54)), (.int (nar .byte y58))] h60 n0 (by decide) (own_byt3 y50 y54 y58) (by decide) (own_int3 y50 y54 y58) V60) hZ (hw _ (List.mem_of_getElem? (i := 12) rfl)) (hw _ (List.mem_of_getElem? (i := 11) rfl)) (by decide) (by decide)) (g := (mkF m 206 #[.val (.int p0), .val (.int p1), .val (.int p2), .val (.int (3 : Int32)), .val (.ref b1), .val (.ref b48), .val (.int (own_scan [(.int (nar .byte y50)), (.int (nar .byte y54)), (.int (nar .byte y58))] (3 : Int32) 8 0))] [(.ref b48)])) rfl (by rw [hml]; rfl) (argsL := [(.ref b48)]) (rest := []) (lenOf pdca677057 rfl) rfl (by show 2 * 0 + _ ≤ _; exact Nat.le_of_eq rfl) (hb hby at_206) (fun _ _ => ⟨rfl, e61, (by decide : 2 + 0 ≤ _), (by decide : 11 + 0 ≤ _)⟩)
    dsimp only [Pt.U, Pt.locs, Pt.cells, Pt.slots] at X62 l62 y62 z62 st62 hQ62
    subst l62 y62 z62
    obtain ⟨rfl, N62q, e62⟩ := hQ62
    have N62 := Fr.app N61 N62q
    refine Go.st (fun _ k => st62 _ k) ?_
    show Go p e below _ (T62.setTop (mkF m 209 #[.val (.int p0), .val (.int p1), .val (.int p2), .val (.int (3 : Int32)), .val (.ref b1), .val (.ref b48), .val (.int (own_scan [(.int (nar .byte y50)), (.int (nar .byte y54)), (.int (nar .byte y58))] (3 : Int32) 8 0))] [(.int (own_scan [(.int (nar .byte y50)), (.int (nar .byte y54)), (.int (nar .byte y58))] (3 : Int32) ((3 : Int32).toInt.toNat + 1) 0))]))
    refine Go.st (fun _ k => XS.iload X62.here hx rfl (hb hby at_209) rfl k) ?_
    refine Go.st (fun _ k => XS.icmpNo X62.here hx rfl (hb hby at_211) rfl (teq (own_fuel (own_byt3 y50 y54 y58) (by decide) (by decide) (by decide))).2 k) ?_
    show Go p e below _ (T62.setTop (mkF m 214 #[.val (.int p0), .val (.int p1), .val (.int p2), .val (.int (3 : Int32)), .val (.ref b1), .val (.ref b48), .val (.int (own_scan [(.int (nar .byte y50)), (.int (nar .byte y54)), (.int (nar .byte y58))] (3 : Int32) 8 0))] []))
    refine Go.st (fun _ k => XS.iconst X62.here hx rfl (hb hby at_214) k) ?_
    refine Go.st (fun _ k => XS.goto X62.here hx rfl (pc0 := 215) (pc' := 219) rfl (hb hby at_215) (by decide) (by decide) k) ?_
    show Go p e below _ (T62.setTop (mkF m 219 #[.val (.int p0), .val (.int p1), .val (.int p2), .val (.int (3 : Int32)), .val (.ref b1), .val (.ref b48), .val (.int (own_scan [(.int (nar .byte y50)), (.int (nar .byte y54)), (.int (nar .byte y58))] (3 : Int32) 8 0))] [(.int (1 : Int32))]))
    obtain ⟨fs, hr, hrun, hended, hW, hsame⟩ := X62.leave (v := some (.int (1 : Int32))) (fun h => by rw [Bd.returns] at h; cases h)
    refine ⟨_, _, retN X62 hx (t := .boolean) Bd.returns (by simp) (hb hby at_219) hr, hrun, hended, _, _, rfl, ?_, ⟨_, rfl⟩, hW, hsame.mono (by decide) (by decide)⟩
    show Q_rm0 Z p0 p1 p2 h0 n0 _ T62.heap _
    rw [e62]
    exact ⟨rfl, N62⟩
  · rw [hr26]
    show Go p e below _ (T25.setTop (mkF m 82 #[.val (.int p0), .val (.int p1), .val (.int p2), .val (.int (4 : Int32)), .val (.ref b1), .unset, .unset] []))
    refine Go.st (fun _ k => XS.iloadN X25.here hx rfl (hb hby at_82) rfl k) ?_
    show Go p e below _ (T25.setTop (mkF m 83 #[.val (.int p0), .val (.int p1), .val (.int p2), .val (.int (4 : Int32)), .val (.ref b1), .unset, .unset] [(.int (4 : Int32))]))
    obtain ⟨T63, h63, k63, X63, e63, E63, A63, st63⟩ := newP X25 hx hZ (hw _ (List.mem_of_getElem? (i := 1) rfl)) e25 (g := (mkF m 83 #[.val (.int p0), .val (.int p1), .val (.int p2), .val (.int (4 : Int32)), .val (.ref b1), .unset, .unset] [(.int (4 : Int32))])) rfl (hb hby at_83) rfl (by decide) (cap := 4) (by decide) (by decide) (by decide) (by decide)
    obtain ⟨b63, g63⟩ : ∃ z, z = h25.size := ⟨_, rfl⟩
    have ne63_b1 : b1 ≠ b63 := Nat.ne_of_lt (Nat.lt_of_lt_of_le V25.lt (Nat.le_of_eq g63.symm))
    have gg63 : n0 ≤ b63 := Nat.le_trans Z25 (Nat.le_of_eq g63.symm)
    rw [← g63] at A63 st63
    have F63_V_b1 := V25.ext E63
    have Z63 : n0 ≤ h63.size := Nat.le_trans Z25 E63.1
    have V63 : Arv Z h63 b63 k63 .byte (4 : Int32) [(.int (0 : Int32)), (.int (0 : Int32)), (.int (0 : Int32)), (.int (0 : Int32))] (.int (0 : Int32)) := (Arv.new A63 (by decide)).pad (pad_rep [] (.int (0 : Int32)) 4)
    refine Go.st (fun _ k => st63 _ k) ?_
    show Go p e below _ (T63.setTop (mkF m 85 #[.val (.int p0), .val (.int p1), .val (.int p2), .val (.int (4 : Int32)), .val (.ref b1), .unset, .unset] [(.ref b63)]))
    refine Go.st (fun _ k => XS.astore X63.here hx rfl (hb hby at_85) rfl rfl (l' := #[.val (.int p0), .val (.int p1), .val (.int p2), .val (.int (4 : Int32)), .val (.ref b1), .val (.ref b63), .unset]) rfl k) ?_
    show Go p e below _ (T63.setTop (mkF m 87 #[.val (.int p0), .val (.int p1), .val (.int p2), .val (.int (4 : Int32)), .val (.ref b1), .val (.ref b63), .unset] []))
    refine Go.st (fun _ k => XS.iloadN X63.here hx rfl (hb hby at_87) rfl k) ?_
    refine Go.st (fun _ k => XS.ifNo X63.here hx rfl (hb hby at_88) rfl ((if0 _ _).trans (tlt (by decide : ((0 : Int32) < (4 : Int32)))).2.2.2) k) ?_
    show Go p e below _ (T63.setTop (mkF m 91 #[.val (.int p0), .val (.int p1), .val (.int p2), .val (.int (4 : Int32)), .val (.ref b1), .val (.ref b63), .unset] []))
    refine Go.st (fun _ k => XS.aload X63.here hx rfl (hb hby at_91) rfl rfl k) ?_
    refine Go.st (fun _ k => XS.iconst X63.here hx rfl (hb hby at_93) k) ?_
    show Go p e below _ (T63.setTop (mkF m 94 #[.val (.int p0), .val (.int p1), .val (.int p2), .val (.int (4 : Int32)), .val (.ref b1), .val (.ref b63), .unset] [(.int (0 : Int32)), (.ref b63)]))
    refine Go.st (fun _ k => XS.aload X63.here hx rfl (hb hby at_94) rfl rfl k) ?_
    refine Go.st (fun _ k => XS.iconst X63.here hx rfl (hb hby at_96) k) ?_
    show Go p e below _ (T63.setTop (mkF m 97 #[.val (.int p0), .val (.int p1), .val (.int p2), .val (.int (4 : Int32)), .val (.ref b1), .val (.ref b63), .unset] [(.int (0 : Int32)), (.ref b1), (.int (0 : Int32)), (.ref b63)]))
    obtain ⟨cl64, Ar64, ck64, Sz64, Nn64, Hs64, Gs64⟩ := id F63_V_b1
    have hin64 : ¬ ((0 : Int32) < 0 ∨ cl64.slots.size ≤ ((0 : Int32)).toNatClampNeg) := inb_of Sz64 ⟨by decide, by decide⟩
    have hat64 : cl64.slots[((0 : Int32)).toNatClampNeg]? = some (.int (nar .byte y2)) := Hs64.at hin64 rfl
    refine Go.st (fun _ k => X63.baloadBytes hx (j := (0 : Int32)) (v := (.int (nar .byte y2))) (by rw [e63]; exact Ar64.1) (State.isArrayOf_alike hZ.alike Ar64.2.1) Ar64.2.2 hin64 hat64 (g := (mkF m 97 #[.val (.int p0), .val (.int p1), .val (.int p2), .val (.int (4 : Int32)), .val (.ref b1), .val (.ref b63), .unset] [(.int (0 : Int32)), (.ref b1), (.int (0 : Int32)), (.ref b63)])) rfl rfl (hb hby at_97) _ k) ?_
    show Go p e below _ (T63.setTop (mkF m 98 #[.val (.int p0), .val (.int p1), .val (.int p2), .val (.int (4 : Int32)), .val (.ref b1), .val (.ref b63), .unset] [(.int (nar .byte y2)), (.int (0 : Int32)), (.ref b63)]))
    generalize hy65 : (nar .byte y2) = y65
    show Go p e below _ (T63.setTop (mkF m 98 #[.val (.int p0), .val (.int p1), .val (.int p2), .val (.int (4 : Int32)), .val (.ref b1), .val (.ref b63), .unset] [(.int y65), (.int (0 : Int32)), (.ref b63)]))
    obtain ⟨cl66, Ar66, ck66, Sz66, Nn66, Hs66, Gs66⟩ := id V63
    have hin66 : ¬ ((0 : Int32) < 0 ∨ cl66.slots.size ≤ ((0 : Int32)).toNatClampNeg) := inb_of Sz66 ⟨by decide, by decide⟩
    obtain ⟨T67, h67, X67, e67, W67, st67⟩ := stB X63 hx hZ e63 Ar66 (j := (0 : Int32)) hin66 (g := (mkF m 98 #[.val (.int p0), .val (.int p1), .val (.int p2), .val (.int (4 : Int32)), .val (.ref b1), .val (.ref b63), .unset] [(.int y65), (.int (0 : Int32)), (.ref b63)])) rfl rfl (hb hby at_98)
    have F67_V_b1 := F63_V_b1.other W67 ne63_b1
    have V67 : Arv Z h67 b63 k63 .byte (4 : Int32) [(.int (nar .byte y65)), (.int (0 : Int32)), (.int (0 : Int32)), (.int (0 : Int32))] (.int (0 : Int32)) := Arv.set Ar66 ck66 Sz66 Nn66 Hs66 Gs66 (fits_nar_byte _) W67 0 rfl (Nat.le_of_ble_eq_true rfl)
    have N67 := Fr.snoc X67 N25 gg63
    have Z67 : n0 ≤ h67.size := by rw [W67.size]; exact Z63
    refine Go.st (fun _ k => st67 _ k) ?_
    show Go p e below _ (T67.setTop (mkF m 99 #[.val (.int p0), .val (.int p1), .val (.int p2), .val (.int (4 : Int32)), .val (.ref b1), .val (.ref b63), .unset] []))
    refine Go.st (fun _ k => XS.iloadN X67.here hx rfl (hb hby at_99) rfl k) ?_
    refine Go.st (fun _ k => XS.iconst X67.here hx rfl (hb hby at_100) k) ?_
    show Go p e below _ (T67.setTop (mkF m 101 #[.val (.int p0), .val (.int p1), .val (.int p2), .val (.int (4 : Int32)), .val (.ref b1), .val (.ref b63), .unset] [(.int (1 : Int32)), (.int (4 : Int32))]))
    refine Go.st (fun _ k => XS.icmpNo X67.here hx rfl (hb hby at_101) rfl (tlt (by decide : ((1 : Int32) < (4 : Int32)))).2.2.2 k) ?_
    show Go p e below _ (T67.setTop (mkF m 104 #[.val (.int p0), .val (.int p1), .val (.int p2), .val (.int (4 : Int32)), .val (.ref b1), .val (.ref b63), .unset] []))
    refine Go.st (fun _ k => XS.aload X67.here hx rfl (hb hby at_104) rfl rfl k) ?_
    refine Go.st (fun _ k => XS.iconst X67.here hx rfl (hb hby at_106) k) ?_
    show Go p e below _ (T67.setTop (mkF m 107 #[.val (.int p0), .val (.int p1), .val (.int p2), .val (.int (4 : Int32)), .val (.ref b1), .val (.ref b63), .unset] [(.int (1 : Int32)), (.ref b63)]))
    refine Go.st (fun _ k => XS.aload X67.here hx rfl (hb hby at_107) rfl rfl k) ?_
    refine Go.st (fun _ k => XS.iconst X67.here hx rfl (hb hby at_109) k) ?_
    show Go p e below _ (T67.setTop (mkF m 110 #[.val (.int p0), .val (.int p1), .val (.int p2), .val (.int (4 : Int32)), .val (.ref b1), .val (.ref b63), .unset] [(.int (1 : Int32)), (.ref b1), (.int (1 : Int32)), (.ref b63)]))
    obtain ⟨cl68, Ar68, ck68, Sz68, Nn68, Hs68, Gs68⟩ := id F67_V_b1
    have hin68 : ¬ ((1 : Int32) < 0 ∨ cl68.slots.size ≤ ((1 : Int32)).toNatClampNeg) := inb_of Sz68 ⟨by decide, by decide⟩
    have hat68 : cl68.slots[((1 : Int32)).toNatClampNeg]? = some (.int (nar .byte y5)) := Hs68.at hin68 rfl
    refine Go.st (fun _ k => X67.baloadBytes hx (j := (1 : Int32)) (v := (.int (nar .byte y5))) (by rw [e67]; exact Ar68.1) (State.isArrayOf_alike hZ.alike Ar68.2.1) Ar68.2.2 hin68 hat68 (g := (mkF m 110 #[.val (.int p0), .val (.int p1), .val (.int p2), .val (.int (4 : Int32)), .val (.ref b1), .val (.ref b63), .unset] [(.int (1 : Int32)), (.ref b1), (.int (1 : Int32)), (.ref b63)])) rfl rfl (hb hby at_110) _ k) ?_
    show Go p e below _ (T67.setTop (mkF m 111 #[.val (.int p0), .val (.int p1), .val (.int p2), .val (.int (4 : Int32)), .val (.ref b1), .val (.ref b63), .unset] [(.int (nar .byte y5)), (.int (1 : Int32)), (.ref b63)]))
    generalize hy69 : (nar .byte y5) = y69
    show Go p e below _ (T67.setTop (mkF m 111 #[.val (.int p0), .val (.int p1), .val (.int p2), .val (.int (4 : Int32)), .val (.ref b1), .val (.ref b63), .unset] [(.int y69), (.int (1 : Int32)), (.ref b63)]))
    obtain ⟨cl70, Ar70, ck70, Sz70, Nn70, Hs70, Gs70⟩ := id V67
    have hin70 : ¬ ((1 : Int32) < 0 ∨ cl70.slots.size ≤ ((1 : Int32)).toNatClampNeg) := inb_of Sz70 ⟨by decide, by decide⟩
    obtain ⟨T71, h71, X71, e71, W71, st71⟩ := stB X67 hx hZ e67 Ar70 (j := (1 : Int32)) hin70 (g := (mkF m 111 #[.val (.int p0), .val (.int p1), .val (.int p2), .val (.int (4 : Int32)), .val (.ref b1), .val (.ref b63), .unset] [(.int y69), (.int (1 : Int32)), (.ref b63)])) rfl rfl (hb hby at_111)
    have F71_V_b1 := F67_V_b1.other W71 ne63_b1
    have V71 : Arv Z h71 b63 k63 .byte (4 : Int32) [(.int (nar .byte y65)), (.int (nar .byte y69)), (.int (0 : Int32)), (.int (0 : Int32))] (.int (0 : Int32)) := Arv.set Ar70 ck70 Sz70 Nn70 Hs70 Gs70 (fits_nar_byte _) W71 1 rfl (Nat.le_of_ble_eq_true rfl)
    have N71 := Fr.snoc X71 N67 gg63
    have Z71 : n0 ≤ h71.size := by rw [W71.size]; exact Z67
    refine Go.st (fun _ k => st71 _ k) ?_
    show Go p e below _ (T71.setTop (mkF m 112 #[.val (.int p0), .val (.int p1), .val (.int p2), .val (.int (4 : Int32)), .val (.ref b1), .val (.ref b63), .unset] []))
    refine Go.st (fun _ k => XS.iloadN X71.here hx rfl (hb hby at_112) rfl k) ?_
    refine Go.st (fun _ k => XS.iconst X71.here hx rfl (hb hby at_113) k) ?_
    show Go p e below _ (T71.setTop (mkF m 114 #[.val (.int p0), .val (.int p1), .val (.int p2), .val (.int (4 : Int32)), .val (.ref b1), .val (.ref b63), .unset] [(.int (2 : Int32)), (.int (4 : Int32))]))
    refine Go.st (fun _ k => XS.icmpNo X71.here hx rfl (hb hby at_114) rfl (tlt (by decide : ((2 : Int32) < (4 : Int32)))).2.2.2 k) ?_
    show Go p e below _ (T71.setTop (mkF m 117 #[.val (.int p0), .val (.int p1), .val (.int p2), .val (.int (4 : Int32)), .val (.ref b1), .val (.ref b63), .unset] []))
    refine Go.st (fun _ k => XS.aload X71.here hx rfl (hb hby at_117) rfl rfl k) ?_
    refine Go.st (fun _ k => XS.iconst X71.here hx rfl (hb hby at_119) k) ?_
    show Go p e below _ (T71.setTop (mkF m 120 #[.val (.int p0), .val (.int p1), .val (.int p2), .val (.int (4 : Int32)), .val (.ref b1), .val (.ref b63), .unset] [(.int (2 : Int32)), (.ref b63)]))
    refine Go.st (fun _ k => XS.aload X71.here hx rfl (hb hby at_120) rfl rfl k) ?_
    refine Go.st (fun _ k => XS.iconst X71.here hx rfl (hb hby at_122) k) ?_
    show Go p e below _ (T71.setTop (mkF m 123 #[.val (.int p0), .val (.int p1), .val (.int p2), .val (.int (4 : Int32)), .val (.ref b1), .val (.ref b63), .unset] [(.int (2 : Int32)), (.ref b1), (.int (2 : Int32)), (.ref b63)]))
    obtain ⟨cl72, Ar72, ck72, Sz72, Nn72, Hs72, Gs72⟩ := id F71_V_b1
    have hin72 : ¬ ((2 : Int32) < 0 ∨ cl72.slots.size ≤ ((2 : Int32)).toNatClampNeg) := inb_of Sz72 ⟨by decide, by decide⟩
    have hat72 : cl72.slots[((2 : Int32)).toNatClampNeg]? = some (.int (nar .byte y8)) := Hs72.at hin72 rfl
    refine Go.st (fun _ k => X71.baloadBytes hx (j := (2 : Int32)) (v := (.int (nar .byte y8))) (by rw [e71]; exact Ar72.1) (State.isArrayOf_alike hZ.alike Ar72.2.1) Ar72.2.2 hin72 hat72 (g := (mkF m 123 #[.val (.int p0), .val (.int p1), .val (.int p2), .val (.int (4 : Int32)), .val (.ref b1), .val (.ref b63), .unset] [(.int (2 : Int32)), (.ref b1), (.int (2 : Int32)), (.ref b63)])) rfl rfl (hb hby at_123) _ k) ?_
    show Go p e below _ (T71.setTop (mkF m 124 #[.val (.int p0), .val (.int p1), .val (.int p2), .val (.int (4 : Int32)), .val (.ref b1), .val (.ref b63), .unset] [(.int (nar .byte y8)), (.int (2 : Int32)), (.ref b63)]))
    generalize hy73 : (nar .byte y8) = y73
    show Go p e below _ (T71.setTop (mkF m 124 #[.val (.int p0), .val (.int p1), .val (.int p2), .val (.int (4 : Int32)), .val (.ref b1), .val (.ref b63), .unset] [(.int y73), (.int (2 : Int32)), (.ref b63)]))
    obtain ⟨cl74, Ar74, ck74, Sz74, Nn74, Hs74, Gs74⟩ := id V71
    have hin74 : ¬ ((2 : Int32) < 0 ∨ cl74.slots.size ≤ ((2 : Int32)).toNatClampNeg) := inb_of Sz74 ⟨by decide, by decide⟩
    obtain ⟨T75, h75, X75, e75, W75, st75⟩ := stB X71 hx hZ e71 Ar74 (j := (2 : Int32)) hin74 (g := (mkF m 124 #[.val (.int p0), .val (.int p1), .val (.int p2), .val (.int (4 : Int32)), .val (.ref b1), .val (.ref b63), .unset] [(.int y73), (.int (2 : Int32)), (.ref b63)])) rfl rfl (hb hby at_124)
    have F75_V_b1 := F71_V_b1.other W75 ne63_b1
    have V75 : Arv Z h75 b63 k63 .byte (4 : Int32) [(.int (nar .byte y65)), (.int (nar .byte y69)), (.int (nar .byte y73)), (.int (0 : Int32))] (.int (0 : Int32)) := Arv.set Ar74 ck74 Sz74 Nn74 Hs74 Gs74 (fits_nar_byte _) W75 2 rfl (Nat.le_of_ble_eq_true rfl)
    have N75 := Fr.snoc X75 N71 gg63
    have Z75 : n0 ≤ h75.size := by rw [W75.size]; exact Z71
    refine Go.st (fun _ k => st75 _ k) ?_
    show Go p e below _ (T75.setTop (mkF m 125 #[.val (.int p0), .val (.int p1), .val (.int p2), .val (.int (4 : Int32)), .val (.ref b1), .val (.ref b63), .unset] []))
    refine Go.st (fun _ k => XS.iloadN X75.here hx rfl (hb hby at_125) rfl k) ?_
    refine Go.st (fun _ k => XS.iconst X75.here hx rfl (hb hby at_126) k) ?_
    show Go p e below _ (T75.setTop (mkF m 127 #[.val (.int p0), .val (.int p1), .val (.int p2), .val (.int (4 : Int32)), .val (.ref b1), .val (.ref b63), .unset] [(.int (3 : Int32)), (.int (4 : Int32))]))
    refine Go.st (fun _ k => XS.icmpNo X75.here hx rfl (hb hby at_127) rfl (tlt (by decide : ((3 : Int32) < (4 : Int32)))).2.2.2 k) ?_
    show Go p e below _ (T75.setTop (mkF m 130 #[.val (.int p0), .val (.int p1), .val (.int p2), .val (.int (4 : Int32)), .val (.ref b1), .val (.ref b63), .unset] []))
    refine Go.st (fun _ k => XS.aload X75.here hx rfl (hb hby at_130) rfl rfl k) ?_
    refine Go.st (fun _ k => XS.iconst X75.here hx rfl (hb hby at_132) k) ?_
    show Go p e below _ (T75.setTop (mkF m 133 #[.val (.int p0), .val (.int p1), .val (.int p2), .val (.int (4 : Int32)), .val (.ref b1), .val (.ref b63), .unset] [(.int (3 : Int32)), (.ref b63)]))
    refine Go.st (fun _ k => XS.aload X75.here hx rfl (hb hby at_133) rfl rfl k) ?_
    refine Go.st (fun _ k => XS.iconst X75.here hx rfl (hb hby at_135) k) ?_
    show Go p e below _ (T75.setTop (mkF m 136 #[.val (.int p0), .val (.int p1), .val (.int p2), .val (.int (4 : Int32)), .val (.ref b1), .val (.ref b63), .unset] [(.int (3 : Int32)), (.ref b1), (.int (3 : Int32)), (.ref b63)]))
    obtain ⟨cl76, Ar76, ck76, Sz76, Nn76, Hs76, Gs76⟩ := id F75_V_b1
    have hin76 : ¬ ((3 : Int32) < 0 ∨ cl76.slots.size ≤ ((3 : Int32)).toNatClampNeg) := inb_of Sz76 ⟨by decide, by decide⟩
    have hat76 : cl76.slots[((3 : Int32)).toNatClampNeg]? = some (.int (nar .byte y11)) := Hs76.at hin76 rfl
    refine Go.st (fun _ k => X75.baloadBytes hx (j := (3 : Int32)) (v := (.int (nar .byte y11))) (by rw [e75]; exact Ar76.1) (State.isArrayOf_alike hZ.alike Ar76.2.1) Ar76.2.2 hin76 hat76 (g := (mkF m 136 #[.val (.int p0), .val (.int p1), .val (.int p2), .val (.int (4 : Int32)), .val (.ref b1), .val (.ref b63), .unset] [(.int (3 : Int32)), (.ref b1), (.int (3 : Int32)), (.ref b63)])) rfl rfl (hb hby at_136) _ k) ?_
    show Go p e below _ (T75.setTop (mkF m 137 #[.val (.int p0), .val (.int p1), .val (.int p2), .val (.int (4 : Int32)), .val (.ref b1), .val (.ref b63), .unset] [(.int (nar .byte y11)), (.int (3 : Int32)), (.ref b63)]))
    generalize hy77 : (nar .byte y11) = y77
    show Go p e below _ (T75.setTop (mkF m 137 #[.val (.int p0), .val (.int p1), .val (.int p2), .val (.int (4 : Int32)), .val (.ref b1), .val (.ref b63), .unset] [(.int y77), (.int (3 : Int32)), (.ref b63)]))
    obtain ⟨cl78, Ar78, ck78, Sz78, Nn78, Hs78, Gs78⟩ := id V75
    have hin78 : ¬ ((3 : Int32) < 0 ∨ cl78.slots.size ≤ ((3 : Int32)).toNatClampNeg) := inb_of Sz78 ⟨by decide, by decide⟩
    obtain ⟨T79, h79, X79, e79, W79, st79⟩ := stB X75 hx hZ e75 Ar78 (j := (3 : Int32)) hin78 (g := (mkF m 137 #[.val (.int p0), .val (.int p1), .val (.int p2), .val (.int (4 : Int32)), .val (.ref b1), .val (.ref b63), .unset] [(.int y77), (.int (3 : Int32)), (.ref b63)])) rfl rfl (hb hby at_137)
    have F79_V_b1 := F75_V_b1.other W79 ne63_b1
    have V79 : Arv Z h79 b63 k63 .byte (4 : Int32) [(.int (nar .byte y65)), (.int (nar .byte y69)), (.int (nar .byte y73)), (.int (nar .byte y77))] (.int (0 : Int32)) := Arv.set Ar78 ck78 Sz78 Nn78 Hs78 Gs78 (fits_nar_byte _) W79 3 rfl (Nat.le_of_ble_eq_true rfl)
    have N79 := Fr.snoc X79 N75 gg63
    have Z79 : n0 ≤ h79.size := by rw [W79.size]; exact Z75
    refine Go.st (fun _ k => st79 _ k) ?_
    show Go p e below _ (T79.setTop (mkF m 138 #[.val (.int p0), .val (.int p1), .val (.int p2), .val (.int (4 : Int32)), .val (.ref b1), .val (.ref b63), .unset] []))
    refine Go.st (fun _ k => XS.iloadN X79.here hx rfl (hb hby at_138) rfl k) ?_
    refine Go.st (fun _ k => XS.iconst X79.here hx rfl (hb hby at_139) k) ?_
    show Go p e below _ (T79.setTop (mkF m 140 #[.val (.int p0), .val (.int p1), .val (.int p2), .val (.int (4 : Int32)), .val (.ref b1), .val (.ref b63), .unset] [(.int (4 : Int32)), (.int (4 : Int32))]))
    refine Go.st (fun _ k => XS.icmpYes X79.here hx rfl (pc0 := 140) (pc' := 151) rfl (hb hby at_140) rfl (flt (by decide : ¬ ((4 : Int32) < (4 : Int32)))).2.2.2 (by decide) (by decide) k) ?_
    show Go p e below _ (T79.setTop (mkF m 151 #[.val (.int p0), .val (.int p1), .val (.int p2), .val (.int (4 : Int32)), .val (.ref b1), .val (.ref b63), .unset] []))
    refine Go.st (fun _ k => XS.iloadN X79.here hx rfl (hb hby at_151) rfl k) ?_
    refine Go.st (fun _ k => XS.iconst X79.here hx rfl (hb hby at_152) k) ?_
    show Go p e below _ (T79.setTop (mkF m 153 #[.val (.int p0), .val (.int p1), .val (.int p2), .val (.int (4 : Int32)), .val (.ref b1), .val (.ref b63), .unset] [(.int (5 : Int32)), (.int (4 : Int32))]))
    refine Go.st (fun _ k => XS.icmpYes X79.here hx rfl (pc0 := 153) (pc' := 164) rfl (hb hby at_153) rfl (flt (by decide : ¬ ((5 : Int32) < (4 : Int32)))).2.2.2 (by decide) (by decide) k) ?_
    show Go p e below _ (T79.setTop (mkF m 164 #[.val (.int p0), .val (.int p1), .val (.int p2), .val (.int (4 : Int32)), .val (.ref b1), .val (.ref b63), .unset] []))
    refine Go.st (fun _ k => XS.iloadN X79.here hx rfl (hb hby at_164) rfl k) ?_
    refine Go.st (fun _ k => XS.bipush X79.here hx rfl (hb hby at_165) k) ?_
    show Go p e below _ (T79.setTop (mkF m 167 #[.val (.int p0), .val (.int p1), .val (.int p2), .val (.int (4 : Int32)), .val (.ref b1), .val (.ref b63), .unset] [(.int (6 : Int32)), (.int (4 : Int32))]))
    refine Go.st (fun _ k => XS.icmpYes X79.here hx rfl (pc0 := 167) (pc' := 180) rfl (hb hby at_167) rfl (flt (by decide : ¬ ((6 : Int32) < (4 : Int32)))).2.2.2 (by decide) (by decide) k) ?_
    show Go p e below _ (T79.setTop (mkF m 180 #[.val (.int p0), .val (.int p1), .val (.int p2), .val (.int (4 : Int32)), .val (.ref b1), .val (.ref b63), .unset] []))
    refine Go.st (fun _ k => XS.iloadN X79.here hx rfl (hb hby at_180) rfl k) ?_
    refine Go.st (fun _ k => XS.bipush X79.here hx rfl (hb hby at_181) k) ?_
    show Go p e below _ (T79.setTop (mkF m 183 #[.val (.int p0), .val (.int p1), .val (.int p2), .val (.int (4 : Int32)), .val (.ref b1), .val (.ref b63), .unset] [(.int (7 : Int32)), (.int (4 : Int32))]))
    refine Go.st (fun _ k => XS.icmpYes X79.here hx rfl (pc0 := 183) (pc' := 196) rfl (hb hby at_183) rfl (flt (by decide : ¬ ((7 : Int32) < (4 : Int32)))).2.2.2 (by decide) (by decide) k) ?_
    show Go p e below _ (T79.setTop (mkF m 196 #[.val (.int p0), .val (.int p1), .val (.int p2), .val (.int (4 : Int32)), .val (.ref b1), .val (.ref b63), .unset] []))
    refine Go.st (fun _ k => XS.aload X79.here hx rfl (hb hby at_196) rfl rfl k) ?_
    refine Go.st (fun _ k => XS.iloadN X79.here hx rfl (hb hby at_198) rfl k) ?_
    show Go p e below _ (T79.setTop (mkF m 199 #[.val (.int p0), .val (.int p1), .val (.int p2), .val (.int (4 : Int32)), .val (.ref b1), .val (.ref b63), .unset] [(.int (4 : Int32)), (.ref b63)]))
    obtain ⟨_, _, ⟨T80, L80, k80, n80⟩, -, X80, ⟨Lc80, hQ80, l80, y80, z80⟩, st80⟩ := Jvm.LawKit.callS X79 hx (y := (⟨"com/example/apportis/apportis/Utf8FirstInvalidPinLaw", "reference", "([BI)I"⟩ : MethodName)) hown (mvT hZ (hw _ (List.mem_of_getElem? (i := 2) rfl))) (mvT hZ (hw _ (List.mem_of_getElem? (i := 3) rfl))) (mvT hZ (hw _ (List.mem_of_getElem? (i := 4) rfl))) (mvT hZ (hw _ (List.mem_of_getElem? (i := 5) rfl))) (by decide) (backOf (W := 0) (rmRef l Z aZ hw [] b63 (4 : Int32) k63 [(.int (nar .byte y65)), (.int (nar .byte y69)), (.int (nar .byte y73)), (.int (nar .byte y77))] h79 n0 (by decide) (own_byt4 y65 y69 y73 y77) (by decide) (own_int4 y65 y69 y73 y77) V79) hZ (hw _ (List.mem_of_getElem? (i := 5) rfl)) (hw _ (List.mem_of_getElem? (i := 4) rfl)) (by decide) (by decide)) (g := (mkF m 199 #[.val (.int p0), .val (.int p1), .val (.int p2), .val (.int (4 : Int32)), .val (.ref b1), .val (.ref b63), .unset] [(.int (4 : Int32)), (.ref b63)])) rfl (by rw [hml]; rfl) (argsL := [(.ref b63), (.int (4 : Int32))]) (rest := []) (lenOf pd92f6cd8e rfl) rfl (by show 2 * 0 + _ ≤ _; exact Nat.le_of_eq rfl) (hb hby at_199) (fun _ _ => ⟨rfl, e79, (by decide : 2 + 0 ≤ _), (by decide : 12 + 0 ≤ _)⟩)
    dsimp only [Pt.U, Pt.locs, Pt.cells, Pt.slots] at X80 l80 y80 z80 st80 hQ80
    subst l80 y80 z80
    obtain ⟨rfl, N80q, e80⟩ := hQ80
    have N80 := Fr.app N79 N80q
    refine Go.st (fun _ k => st80 _ k) ?_
    show Go p e below _ (T80.setTop (mkF m 202 #[.val (.int p0), .val (.int p1), .val (.int p2), .val (.int (4 : Int32)), .val (.ref b1), .val (.ref b63), .unset] [(.int (own_scan [(.int (nar .byte y65)), (.int (nar .byte y69)), (.int (nar .byte y73)), (.int (nar .byte y77))] (4 : Int32) 8 0))]))
    refine Go.st (fun _ k => XS.istore X80.here hx rfl (hb hby at_202) rfl (l' := #[.val (.int p0), .val (.int p1), .val (.int p2), .val (.int (4 : Int32)), .val (.ref b1), .val (.ref b63), .val (.int (own_scan [(.int (nar .byte y65)), (.int (nar .byte y69)), (.int (nar .byte y73)), (.int (nar .byte y77))] (4 : Int32) 8 0))]) rfl k) ?_
    show Go p e below _ (T80.setTop (mkF m 204 #[.val (.int p0), .val (.int p1), .val (.int p2), .val (.int (4 : Int32)), .val (.ref b1), .val (.ref b63), .val (.int (own_scan [(.int (nar .byte y65)), (.int (nar .byte y69)), (.int (nar .byte y73)), (.int (nar .byte y77))] (4 : Int32) 8 0))] []))
    refine Go.st (fun _ k => XS.aload X80.here hx rfl (hb hby at_204) rfl rfl k) ?_
    show Go p e below _ (T80.setTop (mkF m 206 #[.val (.int p0), .val (.int p1), .val (.int p2), .val (.int (4 : Int32)), .val (.ref b1), .val (.ref b63), .val (.int (own_scan [(.int (nar .byte y65)), (.int (nar .byte y69)), (.int (nar .byte y73)), (.int (nar .byte y77))] (4 : Int32) 8 0))] [(.ref b63)]))
    obtain ⟨_, _, ⟨T81, L81, k81, n81⟩, -, X81, ⟨Lc81, hQ81, l81, y81, z81⟩, st81⟩ := Jvm.LawKit.callS X80 hx (y := (⟨"com/example/apportis/apportis/Utf8", "firstInvalid", "([B)I"⟩ : MethodName)) hown (mvT hZ (hw _ (List.mem_of_getElem? (i := 9) rfl))) (mvT hZ (hw _ (List.mem_of_getElem? (i := 10) rfl))) (mvT hZ (hw _ (List.mem_of_getElem? (i := 11) rfl))) (mvT hZ (hw _ (List.mem_of_getElem? (i := 12) rfl))) (by decide) (backOf (W := 0) (rmFI l Z aZ hw [] b63 k63 (4 : Int32) [(.int (nar .byte y65)), (.int (nar .byte y69)), (.int (nar .byte y73)), (.int (nar .byte y77))] h79 n0 (by decide) (own_byt4 y65 y69 y73 y77) (by decide) (own_int4 y65 y69 y73 y77) V79) hZ (hw _ (List.mem_of_getElem? (i := 12) rfl)) (hw _ (List.mem_of_getElem? (i := 11) rfl)) (by decide) (by decide)) (g := (mkF m 206 #[.val (.int p0), .val (.int p1), .val (.int p2), .val (.int (4 : Int32)), .val (.ref b1), .val (.ref b63), .val (.int (own_scan [(.int (nar .byte y65)), (.int (nar .byte y69)), (.int (nar .byte y73)), (.int (nar .byte y77))] (4 : Int32) 8 0))] [(.ref b63)])) rfl (by rw [hml]; rfl) (argsL := [(.ref b63)]) (rest := []) (lenOf pdca677057 rfl) rfl (by show 2 * 0 + _ ≤ _; exact Nat.le_of_eq rfl) (hb hby at_206) (fun _ _ => ⟨rfl, e80, (by decide : 2 + 0 ≤ _), (by decide : 12 + 0 ≤ _)⟩)
    dsimp only [Pt.U, Pt.locs, Pt.cells, Pt.slots] at X81 l81 y81 z81 st81 hQ81
    subst l81 y81 z81
    obtain ⟨rfl, N81q, e81⟩ := hQ81
    have N81 := Fr.app N80 N81q
    refine Go.st (fun _ k => st81 _ k) ?_
    show Go p e below _ (T81.setTop (mkF m 209 #[.val (.int p0), .val (.int p1), .val (.int p2), .val (.int (4 : Int32)), .val (.ref b1), .val (.ref b63), .val (.int (own_scan [(.int (nar .byte y65)), (.int (nar .byte y69)), (.int (nar .byte y73)), (.int (nar .byte y77))] (4 : Int32) 8 0))] [(.int (own_scan [(.int (nar .byte y65)), (.int (nar .byte y69)), (.int (nar .byte y73)), (.int (nar .byte y77))] (4 : Int32) ((4 : Int32).toInt.toNat + 1) 0))]))
    refine Go.st (fun _ k => XS.iload X81.here hx rfl (hb hby at_209) rfl k) ?_
    refine Go.st (fun _ k => XS.icmpNo X81.here hx rfl (hb hby at_211) rfl (teq (own_fuel (own_byt4 y65 y69 y73 y77) (by decide) (by decide) (by decide))).2 k) ?_
    show Go p e below _ (T81.setTop (mkF m 214 #[.val (.int p0), .val (.int p1), .val (.int p2), .val (.int (4 : Int32)), .val (.ref b1), .val (.ref b63), .val (.int (own_scan [(.int (nar .byte y65)), (.int (nar .byte y69)), (.int (nar .byte y73)), (.int (nar .byte y77))] (4 : Int32) 8 0))] []))
    refine Go.st (fun _ k => XS.iconst X81.here hx rfl (hb hby at_214) k) ?_
    refine Go.st (fun _ k => XS.goto X81.here hx rfl (pc0 := 215) (pc' := 219) rfl (hb hby at_215) (by decide) (by decide) k) ?_
    show Go p e below _ (T81.setTop (mkF m 219 #[.val (.int p0), .val (.int p1), .val (.int p2), .val (.int (4 : Int32)), .val (.ref b1), .val (.ref b63), .val (.int (own_scan [(.int (nar .byte y65)), (.int (nar .byte y69)), (.int (nar .byte y73)), (.int (nar .byte y77))] (4 : Int32) 8 0))] [(.int (1 : Int32))]))
    obtain ⟨fs, hr, hrun, hended, hW, hsame⟩ := X81.leave (v := some (.int (1 : Int32))) (fun h => by rw [Bd.returns] at h; cases h)
    refine ⟨_, _, retN X81 hx (t := .boolean) Bd.returns (by simp) (hb hby at_219) hr, hrun, hended, _, _, rfl, ?_, ⟨_, rfl⟩, hW, hsame.mono (by decide) (by decide)⟩
    show Q_rm0 Z p0 p1 p2 h0 n0 _ T81.heap _
    rw [e81]
    exact ⟨rfl, N81⟩
  · rw [hr26]
    show Go p e below _ (T25.setTop (mkF m 82 #[.val (.int p0), .val (.int p1), .val (.int p2), .val (.int (5 : Int32)), .val (.ref b1), .unset, .unset] []))
    refine Go.st (fun _ k => XS.iloadN X25.here hx rfl (hb hby at_82) rfl k) ?_
    show Go p e below _ (T25.setTop (mkF m 83 #[.val (.int p0), .val (.int p1), .val (.int p2), .val (.int (5 : Int32)), .val (.ref b1), .unset, .unset] [(.int (5 : Int32))]))
    obtain ⟨T82, h82, k82, X82, e82, E82, A82, st82⟩ := newP X25 hx hZ (hw _ (List.mem_of_getElem? (i := 1) rfl)) e25 (g := (mkF m 83 #[.val (.int p0), .val (.int p1), .val (.int p2), .val (.int (5 : Int32)), .val (.ref b1), .unset, .unset] [(.int (5 : Int32))])) rfl (hb hby at_83) rfl (by decide) (cap := 5) (by decide) (by decide) (by decide) (by decide)
    obtain ⟨b82, g82⟩ : ∃ z, z = h25.size := ⟨_, rfl⟩
    have ne82_b1 : b1 ≠ b82 := Nat.ne_of_lt (Nat.lt_of_lt_of_le V25.lt (Nat.le_of_eq g82.symm))
    have gg82 : n0 ≤ b82 := Nat.le_trans Z25 (Nat.le_of_eq g82.symm)
    rw [← g82] at A82 st82
    have F82_V_b1 := V25.ext E82
    have Z82 : n0 ≤ h82.size := Nat.le_trans Z25 E82.1
    have V82 : Arv Z h82 b82 k82 .byte (5 : Int32) [(.int (0 : Int32)), (.int (0 : Int32)), (.int (0 : Int32)), (.int (0 : Int32)), (.int (0 : Int32))] (.int (0 : Int32)) := (Arv.new A82 (by decide)).pad (pad_rep [] (.int (0 : Int32)) 5)
    refine Go.st (fun _ k => st82 _ k) ?_
    show Go p e below _ (T82.setTop (mkF m 85 #[.val (.int p0), .val (.int p1), .val (.int p2), .val (.int (5 : Int32)), .val (.ref b1), .unset, .unset] [(.ref b82)]))
    refine Go.st (fun _ k => XS.astore X82.here hx rfl (hb hby at_85) rfl rfl (l' := #[.val (.int p0), .val (.int p1), .val (.int p2), .val (.int (5 : Int32)), .val (.ref b1), .val (.ref b82), .unset]) rfl k) ?_
    show Go p e below _ (T82.setTop (mkF m 87 #[.val (.int p0), .val (.int p1), .val (.int p2), .val (.int (5 : Int32)), .val (.ref b1), .val (.ref b82), .unset] []))
    refine Go.st (fun _ k => XS.iloadN X82.here hx rfl (hb hby at_87) rfl k) ?_
    refine Go.st (fun _ k => XS.ifNo X82.here hx rfl (hb hby at_88) rfl ((if0 _ _).trans (tlt (by decide : ((0 : Int32) < (5 : Int32)))).2.2.2) k) ?_
    show Go p e below _ (T82.setTop (mkF m 91 #[.val (.int p0), .val (.int p1), .val (.int p2), .val (.int (5 : Int32)), .val (.ref b1), .val (.ref b82), .unset] []))
    refine Go.st (fun _ k => XS.aload X82.here hx rfl (hb hby at_91) rfl rfl k) ?_
    refine Go.st (fun _ k => XS.iconst X82.here hx rfl (hb hby at_93) k) ?_
    show Go p e below _ (T82.setTop (mkF m 94 #[.val (.int p0), .val (.int p1), .val (.int p2), .val (.int (5 : Int32)), .val (.ref b1), .val (.ref b82), .unset] [(.int (0 : Int32)), (.ref b82)]))
    refine Go.st (fun _ k => XS.aload X82.here hx rfl (hb hby at_94) rfl rfl k) ?_
    refine Go.st (fun _ k => XS.iconst X82.here hx rfl (hb hby at_96) k) ?_
    show Go p e below _ (T82.setTop (mkF m 97 #[.val (.int p0), .val (.int p1), .val (.int p2), .val (.int (5 : Int32)), .val (.ref b1), .val (.ref b82), .unset] [(.int (0 : Int32)), (.ref b1), (.int (0 : Int32)), (.ref b82)]))
    obtain ⟨cl83, Ar83, ck83, Sz83, Nn83, Hs83, Gs83⟩ := id F82_V_b1
    have hin83 : ¬ ((0 : Int32) < 0 ∨ cl83.slots.size ≤ ((0 : Int32)).toNatClampNeg) := inb_of Sz83 ⟨by decide, by decide⟩
    have hat83 : cl83.slots[((0 : Int32)).toNatClampNeg]? = some (.int (nar .byte y2)) := Hs83.at hin83 rfl
    refine Go.st (fun _ k => X82.baloadBytes hx (j := (0 : Int32)) (v := (.int (nar .byte y2))) (by rw [e82]; exact Ar83.1) (State.isArrayOf_alike hZ.alike Ar83.2.1) Ar83.2.2 hin83 hat83 (g := (mkF m 97 #[.val (.int p0), .val (.int p1), .val (.int p2), .val (.int (5 : Int32)), .val (.ref b1), .val (.ref b82), .unset] [(.int (0 : Int32)), (.ref b1), (.int (0 : Int32)), (.ref b82)])) rfl rfl (hb hby at_97) _ k) ?_
    show Go p e below _ (T82.setTop (mkF m 98 #[.val (.int p0), .val (.int p1), .val (.int p2), .val (.int (5 : Int32)), .val (.ref b1), .val (.ref b82), .unset] [(.int (nar .byte y2)), (.int (0 : Int32)), (.ref b82)]))
    generalize hy84 : (nar .byte y2) = y84
    show Go p e below _ (T82.setTop (mkF m 98 #[.val (.int p0), .val (.int p1), .val (.int p2), .val (.int (5 : Int32)), .val (.ref b1), .val (.ref b82), .unset] [(.int y84), (.int (0 : Int32)), (.ref b82)]))
    obtain ⟨cl85, Ar85, ck85, Sz85, Nn85, Hs85, Gs85⟩ := id V82
    have hin85 : ¬ ((0 : Int32) < 0 ∨ cl85.slots.size ≤ ((0 : Int32)).toNatClampNeg) := inb_of Sz85 ⟨by decide, by decide⟩
    obtain ⟨T86, h86, X86, e86, W86, st86⟩ := stB X82 hx hZ e82 Ar85 (j := (0 : Int32)) hin85 (g := (mkF m 98 #[.val (.int p0), .val (.int p1), .val (.int p2), .val (.int (5 : Int32)), .val (.ref b1), .val (.ref b82), .unset] [(.int y84), (.int (0 : Int32)), (.ref b82)])) rfl rfl (hb hby at_98)
    have F86_V_b1 := F82_V_b1.other W86 ne82_b1
    have V86 : Arv Z h86 b82 k82 .byte (5 : Int32) [(.int (nar .byte y84)), (.int (0 : Int32)), (.int (0 : Int32)), (.int (0 : Int32)), (.int (0 : Int32))] (.int (0 : Int32)) := Arv.set Ar85 ck85 Sz85 Nn85 Hs85 Gs85 (fits_nar_byte _) W86 0 rfl (Nat.le_of_ble_eq_true rfl)
    have N86 := Fr.snoc X86 N25 gg82
    have Z86 : n0 ≤ h86.size := by rw [W86.size]; exact Z82
    refine Go.st (fun _ k => st86 _ k) ?_
    show Go p e below _ (T86.setTop (mkF m 99 #[.val (.int p0), .val (.int p1), .val (.int p2), .val (.int (5 : Int32)), .val (.ref b1), .val (.ref b82), .unset] []))
    refine Go.st (fun _ k => XS.iloadN X86.here hx rfl (hb hby at_99) rfl k) ?_
    refine Go.st (fun _ k => XS.iconst X86.here hx rfl (hb hby at_100) k) ?_
    show Go p e below _ (T86.setTop (mkF m 101 #[.val (.int p0), .val (.int p1), .val (.int p2), .val (.int (5 : Int32)), .val (.ref b1), .val (.ref b82), .unset] [(.int (1 : Int32)), (.int (5 : Int32))]))
    refine Go.st (fun _ k => XS.icmpNo X86.here hx rfl (hb hby at_101) rfl (tlt (by decide : ((1 : Int32) < (5 : Int32)))).2.2.2 k) ?_
    show Go p e below _ (T86.setTop (mkF m 104 #[.val (.int p0), .val (.int p1), .val (.int p2), .val (.int (5 : Int32)), .val (.ref b1), .val (.ref b82), .unset] []))
    refine Go.st (fun _ k => XS.aload X86.here hx rfl (hb hby at_104) rfl rfl k) ?_
    refine Go.st (fun _ k => XS.iconst X86.here hx rfl (hb hby at_106) k) ?_
    show Go p e below _ (T86.setTop (mkF m 107 #[.val (.int p0), .val (.int p1), .val (.int p2), .val (.int (5 : Int32)), .val (.ref b1), .val (.ref b82), .unset] [(.int (1 : Int32)), (.ref b82)]))
    refine Go.st (fun _ k => XS.aload X86.here hx rfl (hb hby at_107) rfl rfl k) ?_
    refine Go.st (fun _ k => XS.iconst X86.here hx rfl (hb hby at_109) k) ?_
    show Go p e below _ (T86.setTop (mkF m 110 #[.val (.int p0), .val (.int p1), .val (.int p2), .val (.int (5 : Int32)), .val (.ref b1), .val (.ref b82), .unset] [(.int (1 : Int32)), (.ref b1), (.int (1 : Int32)), (.ref b82)]))
    obtain ⟨cl87, Ar87, ck87, Sz87, Nn87, Hs87, Gs87⟩ := id F86_V_b1
    have hin87 : ¬ ((1 : Int32) < 0 ∨ cl87.slots.size ≤ ((1 : Int32)).toNatClampNeg) := inb_of Sz87 ⟨by decide, by decide⟩
    have hat87 : cl87.slots[((1 : Int32)).toNatClampNeg]? = some (.int (nar .byte y5)) := Hs87.at hin87 rfl
    refine Go.st (fun _ k => X86.baloadBytes hx (j := (1 : Int32)) (v := (.int (nar .byte y5))) (by rw [e86]; exact Ar87.1) (State.isArrayOf_alike hZ.alike Ar87.2.1) Ar87.2.2 hin87 hat87 (g := (mkF m 110 #[.val (.int p0), .val (.int p1), .val (.int p2), .val (.int (5 : Int32)), .val (.ref b1), .val (.ref b82), .unset] [(.int (1 : Int32)), (.ref b1), (.int (1 : Int32)), (.ref b82)])) rfl rfl (hb hby at_110) _ k) ?_
    show Go p e below _ (T86.setTop (mkF m 111 #[.val (.int p0), .val (.int p1), .val (.int p2), .val (.int (5 : Int32)), .val (.ref b1), .val (.ref b82), .unset] [(.int (nar .byte y5)), (.int (1 : Int32)), (.ref b82)]))
    generalize hy88 : (nar .byte y5) = y88
    show Go p e below _ (T86.setTop (mkF m 111 #[.val (.int p0), .val (.int p1), .val (.int p2), .val (.int (5 : Int32)), .val (.ref b1), .val (.ref b82), .unset] [(.int y88), (.int (1 : Int32)), (.ref b82)]))
    obtain ⟨cl89, Ar89, ck89, Sz89, Nn89, Hs89, Gs89⟩ := id V86
    have hin89 : ¬ ((1 : Int32) < 0 ∨ cl89.slots.size ≤ ((1 : Int32)).toNatClampNeg) := inb_of Sz89 ⟨by decide, by decide⟩
    obtain ⟨T90, h90, X90, e90, W90, st90⟩ := stB X86 hx hZ e86 Ar89 (j := (1 : Int32)) hin89 (g := (mkF m 111 #[.val (.int p0), .val (.int p1), .val (.int p2), .val (.int (5 : Int32)), .val (.ref b1), .val (.ref b82), .unset] [(.int y88), (.int (1 : Int32)), (.ref b82)])) rfl rfl (hb hby at_111)
    have F90_V_b1 := F86_V_b1.other W90 ne82_b1
    have V90 : Arv Z h90 b82 k82 .byte (5 : Int32) [(.int (nar .byte y84)), (.int (nar .byte y88)), (.int (0 : Int32)), (.int (0 : Int32)), (.int (0 : Int32))] (.int (0 : Int32)) := Arv.set Ar89 ck89 Sz89 Nn89 Hs89 Gs89 (fits_nar_byte _) W90 1 rfl (Nat.le_of_ble_eq_true rfl)
    have N90 := Fr.snoc X90 N86 gg82
    have Z90 : n0 ≤ h90.size := by rw [W90.size]; exact Z86
    refine Go.st (fun _ k => st90 _ k) ?_
    show Go p e below _ (T90.setTop (mkF m 112 #[.val (.int p0), .val (.int p1), .val (.int p2), .val (.int (5 : Int32)), .val (.ref b1), .val (.ref b82), .unset] []))
    refine Go.st (fun _ k => XS.iloadN X90.here hx rfl (hb hby at_112) rfl k) ?_
    refine Go.st (fun _ k => XS.iconst X90.here hx rfl (hb hby at_113) k) ?_
    show Go p e below _ (T90.setTop (mkF m 114 #[.val (.int p0), .val (.int p1), .val (.int p2), .val (.int (5 : Int32)), .val (.ref b1), .val (.ref b82), .unset] [(.int (2 : Int32)), (.int (5 : Int32))]))
    refine Go.st (fun _ k => XS.icmpNo X90.here hx rfl (hb hby at_114) rfl (tlt (by decide : ((2 : Int32) < (5 : Int32)))).2.2.2 k) ?_
    show Go p e below _ (T90.setTop (mkF m 117 #[.val (.int p0), .val (.int p1), .val (.int p2), .val (.int (5 : Int32)), .val (.ref b1), .val (.ref b82), .unset] []))
    refine Go.st (fun _ k => XS.aload X90.here hx rfl (hb hby at_117) rfl rfl k) ?_
    refine Go.st (fun _ k => XS.iconst X90.here hx rfl (hb hby at_119) k) ?_
    show Go p e below _ (T90.setTop (mkF m 120 #[.val (.int p0), .val (.int p1), .val (.int p2), .val (.int (5 : Int32)), .val (.ref b1), .val (.ref b82), .unset] [(.int (2 : Int32)), (.ref b82)]))
    refine Go.st (fun _ k => XS.aload X90.here hx rfl (hb hby at_120) rfl rfl k) ?_
    refine Go.st (fun _ k => XS.iconst X90.here hx rfl (hb hby at_122) k) ?_
    show Go p e below _ (T90.setTop (mkF m 123 #[.val (.int p0), .val (.int p1), .val (.int p2), .val (.int (5 : Int32)), .val (.ref b1), .val (.ref b82), .unset] [(.int (2 : Int32)), (.ref b1), (.int (2 : Int32)), (.ref b82)]))
    obtain ⟨cl91, Ar91, ck91, Sz91, Nn91, Hs91, Gs91⟩ := id F90_V_b1
    have hin91 : ¬ ((2 : Int32) < 0 ∨ cl91.slots.size ≤ ((2 : Int32)).toNatClampNeg) := inb_of Sz91 ⟨by decide, by decide⟩
    have hat91 : cl91.slots[((2 : Int32)).toNatClampNeg]? = some (.int (nar .byte y8)) := Hs91.at hin91 rfl
    refine Go.st (fun _ k => X90.baloadBytes hx (j := (2 : Int32)) (v := (.int (nar .byte y8))) (by rw [e90]; exact Ar91.1) (State.isArrayOf_alike hZ.alike Ar91.2.1) Ar91.2.2 hin91 hat91 (g := (mkF m 123 #[.val (.int p0), .val (.int p1), .val (.int p2), .val (.int (5 : Int32)), .val (.ref b1), .val (.ref b82), .unset] [(.int (2 : Int32)), (.ref b1), (.int (2 : Int32)), (.ref b82)])) rfl rfl (hb hby at_123) _ k) ?_
    show Go p e below _ (T90.setTop (mkF m 124 #[.val (.int p0), .val (.int p1), .val (.int p2), .val (.int (5 : Int32)), .val (.ref b1), .val (.ref b82), .unset] [(.int (nar .byte y8)), (.int (2 : Int32)), (.ref b82)]))
    generalize hy92 : (nar .byte y8) = y92
    show Go p e below _ (T90.setTop (mkF m 124 #[.val (.int p0), .val (.int p1), .val (.int p2), .val (.int (5 : Int32)), .val (.ref b1), .val (.ref b82), .unset] [(.int y92), (.int (2 : Int32)), (.ref b82)]))
    obtain ⟨cl93, Ar93, ck93, Sz93, Nn93, Hs93, Gs93⟩ := id V90
    have hin93 : ¬ ((2 : Int32) < 0 ∨ cl93.slots.size ≤ ((2 : Int32)).toNatClampNeg) := inb_of Sz93 ⟨by decide, by decide⟩
    obtain ⟨T94, h94, X94, e94, W94, st94⟩ := stB X90 hx hZ e90 Ar93 (j := (2 : Int32)) hin93 (g := (mkF m 124 #[.val (.int p0), .val (.int p1), .val (.int p2), .val (.int (5 : Int32)), .val (.ref b1), .val (.ref b82), .unset] [(.int y92), (.int (2 : Int32)), (.ref b82)])) rfl rfl (hb hby at_124)
    have F94_V_b1 := F90_V_b1.other W94 ne82_b1
    have V94 : Arv Z h94 b82 k82 .byte (5 : Int32) [(.int (nar .byte y84)), (.int (nar .byte y88)), (.int (nar .byte y92)), (.int (0 : Int32)), (.int (0 : Int32))] (.int (0 : Int32)) := Arv.set Ar93 ck93 Sz93 Nn93 Hs93 Gs93 (fits_nar_byte _) W94 2 rfl (Nat.le_of_ble_eq_true rfl)
    have N94 := Fr.snoc X94 N90 gg82
    have Z94 : n0 ≤ h94.size := by rw [W94.size]; exact Z90
    refine Go.st (fun _ k => st94 _ k) ?_
    show Go p e below _ (T94.setTop (mkF m 125 #[.val (.int p0), .val (.int p1), .val (.int p2), .val (.int (5 : Int32)), .val (.ref b1), .val (.ref b82), .unset] []))
    refine Go.st (fun _ k => XS.iloadN X94.here hx rfl (hb hby at_125) rfl k) ?_
    refine Go.st (fun _ k => XS.iconst X94.here hx rfl (hb hby at_126) k) ?_
    show Go p e below _ (T94.setTop (mkF m 127 #[.val (.int p0), .val (.int p1), .val (.int p2), .val (.int (5 : Int32)), .val (.ref b1), .val (.ref b82), .unset] [(.int (3 : Int32)), (.int (5 : Int32))]))
    refine Go.st (fun _ k => XS.icmpNo X94.here hx rfl (hb hby at_127) rfl (tlt (by decide : ((3 : Int32) < (5 : Int32)))).2.2.2 k) ?_
    show Go p e below _ (T94.setTop (mkF m 130 #[.val (.int p0), .val (.int p1), .val (.int p2), .val (.int (5 : Int32)), .val (.ref b1), .val (.ref b82), .unset] []))
    refine Go.st (fun _ k => XS.aload X94.here hx rfl (hb hby at_130) rfl rfl k) ?_
    refine Go.st (fun _ k => XS.iconst X94.here hx rfl (hb hby at_132) k) ?_
    show Go p e below _ (T94.setTop (mkF m 133 #[.val (.int p0), .val (.int p1), .val (.int p2), .val (.int (5 : Int32)), .val (.ref b1), .val (.ref b82), .unset] [(.int (3 : Int32)), (.ref b82)]))
    refine Go.st (fun _ k => XS.aload X94.here hx rfl (hb hby at_133) rfl rfl k) ?_
    refine Go.st (fun _ k => XS.iconst X94.here hx rfl (hb hby at_135) k) ?_
    show Go p e below _ (T94.setTop (mkF m 136 #[.val (.int p0), .val (.int p1), .val (.int p2), .val (.int (5 : Int32)), .val (.ref b1), .val (.ref b82), .unset] [(.int (3 : Int32)), (.ref b1), (.int (3 : Int32)), (.ref b82)]))
    obtain ⟨cl95, Ar95, ck95, Sz95, Nn95, Hs95, Gs95⟩ := id F94_V_b1
    have hin95 : ¬ ((3 : Int32) < 0 ∨ cl95.slots.size ≤ ((3 : Int32)).toNatClampNeg) := inb_of Sz95 ⟨by decide, by decide⟩
    have hat95 : cl95.slots[((3 : Int32)).toNatClampNeg]? = some (.int (nar .byte y11)) := Hs95.at hin95 rfl
    refine Go.st (fun _ k => X94.baloadBytes hx (j := (3 : Int32)) (v := (.int (nar .byte y11))) (by rw [e94]; exact Ar95.1) (State.isArrayOf_alike hZ.alike Ar95.2.1) Ar95.2.2 hin95 hat95 (g := (mkF m 136 #[.val (.int p0), .val (.int p1), .val (.int p2), .val (.int (5 : Int32)), .val (.ref b1), .val (.ref b82), .unset] [(.int (3 : Int32)), (.ref b1), (.int (3 : Int32)), (.ref b82)])) rfl rfl (hb hby at_136) _ k) ?_
    show Go p e below _ (T94.setTop (mkF m 137 #[.val (.int p0), .val (.int p1), .val (.int p2), .val (.int (5 : Int32)), .val (.ref b1), .val (.ref b82), .unset] [(.int (nar .byte y11)), (.int (3 : Int32)), (.ref b82)]))
    generalize hy96 : (nar .byte y11) = y96
    show Go p e below _ (T94.setTop (mkF m 137 #[.val (.int p0), .val (.int p1), .val (.int p2), .val (.int (5 : Int32)), .val (.ref b1), .val (.ref b82), .unset] [(.int y96), (.int (3 : Int32)), (.ref b82)]))
    obtain ⟨cl97, Ar97, ck97, Sz97, Nn97, Hs97, Gs97⟩ := id V94
    have hin97 : ¬ ((3 : Int32) < 0 ∨ cl97.slots.size ≤ ((3 : Int32)).toNatClampNeg) := inb_of Sz97 ⟨by decide, by decide⟩
    obtain ⟨T98, h98, X98, e98, W98, st98⟩ := stB X94 hx hZ e94 Ar97 (j := (3 : Int32)) hin97 (g := (mkF m 137 #[.val (.int p0), .val (.int p1), .val (.int p2), .val (.int (5 : Int32)), .val (.ref b1), .val (.ref b82), .unset] [(.int y96), (.int (3 : Int32)), (.ref b82)])) rfl rfl (hb hby at_137)
    have F98_V_b1 := F94_V_b1.other W98 ne82_b1
    have V98 : Arv Z h98 b82 k82 .byte (5 : Int32) [(.int (nar .byte y84)), (.int (nar .byte y88)), (.int (nar .byte y92)), (.int (nar .byte y96)), (.int (0 : Int32))] (.int (0 : Int32)) := Arv.set Ar97 ck97 Sz97 Nn97 Hs97 Gs97 (fits_nar_byte _) W98 3 rfl (Nat.le_of_ble_eq_true rfl)
    have N98 := Fr.snoc X98 N94 gg82
    have Z98 : n0 ≤ h98.size := by rw [W98.size]; exact Z94
    refine Go.st (fun _ k => st98 _ k) ?_
    show Go p e below _ (T98.setTop (mkF m 138 #[.val (.int p0), .val (.int p1), .val (.int p2), .val (.int (5 : Int32)), .val (.ref b1), .val (.ref b82), .unset] []))
    refine Go.st (fun _ k => XS.iloadN X98.here hx rfl (hb hby at_138) rfl k) ?_
    refine Go.st (fun _ k => XS.iconst X98.here hx rfl (hb hby at_139) k) ?_
    show Go p e below _ (T98.setTop (mkF m 140 #[.val (.int p0), .val (.int p1), .val (.int p2), .val (.int (5 : Int32)), .val (.ref b1), .val (.ref b82), .unset] [(.int (4 : Int32)), (.int (5 : Int32))]))
    refine Go.st (fun _ k => XS.icmpNo X98.here hx rfl (hb hby at_140) rfl (tlt (by decide : ((4 : Int32) < (5 : Int32)))).2.2.2 k) ?_
    show Go p e below _ (T98.setTop (mkF m 143 #[.val (.int p0), .val (.int p1), .val (.int p2), .val (.int (5 : Int32)), .val (.ref b1), .val (.ref b82), .unset] []))
    refine Go.st (fun _ k => XS.aload X98.here hx rfl (hb hby at_143) rfl rfl k) ?_
    refine Go.st (fun _ k => XS.iconst X98.here hx rfl (hb hby at_145) k) ?_
    show Go p e below _ (T98.setTop (mkF m 146 #[.val (.int p0), .val (.int p1), .val (.int p2), .val (.int (5 : Int32)), .val (.ref b1), .val (.ref b82), .unset] [(.int (4 : Int32)), (.ref b82)]))
    refine Go.st (fun _ k => XS.aload X98.here hx rfl (hb hby at_146) rfl rfl k) ?_
    refine Go.st (fun _ k => XS.iconst X98.here hx rfl (hb hby at_148) k) ?_
    show Go p e below _ (T98.setTop (mkF m 149 #[.val (.int p0), .val (.int p1), .val (.int p2), .val (.int (5 : Int32)), .val (.ref b1), .val (.ref b82), .unset] [(.int (4 : Int32)), (.ref b1), (.int (4 : Int32)), (.ref b82)]))
    obtain ⟨cl99, Ar99, ck99, Sz99, Nn99, Hs99, Gs99⟩ := id F98_V_b1
    have hin99 : ¬ ((4 : Int32) < 0 ∨ cl99.slots.size ≤ ((4 : Int32)).toNatClampNeg) := inb_of Sz99 ⟨by decide, by decide⟩
    have hat99 : cl99.slots[((4 : Int32)).toNatClampNeg]? = some (.int (nar .byte y14)) := Hs99.at hin99 rfl
    refine Go.st (fun _ k => X98.baloadBytes hx (j := (4 : Int32)) (v := (.int (nar .byte y14))) (by rw [e98]; exact Ar99.1) (State.isArrayOf_alike hZ.alike Ar99.2.1) Ar99.2.2 hin99 hat99 (g := (mkF m 149 #[.val (.int p0), .val (.int p1), .val (.int p2), .val (.int (5 : Int32)), .val (.ref b1), .val (.ref b82), .unset] [(.int (4 : Int32)), (.ref b1), (.int (4 : Int32)), (.ref b82)])) rfl rfl (hb hby at_149) _ k) ?_
    show Go p e below _ (T98.setTop (mkF m 150 #[.val (.int p0), .val (.int p1), .val (.int p2), .val (.int (5 : Int32)), .val (.ref b1), .val (.ref b82), .unset] [(.int (nar .byte y14)), (.int (4 : Int32)), (.ref b82)]))
    generalize hy100 : (nar .byte y14) = y100
    show Go p e below _ (T98.setTop (mkF m 150 #[.val (.int p0), .val (.int p1), .val (.int p2), .val (.int (5 : Int32)), .val (.ref b1), .val (.ref b82), .unset] [(.int y100), (.int (4 : Int32)), (.ref b82)]))
    obtain ⟨cl101, Ar101, ck101, Sz101, Nn101, Hs101, Gs101⟩ := id V98
    have hin101 : ¬ ((4 : Int32) < 0 ∨ cl101.slots.size ≤ ((4 : Int32)).toNatClampNeg) := inb_of Sz101 ⟨by decide, by decide⟩
    obtain ⟨T102, h102, X102, e102, W102, st102⟩ := stB X98 hx hZ e98 Ar101 (j := (4 : Int32)) hin101 (g := (mkF m 150 #[.val (.int p0), .val (.int p1), .val (.int p2), .val (.int (5 : Int32)), .val (.ref b1), .val (.ref b82), .unset] [(.int y100), (.int (4 : Int32)), (.ref b82)])) rfl rfl (hb hby at_150)
    have F102_V_b1 := F98_V_b1.other W102 ne82_b1
    have V102 : Arv Z h102 b82 k82 .byte (5 : Int32) [(.int (nar .byte y84)), (.int (nar .byte y88)), (.int (nar .byte y92)), (.int (nar .byte y96)), (.int (nar .byte y100))] (.int (0 : Int32)) := Arv.set Ar101 ck101 Sz101 Nn101 Hs101 Gs101 (fits_nar_byte _) W102 4 rfl (Nat.le_of_ble_eq_true rfl)
    have N102 := Fr.snoc X102 N98 gg82
    have Z102 : n0 ≤ h102.size := by rw [W102.size]; exact Z98
    refine Go.st (fun _ k => st102 _ k) ?_
    show Go p e below _ (T102.setTop (mkF m 151 #[.val (.int p0), .val (.int p1), .val (.int p2), .val (.int (5 : Int32)), .val (.ref b1), .val (.ref b82), .unset] []))
    refine Go.st (fun _ k => XS.iloadN X102.here hx rfl (hb hby at_151) rfl k) ?_
    refine Go.st (fun _ k => XS.iconst X102.here hx rfl (hb hby at_152) k) ?_
    show Go p e below _ (T102.setTop (mkF m 153 #[.val (.int p0), .val (.int p1), .val (.int p2), .val (.int (5 : Int32)), .val (.ref b1), .val (.ref b82), .unset] [(.int (5 : Int32)), (.int (5 : Int32))]))
    refine Go.st (fun _ k => XS.icmpYes X102.here hx rfl (pc0 := 153) (pc' := 164) rfl (hb hby at_153) rfl (flt (by decide : ¬ ((5 : Int32) < (5 : Int32)))).2.2.2 (by decide) (by decide) k) ?_
    show Go p e below _ (T102.setTop (mkF m 164 #[.val (.int p0), .val (.int p1), .val (.int p2), .val (.int (5 : Int32)), .val (.ref b1), .val (.ref b82), .unset] []))
    refine Go.st (fun _ k => XS.iloadN X102.here hx rfl (hb hby at_164) rfl k) ?_
    refine Go.st (fun _ k => XS.bipush X102.here hx rfl (hb hby at_165) k) ?_
    show Go p e below _ (T102.setTop (mkF m 167 #[.val (.int p0), .val (.int p1), .val (.int p2), .val (.int (5 : Int32)), .val (.ref b1), .val (.ref b82), .unset] [(.int (6 : Int32)), (.int (5 : Int32))]))
    refine Go.st (fun _ k => XS.icmpYes X102.here hx rfl (pc0 := 167) (pc' := 180) rfl (hb hby at_167) rfl (flt (by decide : ¬ ((6 : Int32) < (5 : Int32)))).2.2.2 (by decide) (by decide) k) ?_
    show Go p e below _ (T102.setTop (mkF m 180 #[.val (.int p0), .val (.int p1), .val (.int p2), .val (.int (5 : Int32)), .val (.ref b1), .val (.ref b82), .unset] []))
    refine Go.st (fun _ k => XS.iloadN X102.here hx rfl (hb hby at_180) rfl k) ?_
    refine Go.st (fun _ k => XS.bipush X102.here hx rfl (hb hby at_181) k) ?_
    show Go p e below _ (T102.setTop (mkF m 183 #[.val (.int p0), .val (.int p1), .val (.int p2), .val (.int (5 : Int32)), .val (.ref b1), .val (.ref b82), .unset] [(.int (7 : Int32)), (.int (5 : Int32))]))
    refine Go.st (fun _ k => XS.icmpYes X102.here hx rfl (pc0 := 183) (pc' := 196) rfl (hb hby at_183) rfl (flt (by decide : ¬ ((7 : Int32) < (5 : Int32)))).2.2.2 (by decide) (by decide) k) ?_
    show Go p e below _ (T102.setTop (mkF m 196 #[.val (.int p0), .val (.int p1), .val (.int p2), .val (.int (5 : Int32)), .val (.ref b1), .val (.ref b82), .unset] []))
    refine Go.st (fun _ k => XS.aload X102.here hx rfl (hb hby at_196) rfl rfl k) ?_
    refine Go.st (fun _ k => XS.iloadN X102.here hx rfl (hb hby at_198) rfl k) ?_
    show Go p e below _ (T102.setTop (mkF m 199 #[.val (.int p0), .val (.int p1), .val (.int p2), .val (.int (5 : Int32)), .val (.ref b1), .val (.ref b82), .unset] [(.int (5 : Int32)), (.ref b82)]))
    obtain ⟨_, _, ⟨T103, L103, k103, n103⟩, -, X103, ⟨Lc103, hQ103, l103, y103, z103⟩, st103⟩ := Jvm.LawKit.callS X102 hx (y := (⟨"com/example/apportis/apportis/Utf8FirstInvalidPinLaw", "reference", "([BI)I"⟩ : MethodName)) hown (mvT hZ (hw _ (List.mem_of_getElem? (i := 2) rfl))) (mvT hZ (hw _ (List.mem_of_getElem? (i := 3) rfl))) (mvT hZ (hw _ (List.mem_of_getElem? (i := 4) rfl))) (mvT hZ (hw _ (List.mem_of_getElem? (i := 5) rfl))) (by decide) (backOf (W := 0) (rmRef l Z aZ hw [] b82 (5 : Int32) k82 [(.int (nar .byte y84)), (.int (nar .byte y88)), (.int (nar .byte y92)), (.int (nar .byte y96)), (.int (nar .byte y100))] h102 n0 (by decide) (own_byt5 y84 y88 y92 y96 y100) (by decide) (own_int5 y84 y88 y92 y96 y100) V102) hZ (hw _ (List.mem_of_getElem? (i := 5) rfl)) (hw _ (List.mem_of_getElem? (i := 4) rfl)) (by decide) (by decide)) (g := (mkF m 199 #[.val (.int p0), .val (.int p1), .val (.int p2), .val (.int (5 : Int32)), .val (.ref b1), .val (.ref b82), .unset] [(.int (5 : Int32)), (.ref b82)])) rfl (by rw [hml]; rfl) (argsL := [(.ref b82), (.int (5 : Int32))]) (rest := []) (lenOf pd92f6cd8e rfl) rfl (by show 2 * 0 + _ ≤ _; exact Nat.le_of_eq rfl) (hb hby at_199) (fun _ _ => ⟨rfl, e102, (by decide : 2 + 0 ≤ _), (by decide : 13 + 0 ≤ _)⟩)
    dsimp only [Pt.U, Pt.locs, Pt.cells, Pt.slots] at X103 l103 y103 z103 st103 hQ103
    subst l103 y103 z103
    obtain ⟨rfl, N103q, e103⟩ := hQ103
    have N103 := Fr.app N102 N103q
    refine Go.st (fun _ k => st103 _ k) ?_
    show Go p e below _ (T103.setTop (mkF m 202 #[.val (.int p0), .val (.int p1), .val (.int p2), .val (.int (5 : Int32)), .val (.ref b1), .val (.ref b82), .unset] [(.int (own_scan [(.int (nar .byte y84)), (.int (nar .byte y88)), (.int (nar .byte y92)), (.int (nar .byte y96)), (.int (nar .byte y100))] (5 : Int32) 8 0))]))
    refine Go.st (fun _ k => XS.istore X103.here hx rfl (hb hby at_202) rfl (l' := #[.val (.int p0), .val (.int p1), .val (.int p2), .val (.int (5 : Int32)), .val (.ref b1), .val (.ref b82), .val (.int (own_scan [(.int (nar .byte y84)), (.int (nar .byte y88)), (.int (nar .byte y92)), (.int (nar .byte y96)), (.int (nar .byte y100))] (5 : Int32) 8 0))]) rfl k) ?_
    show Go p e below _ (T103.setTop (mkF m 204 #[.val (.int p0), .val (.int p1), .val (.int p2), .val (.int (5 : Int32)), .val (.ref b1), .val (.ref b82), .val (.int (own_scan [(.int (nar .byte y84)), (.int (nar .byte y88)), (.int (nar .byte y92)), (.int (nar .byte y96)), (.int (nar .byte y100))] (5 : Int32) 8 0))] []))
    refine Go.st (fun _ k => XS.aload X103.here hx rfl (hb hby at_204) rfl rfl k) ?_
    show Go p e below _ (T103.setTop (mkF m 206 #[.val (.int p0), .val (.int p1), .val (.int p2), .val (.int (5 : Int32)), .val (.ref b1), .val (.ref b82), .val (.int (own_scan [(.int (nar .byte y84)), (.int (nar .byte y88)), (.int (nar .byte y92)), (.int (nar .byte y96)), (.int (nar .byte y100))] (5 : Int32) 8 0))] [(.ref b82)]))
    obtain ⟨_, _, ⟨T104, L104, k104, n104⟩, -, X104, ⟨Lc104, hQ104, l104, y104, z104⟩, st104⟩ := Jvm.LawKit.callS X103 hx (y := (⟨"com/example/apportis/apportis/Utf8", "firstInvalid", "([B)I"⟩ : MethodName)) hown (mvT hZ (hw _ (List.mem_of_getElem? (i := 9) rfl))) (mvT hZ (hw _ (List.mem_of_getElem? (i := 10) rfl))) (mvT hZ (hw _ (List.mem_of_getElem? (i := 11) rfl))) (mvT hZ (hw _ (List.mem_of_getElem? (i := 12) rfl))) (by decide) (backOf (W := 0) (rmFI l Z aZ hw [] b82 k82 (5 : Int32) [(.int (nar .byte y84)), (.int (nar .byte y88)), (.int (nar .byte y92)), (.int (nar .byte y96)), (.int (nar .byte y100))] h102 n0 (by decide) (own_byt5 y84 y88 y92 y96 y100) (by decide) (own_int5 y84 y88 y92 y96 y100) V102) hZ (hw _ (List.mem_of_getElem? (i := 12) rfl)) (hw _ (List.mem_of_getElem? (i := 11) rfl)) (by decide) (by decide)) (g := (mkF m 206 #[.val (.int p0), .val (.int p1), .val (.int p2), .val (.int (5 : Int32)), .val (.ref b1), .val (.ref b82), .val (.int (own_scan [(.int (nar .byte y84)), (.int (nar .byte y88)), (.int (nar .byte y92)), (.int (nar .byte y96)), (.int (nar .byte y100))] (5 : Int32) 8 0))] [(.ref b82)])) rfl (by rw [hml]; rfl) (argsL := [(.ref b82)]) (rest := []) (lenOf pdca677057 rfl) rfl (by show 2 * 0 + _ ≤ _; exact Nat.le_of_eq rfl) (hb hby at_206) (fun _ _ => ⟨rfl, e103, (by decide : 2 + 0 ≤ _), (by decide : 13 + 0 ≤ _)⟩)
    dsimp only [Pt.U, Pt.locs, Pt.cells, Pt.slots] at X104 l104 y104 z104 st104 hQ104
    subst l104 y104 z104
    obtain ⟨rfl, N104q, e104⟩ := hQ104
    have N104 := Fr.app N103 N104q
    refine Go.st (fun _ k => st104 _ k) ?_
    show Go p e below _ (T104.setTop (mkF m 209 #[.val (.int p0), .val (.int p1), .val (.int p2), .val (.int (5 : Int32)), .val (.ref b1), .val (.ref b82), .val (.int (own_scan [(.int (nar .byte y84)), (.int (nar .byte y88)), (.int (nar .byte y92)), (.int (nar .byte y96)), (.int (nar .byte y100))] (5 : Int32) 8 0))] [(.int (own_scan [(.int (nar .byte y84)), (.int (nar .byte y88)), (.int (nar .byte y92)), (.int (nar .byte y96)), (.int (nar .byte y100))] (5 : Int32) ((5 : Int32).toInt.toNat + 1) 0))]))
    refine Go.st (fun _ k => XS.iload X104.here hx rfl (hb hby at_209) rfl k) ?_
    refine Go.st (fun _ k => XS.icmpNo X104.here hx rfl (hb hby at_211) rfl (teq (own_fuel (own_byt5 y84 y88 y92 y96 y100) (by decide) (by decide) (by decide))).2 k) ?_
    show Go p e below _ (T104.setTop (mkF m 214 #[.val (.int p0), .val (.int p1), .val (.int p2), .val (.int (5 : Int32)), .val (.ref b1), .val (.ref b82), .val (.int (own_scan [(.int (nar .byte y84)), (.int (nar .byte y88)), (.int (nar .byte y92)), (.int (nar .byte y96)), (.int (nar .byte y100))] (5 : Int32) 8 0))] []))
    refine Go.st (fun _ k => XS.iconst X104.here hx rfl (hb hby at_214) k) ?_
    refine Go.st (fun _ k => XS.goto X104.here hx rfl (pc0 := 215) (pc' := 219) rfl (hb hby at_215) (by decide) (by decide) k) ?_
    show Go p e below _ (T104.setTop (mkF m 219 #[.val (.int p0), .val (.int p1), .val (.int p2), .val (.int (5 : Int32)), .val (.ref b1), .val (.ref b82), .val (.int (own_scan [(.int (nar .byte y84)), (.int (nar .byte y88)), (.int (nar .byte y92)), (.int (nar .byte y96)), (.int (nar .byte y100))] (5 : Int32) 8 0))] [(.int (1 : Int32))]))
    obtain ⟨fs, hr, hrun, hended, hW, hsame⟩ := X104.leave (v := some (.int (1 : Int32))) (fun h => by rw [Bd.returns] at h; cases h)
    refine ⟨_, _, retN X104 hx (t := .boolean) Bd.returns (by simp) (hb hby at_219) hr, hrun, hended, _, _, rfl, ?_, ⟨_, rfl⟩, hW, hsame.mono (by decide) (by decide)⟩
    show Q_rm0 Z p0 p1 p2 h0 n0 _ T104.heap _
    rw [e104]
    exact ⟨rfl, N104⟩
  · rw [hr26]
    show Go p e below _ (T25.setTop (mkF m 82 #[.val (.int p0), .val (.int p1), .val (.int p2), .val (.int (6 : Int32)), .val (.ref b1), .unset, .unset] []))
    refine Go.st (fun _ k => XS.iloadN X25.here hx rfl (hb hby at_82) rfl k) ?_
    show Go p e below _ (T25.setTop (mkF m 83 #[.val (.int p0), .val (.int p1), .val (.int p2), .val (.int (6 : Int32)), .val (.ref b1), .unset, .unset] [(.int (6 : Int32))]))
    obtain ⟨T105, h105, k105, X105, e105, E105, A105, st105⟩ := newP X25 hx hZ (hw _ (List.mem_of_getElem? (i := 1) rfl)) e25 (g := (mkF m 83 #[.val (.int p0), .val (.int p1), .val (.int p2), .val (.int (6 : Int32)), .val (.ref b1), .unset, .unset] [(.int (6 : Int32))])) rfl (hb hby at_83) rfl (by decide) (cap := 6) (by decide) (by decide) (by decide) (by decide)
    obtain ⟨b105, g105⟩ : ∃ z, z = h25.size := ⟨_, rfl⟩
    have ne105_b1 : b1 ≠ b105 := Nat.ne_of_lt (Nat.lt_of_lt_of_le V25.lt (Nat.le_of_eq g105.symm))
    have gg105 : n0 ≤ b105 := Nat.le_trans Z25 (Nat.le_of_eq g105.symm)
    rw [← g105] at A105 st105
    have F105_V_b1 := V25.ext E105
    have Z105 : n0 ≤ h105.size := Nat.le_trans Z25 E105.1
    have V105 : Arv Z h105 b105 k105 .byte (6 : Int32) [(.int (0 : Int32)), (.int (0 : Int32)), (.int (0 : Int32)), (.int (0 : Int32)), (.int (0 : Int32)), (.int (0 : Int32))] (.int (0 : Int32)) := (Arv.new A105 (by decide)).pad (pad_rep [] (.int (0 : Int32)) 6)
    refine Go.st (fun _ k => st105 _ k) ?_
    show Go p e below _ (T105.setTop (mkF m 85 #[.val (.int p0), .val (.int p1), .val (.int p2), .val (.int (6 : Int32)), .val (.ref b1), .unset, .unset] [(.ref b105)]))
    refine Go.st (fun _ k => XS.astore X105.here hx rfl (hb hby at_85) rfl rfl (l' := #[.val (.int p0), .val (.int p1), .val (.int p2), .val (.int (6 : Int32)), .val (.ref b1), .val (.ref b105), .unset]) rfl k) ?_
    show Go p e below _ (T105.setTop (mkF m 87 #[.val (.int p0), .val (.int p1), .val (.int p2), .val (.int (6 : Int32)), .val (.ref b1), .val (.ref b105), .unset] []))
    refine Go.st (fun _ k => XS.iloadN X105.here hx rfl (hb hby at_87) rfl k) ?_
    refine Go.st (fun _ k => XS.ifNo X105.here hx rfl (hb hby at_88) rfl ((if0 _ _).trans (tlt (by decide : ((0 : Int32) < (6 : Int32)))).2.2.2) k) ?_
    show Go p e below _ (T105.setTop (mkF m 91 #[.val (.int p0), .val (.int p1), .val (.int p2), .val (.int (6 : Int32)), .val (.ref b1), .val (.ref b105), .unset] []))
    refine Go.st (fun _ k => XS.aload X105.here hx rfl (hb hby at_91) rfl rfl k) ?_
    refine Go.st (fun _ k => XS.iconst X105.here hx rfl (hb hby at_93) k) ?_
    show Go p e below _ (T105.setTop (mkF m 94 #[.val (.int p0), .val (.int p1), .val (.int p2), .val (.int (6 : Int32)), .val (.ref b1), .val (.ref b105), .unset] [(.int (0 : Int32)), (.ref b105)]))
    refine Go.st (fun _ k => XS.aload X105.here hx rfl (hb hby at_94) rfl rfl k) ?_
    refine Go.st (fun _ k => XS.iconst X105.here hx rfl (hb hby at_96) k) ?_
    show Go p e below _ (T105.setTop (mkF m 97 #[.val (.int p0), .val (.int p1), .val (.int p2), .val (.int (6 : Int32)), .val (.ref b1), .val (.ref b105), .unset] [(.int (0 : Int32)), (.ref b1), (.int (0 : Int32)), (.ref b105)]))
    obtain ⟨cl106, Ar106, ck106, Sz106, Nn106, Hs106, Gs106⟩ := id F105_V_b1
    have hin106 : ¬ ((0 : Int32) < 0 ∨ cl106.slots.size ≤ ((0 : Int32)).toNatClampNeg) := inb_of Sz106 ⟨by decide, by decide⟩
    have hat106 : cl106.slots[((0 : Int32)).toNatClampNeg]? = some (.int (nar .byte y2)) := Hs106.at hin106 rfl
    refine Go.st (fun _ k => X105.baloadBytes hx (j := (0 : Int32)) (v := (.int (nar .byte y2))) (by rw [e105]; exact Ar106.1) (State.isArrayOf_alike hZ.alike Ar106.2.1) Ar106.2.2 hin106 hat106 (g := (mkF m 97 #[.val (.int p0), .val (.int p1), .val (.int p2), .val (.int (6 : Int32)), .val (.ref b1), .val (.ref b105), .unset] [(.int (0 : Int32)), (.ref b1), (.int (0 : Int32)), (.ref b105)])) rfl rfl (hb hby at_97) _ k) ?_
    show Go p e below _ (T105.setTop (mkF m 98 #[.val (.int p0), .val (.int p1), .val (.int p2), .val (.int (6 : Int32)), .val (.ref b1), .val (.ref b105), .unset] [(.int (nar .byte y2)), (.int (0 : Int32)), (.ref b105)]))
    generalize hy107 : (nar .byte y2) = y107
    show Go p e below _ (T105.setTop (mkF m 98 #[.val (.int p0), .val (.int p1), .val (.int p2), .val (.int (6 : Int32)), .val (.ref b1), .val (.ref b105), .unset] [(.int y107), (.int (0 : Int32)), (.ref b105)]))
    obtain ⟨cl108, Ar108, ck108, Sz108, Nn108, Hs108, Gs108⟩ := id V105
    have hin108 : ¬ ((0 : Int32) < 0 ∨ cl108.slots.size ≤ ((0 : Int32)).toNatClampNeg) := inb_of Sz108 ⟨by decide, by decide⟩
    obtain ⟨T109, h109, X109, e109, W109, st109⟩ := stB X105 hx hZ e105 Ar108 (j := (0 : Int32)) hin108 (g := (mkF m 98 #[.val (.int p0), .val (.int p1), .val (.int p2), .val (.int (6 : Int32)), .val (.ref b1), .val (.ref b105), .unset] [(.int y107), (.int (0 : Int32)), (.ref b105)])) rfl rfl (hb hby at_98)
    have F109_V_b1 := F105_V_b1.other W109 ne105_b1
    have V109 : Arv Z h109 b105 k105 .byte (6 : Int32) [(.int (nar .byte y107)), (.int (0 : Int32)), (.int (0 : Int32)), (.int (0 : Int32)), (.int (0 : Int32)), (.int (0 : Int32))] (.int (0 : Int32)) := Arv.set Ar108 ck108 Sz108 Nn108 Hs108 Gs108 (fits_nar_byte _) W109 0 rfl (Nat.le_of_ble_eq_true rfl)
    have N109 := Fr.snoc X109 N25 gg105
    have Z109 : n0 ≤ h109.size := by rw [W109.size]; exact Z105
    refine Go.st (fun _ k => st109 _ k) ?_
    show Go p e below _ (T109.setTop (mkF m 99 #[.val (.int p0), .val (.int p1), .val (.int p2), .val (.int (6 : Int32)), .val (.ref b1), .val (.ref b105), .unset] []))
    refine Go.st (fun _ k => XS.iloadN X109.here hx rfl (hb hby at_99) rfl k) ?_
    refine Go.st (fun _ k => XS.iconst X109.here hx rfl (hb hby at_100) k) ?_
    show Go p e below _ (T109.setTop (mkF m 101 #[.val (.int p0), .val (.int p1), .val (.int p2), .val (.int (6 : Int32)), .val (.ref b1), .val (.ref b105), .unset] [(.int (1 : Int32)), (.int (6 : Int32))]))
    refine Go.st (fun _ k => XS.icmpNo X109.here hx rfl (hb hby at_101) rfl (tlt (by decide : ((1 : Int32) < (6 : Int32)))).2.2.2 k) ?_
    show Go p e below _ (T109.setTop (mkF m 104 #[.val (.int p0), .val (.int p1), .val (.int p2), .val (.int (6 : Int32)), .val (.ref b1), .val (.ref b105), .unset] []))
    refine Go.st (fun _ k => XS.aload X109.here hx rfl (hb hby at_104) rfl rfl k) ?_
    refine Go.st (fun _ k => XS.iconst X109.here hx rfl (hb hby at_106) k) ?_
    show Go p e below _ (T109.setTop (mkF m 107 #[.val (.int p0), .val (.int p1), .val (.int p2), .val (.int (6 : Int32)), .val (.ref b1), .val (.ref b105), .unset] [(.int (1 : Int32)), (.ref b105)]))
    refine Go.st (fun _ k => XS.aload X109.here hx rfl (hb hby at_107) rfl rfl k) ?_
    refine Go.st (fun _ k => XS.iconst X109.here hx rfl (hb hby at_109) k) ?_
    show Go p e below _ (T109.setTop (mkF m 110 #[.val (.int p0), .val (.int p1), .val (.int p2), .val (.int (6 : Int32)), .val (.ref b1), .val (.ref b105), .unset] [(.int (1 : Int32)), (.ref b1), (.int (1 : Int32)), (.ref b105)]))
    obtain ⟨cl110, Ar110, ck110, Sz110, Nn110, Hs110, Gs110⟩ := id F109_V_b1
    have hin110 : ¬ ((1 : Int32) < 0 ∨ cl110.slots.size ≤ ((1 : Int32)).toNatClampNeg) := inb_of Sz110 ⟨by decide, by decide⟩
    have hat110 : cl110.slots[((1 : Int32)).toNatClampNeg]? = some (.int (nar .byte y5)) := Hs110.at hin110 rfl
    refine Go.st (fun _ k => X109.baloadBytes hx (j := (1 : Int32)) (v := (.int (nar .byte y5))) (by rw [e109]; exact Ar110.1) (State.isArrayOf_alike hZ.alike Ar110.2.1) Ar110.2.2 hin110 hat110 (g := (mkF m 110 #[.val (.int p0), .val (.int p1), .val (.int p2), .val (.int (6 : Int32)), .val (.ref b1), .val (.ref b105), .unset] [(.int (1 : Int32)), (.ref b1), (.int (1 : Int32)), (.ref b105)])) rfl rfl (hb hby at_110) _ k) ?_
    show Go p e below _ (T109.setTop (mkF m 111 #[.val (.int p0), .val (.int p1), .val (.int p2), .val (.int (6 : Int32)), .val (.ref b1), .val (.ref b105), .unset] [(.int (nar .byte y5)), (.int (1 : Int32)), (.ref b105)]))
    generalize hy111 : (nar .byte y5) = y111
    show Go p e below _ (T109.setTop (mkF m 111 #[.val (.int p0), .val (.int p1), .val (.int p2), .val (.int (6 : Int32)), .val (.ref b1), .val (.ref b105), .unset] [(.int y111), (.int (1 : Int32)), (.ref b105)]))
    obtain ⟨cl112, Ar112, ck112, Sz112, Nn112, Hs112, Gs112⟩ := id V109
    have hin112 : ¬ ((1 : Int32) < 0 ∨ cl112.slots.size ≤ ((1 : Int32)).toNatClampNeg) := inb_of Sz112 ⟨by decide, by decide⟩
    obtain ⟨T113, h113, X113, e113, W113, st113⟩ := stB X109 hx hZ e109 Ar112 (j := (1 : Int32)) hin112 (g := (mkF m 111 #[.val (.int p0), .val (.int p1), .val (.int p2), .val (.int (6 : Int32)), .val (.ref b1), .val (.ref b105), .unset] [(.int y111), (.int (1 : Int32)), (.ref b105)])) rfl rfl (hb hby at_111)
    have F113_V_b1 := F109_V_b1.other W113 ne105_b1
    have V113 : Arv Z h113 b105 k105 .byte (6 : Int32) [(.int (nar .byte y107)), (.int (nar .byte y111)), (.int (0 : Int32)), (.int (0 : Int32)), (.int (0 : Int32)), (.int (0 : Int32))] (.int (0 : Int32)) := Arv.set Ar112 ck112 Sz112 Nn112 Hs112 Gs112 (fits_nar_byte _) W113 1 rfl (Nat.le_of_ble_eq_true rfl)
    have N113 := Fr.snoc X113 N109 gg105
    have Z113 : n0 ≤ h113.size := by rw [W113.size]; exact Z109
    refine Go.st (fun _ k => st113 _ k) ?_
    show Go p e below _ (T113.setTop (mkF m 112 #[.val (.int p0), .val (.int p1), .val (.int p2), .val (.int (6 : Int32)), .val (.ref b1), .val (.ref b105), .unset] []))
    refine Go.st (fun _ k => XS.iloadN X113.here hx rfl (hb hby at_112) rfl k) ?_
    refine Go.st (fun _ k => XS.iconst X113.here hx rfl (hb hby at_113) k) ?_
    show Go p e below _ (T113.setTop (mkF m 114 #[.val (.int p0), .val (.int p1), .val (.int p2), .val (.int (6 : Int32)), .val (.ref b1), .val (.ref b105), .unset] [(.int (2 : Int32)), (.int (6 : Int32))]))
    refine Go.st (fun _ k => XS.icmpNo X113.here hx rfl (hb hby at_114) rfl (tlt (by decide : ((2 : Int32) < (6 : Int32)))).2.2.2 k) ?_
    show Go p e below _ (T113.setTop (mkF m 117 #[.val (.int p0), .val (.int p1), .val (.int p2), .val (.int (6 : Int32)), .val (.ref b1), .val (.ref b105), .unset] []))
    refine Go.st (fun _ k => XS.aload X113.here hx rfl (hb hby at_117) rfl rfl k) ?_
    refine Go.st (fun _ k => XS.iconst X113.here hx rfl (hb hby at_119) k) ?_
    show Go p e below _ (T113.setTop (mkF m 120 #[.val (.int p0), .val (.int p1), .val (.int p2), .val (.int (6 : Int32)), .val (.ref b1), .val (.ref b105), .unset] [(.int (2 : Int32)), (.ref b105)]))
    refine Go.st (fun _ k => XS.aload X113.here hx rfl (hb hby at_120) rfl rfl k) ?_
    refine Go.st (fun _ k => XS.iconst X113.here hx rfl (hb hby at_122) k) ?_
    show Go p e below _ (T113.setTop (mkF m 123 #[.val (.int p0), .val (.int p1), .val (.int p2), .val (.int (6 : Int32)), .val (.ref b1), .val (.ref b105), .unset] [(.int (2 : Int32)), (.ref b1), (.int (2 : Int32)), (.ref b105)]))
    obtain ⟨cl114, Ar114, ck114, Sz114, Nn114, Hs114, Gs114⟩ := id F113_V_b1
    have hin114 : ¬ ((2 : Int32) < 0 ∨ cl114.slots.size ≤ ((2 : Int32)).toNatClampNeg) := inb_of Sz114 ⟨by decide, by decide⟩
    have hat114 : cl114.slots[((2 : Int32)).toNatClampNeg]? = some (.int (nar .byte y8)) := Hs114.at hin114 rfl
    refine Go.st (fun _ k => X113.baloadBytes hx (j := (2 : Int32)) (v := (.int (nar .byte y8))) (by rw [e113]; exact Ar114.1) (State.isArrayOf_alike hZ.alike Ar114.2.1) Ar114.2.2 hin114 hat114 (g := (mkF m 123 #[.val (.int p0), .val (.int p1), .val (.int p2), .val (.int (6 : Int32)), .val (.ref b1), .val (.ref b105), .unset] [(.int (2 : Int32)), (.ref b1), (.int (2 : Int32)), (.ref b105)])) rfl rfl (hb hby at_123) _ k) ?_
    show Go p e below _ (T113.setTop (mkF m 124 #[.val (.int p0), .val (.int p1), .val (.int p2), .val (.int (6 : Int32)), .val (.ref b1), .val (.ref b105), .unset] [(.int (nar .byte y8)), (.int (2 : Int32)), (.ref b105)]))
    generalize hy115 : (nar .byte y8) = y115
    show Go p e below _ (T113.setTop (mkF m 124 #[.val (.int p0), .val (.int p1), .val (.int p2), .val (.int (6 : Int32)), .val (.ref b1), .val (.ref b105), .unset] [(.int y115), (.int (2 : Int32)), (.ref b105)]))
    obtain ⟨cl116, Ar116, ck116, Sz116, Nn116, Hs116, Gs116⟩ := id V113
    have hin116 : ¬ ((2 : Int32) < 0 ∨ cl116.slots.size ≤ ((2 : Int32)).toNatClampNeg) := inb_of Sz116 ⟨by decide, by decide⟩
    obtain ⟨T117, h117, X117, e117, W117, st117⟩ := stB X113 hx hZ e113 Ar116 (j := (2 : Int32)) hin116 (g := (mkF m 124 #[.val (.int p0), .val (.int p1), .val (.int p2), .val (.int (6 : Int32)), .val (.ref b1), .val (.ref b105), .unset] [(.int y115), (.int (2 : Int32)), (.ref b105)])) rfl rfl (hb hby at_124)
    have F117_V_b1 := F113_V_b1.other W117 ne105_b1
    have V117 : Arv Z h117 b105 k105 .byte (6 : Int32) [(.int (nar .byte y107)), (.int (nar .byte y111)), (.int (nar .byte y115)), (.int (0 : Int32)), (.int (0 : Int32)), (.int (0 : Int32))] (.int (0 : Int32)) := Arv.set Ar116 ck116 Sz116 Nn116 Hs116 Gs116 (fits_nar_byte _) W117 2 rfl (Nat.le_of_ble_eq_true rfl)
    have N117 := Fr.snoc X117 N113 gg105
    have Z117 : n0 ≤ h117.size := by rw [W117.size]; exact Z113
    refine Go.st (fun _ k => st117 _ k) ?_
    show Go p e below _ (T117.setTop (mkF m 125 #[.val (.int p0), .val (.int p1), .val (.int p2), .val (.int (6 : Int32)), .val (.ref b1), .val (.ref b105), .unset] []))
    refine Go.st (fun _ k => XS.iloadN X117.here hx rfl (hb hby at_125) rfl k) ?_
    refine Go.st (fun _ k => XS.iconst X117.here hx rfl (hb hby at_126) k) ?_
    show Go p e below _ (T117.setTop (mkF m 127 #[.val (.int p0), .val (.int p1), .val (.int p2), .val (.int (6 : Int32)), .val (.ref b1), .val (.ref b105), .unset] [(.int (3 : Int32)), (.int (6 : Int32))]))
    refine Go.st (fun _ k => XS.icmpNo X117.here hx rfl (hb hby at_127) rfl (tlt (by decide : ((3 : Int32) < (6 : Int32)))).2.2.2 k) ?_
    show Go p e below _ (T117.setTop (mkF m 130 #[.val (.int p0), .val (.int p1), .val (.int p2), .val (.int (6 : Int32)), .val (.ref b1), .val (.ref b105), .unset] []))
    refine Go.st (fun _ k => XS.aload X117.here hx rfl (hb hby at_130) rfl rfl k) ?_
    refine Go.st (fun _ k => XS.iconst X117.here hx rfl (hb hby at_132) k) ?_
    show Go p e below _ (T117.setTop (mkF m 133 #[.val (.int p0), .val (.int p1), .val (.int p2), .val (.int (6 : Int32)), .val (.ref b1), .val (.ref b105), .unset] [(.int (3 : Int32)), (.ref b105)]))
    refine Go.st (fun _ k => XS.aload X117.here hx rfl (hb hby at_133) rfl rfl k) ?_
    refine Go.st (fun _ k => XS.iconst X117.here hx rfl (hb hby at_135) k) ?_
    show Go p e below _ (T117.setTop (mkF m 136 #[.val (.int p0), .val (.int p1), .val (.int p2), .val (.int (6 : Int32)), .val (.ref b1), .val (.ref b105), .unset] [(.int (3 : Int32)), (.ref b1), (.int (3 : Int32)), (.ref b105)]))
    obtain ⟨cl118, Ar118, ck118, Sz118, Nn118, Hs118, Gs118⟩ := id F117_V_b1
    have hin118 : ¬ ((3 : Int32) < 0 ∨ cl118.slots.size ≤ ((3 : Int32)).toNatClampNeg) := inb_of Sz118 ⟨by decide, by decide⟩
    have hat118 : cl118.slots[((3 : Int32)).toNatClampNeg]? = some (.int (nar .byte y11)) := Hs118.at hin118 rfl
    refine Go.st (fun _ k => X117.baloadBytes hx (j := (3 : Int32)) (v := (.int (nar .byte y11))) (by rw [e117]; exact Ar118.1) (State.isArrayOf_alike hZ.alike Ar118.2.1) Ar118.2.2 hin118 hat118 (g := (mkF m 136 #[.val (.int p0), .val (.int p1), .val (.int p2), .val (.int (6 : Int32)), .val (.ref b1), .val (.ref b105), .unset] [(.int (3 : Int32)), (.ref b1), (.int (3 : Int32)), (.ref b105)])) rfl rfl (hb hby at_136) _ k) ?_
    show Go p e below _ (T117.setTop (mkF m 137 #[.val (.int p0), .val (.int p1), .val (.int p2), .val (.int (6 : Int32)), .val (.ref b1), .val (.ref b105), .unset] [(.int (nar .byte y11)), (.int (3 : Int32)), (.ref b105)]))
    generalize hy119 : (nar .byte y11) = y119
    show Go p e below _ (T117.setTop (mkF m 137 #[.val (.int p0), .val (.int p1), .val (.int p2), .val (.int (6 : Int32)), .val (.ref b1), .val (.ref b105), .unset] [(.int y119), (.int (3 : Int32)), (.ref b105)]))
    obtain ⟨cl120, Ar120, ck120, Sz120, Nn120, Hs120, Gs120⟩ := id V117
    have hin120 : ¬ ((3 : Int32) < 0 ∨ cl120.slots.size ≤ ((3 : Int32)).toNatClampNeg) := inb_of Sz120 ⟨by decide, by decide⟩
    obtain ⟨T121, h121, X121, e121, W121, st121⟩ := stB X117 hx hZ e117 Ar120 (j := (3 : Int32)) hin120 (g := (mkF m 137 #[.val (.int p0), .val (.int p1), .val (.int p2), .val (.int (6 : Int32)), .val (.ref b1), .val (.ref b105), .unset] [(.int y119), (.int (3 : Int32)), (.ref b105)])) rfl rfl (hb hby at_137)
    have F121_V_b1 := F117_V_b1.other W121 ne105_b1
    have V121 : Arv Z h121 b105 k105 .byte (6 : Int32) [(.int (nar .byte y107)), (.int (nar .byte y111)), (.int (nar .byte y115)), (.int (nar .byte y119)), (.int (0 : Int32)), (.int (0 : Int32))] (.int (0 : Int32)) := Arv.set Ar120 ck120 Sz120 Nn120 Hs120 Gs120 (fits_nar_byte _) W121 3 rfl (Nat.le_of_ble_eq_true rfl)
    have N121 := Fr.snoc X121 N117 gg105
    have Z121 : n0 ≤ h121.size := by rw [W121.size]; exact Z117
    refine Go.st (fun _ k => st121 _ k) ?_
    show Go p e below _ (T121.setTop (mkF m 138 #[.val (.int p0), .val (.int p1), .val (.int p2), .val (.int (6 : Int32)), .val (.ref b1), .val (.ref b105), .unset] []))
    refine Go.st (fun _ k => XS.iloadN X121.here hx rfl (hb hby at_138) rfl k) ?_
    refine Go.st (fun _ k => XS.iconst X121.here hx rfl (hb hby at_139) k) ?_
    show Go p e below _ (T121.setTop (mkF m 140 #[.val (.int p0), .val (.int p1), .val (.int p2), .val (.int (6 : Int32)), .val (.ref b1), .val (.ref b105), .unset] [(.int (4 : Int32)), (.int (6 : Int32))]))
    refine Go.st (fun _ k => XS.icmpNo X121.here hx rfl (hb hby at_140) rfl (tlt (by decide : ((4 : Int32) < (6 : Int32)))).2.2.2 k) ?_
    show Go p e below _ (T121.setTop (mkF m 143 #[.val (.int p0), .val (.int p1), .val (.int p2), .val (.int (6 : Int32)), .val (.ref b1), .val (.ref b105), .unset] []))
    refine Go.st (fun _ k => XS.aload X121.here hx rfl (hb hby at_143) rfl rfl k) ?_
    refine Go.st (fun _ k => XS.iconst X121.here hx rfl (hb hby at_145) k) ?_
    show Go p e below _ (T121.setTop (mkF m 146 #[.val (.int p0), .val (.int p1), .val (.int p2), .val (.int (6 : Int32)), .val (.ref b1), .val (.ref b105), .unset] [(.int (4 : Int32)), (.ref b105)]))
    refine Go.st (fun _ k => XS.aload X121.here hx rfl (hb hby at_146) rfl rfl k) ?_
    refine Go.st (fun _ k => XS.iconst X121.here hx rfl (hb hby at_148) k) ?_
    show Go p e below _ (T121.setTop (mkF m 149 #[.val (.int p0), .val (.int p1), .val (.int p2), .val (.int (6 : Int32)), .val (.ref b1), .val (.ref b105), .unset] [(.int (4 : Int32)), (.ref b1), (.int (4 : Int32)), (.ref b105)]))
    obtain ⟨cl122, Ar122, ck122, Sz122, Nn122, Hs122, Gs122⟩ := id F121_V_b1
    have hin122 : ¬ ((4 : Int32) < 0 ∨ cl122.slots.size ≤ ((4 : Int32)).toNatClampNeg) := inb_of Sz122 ⟨by decide, by decide⟩
    have hat122 : cl122.slots[((4 : Int32)).toNatClampNeg]? = some (.int (nar .byte y14)) := Hs122.at hin122 rfl
    refine Go.st (fun _ k => X121.baloadBytes hx (j := (4 : Int32)) (v := (.int (nar .byte y14))) (by rw [e121]; exact Ar122.1) (State.isArrayOf_alike hZ.alike Ar122.2.1) Ar122.2.2 hin122 hat122 (g := (mkF m 149 #[.val (.int p0), .val (.int p1), .val (.int p2), .val (.int (6 : Int32)), .val (.ref b1), .val (.ref b105), .unset] [(.int (4 : Int32)), (.ref b1), (.int (4 : Int32)), (.ref b105)])) rfl rfl (hb hby at_149) _ k) ?_
    show Go p e below _ (T121.setTop (mkF m 150 #[.val (.int p0), .val (.int p1), .val (.int p2), .val (.int (6 : Int32)), .val (.ref b1), .val (.ref b105), .unset] [(.int (nar .byte y14)), (.int (4 : Int32)), (.ref b105)]))
    generalize hy123 : (nar .byte y14) = y123
    show Go p e below _ (T121.setTop (mkF m 150 #[.val (.int p0), .val (.int p1), .val (.int p2), .val (.int (6 : Int32)), .val (.ref b1), .val (.ref b105), .unset] [(.int y123), (.int (4 : Int32)), (.ref b105)]))
    obtain ⟨cl124, Ar124, ck124, Sz124, Nn124, Hs124, Gs124⟩ := id V121
    have hin124 : ¬ ((4 : Int32) < 0 ∨ cl124.slots.size ≤ ((4 : Int32)).toNatClampNeg) := inb_of Sz124 ⟨by decide, by decide⟩
    obtain ⟨T125, h125, X125, e125, W125, st125⟩ := stB X121 hx hZ e121 Ar124 (j := (4 : Int32)) hin124 (g := (mkF m 150 #[.val (.int p0), .val (.int p1), .val (.int p2), .val (.int (6 : Int32)), .val (.ref b1), .val (.ref b105), .unset] [(.int y123), (.int (4 : Int32)), (.ref b105)])) rfl rfl (hb hby at_150)
    have F125_V_b1 := F121_V_b1.other W125 ne105_b1
    have V125 : Arv Z h125 b105 k105 .byte (6 : Int32) [(.int (nar .byte y107)), (.int (nar .byte y111)), (.int (nar .byte y115)), (.int (nar .byte y119)), (.int (nar .byte y123)), (.int (0 : Int32))] (.int (0 : Int32)) := Arv.set Ar124 ck124 Sz124 Nn124 Hs124 Gs124 (fits_nar_byte _) W125 4 rfl (Nat.le_of_ble_eq_true rfl)
    have N125 := Fr.snoc X125 N121 gg105
    have Z125 : n0 ≤ h125.size := by rw [W125.size]; exact Z121
    refine Go.st (fun _ k => st125 _ k) ?_
    show Go p e below _ (T125.setTop (mkF m 151 #[.val (.int p0), .val (.int p1), .val (.int p2), .val (.int (6 : Int32)), .val (.ref b1), .val (.ref b105), .unset] []))
    refine Go.st (fun _ k => XS.iloadN X125.here hx rfl (hb hby at_151) rfl k) ?_
    refine Go.st (fun _ k => XS.iconst X125.here hx rfl (hb hby at_152) k) ?_
    show Go p e below _ (T125.setTop (mkF m 153 #[.val (.int p0), .val (.int p1), .val (.int p2), .val (.int (6 : Int32)), .val (.ref b1), .val (.ref b105), .unset] [(.int (5 : Int32)), (.int (6 : Int32))]))
    refine Go.st (fun _ k => XS.icmpNo X125.here hx rfl (hb hby at_153) rfl (tlt (by decide : ((5 : Int32) < (6 : Int32)))).2.2.2 k) ?_
    show Go p e below _ (T125.setTop (mkF m 156 #[.val (.int p0), .val (.int p1), .val (.int p2), .val (.int (6 : Int32)), .val (.ref b1), .val (.ref b105), .unset] []))
    refine Go.st (fun _ k => XS.aload X125.here hx rfl (hb hby at_156) rfl rfl k) ?_
    refine Go.st (fun _ k => XS.iconst X125.here hx rfl (hb hby at_158) k) ?_
    show Go p e below _ (T125.setTop (mkF m 159 #[.val (.int p0), .val (.int p1), .val (.int p2), .val (.int (6 : Int32)), .val (.ref b1), .val (.ref b105), .unset] [(.int (5 : Int32)), (.ref b105)]))
    refine Go.st (fun _ k => XS.aload X125.here hx rfl (hb hby at_159) rfl rfl k) ?_
    refine Go.st (fun _ k => XS.iconst X125.here hx rfl (hb hby at_161) k) ?_
    show Go p e below _ (T125.setTop (mkF m 162 #[.val (.int p0), .val (.int p1), .val (.int p2), .val (.int (6 : Int32)), .val (.ref b1), .val (.ref b105), .unset] [(.int (5 : Int32)), (.ref b1), (.int (5 : Int32)), (.ref b105)]))
    obtain ⟨cl126, Ar126, ck126, Sz126, Nn126, Hs126, Gs126⟩ := id F125_V_b1
    have hin126 : ¬ ((5 : Int32) < 0 ∨ cl126.slots.size ≤ ((5 : Int32)).toNatClampNeg) := inb_of Sz126 ⟨by decide, by decide⟩
    have hat126 : cl126.slots[((5 : Int32)).toNatClampNeg]? = some (.int (nar .byte y17)) := Hs126.at hin126 rfl
    refine Go.st (fun _ k => X125.baloadBytes hx (j := (5 : Int32)) (v := (.int (nar .byte y17))) (by rw [e125]; exact Ar126.1) (State.isArrayOf_alike hZ.alike Ar126.2.1) Ar126.2.2 hin126 hat126 (g := (mkF m 162 #[.val (.int p0), .val (.int p1), .val (.int p2), .val (.int (6 : Int32)), .val (.ref b1), .val (.ref b105), .unset] [(.int (5 : Int32)), (.ref b1), (.int (5 : Int32)), (.ref b105)])) rfl rfl (hb hby at_162) _ k) ?_
    show Go p e below _ (T125.setTop (mkF m 163 #[.val (.int p0), .val (.int p1), .val (.int p2), .val (.int (6 : Int32)), .val (.ref b1), .val (.ref b105), .unset] [(.int (nar .byte y17)), (.int (5 : Int32)), (.ref b105)]))
    generalize hy127 : (nar .byte y17) = y127
    show Go p e below _ (T125.setTop (mkF m 163 #[.val (.int p0), .val (.int p1), .val (.int p2), .val (.int (6 : Int32)), .val (.ref b1), .val (.ref b105), .unset] [(.int y127), (.int (5 : Int32)), (.ref b105)]))
    obtain ⟨cl128, Ar128, ck128, Sz128, Nn128, Hs128, Gs128⟩ := id V125
    have hin128 : ¬ ((5 : Int32) < 0 ∨ cl128.slots.size ≤ ((5 : Int32)).toNatClampNeg) := inb_of Sz128 ⟨by decide, by decide⟩
    obtain ⟨T129, h129, X129, e129, W129, st129⟩ := stB X125 hx hZ e125 Ar128 (j := (5 : Int32)) hin128 (g := (mkF m 163 #[.val (.int p0), .val (.int p1), .val (.int p2), .val (.int (6 : Int32)), .val (.ref b1), .val (.ref b105), .unset] [(.int y127), (.int (5 : Int32)), (.ref b105)])) rfl rfl (hb hby at_163)
    have F129_V_b1 := F125_V_b1.other W129 ne105_b1
    have V129 : Arv Z h129 b105 k105 .byte (6 : Int32) [(.int (nar .byte y107)), (.int (nar .byte y111)), (.int (nar .byte y115)), (.int (nar .byte y119)), (.int (nar .byte y123)), (.int (nar .byte y127))] (.int (0 : Int32)) := Arv.set Ar128 ck128 Sz128 Nn128 Hs128 Gs128 (fits_nar_byte _) W129 5 rfl (Nat.le_of_ble_eq_true rfl)
    have N129 := Fr.snoc X129 N125 gg105
    have Z129 : n0 ≤ h129.size := by rw [W129.size]; exact Z125
    refine Go.st (fun _ k => st129 _ k) ?_
    show Go p e below _ (T129.setTop (mkF m 164 #[.val (.int p0), .val (.int p1), .val (.int p2), .val (.int (6 : Int32)), .val (.ref b1), .val (.ref b105), .unset] []))
    refine Go.st (fun _ k => XS.iloadN X129.here hx rfl (hb hby at_164) rfl k) ?_
    refine Go.st (fun _ k => XS.bipush X129.here hx rfl (hb hby at_165) k) ?_
    show Go p e below _ (T129.setTop (mkF m 167 #[.val (.int p0), .val (.int p1), .val (.int p2), .val (.int (6 : Int32)), .val (.ref b1), .val (.ref b105), .unset] [(.int (6 : Int32)), (.int (6 : Int32))]))
    refine Go.st (fun _ k => XS.icmpYes X129.here hx rfl (pc0 := 167) (pc' := 180) rfl (hb hby at_167) rfl (flt (by decide : ¬ ((6 : Int32) < (6 : Int32)))).2.2.2 (by decide) (by decide) k) ?_
    show Go p e below _ (T129.setTop (mkF m 180 #[.val (.int p0), .val (.int p1), .val (.int p2), .val (.int (6 : Int32)), .val (.ref b1), .val (.ref b105), .unset] []))
    refine Go.st (fun _ k => XS.iloadN X129.here hx rfl (hb hby at_180) rfl k) ?_
    refine Go.st (fun _ k => XS.bipush X129.here hx rfl (hb hby at_181) k) ?_
    show Go p e below _ (T129.setTop (mkF m 183 #[.val (.int p0), .val (.int p1), .val (.int p2), .val (.int (6 : Int32)), .val (.ref b1), .val (.ref b105), .unset] [(.int (7 : Int32)), (.int (6 : Int32))]))
    refine Go.st (fun _ k => XS.icmpYes X129.here hx rfl (pc0 := 183) (pc' := 196) rfl (hb hby at_183) rfl (flt (by decide : ¬ ((7 : Int32) < (6 : Int32)))).2.2.2 (by decide) (by decide) k) ?_
    show Go p e below _ (T129.setTop (mkF m 196 #[.val (.int p0), .val (.int p1), .val (.int p2), .val (.int (6 : Int32)), .val (.ref b1), .val (.ref b105), .unset] []))
    refine Go.st (fun _ k => XS.aload X129.here hx rfl (hb hby at_196) rfl rfl k) ?_
    refine Go.st (fun _ k => XS.iloadN X129.here hx rfl (hb hby at_198) rfl k) ?_
    show Go p e below _ (T129.setTop (mkF m 199 #[.val (.int p0), .val (.int p1), .val (.int p2), .val (.int (6 : Int32)), .val (.ref b1), .val (.ref b105), .unset] [(.int (6 : Int32)), (.ref b105)]))
    obtain ⟨_, _, ⟨T130, L130, k130, n130⟩, -, X130, ⟨Lc130, hQ130, l130, y130, z130⟩, st130⟩ := Jvm.LawKit.callS X129 hx (y := (⟨"com/example/apportis/apportis/Utf8FirstInvalidPinLaw", "reference", "([BI)I"⟩ : MethodName)) hown (mvT hZ (hw _ (List.mem_of_getElem? (i := 2) rfl))) (mvT hZ (hw _ (List.mem_of_getElem? (i := 3) rfl))) (mvT hZ (hw _ (List.mem_of_getElem? (i := 4) rfl))) (mvT hZ (hw _ (List.mem_of_getElem? (i := 5) rfl))) (by decide) (backOf (W := 0) (rmRef l Z aZ hw [] b105 (6 : Int32) k105 [(.int (nar .byte y107)), (.int (nar .byte y111)), (.int (nar .byte y115)), (.int (nar .byte y119)), (.int (nar .byte y123)), (.int (nar .byte y127))] h129 n0 (by decide) (own_byt6 y107 y111 y115 y119 y123 y127) (by decide) (own_int6 y107 y111 y115 y119 y123 y127) V129) hZ (hw _ (List.mem_of_getElem? (i := 5) rfl)) (hw _ (List.mem_of_getElem? (i := 4) rfl)) (by decide) (by decide)) (g := (mkF m 199 #[.val (.int p0), .val (.int p1), .val (.int p2), .val (.int (6 : Int32)), .val (.ref b1), .val (.ref b105), .unset] [(.int (6 : Int32)), (.ref b105)])) rfl (by rw [hml]; rfl) (argsL := [(.ref b105), (.int (6 : Int32))]) (rest := []) (lenOf pd92f6cd8e rfl) rfl (by show 2 * 0 + _ ≤ _; exact Nat.le_of_eq rfl) (hb hby at_199) (fun _ _ => ⟨rfl, e129, (by decide : 2 + 0 ≤ _), (by decide : 14 + 0 ≤ _)⟩)
    dsimp only [Pt.U, Pt.locs, Pt.cells, Pt.slots] at X130 l130 y130 z130 st130 hQ130
    subst l130 y130 z130
    obtain ⟨rfl, N130q, e130⟩ := hQ130
    have N130 := Fr.app N129 N130q
    refine Go.st (fun _ k => st130 _ k) ?_
    show Go p e below _ (T130.setTop (mkF m 202 #[.val (.int p0), .val (.int p1), .val (.int p2), .val (.int (6 : Int32)), .val (.ref b1), .val (.ref b105), .unset] [(.int (own_scan [(.int (nar .byte y107)), (.int (nar .byte y111)), (.int (nar .byte y115)), (.int (nar .byte y119)), (.int (nar .byte y123)), (.int (nar .byte y127))] (6 : Int32) 8 0))]))
    refine Go.st (fun _ k => XS.istore X130.here hx rfl (hb hby at_202) rfl (l' := #[.val (.int p0), .val (.int p1), .val (.int p2), .val (.int (6 : Int32)), .val (.ref b1), .val (.ref b105), .val (.int (own_scan [(.int (nar .byte y107)), (.int (nar .byte y111)), (.int (nar .byte y115)), (.int (nar .byte y119)), (.int (nar .byte y123)), (.int (nar .byte y127))] (6 : Int32) 8 0))]) rfl k) ?_
    show Go p e below _ (T130.setTop (mkF m 204 #[.val (.int p0), .val (.int p1), .val (.int p2), .val (.int (6 : Int32)), .val (.ref b1), .val (.ref b105), .val (.int (own_scan [(.int (nar .byte y107)), (.int (nar .byte y111)), (.int (nar .byte y115)), (.int (nar .byte y119)), (.int (nar .byte y123)), (.int (nar .byte y127))] (6 : Int32) 8 0))] []))
    refine Go.st (fun _ k => XS.aload X130.here hx rfl (hb hby at_204) rfl rfl k) ?_
    show Go p e below _ (T130.setTop (mkF m 206 #[.val (.int p0), .val (.int p1), .val (.int p2), .val (.int (6 : Int32)), .val (.ref b1), .val (.ref b105), .val (.int (own_scan [(.int (nar .byte y107)), (.int (nar .byte y111)), (.int (nar .byte y115)), (.int (nar .byte y119)), (.int (nar .byte y123)), (.int (nar .byte y127))] (6 : Int32) 8 0))] [(.ref b105)]))
    obtain ⟨_, _, ⟨T131, L131, k131, n131⟩, -, X131, ⟨Lc131, hQ131, l131, y131, z131⟩, st131⟩ := Jvm.LawKit.callS X130 hx (y := (⟨"com/example/apportis/apportis/Utf8", "firstInvalid", "([B)I"⟩ : MethodName)) hown (mvT hZ (hw _ (List.mem_of_getElem? (i := 9) rfl))) (mvT hZ (hw _ (List.mem_of_getElem? (i := 10) rfl))) (mvT hZ (hw _ (List.mem_of_getElem? (i := 11) rfl))) (mvT hZ (hw _ (List.mem_of_getElem? (i := 12) rfl))) (by decide) (backOf (W := 0) (rmFI l Z aZ hw [] b105 k105 (6 : Int32) [(.int (nar .byte y107)), (.int (nar .byte y111)), (.int (nar .byte y115)), (.int (nar .byte y119)), (.int (nar .byte y123)), (.int (nar .byte y127))] h129 n0 (by decide) (own_byt6 y107 y111 y115 y119 y123 y127) (by decide) (own_int6 y107 y111 y115 y119 y123 y127) V129) hZ (hw _ (List.mem_of_getElem? (i := 12) rfl)) (hw _ (List.mem_of_getElem? (i := 11) rfl)) (by decide) (by decide)) (g := (mkF m 206 #[.val (.int p0), .val (.int p1), .val (.int p2), .val (.int (6 : Int32)), .val (.ref b1), .val (.ref b105), .val (.int (own_scan [(.int (nar .byte y107)), (.int (nar .byte y111)), (.int (nar .byte y115)), (.int (nar .byte y119)), (.int (nar .byte y123)), (.int (nar .byte y127))] (6 : Int32) 8 0))] [(.ref b105)])) rfl (by rw [hml]; rfl) (argsL := [(.ref b105)]) (rest := []) (lenOf pdca677057 rfl) rfl (by show 2 * 0 + _ ≤ _; exact Nat.le_of_eq rfl) (hb hby at_206) (fun _ _ => ⟨rfl, e130, (by decide : 2 + 0 ≤ _), (by decide : 14 + 0 ≤ _)⟩)
    dsimp only [Pt.U, Pt.locs, Pt.cells, Pt.slots] at X131 l131 y131 z131 st131 hQ131
    subst l131 y131 z131
    obtain ⟨rfl, N131q, e131⟩ := hQ131
    have N131 := Fr.app N130 N131q
    refine Go.st (fun _ k => st131 _ k) ?_
    show Go p e below _ (T131.setTop (mkF m 209 #[.val (.int p0), .val (.int p1), .val (.int p2), .val (.int (6 : Int32)), .val (.ref b1), .val (.ref b105), .val (.int (own_scan [(.int (nar .byte y107)), (.int (nar .byte y111)), (.int (nar .byte y115)), (.int (nar .byte y119)), (.int (nar .byte y123)), (.int (nar .byte y127))] (6 : Int32) 8 0))] [(.int (own_scan [(.int (nar .byte y107)), (.int (nar .byte y111)), (.int (nar .byte y115)), (.int (nar .byte y119)), (.int (nar .byte y123)), (.int (nar .byte y127))] (6 : Int32) ((6 : Int32).toInt.toNat + 1) 0))]))
    refine Go.st (fun _ k => XS.iload X131.here hx rfl (hb hby at_209) rfl k) ?_
    refine Go.st (fun _ k => XS.icmpNo X131.here hx rfl (hb hby at_211) rfl (teq (own_fuel (own_byt6 y107 y111 y115 y119 y123 y127) (by decide) (by decide) (by decide))).2 k) ?_
    show Go p e below _ (T131.setTop (mkF m 214 #[.val (.int p0), .val (.int p1), .val (.int p2), .val (.int (6 : Int32)), .val (.ref b1), .val (.ref b105), .val (.int (own_scan [(.int (nar .byte y107)), (.int (nar .byte y111)), (.int (nar .byte y115)), (.int (nar .byte y119)), (.int (nar .byte y123)), (.int (nar .byte y127))] (6 : Int32) 8 0))] []))
    refine Go.st (fun _ k => XS.iconst X131.here hx rfl (hb hby at_214) k) ?_
    refine Go.st (fun _ k => XS.goto X131.here hx rfl (pc0 := 215) (pc' := 219) rfl (hb hby at_215) (by decide) (by decide) k) ?_
    show Go p e below _ (T131.setTop (mkF m 219 #[.val (.int p0), .val (.int p1), .val (.int p2), .val (.int (6 : Int32)), .val (.ref b1), .val (.ref b105), .val (.int (own_scan [(.int (nar .byte y107)), (.int (nar .byte y111)), (.int (nar .byte y115)), (.int (nar .byte y119)), (.int (nar .byte y123)), (.int (nar .byte y127))] (6 : Int32) 8 0))] [(.int (1 : Int32))]))
    obtain ⟨fs, hr, hrun, hended, hW, hsame⟩ := X131.leave (v := some (.int (1 : Int32))) (fun h => by rw [Bd.returns] at h; cases h)
    refine ⟨_, _, retN X131 hx (t := .boolean) Bd.returns (by simp) (hb hby at_219) hr, hrun, hended, _, _, rfl, ?_, ⟨_, rfl⟩, hW, hsame.mono (by decide) (by decide)⟩
    show Q_rm0 Z p0 p1 p2 h0 n0 _ T131.heap _
    rw [e131]
    exact ⟨rfl, N131⟩
  · rw [hr26]
    show Go p e below _ (T25.setTop (mkF m 82 #[.val (.int p0), .val (.int p1), .val (.int p2), .val (.int (7 : Int32)), .val (.ref b1), .unset, .unset] []))
    refine Go.st (fun _ k => XS.iloadN X25.here hx rfl (hb hby at_82) rfl k) ?_
    show Go p e below _ (T25.setTop (mkF m 83 #[.val (.int p0), .val (.int p1), .val (.int p2), .val (.int (7 : Int32)), .val (.ref b1), .unset, .unset] [(.int (7 : Int32))]))
    obtain ⟨T132, h132, k132, X132, e132, E132, A132, st132⟩ := newP X25 hx hZ (hw _ (List.mem_of_getElem? (i := 1) rfl)) e25 (g := (mkF m 83 #[.val (.int p0), .val (.int p1), .val (.int p2), .val (.int (7 : Int32)), .val (.ref b1), .unset, .unset] [(.int (7 : Int32))])) rfl (hb hby at_83) rfl (by decide) (cap := 7) (by decide) (by decide) (by decide) (by decide)
    obtain ⟨b132, g132⟩ : ∃ z, z = h25.size := ⟨_, rfl⟩
    have ne132_b1 : b1 ≠ b132 := Nat.ne_of_lt (Nat.lt_of_lt_of_le V25.lt (Nat.le_of_eq g132.symm))
    have gg132 : n0 ≤ b132 := Nat.le_trans Z25 (Nat.le_of_eq g132.symm)
    rw [← g132] at A132 st132
    have F132_V_b1 := V25.ext E132
    have Z132 : n0 ≤ h132.size := Nat.le_trans Z25 E132.1
    have V132 : Arv Z h132 b132 k132 .byte (7 : Int32) [(.int (0 : Int32)), (.int (0 : Int32)), (.int (0 : Int32)), (.int (0 : Int32)), (.int (0 : Int32)), (.int (0 : Int32)), (.int (0 : Int32))] (.int (0 : Int32)) := (Arv.new A132 (by decide)).pad (pad_rep [] (.int (0 : Int32)) 7)
    refine Go.st (fun _ k => st132 _ k) ?_
    show Go p e below _ (T132.setTop (mkF m 85 #[.val (.int p0), .val (.int p1), .val (.int p2), .val (.int (7 : Int32)), .val (.ref b1), .unset, .unset] [(.ref b132)]))
    refine Go.st (fun _ k => XS.astore X132.here hx rfl (hb hby at_85) rfl rfl (l' := #[.val (.int p0), .val (.int p1), .val (.int p2), .val (.int (7 : Int32)), .val (.ref b1), .val (.ref b132), .unset]) rfl k) ?_
    show Go p e below _ (T132.setTop (mkF m 87 #[.val (.int p0), .val (.int p1), .val (.int p2), .val (.int (7 : Int32)), .val (.ref b1), .val (.ref b132), .unset] []))
    refine Go.st (fun _ k => XS.iloadN X132.here hx rfl (hb hby at_87) rfl k) ?_
    refine Go.st (fun _ k => XS.ifNo X132.here hx rfl (hb hby at_88) rfl ((if0 _ _).trans (tlt (by decide : ((0 : Int32) < (7 : Int32)))).2.2.2) k) ?_
    show Go p e below _ (T132.setTop (mkF m 91 #[.val (.int p0), .val (.int p1), .val (.int p2), .val (.int (7 : Int32)), .val (.ref b1), .val (.ref b132), .unset] []))
    refine Go.st (fun _ k => XS.aload X132.here hx rfl (hb hby at_91) rfl rfl k) ?_
    refine Go.st (fun _ k => XS.iconst X132.here hx rfl (hb hby at_93) k) ?_
    show Go p e below _ (T132.setTop (mkF m 94 #[.val (.int p0), .val (.int p1), .val (.int p2), .val (.int (7 : Int32)), .val (.ref b1), .val (.ref b132), .unset] [(.int (0 : Int32)), (.ref b132)]))
    refine Go.st (fun _ k => XS.aload X132.here hx rfl (hb hby at_94) rfl rfl k) ?_
    refine Go.st (fun _ k => XS.iconst X132.here hx rfl (hb hby at_96) k) ?_
    show Go p e below _ (T132.setTop (mkF m 97 #[.val (.int p0), .val (.int p1), .val (.int p2), .val (.int (7 : Int32)), .val (.ref b1), .val (.ref b132), .unset] [(.int (0 : Int32)), (.ref b1), (.int (0 : Int32)), (.ref b132)]))
    obtain ⟨cl133, Ar133, ck133, Sz133, Nn133, Hs133, Gs133⟩ := id F132_V_b1
    have hin133 : ¬ ((0 : Int32) < 0 ∨ cl133.slots.size ≤ ((0 : Int32)).toNatClampNeg) := inb_of Sz133 ⟨by decide, by decide⟩
    have hat133 : cl133.slots[((0 : Int32)).toNatClampNeg]? = some (.int (nar .byte y2)) := Hs133.at hin133 rfl
    refine Go.st (fun _ k => X132.baloadBytes hx (j := (0 : Int32)) (v := (.int (nar .byte y2))) (by rw [e132]; exact Ar133.1) (State.isArrayOf_alike hZ.alike Ar133.2.1) Ar133.2.2 hin133 hat133 (g := (mkF m 97 #[.val (.int p0), .val (.int p1), .val (.int p2), .val (.int (7 : Int32)), .val (.ref b1), .val (.ref b132), .unset] [(.int (0 : Int32)), (.ref b1), (.int (0 : Int32)), (.ref b132)])) rfl rfl (hb hby at_97) _ k) ?_
    show Go p e below _ (T132.setTop (mkF m 98 #[.val (.int p0), .val (.int p1), .val (.int p2), .val (.int (7 : Int32)), .val (.ref b1), .val (.ref b132), .unset] [(.int (nar .byte y2)), (.int (0 : Int32)), (.ref b132)]))
    generalize hy134 : (nar .byte y2) = y134
    show Go p e below _ (T132.setTop (mkF m 98 #[.val (.int p0), .val (.int p1), .val (.int p2), .val (.int (7 : Int32)), .val (.ref b1), .val (.ref b132), .unset] [(.int y134), (.int (0 : Int32)), (.ref b132)]))
    obtain ⟨cl135, Ar135, ck135, Sz135, Nn135, Hs135, Gs135⟩ := id V132
    have hin135 : ¬ ((0 : Int32) < 0 ∨ cl135.slots.size ≤ ((0 : Int32)).toNatClampNeg) := inb_of Sz135 ⟨by decide, by decide⟩
    obtain ⟨T136, h136, X136, e136, W136, st136⟩ := stB X132 hx hZ e132 Ar135 (j := (0 : Int32)) hin135 (g := (mkF m 98 #[.val (.int p0), .val (.int p1), .val (.int p2), .val (.int (7 : Int32)), .val (.ref b1), .val (.ref b132), .unset] [(.int y134), (.int (0 : Int32)), (.ref b132)])) rfl rfl (hb hby at_98)
    have F136_V_b1 := F132_V_b1.other W136 ne132_b1
    have V136 : Arv Z h136 b132 k132 .byte (7 : Int32) [(.int (nar .byte y134)), (.int (0 : Int32)), (.int (0 : Int32)), (.int (0 : Int32)), (.int (0 : Int32)), (.int (0 : Int32)), (.int (0 : Int32))] (.int (0 : Int32)) := Arv.set Ar135 ck135 Sz135 Nn135 Hs135 Gs135 (fits_nar_byte _) W136 0 rfl (Nat.le_of_ble_eq_true rfl)
    have N136 := Fr.snoc X136 N25 gg132
    have Z136 : n0 ≤ h136.size := by rw [W136.size]; exact Z132
    refine Go.st (fun _ k => st136 _ k) ?_
    show Go p e below _ (T136.setTop (mkF m 99 #[.val (.int p0), .val (.int p1), .val (.int p2), .val (.int (7 : Int32)), .val (.ref b1), .val (.ref b132), .unset] []))
    refine Go.st (fun _ k => XS.iloadN X136.here hx rfl (hb hby at_99) rfl k) ?_
    refine Go.st (fun _ k => XS.iconst X136.here hx rfl (hb hby at_100) k) ?_
    show Go p e below _ (T136.setTop (mkF m 101 #[.val (.int p0), .val (.int p1), .val (.int p2), .val (.int (7 : Int32)), .val (.ref b1), .val (.ref b132), .unset] [(.int (1 : Int32)), (.int (7 : Int32))]))
    refine Go.st (fun _ k => XS.icmpNo X136.here hx rfl (hb hby at_101) rfl (tlt (by decide : ((1 : Int32) < (7 : Int32)))).2.2.2 k) ?_
    show Go p e below _ (T136.setTop (mkF m 104 #[.val (.int p0), .val (.int p1), .val (.int p2), .val (.int (7 : Int32)), .val (.ref b1), .val (.ref b132), .unset] []))
    refine Go.st (fun _ k => XS.aload X136.here hx rfl (hb hby at_104) rfl rfl k) ?_
    refine Go.st (fun _ k => XS.iconst X136.here hx rfl (hb hby at_106) k) ?_
    show Go p e below _ (T136.setTop (mkF m 107 #[.val (.int p0), .val (.int p1), .val (.int p2), .val (.int (7 : Int32)), .val (.ref b1), .val (.ref b132), .unset] [(.int (1 : Int32)), (.ref b132)]))
    refine Go.st (fun _ k => XS.aload X136.here hx rfl (hb hby at_107) rfl rfl k) ?_
    refine Go.st (fun _ k => XS.iconst X136.here hx rfl (hb hby at_109) k) ?_
    show Go p e below _ (T136.setTop (mkF m 110 #[.val (.int p0), .val (.int p1), .val (.int p2), .val (.int (7 : Int32)), .val (.ref b1), .val (.ref b132), .unset] [(.int (1 : Int32)), (.ref b1), (.int (1 : Int32)), (.ref b132)]))
    obtain ⟨cl137, Ar137, ck137, Sz137, Nn137, Hs137, Gs137⟩ := id F136_V_b1
    have hin137 : ¬ ((1 : Int32) < 0 ∨ cl137.slots.size ≤ ((1 : Int32)).toNatClampNeg) := inb_of Sz137 ⟨by decide, by decide⟩
    have hat137 : cl137.slots[((1 : Int32)).toNatClampNeg]? = some (.int (nar .byte y5)) := Hs137.at hin137 rfl
    refine Go.st (fun _ k => X136.baloadBytes hx (j := (1 : Int32)) (v := (.int (nar .byte y5))) (by rw [e136]; exact Ar137.1) (State.isArrayOf_alike hZ.alike Ar137.2.1) Ar137.2.2 hin137 hat137 (g := (mkF m 110 #[.val (.int p0), .val (.int p1), .val (.int p2), .val (.int (7 : Int32)), .val (.ref b1), .val (.ref b132), .unset] [(.int (1 : Int32)), (.ref b1), (.int (1 : Int32)), (.ref b132)])) rfl rfl (hb hby at_110) _ k) ?_
    show Go p e below _ (T136.setTop (mkF m 111 #[.val (.int p0), .val (.int p1), .val (.int p2), .val (.int (7 : Int32)), .val (.ref b1), .val (.ref b132), .unset] [(.int (nar .byte y5)), (.int (1 : Int32)), (.ref b132)]))
    generalize hy138 : (nar .byte y5) = y138
    show Go p e below _ (T136.setTop (mkF m 111 #[.val (.int p0), .val (.int p1), .val (.int p2), .val (.int (7 : Int32)), .val (.ref b1), .val (.ref b132), .unset] [(.int y138), (.int (1 : Int32)), (.ref b132)]))
    obtain ⟨cl139, Ar139, ck139, Sz139, Nn139, Hs139, Gs139⟩ := id V136
    have hin139 : ¬ ((1 : Int32) < 0 ∨ cl139.slots.size ≤ ((1 : Int32)).toNatClampNeg) := inb_of Sz139 ⟨by decide, by decide⟩
    obtain ⟨T140, h140, X140, e140, W140, st140⟩ := stB X136 hx hZ e136 Ar139 (j := (1 : Int32)) hin139 (g := (mkF m 111 #[.val (.int p0), .val (.int p1), .val (.int p2), .val (.int (7 : Int32)), .val (.ref b1), .val (.ref b132), .unset] [(.int y138), (.int (1 : Int32)), (.ref b132)])) rfl rfl (hb hby at_111)
    have F140_V_b1 := F136_V_b1.other W140 ne132_b1
    have V140 : Arv Z h140 b132 k132 .byte (7 : Int32) [(.int (nar .byte y134)), (.int (nar .byte y138)), (.int (0 : Int32)), (.int (0 : Int32)), (.int (0 : Int32)), (.int (0 : Int32)), (.int (0 : Int32))] (.int (0 : Int32)) := Arv.set Ar139 ck139 Sz139 Nn139 Hs139 Gs139 (fits_nar_byte _) W140 1 rfl (Nat.le_of_ble_eq_true rfl)
    have N140 := Fr.snoc X140 N136 gg132
    have Z140 : n0 ≤ h140.size := by rw [W140.size]; exact Z136
    refine Go.st (fun _ k => st140 _ k) ?_
    show Go p e below _ (T140.setTop (mkF m 112 #[.val (.int p0), .val (.int p1), .val (.int p2), .val (.int (7 : Int32)), .val (.ref b1), .val (.ref b132), .unset] []))
    refine Go.st (fun _ k => XS.iloadN X140.here hx rfl (hb hby at_112) rfl k) ?_
    refine Go.st (fun _ k => XS.iconst X140.here hx rfl (hb hby at_113) k) ?_
    show Go p e below _ (T140.setTop (mkF m 114 #[.val (.int p0), .val (.int p1), .val (.int p2), .val (.int (7 : Int32)), .val (.ref b1), .val (.ref b132), .unset] [(.int (2 : Int32)), (.int (7 : Int32))]))
    refine Go.st (fun _ k => XS.icmpNo X140.here hx rfl (hb hby at_114) rfl (tlt (by decide : ((2 : Int32) < (7 : Int32)))).2.2.2 k) ?_
    show Go p e below _ (T140.setTop (mkF m 117 #[.val (.int p0), .val (.int p1), .val (.int p2), .val (.int (7 : Int32)), .val (.ref b1), .val (.ref b132), .unset] []))
    refine Go.st (fun _ k => XS.aload X140.here hx rfl (hb hby at_117) rfl rfl k) ?_
    refine Go.st (fun _ k => XS.iconst X140.here hx rfl (hb hby at_119) k) ?_
    show Go p e below _ (T140.setTop (mkF m 120 #[.val (.int p0), .val (.int p1), .val (.int p2), .val (.int (7 : Int32)), .val (.ref b1), .val (.ref b132), .unset] [(.int (2 : Int32)), (.ref b132)]))
    refine Go.st (fun _ k => XS.aload X140.here hx rfl (hb hby at_120) rfl rfl k) ?_
    refine Go.st (fun _ k => XS.iconst X140.here hx rfl (hb hby at_122) k) ?_
    show Go p e below _ (T140.setTop (mkF m 123 #[.val (.int p0), .val (.int p1), .val (.int p2), .val (.int (7 : Int32)), .val (.ref b1), .val (.ref b132), .unset] [(.int (2 : Int32)), (.ref b1), (.int (2 : Int32)), (.ref b132)]))
    obtain ⟨cl141, Ar141, ck141, Sz141, Nn141, Hs141, Gs141⟩ := id F140_V_b1
    have hin141 : ¬ ((2 : Int32) < 0 ∨ cl141.slots.size ≤ ((2 : Int32)).toNatClampNeg) := inb_of Sz141 ⟨by decide, by decide⟩
    have hat141 : cl141.slots[((2 : Int32)).toNatClampNeg]? = some (.int (nar .byte y8)) := Hs141.at hin141 rfl
    refine Go.st (fun _ k => X140.baloadBytes hx (j := (2 : Int32)) (v := (.int (nar .byte y8))) (by rw [e140]; exact Ar141.1) (State.isArrayOf_alike hZ.alike Ar141.2.1) Ar141.2.2 hin141 hat141 (g := (mkF m 123 #[.val (.int p0), .val (.int p1), .val (.int p2), .val (.int (7 : Int32)), .val (.ref b1), .val (.ref b132), .unset] [(.int (2 : Int32)), (.ref b1), (.int (2 : Int32)), (.ref b132)])) rfl rfl (hb hby at_123) _ k) ?_
    show Go p e below _ (T140.setTop (mkF m 124 #[.val (.int p0), .val (.int p1), .val (.int p2), .val (.int (7 : Int32)), .val (.ref b1), .val (.ref b132), .unset] [(.int (nar .byte y8)), (.int (2 : Int32)), (.ref b132)]))
    generalize hy142 : (nar .byte y8) = y142
    show Go p e below _ (T140.setTop (mkF m 124 #[.val (.int p0), .val (.int p1), .val (.int p2), .val (.int (7 : Int32)), .val (.ref b1), .val (.ref b132), .unset] [(.int y142), (.int (2 : Int32)), (.ref b132)]))
    obtain ⟨cl143, Ar143, ck143, Sz143, Nn143, Hs143, Gs143⟩ := id V140
    have hin143 : ¬ ((2 : Int32) < 0 ∨ cl143.slots.size ≤ ((2 : Int32)).toNatClampNeg) := inb_of Sz143 ⟨by decide, by decide⟩
    obtain ⟨T144, h144, X144, e144, W144, st144⟩ := stB X140 hx hZ e140 Ar143 (j := (2 : Int32)) hin143 (g := (mkF m 124 #[.val (.int p0), .val (.int p1), .val (.int p2), .val (.int (7 : Int32)), .val (.ref b1), .val (.ref b132), .unset] [(.int y142), (.int (2 : Int32)), (.ref b132)])) rfl rfl (hb hby at_124)
    have F144_V_b1 := F140_V_b1.other W144 ne132_b1
    have V144 : Arv Z h144 b132 k132 .byte (7 : Int32) [(.int (nar .byte y134)), (.int (nar .byte y138)), (.int (nar .byte y142)), (.int (0 : Int32)), (.int (0 : Int32)), (.int (0 : Int32)), (.int (0 : Int32))] (.int (0 : Int32)) := Arv.set Ar143 ck143 Sz143 Nn143 Hs143 Gs143 (fits_nar_byte _) W144 2 rfl (Nat.le_of_ble_eq_true rfl)
    have N144 := Fr.snoc X144 N140 gg132
    have Z144 : n0 ≤ h144.size := by rw [W144.size]; exact Z140
    refine Go.st (fun _ k => st144 _ k) ?_
    show Go p e below _ (T144.setTop (mkF m 125 #[.val (.int p0), .val (.int p1), .val (.int p2), .val (.int (7 : Int32)), .val (.ref b1), .val (.ref b132), .unset] []))
    refine Go.st (fun _ k => XS.iloadN X144.here hx rfl (hb hby at_125) rfl k) ?_
    refine Go.st (fun _ k => XS.iconst X144.here hx rfl (hb hby at_126) k) ?_
    show Go p e below _ (T144.setTop (mkF m 127 #[.val (.int p0), .val (.int p1), .val (.int p2), .val (.int (7 : Int32)), .val (.ref b1), .val (.ref b132), .unset] [(.int (3 : Int32)), (.int (7 : Int32))]))
    refine Go.st (fun _ k => XS.icmpNo X144.here hx rfl (hb hby at_127) rfl (tlt (by decide : ((3 : Int32) < (7 : Int32)))).2.2.2 k) ?_
    show Go p e below _ (T144.setTop (mkF m 130 #[.val (.int p0), .val (.int p1), .val (.int p2), .val (.int (7 : Int32)), .val (.ref b1), .val (.ref b132), .unset] []))
    refine Go.st (fun _ k => XS.aload X144.here hx rfl (hb hby at_130) rfl rfl k) ?_
    refine Go.st (fun _ k => XS.iconst X144.here hx rfl (hb hby at_132) k) ?_
    show Go p e below _ (T144.setTop (mkF m 133 #[.val (.int p0), .val (.int p1), .val (.int p2), .val (.int (7 : Int32)), .val (.ref b1), .val (.ref b132), .unset] [(.int (3 : Int32)), (.ref b132)]))
    refine Go.st (fun _ k => XS.aload X144.here hx rfl (hb hby at_133) rfl rfl k) ?_
    refine Go.st (fun _ k => XS.iconst X144.here hx rfl (hb hby at_135) k) ?_
    show Go p e below _ (T144.setTop (mkF m 136 #[.val (.int p0), .val (.int p1), .val (.int p2), .val (.int (7 : Int32)), .val (.ref b1), .val (.ref b132), .unset] [(.int (3 : Int32)), (.ref b1), (.int (3 : Int32)), (.ref b132)]))
    obtain ⟨cl145, Ar145, ck145, Sz145, Nn145, Hs145, Gs145⟩ := id F144_V_b1
    have hin145 : ¬ ((3 : Int32) < 0 ∨ cl145.slots.size ≤ ((3 : Int32)).toNatClampNeg) := inb_of Sz145 ⟨by decide, by decide⟩
    have hat145 : cl145.slots[((3 : Int32)).toNatClampNeg]? = some (.int (nar .byte y11)) := Hs145.at hin145 rfl
    refine Go.st (fun _ k => X144.baloadBytes hx (j := (3 : Int32)) (v := (.int (nar .byte y11))) (by rw [e144]; exact Ar145.1) (State.isArrayOf_alike hZ.alike Ar145.2.1) Ar145.2.2 hin145 hat145 (g := (mkF m 136 #[.val (.int p0), .val (.int p1), .val (.int p2), .val (.int (7 : Int32)), .val (.ref b1), .val (.ref b132), .unset] [(.int (3 : Int32)), (.ref b1), (.int (3 : Int32)), (.ref b132)])) rfl rfl (hb hby at_136) _ k) ?_
    show Go p e below _ (T144.setTop (mkF m 137 #[.val (.int p0), .val (.int p1), .val (.int p2), .val (.int (7 : Int32)), .val (.ref b1), .val (.ref b132), .unset] [(.int (nar .byte y11)), (.int (3 : Int32)), (.ref b132)]))
    generalize hy146 : (nar .byte y11) = y146
    show Go p e below _ (T144.setTop (mkF m 137 #[.val (.int p0), .val (.int p1), .val (.int p2), .val (.int (7 : Int32)), .val (.ref b1), .val (.ref b132), .unset] [(.int y146), (.int (3 : Int32)), (.ref b132)]))
    obtain ⟨cl147, Ar147, ck147, Sz147, Nn147, Hs147, Gs147⟩ := id V144
    have hin147 : ¬ ((3 : Int32) < 0 ∨ cl147.slots.size ≤ ((3 : Int32)).toNatClampNeg) := inb_of Sz147 ⟨by decide, by decide⟩
    obtain ⟨T148, h148, X148, e148, W148, st148⟩ := stB X144 hx hZ e144 Ar147 (j := (3 : Int32)) hin147 (g := (mkF m 137 #[.val (.int p0), .val (.int p1), .val (.int p2), .val (.int (7 : Int32)), .val (.ref b1), .val (.ref b132), .unset] [(.int y146), (.int (3 : Int32)), (.ref b132)])) rfl rfl (hb hby at_137)
    have F148_V_b1 := F144_V_b1.other W148 ne132_b1
    have V148 : Arv Z h148 b132 k132 .byte (7 : Int32) [(.int (nar .byte y134)), (.int (nar .byte y138)), (.int (nar .byte y142)), (.int (nar .byte y146)), (.int (0 : Int32)), (.int (0 : Int32)), (.int (0 : Int32))] (.int (0 : Int32)) := Arv.set Ar147 ck147 Sz147 Nn147 Hs147 Gs147 (fits_nar_byte _) W148 3 rfl (Nat.le_of_ble_eq_true rfl)
    have N148 := Fr.snoc X148 N144 gg132
    have Z148 : n0 ≤ h148.size := by rw [W148.size]; exact Z144
    refine Go.st (fun _ k => st148 _ k) ?_
    show Go p e below _ (T148.setTop (mkF m 138 #[.val (.int p0), .val (.int p1), .val (.int p2), .val (.int (7 : Int32)), .val (.ref b1), .val (.ref b132), .unset] []))
    refine Go.st (fun _ k => XS.iloadN X148.here hx rfl (hb hby at_138) rfl k) ?_
    refine Go.st (fun _ k => XS.iconst X148.here hx rfl (hb hby at_139) k) ?_
    show Go p e below _ (T148.setTop (mkF m 140 #[.val (.int p0), .val (.int p1), .val (.int p2), .val (.int (7 : Int32)), .val (.ref b1), .val (.ref b132), .unset] [(.int (4 : Int32)), (.int (7 : Int32))]))
    refine Go.st (fun _ k => XS.icmpNo X148.here hx rfl (hb hby at_140) rfl (tlt (by decide : ((4 : Int32) < (7 : Int32)))).2.2.2 k) ?_
    show Go p e below _ (T148.setTop (mkF m 143 #[.val (.int p0), .val (.int p1), .val (.int p2), .val (.int (7 : Int32)), .val (.ref b1), .val (.ref b132), .unset] []))
    refine Go.st (fun _ k => XS.aload X148.here hx rfl (hb hby at_143) rfl rfl k) ?_
    refine Go.st (fun _ k => XS.iconst X148.here hx rfl (hb hby at_145) k) ?_
    show Go p e below _ (T148.setTop (mkF m 146 #[.val (.int p0), .val (.int p1), .val (.int p2), .val (.int (7 : Int32)), .val (.ref b1), .val (.ref b132), .unset] [(.int (4 : Int32)), (.ref b132)]))
    refine Go.st (fun _ k => XS.aload X148.here hx rfl (hb hby at_146) rfl rfl k) ?_
    refine Go.st (fun _ k => XS.iconst X148.here hx rfl (hb hby at_148) k) ?_
    show Go p e below _ (T148.setTop (mkF m 149 #[.val (.int p0), .val (.int p1), .val (.int p2), .val (.int (7 : Int32)), .val (.ref b1), .val (.ref b132), .unset] [(.int (4 : Int32)), (.ref b1), (.int (4 : Int32)), (.ref b132)]))
    obtain ⟨cl149, Ar149, ck149, Sz149, Nn149, Hs149, Gs149⟩ := id F148_V_b1
    have hin149 : ¬ ((4 : Int32) < 0 ∨ cl149.slots.size ≤ ((4 : Int32)).toNatClampNeg) := inb_of Sz149 ⟨by decide, by decide⟩
    have hat149 : cl149.slots[((4 : Int32)).toNatClampNeg]? = some (.int (nar .byte y14)) := Hs149.at hin149 rfl
    refine Go.st (fun _ k => X148.baloadBytes hx (j := (4 : Int32)) (v := (.int (nar .byte y14))) (by rw [e148]; exact Ar149.1) (State.isArrayOf_alike hZ.alike Ar149.2.1) Ar149.2.2 hin149 hat149 (g := (mkF m 149 #[.val (.int p0), .val (.int p1), .val (.int p2), .val (.int (7 : Int32)), .val (.ref b1), .val (.ref b132), .unset] [(.int (4 : Int32)), (.ref b1), (.int (4 : Int32)), (.ref b132)])) rfl rfl (hb hby at_149) _ k) ?_
    show Go p e below _ (T148.setTop (mkF m 150 #[.val (.int p0), .val (.int p1), .val (.int p2), .val (.int (7 : Int32)), .val (.ref b1), .val (.ref b132), .unset] [(.int (nar .byte y14)), (.int (4 : Int32)), (.ref b132)]))
    generalize hy150 : (nar .byte y14) = y150
    show Go p e below _ (T148.setTop (mkF m 150 #[.val (.int p0), .val (.int p1), .val (.int p2), .val (.int (7 : Int32)), .val (.ref b1), .val (.ref b132), .unset] [(.int y150), (.int (4 : Int32)), (.ref b132)]))
    obtain ⟨cl151, Ar151, ck151, Sz151, Nn151, Hs151, Gs151⟩ := id V148
    have hin151 : ¬ ((4 : Int32) < 0 ∨ cl151.slots.size ≤ ((4 : Int32)).toNatClampNeg) := inb_of Sz151 ⟨by decide, by decide⟩
    obtain ⟨T152, h152, X152, e152, W152, st152⟩ := stB X148 hx hZ e148 Ar151 (j := (4 : Int32)) hin151 (g := (mkF m 150 #[.val (.int p0), .val (.int p1), .val (.int p2), .val (.int (7 : Int32)), .val (.ref b1), .val (.ref b132), .unset] [(.int y150), (.int (4 : Int32)), (.ref b132)])) rfl rfl (hb hby at_150)
    have F152_V_b1 := F148_V_b1.other W152 ne132_b1
    have V152 : Arv Z h152 b132 k132 .byte (7 : Int32) [(.int (nar .byte y134)), (.int (nar .byte y138)), (.int (nar .byte y142)), (.int (nar .byte y146)), (.int (nar .byte y150)), (.int (0 : Int32)), (.int (0 : Int32))] (.int (0 : Int32)) := Arv.set Ar151 ck151 Sz151 Nn151 Hs151 Gs151 (fits_nar_byte _) W152 4 rfl (Nat.le_of_ble_eq_true rfl)
    have N152 := Fr.snoc X152 N148 gg132
    have Z152 : n0 ≤ h152.size := by rw [W152.size]; exact Z148
    refine Go.st (fun _ k => st152 _ k) ?_
    show Go p e below _ (T152.setTop (mkF m 151 #[.val (.int p0), .val (.int p1), .val (.int p2), .val (.int (7 : Int32)), .val (.ref b1), .val (.ref b132), .unset] []))
    refine Go.st (fun _ k => XS.iloadN X152.here hx rfl (hb hby at_151) rfl k) ?_
    refine Go.st (fun _ k => XS.iconst X152.here hx rfl (hb hby at_152) k) ?_
    show Go p e below _ (T152.setTop (mkF m 153 #[.val (.int p0), .val (.int p1), .val (.int p2), .val (.int (7 : Int32)), .val (.ref b1), .val (.ref b132), .unset] [(.int (5 : Int32)), (.int (7 : Int32))]))
    refine Go.st (fun _ k => XS.icmpNo X152.here hx rfl (hb hby at_153) rfl (tlt (by decide : ((5 : Int32) < (7 : Int32)))).2.2.2 k) ?_
    show Go p e below _ (T152.setTop (mkF m 156 #[.val (.int p0), .val (.int p1), .val (.int p2), .val (.int (7 : Int32)), .val (.ref b1), .val (.ref b132), .unset] []))
    refine Go.st (fun _ k => XS.aload X152.here hx rfl (hb hby at_156) rfl rfl k) ?_
    refine Go.st (fun _ k => XS.iconst X152.here hx rfl (hb hby at_158) k) ?_
    show Go p e below _ (T152.setTop (mkF m 159 #[.val (.int p0), .val (.int p1), .val (.int p2), .val (.int (7 : Int32)), .val (.ref b1), .val (.ref b132), .unset] [(.int (5 : Int32)), (.ref b132)]))
    refine Go.st (fun _ k => XS.aload X152.here hx rfl (hb hby at_159) rfl rfl k) ?_
    refine Go.st (fun _ k => XS.iconst X152.here hx rfl (hb hby at_161) k) ?_
    show Go p e below _ (T152.setTop (mkF m 162 #[.val (.int p0), .val (.int p1), .val (.int p2), .val (.int (7 : Int32)), .val (.ref b1), .val (.ref b132), .unset] [(.int (5 : Int32)), (.ref b1), (.int (5 : Int32)), (.ref b132)]))
    obtain ⟨cl153, Ar153, ck153, Sz153, Nn153, Hs153, Gs153⟩ := id F152_V_b1
    have hin153 : ¬ ((5 : Int32) < 0 ∨ cl153.slots.size ≤ ((5 : Int32)).toNatClampNeg) := inb_of Sz153 ⟨by decide, by decide⟩
    have hat153 : cl153.slots[((5 : Int32)).toNatClampNeg]? = some (.int (nar .byte y17)) := Hs153.at hin153 rfl
    refine Go.st (fun _ k => X152.baloadBytes hx (j := (5 : Int32)) (v := (.int (nar .byte y17))) (by rw [e152]; exact Ar153.1) (State.isArrayOf_alike hZ.alike Ar153.2.1) Ar153.2.2 hin153 hat153 (g := (mkF m 162 #[.val (.int p0), .val (.int p1), .val (.int p2), .val (.int (7 : Int32)), .val (.ref b1), .val (.ref b132), .unset] [(.int (5 : Int32)), (.ref b1), (.int (5 : Int32)), (.ref b132)])) rfl rfl (hb hby at_162) _ k) ?_
    show Go p e below _ (T152.setTop (mkF m 163 #[.val (.int p0), .val (.int p1), .val (.int p2), .val (.int (7 : Int32)), .val (.ref b1), .val (.ref b132), .unset] [(.int (nar .byte y17)), (.int (5 : Int32)), (.ref b132)]))
    generalize hy154 : (nar .byte y17) = y154
    show Go p e below _ (T152.setTop (mkF m 163 #[.val (.int p0), .val (.int p1), .val (.int p2), .val (.int (7 : Int32)), .val (.ref b1), .val (.ref b132), .unset] [(.int y154), (.int (5 : Int32)), (.ref b132)]))
    obtain ⟨cl155, Ar155, ck155, Sz155, Nn155, Hs155, Gs155⟩ := id V152
    have hin155 : ¬ ((5 : Int32) < 0 ∨ cl155.slots.size ≤ ((5 : Int32)).toNatClampNeg) := inb_of Sz155 ⟨by decide, by decide⟩
    obtain ⟨T156, h156, X156, e156, W156, st156⟩ := stB X152 hx hZ e152 Ar155 (j := (5 : Int32)) hin155 (g := (mkF m 163 #[.val (.int p0), .val (.int p1), .val (.int p2), .val (.int (7 : Int32)), .val (.ref b1), .val (.ref b132), .unset] [(.int y154), (.int (5 : Int32)), (.ref b132)])) rfl rfl (hb hby at_163)
    have F156_V_b1 := F152_V_b1.other W156 ne132_b1
    have V156 : Arv Z h156 b132 k132 .byte (7 : Int32) [(.int (nar .byte y134)), (.int (nar .byte y138)), (.int (nar .byte y142)), (.int (nar .byte y146)), (.int (nar .byte y150)), (.int (nar .byte y154)), (.int (0 : Int32))] (.int (0 : Int32)) := Arv.set Ar155 ck155 Sz155 Nn155 Hs155 Gs155 (fits_nar_byte _) W156 5 rfl (Nat.le_of_ble_eq_true rfl)
    have N156 := Fr.snoc X156 N152 gg132
    have Z156 : n0 ≤ h156.size := by rw [W156.size]; exact Z152
    refine Go.st (fun _ k => st156 _ k) ?_
    show Go p e below _ (T156.setTop (mkF m 164 #[.val (.int p0), .val (.int p1), .val (.int p2), .val (.int (7 : Int32)), .val (.ref b1), .val (.ref b132), .unset] []))
    refine Go.st (fun _ k => XS.iloadN X156.here hx rfl (hb hby at_164) rfl k) ?_
    refine Go.st (fun _ k => XS.bipush X156.here hx rfl (hb hby at_165) k) ?_
    show Go p e below _ (T156.setTop (mkF m 167 #[.val (.int p0), .val (.int p1), .val (.int p2), .val (.int (7 : Int32)), .val (.ref b1), .val (.ref b132), .unset] [(.int (6 : Int32)), (.int (7 : Int32))]))
    refine Go.st (fun _ k => XS.icmpNo X156.here hx rfl (hb hby at_167) rfl (tlt (by decide : ((6 : Int32) < (7 : Int32)))).2.2.2 k) ?_
    show Go p e below _ (T156.setTop (mkF m 170 #[.val (.int p0), .val (.int p1), .val (.int p2), .val (.int (7 : Int32)), .val (.ref b1), .val (.ref b132), .unset] []))
    refine Go.st (fun _ k => XS.aload X156.here hx rfl (hb hby at_170) rfl rfl k) ?_
    refine Go.st (fun _ k => XS.bipush X156.here hx rfl (hb hby at_172) k) ?_
    show Go p e below _ (T156.setTop (mkF m 174 #[.val (.int p0), .val (.int p1), .val (.int p2), .val (.int (7 : Int32)), .val (.ref b1), .val (.ref b132), .unset] [(.int (6 : Int32)), (.ref b132)]))
    refine Go.st (fun _ k => XS.aload X156.here hx rfl (hb hby at_174) rfl rfl k) ?_
    refine Go.st (fun _ k => XS.bipush X156.here hx rfl (hb hby at_176) k) ?_
    show Go p e below _ (T156.setTop (mkF m 178 #[.val (.int p0), .val (.int p1), .val (.int p2), .val (.int (7 : Int32)), .val (.ref b1), .val (.ref b132), .unset] [(.int (6 : Int32)), (.ref b1), (.int (6 : Int32)), (.ref b132)]))
    obtain ⟨cl157, Ar157, ck157, Sz157, Nn157, Hs157, Gs157⟩ := id F156_V_b1
    have hin157 : ¬ ((6 : Int32) < 0 ∨ cl157.slots.size ≤ ((6 : Int32)).toNatClampNeg) := inb_of Sz157 ⟨by decide, by decide⟩
    have hat157 : cl157.slots[((6 : Int32)).toNatClampNeg]? = some (.int (nar .byte y20)) := Hs157.at hin157 rfl
    refine Go.st (fun _ k => X156.baloadBytes hx (j := (6 : Int32)) (v := (.int (nar .byte y20))) (by rw [e156]; exact Ar157.1) (State.isArrayOf_alike hZ.alike Ar157.2.1) Ar157.2.2 hin157 hat157 (g := (mkF m 178 #[.val (.int p0), .val (.int p1), .val (.int p2), .val (.int (7 : Int32)), .val (.ref b1), .val (.ref b132), .unset] [(.int (6 : Int32)), (.ref b1), (.int (6 : Int32)), (.ref b132)])) rfl rfl (hb hby at_178) _ k) ?_
    show Go p e below _ (T156.setTop (mkF m 179 #[.val (.int p0), .val (.int p1), .val (.int p2), .val (.int (7 : Int32)), .val (.ref b1), .val (.ref b132), .unset] [(.int (nar .byte y20)), (.int (6 : Int32)), (.ref b132)]))
    generalize hy158 : (nar .byte y20) = y158
    show Go p e below _ (T156.setTop (mkF m 179 #[.val (.int p0), .val (.int p1), .val (.int p2), .val (.int (7 : Int32)), .val (.ref b1), .val (.ref b132), .unset] [(.int y158), (.int (6 : Int32)), (.ref b132)]))
    obtain ⟨cl159, Ar159, ck159, Sz159, Nn159, Hs159, Gs159⟩ := id V156
    have hin159 : ¬ ((6 : Int32) < 0 ∨ cl159.slots.size ≤ ((6 : Int32)).toNatClampNeg) := inb_of Sz159 ⟨by decide, by decide⟩
    obtain ⟨T160, h160, X160, e160, W160, st160⟩ := stB X156 hx hZ e156 Ar159 (j := (6 : Int32)) hin159 (g := (mkF m 179 #[.val (.int p0), .val (.int p1), .val (.int p2), .val (.int (7 : Int32)), .val (.ref b1), .val (.ref b132), .unset] [(.int y158), (.int (6 : Int32)), (.ref b132)])) rfl rfl (hb hby at_179)
    have F160_V_b1 := F156_V_b1.other W160 ne132_b1
    have V160 : Arv Z h160 b132 k132 .byte (7 : Int32) [(.int (nar .byte y134)), (.int (nar .byte y138)), (.int (nar .byte y142)), (.int (nar .byte y146)), (.int (nar .byte y150)), (.int (nar .byte y154)), (.int (nar .byte y158))] (.int (0 : Int32)) := Arv.set Ar159 ck159 Sz159 Nn159 Hs159 Gs159 (fits_nar_byte _) W160 6 rfl (Nat.le_of_ble_eq_true rfl)
    have N160 := Fr.snoc X160 N156 gg132
    have Z160 : n0 ≤ h160.size := by rw [W160.size]; exact Z156
    refine Go.st (fun _ k => st160 _ k) ?_
    show Go p e below _ (T160.setTop (mkF m 180 #[.val (.int p0), .val (.int p1), .val (.int p2), .val (.int (7 : Int32)), .val (.ref b1), .val (.ref b132), .unset] []))
    refine Go.st (fun _ k => XS.iloadN X160.here hx rfl (hb hby at_180) rfl k) ?_
    refine Go.st (fun _ k => XS.bipush X160.here hx rfl (hb hby at_181) k) ?_
    show Go p e below _ (T160.setTop (mkF m 183 #[.val (.int p0), .val (.int p1), .val (.int p2), .val (.int (7 : Int32)), .val (.ref b1), .val (.ref b132), .unset] [(.int (7 : Int32)), (.int (7 : Int32))]))
    refine Go.st (fun _ k => XS.icmpYes X160.here hx rfl (pc0 := 183) (pc' := 196) rfl (hb hby at_183) rfl (flt (by decide : ¬ ((7 : Int32) < (7 : Int32)))).2.2.2 (by decide) (by decide) k) ?_
    show Go p e below _ (T160.setTop (mkF m 196 #[.val (.int p0), .val (.int p1), .val (.int p2), .val (.int (7 : Int32)), .val (.ref b1), .val (.ref b132), .unset] []))
    refine Go.st (fun _ k => XS.aload X160.here hx rfl (hb hby at_196) rfl rfl k) ?_
    refine Go.st (fun _ k => XS.iloadN X160.here hx rfl (hb hby at_198) rfl k) ?_
    show Go p e below _ (T160.setTop (mkF m 199 #[.val (.int p0), .val (.int p1), .val (.int p2), .val (.int (7 : Int32)), .val (.ref b1), .val (.ref b132), .unset] [(.int (7 : Int32)), (.ref b132)]))
    obtain ⟨_, _, ⟨T161, L161, k161, n161⟩, -, X161, ⟨Lc161, hQ161, l161, y161, z161⟩, st161⟩ := Jvm.LawKit.callS X160 hx (y := (⟨"com/example/apportis/apportis/Utf8FirstInvalidPinLaw", "reference", "([BI)I"⟩ : MethodName)) hown (mvT hZ (hw _ (List.mem_of_getElem? (i := 2) rfl))) (mvT hZ (hw _ (List.mem_of_getElem? (i := 3) rfl))) (mvT hZ (hw _ (List.mem_of_getElem? (i := 4) rfl))) (mvT hZ (hw _ (List.mem_of_getElem? (i := 5) rfl))) (by decide) (backOf (W := 0) (rmRef l Z aZ hw [] b132 (7 : Int32) k132 [(.int (nar .byte y134)), (.int (nar .byte y138)), (.int (nar .byte y142)), (.int (nar .byte y146)), (.int (nar .byte y150)), (.int (nar .byte y154)), (.int (nar .byte y158))] h160 n0 (by decide) (own_byt7 y134 y138 y142 y146 y150 y154 y158) (by decide) (own_int7 y134 y138 y142 y146 y150 y154 y158) V160) hZ (hw _ (List.mem_of_getElem? (i := 5) rfl)) (hw _ (List.mem_of_getElem? (i := 4) rfl)) (by decide) (by decide)) (g := (mkF m 199 #[.val (.int p0), .val (.int p1), .val (.int p2), .val (.int (7 : Int32)), .val (.ref b1), .val (.ref b132), .unset] [(.int (7 : Int32)), (.ref b132)])) rfl (by rw [hml]; rfl) (argsL := [(.ref b132), (.int (7 : Int32))]) (rest := []) (lenOf pd92f6cd8e rfl) rfl (by show 2 * 0 + _ ≤ _; exact Nat.le_of_eq rfl) (hb hby at_199) (fun _ _ => ⟨rfl, e160, (by decide : 2 + 0 ≤ _), (by decide : 15 + 0 ≤ _)⟩)
    dsimp only [Pt.U, Pt.locs, Pt.cells, Pt.slots] at X161 l161 y161 z161 st161 hQ161
    subst l161 y161 z161
    obtain ⟨rfl, N161q, e161⟩ := hQ161
    have N161 := Fr.app N160 N161q
    refine Go.st (fun _ k => st161 _ k) ?_
    show Go p e below _ (T161.setTop (mkF m 202 #[.val (.int p0), .val (.int p1), .val (.int p2), .val (.int (7 : Int32)), .val (.ref b1), .val (.ref b132), .unset] [(.int (own_scan [(.int (nar .byte y134)), (.int (nar .byte y138)), (.int (nar .byte y142)), (.int (nar .byte y146)), (.int (nar .byte y150)), (.int (nar .byte y154)), (.int (nar .byte y158))] (7 : Int32) 8 0))]))
    refine Go.st (fun _ k => XS.istore X161.here hx rfl (hb hby at_202) rfl (l' := #[.val (.int p0), .val (.int p1), .val (.int p2), .val (.int (7 : Int32)), .val (.ref b1), .val (.ref b132), .val (.int (own_scan [(.int (nar .byte y134)), (.int (nar .byte y138)), (.int (nar .byte y142)), (.int (nar .byte y146)), (.int (nar .byte y150)), (.int (nar .byte y154)), (.int (nar .byte y158))] (7 : Int32) 8 0))]) rfl k) ?_
    show Go p e below _ (T161.setTop (mkF m 204 #[.val (.int p0), .val (.int p1), .val (.int p2), .val (.int (7 : Int32)), .val (.ref b1), .val (.ref b132), .val (.int (own_scan [(.int (nar .byte y134)), (.int (nar .byte y138)), (.int (nar .byte y142)), (.int (nar .byte y146)), (.int (nar .byte y150)), (.int (nar .byte y154)), (.int (nar .byte y158))] (7 : Int32) 8 0))] []))
    refine Go.st (fun _ k => XS.aload X161.here hx rfl (hb hby at_204) rfl rfl k) ?_
    show Go p e below _ (T161.setTop (mkF m 206 #[.val (.int p0), .val (.int p1), .val (.int p2), .val (.int (7 : Int32)), .val (.ref b1), .val (.ref b132), .val (.int (own_scan [(.int (nar .byte y134)), (.int (nar .byte y138)), (.int (nar .byte y142)), (.int (nar .byte y146)), (.int (nar .byte y150)), (.int (nar .byte y154)), (.int (nar .byte y158))] (7 : Int32) 8 0))] [(.ref b132)]))
    obtain ⟨_, _, ⟨T162, L162, k162, n162⟩, -, X162, ⟨Lc162, hQ162, l162, y162, z162⟩, st162⟩ := Jvm.LawKit.callS X161 hx (y := (⟨"com/example/apportis/apportis/Utf8", "firstInvalid", "([B)I"⟩ : MethodName)) hown (mvT hZ (hw _ (List.mem_of_getElem? (i := 9) rfl))) (mvT hZ (hw _ (List.mem_of_getElem? (i := 10) rfl))) (mvT hZ (hw _ (List.mem_of_getElem? (i := 11) rfl))) (mvT hZ (hw _ (List.mem_of_getElem? (i := 12) rfl))) (by decide) (backOf (W := 0) (rmFI l Z aZ hw [] b132 k132 (7 : Int32) [(.int (nar .byte y134)), (.int (nar .byte y138)), (.int (nar .byte y142)), (.int (nar .byte y146)), (.int (nar .byte y150)), (.int (nar .byte y154)), (.int (nar .byte y158))] h160 n0 (by decide) (own_byt7 y134 y138 y142 y146 y150 y154 y158) (by decide) (own_int7 y134 y138 y142 y146 y150 y154 y158) V160) hZ (hw _ (List.mem_of_getElem? (i := 12) rfl)) (hw _ (List.mem_of_getElem? (i := 11) rfl)) (by decide) (by decide)) (g := (mkF m 206 #[.val (.int p0), .val (.int p1), .val (.int p2), .val (.int (7 : Int32)), .val (.ref b1), .val (.ref b132), .val (.int (own_scan [(.int (nar .byte y134)), (.int (nar .byte y138)), (.int (nar .byte y142)), (.int (nar .byte y146)), (.int (nar .byte y150)), (.int (nar .byte y154)), (.int (nar .byte y158))] (7 : Int32) 8 0))] [(.ref b132)])) rfl (by rw [hml]; rfl) (argsL := [(.ref b132)]) (rest := []) (lenOf pdca677057 rfl) rfl (by show 2 * 0 + _ ≤ _; exact Nat.le_of_eq rfl) (hb hby at_206) (fun _ _ => ⟨rfl, e161, (by decide : 2 + 0 ≤ _), (by decide : 15 + 0 ≤ _)⟩)
    dsimp only [Pt.U, Pt.locs, Pt.cells, Pt.slots] at X162 l162 y162 z162 st162 hQ162
    subst l162 y162 z162
    obtain ⟨rfl, N162q, e162⟩ := hQ162
    have N162 := Fr.app N161 N162q
    refine Go.st (fun _ k => st162 _ k) ?_
    show Go p e below _ (T162.setTop (mkF m 209 #[.val (.int p0), .val (.int p1), .val (.int p2), .val (.int (7 : Int32)), .val (.ref b1), .val (.ref b132), .val (.int (own_scan [(.int (nar .byte y134)), (.int (nar .byte y138)), (.int (nar .byte y142)), (.int (nar .byte y146)), (.int (nar .byte y150)), (.int (nar .byte y154)), (.int (nar .byte y158))] (7 : Int32) 8 0))] [(.int (own_scan [(.int (nar .byte y134)), (.int (nar .byte y138)), (.int (nar .byte y142)), (.int (nar .byte y146)), (.int (nar .byte y150)), (.int (nar .byte y154)), (.int (nar .byte y158))] (7 : Int32) ((7 : Int32).toInt.toNat + 1) 0))]))
    refine Go.st (fun _ k => XS.iload X162.here hx rfl (hb hby at_209) rfl k) ?_
    refine Go.st (fun _ k => XS.icmpNo X162.here hx rfl (hb hby at_211) rfl (teq (own_fuel (own_byt7 y134 y138 y142 y146 y150 y154 y158) (by decide) (by decide) (by decide))).2 k) ?_
    show Go p e below _ (T162.setTop (mkF m 214 #[.val (.int p0), .val (.int p1), .val (.int p2), .val (.int (7 : Int32)), .val (.ref b1), .val (.ref b132), .val (.int (own_scan [(.int (nar .byte y134)), (.int (nar .byte y138)), (.int (nar .byte y142)), (.int (nar .byte y146)), (.int (nar .byte y150)), (.int (nar .byte y154)), (.int (nar .byte y158))] (7 : Int32) 8 0))] []))
    refine Go.st (fun _ k => XS.iconst X162.here hx rfl (hb hby at_214) k) ?_
    refine Go.st (fun _ k => XS.goto X162.here hx rfl (pc0 := 215) (pc' := 219) rfl (hb hby at_215) (by decide) (by decide) k) ?_
    show Go p e below _ (T162.setTop (mkF m 219 #[.val (.int p0), .val (.int p1), .val (.int p2), .val (.int (7 : Int32)), .val (.ref b1), .val (.ref b132), .val (.int (own_scan [(.int (nar .byte y134)), (.int (nar .byte y138)), (.int (nar .byte y142)), (.int (nar .byte y146)), (.int (nar .byte y150)), (.int (nar .byte y154)), (.int (nar .byte y158))] (7 : Int32) 8 0))] [(.int (1 : Int32))]))
    obtain ⟨fs, hr, hrun, hended, hW, hsame⟩ := X162.leave (v := some (.int (1 : Int32))) (fun h => by rw [Bd.returns] at h; cases h)
    refine ⟨_, _, retN X162 hx (t := .boolean) Bd.returns (by simp) (hb hby at_219) hr, hrun, hended, _, _, rfl, ?_, ⟨_, rfl⟩, hW, hsame.mono (by decide) (by decide)⟩
    show Q_rm0 Z p0 p1 p2 h0 n0 _ T162.heap _
    rw [e162]
    exact ⟨rfl, N162⟩
  · rw [hr26]
    show Go p e below _ (T25.setTop (mkF m 82 #[.val (.int p0), .val (.int p1), .val (.int p2), .val (.int (8 : Int32)), .val (.ref b1), .unset, .unset] []))
    refine Go.st (fun _ k => XS.iloadN X25.here hx rfl (hb hby at_82) rfl k) ?_
    show Go p e below _ (T25.setTop (mkF m 83 #[.val (.int p0), .val (.int p1), .val (.int p2), .val (.int (8 : Int32)), .val (.ref b1), .unset, .unset] [(.int (8 : Int32))]))
    obtain ⟨T163, h163, k163, X163, e163, E163, A163, st163⟩ := newP X25 hx hZ (hw _ (List.mem_of_getElem? (i := 1) rfl)) e25 (g := (mkF m 83 #[.val (.int p0), .val (.int p1), .val (.int p2), .val (.int (8 : Int32)), .val (.ref b1), .unset, .unset] [(.int (8 : Int32))])) rfl (hb hby at_83) rfl (by decide) (cap := 8) (by decide) (by decide) (by decide) (by decide)
    obtain ⟨b163, g163⟩ : ∃ z, z = h25.size := ⟨_, rfl⟩
    have ne163_b1 : b1 ≠ b163 := Nat.ne_of_lt (Nat.lt_of_lt_of_le V25.lt (Nat.le_of_eq g163.symm))
    have gg163 : n0 ≤ b163 := Nat.le_trans Z25 (Nat.le_of_eq g163.symm)
    rw [← g163] at A163 st163
    have F163_V_b1 := V25.ext E163
    have Z163 : n0 ≤ h163.size := Nat.le_trans Z25 E163.1
    have V163 : Arv Z h163 b163 k163 .byte (8 : Int32) [(.int (0 : Int32)), (.int (0 : Int32)), (.int (0 : Int32)), (.int (0 : Int32)), (.int (0 : Int32)), (.int (0 : Int32)), (.int (0 : Int32)), (.int (0 : Int32))] (.int (0 : Int32)) := (Arv.new A163 (by decide)).pad (pad_rep [] (.int (0 : Int32)) 8)
    refine Go.st (fun _ k => st163 _ k) ?_
    show Go p e below _ (T163.setTop (mkF m 85 #[.val (.int p0), .val (.int p1), .val (.int p2), .val (.int (8 : Int32)), .val (.ref b1), .unset, .unset] [(.ref b163)]))
    refine Go.st (fun _ k => XS.astore X163.here hx rfl (hb hby at_85) rfl rfl (l' := #[.val (.int p0), .val (.int p1), .val (.int p2), .val (.int (8 : Int32)), .val (.ref b1), .val (.ref b163), .unset]) rfl k) ?_
    show Go p e below _ (T163.setTop (mkF m 87 #[.val (.int p0), .val (.int p1), .val (.int p2), .val (.int (8 : Int32)), .val (.ref b1), .val (.ref b163), .unset] []))
    refine Go.st (fun _ k => XS.iloadN X163.here hx rfl (hb hby at_87) rfl k) ?_
    refine Go.st (fun _ k => XS.ifNo X163.here hx rfl (hb hby at_88) rfl ((if0 _ _).trans (tlt (by decide : ((0 : Int32) < (8 : Int32)))).2.2.2) k) ?_
    show Go p e below _ (T163.setTop (mkF m 91 #[.val (.int p0), .val (.int p1), .val (.int p2), .val (.int (8 : Int32)), .val (.ref b1), .val (.ref b163), .unset] []))
    refine Go.st (fun _ k => XS.aload X163.here hx rfl (hb hby at_91) rfl rfl k) ?_
    refine Go.st (fun _ k => XS.iconst X163.here hx rfl (hb hby at_93) k) ?_
    show Go p e below _ (T163.setTop (mkF m 94 #[.val (.int p0), .val (.int p1), .val (.int p2), .val (.int (8 : Int32)), .val (.ref b1), .val (.ref b163), .unset] [(.int (0 : Int32)), (.ref b163)]))
    refine Go.st (fun _ k => XS.aload X163.here hx rfl (hb hby at_94) rfl rfl k) ?_
    refine Go.st (fun _ k => XS.iconst X163.here hx rfl (hb hby at_96) k) ?_
    show Go p e below _ (T163.setTop (mkF m 97 #[.val (.int p0), .val (.int p1), .val (.int p2), .val (.int (8 : Int32)), .val (.ref b1), .val (.ref b163), .unset] [(.int (0 : Int32)), (.ref b1), (.int (0 : Int32)), (.ref b163)]))
    obtain ⟨cl164, Ar164, ck164, Sz164, Nn164, Hs164, Gs164⟩ := id F163_V_b1
    have hin164 : ¬ ((0 : Int32) < 0 ∨ cl164.slots.size ≤ ((0 : Int32)).toNatClampNeg) := inb_of Sz164 ⟨by decide, by decide⟩
    have hat164 : cl164.slots[((0 : Int32)).toNatClampNeg]? = some (.int (nar .byte y2)) := Hs164.at hin164 rfl
    refine Go.st (fun _ k => X163.baloadBytes hx (j := (0 : Int32)) (v := (.int (nar .byte y2))) (by rw [e163]; exact Ar164.1) (State.isArrayOf_alike hZ.alike Ar164.2.1) Ar164.2.2 hin164 hat164 (g := (mkF m 97 #[.val (.int p0), .val (.int p1), .val (.int p2), .val (.int (8 : Int32)), .val (.ref b1), .val (.ref b163), .unset] [(.int (0 : Int32)), (.ref b1), (.int (0 : Int32)), (.ref b163)])) rfl rfl (hb hby at_97) _ k) ?_
    show Go p e below _ (T163.setTop (mkF m 98 #[.val (.int p0), .val (.int p1), .val (.int p2), .val (.int (8 : Int32)), .val (.ref b1), .val (.ref b163), .unset] [(.int (nar .byte y2)), (.int (0 : Int32)), (.ref b163)]))
    generalize hy165 : (nar .byte y2) = y165
    show Go p e below _ (T163.setTop (mkF m 98 #[.val (.int p0), .val (.int p1), .val (.int p2), .val (.int (8 : Int32)), .val (.ref b1), .val (.ref b163), .unset] [(.int y165), (.int (0 : Int32)), (.ref b163)]))
    obtain ⟨cl166, Ar166, ck166, Sz166, Nn166, Hs166, Gs166⟩ := id V163
    have hin166 : ¬ ((0 : Int32) < 0 ∨ cl166.slots.size ≤ ((0 : Int32)).toNatClampNeg) := inb_of Sz166 ⟨by decide, by decide⟩
    obtain ⟨T167, h167, X167, e167, W167, st167⟩ := stB X163 hx hZ e163 Ar166 (j := (0 : Int32)) hin166 (g := (mkF m 98 #[.val (.int p0), .val (.int p1), .val (.int p2), .val (.int (8 : Int32)), .val (.ref b1), .val (.ref b163), .unset] [(.int y165), (.int (0 : Int32)), (.ref b163)])) rfl rfl (hb hby at_98)
    have F167_V_b1 := F163_V_b1.other W167 ne163_b1
    have V167 : Arv Z h167 b163 k163 .byte (8 : Int32) [(.int (nar .byte y165)), (.int (0 : Int32)), (.int (0 : Int32)), (.int (0 : Int32)), (.int (0 : Int32)), (.int (0 : Int32)), (.int (0 : Int32)), (.int (0 : Int32))] (.int (0 : Int32)) := Arv.set Ar166 ck166 Sz166 Nn166 Hs166 Gs166 (fits_nar_byte _) W167 0 rfl (Nat.le_of_ble_eq_true rfl)
    have N167 := Fr.snoc X167 N25 gg163
    have Z167 : n0 ≤ h167.size := by rw [W167.size]; exact Z163
    refine Go.st (fun _ k => st167 _ k) ?_
    show Go p e below _ (T167.setTop (mkF m 99 #[.val (.int p0), .val (.int p1), .val (.int p2), .val (.int (8 : Int32)), .val (.ref b1), .val (.ref b163), .unset] []))
    refine Go.st (fun _ k => XS.iloadN X167.here hx rfl (hb hby at_99) rfl k) ?_
    refine Go.st (fun _ k => XS.iconst X167.here hx rfl (hb hby at_100) k) ?_
    show Go p e below _ (T167.setTop (mkF m 101 #[.val (.int p0), .val (.int p1), .val (.int p2), .val (.int (8 : Int32)), .val (.ref b1), .val (.ref b163), .unset] [(.int (1 : Int32)), (.int (8 : Int32))]))
    refine Go.st (fun _ k => XS.icmpNo X167.here hx rfl (hb hby at_101) rfl (tlt (by decide : ((1 : Int32) < (8 : Int32)))).2.2.2 k) ?_
    show Go p e below _ (T167.setTop (mkF m 104 #[.val (.int p0), .val (.int p1), .val (.int p2), .val (.int (8 : Int32)), .val (.ref b1), .val (.ref b163), .unset] []))
    refine Go.st (fun _ k => XS.aload X167.here hx rfl (hb hby at_104) rfl rfl k) ?_
    refine Go.st (fun _ k => XS.iconst X167.here hx rfl (hb hby at_106) k) ?_
    show Go p e below _ (T167.setTop (mkF m 107 #[.val (.int p0), .val (.int p1), .val (.int p2), .val (.int (8 : Int32)), .val (.ref b1), .val (.ref b163), .unset] [(.int (1 : Int32)), (.ref b163)]))
    refine Go.st (fun _ k => XS.aload X167.here hx rfl (hb hby at_107) rfl rfl k) ?_
    refine Go.st (fun _ k => XS.iconst X167.here hx rfl (hb hby at_109) k) ?_
    show Go p e below _ (T167.setTop (mkF m 110 #[.val (.int p0), .val (.int p1), .val (.int p2), .val (.int (8 : Int32)), .val (.ref b1), .val (.ref b163), .unset] [(.int (1 : Int32)), (.ref b1), (.int (1 : Int32)), (.ref b163)]))
    obtain ⟨cl168, Ar168, ck168, Sz168, Nn168, Hs168, Gs168⟩ := id F167_V_b1
    have hin168 : ¬ ((1 : Int32) < 0 ∨ cl168.slots.size ≤ ((1 : Int32)).toNatClampNeg) := inb_of Sz168 ⟨by decide, by decide⟩
    have hat168 : cl168.slots[((1 : Int32)).toNatClampNeg]? = some (.int (nar .byte y5)) := Hs168.at hin168 rfl
    refine Go.st (fun _ k => X167.baloadBytes hx (j := (1 : Int32)) (v := (.int (nar .byte y5))) (by rw [e167]; exact Ar168.1) (State.isArrayOf_alike hZ.alike Ar168.2.1) Ar168.2.2 hin168 hat168 (g := (mkF m 110 #[.val (.int p0), .val (.int p1), .val (.int p2), .val (.int (8 : Int32)), .val (.ref b1), .val (.ref b163), .unset] [(.int (1 : Int32)), (.ref b1), (.int (1 : Int32)), (.ref b163)])) rfl rfl (hb hby at_110) _ k) ?_
    show Go p e below _ (T167.setTop (mkF m 111 #[.val (.int p0), .val (.int p1), .val (.int p2), .val (.int (8 : Int32)), .val (.ref b1), .val (.ref b163), .unset] [(.int (nar .byte y5)), (.int (1 : Int32)), (.ref b163)]))
    generalize hy169 : (nar .byte y5) = y169
    show Go p e below _ (T167.setTop (mkF m 111 #[.val (.int p0), .val (.int p1), .val (.int p2), .val (.int (8 : Int32)), .val (.ref b1), .val (.ref b163), .unset] [(.int y169), (.int (1 : Int32)), (.ref b163)]))
    obtain ⟨cl170, Ar170, ck170, Sz170, Nn170, Hs170, Gs170⟩ := id V167
    have hin170 : ¬ ((1 : Int32) < 0 ∨ cl170.slots.size ≤ ((1 : Int32)).toNatClampNeg) := inb_of Sz170 ⟨by decide, by decide⟩
    obtain ⟨T171, h171, X171, e171, W171, st171⟩ := stB X167 hx hZ e167 Ar170 (j := (1 : Int32)) hin170 (g := (mkF m 111 #[.val (.int p0), .val (.int p1), .val (.int p2), .val (.int (8 : Int32)), .val (.ref b1), .val (.ref b163), .unset] [(.int y169), (.int (1 : Int32)), (.ref b163)])) rfl rfl (hb hby at_111)
    have F171_V_b1 := F167_V_b1.other W171 ne163_b1
    have V171 : Arv Z h171 b163 k163 .byte (8 : Int32) [(.int (nar .byte y165)), (.int (nar .byte y169)), (.int (0 : Int32)), (.int (0 : Int32)), (.int (0 : Int32)), (.int (0 : Int32)), (.int (0 : Int32)), (.int (0 : Int32))] (.int (0 : Int32)) := Arv.set Ar170 ck170 Sz170 Nn170 Hs170 Gs170 (fits_nar_byte _) W171 1 rfl (Nat.le_of_ble_eq_true rfl)
    have N171 := Fr.snoc X171 N167 gg163
    have Z171 : n0 ≤ h171.size := by rw [W171.size]; exact Z167
    refine Go.st (fun _ k => st171 _ k) ?_
    show Go p e below _ (T171.setTop (mkF m 112 #[.val (.int p0), .val (.int p1), .val (.int p2), .val (.int (8 : Int32)), .val (.ref b1), .val (.ref b163), .unset] []))
    refine Go.st (fun _ k => XS.iloadN X171.here hx rfl (hb hby at_112) rfl k) ?_
    refine Go.st (fun _ k => XS.iconst X171.here hx rfl (hb hby at_113) k) ?_
    show Go p e below _ (T171.setTop (mkF m 114 #[.val (.int p0), .val (.int p1), .val (.int p2), .val (.int (8 : Int32)), .val (.ref b1), .val (.ref b163), .unset] [(.int (2 : Int32)), (.int (8 : Int32))]))
    refine Go.st (fun _ k => XS.icmpNo X171.here hx rfl (hb hby at_114) rfl (tlt (by decide : ((2 : Int32) < (8 : Int32)))).2.2.2 k) ?_
    show Go p e below _ (T171.setTop (mkF m 117 #[.val (.int p0), .val (.int p1), .val (.int p2), .val (.int (8 : Int32)), .val (.ref b1), .val (.ref b163), .unset] []))
    refine Go.st (fun _ k => XS.aload X171.here hx rfl (hb hby at_117) rfl rfl k) ?_
    refine Go.st (fun _ k => XS.iconst X171.here hx rfl (hb hby at_119) k) ?_
    show Go p e below _ (T171.setTop (mkF m 120 #[.val (.int p0), .val (.int p1), .val (.int p2), .val (.int (8 : Int32)), .val (.ref b1), .val (.ref b163), .unset] [(.int (2 : Int32)), (.ref b163)]))
    refine Go.st (fun _ k => XS.aload X171.here hx rfl (hb hby at_120) rfl rfl k) ?_
    refine Go.st (fun _ k => XS.iconst X171.here hx rfl (hb hby at_122) k) ?_
    show Go p e below _ (T171.setTop (mkF m 123 #[.val (.int p0), .val (.int p1), .val (.int p2), .val (.int (8 : Int32)), .val (.ref b1), .val (.ref b163), .unset] [(.int (2 : Int32)), (.ref b1), (.int (2 : Int32)), (.ref b163)]))
    obtain ⟨cl172, Ar172, ck172, Sz172, Nn172, Hs172, Gs172⟩ := id F171_V_b1
    have hin172 : ¬ ((2 : Int32) < 0 ∨ cl172.slots.size ≤ ((2 : Int32)).toNatClampNeg) := inb_of Sz172 ⟨by decide, by decide⟩
    have hat172 : cl172.slots[((2 : Int32)).toNatClampNeg]? = some (.int (nar .byte y8)) := Hs172.at hin172 rfl
    refine Go.st (fun _ k => X171.baloadBytes hx (j := (2 : Int32)) (v := (.int (nar .byte y8))) (by rw [e171]; exact Ar172.1) (State.isArrayOf_alike hZ.alike Ar172.2.1) Ar172.2.2 hin172 hat172 (g := (mkF m 123 #[.val (.int p0), .val (.int p1), .val (.int p2), .val (.int (8 : Int32)), .val (.ref b1), .val (.ref b163), .unset] [(.int (2 : Int32)), (.ref b1), (.int (2 : Int32)), (.ref b163)])) rfl rfl (hb hby at_123) _ k) ?_
    show Go p e below _ (T171.setTop (mkF m 124 #[.val (.int p0), .val (.int p1), .val (.int p2), .val (.int (8 : Int32)), .val (.ref b1), .val (.ref b163), .unset] [(.int (nar .byte y8)), (.int (2 : Int32)), (.ref b163)]))
    generalize hy173 : (nar .byte y8) = y173
    show Go p e below _ (T171.setTop (mkF m 124 #[.val (.int p0), .val (.int p1), .val (.int p2), .val (.int (8 : Int32)), .val (.ref b1), .val (.ref b163), .unset] [(.int y173), (.int (2 : Int32)), (.ref b163)]))
    obtain ⟨cl174, Ar174, ck174, Sz174, Nn174, Hs174, Gs174⟩ := id V171
    have hin174 : ¬ ((2 : Int32) < 0 ∨ cl174.slots.size ≤ ((2 : Int32)).toNatClampNeg) := inb_of Sz174 ⟨by decide, by decide⟩
    obtain ⟨T175, h175, X175, e175, W175, st175⟩ := stB X171 hx hZ e171 Ar174 (j := (2 : Int32)) hin174 (g := (mkF m 124 #[.val (.int p0), .val (.int p1), .val (.int p2), .val (.int (8 : Int32)), .val (.ref b1), .val (.ref b163), .unset] [(.int y173), (.int (2 : Int32)), (.ref b163)])) rfl rfl (hb hby at_124)
    have F175_V_b1 := F171_V_b1.other W175 ne163_b1
    have V175 : Arv Z h175 b163 k163 .byte (8 : Int32) [(.int (nar .byte y165)), (.int (nar .byte y169)), (.int (nar .byte y173)), (.int (0 : Int32)), (.int (0 : Int32)), (.int (0 : Int32)), (.int (0 : Int32)), (.int (0 : Int32))] (.int (0 : Int32)) := Arv.set Ar174 ck174 Sz174 Nn174 Hs174 Gs174 (fits_nar_byte _) W175 2 rfl (Nat.le_of_ble_eq_true rfl)
    have N175 := Fr.snoc X175 N171 gg163
    have Z175 : n0 ≤ h175.size := by rw [W175.size]; exact Z171
    refine Go.st (fun _ k => st175 _ k) ?_
    show Go p e below _ (T175.setTop (mkF m 125 #[.val (.int p0), .val (.int p1), .val (.int p2), .val (.int (8 : Int32)), .val (.ref b1), .val (.ref b163), .unset] []))
    refine Go.st (fun _ k => XS.iloadN X175.here hx rfl (hb hby at_125) rfl k) ?_
    refine Go.st (fun _ k => XS.iconst X175.here hx rfl (hb hby at_126) k) ?_
    show Go p e below _ (T175.setTop (mkF m 127 #[.val (.int p0), .val (.int p1), .val (.int p2), .val (.int (8 : Int32)), .val (.ref b1), .val (.ref b163), .unset] [(.int (3 : Int32)), (.int (8 : Int32))]))
    refine Go.st (fun _ k => XS.icmpNo X175.here hx rfl (hb hby at_127) rfl (tlt (by decide : ((3 : Int32) < (8 : Int32)))).2.2.2 k) ?_
    show Go p e below _ (T175.setTop (mkF m 130 #[.val (.int p0), .val (.int p1), .val (.int p2), .val (.int (8 : Int32)), .val (.ref b1), .val (.ref b163), .unset] []))
    refine Go.st (fun _ k => XS.aload X175.here hx rfl (hb hby at_130) rfl rfl k) ?_
    refine Go.st (fun _ k => XS.iconst X175.here hx rfl (hb hby at_132) k) ?_
    show Go p e below _ (T175.setTop (mkF m 133 #[.val (.int p0), .val (.int p1), .val (.int p2), .val (.int (8 : Int32)), .val (.ref b1), .val (.ref b163), .unset] [(.int (3 : Int32)), (.ref b163)]))
    refine Go.st (fun _ k => XS.aload X175.here hx rfl (hb hby at_133) rfl rfl k) ?_
    refine Go.st (fun _ k => XS.iconst X175.here hx rfl (hb hby at_135) k) ?_
    show Go p e below _ (T175.setTop (mkF m 136 #[.val (.int p0), .val (.int p1), .val (.int p2), .val (.int (8 : Int32)), .val (.ref b1), .val (.ref b163), .unset] [(.int (3 : Int32)), (.ref b1), (.int (3 : Int32)), (.ref b163)]))
    obtain ⟨cl176, Ar176, ck176, Sz176, Nn176, Hs176, Gs176⟩ := id F175_V_b1
    have hin176 : ¬ ((3 : Int32) < 0 ∨ cl176.slots.size ≤ ((3 : Int32)).toNatClampNeg) := inb_of Sz176 ⟨by decide, by decide⟩
    have hat176 : cl176.slots[((3 : Int32)).toNatClampNeg]? = some (.int (nar .byte y11)) := Hs176.at hin176 rfl
    refine Go.st (fun _ k => X175.baloadBytes hx (j := (3 : Int32)) (v := (.int (nar .byte y11))) (by rw [e175]; exact Ar176.1) (State.isArrayOf_alike hZ.alike Ar176.2.1) Ar176.2.2 hin176 hat176 (g := (mkF m 136 #[.val (.int p0), .val (.int p1), .val (.int p2), .val (.int (8 : Int32)), .val (.ref b1), .val (.ref b163), .unset] [(.int (3 : Int32)), (.ref b1), (.int (3 : Int32)), (.ref b163)])) rfl rfl (hb hby at_136) _ k) ?_
    show Go p e below _ (T175.setTop (mkF m 137 #[.val (.int p0), .val (.int p1), .val (.int p2), .val (.int (8 : Int32)), .val (.ref b1), .val (.ref b163), .unset] [(.int (nar .byte y11)), (.int (3 : Int32)), (.ref b163)]))
    generalize hy177 : (nar .byte y11) = y177
    show Go p e below _ (T175.setTop (mkF m 137 #[.val (.int p0), .val (.int p1), .val (.int p2), .val (.int (8 : Int32)), .val (.ref b1), .val (.ref b163), .unset] [(.int y177), (.int (3 : Int32)), (.ref b163)]))
    obtain ⟨cl178, Ar178, ck178, Sz178, Nn178, Hs178, Gs178⟩ := id V175
    have hin178 : ¬ ((3 : Int32) < 0 ∨ cl178.slots.size ≤ ((3 : Int32)).toNatClampNeg) := inb_of Sz178 ⟨by decide, by decide⟩
    obtain ⟨T179, h179, X179, e179, W179, st179⟩ := stB X175 hx hZ e175 Ar178 (j := (3 : Int32)) hin178 (g := (mkF m 137 #[.val (.int p0), .val (.int p1), .val (.int p2), .val (.int (8 : Int32)), .val (.ref b1), .val (.ref b163), .unset] [(.int y177), (.int (3 : Int32)), (.ref b163)])) rfl rfl (hb hby at_137)
    have F179_V_b1 := F175_V_b1.other W179 ne163_b1
    have V179 : Arv Z h179 b163 k163 .byte (8 : Int32) [(.int (nar .byte y165)), (.int (nar .byte y169)), (.int (nar .byte y173)), (.int (nar .byte y177)), (.int (0 : Int32)), (.int (0 : Int32)), (.int (0 : Int32)), (.int (0 : Int32))] (.int (0 : Int32)) := Arv.set Ar178 ck178 Sz178 Nn178 Hs178 Gs178 (fits_nar_byte _) W179 3 rfl (Nat.le_of_ble_eq_true rfl)
    have N179 := Fr.snoc X179 N175 gg163
    have Z179 : n0 ≤ h179.size := by rw [W179.size]; exact Z175
    refine Go.st (fun _ k => st179 _ k) ?_
    show Go p e below _ (T179.setTop (mkF m 138 #[.val (.int p0), .val (.int p1), .val (.int p2), .val (.int (8 : Int32)), .val (.ref b1), .val (.ref b163), .unset] []))
    refine Go.st (fun _ k => XS.iloadN X179.here hx rfl (hb hby at_138) rfl k) ?_
    refine Go.st (fun _ k => XS.iconst X179.here hx rfl (hb hby at_139) k) ?_
    show Go p e below _ (T179.setTop (mkF m 140 #[.val (.int p0), .val (.int p1), .val (.int p2), .val (.int (8 : Int32)), .val (.ref b1), .val (.ref b163), .unset] [(.int (4 : Int32)), (.int (8 : Int32))]))
    refine Go.st (fun _ k => XS.icmpNo X179.here hx rfl (hb hby at_140) rfl (tlt (by decide : ((4 : Int32) < (8 : Int32)))).2.2.2 k) ?_
    show Go p e below _ (T179.setTop (mkF m 143 #[.val (.int p0), .val (.int p1), .val (.int p2), .val (.int (8 : Int32)), .val (.ref b1), .val (.ref b163), .unset] []))
    refine Go.st (fun _ k => XS.aload X179.here hx rfl (hb hby at_143) rfl rfl k) ?_
    refine Go.st (fun _ k => XS.iconst X179.here hx rfl (hb hby at_145) k) ?_
    show Go p e below _ (T179.setTop (mkF m 146 #[.val (.int p0), .val (.int p1), .val (.int p2), .val (.int (8 : Int32)), .val (.ref b1), .val (.ref b163), .unset] [(.int (4 : Int32)), (.ref b163)]))
    refine Go.st (fun _ k => XS.aload X179.here hx rfl (hb hby at_146) rfl rfl k) ?_
    refine Go.st (fun _ k => XS.iconst X179.here hx rfl (hb hby at_148) k) ?_
    show Go p e below _ (T179.setTop (mkF m 149 #[.val (.int p0), .val (.int p1), .val (.int p2), .val (.int (8 : Int32)), .val (.ref b1), .val (.ref b163), .unset] [(.int (4 : Int32)), (.ref b1), (.int (4 : Int32)), (.ref b163)]))
    obtain ⟨cl180, Ar180, ck180, Sz180, Nn180, Hs180, Gs180⟩ := id F179_V_b1
    have hin180 : ¬ ((4 : Int32) < 0 ∨ cl180.slots.size ≤ ((4 : Int32)).toNatClampNeg) := inb_of Sz180 ⟨by decide, by decide⟩
    have hat180 : cl180.slots[((4 : Int32)).toNatClampNeg]? = some (.int (nar .byte y14)) := Hs180.at hin180 rfl
    refine Go.st (fun _ k => X179.baloadBytes hx (j := (4 : Int32)) (v := (.int (nar .byte y14))) (by rw [e179]; exact Ar180.1) (State.isArrayOf_alike hZ.alike Ar180.2.1) Ar180.2.2 hin180 hat180 (g := (mkF m 149 #[.val (.int p0), .val (.int p1), .val (.int p2), .val (.int (8 : Int32)), .val (.ref b1), .val (.ref b163), .unset] [(.int (4 : Int32)), (.ref b1), (.int (4 : Int32)), (.ref b163)])) rfl rfl (hb hby at_149) _ k) ?_
    show Go p e below _ (T179.setTop (mkF m 150 #[.val (.int p0), .val (.int p1), .val (.int p2), .val (.int (8 : Int32)), .val (.ref b1), .val (.ref b163), .unset] [(.int (nar .byte y14)), (.int (4 : Int32)), (.ref b163)]))
    generalize hy181 : (nar .byte y14) = y181
    show Go p e below _ (T179.setTop (mkF m 150 #[.val (.int p0), .val (.int p1), .val (.int p2), .val (.int (8 : Int32)), .val (.ref b1), .val (.ref b163), .unset] [(.int y181), (.int (4 : Int32)), (.ref b163)]))
    obtain ⟨cl182, Ar182, ck182, Sz182, Nn182, Hs182, Gs182⟩ := id V179
    have hin182 : ¬ ((4 : Int32) < 0 ∨ cl182.slots.size ≤ ((4 : Int32)).toNatClampNeg) := inb_of Sz182 ⟨by decide, by decide⟩
    obtain ⟨T183, h183, X183, e183, W183, st183⟩ := stB X179 hx hZ e179 Ar182 (j := (4 : Int32)) hin182 (g := (mkF m 150 #[.val (.int p0), .val (.int p1), .val (.int p2), .val (.int (8 : Int32)), .val (.ref b1), .val (.ref b163), .unset] [(.int y181), (.int (4 : Int32)), (.ref b163)])) rfl rfl (hb hby at_150)
    have F183_V_b1 := F179_V_b1.other W183 ne163_b1
    have V183 : Arv Z h183 b163 k163 .byte (8 : Int32) [(.int (nar .byte y165)), (.int (nar .byte y169)), (.int (nar .byte y173)), (.int (nar .byte y177)), (.int (nar .byte y181)), (.int (0 : Int32)), (.int (0 : Int32)), (.int (0 : Int32))] (.int (0 : Int32)) := Arv.set Ar182 ck182 Sz182 Nn182 Hs182 Gs182 (fits_nar_byte _) W183 4 rfl (Nat.le_of_ble_eq_true rfl)
    have N183 := Fr.snoc X183 N179 gg163
    have Z183 : n0 ≤ h183.size := by rw [W183.size]; exact Z179
    refine Go.st (fun _ k => st183 _ k) ?_
    show Go p e below _ (T183.setTop (mkF m 151 #[.val (.int p0), .val (.int p1), .val (.int p2), .val (.int (8 : Int32)), .val (.ref b1), .val (.ref b163), .unset] []))
    refine Go.st (fun _ k => XS.iloadN X183.here hx rfl (hb hby at_151) rfl k) ?_
    refine Go.st (fun _ k => XS.iconst X183.here hx rfl (hb hby at_152) k) ?_
    show Go p e below _ (T183.setTop (mkF m 153 #[.val (.int p0), .val (.int p1), .val (.int p2), .val (.int (8 : Int32)), .val (.ref b1), .val (.ref b163), .unset] [(.int (5 : Int32)), (.int (8 : Int32))]))
    refine Go.st (fun _ k => XS.icmpNo X183.here hx rfl (hb hby at_153) rfl (tlt (by decide : ((5 : Int32) < (8 : Int32)))).2.2.2 k) ?_
    show Go p e below _ (T183.setTop (mkF m 156 #[.val (.int p0), .val (.int p1), .val (.int p2), .val (.int (8 : Int32)), .val (.ref b1), .val (.ref b163), .unset] []))
    refine Go.st (fun _ k => XS.aload X183.here hx rfl (hb hby at_156) rfl rfl k) ?_
    refine Go.st (fun _ k => XS.iconst X183.here hx rfl (hb hby at_158) k) ?_
    show Go p e below _ (T183.setTop (mkF m 159 #[.val (.int p0), .val (.int p1), .val (.int p2), .val (.int (8 : Int32)), .val (.ref b1), .val (.ref b163), .unset] [(.int (5 : Int32)), (.ref b163)]))
    refine Go.st (fun _ k => XS.aload X183.here hx rfl (hb hby at_159) rfl rfl k) ?_
    refine Go.st (fun _ k => XS.iconst X183.here hx rfl (hb hby at_161) k) ?_
    show Go p e below _ (T183.setTop (mkF m 162 #[.val (.int p0), .val (.int p1), .val (.int p2), .val (.int (8 : Int32)), .val (.ref b1), .val (.ref b163), .unset] [(.int (5 : Int32)), (.ref b1), (.int (5 : Int32)), (.ref b163)]))
    obtain ⟨cl184, Ar184, ck184, Sz184, Nn184, Hs184, Gs184⟩ := id F183_V_b1
    have hin184 : ¬ ((5 : Int32) < 0 ∨ cl184.slots.size ≤ ((5 : Int32)).toNatClampNeg) := inb_of Sz184 ⟨by decide, by decide⟩
    have hat184 : cl184.slots[((5 : Int32)).toNatClampNeg]? = some (.int (nar .byte y17)) := Hs184.at hin184 rfl
    refine Go.st (fun _ k => X183.baloadBytes hx (j := (5 : Int32)) (v := (.int (nar .byte y17))) (by rw [e183]; exact Ar184.1) (State.isArrayOf_alike hZ.alike Ar184.2.1) Ar184.2.2 hin184 hat184 (g := (mkF m 162 #[.val (.int p0), .val (.int p1), .val (.int p2), .val (.int (8 : Int32)), .val (.ref b1), .val (.ref b163), .unset] [(.int (5 : Int32)), (.ref b1), (.int (5 : Int32)), (.ref b163)])) rfl rfl (hb hby at_162) _ k) ?_
    show Go p e below _ (T183.setTop (mkF m 163 #[.val (.int p0), .val (.int p1), .val (.int p2), .val (.int (8 : Int32)), .val (.ref b1), .val (.ref b163), .unset] [(.int (nar .byte y17)), (.int (5 : Int32)), (.ref b163)]))
    generalize hy185 : (nar .byte y17) = y185
    show Go p e below _ (T183.setTop (mkF m 163 #[.val (.int p0), .val (.int p1), .val (.int p2), .val (.int (8 : Int32)), .val (.ref b1), .val (.ref b163), .unset] [(.int y185), (.int (5 : Int32)), (.ref b163)]))
    obtain ⟨cl186, Ar186, ck186, Sz186, Nn186, Hs186, Gs186⟩ := id V183
    have hin186 : ¬ ((5 : Int32) < 0 ∨ cl186.slots.size ≤ ((5 : Int32)).toNatClampNeg) := inb_of Sz186 ⟨by decide, by decide⟩
    obtain ⟨T187, h187, X187, e187, W187, st187⟩ := stB X183 hx hZ e183 Ar186 (j := (5 : Int32)) hin186 (g := (mkF m 163 #[.val (.int p0), .val (.int p1), .val (.int p2), .val (.int (8 : Int32)), .val (.ref b1), .val (.ref b163), .unset] [(.int y185), (.int (5 : Int32)), (.ref b163)])) rfl rfl (hb hby at_163)
    have F187_V_b1 := F183_V_b1.other W187 ne163_b1
    have V187 : Arv Z h187 b163 k163 .byte (8 : Int32) [(.int (nar .byte y165)), (.int (nar .byte y169)), (.int (nar .byte y173)), (.int (nar .byte y177)), (.int (nar .byte y181)), (.int (nar .byte y185)), (.int (0 : Int32)), (.int (0 : Int32))] (.int (0 : Int32)) := Arv.set Ar186 ck186 Sz186 Nn186 Hs186 Gs186 (fits_nar_byte _) W187 5 rfl (Nat.le_of_ble_eq_true rfl)
    have N187 := Fr.snoc X187 N183 gg163
    have Z187 : n0 ≤ h187.size := by rw [W187.size]; exact Z183
    refine Go.st (fun _ k => st187 _ k) ?_
    show Go p e below _ (T187.setTop (mkF m 164 #[.val (.int p0), .val (.int p1), .val (.int p2), .val (.int (8 : Int32)), .val (.ref b1), .val (.ref b163), .unset] []))
    refine Go.st (fun _ k => XS.iloadN X187.here hx rfl (hb hby at_164) rfl k) ?_
    refine Go.st (fun _ k => XS.bipush X187.here hx rfl (hb hby at_165) k) ?_
    show Go p e below _ (T187.setTop (mkF m 167 #[.val (.int p0), .val (.int p1), .val (.int p2), .val (.int (8 : Int32)), .val (.ref b1), .val (.ref b163), .unset] [(.int (6 : Int32)), (.int (8 : Int32))]))
    refine Go.st (fun _ k => XS.icmpNo X187.here hx rfl (hb hby at_167) rfl (tlt (by decide : ((6 : Int32) < (8 : Int32)))).2.2.2 k) ?_
    show Go p e below _ (T187.setTop (mkF m 170 #[.val (.int p0), .val (.int p1), .val (.int p2), .val (.int (8 : Int32)), .val (.ref b1), .val (.ref b163), .unset] []))
    refine Go.st (fun _ k => XS.aload X187.here hx rfl (hb hby at_170) rfl rfl k) ?_
    refine Go.st (fun _ k => XS.bipush X187.here hx rfl (hb hby at_172) k) ?_
    show Go p e below _ (T187.setTop (mkF m 174 #[.val (.int p0), .val (.int p1), .val (.int p2), .val (.int (8 : Int32)), .val (.ref b1), .val (.ref b163), .unset] [(.int (6 : Int32)), (.ref b163)]))
    refine Go.st (fun _ k => XS.aload X187.here hx rfl (hb hby at_174) rfl rfl k) ?_
    refine Go.st (fun _ k => XS.bipush X187.here hx rfl (hb hby at_176) k) ?_
    show Go p e below _ (T187.setTop (mkF m 178 #[.val (.int p0), .val (.int p1), .val (.int p2), .val (.int (8 : Int32)), .val (.ref b1), .val (.ref b163), .unset] [(.int (6 : Int32)), (.ref b1), (.int (6 : Int32)), (.ref b163)]))
    obtain ⟨cl188, Ar188, ck188, Sz188, Nn188, Hs188, Gs188⟩ := id F187_V_b1
    have hin188 : ¬ ((6 : Int32) < 0 ∨ cl188.slots.size ≤ ((6 : Int32)).toNatClampNeg) := inb_of Sz188 ⟨by decide, by decide⟩
    have hat188 : cl188.slots[((6 : Int32)).toNatClampNeg]? = some (.int (nar .byte y20)) := Hs188.at hin188 rfl
    refine Go.st (fun _ k => X187.baloadBytes hx (j := (6 : Int32)) (v := (.int (nar .byte y20))) (by rw [e187]; exact Ar188.1) (State.isArrayOf_alike hZ.alike Ar188.2.1) Ar188.2.2 hin188 hat188 (g := (mkF m 178 #[.val (.int p0), .val (.int p1), .val (.int p2), .val (.int (8 : Int32)), .val (.ref b1), .val (.ref b163), .unset] [(.int (6 : Int32)), (.ref b1), (.int (6 : Int32)), (.ref b163)])) rfl rfl (hb hby at_178) _ k) ?_
    show Go p e below _ (T187.setTop (mkF m 179 #[.val (.int p0), .val (.int p1), .val (.int p2), .val (.int (8 : Int32)), .val (.ref b1), .val (.ref b163), .unset] [(.int (nar .byte y20)), (.int (6 : Int32)), (.ref b163)]))
    generalize hy189 : (nar .byte y20) = y189
    show Go p e below _ (T187.setTop (mkF m 179 #[.val (.int p0), .val (.int p1), .val (.int p2), .val (.int (8 : Int32)), .val (.ref b1), .val (.ref b163), .unset] [(.int y189), (.int (6 : Int32)), (.ref b163)]))
    obtain ⟨cl190, Ar190, ck190, Sz190, Nn190, Hs190, Gs190⟩ := id V187
    have hin190 : ¬ ((6 : Int32) < 0 ∨ cl190.slots.size ≤ ((6 : Int32)).toNatClampNeg) := inb_of Sz190 ⟨by decide, by decide⟩
    obtain ⟨T191, h191, X191, e191, W191, st191⟩ := stB X187 hx hZ e187 Ar190 (j := (6 : Int32)) hin190 (g := (mkF m 179 #[.val (.int p0), .val (.int p1), .val (.int p2), .val (.int (8 : Int32)), .val (.ref b1), .val (.ref b163), .unset] [(.int y189), (.int (6 : Int32)), (.ref b163)])) rfl rfl (hb hby at_179)
    have F191_V_b1 := F187_V_b1.other W191 ne163_b1
    have V191 : Arv Z h191 b163 k163 .byte (8 : Int32) [(.int (nar .byte y165)), (.int (nar .byte y169)), (.int (nar .byte y173)), (.int (nar .byte y177)), (.int (nar .byte y181)), (.int (nar .byte y185)), (.int (nar .byte y189)), (.int (0 : Int32))] (.int (0 : Int32)) := Arv.set Ar190 ck190 Sz190 Nn190 Hs190 Gs190 (fits_nar_byte _) W191 6 rfl (Nat.le_of_ble_eq_true rfl)
    have N191 := Fr.snoc X191 N187 gg163
    have Z191 : n0 ≤ h191.size := by rw [W191.size]; exact Z187
    refine Go.st (fun _ k => st191 _ k) ?_
    show Go p e below _ (T191.setTop (mkF m 180 #[.val (.int p0), .val (.int p1), .val (.int p2), .val (.int (8 : Int32)), .val (.ref b1), .val (.ref b163), .unset] []))
    refine Go.st (fun _ k => XS.iloadN X191.here hx rfl (hb hby at_180) rfl k) ?_
    refine Go.st (fun _ k => XS.bipush X191.here hx rfl (hb hby at_181) k) ?_
    show Go p e below _ (T191.setTop (mkF m 183 #[.val (.int p0), .val (.int p1), .val (.int p2), .val (.int (8 : Int32)), .val (.ref b1), .val (.ref b163), .unset] [(.int (7 : Int32)), (.int (8 : Int32))]))
    refine Go.st (fun _ k => XS.icmpNo X191.here hx rfl (hb hby at_183) rfl (tlt (by decide : ((7 : Int32) < (8 : Int32)))).2.2.2 k) ?_
    show Go p e below _ (T191.setTop (mkF m 186 #[.val (.int p0), .val (.int p1), .val (.int p2), .val (.int (8 : Int32)), .val (.ref b1), .val (.ref b163), .unset] []))
    refine Go.st (fun _ k => XS.aload X191.here hx rfl (hb hby at_186) rfl rfl k) ?_
    refine Go.st (fun _ k => XS.bipush X191.here hx rfl (hb hby at_188) k) ?_
    show Go p e below _ (T191.setTop (mkF m 190 #[.val (.int p0), .val (.int p1), .val (.int p2), .val (.int (8 : Int32)), .val (.ref b1), .val (.ref b163), .unset] [(.int (7 : Int32)), (.ref b163)]))
    refine Go.st (fun _ k => XS.aload X191.here hx rfl (hb hby at_190) rfl rfl k) ?_
    refine Go.st (fun _ k => XS.bipush X191.here hx rfl (hb hby at_192) k) ?_
    show Go p e below _ (T191.setTop (mkF m 194 #[.val (.int p0), .val (.int p1), .val (.int p2), .val (.int (8 : Int32)), .val (.ref b1), .val (.ref b163), .unset] [(.int (7 : Int32)), (.ref b1), (.int (7 : Int32)), (.ref b163)]))
    obtain ⟨cl192, Ar192, ck192, Sz192, Nn192, Hs192, Gs192⟩ := id F191_V_b1
    have hin192 : ¬ ((7 : Int32) < 0 ∨ cl192.slots.size ≤ ((7 : Int32)).toNatClampNeg) := inb_of Sz192 ⟨by decide, by decide⟩
    have hat192 : cl192.slots[((7 : Int32)).toNatClampNeg]? = some (.int (nar .byte y23)) := Hs192.at hin192 rfl
    refine Go.st (fun _ k => X191.baloadBytes hx (j := (7 : Int32)) (v := (.int (nar .byte y23))) (by rw [e191]; exact Ar192.1) (State.isArrayOf_alike hZ.alike Ar192.2.1) Ar192.2.2 hin192 hat192 (g := (mkF m 194 #[.val (.int p0), .val (.int p1), .val (.int p2), .val (.int (8 : Int32)), .val (.ref b1), .val (.ref b163), .unset] [(.int (7 : Int32)), (.ref b1), (.int (7 : Int32)), (.ref b163)])) rfl rfl (hb hby at_194) _ k) ?_
    show Go p e below _ (T191.setTop (mkF m 195 #[.val (.int p0), .val (.int p1), .val (.int p2), .val (.int (8 : Int32)), .val (.ref b1), .val (.ref b163), .unset] [(.int (nar .byte y23)), (.int (7 : Int32)), (.ref b163)]))
    generalize hy193 : (nar .byte y23) = y193
    show Go p e below _ (T191.setTop (mkF m 195 #[.val (.int p0), .val (.int p1), .val (.int p2), .val (.int (8 : Int32)), .val (.ref b1), .val (.ref b163), .unset] [(.int y193), (.int (7 : Int32)), (.ref b163)]))
    obtain ⟨cl194, Ar194, ck194, Sz194, Nn194, Hs194, Gs194⟩ := id V191
    have hin194 : ¬ ((7 : Int32) < 0 ∨ cl194.slots.size ≤ ((7 : Int32)).toNatClampNeg) := inb_of Sz194 ⟨by decide, by decide⟩
    obtain ⟨T195, h195, X195, e195, W195, st195⟩ := stB X191 hx hZ e191 Ar194 (j := (7 : Int32)) hin194 (g := (mkF m 195 #[.val (.int p0), .val (.int p1), .val (.int p2), .val (.int (8 : Int32)), .val (.ref b1), .val (.ref b163), .unset] [(.int y193), (.int (7 : Int32)), (.ref b163)])) rfl rfl (hb hby at_195)
    have F195_V_b1 := F191_V_b1.other W195 ne163_b1
    have V195 : Arv Z h195 b163 k163 .byte (8 : Int32) [(.int (nar .byte y165)), (.int (nar .byte y169)), (.int (nar .byte y173)), (.int (nar .byte y177)), (.int (nar .byte y181)), (.int (nar .byte y185)), (.int (nar .byte y189)), (.int (nar .byte y193))] (.int (0 : Int32)) := Arv.set Ar194 ck194 Sz194 Nn194 Hs194 Gs194 (fits_nar_byte _) W195 7 rfl (Nat.le_of_ble_eq_true rfl)
    have N195 := Fr.snoc X195 N191 gg163
    have Z195 : n0 ≤ h195.size := by rw [W195.size]; exact Z191
    refine Go.st (fun _ k => st195 _ k) ?_
    show Go p e below _ (T195.setTop (mkF m 196 #[.val (.int p0), .val (.int p1), .val (.int p2), .val (.int (8 : Int32)), .val (.ref b1), .val (.ref b163), .unset] []))
    refine Go.st (fun _ k => XS.aload X195.here hx rfl (hb hby at_196) rfl rfl k) ?_
    refine Go.st (fun _ k => XS.iloadN X195.here hx rfl (hb hby at_198) rfl k) ?_
    show Go p e below _ (T195.setTop (mkF m 199 #[.val (.int p0), .val (.int p1), .val (.int p2), .val (.int (8 : Int32)), .val (.ref b1), .val (.ref b163), .unset] [(.int (8 : Int32)), (.ref b163)]))
    obtain ⟨_, _, ⟨T196, L196, k196, n196⟩, -, X196, ⟨Lc196, hQ196, l196, y196, z196⟩, st196⟩ := Jvm.LawKit.callS X195 hx (y := (⟨"com/example/apportis/apportis/Utf8FirstInvalidPinLaw", "reference", "([BI)I"⟩ : MethodName)) hown (mvT hZ (hw _ (List.mem_of_getElem? (i := 2) rfl))) (mvT hZ (hw _ (List.mem_of_getElem? (i := 3) rfl))) (mvT hZ (hw _ (List.mem_of_getElem? (i := 4) rfl))) (mvT hZ (hw _ (List.mem_of_getElem? (i := 5) rfl))) (by decide) (backOf (W := 0) (rmRef l Z aZ hw [] b163 (8 : Int32) k163 [(.int (nar .byte y165)), (.int (nar .byte y169)), (.int (nar .byte y173)), (.int (nar .byte y177)), (.int (nar .byte y181)), (.int (nar .byte y185)), (.int (nar .byte y189)), (.int (nar .byte y193))] h195 n0 (by decide) (own_byt8 y165 y169 y173 y177 y181 y185 y189 y193) (by decide) (own_int8 y165 y169 y173 y177 y181 y185 y189 y193) V195) hZ (hw _ (List.mem_of_getElem? (i := 5) rfl)) (hw _ (List.mem_of_getElem? (i := 4) rfl)) (by decide) (by decide)) (g := (mkF m 199 #[.val (.int p0), .val (.int p1), .val (.int p2), .val (.int (8 : Int32)), .val (.ref b1), .val (.ref b163), .unset] [(.int (8 : Int32)), (.ref b163)])) rfl (by rw [hml]; rfl) (argsL := [(.ref b163), (.int (8 : Int32))]) (rest := []) (lenOf pd92f6cd8e rfl) rfl (by show 2 * 0 + _ ≤ _; exact Nat.le_of_eq rfl) (hb hby at_199) (fun _ _ => ⟨rfl, e195, (by decide : 2 + 0 ≤ _), (by decide : 16 + 0 ≤ _)⟩)
    dsimp only [Pt.U, Pt.locs, Pt.cells, Pt.slots] at X196 l196 y196 z196 st196 hQ196
    subst l196 y196 z196
    obtain ⟨rfl, N196q, e196⟩ := hQ196
    have N196 := Fr.app N195 N196q
    refine Go.st (fun _ k => st196 _ k) ?_
    show Go p e below _ (T196.setTop (mkF m 202 #[.val (.int p0), .val (.int p1), .val (.int p2), .val (.int (8 : Int32)), .val (.ref b1), .val (.ref b163), .unset] [(.int (own_scan [(.int (nar .byte y165)), (.int (nar .byte y169)), (.int (nar .byte y173)), (.int (nar .byte y177)), (.int (nar .byte y181)), (.int (nar .byte y185)), (.int (nar .byte y189)), (.int (nar .byte y193))] (8 : Int32) 8 0))]))
    refine Go.st (fun _ k => XS.istore X196.here hx rfl (hb hby at_202) rfl (l' := #[.val (.int p0), .val (.int p1), .val (.int p2), .val (.int (8 : Int32)), .val (.ref b1), .val (.ref b163), .val (.int (own_scan [(.int (nar .byte y165)), (.int (nar .byte y169)), (.int (nar .byte y173)), (.int (nar .byte y177)), (.int (nar .byte y181)), (.int (nar .byte y185)), (.int (nar .byte y189)), (.int (nar .byte y193))] (8 : Int32) 8 0))]) rfl k) ?_
    show Go p e below _ (T196.setTop (mkF m 204 #[.val (.int p0), .val (.int p1), .val (.int p2), .val (.int (8 : Int32)), .val (.ref b1), .val (.ref b163), .val (.int (own_scan [(.int (nar .byte y165)), (.int (nar .byte y169)), (.int (nar .byte y173)), (.int (nar .byte y177)), (.int (nar .byte y181)), (.int (nar .byte y185)), (.int (nar .byte y189)), (.int (nar .byte y193))] (8 : Int32) 8 0))] []))
    refine Go.st (fun _ k => XS.aload X196.here hx rfl (hb hby at_204) rfl rfl k) ?_
    show Go p e below _ (T196.setTop (mkF m 206 #[.val (.int p0), .val (.int p1), .val (.int p2), .val (.int (8 : Int32)), .val (.ref b1), .val (.ref b163), .val (.int (own_scan [(.int (nar .byte y165)), (.int (nar .byte y169)), (.int (nar .byte y173)), (.int (nar .byte y177)), (.int (nar .byte y181)), (.int (nar .byte y185)), (.int (nar .byte y189)), (.int (nar .byte y193))] (8 : Int32) 8 0))] [(.ref b163)]))
    obtain ⟨_, _, ⟨T197, L197, k197, n197⟩, -, X197, ⟨Lc197, hQ197, l197, y197, z197⟩, st197⟩ := Jvm.LawKit.callS X196 hx (y := (⟨"com/example/apportis/apportis/Utf8", "firstInvalid", "([B)I"⟩ : MethodName)) hown (mvT hZ (hw _ (List.mem_of_getElem? (i := 9) rfl))) (mvT hZ (hw _ (List.mem_of_getElem? (i := 10) rfl))) (mvT hZ (hw _ (List.mem_of_getElem? (i := 11) rfl))) (mvT hZ (hw _ (List.mem_of_getElem? (i := 12) rfl))) (by decide) (backOf (W := 0) (rmFI l Z aZ hw [] b163 k163 (8 : Int32) [(.int (nar .byte y165)), (.int (nar .byte y169)), (.int (nar .byte y173)), (.int (nar .byte y177)), (.int (nar .byte y181)), (.int (nar .byte y185)), (.int (nar .byte y189)), (.int (nar .byte y193))] h195 n0 (by decide) (own_byt8 y165 y169 y173 y177 y181 y185 y189 y193) (by decide) (own_int8 y165 y169 y173 y177 y181 y185 y189 y193) V195) hZ (hw _ (List.mem_of_getElem? (i := 12) rfl)) (hw _ (List.mem_of_getElem? (i := 11) rfl)) (by decide) (by decide)) (g := (mkF m 206 #[.val (.int p0), .val (.int p1), .val (.int p2), .val (.int (8 : Int32)), .val (.ref b1), .val (.ref b163), .val (.int (own_scan [(.int (nar .byte y165)), (.int (nar .byte y169)), (.int (nar .byte y173)), (.int (nar .byte y177)), (.int (nar .byte y181)), (.int (nar .byte y185)), (.int (nar .byte y189)), (.int (nar .byte y193))] (8 : Int32) 8 0))] [(.ref b163)])) rfl (by rw [hml]; rfl) (argsL := [(.ref b163)]) (rest := []) (lenOf pdca677057 rfl) rfl (by show 2 * 0 + _ ≤ _; exact Nat.le_of_eq rfl) (hb hby at_206) (fun _ _ => ⟨rfl, e196, (by decide : 2 + 0 ≤ _), (by decide : 16 + 0 ≤ _)⟩)
    dsimp only [Pt.U, Pt.locs, Pt.cells, Pt.slots] at X197 l197 y197 z197 st197 hQ197
    subst l197 y197 z197
    obtain ⟨rfl, N197q, e197⟩ := hQ197
    have N197 := Fr.app N196 N197q
    refine Go.st (fun _ k => st197 _ k) ?_
    show Go p e below _ (T197.setTop (mkF m 209 #[.val (.int p0), .val (.int p1), .val (.int p2), .val (.int (8 : Int32)), .val (.ref b1), .val (.ref b163), .val (.int (own_scan [(.int (nar .byte y165)), (.int (nar .byte y169)), (.int (nar .byte y173)), (.int (nar .byte y177)), (.int (nar .byte y181)), (.int (nar .byte y185)), (.int (nar .byte y189)), (.int (nar .byte y193))] (8 : Int32) 8 0))] [(.int (own_scan [(.int (nar .byte y165)), (.int (nar .byte y169)), (.int (nar .byte y173)), (.int (nar .byte y177)), (.int (nar .byte y181)), (.int (nar .byte y185)), (.int (nar .byte y189)), (.int (nar .byte y193))] (8 : Int32) ((8 : Int32).toInt.toNat + 1) 0))]))
    refine Go.st (fun _ k => XS.iload X197.here hx rfl (hb hby at_209) rfl k) ?_
    refine Go.st (fun _ k => XS.icmpNo X197.here hx rfl (hb hby at_211) rfl (teq (own_fuel (own_byt8 y165 y169 y173 y177 y181 y185 y189 y193) (by decide) (by decide) (by decide))).2 k) ?_
    show Go p e below _ (T197.setTop (mkF m 214 #[.val (.int p0), .val (.int p1), .val (.int p2), .val (.int (8 : Int32)), .val (.ref b1), .val (.ref b163), .val (.int (own_scan [(.int (nar .byte y165)), (.int (nar .byte y169)), (.int (nar .byte y173)), (.int (nar .byte y177)), (.int (nar .byte y181)), (.int (nar .byte y185)), (.int (nar .byte y189)), (.int (nar .byte y193))] (8 : Int32) 8 0))] []))
    refine Go.st (fun _ k => XS.iconst X197.here hx rfl (hb hby at_214) k) ?_
    refine Go.st (fun _ k => XS.goto X197.here hx rfl (pc0 := 215) (pc' := 219) rfl (hb hby at_215) (by decide) (by decide) k) ?_
    show Go p e below _ (T197.setTop (mkF m 219 #[.val (.int p0), .val (.int p1), .val (.int p2), .val (.int (8 : Int32)), .val (.ref b1), .val (.ref b163), .val (.int (own_scan [(.int (nar .byte y165)), (.int (nar .byte y169)), (.int (nar .byte y173)), (.int (nar .byte y177)), (.int (nar .byte y181)), (.int (nar .byte y185)), (.int (nar .byte y189)), (.int (nar .byte y193))] (8 : Int32) 8 0))] [(.int (1 : Int32))]))
    obtain ⟨fs, hr, hrun, hended, hW, hsame⟩ := X197.leave (v := some (.int (1 : Int32))) (fun h => by rw [Bd.returns] at h; cases h)
    refine ⟨_, _, retN X197 hx (t := .boolean) Bd.returns (by simp) (hb hby at_219) hr, hrun, hended, _, _, rfl, ?_, ⟨_, rfl⟩, hW, hsame.mono (by decide) (by decide)⟩
    show Q_rm0 Z p0 p1 p2 h0 n0 _ T197.heap _
    rw [e197]
    exact ⟨rfl, N197⟩
set_option maxRecDepth 65536 in
set_option maxHeartbeats 40000000 in
theorem comes_1 {Post : Tables → Env → Array Value → State → Outcome → State → Prop} (hpost : ∀ tb e args s v u, (limb_1_1.after args s (.returned v) u = true ∧ limb_1_2.after args s (.returned v) u = true ∧ True) → FrameEnd s (.returned v) u (Jvm.fieldLocs frame_1_writes args s ++ Jvm.arrayLocs frame_1_arrays args s ++ Jvm.staticLocs frame_1_statics s) 16 128 → Post tb e args s (.returned v) u) :
    ArmFor flags0 classFile x code maxLocals ret World_1 tables_1 room_1 Calls_1 rest_1 Pre_1 Post := by
  intro l hfl _ _ p e ha hc hk s m args below hf hA hF happ hP
  obtain ⟨hcalls, hrest, hpre⟩ := hP
  obtain ⟨-, -, -, hnamed, -, -, -, hat⟩ := (Spec.applies_iff hf).mp happ
  obtain ⟨hg, hn⟩ := and_e (Cond.before_iff.mp (show (Jvm.Cond.and given_1 narrow_1).before args s = true from hpre))
  obtain ⟨g0, gr0⟩ := and_e hg
  obtain ⟨gi0, gr1⟩ := and_e gr0
  obtain ⟨gi1, gr2⟩ := and_e gr1
  have gi2 := gr2
  obtain ⟨w0, w1, w2, rfl⟩ : ∃ w0 w1 w2 : Value, args = #[w0, w1, w2] := by
    have hs : args.size = 3 := by simpa [Cond.value, given_1] using g0
    obtain ⟨L⟩ := args
    match L, hs with
    | [w0, w1, w2], _ => exact ⟨w0, w1, w2, rfl⟩
  have hw := fun d (hd : d ∈ tables_1) => atoms_spec (ws := Jvm.Cond.code x code maxLocals ret :: tables_1) hat d (List.mem_cons_of_mem _ hd)
  obtain ⟨i0, ei0⟩ := is_v gi0
  obtain rfl : w0 = (.int i0) := Option.some.inj ei0
  obtain ⟨i1, ei1⟩ := is_v gi1
  obtain rfl : w1 = (.int i1) := Option.some.inj ei1
  obtain ⟨i2, ei2⟩ := is_v gi2
  obtain rfl : w2 = (.int i2) := Option.some.inj ei2
  obtain ⟨n, o, h1, h2, h3, _, L, rfl, ⟨rfl, N⟩, hq⟩ := rm0 l s _ hw tables_1 i0 i1 i2  s.heap s.heap.size (Nat.le_refl _) p e ha hc hk s m _ below hf ((Spec.applies_iff_loose hf).mp happ).1 ⟨rfl, State.Warmed39.refl s, rfl⟩ trivial
  refine ⟨n, _, h1, h2, h3, hpost _ _ _ _ _ _ ⟨Cond.after_iff.mpr rfl, Cond.after_iff.mpr (eq_i res_at (Term.int_eval (1)) rfl), trivial⟩ ⟨hq.1, hq.2.1, (hq.2.2.sift fun y hy => Or.inr (N y hy)).mono (by decide) (by decide)⟩⟩
theorem main_1_1 : Claimed_1_1 := comes_1 fun _ _ _ _ _ _ h hF => ⟨h.1, hF⟩
theorem main_1_2 : Claimed_1_2 := comes_1 fun _ _ _ _ _ _ h hF => ⟨h.2.1, hF⟩
end Jvm.Pilot.@@N@@
namespace Jvm.Pilot.@@N@@
open Jvm Jvm.ClassFile Sem Op Lib Jvm.Free Jvm.Stand Jvm.Pilot.@@N@@.Jvm.D
/-! MADE BY PROGRAM (witnessworld.py) out of the Statement's table words and the real class files: 9 classes; the members and pool entries that the words name. The judged class is class 1, her method 1. -/
namespace start1
open Jvm.ClassFile
def u (s : String) : CpInfo := .utf8 (stringToUtf16 s)
/-- a pool by its gaps: so many unusable entries, then the entry; so many at the end -/
def gap : Nat → List CpInfo → List CpInfo
  | 0, r => r
  | n + 1, r => .unusable :: gap n r
def poolList (es : List (Nat × CpInfo)) (last : Nat) : List CpInfo := es.foldr (fun e r => gap e.1 (e.2 :: r)) (gap last [])
def pool (es : List (Nat × CpInfo)) (last : Nat) : Array CpInfo := ⟨poolList es last⟩
def fileOf (pool : Array CpInfo) (this : Nat) (attrs : Array Attribute := #[]) (ms : Array MethodInfo := #[]) (fl : Nat := 33) (sup : Nat := 0) (ifs : Array Nat := #[]) (fds : Array FieldInfo := #[]) : ClassFile where
  minorVersion := 0
  majorVersion := 65
  constantPool := pool
  accessFlags := fl
  thisClass := this
  superClass := sup
  interfaces := ifs
  fields := fds
  methods := ms
  attributes := attrs
def plain (name : String) (sup : Option ClassId) : Class where
  name := name
  kind := .ordinary
  loader := none
  accessFlags := 33
  super := sup
  interfaces := #[]
  cf := none
  fields := #[]
  methods := #[]
  instanceTypes := #[]
  staticTypes := #[]
  resolved := #[]
  callSites := []
  init := .initialized
  statics := none
  mirror := none

def pool0 : Array CpInfo := pool [(5, u "<init>"), (0, u "()V"), (1, .class_ 10), (1, u "java/lang/Object")] 113

def k0m0 : Method := { name := "<init>", desc := "()V", sig := { parameters := [], returnType := none }, accessFlags := 1, code := none }
/-- java/lang/Object -/
def k0 : Class := { plain "java/lang/Object" none with
  accessFlags := 33
  interfaces := #[]
  cf := some (fileOf pool0 8 #[] #[{ accessFlags := 1, nameIndex := 5, descriptorIndex := 6, attributes := #[] }] 33 0 #[] #[])
  fields := #[]
  methods := #[k0m0]
  instanceTypes := #[]
  staticTypes := #[]
  resolved := Array.replicate 124 none
  statics := none }

def pool1 : Array CpInfo := pool [(2, .class_ 4), (1, u "java/lang/Object"), (0, u "<init>"), (0, u "()V"), (0, .integer 2147483647), (0, .methodref 9 10), (0, .class_ 11), (0, .nameAndType 12 13), (0, u "com/example/apportis/apportis/Utf8FirstInvalidPinLaw"), (0, u "reference"), (0, u "([BI)I"), (0, .methodref 15 16), (0, .class_ 17), (0, .nameAndType 18 19), (0, u "com/example/apportis/apportis/Utf8"), (0, u "firstInvalid"), (0, u "([B)I"), (0, .methodref 9 21), (0, .nameAndType 22 23), (0, u "charLen"), (0, u "([BII)I"), (0, .integer 65536), (0, .integer 55296), (0, .integer 57343), (0, .integer 1114111), (2, u "law"), (0, u "(III)Z")] 5

def k1m0 : Method := { name := "<init>", desc := "()V", sig := { parameters := [], returnType := none }, accessFlags := 1, code := none }
def k1c1 : Code := { maxStack := 4, maxLocals := 7, code := code, exceptionTable := #[], attributes := #[] }
def k1m1 : Method := { name := "law", desc := "(III)Z", sig := { parameters := [.int, .int, .int], returnType := some .boolean }, accessFlags := 9, code := some k1c1 }
def k1c2 : Code := { maxStack := 3, maxLocals := 4, code := method_3_code, exceptionTable := #[], attributes := #[] }
def k1m2 : Method := { name := "reference", desc := "([BI)I", sig := { parameters := [(.array .byte), .int], returnType := some .int }, accessFlags := 10, code := some k1c2 }
def k1c3 : Code := { maxStack := 3, maxLocals := 8, code := method_4_code, exceptionTable := #[], attributes := #[] }
def k1m3 : Method := { name := "charLen", desc := "([BII)I", sig := { parameters := [(.array .byte), .int, .int], returnType := some .int }, accessFlags := 10, code := some k1c3 }
/-- com/example/apportis/apportis/Utf8FirstInvalidPinLaw -/
def k1 : Class := { plain "com/example/apportis/apportis/Utf8FirstInvalidPinLaw" (some 0) with
  accessFlags := 49
  interfaces := #[]
  cf := some (fileOf pool1 9 #[] #[{ accessFlags := 1, nameIndex := 5, descriptorIndex := 6, attributes := #[] }, { accessFlags := 9, nameIndex := 30, descriptorIndex := 31, attributes := #[] }, { accessFlags := 10, nameIndex := 12, descriptorIndex := 13, attributes := #[] }, { accessFlags := 10, nameIndex := 22, descriptorIndex := 23, attributes := #[] }] 49 2 #[] #[])
  fields := #[]
  methods := #[k1m0, k1m1, k1m2, k1m3]
  instanceTypes := #[]
  staticTypes := #[]
  resolved := Array.replicate 37 none
  statics := none }

def pool2 : Array CpInfo := pool [(2, .class_ 4), (1, u "java/lang/Object"), (0, u "<init>"), (0, u "()V"), (0, .class_ 8), (0, u "com/example/apportis/apportis/Utf8"), (0, .methodref 7 10), (0, .nameAndType 11 12), (0, u "characterEnd"), (0, u "([BI)I"), (0, u "NOT_UTF_8"), (0, u "Ljava/lang/String;"), (3, u "NO_CHARACTER"), (0, u "I"), (6, u "firstInvalid"), (0, u "([B)I")] 2

def k2m0 : Method := { name := "<init>", desc := "()V", sig := { parameters := [], returnType := none }, accessFlags := 2, code := none }
def k2c1 : Code := { maxStack := 3, maxLocals := 10, code := prog_85_method_2_code, exceptionTable := #[], attributes := #[] }
def k2m1 : Method := { name := "characterEnd", desc := "([BI)I", sig := { parameters := [(.array .byte), .int], returnType := some .int }, accessFlags := 8, code := some k2c1 }
def k2c2 : Code := { maxStack := 2, maxLocals := 4, code := prog_85_method_3_code, exceptionTable := #[], attributes := #[] }
def k2m2 : Method := { name := "firstInvalid", desc := "([B)I", sig := { parameters := [(.array .byte)], returnType := some .int }, accessFlags := 8, code := some k2c2 }
/-- com/example/apportis/apportis/Utf8 -/
def k2 : Class := { plain "com/example/apportis/apportis/Utf8" (some 0) with
  accessFlags := 32
  interfaces := #[]
  cf := some (fileOf pool2 7 #[] #[{ accessFlags := 2, nameIndex := 5, descriptorIndex := 6, attributes := #[] }, { accessFlags := 8, nameIndex := 11, descriptorIndex := 12, attributes := #[] }, { accessFlags := 8, nameIndex := 26, descriptorIndex := 27, attributes := #[] }] 32 2 #[] #[{ accessFlags := 24, nameIndex := 13, descriptorIndex := 14, attributes := #[] }, { accessFlags := 24, nameIndex := 18, descriptorIndex := 19, attributes := #[] }])
  fields := #[{ name := "NOT_UTF_8", type := (.object "java/lang/String"), accessFlags := 24, slot := 0, constantValue := 0 }, { name := "NO_CHARACTER", type := .int, accessFlags := 24, slot := 1, constantValue := 0 }]
  methods := #[k2m0, k2m1, k2m2]
  instanceTypes := #[]
  staticTypes := #[(.object "java/lang/String"), .int]
  resolved := Array.replicate 30 none
  statics := none }

def pool3 : Array CpInfo := pool [(1, u "java/lang/Cloneable"), (0, .class_ 1), (0, u "java/lang/Object"), (0, .class_ 3)] 3

/-- java/lang/Cloneable -/
def k3 : Class := { plain "java/lang/Cloneable" (some 0) with
  accessFlags := 1537
  interfaces := #[]
  cf := some (fileOf pool3 2 #[] #[] 1537 4 #[] #[])
  fields := #[]
  methods := #[]
  instanceTypes := #[]
  staticTypes := #[]
  resolved := Array.replicate 8 none
  statics := none }

def pool4 : Array CpInfo := pool [(1, u "java/io/Serializable"), (0, .class_ 1), (0, u "java/lang/Object"), (0, .class_ 3)] 3

/-- java/io/Serializable -/
def k4 : Class := { plain "java/io/Serializable" (some 0) with
  accessFlags := 1537
  interfaces := #[]
  cf := some (fileOf pool4 2 #[] #[] 1537 4 #[] #[])
  fields := #[]
  methods := #[]
  instanceTypes := #[]
  staticTypes := #[]
  resolved := Array.replicate 8 none
  statics := none }

/-- the primitive byte -/
def k5 : Class := { plain "byte" none with kind := .primitive 'B', accessFlags := 0x411 }
/-- [B -/
def k6 : Class := { plain "[B" (some 0) with kind := .array 5 .byte, interfaces := #[3, 4], accessFlags := 1041 }

/-- the primitive int -/
def k7 : Class := { plain "int" none with kind := .primitive 'I', accessFlags := 0x411 }
/-- [I -/
def k8 : Class := { plain "[I" (some 0) with kind := .array 7 .int, interfaces := #[3, 4], accessFlags := 1041 }

def heap : Heap := #[]
def classes : Array Class := #[k0, k1, k2, k3, k4, k5, k6, k7, k8]
def interned : List (Array UInt16 × Addr) := []
def slotsUsed : Nat := 0
def theMethod : MethodId := ⟨1, 1⟩
def args0 : Array Value := #[.int 5, .int 6, .int 7]
def aboutOver (below : List Frame) : State where
  vm := { classes := classes, interned := interned.toArray }
  heap := heap
  slotsUsed := slotsUsed
  threads := #[{ frames := .invoking theMethod args0 :: below }]
def below0 : List Frame := [.native { method := ⟨0, 0⟩, args := #[] }]
def about1 : State := aboutOver below0
def p0 : Program := .bare "" "" ""
def e0 : Env := launch0.env 0 0 0
theorem w_frames : about1.frames = Frame.invoking theMethod args0 :: below0 := rfl
set_option maxRecDepth 65536 in
theorem w_args : argsFit about1.vm theMethod args0 = true := by decide +kernel
set_option maxRecDepth 65536 in
theorem w_heap : heapFits about1 = true := by decide +kernel
set_option maxRecDepth 65536 in
theorem w_runnable : about1.curStatus? = some .runnable := by decide +kernel
set_option maxRecDepth 65536 in
theorem w_alone : about1.alone = true := by decide +kernel
set_option maxRecDepth 65536 in
theorem w_named : about1.methodNamed? x = some theMethod := by decide +kernel
set_option maxRecDepth 65536 in
theorem w_hears : about1.hears theMethod below0 = true := by decide +kernel
set_option maxRecDepth 65536 in
theorem w_ripe : about1.ripe theMethod args0 below0 = true := by decide +kernel
theorem w_running : about1.status = .running := rfl
set_option maxRecDepth 65536 in
theorem w_room : about1.hasRoom e0.platform room_1 = true :=
  launch0.hasRoom_least _ room_1 (by decide +kernel) (by decide +kernel) (by decide +kernel) (by decide +kernel) (by decide +kernel) (by decide +kernel)
theorem allAtoms_all (ts : List Jvm.Cond) (a : Array Jvm.Value) (st : Jvm.State) : (allAtoms ts).before a st = ts.all (fun c => c.before a st) := by
  induction ts with
  | nil => rfl
  | cons c t ih =>
    show (Jvm.Cond.and c (allAtoms t)).before a st = _
    rw [Jvm.Cond.before_and, ih, List.all_cons]
def words1 : List Jvm.Cond := Jvm.Cond.code x code maxLocals ret :: tables_1
/-- a 'code' word, met by the world's own term for the bytes: nothing is compared byte by byte -/
theorem code_word {y : MethodName} {bytes : ByteArray} {mx : Nat} {rt : Option FieldType} {a : Array Value} {s : State} {m : MethodId} {meth : Method} {c : Code} (h1 : s.methodNamed? y = some m) (h2 : s.vm.method? m = some meth) (h3 : meth.code = some c) (h4 : c.code = bytes)
    (h5 : (c.maxLocals == mx && c.exceptionTable.isEmpty && decide (c.maxStack ≤ mostOperands) && decide (meth.sig.returnType = rt) && !meth.locks && decide (parseMethodDescriptor y.desc = some meth.sig)) = true) : (Jvm.Cond.code y bytes mx rt).before a s = true := by
  simp only [Bool.and_eq_true, beq_iff_eq, Bool.not_eq_true', decide_eq_true_eq] at h5
  obtain ⟨⟨⟨⟨⟨g1, g2⟩, g3⟩, g4⟩, g5⟩, g6⟩ := h5
  simp [Cond.before, Cond.holds, Cond.value, h1, h2, h3, h4, g1, g2, g3, g4, g5, g6]
def isCode : Jvm.Cond → Bool
  | .code _ _ _ _ => true
  | _ => false
theorem all_split {L : List Jvm.Cond} {P : Jvm.Cond → Bool} (h1 : L.all (fun c => isCode c || P c) = true) (h2 : ∀ c ∈ L.filter isCode, P c = true) : L.all P = true := by
  refine List.all_eq_true.mpr fun c hc => ?_
  have h := List.all_eq_true.mp h1 c hc
  rcases Bool.eq_false_or_eq_true (isCode c) with hi | hi
  · exact h2 c (List.mem_filter.mpr ⟨hc, hi⟩)
  · simpa [hi] using h
set_option maxRecDepth 65536 in
theorem w_c0 : (Jvm.Cond.code x code maxLocals ret).before args0 about1 = true := code_word (m := ⟨1, 1⟩) (meth := k1m1) (c := k1c1) (by decide +kernel) rfl rfl rfl (by decide +kernel)
set_option maxRecDepth 65536 in
theorem w_c1 : (Jvm.Cond.code ({ cls := "com/example/apportis/apportis/Utf8FirstInvalidPinLaw", name := "reference", desc := "([BI)I" } : Jvm.MethodName) method_3_code (4 : Nat) (Option.some Jvm.ClassFile.FieldType.int)).before args0 about1 = true := code_word (m := ⟨1, 2⟩) (meth := k1m2) (c := k1c2) (by decide +kernel) rfl rfl rfl (by decide +kernel)
set_option maxRecDepth 65536 in
theorem w_c2 : (Jvm.Cond.code ({ cls := "com/example/apportis/apportis/Utf8FirstInvalidPinLaw", name := "charLen", desc := "([BII)I" } : Jvm.MethodName) method_4_code (8 : Nat) (Option.some Jvm.ClassFile.FieldType.int)).before args0 about1 = true := code_word (m := ⟨1, 3⟩) (meth := k1m3) (c := k1c3) (by decide +kernel) rfl rfl rfl (by decide +kernel)
set_option maxRecDepth 65536 in
theorem w_c3 : (Jvm.Cond.code ({ cls := "com/example/apportis/apportis/Utf8", name := "firstInvalid", desc := "([B)I" } : Jvm.MethodName) prog_85_method_3_code (4 : Nat) (Option.some Jvm.ClassFile.FieldType.int)).before args0 about1 = true := code_word (m := ⟨2, 2⟩) (meth := k2m2) (c := k2c2) (by decide +kernel) rfl rfl rfl (by decide +kernel)
set_option maxRecDepth 65536 in
theorem w_c4 : (Jvm.Cond.code ({ cls := "com/example/apportis/apportis/Utf8", name := "characterEnd", desc := "([BI)I" } : Jvm.MethodName) prog_85_method_2_code (10 : Nat) (Option.some Jvm.ClassFile.FieldType.int)).before args0 about1 = true := code_word (m := ⟨2, 1⟩) (meth := k2m1) (c := k2c1) (by decide +kernel) rfl rfl rfl (by decide +kernel)
def codes1 : List Jvm.Cond := [Jvm.Cond.code x code maxLocals ret, Jvm.Cond.code ({ cls := "com/example/apportis/apportis/Utf8FirstInvalidPinLaw", name := "reference", desc := "([BI)I" } : Jvm.MethodName) method_3_code (4 : Nat) (Option.some Jvm.ClassFile.FieldType.int), Jvm.Cond.code ({ cls := "com/example/apportis/apportis/Utf8FirstInvalidPinLaw", name := "charLen", desc := "([BII)I" } : Jvm.MethodName) method_4_code (8 : Nat) (Option.some Jvm.ClassFile.FieldType.int), Jvm.Cond.code ({ cls := "com/example/apportis/apportis/Utf8", name := "firstInvalid", desc := "([B)I" } : Jvm.MethodName) prog_85_method_3_code (4 : Nat) (Option.some Jvm.ClassFile.FieldType.int), Jvm.Cond.code ({ cls := "com/example/apportis/apportis/Utf8", name := "characterEnd", desc := "([BI)I" } : Jvm.MethodName) prog_85_method_2_code (10 : Nat) (Option.some Jvm.ClassFile.FieldType.int)]
set_option maxRecDepth 65536 in
theorem codes_eq : words1.filter isCode = codes1 := rfl
theorem w_codes : ∀ c ∈ words1.filter isCode, c.before args0 about1 = true := by
  rw [codes_eq]
  intro c hc
  simp only [codes1, List.mem_cons, List.not_mem_nil, or_false] at hc
  rcases hc with rfl | rfl | rfl | rfl | rfl
  · exact w_c0
  · exact w_c1
  · exact w_c2
  · exact w_c3
  · exact w_c4
set_option maxRecDepth 65536 in
theorem w_t1 : words1.all (fun c => isCode c || c.before args0 about1) = true := by decide +kernel
theorem w_tables : (allAtoms (Jvm.Cond.code x code maxLocals ret :: tables_1)).before args0 about1 = true := by
  rw [allAtoms_all]
  show words1.all (fun c => c.before args0 about1) = true
  refine all_split ?_ w_codes
  rw [w_t1]
set_option maxRecDepth 65536 in
theorem w_case : (Jvm.Cond.and given_1 narrow_1).before args0 about1 = true := by decide +kernel
theorem w_applies : (headSpec (Jvm.Cond.code x code maxLocals ret :: tables_1) room_1).applies x e0.platform about1 = true :=
  (Spec.applies_iff w_frames).mpr ⟨w_running, w_runnable, w_alone, w_named, w_hears, w_ripe, w_room, w_tables⟩
theorem atStart : AtStart classFile x code maxLocals ret World_1 tables_1 room_1 Calls_1 rest_1 Pre_1 launch0 p0 e0 about1 theMethod args0 below0 :=
  ⟨lists_1, trivial, launch0.admits_env _ _ _, launch0.least_env, fairChoices_fair.cas, fairChoices_fair.clock, w_frames, w_args, w_heap, w_applies, trivial, trivial, w_case⟩
end start1
theorem witness_1 : WitnessClaimed_1 := ⟨start1.p0, start1.e0, start1.about1, start1.theMethod, start1.args0, start1.below0, start1.atStart⟩
end Jvm.Pilot.@@N@@
