import JvmDerived
import JvmDerived.Pilot.@@N@@Statement
import JvmDerived.Pilot.@@N@@Code
set_option linter.unusedVariables false
set_option linter.unusedSimpArgs false
namespace Jvm.RoadKit
open Sem ClassFile Op Lib Jvm.Stand Jvm.Free Jvm.LawKit
section New
variable {p : Program} {l : Launch} {e : Env} {R : Room} {s : State} {m : MethodId} {args : Array Value} {below : List Frame} {meth : Method} {c : Code} {T : State} {locs : List Loc} {cells slots : Nat}
theorem retI (X : Stand p l e R s m args below meth c T locs cells slots) (hx : p.tables.exec = Jvm.exec) {pc : Nat} {Ls : Array Slot} {z : Int32} {rest : List Value} (hret : meth.sig.returnType = some .int) (hd : decode c.code pc = .ok (.ireturn, 1)) {fs : List Frame}
    (hl : ∀ (f : JFrame) (acts : List Action), f.method = m → f.locked = none → f.entered = [] → (doReturn e (T.setTop f) acts (some (.int z))).1 = T.setFrames fs) : Steps p.tables e below (T.setTop (mkF m pc Ls (.int z :: rest))) (T.setFrames fs) := by
  have hm' : T.vm.method? m = some meth := X.method'
  have hn : narrow .int (.int z) = .int z := rfl
  show Steps p.tables e below (T.setTop { method := m, pc := pc, locals := Ls, stack := _ :: rest, locked := none }) _
  jvm_step X.here [X.here.top, hx, hd, hm', hret, hn]
  first | (intro acts; rw [hl _ acts rfl rfl rfl]) | rw [hl _ _ rfl rfl rfl]
  exact Steps.refl _
theorem retJ (X : Stand p l e R s m args below meth c T locs cells slots) (hx : p.tables.exec = Jvm.exec) {pc : Nat} {Ls : Array Slot} {z : Int64} {rest : List Value} (hret : meth.sig.returnType = some .long) (hd : decode c.code pc = .ok (.lreturn, 1)) {fs : List Frame}
    (hl : ∀ (f : JFrame) (acts : List Action), f.method = m → f.locked = none → f.entered = [] → (doReturn e (T.setTop f) acts (some (.long z))).1 = T.setFrames fs) : Steps p.tables e below (T.setTop (mkF m pc Ls (.long z :: rest))) (T.setFrames fs) := by
  have hm' : T.vm.method? m = some meth := X.method'
  have hn : narrow .long (.long z) = .long z := rfl
  show Steps p.tables e below (T.setTop { method := m, pc := pc, locals := Ls, stack := _ :: rest, locked := none }) _
  jvm_step X.here [X.here.top, hx, hd, hm', hret, hn]
  first | (intro acts; rw [hl _ acts rfl rfl rfl]) | rw [hl _ _ rfl rfl rfl]
  exact Steps.refl _
theorem retA (X : Stand p l e R s m args below meth c T locs cells slots) (hx : p.tables.exec = Jvm.exec) {pc : Nat} {Ls : Array Slot} {z : Value} {t : FieldType} {rest : List Value} (hret : meth.sig.returnType = some t) (ht : t.isReference = true) (hz : z.isRef = true) (hd : decode c.code pc = .ok (.areturn, 1)) {fs : List Frame}
    (hl : ∀ (f : JFrame) (acts : List Action), f.method = m → f.locked = none → f.entered = [] → (doReturn e (T.setTop f) acts (some z)).1 = T.setFrames fs) : Steps p.tables e below (T.setTop (mkF m pc Ls (z :: rest))) (T.setFrames fs) := by
  have hm' : T.vm.method? m = some meth := X.method'
  show Steps p.tables e below (T.setTop { method := m, pc := pc, locals := Ls, stack := _ :: rest, locked := none }) _
  jvm_step X.here [X.here.top, hx, hd, hm', hret, ht, hz]
  first | (intro acts; rw [hl _ acts rfl rfl rfl]) | rw [hl _ _ rfl rfl rfl]
  exact Steps.refl _
end New
end Jvm.RoadKit
@@BLOCK:NumsL.lean.txt@@
@@BLOCK:Masks.lean.txt@@
namespace Jvm.Pilot.@@N@@
open Jvm Jvm.ClassFile Sem Op Lib Jvm.Free Jvm.Stand Jvm.LawKit Jvm.RoadKit Bundle Jvm.Pilot.@@N@@.Jvm.D
/-- the run comes from st to an end of which F holds -/
abbrev Go (p : Program) (e : Env) (below : List Frame) (F : Outcome → State → Prop) (st : State) : Prop := ∃ t o, Steps p.tables e below st t ∧ t.status = .running ∧ Ended t below o ∧ F o t
theorem Go.st {p : Program} {e : Env} {below : List Frame} {F : Outcome → State → Prop} {a b : State} (h : ∀ t, Steps p.tables e below b t → Steps p.tables e below a t) (k : Go p e below F b) : Go p e below F a := by
  obtain ⟨t, o, h1, h2⟩ := k
  exact ⟨t, o, h t h1, h2⟩
/-- Java's x % y -/
abbrev jrem (x y : Int32) : Int32 := x - (x / y) * y
abbrev jremL (x y : Int64) : Int64 := x - (x / y) * y
theorem Go.cast {p : Program} {e : Env} {below : List Frame} {F : Outcome → State → Prop} {a b : State} (h : a = b) (k : Go p e below F b) : Go p e below F a := h ▸ k
theorem own_in0 {i z : Int32} (h0 : 0 ≤ i.toInt) (h1 : i.toInt < z.toInt) : ¬ i < 0 ∧ i < z := by
  have c : (0 : Int32).toInt = 0 := by decide
  rw [Int32.lt_iff_toInt_lt, Int32.lt_iff_toInt_lt, c]
  omega
theorem own_addk {p k : Int32} (h0 : 0 ≤ p.toInt) (h2 : p.toInt ≤ 100) (k0 : 0 ≤ k.toInt) (k1 : k.toInt ≤ 8) : (p + k).toInt = p.toInt + k.toInt := Jvm.Kit.i32_add (by omega) (by omega)
theorem own_ink {p z k : Int32} (h0 : 0 ≤ p.toInt) (h2 : z.toInt ≤ 100) (k0 : 0 ≤ k.toInt) (k1 : k.toInt ≤ 8) (hk : p.toInt + k.toInt < z.toInt) : ¬ (p + k) < 0 ∧ (p + k) < z :=
  own_in0 (by rw [own_addk h0 (by omega) k0 k1]; omega) (by rw [own_addk h0 (by omega) k0 k1]; exact hk)
theorem own_room {p z need : Int32} {k : Int} (h0 : 0 ≤ p.toInt) (h1 : p.toInt < z.toInt) (h2 : z.toInt ≤ 100) (h : ¬ (z - p) < need) (a : k < need.toInt) (b : need.toInt ≤ 8) : p.toInt + k < z.toInt := by
  rw [Int32.lt_iff_toInt_lt, Jvm.Kit.i32_sub (by omega) (by omega)] at h
  omega
theorem own_room2 {p z n ln : Int32} {k : Int} (h0 : 0 ≤ p.toInt) (h1 : p.toInt < z.toInt) (h2 : z.toInt ≤ 100) (hn : n = z) (h : ¬ n < (p + ln)) (a : k < ln.toInt) (b : 0 ≤ ln.toInt ∧ ln.toInt ≤ 8) : p.toInt + k < z.toInt := by
  rw [Int32.lt_iff_toInt_lt, own_addk h0 (by omega) b.1 b.2, hn] at h
  omega
theorem own_notm1 {p z k : Int32} (h0 : 0 ≤ p.toInt) (h1 : p.toInt < z.toInt) (h2 : z.toInt ≤ 100) (k0 : 0 ≤ k.toInt) (k1 : k.toInt ≤ 8) : ¬ (p + k) = (-1 : Int32) := fun e => by
  have q := congrArg Int32.toInt e
  rw [own_addk h0 (by omega) k0 k1] at q
  have c : (-1 : Int32).toInt = -1 := by decide
  omega
theorem own_ua {c k : Int32} (h : c < k) : c.toInt ≤ k.toInt - 1 := by rw [Int32.lt_iff_toInt_lt] at h; omega
theorem own_la {c k : Int32} (h : ¬ c < k) : k.toInt ≤ c.toInt := by rw [Int32.lt_iff_toInt_lt] at h; omega
theorem own_lb {c k : Int32} (h : k < c) : k.toInt + 1 ≤ c.toInt := by rw [Int32.lt_iff_toInt_lt] at h; omega
theorem own_ub {c k : Int32} (h : ¬ k < c) : c.toInt ≤ k.toInt := by rw [Int32.lt_iff_toInt_lt] at h; omega
theorem own_le {c k : Int32} (h : c = k) : k.toInt ≤ c.toInt := by rw [h]; omega
theorem own_ue {c k : Int32} (h : c = k) : c.toInt ≤ k.toInt := by rw [h]; omega
theorem own_ta {c k : Int32} {u : Int} (h : c.toInt ≤ u) (hk : u < k.toInt) : c < k := by rw [Int32.lt_iff_toInt_lt]; omega
theorem own_fa {c k : Int32} {u : Int} (h : u ≤ c.toInt) (hk : k.toInt ≤ u) : ¬ c < k := by rw [Int32.lt_iff_toInt_lt]; omega
theorem own_tb {c k : Int32} {u : Int} (h : u ≤ c.toInt) (hk : k.toInt < u) : k < c := by rw [Int32.lt_iff_toInt_lt]; omega
theorem own_fb {c k : Int32} {u : Int} (h : c.toInt ≤ u) (hk : u ≤ k.toInt) : ¬ k < c := by rw [Int32.lt_iff_toInt_lt]; omega
theorem own_fc {c k : Int32} {u : Int} (h : u ≤ c.toInt) (hk : k.toInt < u) : ¬ c = k := fun e => by subst e; omega
theorem own_fd {c k : Int32} {u : Int} (h : c.toInt ≤ u) (hk : u < k.toInt) : ¬ c = k := fun e => by subst e; omega

theorem d1_0 : decode prog_85_method_2_code 0 = .ok (.aload_n 0, 1) := by decide +kernel
theorem d1_1 : decode prog_85_method_2_code 1 = .ok (.iload_n 1, 1) := by decide +kernel
theorem d1_2 : decode prog_85_method_2_code 2 = .ok (.baload, 1) := by decide +kernel
theorem d1_3 : decode prog_85_method_2_code 3 = .ok (.sipush 255, 3) := by decide +kernel
theorem d1_6 : decode prog_85_method_2_code 6 = .ok (.iand, 1) := by decide +kernel
theorem d1_7 : decode prog_85_method_2_code 7 = .ok (.istore_n 2, 1) := by decide +kernel
theorem d1_8 : decode prog_85_method_2_code 8 = .ok (.sipush 128, 3) := by decide +kernel
theorem d1_11 : decode prog_85_method_2_code 11 = .ok (.istore 4, 2) := by decide +kernel
theorem d1_13 : decode prog_85_method_2_code 13 = .ok (.sipush 191, 3) := by decide +kernel
theorem d1_16 : decode prog_85_method_2_code 16 = .ok (.istore 5, 2) := by decide +kernel
theorem d1_18 : decode prog_85_method_2_code 18 = .ok (.iload_n 2, 1) := by decide +kernel
theorem d1_19 : decode prog_85_method_2_code 19 = .ok (.sipush 194, 3) := by decide +kernel
theorem d1_22 : decode prog_85_method_2_code 22 = .ok (.if_icmp .lt 15, 3) := by decide +kernel
theorem d1_25 : decode prog_85_method_2_code 25 = .ok (.iload_n 2, 1) := by decide +kernel
theorem d1_26 : decode prog_85_method_2_code 26 = .ok (.sipush 223, 3) := by decide +kernel
theorem d1_29 : decode prog_85_method_2_code 29 = .ok (.if_icmp .gt 8, 3) := by decide +kernel
theorem d1_32 : decode prog_85_method_2_code 32 = .ok (.iconst 2, 1) := by decide +kernel
theorem d1_33 : decode prog_85_method_2_code 33 = .ok (.istore_n 3, 1) := by decide +kernel
theorem d1_34 : decode prog_85_method_2_code 34 = .ok (.goto 111, 3) := by decide +kernel
theorem d1_37 : decode prog_85_method_2_code 37 = .ok (.iload_n 2, 1) := by decide +kernel
theorem d1_38 : decode prog_85_method_2_code 38 = .ok (.sipush 224, 3) := by decide +kernel
theorem d1_41 : decode prog_85_method_2_code 41 = .ok (.if_icmp .lt 49, 3) := by decide +kernel
theorem d1_44 : decode prog_85_method_2_code 44 = .ok (.iload_n 2, 1) := by decide +kernel
theorem d1_45 : decode prog_85_method_2_code 45 = .ok (.sipush 239, 3) := by decide +kernel
theorem d1_48 : decode prog_85_method_2_code 48 = .ok (.if_icmp .gt 42, 3) := by decide +kernel
theorem d1_51 : decode prog_85_method_2_code 51 = .ok (.iconst 3, 1) := by decide +kernel
theorem d1_52 : decode prog_85_method_2_code 52 = .ok (.istore_n 3, 1) := by decide +kernel
theorem d1_53 : decode prog_85_method_2_code 53 = .ok (.iload_n 2, 1) := by decide +kernel
theorem d1_54 : decode prog_85_method_2_code 54 = .ok (.sipush 224, 3) := by decide +kernel
theorem d1_57 : decode prog_85_method_2_code 57 = .ok (.if_icmp .ne 9, 3) := by decide +kernel
theorem d1_60 : decode prog_85_method_2_code 60 = .ok (.sipush 160, 3) := by decide +kernel
theorem d1_63 : decode prog_85_method_2_code 63 = .ok (.goto 5, 3) := by decide +kernel
theorem d1_66 : decode prog_85_method_2_code 66 = .ok (.iload 4, 2) := by decide +kernel
theorem d1_68 : decode prog_85_method_2_code 68 = .ok (.istore 4, 2) := by decide +kernel
theorem d1_70 : decode prog_85_method_2_code 70 = .ok (.iload_n 2, 1) := by decide +kernel
theorem d1_71 : decode prog_85_method_2_code 71 = .ok (.sipush 237, 3) := by decide +kernel
theorem d1_74 : decode prog_85_method_2_code 74 = .ok (.if_icmp .ne 9, 3) := by decide +kernel
theorem d1_77 : decode prog_85_method_2_code 77 = .ok (.sipush 159, 3) := by decide +kernel
theorem d1_80 : decode prog_85_method_2_code 80 = .ok (.goto 5, 3) := by decide +kernel
theorem d1_83 : decode prog_85_method_2_code 83 = .ok (.iload 5, 2) := by decide +kernel
theorem d1_85 : decode prog_85_method_2_code 85 = .ok (.istore 5, 2) := by decide +kernel
theorem d1_87 : decode prog_85_method_2_code 87 = .ok (.goto 58, 3) := by decide +kernel
theorem d1_90 : decode prog_85_method_2_code 90 = .ok (.iload_n 2, 1) := by decide +kernel
theorem d1_91 : decode prog_85_method_2_code 91 = .ok (.sipush 240, 3) := by decide +kernel
theorem d1_94 : decode prog_85_method_2_code 94 = .ok (.if_icmp .lt 49, 3) := by decide +kernel
theorem d1_97 : decode prog_85_method_2_code 97 = .ok (.iload_n 2, 1) := by decide +kernel
theorem d1_98 : decode prog_85_method_2_code 98 = .ok (.sipush 244, 3) := by decide +kernel
theorem d1_101 : decode prog_85_method_2_code 101 = .ok (.if_icmp .gt 42, 3) := by decide +kernel
theorem d1_104 : decode prog_85_method_2_code 104 = .ok (.iconst 4, 1) := by decide +kernel
theorem d1_105 : decode prog_85_method_2_code 105 = .ok (.istore_n 3, 1) := by decide +kernel
theorem d1_106 : decode prog_85_method_2_code 106 = .ok (.iload_n 2, 1) := by decide +kernel
theorem d1_107 : decode prog_85_method_2_code 107 = .ok (.sipush 240, 3) := by decide +kernel
theorem d1_110 : decode prog_85_method_2_code 110 = .ok (.if_icmp .ne 9, 3) := by decide +kernel
theorem d1_113 : decode prog_85_method_2_code 113 = .ok (.sipush 144, 3) := by decide +kernel
theorem d1_116 : decode prog_85_method_2_code 116 = .ok (.goto 5, 3) := by decide +kernel
theorem d1_119 : decode prog_85_method_2_code 119 = .ok (.iload 4, 2) := by decide +kernel
theorem d1_121 : decode prog_85_method_2_code 121 = .ok (.istore 4, 2) := by decide +kernel
theorem d1_123 : decode prog_85_method_2_code 123 = .ok (.iload_n 2, 1) := by decide +kernel
theorem d1_124 : decode prog_85_method_2_code 124 = .ok (.sipush 244, 3) := by decide +kernel
theorem d1_127 : decode prog_85_method_2_code 127 = .ok (.if_icmp .ne 9, 3) := by decide +kernel
theorem d1_130 : decode prog_85_method_2_code 130 = .ok (.sipush 143, 3) := by decide +kernel
theorem d1_133 : decode prog_85_method_2_code 133 = .ok (.goto 5, 3) := by decide +kernel
theorem d1_136 : decode prog_85_method_2_code 136 = .ok (.iload 5, 2) := by decide +kernel
theorem d1_138 : decode prog_85_method_2_code 138 = .ok (.istore 5, 2) := by decide +kernel
theorem d1_140 : decode prog_85_method_2_code 140 = .ok (.goto 5, 3) := by decide +kernel
theorem d1_143 : decode prog_85_method_2_code 143 = .ok (.iconst (-1), 1) := by decide +kernel
theorem d1_144 : decode prog_85_method_2_code 144 = .ok (.ireturn, 1) := by decide +kernel
theorem d1_145 : decode prog_85_method_2_code 145 = .ok (.aload_n 0, 1) := by decide +kernel
theorem d1_146 : decode prog_85_method_2_code 146 = .ok (.arraylength, 1) := by decide +kernel
theorem d1_147 : decode prog_85_method_2_code 147 = .ok (.iload_n 1, 1) := by decide +kernel
theorem d1_148 : decode prog_85_method_2_code 148 = .ok (.isub, 1) := by decide +kernel
theorem d1_149 : decode prog_85_method_2_code 149 = .ok (.iload_n 3, 1) := by decide +kernel
theorem d1_150 : decode prog_85_method_2_code 150 = .ok (.if_icmp .ge 5, 3) := by decide +kernel
theorem d1_153 : decode prog_85_method_2_code 153 = .ok (.iconst (-1), 1) := by decide +kernel
theorem d1_154 : decode prog_85_method_2_code 154 = .ok (.ireturn, 1) := by decide +kernel
theorem d1_155 : decode prog_85_method_2_code 155 = .ok (.iload_n 1, 1) := by decide +kernel
theorem d1_156 : decode prog_85_method_2_code 156 = .ok (.iload_n 3, 1) := by decide +kernel
theorem d1_157 : decode prog_85_method_2_code 157 = .ok (.iadd, 1) := by decide +kernel
theorem d1_158 : decode prog_85_method_2_code 158 = .ok (.istore 6, 2) := by decide +kernel
theorem d1_160 : decode prog_85_method_2_code 160 = .ok (.iconst 1, 1) := by decide +kernel
theorem d1_161 : decode prog_85_method_2_code 161 = .ok (.istore 7, 2) := by decide +kernel
theorem d1_163 : decode prog_85_method_2_code 163 = .ok (.iload 7, 2) := by decide +kernel
theorem d1_165 : decode prog_85_method_2_code 165 = .ok (.iload_n 3, 1) := by decide +kernel
theorem d1_166 : decode prog_85_method_2_code 166 = .ok (.if_icmp .ge 79, 3) := by decide +kernel
theorem d1_169 : decode prog_85_method_2_code 169 = .ok (.iload 6, 2) := by decide +kernel
theorem d1_171 : decode prog_85_method_2_code 171 = .ok (.iconst (-1), 1) := by decide +kernel
theorem d1_172 : decode prog_85_method_2_code 172 = .ok (.if_icmp .eq 73, 3) := by decide +kernel
theorem d1_175 : decode prog_85_method_2_code 175 = .ok (.aload_n 0, 1) := by decide +kernel
theorem d1_176 : decode prog_85_method_2_code 176 = .ok (.iload_n 1, 1) := by decide +kernel
theorem d1_177 : decode prog_85_method_2_code 177 = .ok (.iload 7, 2) := by decide +kernel
theorem d1_179 : decode prog_85_method_2_code 179 = .ok (.iadd, 1) := by decide +kernel
theorem d1_180 : decode prog_85_method_2_code 180 = .ok (.baload, 1) := by decide +kernel
theorem d1_181 : decode prog_85_method_2_code 181 = .ok (.sipush 255, 3) := by decide +kernel
theorem d1_184 : decode prog_85_method_2_code 184 = .ok (.iand, 1) := by decide +kernel
theorem d1_185 : decode prog_85_method_2_code 185 = .ok (.istore 8, 2) := by decide +kernel
theorem d1_187 : decode prog_85_method_2_code 187 = .ok (.iload 7, 2) := by decide +kernel
theorem d1_189 : decode prog_85_method_2_code 189 = .ok (.iconst 1, 1) := by decide +kernel
theorem d1_190 : decode prog_85_method_2_code 190 = .ok (.if_icmp .ne 7, 3) := by decide +kernel
theorem d1_193 : decode prog_85_method_2_code 193 = .ok (.iconst 1, 1) := by decide +kernel
theorem d1_194 : decode prog_85_method_2_code 194 = .ok (.goto 4, 3) := by decide +kernel
theorem d1_197 : decode prog_85_method_2_code 197 = .ok (.iconst 0, 1) := by decide +kernel
theorem d1_198 : decode prog_85_method_2_code 198 = .ok (.istore 9, 2) := by decide +kernel
theorem d1_200 : decode prog_85_method_2_code 200 = .ok (.iload 8, 2) := by decide +kernel
theorem d1_202 : decode prog_85_method_2_code 202 = .ok (.iload 9, 2) := by decide +kernel
theorem d1_204 : decode prog_85_method_2_code 204 = .ok (.ifCond .eq 8, 3) := by decide +kernel
theorem d1_207 : decode prog_85_method_2_code 207 = .ok (.iload 4, 2) := by decide +kernel
theorem d1_209 : decode prog_85_method_2_code 209 = .ok (.goto 6, 3) := by decide +kernel
theorem d1_212 : decode prog_85_method_2_code 212 = .ok (.sipush 128, 3) := by decide +kernel
theorem d1_215 : decode prog_85_method_2_code 215 = .ok (.if_icmp .lt 21, 3) := by decide +kernel
theorem d1_218 : decode prog_85_method_2_code 218 = .ok (.iload 8, 2) := by decide +kernel
theorem d1_220 : decode prog_85_method_2_code 220 = .ok (.iload 9, 2) := by decide +kernel
theorem d1_222 : decode prog_85_method_2_code 222 = .ok (.ifCond .eq 8, 3) := by decide +kernel
theorem d1_225 : decode prog_85_method_2_code 225 = .ok (.iload 5, 2) := by decide +kernel
theorem d1_227 : decode prog_85_method_2_code 227 = .ok (.goto 6, 3) := by decide +kernel
theorem d1_230 : decode prog_85_method_2_code 230 = .ok (.sipush 191, 3) := by decide +kernel
theorem d1_233 : decode prog_85_method_2_code 233 = .ok (.if_icmp .le 6, 3) := by decide +kernel
theorem d1_236 : decode prog_85_method_2_code 236 = .ok (.iconst (-1), 1) := by decide +kernel
theorem d1_237 : decode prog_85_method_2_code 237 = .ok (.istore 6, 2) := by decide +kernel
theorem d1_239 : decode prog_85_method_2_code 239 = .ok (.iinc 7 1, 3) := by decide +kernel
theorem d1_242 : decode prog_85_method_2_code 242 = .ok (.goto (-79), 3) := by decide +kernel
theorem d1_245 : decode prog_85_method_2_code 245 = .ok (.iload 6, 2) := by decide +kernel
theorem d1_247 : decode prog_85_method_2_code 247 = .ok (.ireturn, 1) := by decide +kernel
theorem pn_1 : plainName "com/example/apportis/apportis/Utf8" = true := by first | (simp [plainName, overriddenIn]; done) | decide +kernel
theorem ef_rmCE (m : MethodId) (a0 : Addr) (p1 : Int32) : entryFrame m #[(.ref a0), (.int p1)] 10 = mkF m 0 #[.val (.ref a0), .val (.int p1), .unset, .unset, .unset, .unset, .unset, .unset, .unset, .unset] [] := by first | (simp [entryFrame, mkF, argsToLocals, Value.category]; done) | rfl
def fT2 (lo hi : Int32) (x0 x1 x2 x3 p1 z : Int32) : Int32 := if (z - p1) < (2 : Int32) then (-1 : Int32) else (if (x1 &&& (255 : Int32)) < lo then (-1 : Int32) else (if hi < (x1 &&& (255 : Int32)) then (-1 : Int32) else (p1 + (2 : Int32))))
def fT3 (lo hi : Int32) (x0 x1 x2 x3 p1 z : Int32) : Int32 := if (z - p1) < (3 : Int32) then (-1 : Int32) else (if (x1 &&& (255 : Int32)) < lo then (-1 : Int32) else (if hi < (x1 &&& (255 : Int32)) then (-1 : Int32) else (if (x2 &&& (255 : Int32)) < (128 : Int32) then (-1 : Int32) else (if (191 : Int32) < (x2 &&& (255 : Int32)) then (-1 : Int32) else (p1 + (3 : Int32))))))
def fT4 (lo hi : Int32) (x0 x1 x2 x3 p1 z : Int32) : Int32 := if (z - p1) < (4 : Int32) then (-1 : Int32) else (if (x1 &&& (255 : Int32)) < lo then (-1 : Int32) else (if hi < (x1 &&& (255 : Int32)) then (-1 : Int32) else (if (x2 &&& (255 : Int32)) < (128 : Int32) then (-1 : Int32) else (if (191 : Int32) < (x2 &&& (255 : Int32)) then (-1 : Int32) else (if (x3 &&& (255 : Int32)) < (128 : Int32) then (-1 : Int32) else (if (191 : Int32) < (x3 &&& (255 : Int32)) then (-1 : Int32) else (p1 + (4 : Int32))))))))
def fCE (x0 x1 x2 x3 p1 z : Int32) : Int32 := if (x0 &&& (255 : Int32)) < (194 : Int32) then (-1 : Int32) else (if (223 : Int32) < (x0 &&& (255 : Int32)) then (if (239 : Int32) < (x0 &&& (255 : Int32)) then (if (244 : Int32) < (x0 &&& (255 : Int32)) then (-1 : Int32) else (if (x0 &&& (255 : Int32)) = (240 : Int32) then (fT4 (144 : Int32) (191 : Int32) x0 x1 x2 x3 p1 z) else (if (x0 &&& (255 : Int32)) = (244 : Int32) then (fT4 (128 : Int32) (143 : Int32) x0 x1 x2 x3 p1 z) else (fT4 (128 : Int32) (191 : Int32) x0 x1 x2 x3 p1 z)))) else (if (x0 &&& (255 : Int32)) = (224 : Int32) then (fT3 (160 : Int32) (191 : Int32) x0 x1 x2 x3 p1 z) else (if (x0 &&& (255 : Int32)) = (237 : Int32) then (fT3 (128 : Int32) (159 : Int32) x0 x1 x2 x3 p1 z) else (fT3 (128 : Int32) (191 : Int32) x0 x1 x2 x3 p1 z)))) else (fT2 (128 : Int32) (191 : Int32) x0 x1 x2 x3 p1 z))
def Q_rmCE (Z : State) (x0 : Int32) (x1 : Int32) (x2 : Int32) (x3 : Int32) (a0 : Addr) (p1 : Int32) (kk : ClassId) (z : Int32) (vs : List Value) (h0 : Heap) (n0 : Nat) (v : Option Value) (h : Heap) (L : List Loc) : Prop := v = some (.int (fCE x0 x1 x2 x3 p1 z)) ∧ Fr n0 L ∧ h = h0
abbrev F_rmCE (Z : State) (x0 : Int32) (x1 : Int32) (x2 : Int32) (x3 : Int32) (a0 : Addr) (p1 : Int32) (kk : ClassId) (z : Int32) (vs : List Value) (h0 : Heap) (n0 : Nat) (s : State) (o : Outcome) (U : State) : Prop := ∃ v L, o = .returned v ∧ Q_rmCE Z x0 x1 x2 x3 a0 p1 kk z vs h0 n0 v U.heap L ∧ FrameEnd s o U L 0 0
set_option maxRecDepth 65536 in
set_option maxHeartbeats 40000000 in
theorem rmCE (l : Launch) (Z : State) (aZ : Array Value) (hw : ∀ d ∈ tables_1, d.before aZ Z = true) (ws : List Jvm.Cond) (x0 : Int32) (x1 : Int32) (x2 : Int32) (x3 : Int32) (a0 : Addr) (p1 : Int32) (kk : ClassId) (z : Int32) (vs : List Value) (h0 : Heap) (n0 : Nat) (hs0 : 0 ≤ p1.toInt) (hs1 : p1.toInt < z.toInt) (hs2 : z.toInt ≤ 100) (he0 : vs.getD p1.toNatClampNeg (.int (0 : Int32)) = .int x0) (he1 : p1.toInt + 1 < z.toInt → vs.getD (p1 + (1 : Int32)).toNatClampNeg (.int (0 : Int32)) = .int x1) (he2 : p1.toInt + 2 < z.toInt → vs.getD (p1 + (2 : Int32)).toNatClampNeg (.int (0 : Int32)) = .int x2) (he3 : p1.toInt + 3 < z.toInt → vs.getD (p1 + (3 : Int32)).toNatClampNeg (.int (0 : Int32)) = .int x3) (V : Arv Z h0 a0 kk .byte z vs (.int (0 : Int32))) :
    MetFree l (⟨"com/example/apportis/apportis/Utf8", "characterEnd", "([BI)I"⟩ : MethodName) (head1 (Jvm.Cond.code (⟨"com/example/apportis/apportis/Utf8", "characterEnd", "([BI)I"⟩ : MethodName) prog_85_method_2_code 10 (some .int) :: ws) ({ frames := 0, cells := 0, slots := 0, locals := 0 } : Room)) (fun a U => a = #[(.ref a0), (.int p1)] ∧ Z.Warmed39 U.vm ∧ U.heap = h0) (fun _ _ _ _ _ => True) (fun _ U o U' => ∃ v L, o = .returned v ∧ Q_rmCE Z x0 x1 x2 x3 a0 p1 kk z vs h0 n0 v U'.heap L ∧ FrameEnd U o U' L 0 0) := by
  refine MetFree.of_bodySF (plainFor_of_name pn_1) hisR ?_
  intro p e s m args below meth c s₁ Bd hml0 hP hK
  obtain ⟨rfl, hZ, hh⟩ := hP
  have hx := Bd.exec
  have hby := Bd.bytes
  have hml : c.maxLocals = 10 := hml0
  have hown : s.vm.findClass "com/example/apportis/apportis/Utf8" = some m.cls := findClass_of_methodNamed Bd.named
  have hnm := (name_of_methodNamed Bd.named Bd.method).1
  have X0 : Stand p l e ({ frames := 0, cells := 0, slots := 0, locals := 0 } : Room) s m #[(.ref a0), (.int p1)] below meth c s₁ [] 0 0 := Stand.of_body Bd
  have e0 : s₁.heap = h0 := by rw [← hh, Bd.state]; rfl
  have N0 := Fr.nil n0
  refine Go.st (fun _ k => castTop (ef_rmCE m a0 p1) k) ?_
  show Go p e below _ (s₁.setTop (mkF m 0 #[.val (.ref a0), .val (.int p1), .unset, .unset, .unset, .unset, .unset, .unset, .unset, .unset] []))
  refine Go.st (fun _ k => XS.aloadN X0.here hx rfl (hb hby d1_0) rfl rfl k) ?_
  refine Go.st (fun _ k => XS.iloadN X0.here hx rfl (hb hby d1_1) rfl k) ?_
  show Go p e below _ (s₁.setTop (mkF m 2 #[.val (.ref a0), .val (.int p1), .unset, .unset, .unset, .unset, .unset, .unset, .unset, .unset] [(.int p1), (.ref a0)]))
  obtain ⟨cl1, Ar1, ck1, Sz1, Nn1, Hs1, Gs1⟩ := id V
  have hin1 : ¬ (p1 < 0 ∨ cl1.slots.size ≤ (p1).toNatClampNeg) := inb_of Sz1 (own_in0 hs0 hs1)
  have hat1 : cl1.slots[(p1).toNatClampNeg]? = some (.int x0) := Hs1.at hin1 he0
  refine Go.st (fun _ k => X0.baloadBytes hx (j := p1) (v := (.int x0)) (by rw [e0]; exact Ar1.1) (State.isArrayOf_alike hZ.alike Ar1.2.1) Ar1.2.2 hin1 hat1 (g := (mkF m 2 #[.val (.ref a0), .val (.int p1), .unset, .unset, .unset, .unset, .unset, .unset, .unset, .unset] [(.int p1), (.ref a0)])) rfl rfl (hb hby d1_2) _ k) ?_
  show Go p e below _ (s₁.setTop (mkF m 3 #[.val (.ref a0), .val (.int p1), .unset, .unset, .unset, .unset, .unset, .unset, .unset, .unset] [(.int x0)]))
  refine Go.st (fun _ k => XS.sipush X0.here hx rfl (hb hby d1_3) k) ?_
  refine Go.st (fun _ k => XS.iand X0.here hx rfl (hb hby d1_6) rfl k) ?_
  show Go p e below _ (s₁.setTop (mkF m 7 #[.val (.ref a0), .val (.int p1), .unset, .unset, .unset, .unset, .unset, .unset, .unset, .unset] [(.int (x0 &&& (255 : Int32)))]))
  refine Go.st (fun _ k => XS.istoreN X0.here hx rfl (hb hby d1_7) rfl (l' := #[.val (.ref a0), .val (.int p1), .val (.int (x0 &&& (255 : Int32))), .unset, .unset, .unset, .unset, .unset, .unset, .unset]) rfl k) ?_
  show Go p e below _ (s₁.setTop (mkF m 8 #[.val (.ref a0), .val (.int p1), .val (.int (x0 &&& (255 : Int32))), .unset, .unset, .unset, .unset, .unset, .unset, .unset] []))
  refine Go.st (fun _ k => XS.sipush X0.here hx rfl (hb hby d1_8) k) ?_
  refine Go.st (fun _ k => XS.istore X0.here hx rfl (hb hby d1_11) rfl (l' := #[.val (.ref a0), .val (.int p1), .val (.int (x0 &&& (255 : Int32))), .unset, .val (.int (128 : Int32)), .unset, .unset, .unset, .unset, .unset]) rfl k) ?_
  show Go p e below _ (s₁.setTop (mkF m 13 #[.val (.ref a0), .val (.int p1), .val (.int (x0 &&& (255 : Int32))), .unset, .val (.int (128 : Int32)), .unset, .unset, .unset, .unset, .unset] []))
  refine Go.st (fun _ k => XS.sipush X0.here hx rfl (hb hby d1_13) k) ?_
  refine Go.st (fun _ k => XS.istore X0.here hx rfl (hb hby d1_16) rfl (l' := #[.val (.ref a0), .val (.int p1), .val (.int (x0 &&& (255 : Int32))), .unset, .val (.int (128 : Int32)), .val (.int (191 : Int32)), .unset, .unset, .unset, .unset]) rfl k) ?_
  show Go p e below _ (s₁.setTop (mkF m 18 #[.val (.ref a0), .val (.int p1), .val (.int (x0 &&& (255 : Int32))), .unset, .val (.int (128 : Int32)), .val (.int (191 : Int32)), .unset, .unset, .unset, .unset] []))
  have key2 : ∀ (lo : Int32) (hi : Int32), (fCE x0 x1 x2 x3 p1 z = fT2 lo hi x0 x1 x2 x3 p1 z) → Go p e below (F_rmCE Z x0 x1 x2 x3 a0 p1 kk z vs h0 n0 s) (s₁.setTop (mkF m 145 #[.val (.ref a0), .val (.int p1), .val (.int (x0 &&& (255 : Int32))), .val (.int (2 : Int32)), .val (.int lo), .val (.int hi), .unset, .unset, .unset, .unset] [])) := by
    intro lo hi hj
    show Go p e below _ (s₁.setTop (mkF m 145 #[.val (.ref a0), .val (.int p1), .val (.int (x0 &&& (255 : Int32))), .val (.int (2 : Int32)), .val (.int lo), .val (.int hi), .unset, .unset, .unset, .unset] []))
    refine Go.st (fun _ k => XS.aloadN X0.here hx rfl (hb hby d1_145) rfl rfl k) ?_
    show Go p e below _ (s₁.setTop (mkF m 146 #[.val (.ref a0), .val (.int p1), .val (.int (x0 &&& (255 : Int32))), .val (.int (2 : Int32)), .val (.int lo), .val (.int hi), .unset, .unset, .unset, .unset] [(.ref a0)]))
    obtain ⟨cl2, Ar2, ck2, Sz2, Nn2, Hs2, Gs2⟩ := id V
    refine Go.st (fun _ k => X0.arraylength hx (by rw [e0]; exact Ar2.1) (State.isArrayOf_alike hZ.alike Ar2.2.1) (g := (mkF m 146 #[.val (.ref a0), .val (.int p1), .val (.int (x0 &&& (255 : Int32))), .val (.int (2 : Int32)), .val (.int lo), .val (.int hi), .unset, .unset, .unset, .unset] [(.ref a0)])) rfl rfl (hb hby d1_146) _ k) ?_
    rw [len_of Sz2 Nn2]
    show Go p e below _ (s₁.setTop (mkF m 147 #[.val (.ref a0), .val (.int p1), .val (.int (x0 &&& (255 : Int32))), .val (.int (2 : Int32)), .val (.int lo), .val (.int hi), .unset, .unset, .unset, .unset] [(.int z)]))
    refine Go.st (fun _ k => XS.iloadN X0.here hx rfl (hb hby d1_147) rfl k) ?_
    refine Go.st (fun _ k => XS.isub X0.here hx rfl (hb hby d1_148) rfl k) ?_
    show Go p e below _ (s₁.setTop (mkF m 149 #[.val (.ref a0), .val (.int p1), .val (.int (x0 &&& (255 : Int32))), .val (.int (2 : Int32)), .val (.int lo), .val (.int hi), .unset, .unset, .unset, .unset] [(.int (z - p1))]))
    refine Go.st (fun _ k => XS.iloadN X0.here hx rfl (hb hby d1_149) rfl k) ?_
    by_cases hc3 : (z - p1) < (2 : Int32)
    · show Go p e below _ (s₁.setTop (mkF m 150 #[.val (.ref a0), .val (.int p1), .val (.int (x0 &&& (255 : Int32))), .val (.int (2 : Int32)), .val (.int lo), .val (.int hi), .unset, .unset, .unset, .unset] [(.int (2 : Int32)), (.int (z - p1))]))
      refine Go.st (fun _ k => XS.icmpNo X0.here hx rfl (hb hby d1_150) rfl (tlt hc3).2.1 k) ?_
      show Go p e below _ (s₁.setTop (mkF m 153 #[.val (.ref a0), .val (.int p1), .val (.int (x0 &&& (255 : Int32))), .val (.int (2 : Int32)), .val (.int lo), .val (.int hi), .unset, .unset, .unset, .unset] []))
      refine Go.st (fun _ k => XS.iconst X0.here hx rfl (hb hby d1_153) k) ?_
      obtain ⟨fs, hr, hrun, hended, hW, hsame⟩ := X0.leave (v := some (.int (-1 : Int32))) (fun h => by rw [Bd.returns] at h; cases h)
      refine ⟨_, _, retI X0 hx Bd.returns (hb hby d1_154) hr, hrun, hended, _, _, rfl, ?_, ⟨_, rfl⟩, hW, hsame.mono (by decide) (by decide)⟩
      show Q_rmCE Z x0 x1 x2 x3 a0 p1 kk z vs h0 n0 _ s₁.heap _
      rw [e0]
      refine ⟨?_, N0, rfl⟩
      rw [hj]
      unfold fT2
      rw [if_pos hc3]
    · show Go p e below _ (s₁.setTop (mkF m 150 #[.val (.ref a0), .val (.int p1), .val (.int (x0 &&& (255 : Int32))), .val (.int (2 : Int32)), .val (.int lo), .val (.int hi), .unset, .unset, .unset, .unset] [(.int (2 : Int32)), (.int (z - p1))]))
      refine Go.st (fun _ k => XS.icmpYes X0.here hx rfl (pc0 := 150) (pc' := 155) rfl (hb hby d1_150) rfl (flt hc3).2.1 (by decide) (by decide) k) ?_
      show Go p e below _ (s₁.setTop (mkF m 155 #[.val (.ref a0), .val (.int p1), .val (.int (x0 &&& (255 : Int32))), .val (.int (2 : Int32)), .val (.int lo), .val (.int hi), .unset, .unset, .unset, .unset] []))
      refine Go.st (fun _ k => XS.iloadN X0.here hx rfl (hb hby d1_155) rfl k) ?_
      refine Go.st (fun _ k => XS.iloadN X0.here hx rfl (hb hby d1_156) rfl k) ?_
      show Go p e below _ (s₁.setTop (mkF m 157 #[.val (.ref a0), .val (.int p1), .val (.int (x0 &&& (255 : Int32))), .val (.int (2 : Int32)), .val (.int lo), .val (.int hi), .unset, .unset, .unset, .unset] [(.int (2 : Int32)), (.int p1)]))
      refine Go.st (fun _ k => XS.iadd X0.here hx rfl (hb hby d1_157) rfl k) ?_
      refine Go.st (fun _ k => XS.istore X0.here hx rfl (hb hby d1_158) rfl (l' := #[.val (.ref a0), .val (.int p1), .val (.int (x0 &&& (255 : Int32))), .val (.int (2 : Int32)), .val (.int lo), .val (.int hi), .val (.int (p1 + (2 : Int32))), .unset, .unset, .unset]) rfl k) ?_
      show Go p e below _ (s₁.setTop (mkF m 160 #[.val (.ref a0), .val (.int p1), .val (.int (x0 &&& (255 : Int32))), .val (.int (2 : Int32)), .val (.int lo), .val (.int hi), .val (.int (p1 + (2 : Int32))), .unset, .unset, .unset] []))
      refine Go.st (fun _ k => XS.iconst X0.here hx rfl (hb hby d1_160) k) ?_
      refine Go.st (fun _ k => XS.istore X0.here hx rfl (hb hby d1_161) rfl (l' := #[.val (.ref a0), .val (.int p1), .val (.int (x0 &&& (255 : Int32))), .val (.int (2 : Int32)), .val (.int lo), .val (.int hi), .val (.int (p1 + (2 : Int32))), .val (.int (1 : Int32)), .unset, .unset]) rfl k) ?_
      show Go p e below _ (s₁.setTop (mkF m 163 #[.val (.ref a0), .val (.int p1), .val (.int (x0 &&& (255 : Int32))), .val (.int (2 : Int32)), .val (.int lo), .val (.int hi), .val (.int (p1 + (2 : Int32))), .val (.int (1 : Int32)), .unset, .unset] []))
      refine Go.st (fun _ k => XS.iload X0.here hx rfl (hb hby d1_163) rfl k) ?_
      refine Go.st (fun _ k => XS.iloadN X0.here hx rfl (hb hby d1_165) rfl k) ?_
      show Go p e below _ (s₁.setTop (mkF m 166 #[.val (.ref a0), .val (.int p1), .val (.int (x0 &&& (255 : Int32))), .val (.int (2 : Int32)), .val (.int lo), .val (.int hi), .val (.int (p1 + (2 : Int32))), .val (.int (1 : Int32)), .unset, .unset] [(.int (2 : Int32)), (.int (1 : Int32))]))
      refine Go.st (fun _ k => XS.icmpNo X0.here hx rfl (hb hby d1_166) rfl (tlt (by decide : ((1 : Int32) < (2 : Int32)))).2.1 k) ?_
      show Go p e below _ (s₁.setTop (mkF m 169 #[.val (.ref a0), .val (.int p1), .val (.int (x0 &&& (255 : Int32))), .val (.int (2 : Int32)), .val (.int lo), .val (.int hi), .val (.int (p1 + (2 : Int32))), .val (.int (1 : Int32)), .unset, .unset] []))
      refine Go.st (fun _ k => XS.iload X0.here hx rfl (hb hby d1_169) rfl k) ?_
      refine Go.st (fun _ k => XS.iconst X0.here hx rfl (hb hby d1_171) k) ?_
      show Go p e below _ (s₁.setTop (mkF m 172 #[.val (.ref a0), .val (.int p1), .val (.int (x0 &&& (255 : Int32))), .val (.int (2 : Int32)), .val (.int lo), .val (.int hi), .val (.int (p1 + (2 : Int32))), .val (.int (1 : Int32)), .unset, .unset] [(.int (-1 : Int32)), (.int (p1 + (2 : Int32)))]))
      refine Go.st (fun _ k => XS.icmpNo X0.here hx rfl (hb hby d1_172) rfl (feq (own_notm1 hs0 hs1 hs2 (by decide) (by decide))).1 k) ?_
      show Go p e below _ (s₁.setTop (mkF m 175 #[.val (.ref a0), .val (.int p1), .val (.int (x0 &&& (255 : Int32))), .val (.int (2 : Int32)), .val (.int lo), .val (.int hi), .val (.int (p1 + (2 : Int32))), .val (.int (1 : Int32)), .unset, .unset] []))
      refine Go.st (fun _ k => XS.aloadN X0.here hx rfl (hb hby d1_175) rfl rfl k) ?_
      refine Go.st (fun _ k => XS.iloadN X0.here hx rfl (hb hby d1_176) rfl k) ?_
      show Go p e below _ (s₁.setTop (mkF m 177 #[.val (.ref a0), .val (.int p1), .val (.int (x0 &&& (255 : Int32))), .val (.int (2 : Int32)), .val (.int lo), .val (.int hi), .val (.int (p1 + (2 : Int32))), .val (.int (1 : Int32)), .unset, .unset] [(.int p1), (.ref a0)]))
      refine Go.st (fun _ k => XS.iload X0.here hx rfl (hb hby d1_177) rfl k) ?_
      refine Go.st (fun _ k => XS.iadd X0.here hx rfl (hb hby d1_179) rfl k) ?_
      show Go p e below _ (s₁.setTop (mkF m 180 #[.val (.ref a0), .val (.int p1), .val (.int (x0 &&& (255 : Int32))), .val (.int (2 : Int32)), .val (.int lo), .val (.int hi), .val (.int (p1 + (2 : Int32))), .val (.int (1 : Int32)), .unset, .unset] [(.int (p1 + (1 : Int32))), (.ref a0)]))
      have hk4 : p1.toInt + 1 < z.toInt := own_room hs0 hs1 hs2 hc3 (by decide) (by decide)
      obtain ⟨cl5, Ar5, ck5, Sz5, Nn5, Hs5, Gs5⟩ := id V
      have hin5 : ¬ ((p1 + (1 : Int32)) < 0 ∨ cl5.slots.size ≤ ((p1 + (1 : Int32))).toNatClampNeg) := inb_of Sz5 (own_ink hs0 hs2 (k := (1 : Int32)) (by decide) (by decide) hk4)
      have hat5 : cl5.slots[((p1 + (1 : Int32))).toNatClampNeg]? = some (.int x1) := Hs5.at hin5 (he1 hk4)
      refine Go.st (fun _ k => X0.baloadBytes hx (j := (p1 + (1 : Int32))) (v := (.int x1)) (by rw [e0]; exact Ar5.1) (State.isArrayOf_alike hZ.alike Ar5.2.1) Ar5.2.2 hin5 hat5 (g := (mkF m 180 #[.val (.ref a0), .val (.int p1), .val (.int (x0 &&& (255 : Int32))), .val (.int (2 : Int32)), .val (.int lo), .val (.int hi), .val (.int (p1 + (2 : Int32))), .val (.int (1 : Int32)), .unset, .unset] [(.int (p1 + (1 : Int32))), (.ref a0)])) rfl rfl (hb hby d1_180) _ k) ?_
      show Go p e below _ (s₁.setTop (mkF m 181 #[.val (.ref a0), .val (.int p1), .val (.int (x0 &&& (255 : Int32))), .val (.int (2 : Int32)), .val (.int lo), .val (.int hi), .val (.int (p1 + (2 : Int32))), .val (.int (1 : Int32)), .unset, .unset] [(.int x1)]))
      refine Go.st (fun _ k => XS.sipush X0.here hx rfl (hb hby d1_181) k) ?_
      refine Go.st (fun _ k => XS.iand X0.here hx rfl (hb hby d1_184) rfl k) ?_
      show Go p e below _ (s₁.setTop (mkF m 185 #[.val (.ref a0), .val (.int p1), .val (.int (x0 &&& (255 : Int32))), .val (.int (2 : Int32)), .val (.int lo), .val (.int hi), .val (.int (p1 + (2 : Int32))), .val (.int (1 : Int32)), .unset, .unset] [(.int (x1 &&& (255 : Int32)))]))
      refine Go.st (fun _ k => XS.istore X0.here hx rfl (hb hby d1_185) rfl (l' := #[.val (.ref a0), .val (.int p1), .val (.int (x0 &&& (255 : Int32))), .val (.int (2 : Int32)), .val (.int lo), .val (.int hi), .val (.int (p1 + (2 : Int32))), .val (.int (1 : Int32)), .val (.int (x1 &&& (255 : Int32))), .unset]) rfl k) ?_
      show Go p e below _ (s₁.setTop (mkF m 187 #[.val (.ref a0), .val (.int p1), .val (.int (x0 &&& (255 : Int32))), .val (.int (2 : Int32)), .val (.int lo), .val (.int hi), .val (.int (p1 + (2 : Int32))), .val (.int (1 : Int32)), .val (.int (x1 &&& (255 : Int32))), .unset] []))
      refine Go.st (fun _ k => XS.iload X0.here hx rfl (hb hby d1_187) rfl k) ?_
      refine Go.st (fun _ k => XS.iconst X0.here hx rfl (hb hby d1_189) k) ?_
      show Go p e below _ (s₁.setTop (mkF m 190 #[.val (.ref a0), .val (.int p1), .val (.int (x0 &&& (255 : Int32))), .val (.int (2 : Int32)), .val (.int lo), .val (.int hi), .val (.int (p1 + (2 : Int32))), .val (.int (1 : Int32)), .val (.int (x1 &&& (255 : Int32))), .unset] [(.int (1 : Int32)), (.int (1 : Int32))]))
      refine Go.st (fun _ k => XS.icmpNo X0.here hx rfl (hb hby d1_190) rfl (teq (by decide : ((1 : Int32) = (1 : Int32)))).2 k) ?_
      show Go p e below _ (s₁.setTop (mkF m 193 #[.val (.ref a0), .val (.int p1), .val (.int (x0 &&& (255 : Int32))), .val (.int (2 : Int32)), .val (.int lo), .val (.int hi), .val (.int (p1 + (2 : Int32))), .val (.int (1 : Int32)), .val (.int (x1 &&& (255 : Int32))), .unset] []))
      refine Go.st (fun _ k => XS.iconst X0.here hx rfl (hb hby d1_193) k) ?_
      refine Go.st (fun _ k => XS.goto X0.here hx rfl (pc0 := 194) (pc' := 198) rfl (hb hby d1_194) (by decide) (by decide) k) ?_
      show Go p e below _ (s₁.setTop (mkF m 198 #[.val (.ref a0), .val (.int p1), .val (.int (x0 &&& (255 : Int32))), .val (.int (2 : Int32)), .val (.int lo), .val (.int hi), .val (.int (p1 + (2 : Int32))), .val (.int (1 : Int32)), .val (.int (x1 &&& (255 : Int32))), .unset] [(.int (1 : Int32))]))
      refine Go.st (fun _ k => XS.istore X0.here hx rfl (hb hby d1_198) rfl (l' := #[.val (.ref a0), .val (.int p1), .val (.int (x0 &&& (255 : Int32))), .val (.int (2 : Int32)), .val (.int lo), .val (.int hi), .val (.int (p1 + (2 : Int32))), .val (.int (1 : Int32)), .val (.int (x1 &&& (255 : Int32))), .val (.int (1 : Int32))]) rfl k) ?_
      show Go p e below _ (s₁.setTop (mkF m 200 #[.val (.ref a0), .val (.int p1), .val (.int (x0 &&& (255 : Int32))), .val (.int (2 : Int32)), .val (.int lo), .val (.int hi), .val (.int (p1 + (2 : Int32))), .val (.int (1 : Int32)), .val (.int (x1 &&& (255 : Int32))), .val (.int (1 : Int32))] []))
      refine Go.st (fun _ k => XS.iload X0.here hx rfl (hb hby d1_200) rfl k) ?_
      refine Go.st (fun _ k => XS.iload X0.here hx rfl (hb hby d1_202) rfl k) ?_
      show Go p e below _ (s₁.setTop (mkF m 204 #[.val (.ref a0), .val (.int p1), .val (.int (x0 &&& (255 : Int32))), .val (.int (2 : Int32)), .val (.int lo), .val (.int hi), .val (.int (p1 + (2 : Int32))), .val (.int (1 : Int32)), .val (.int (x1 &&& (255 : Int32))), .val (.int (1 : Int32))] [(.int (1 : Int32)), (.int (x1 &&& (255 : Int32)))]))
      refine Go.st (fun _ k => XS.ifNo X0.here hx rfl (hb hby d1_204) rfl ((if0 _ _).trans (feq (by decide : ¬ ((1 : Int32) = (0 : Int32)))).1) k) ?_
      show Go p e below _ (s₁.setTop (mkF m 207 #[.val (.ref a0), .val (.int p1), .val (.int (x0 &&& (255 : Int32))), .val (.int (2 : Int32)), .val (.int lo), .val (.int hi), .val (.int (p1 + (2 : Int32))), .val (.int (1 : Int32)), .val (.int (x1 &&& (255 : Int32))), .val (.int (1 : Int32))] [(.int (x1 &&& (255 : Int32)))]))
      refine Go.st (fun _ k => XS.iload X0.here hx rfl (hb hby d1_207) rfl k) ?_
      refine Go.st (fun _ k => XS.goto X0.here hx rfl (pc0 := 209) (pc' := 215) rfl (hb hby d1_209) (by decide) (by decide) k) ?_
      show Go p e below _ (s₁.setTop (mkF m 215 #[.val (.ref a0), .val (.int p1), .val (.int (x0 &&& (255 : Int32))), .val (.int (2 : Int32)), .val (.int lo), .val (.int hi), .val (.int (p1 + (2 : Int32))), .val (.int (1 : Int32)), .val (.int (x1 &&& (255 : Int32))), .val (.int (1 : Int32))] [(.int lo), (.int (x1 &&& (255 : Int32)))]))
      by_cases hc6 : (x1 &&& (255 : Int32)) < lo
      · show Go p e below _ (s₁.setTop (mkF m 215 #[.val (.ref a0), .val (.int p1), .val (.int (x0 &&& (255 : Int32))), .val (.int (2 : Int32)), .val (.int lo), .val (.int hi), .val (.int (p1 + (2 : Int32))), .val (.int (1 : Int32)), .val (.int (x1 &&& (255 : Int32))), .val (.int (1 : Int32))] [(.int lo), (.int (x1 &&& (255 : Int32)))]))
        refine Go.st (fun _ k => XS.icmpYes X0.here hx rfl (pc0 := 215) (pc' := 236) rfl (hb hby d1_215) rfl (tlt hc6).1 (by decide) (by decide) k) ?_
        show Go p e below _ (s₁.setTop (mkF m 236 #[.val (.ref a0), .val (.int p1), .val (.int (x0 &&& (255 : Int32))), .val (.int (2 : Int32)), .val (.int lo), .val (.int hi), .val (.int (p1 + (2 : Int32))), .val (.int (1 : Int32)), .val (.int (x1 &&& (255 : Int32))), .val (.int (1 : Int32))] []))
        refine Go.st (fun _ k => XS.iconst X0.here hx rfl (hb hby d1_236) k) ?_
        refine Go.st (fun _ k => XS.istore X0.here hx rfl (hb hby d1_237) rfl (l' := #[.val (.ref a0), .val (.int p1), .val (.int (x0 &&& (255 : Int32))), .val (.int (2 : Int32)), .val (.int lo), .val (.int hi), .val (.int (-1 : Int32)), .val (.int (1 : Int32)), .val (.int (x1 &&& (255 : Int32))), .val (.int (1 : Int32))]) rfl k) ?_
        show Go p e below _ (s₁.setTop (mkF m 239 #[.val (.ref a0), .val (.int p1), .val (.int (x0 &&& (255 : Int32))), .val (.int (2 : Int32)), .val (.int lo), .val (.int hi), .val (.int (-1 : Int32)), .val (.int (1 : Int32)), .val (.int (x1 &&& (255 : Int32))), .val (.int (1 : Int32))] []))
        refine Go.st (fun _ k => XS.iinc X0.here hx rfl (hb hby d1_239) rfl (l' := #[.val (.ref a0), .val (.int p1), .val (.int (x0 &&& (255 : Int32))), .val (.int (2 : Int32)), .val (.int lo), .val (.int hi), .val (.int (-1 : Int32)), .val (.int (2 : Int32)), .val (.int (x1 &&& (255 : Int32))), .val (.int (1 : Int32))]) rfl k) ?_
        show Go p e below _ (s₁.setTop (mkF m 242 #[.val (.ref a0), .val (.int p1), .val (.int (x0 &&& (255 : Int32))), .val (.int (2 : Int32)), .val (.int lo), .val (.int hi), .val (.int (-1 : Int32)), .val (.int (2 : Int32)), .val (.int (x1 &&& (255 : Int32))), .val (.int (1 : Int32))] []))
        refine Go.st (fun _ k => XS.goto X0.here hx rfl (pc0 := 242) (pc' := 163) rfl (hb hby d1_242) (by decide) (by decide) k) ?_
        show Go p e below _ (s₁.setTop (mkF m 163 #[.val (.ref a0), .val (.int p1), .val (.int (x0 &&& (255 : Int32))), .val (.int (2 : Int32)), .val (.int lo), .val (.int hi), .val (.int (-1 : Int32)), .val (.int (2 : Int32)), .val (.int (x1 &&& (255 : Int32))), .val (.int (1 : Int32))] []))
        refine Go.st (fun _ k => XS.iload X0.here hx rfl (hb hby d1_163) rfl k) ?_
        refine Go.st (fun _ k => XS.iloadN X0.here hx rfl (hb hby d1_165) rfl k) ?_
        show Go p e below _ (s₁.setTop (mkF m 166 #[.val (.ref a0), .val (.int p1), .val (.int (x0 &&& (255 : Int32))), .val (.int (2 : Int32)), .val (.int lo), .val (.int hi), .val (.int (-1 : Int32)), .val (.int (2 : Int32)), .val (.int (x1 &&& (255 : Int32))), .val (.int (1 : Int32))] [(.int (2 : Int32)), (.int (2 : Int32))]))
        refine Go.st (fun _ k => XS.icmpYes X0.here hx rfl (pc0 := 166) (pc' := 245) rfl (hb hby d1_166) rfl (flt (by decide : ¬ ((2 : Int32) < (2 : Int32)))).2.1 (by decide) (by decide) k) ?_
        show Go p e below _ (s₁.setTop (mkF m 245 #[.val (.ref a0), .val (.int p1), .val (.int (x0 &&& (255 : Int32))), .val (.int (2 : Int32)), .val (.int lo), .val (.int hi), .val (.int (-1 : Int32)), .val (.int (2 : Int32)), .val (.int (x1 &&& (255 : Int32))), .val (.int (1 : Int32))] []))
        refine Go.st (fun _ k => XS.iload X0.here hx rfl (hb hby d1_245) rfl k) ?_
        obtain ⟨fs, hr, hrun, hended, hW, hsame⟩ := X0.leave (v := some (.int (-1 : Int32))) (fun h => by rw [Bd.returns] at h; cases h)
        refine ⟨_, _, retI X0 hx Bd.returns (hb hby d1_247) hr, hrun, hended, _, _, rfl, ?_, ⟨_, rfl⟩, hW, hsame.mono (by decide) (by decide)⟩
        show Q_rmCE Z x0 x1 x2 x3 a0 p1 kk z vs h0 n0 _ s₁.heap _
        rw [e0]
        refine ⟨?_, N0, rfl⟩
        rw [hj]
        unfold fT2
        rw [if_neg hc3, if_pos hc6]
      · show Go p e below _ (s₁.setTop (mkF m 215 #[.val (.ref a0), .val (.int p1), .val (.int (x0 &&& (255 : Int32))), .val (.int (2 : Int32)), .val (.int lo), .val (.int hi), .val (.int (p1 + (2 : Int32))), .val (.int (1 : Int32)), .val (.int (x1 &&& (255 : Int32))), .val (.int (1 : Int32))] [(.int lo), (.int (x1 &&& (255 : Int32)))]))
        refine Go.st (fun _ k => XS.icmpNo X0.here hx rfl (hb hby d1_215) rfl (flt hc6).1 k) ?_
        show Go p e below _ (s₁.setTop (mkF m 218 #[.val (.ref a0), .val (.int p1), .val (.int (x0 &&& (255 : Int32))), .val (.int (2 : Int32)), .val (.int lo), .val (.int hi), .val (.int (p1 + (2 : Int32))), .val (.int (1 : Int32)), .val (.int (x1 &&& (255 : Int32))), .val (.int (1 : Int32))] []))
        refine Go.st (fun _ k => XS.iload X0.here hx rfl (hb hby d1_218) rfl k) ?_
        refine Go.st (fun _ k => XS.iload X0.here hx rfl (hb hby d1_220) rfl k) ?_
        show Go p e below _ (s₁.setTop (mkF m 222 #[.val (.ref a0), .val (.int p1), .val (.int (x0 &&& (255 : Int32))), .val (.int (2 : Int32)), .val (.int lo), .val (.int hi), .val (.int (p1 + (2 : Int32))), .val (.int (1 : Int32)), .val (.int (x1 &&& (255 : Int32))), .val (.int (1 : Int32))] [(.int (1 : Int32)), (.int (x1 &&& (255 : Int32)))]))
        refine Go.st (fun _ k => XS.ifNo X0.here hx rfl (hb hby d1_222) rfl ((if0 _ _).trans (feq (by decide : ¬ ((1 : Int32) = (0 : Int32)))).1) k) ?_
        show Go p e below _ (s₁.setTop (mkF m 225 #[.val (.ref a0), .val (.int p1), .val (.int (x0 &&& (255 : Int32))), .val (.int (2 : Int32)), .val (.int lo), .val (.int hi), .val (.int (p1 + (2 : Int32))), .val (.int (1 : Int32)), .val (.int (x1 &&& (255 : Int32))), .val (.int (1 : Int32))] [(.int (x1 &&& (255 : Int32)))]))
        refine Go.st (fun _ k => XS.iload X0.here hx rfl (hb hby d1_225) rfl k) ?_
        refine Go.st (fun _ k => XS.goto X0.here hx rfl (pc0 := 227) (pc' := 233) rfl (hb hby d1_227) (by decide) (by decide) k) ?_
        show Go p e below _ (s₁.setTop (mkF m 233 #[.val (.ref a0), .val (.int p1), .val (.int (x0 &&& (255 : Int32))), .val (.int (2 : Int32)), .val (.int lo), .val (.int hi), .val (.int (p1 + (2 : Int32))), .val (.int (1 : Int32)), .val (.int (x1 &&& (255 : Int32))), .val (.int (1 : Int32))] [(.int hi), (.int (x1 &&& (255 : Int32)))]))
        by_cases hc7 : hi < (x1 &&& (255 : Int32))
        · show Go p e below _ (s₁.setTop (mkF m 233 #[.val (.ref a0), .val (.int p1), .val (.int (x0 &&& (255 : Int32))), .val (.int (2 : Int32)), .val (.int lo), .val (.int hi), .val (.int (p1 + (2 : Int32))), .val (.int (1 : Int32)), .val (.int (x1 &&& (255 : Int32))), .val (.int (1 : Int32))] [(.int hi), (.int (x1 &&& (255 : Int32)))]))
          refine Go.st (fun _ k => XS.icmpNo X0.here hx rfl (hb hby d1_233) rfl (tlt hc7).2.2.2 k) ?_
          show Go p e below _ (s₁.setTop (mkF m 236 #[.val (.ref a0), .val (.int p1), .val (.int (x0 &&& (255 : Int32))), .val (.int (2 : Int32)), .val (.int lo), .val (.int hi), .val (.int (p1 + (2 : Int32))), .val (.int (1 : Int32)), .val (.int (x1 &&& (255 : Int32))), .val (.int (1 : Int32))] []))
          refine Go.st (fun _ k => XS.iconst X0.here hx rfl (hb hby d1_236) k) ?_
          refine Go.st (fun _ k => XS.istore X0.here hx rfl (hb hby d1_237) rfl (l' := #[.val (.ref a0), .val (.int p1), .val (.int (x0 &&& (255 : Int32))), .val (.int (2 : Int32)), .val (.int lo), .val (.int hi), .val (.int (-1 : Int32)), .val (.int (1 : Int32)), .val (.int (x1 &&& (255 : Int32))), .val (.int (1 : Int32))]) rfl k) ?_
          show Go p e below _ (s₁.setTop (mkF m 239 #[.val (.ref a0), .val (.int p1), .val (.int (x0 &&& (255 : Int32))), .val (.int (2 : Int32)), .val (.int lo), .val (.int hi), .val (.int (-1 : Int32)), .val (.int (1 : Int32)), .val (.int (x1 &&& (255 : Int32))), .val (.int (1 : Int32))] []))
          refine Go.st (fun _ k => XS.iinc X0.here hx rfl (hb hby d1_239) rfl (l' := #[.val (.ref a0), .val (.int p1), .val (.int (x0 &&& (255 : Int32))), .val (.int (2 : Int32)), .val (.int lo), .val (.int hi), .val (.int (-1 : Int32)), .val (.int (2 : Int32)), .val (.int (x1 &&& (255 : Int32))), .val (.int (1 : Int32))]) rfl k) ?_
          show Go p e below _ (s₁.setTop (mkF m 242 #[.val (.ref a0), .val (.int p1), .val (.int (x0 &&& (255 : Int32))), .val (.int (2 : Int32)), .val (.int lo), .val (.int hi), .val (.int (-1 : Int32)), .val (.int (2 : Int32)), .val (.int (x1 &&& (255 : Int32))), .val (.int (1 : Int32))] []))
          refine Go.st (fun _ k => XS.goto X0.here hx rfl (pc0 := 242) (pc' := 163) rfl (hb hby d1_242) (by decide) (by decide) k) ?_
          show Go p e below _ (s₁.setTop (mkF m 163 #[.val (.ref a0), .val (.int p1), .val (.int (x0 &&& (255 : Int32))), .val (.int (2 : Int32)), .val (.int lo), .val (.int hi), .val (.int (-1 : Int32)), .val (.int (2 : Int32)), .val (.int (x1 &&& (255 : Int32))), .val (.int (1 : Int32))] []))
          refine Go.st (fun _ k => XS.iload X0.here hx rfl (hb hby d1_163) rfl k) ?_
          refine Go.st (fun _ k => XS.iloadN X0.here hx rfl (hb hby d1_165) rfl k) ?_
          show Go p e below _ (s₁.setTop (mkF m 166 #[.val (.ref a0), .val (.int p1), .val (.int (x0 &&& (255 : Int32))), .val (.int (2 : Int32)), .val (.int lo), .val (.int hi), .val (.int (-1 : Int32)), .val (.int (2 : Int32)), .val (.int (x1 &&& (255 : Int32))), .val (.int (1 : Int32))] [(.int (2 : Int32)), (.int (2 : Int32))]))
          refine Go.st (fun _ k => XS.icmpYes X0.here hx rfl (pc0 := 166) (pc' := 245) rfl (hb hby d1_166) rfl (flt (by decide : ¬ ((2 : Int32) < (2 : Int32)))).2.1 (by decide) (by decide) k) ?_
          show Go p e below _ (s₁.setTop (mkF m 245 #[.val (.ref a0), .val (.int p1), .val (.int (x0 &&& (255 : Int32))), .val (.int (2 : Int32)), .val (.int lo), .val (.int hi), .val (.int (-1 : Int32)), .val (.int (2 : Int32)), .val (.int (x1 &&& (255 : Int32))), .val (.int (1 : Int32))] []))
          refine Go.st (fun _ k => XS.iload X0.here hx rfl (hb hby d1_245) rfl k) ?_
          obtain ⟨fs, hr, hrun, hended, hW, hsame⟩ := X0.leave (v := some (.int (-1 : Int32))) (fun h => by rw [Bd.returns] at h; cases h)
          refine ⟨_, _, retI X0 hx Bd.returns (hb hby d1_247) hr, hrun, hended, _, _, rfl, ?_, ⟨_, rfl⟩, hW, hsame.mono (by decide) (by decide)⟩
          show Q_rmCE Z x0 x1 x2 x3 a0 p1 kk z vs h0 n0 _ s₁.heap _
          rw [e0]
          refine ⟨?_, N0, rfl⟩
          rw [hj]
          unfold fT2
          rw [if_neg hc3, if_neg hc6, if_pos hc7]
        · show Go p e below _ (s₁.setTop (mkF m 233 #[.val (.ref a0), .val (.int p1), .val (.int (x0 &&& (255 : Int32))), .val (.int (2 : Int32)), .val (.int lo), .val (.int hi), .val (.int (p1 + (2 : Int32))), .val (.int (1 : Int32)), .val (.int (x1 &&& (255 : Int32))), .val (.int (1 : Int32))] [(.int hi), (.int (x1 &&& (255 : Int32)))]))
          refine Go.st (fun _ k => XS.icmpYes X0.here hx rfl (pc0 := 233) (pc' := 239) rfl (hb hby d1_233) rfl (flt hc7).2.2.2 (by decide) (by decide) k) ?_
          show Go p e below _ (s₁.setTop (mkF m 239 #[.val (.ref a0), .val (.int p1), .val (.int (x0 &&& (255 : Int32))), .val (.int (2 : Int32)), .val (.int lo), .val (.int hi), .val (.int (p1 + (2 : Int32))), .val (.int (1 : Int32)), .val (.int (x1 &&& (255 : Int32))), .val (.int (1 : Int32))] []))
          refine Go.st (fun _ k => XS.iinc X0.here hx rfl (hb hby d1_239) rfl (l' := #[.val (.ref a0), .val (.int p1), .val (.int (x0 &&& (255 : Int32))), .val (.int (2 : Int32)), .val (.int lo), .val (.int hi), .val (.int (p1 + (2 : Int32))), .val (.int (2 : Int32)), .val (.int (x1 &&& (255 : Int32))), .val (.int (1 : Int32))]) rfl k) ?_
          show Go p e below _ (s₁.setTop (mkF m 242 #[.val (.ref a0), .val (.int p1), .val (.int (x0 &&& (255 : Int32))), .val (.int (2 : Int32)), .val (.int lo), .val (.int hi), .val (.int (p1 + (2 : Int32))), .val (.int (2 : Int32)), .val (.int (x1 &&& (255 : Int32))), .val (.int (1 : Int32))] []))
          refine Go.st (fun _ k => XS.goto X0.here hx rfl (pc0 := 242) (pc' := 163) rfl (hb hby d1_242) (by decide) (by decide) k) ?_
          show Go p e below _ (s₁.setTop (mkF m 163 #[.val (.ref a0), .val (.int p1), .val (.int (x0 &&& (255 : Int32))), .val (.int (2 : Int32)), .val (.int lo), .val (.int hi), .val (.int (p1 + (2 : Int32))), .val (.int (2 : Int32)), .val (.int (x1 &&& (255 : Int32))), .val (.int (1 : Int32))] []))
          refine Go.st (fun _ k => XS.iload X0.here hx rfl (hb hby d1_163) rfl k) ?_
          refine Go.st (fun _ k => XS.iloadN X0.here hx rfl (hb hby d1_165) rfl k) ?_
          show Go p e below _ (s₁.setTop (mkF m 166 #[.val (.ref a0), .val (.int p1), .val (.int (x0 &&& (255 : Int32))), .val (.int (2 : Int32)), .val (.int lo), .val (.int hi), .val (.int (p1 + (2 : Int32))), .val (.int (2 : Int32)), .val (.int (x1 &&& (255 : Int32))), .val (.int (1 : Int32))] [(.int (2 : Int32)), (.int (2 : Int32))]))
          refine Go.st (fun _ k => XS.icmpYes X0.here hx rfl (pc0 := 166) (pc' := 245) rfl (hb hby d1_166) rfl (flt (by decide : ¬ ((2 : Int32) < (2 : Int32)))).2.1 (by decide) (by decide) k) ?_
          show Go p e below _ (s₁.setTop (mkF m 245 #[.val (.ref a0), .val (.int p1), .val (.int (x0 &&& (255 : Int32))), .val (.int (2 : Int32)), .val (.int lo), .val (.int hi), .val (.int (p1 + (2 : Int32))), .val (.int (2 : Int32)), .val (.int (x1 &&& (255 : Int32))), .val (.int (1 : Int32))] []))
          refine Go.st (fun _ k => XS.iload X0.here hx rfl (hb hby d1_245) rfl k) ?_
          obtain ⟨fs, hr, hrun, hended, hW, hsame⟩ := X0.leave (v := some (.int (p1 + (2 : Int32)))) (fun h => by rw [Bd.returns] at h; cases h)
          refine ⟨_, _, retI X0 hx Bd.returns (hb hby d1_247) hr, hrun, hended, _, _, rfl, ?_, ⟨_, rfl⟩, hW, hsame.mono (by decide) (by decide)⟩
          show Q_rmCE Z x0 x1 x2 x3 a0 p1 kk z vs h0 n0 _ s₁.heap _
          rw [e0]
          refine ⟨?_, N0, rfl⟩
          rw [hj]
          unfold fT2
          rw [if_neg hc3, if_neg hc6, if_neg hc7]
  have key3 : ∀ (lo : Int32) (hi : Int32), (fCE x0 x1 x2 x3 p1 z = fT3 lo hi x0 x1 x2 x3 p1 z) → Go p e below (F_rmCE Z x0 x1 x2 x3 a0 p1 kk z vs h0 n0 s) (s₁.setTop (mkF m 145 #[.val (.ref a0), .val (.int p1), .val (.int (x0 &&& (255 : Int32))), .val (.int (3 : Int32)), .val (.int lo), .val (.int hi), .unset, .unset, .unset, .unset] [])) := by
    intro lo hi hj
    show Go p e below _ (s₁.setTop (mkF m 145 #[.val (.ref a0), .val (.int p1), .val (.int (x0 &&& (255 : Int32))), .val (.int (3 : Int32)), .val (.int lo), .val (.int hi), .unset, .unset, .unset, .unset] []))
    refine Go.st (fun _ k => XS.aloadN X0.here hx rfl (hb hby d1_145) rfl rfl k) ?_
    show Go p e below _ (s₁.setTop (mkF m 146 #[.val (.ref a0), .val (.int p1), .val (.int (x0 &&& (255 : Int32))), .val (.int (3 : Int32)), .val (.int lo), .val (.int hi), .unset, .unset, .unset, .unset] [(.ref a0)]))
    obtain ⟨cl8, Ar8, ck8, Sz8, Nn8, Hs8, Gs8⟩ := id V
    refine Go.st (fun _ k => X0.arraylength hx (by rw [e0]; exact Ar8.1) (State.isArrayOf_alike hZ.alike Ar8.2.1) (g := (mkF m 146 #[.val (.ref a0), .val (.int p1), .val (.int (x0 &&& (255 : Int32))), .val (.int (3 : Int32)), .val (.int lo), .val (.int hi), .unset, .unset, .unset, .unset] [(.ref a0)])) rfl rfl (hb hby d1_146) _ k) ?_
    rw [len_of Sz8 Nn8]
    show Go p e below _ (s₁.setTop (mkF m 147 #[.val (.ref a0), .val (.int p1), .val (.int (x0 &&& (255 : Int32))), .val (.int (3 : Int32)), .val (.int lo), .val (.int hi), .unset, .unset, .unset, .unset] [(.int z)]))
    refine Go.st (fun _ k => XS.iloadN X0.here hx rfl (hb hby d1_147) rfl k) ?_
    refine Go.st (fun _ k => XS.isub X0.here hx rfl (hb hby d1_148) rfl k) ?_
    show Go p e below _ (s₁.setTop (mkF m 149 #[.val (.ref a0), .val (.int p1), .val (.int (x0 &&& (255 : Int32))), .val (.int (3 : Int32)), .val (.int lo), .val (.int hi), .unset, .unset, .unset, .unset] [(.int (z - p1))]))
    refine Go.st (fun _ k => XS.iloadN X0.here hx rfl (hb hby d1_149) rfl k) ?_
    by_cases hc9 : (z - p1) < (3 : Int32)
    · show Go p e below _ (s₁.setTop (mkF m 150 #[.val (.ref a0), .val (.int p1), .val (.int (x0 &&& (255 : Int32))), .val (.int (3 : Int32)), .val (.int lo), .val (.int hi), .unset, .unset, .unset, .unset] [(.int (3 : Int32)), (.int (z - p1))]))
      refine Go.st (fun _ k => XS.icmpNo X0.here hx rfl (hb hby d1_150) rfl (tlt hc9).2.1 k) ?_
      show Go p e below _ (s₁.setTop (mkF m 153 #[.val (.ref a0), .val (.int p1), .val (.int (x0 &&& (255 : Int32))), .val (.int (3 : Int32)), .val (.int lo), .val (.int hi), .unset, .unset, .unset, .unset] []))
      refine Go.st (fun _ k => XS.iconst X0.here hx rfl (hb hby d1_153) k) ?_
      obtain ⟨fs, hr, hrun, hended, hW, hsame⟩ := X0.leave (v := some (.int (-1 : Int32))) (fun h => by rw [Bd.returns] at h; cases h)
      refine ⟨_, _, retI X0 hx Bd.returns (hb hby d1_154) hr, hrun, hended, _, _, rfl, ?_, ⟨_, rfl⟩, hW, hsame.mono (by decide) (by decide)⟩
      show Q_rmCE Z x0 x1 x2 x3 a0 p1 kk z vs h0 n0 _ s₁.heap _
      rw [e0]
      refine ⟨?_, N0, rfl⟩
      rw [hj]
      unfold fT3
      rw [if_pos hc9]
    · show Go p e below _ (s₁.setTop (mkF m 150 #[.val (.ref a0), .val (.int p1), .val (.int (x0 &&& (255 : Int32))), .val (.int (3 : Int32)), .val (.int lo), .val (.int hi), .unset, .unset, .unset, .unset] [(.int (3 : Int32)), (.int (z - p1))]))
      refine Go.st (fun _ k => XS.icmpYes X0.here hx rfl (pc0 := 150) (pc' := 155) rfl (hb hby d1_150) rfl (flt hc9).2.1 (by decide) (by decide) k) ?_
      show Go p e below _ (s₁.setTop (mkF m 155 #[.val (.ref a0), .val (.int p1), .val (.int (x0 &&& (255 : Int32))), .val (.int (3 : Int32)), .val (.int lo), .val (.int hi), .unset, .unset, .unset, .unset] []))
      refine Go.st (fun _ k => XS.iloadN X0.here hx rfl (hb hby d1_155) rfl k) ?_
      refine Go.st (fun _ k => XS.iloadN X0.here hx rfl (hb hby d1_156) rfl k) ?_
      show Go p e below _ (s₁.setTop (mkF m 157 #[.val (.ref a0), .val (.int p1), .val (.int (x0 &&& (255 : Int32))), .val (.int (3 : Int32)), .val (.int lo), .val (.int hi), .unset, .unset, .unset, .unset] [(.int (3 : Int32)), (.int p1)]))
      refine Go.st (fun _ k => XS.iadd X0.here hx rfl (hb hby d1_157) rfl k) ?_
      refine Go.st (fun _ k => XS.istore X0.here hx rfl (hb hby d1_158) rfl (l' := #[.val (.ref a0), .val (.int p1), .val (.int (x0 &&& (255 : Int32))), .val (.int (3 : Int32)), .val (.int lo), .val (.int hi), .val (.int (p1 + (3 : Int32))), .unset, .unset, .unset]) rfl k) ?_
      show Go p e below _ (s₁.setTop (mkF m 160 #[.val (.ref a0), .val (.int p1), .val (.int (x0 &&& (255 : Int32))), .val (.int (3 : Int32)), .val (.int lo), .val (.int hi), .val (.int (p1 + (3 : Int32))), .unset, .unset, .unset] []))
      refine Go.st (fun _ k => XS.iconst X0.here hx rfl (hb hby d1_160) k) ?_
      refine Go.st (fun _ k => XS.istore X0.here hx rfl (hb hby d1_161) rfl (l' := #[.val (.ref a0), .val (.int p1), .val (.int (x0 &&& (255 : Int32))), .val (.int (3 : Int32)), .val (.int lo), .val (.int hi), .val (.int (p1 + (3 : Int32))), .val (.int (1 : Int32)), .unset, .unset]) rfl k) ?_
      show Go p e below _ (s₁.setTop (mkF m 163 #[.val (.ref a0), .val (.int p1), .val (.int (x0 &&& (255 : Int32))), .val (.int (3 : Int32)), .val (.int lo), .val (.int hi), .val (.int (p1 + (3 : Int32))), .val (.int (1 : Int32)), .unset, .unset] []))
      refine Go.st (fun _ k => XS.iload X0.here hx rfl (hb hby d1_163) rfl k) ?_
      refine Go.st (fun _ k => XS.iloadN X0.here hx rfl (hb hby d1_165) rfl k) ?_
      show Go p e below _ (s₁.setTop (mkF m 166 #[.val (.ref a0), .val (.int p1), .val (.int (x0 &&& (255 : Int32))), .val (.int (3 : Int32)), .val (.int lo), .val (.int hi), .val (.int (p1 + (3 : Int32))), .val (.int (1 : Int32)), .unset, .unset] [(.int (3 : Int32)), (.int (1 : Int32))]))
      refine Go.st (fun _ k => XS.icmpNo X0.here hx rfl (hb hby d1_166) rfl (tlt (by decide : ((1 : Int32) < (3 : Int32)))).2.1 k) ?_
      show Go p e below _ (s₁.setTop (mkF m 169 #[.val (.ref a0), .val (.int p1), .val (.int (x0 &&& (255 : Int32))), .val (.int (3 : Int32)), .val (.int lo), .val (.int hi), .val (.int (p1 + (3 : Int32))), .val (.int (1 : Int32)), .unset, .unset] []))
      refine Go.st (fun _ k => XS.iload X0.here hx rfl (hb hby d1_169) rfl k) ?_
      refine Go.st (fun _ k => XS.iconst X0.here hx rfl (hb hby d1_171) k) ?_
      show Go p e below _ (s₁.setTop (mkF m 172 #[.val (.ref a0), .val (.int p1), .val (.int (x0 &&& (255 : Int32))), .val (.int (3 : Int32)), .val (.int lo), .val (.int hi), .val (.int (p1 + (3 : Int32))), .val (.int (1 : Int32)), .unset, .unset] [(.int (-1 : Int32)), (.int (p1 + (3 : Int32)))]))
      refine Go.st (fun _ k => XS.icmpNo X0.here hx rfl (hb hby d1_172) rfl (feq (own_notm1 hs0 hs1 hs2 (by decide) (by decide))).1 k) ?_
      show Go p e below _ (s₁.setTop (mkF m 175 #[.val (.ref a0), .val (.int p1), .val (.int (x0 &&& (255 : Int32))), .val (.int (3 : Int32)), .val (.int lo), .val (.int hi), .val (.int (p1 + (3 : Int32))), .val (.int (1 : Int32)), .unset, .unset] []))
      refine Go.st (fun _ k => XS.aloadN X0.here hx rfl (hb hby d1_175) rfl rfl k) ?_
      refine Go.st (fun _ k => XS.iloadN X0.here hx rfl (hb hby d1_176) rfl k) ?_
      show Go p e below _ (s₁.setTop (mkF m 177 #[.val (.ref a0), .val (.int p1), .val (.int (x0 &&& (255 : Int32))), .val (.int (3 : Int32)), .val (.int lo), .val (.int hi), .val (.int (p1 + (3 : Int32))), .val (.int (1 : Int32)), .unset, .unset] [(.int p1), (.ref a0)]))
      refine Go.st (fun _ k => XS.iload X0.here hx rfl (hb hby d1_177) rfl k) ?_
      refine Go.st (fun _ k => XS.iadd X0.here hx rfl (hb hby d1_179) rfl k) ?_
      show Go p e below _ (s₁.setTop (mkF m 180 #[.val (.ref a0), .val (.int p1), .val (.int (x0 &&& (255 : Int32))), .val (.int (3 : Int32)), .val (.int lo), .val (.int hi), .val (.int (p1 + (3 : Int32))), .val (.int (1 : Int32)), .unset, .unset] [(.int (p1 + (1 : Int32))), (.ref a0)]))
      have hk10 : p1.toInt + 1 < z.toInt := own_room hs0 hs1 hs2 hc9 (by decide) (by decide)
      obtain ⟨cl11, Ar11, ck11, Sz11, Nn11, Hs11, Gs11⟩ := id V
      have hin11 : ¬ ((p1 + (1 : Int32)) < 0 ∨ cl11.slots.size ≤ ((p1 + (1 : Int32))).toNatClampNeg) := inb_of Sz11 (own_ink hs0 hs2 (k := (1 : Int32)) (by decide) (by decide) hk10)
      have hat11 : cl11.slots[((p1 + (1 : Int32))).toNatClampNeg]? = some (.int x1) := Hs11.at hin11 (he1 hk10)
      refine Go.st (fun _ k => X0.baloadBytes hx (j := (p1 + (1 : Int32))) (v := (.int x1)) (by rw [e0]; exact Ar11.1) (State.isArrayOf_alike hZ.alike Ar11.2.1) Ar11.2.2 hin11 hat11 (g := (mkF m 180 #[.val (.ref a0), .val (.int p1), .val (.int (x0 &&& (255 : Int32))), .val (.int (3 : Int32)), .val (.int lo), .val (.int hi), .val (.int (p1 + (3 : Int32))), .val (.int (1 : Int32)), .unset, .unset] [(.int (p1 + (1 : Int32))), (.ref a0)])) rfl rfl (hb hby d1_180) _ k) ?_
      show Go p e below _ (s₁.setTop (mkF m 181 #[.val (.ref a0), .val (.int p1), .val (.int (x0 &&& (255 : Int32))), .val (.int (3 : Int32)), .val (.int lo), .val (.int hi), .val (.int (p1 + (3 : Int32))), .val (.int (1 : Int32)), .unset, .unset] [(.int x1)]))
      refine Go.st (fun _ k => XS.sipush X0.here hx rfl (hb hby d1_181) k) ?_
      refine Go.st (fun _ k => XS.iand X0.here hx rfl (hb hby d1_184) rfl k) ?_
      show Go p e below _ (s₁.setTop (mkF m 185 #[.val (.ref a0), .val (.int p1), .val (.int (x0 &&& (255 : Int32))), .val (.int (3 : Int32)), .val (.int lo), .val (.int hi), .val (.int (p1 + (3 : Int32))), .val (.int (1 : Int32)), .unset, .unset] [(.int (x1 &&& (255 : Int32)))]))
      refine Go.st (fun _ k => XS.istore X0.here hx rfl (hb hby d1_185) rfl (l' := #[.val (.ref a0), .val (.int p1), .val (.int (x0 &&& (255 : Int32))), .val (.int (3 : Int32)), .val (.int lo), .val (.int hi), .val (.int (p1 + (3 : Int32))), .val (.int (1 : Int32)), .val (.int (x1 &&& (255 : Int32))), .unset]) rfl k) ?_
      show Go p e below _ (s₁.setTop (mkF m 187 #[.val (.ref a0), .val (.int p1), .val (.int (x0 &&& (255 : Int32))), .val (.int (3 : Int32)), .val (.int lo), .val (.int hi), .val (.int (p1 + (3 : Int32))), .val (.int (1 : Int32)), .val (.int (x1 &&& (255 : Int32))), .unset] []))
      refine Go.st (fun _ k => XS.iload X0.here hx rfl (hb hby d1_187) rfl k) ?_
      refine Go.st (fun _ k => XS.iconst X0.here hx rfl (hb hby d1_189) k) ?_
      show Go p e below _ (s₁.setTop (mkF m 190 #[.val (.ref a0), .val (.int p1), .val (.int (x0 &&& (255 : Int32))), .val (.int (3 : Int32)), .val (.int lo), .val (.int hi), .val (.int (p1 + (3 : Int32))), .val (.int (1 : Int32)), .val (.int (x1 &&& (255 : Int32))), .unset] [(.int (1 : Int32)), (.int (1 : Int32))]))
      refine Go.st (fun _ k => XS.icmpNo X0.here hx rfl (hb hby d1_190) rfl (teq (by decide : ((1 : Int32) = (1 : Int32)))).2 k) ?_
      show Go p e below _ (s₁.setTop (mkF m 193 #[.val (.ref a0), .val (.int p1), .val (.int (x0 &&& (255 : Int32))), .val (.int (3 : Int32)), .val (.int lo), .val (.int hi), .val (.int (p1 + (3 : Int32))), .val (.int (1 : Int32)), .val (.int (x1 &&& (255 : Int32))), .unset] []))
      refine Go.st (fun _ k => XS.iconst X0.here hx rfl (hb hby d1_193) k) ?_
      refine Go.st (fun _ k => XS.goto X0.here hx rfl (pc0 := 194) (pc' := 198) rfl (hb hby d1_194) (by decide) (by decide) k) ?_
      show Go p e below _ (s₁.setTop (mkF m 198 #[.val (.ref a0), .val (.int p1), .val (.int (x0 &&& (255 : Int32))), .val (.int (3 : Int32)), .val (.int lo), .val (.int hi), .val (.int (p1 + (3 : Int32))), .val (.int (1 : Int32)), .val (.int (x1 &&& (255 : Int32))), .unset] [(.int (1 : Int32))]))
      refine Go.st (fun _ k => XS.istore X0.here hx rfl (hb hby d1_198) rfl (l' := #[.val (.ref a0), .val (.int p1), .val (.int (x0 &&& (255 : Int32))), .val (.int (3 : Int32)), .val (.int lo), .val (.int hi), .val (.int (p1 + (3 : Int32))), .val (.int (1 : Int32)), .val (.int (x1 &&& (255 : Int32))), .val (.int (1 : Int32))]) rfl k) ?_
      show Go p e below _ (s₁.setTop (mkF m 200 #[.val (.ref a0), .val (.int p1), .val (.int (x0 &&& (255 : Int32))), .val (.int (3 : Int32)), .val (.int lo), .val (.int hi), .val (.int (p1 + (3 : Int32))), .val (.int (1 : Int32)), .val (.int (x1 &&& (255 : Int32))), .val (.int (1 : Int32))] []))
      refine Go.st (fun _ k => XS.iload X0.here hx rfl (hb hby d1_200) rfl k) ?_
      refine Go.st (fun _ k => XS.iload X0.here hx rfl (hb hby d1_202) rfl k) ?_
      show Go p e below _ (s₁.setTop (mkF m 204 #[.val (.ref a0), .val (.int p1), .val (.int (x0 &&& (255 : Int32))), .val (.int (3 : Int32)), .val (.int lo), .val (.int hi), .val (.int (p1 + (3 : Int32))), .val (.int (1 : Int32)), .val (.int (x1 &&& (255 : Int32))), .val (.int (1 : Int32))] [(.int (1 : Int32)), (.int (x1 &&& (255 : Int32)))]))
      refine Go.st (fun _ k => XS.ifNo X0.here hx rfl (hb hby d1_204) rfl ((if0 _ _).trans (feq (by decide : ¬ ((1 : Int32) = (0 : Int32)))).1) k) ?_
      show Go p e below _ (s₁.setTop (mkF m 207 #[.val (.ref a0), .val (.int p1), .val (.int (x0 &&& (255 : Int32))), .val (.int (3 : Int32)), .val (.int lo), .val (.int hi), .val (.int (p1 + (3 : Int32))), .val (.int (1 : Int32)), .val (.int (x1 &&& (255 : Int32))), .val (.int (1 : Int32))] [(.int (x1 &&& (255 : Int32)))]))
      refine Go.st (fun _ k => XS.iload X0.here hx rfl (hb hby d1_207) rfl k) ?_
      refine Go.st (fun _ k => XS.goto X0.here hx rfl (pc0 := 209) (pc' := 215) rfl (hb hby d1_209) (by decide) (by decide) k) ?_
      show Go p e below _ (s₁.setTop (mkF m 215 #[.val (.ref a0), .val (.int p1), .val (.int (x0 &&& (255 : Int32))), .val (.int (3 : Int32)), .val (.int lo), .val (.int hi), .val (.int (p1 + (3 : Int32))), .val (.int (1 : Int32)), .val (.int (x1 &&& (255 : Int32))), .val (.int (1 : Int32))] [(.int lo), (.int (x1 &&& (255 : Int32)))]))
      by_cases hc12 : (x1 &&& (255 : Int32)) < lo
      · show Go p e below _ (s₁.setTop (mkF m 215 #[.val (.ref a0), .val (.int p1), .val (.int (x0 &&& (255 : Int32))), .val (.int (3 : Int32)), .val (.int lo), .val (.int hi), .val (.int (p1 + (3 : Int32))), .val (.int (1 : Int32)), .val (.int (x1 &&& (255 : Int32))), .val (.int (1 : Int32))] [(.int lo), (.int (x1 &&& (255 : Int32)))]))
        refine Go.st (fun _ k => XS.icmpYes X0.here hx rfl (pc0 := 215) (pc' := 236) rfl (hb hby d1_215) rfl (tlt hc12).1 (by decide) (by decide) k) ?_
        show Go p e below _ (s₁.setTop (mkF m 236 #[.val (.ref a0), .val (.int p1), .val (.int (x0 &&& (255 : Int32))), .val (.int (3 : Int32)), .val (.int lo), .val (.int hi), .val (.int (p1 + (3 : Int32))), .val (.int (1 : Int32)), .val (.int (x1 &&& (255 : Int32))), .val (.int (1 : Int32))] []))
        refine Go.st (fun _ k => XS.iconst X0.here hx rfl (hb hby d1_236) k) ?_
        refine Go.st (fun _ k => XS.istore X0.here hx rfl (hb hby d1_237) rfl (l' := #[.val (.ref a0), .val (.int p1), .val (.int (x0 &&& (255 : Int32))), .val (.int (3 : Int32)), .val (.int lo), .val (.int hi), .val (.int (-1 : Int32)), .val (.int (1 : Int32)), .val (.int (x1 &&& (255 : Int32))), .val (.int (1 : Int32))]) rfl k) ?_
        show Go p e below _ (s₁.setTop (mkF m 239 #[.val (.ref a0), .val (.int p1), .val (.int (x0 &&& (255 : Int32))), .val (.int (3 : Int32)), .val (.int lo), .val (.int hi), .val (.int (-1 : Int32)), .val (.int (1 : Int32)), .val (.int (x1 &&& (255 : Int32))), .val (.int (1 : Int32))] []))
        refine Go.st (fun _ k => XS.iinc X0.here hx rfl (hb hby d1_239) rfl (l' := #[.val (.ref a0), .val (.int p1), .val (.int (x0 &&& (255 : Int32))), .val (.int (3 : Int32)), .val (.int lo), .val (.int hi), .val (.int (-1 : Int32)), .val (.int (2 : Int32)), .val (.int (x1 &&& (255 : Int32))), .val (.int (1 : Int32))]) rfl k) ?_
        show Go p e below _ (s₁.setTop (mkF m 242 #[.val (.ref a0), .val (.int p1), .val (.int (x0 &&& (255 : Int32))), .val (.int (3 : Int32)), .val (.int lo), .val (.int hi), .val (.int (-1 : Int32)), .val (.int (2 : Int32)), .val (.int (x1 &&& (255 : Int32))), .val (.int (1 : Int32))] []))
        refine Go.st (fun _ k => XS.goto X0.here hx rfl (pc0 := 242) (pc' := 163) rfl (hb hby d1_242) (by decide) (by decide) k) ?_
        show Go p e below _ (s₁.setTop (mkF m 163 #[.val (.ref a0), .val (.int p1), .val (.int (x0 &&& (255 : Int32))), .val (.int (3 : Int32)), .val (.int lo), .val (.int hi), .val (.int (-1 : Int32)), .val (.int (2 : Int32)), .val (.int (x1 &&& (255 : Int32))), .val (.int (1 : Int32))] []))
        refine Go.st (fun _ k => XS.iload X0.here hx rfl (hb hby d1_163) rfl k) ?_
        refine Go.st (fun _ k => XS.iloadN X0.here hx rfl (hb hby d1_165) rfl k) ?_
        show Go p e below _ (s₁.setTop (mkF m 166 #[.val (.ref a0), .val (.int p1), .val (.int (x0 &&& (255 : Int32))), .val (.int (3 : Int32)), .val (.int lo), .val (.int hi), .val (.int (-1 : Int32)), .val (.int (2 : Int32)), .val (.int (x1 &&& (255 : Int32))), .val (.int (1 : Int32))] [(.int (3 : Int32)), (.int (2 : Int32))]))
        refine Go.st (fun _ k => XS.icmpNo X0.here hx rfl (hb hby d1_166) rfl (tlt (by decide : ((2 : Int32) < (3 : Int32)))).2.1 k) ?_
        show Go p e below _ (s₁.setTop (mkF m 169 #[.val (.ref a0), .val (.int p1), .val (.int (x0 &&& (255 : Int32))), .val (.int (3 : Int32)), .val (.int lo), .val (.int hi), .val (.int (-1 : Int32)), .val (.int (2 : Int32)), .val (.int (x1 &&& (255 : Int32))), .val (.int (1 : Int32))] []))
        refine Go.st (fun _ k => XS.iload X0.here hx rfl (hb hby d1_169) rfl k) ?_
        refine Go.st (fun _ k => XS.iconst X0.here hx rfl (hb hby d1_171) k) ?_
        show Go p e below _ (s₁.setTop (mkF m 172 #[.val (.ref a0), .val (.int p1), .val (.int (x0 &&& (255 : Int32))), .val (.int (3 : Int32)), .val (.int lo), .val (.int hi), .val (.int (-1 : Int32)), .val (.int (2 : Int32)), .val (.int (x1 &&& (255 : Int32))), .val (.int (1 : Int32))] [(.int (-1 : Int32)), (.int (-1 : Int32))]))
        refine Go.st (fun _ k => XS.icmpYes X0.here hx rfl (pc0 := 172) (pc' := 245) rfl (hb hby d1_172) rfl (teq (by decide : ((-1 : Int32) = (-1 : Int32)))).1 (by decide) (by decide) k) ?_
        show Go p e below _ (s₁.setTop (mkF m 245 #[.val (.ref a0), .val (.int p1), .val (.int (x0 &&& (255 : Int32))), .val (.int (3 : Int32)), .val (.int lo), .val (.int hi), .val (.int (-1 : Int32)), .val (.int (2 : Int32)), .val (.int (x1 &&& (255 : Int32))), .val (.int (1 : Int32))] []))
        refine Go.st (fun _ k => XS.iload X0.here hx rfl (hb hby d1_245) rfl k) ?_
        obtain ⟨fs, hr, hrun, hended, hW, hsame⟩ := X0.leave (v := some (.int (-1 : Int32))) (fun h => by rw [Bd.returns] at h; cases h)
        refine ⟨_, _, retI X0 hx Bd.returns (hb hby d1_247) hr, hrun, hended, _, _, rfl, ?_, ⟨_, rfl⟩, hW, hsame.mono (by decide) (by decide)⟩
        show Q_rmCE Z x0 x1 x2 x3 a0 p1 kk z vs h0 n0 _ s₁.heap _
        rw [e0]
        refine ⟨?_, N0, rfl⟩
        rw [hj]
        unfold fT3
        rw [if_neg hc9, if_pos hc12]
      · show Go p e below _ (s₁.setTop (mkF m 215 #[.val (.ref a0), .val (.int p1), .val (.int (x0 &&& (255 : Int32))), .val (.int (3 : Int32)), .val (.int lo), .val (.int hi), .val (.int (p1 + (3 : Int32))), .val (.int (1 : Int32)), .val (.int (x1 &&& (255 : Int32))), .val (.int (1 : Int32))] [(.int lo), (.int (x1 &&& (255 : Int32)))]))
        refine Go.st (fun _ k => XS.icmpNo X0.here hx rfl (hb hby d1_215) rfl (flt hc12).1 k) ?_
        show Go p e below _ (s₁.setTop (mkF m 218 #[.val (.ref a0), .val (.int p1), .val (.int (x0 &&& (255 : Int32))), .val (.int (3 : Int32)), .val (.int lo), .val (.int hi), .val (.int (p1 + (3 : Int32))), .val (.int (1 : Int32)), .val (.int (x1 &&& (255 : Int32))), .val (.int (1 : Int32))] []))
        refine Go.st (fun _ k => XS.iload X0.here hx rfl (hb hby d1_218) rfl k) ?_
        refine Go.st (fun _ k => XS.iload X0.here hx rfl (hb hby d1_220) rfl k) ?_
        show Go p e below _ (s₁.setTop (mkF m 222 #[.val (.ref a0), .val (.int p1), .val (.int (x0 &&& (255 : Int32))), .val (.int (3 : Int32)), .val (.int lo), .val (.int hi), .val (.int (p1 + (3 : Int32))), .val (.int (1 : Int32)), .val (.int (x1 &&& (255 : Int32))), .val (.int (1 : Int32))] [(.int (1 : Int32)), (.int (x1 &&& (255 : Int32)))]))
        refine Go.st (fun _ k => XS.ifNo X0.here hx rfl (hb hby d1_222) rfl ((if0 _ _).trans (feq (by decide : ¬ ((1 : Int32) = (0 : Int32)))).1) k) ?_
        show Go p e below _ (s₁.setTop (mkF m 225 #[.val (.ref a0), .val (.int p1), .val (.int (x0 &&& (255 : Int32))), .val (.int (3 : Int32)), .val (.int lo), .val (.int hi), .val (.int (p1 + (3 : Int32))), .val (.int (1 : Int32)), .val (.int (x1 &&& (255 : Int32))), .val (.int (1 : Int32))] [(.int (x1 &&& (255 : Int32)))]))
        refine Go.st (fun _ k => XS.iload X0.here hx rfl (hb hby d1_225) rfl k) ?_
        refine Go.st (fun _ k => XS.goto X0.here hx rfl (pc0 := 227) (pc' := 233) rfl (hb hby d1_227) (by decide) (by decide) k) ?_
        show Go p e below _ (s₁.setTop (mkF m 233 #[.val (.ref a0), .val (.int p1), .val (.int (x0 &&& (255 : Int32))), .val (.int (3 : Int32)), .val (.int lo), .val (.int hi), .val (.int (p1 + (3 : Int32))), .val (.int (1 : Int32)), .val (.int (x1 &&& (255 : Int32))), .val (.int (1 : Int32))] [(.int hi), (.int (x1 &&& (255 : Int32)))]))
        by_cases hc13 : hi < (x1 &&& (255 : Int32))
        · show Go p e below _ (s₁.setTop (mkF m 233 #[.val (.ref a0), .val (.int p1), .val (.int (x0 &&& (255 : Int32))), .val (.int (3 : Int32)), .val (.int lo), .val (.int hi), .val (.int (p1 + (3 : Int32))), .val (.int (1 : Int32)), .val (.int (x1 &&& (255 : Int32))), .val (.int (1 : Int32))] [(.int hi), (.int (x1 &&& (255 : Int32)))]))
          refine Go.st (fun _ k => XS.icmpNo X0.here hx rfl (hb hby d1_233) rfl (tlt hc13).2.2.2 k) ?_
          show Go p e below _ (s₁.setTop (mkF m 236 #[.val (.ref a0), .val (.int p1), .val (.int (x0 &&& (255 : Int32))), .val (.int (3 : Int32)), .val (.int lo), .val (.int hi), .val (.int (p1 + (3 : Int32))), .val (.int (1 : Int32)), .val (.int (x1 &&& (255 : Int32))), .val (.int (1 : Int32))] []))
          refine Go.st (fun _ k => XS.iconst X0.here hx rfl (hb hby d1_236) k) ?_
          refine Go.st (fun _ k => XS.istore X0.here hx rfl (hb hby d1_237) rfl (l' := #[.val (.ref a0), .val (.int p1), .val (.int (x0 &&& (255 : Int32))), .val (.int (3 : Int32)), .val (.int lo), .val (.int hi), .val (.int (-1 : Int32)), .val (.int (1 : Int32)), .val (.int (x1 &&& (255 : Int32))), .val (.int (1 : Int32))]) rfl k) ?_
          show Go p e below _ (s₁.setTop (mkF m 239 #[.val (.ref a0), .val (.int p1), .val (.int (x0 &&& (255 : Int32))), .val (.int (3 : Int32)), .val (.int lo), .val (.int hi), .val (.int (-1 : Int32)), .val (.int (1 : Int32)), .val (.int (x1 &&& (255 : Int32))), .val (.int (1 : Int32))] []))
          refine Go.st (fun _ k => XS.iinc X0.here hx rfl (hb hby d1_239) rfl (l' := #[.val (.ref a0), .val (.int p1), .val (.int (x0 &&& (255 : Int32))), .val (.int (3 : Int32)), .val (.int lo), .val (.int hi), .val (.int (-1 : Int32)), .val (.int (2 : Int32)), .val (.int (x1 &&& (255 : Int32))), .val (.int (1 : Int32))]) rfl k) ?_
          show Go p e below _ (s₁.setTop (mkF m 242 #[.val (.ref a0), .val (.int p1), .val (.int (x0 &&& (255 : Int32))), .val (.int (3 : Int32)), .val (.int lo), .val (.int hi), .val (.int (-1 : Int32)), .val (.int (2 : Int32)), .val (.int (x1 &&& (255 : Int32))), .val (.int (1 : Int32))] []))
          refine Go.st (fun _ k => XS.goto X0.here hx rfl (pc0 := 242) (pc' := 163) rfl (hb hby d1_242) (by decide) (by decide) k) ?_
          show Go p e below _ (s₁.setTop (mkF m 163 #[.val (.ref a0), .val (.int p1), .val (.int (x0 &&& (255 : Int32))), .val (.int (3 : Int32)), .val (.int lo), .val (.int hi), .val (.int (-1 : Int32)), .val (.int (2 : Int32)), .val (.int (x1 &&& (255 : Int32))), .val (.int (1 : Int32))] []))
          refine Go.st (fun _ k => XS.iload X0.here hx rfl (hb hby d1_163) rfl k) ?_
          refine Go.st (fun _ k => XS.iloadN X0.here hx rfl (hb hby d1_165) rfl k) ?_
          show Go p e below _ (s₁.setTop (mkF m 166 #[.val (.ref a0), .val (.int p1), .val (.int (x0 &&& (255 : Int32))), .val (.int (3 : Int32)), .val (.int lo), .val (.int hi), .val (.int (-1 : Int32)), .val (.int (2 : Int32)), .val (.int (x1 &&& (255 : Int32))), .val (.int (1 : Int32))] [(.int (3 : Int32)), (.int (2 : Int32))]))
          refine Go.st (fun _ k => XS.icmpNo X0.here hx rfl (hb hby d1_166) rfl (tlt (by decide : ((2 : Int32) < (3 : Int32)))).2.1 k) ?_
          show Go p e below _ (s₁.setTop (mkF m 169 #[.val (.ref a0), .val (.int p1), .val (.int (x0 &&& (255 : Int32))), .val (.int (3 : Int32)), .val (.int lo), .val (.int hi), .val (.int (-1 : Int32)), .val (.int (2 : Int32)), .val (.int (x1 &&& (255 : Int32))), .val (.int (1 : Int32))] []))
          refine Go.st (fun _ k => XS.iload X0.here hx rfl (hb hby d1_169) rfl k) ?_
          refine Go.st (fun _ k => XS.iconst X0.here hx rfl (hb hby d1_171) k) ?_
          show Go p e below _ (s₁.setTop (mkF m 172 #[.val (.ref a0), .val (.int p1), .val (.int (x0 &&& (255 : Int32))), .val (.int (3 : Int32)), .val (.int lo), .val (.int hi), .val (.int (-1 : Int32)), .val (.int (2 : Int32)), .val (.int (x1 &&& (255 : Int32))), .val (.int (1 : Int32))] [(.int (-1 : Int32)), (.int (-1 : Int32))]))
          refine Go.st (fun _ k => XS.icmpYes X0.here hx rfl (pc0 := 172) (pc' := 245) rfl (hb hby d1_172) rfl (teq (by decide : ((-1 : Int32) = (-1 : Int32)))).1 (by decide) (by decide) k) ?_
          show Go p e below _ (s₁.setTop (mkF m 245 #[.val (.ref a0), .val (.int p1), .val (.int (x0 &&& (255 : Int32))), .val (.int (3 : Int32)), .val (.int lo), .val (.int hi), .val (.int (-1 : Int32)), .val (.int (2 : Int32)), .val (.int (x1 &&& (255 : Int32))), .val (.int (1 : Int32))] []))
          refine Go.st (fun _ k => XS.iload X0.here hx rfl (hb hby d1_245) rfl k) ?_
          obtain ⟨fs, hr, hrun, hended, hW, hsame⟩ := X0.leave (v := some (.int (-1 : Int32))) (fun h => by rw [Bd.returns] at h; cases h)
          refine ⟨_, _, retI X0 hx Bd.returns (hb hby d1_247) hr, hrun, hended, _, _, rfl, ?_, ⟨_, rfl⟩, hW, hsame.mono (by decide) (by decide)⟩
          show Q_rmCE Z x0 x1 x2 x3 a0 p1 kk z vs h0 n0 _ s₁.heap _
          rw [e0]
          refine ⟨?_, N0, rfl⟩
          rw [hj]
          unfold fT3
          rw [if_neg hc9, if_neg hc12, if_pos hc13]
        · show Go p e below _ (s₁.setTop (mkF m 233 #[.val (.ref a0), .val (.int p1), .val (.int (x0 &&& (255 : Int32))), .val (.int (3 : Int32)), .val (.int lo), .val (.int hi), .val (.int (p1 + (3 : Int32))), .val (.int (1 : Int32)), .val (.int (x1 &&& (255 : Int32))), .val (.int (1 : Int32))] [(.int hi), (.int (x1 &&& (255 : Int32)))]))
          refine Go.st (fun _ k => XS.icmpYes X0.here hx rfl (pc0 := 233) (pc' := 239) rfl (hb hby d1_233) rfl (flt hc13).2.2.2 (by decide) (by decide) k) ?_
          show Go p e below _ (s₁.setTop (mkF m 239 #[.val (.ref a0), .val (.int p1), .val (.int (x0 &&& (255 : Int32))), .val (.int (3 : Int32)), .val (.int lo), .val (.int hi), .val (.int (p1 + (3 : Int32))), .val (.int (1 : Int32)), .val (.int (x1 &&& (255 : Int32))), .val (.int (1 : Int32))] []))
          refine Go.st (fun _ k => XS.iinc X0.here hx rfl (hb hby d1_239) rfl (l' := #[.val (.ref a0), .val (.int p1), .val (.int (x0 &&& (255 : Int32))), .val (.int (3 : Int32)), .val (.int lo), .val (.int hi), .val (.int (p1 + (3 : Int32))), .val (.int (2 : Int32)), .val (.int (x1 &&& (255 : Int32))), .val (.int (1 : Int32))]) rfl k) ?_
          show Go p e below _ (s₁.setTop (mkF m 242 #[.val (.ref a0), .val (.int p1), .val (.int (x0 &&& (255 : Int32))), .val (.int (3 : Int32)), .val (.int lo), .val (.int hi), .val (.int (p1 + (3 : Int32))), .val (.int (2 : Int32)), .val (.int (x1 &&& (255 : Int32))), .val (.int (1 : Int32))] []))
          refine Go.st (fun _ k => XS.goto X0.here hx rfl (pc0 := 242) (pc' := 163) rfl (hb hby d1_242) (by decide) (by decide) k) ?_
          show Go p e below _ (s₁.setTop (mkF m 163 #[.val (.ref a0), .val (.int p1), .val (.int (x0 &&& (255 : Int32))), .val (.int (3 : Int32)), .val (.int lo), .val (.int hi), .val (.int (p1 + (3 : Int32))), .val (.int (2 : Int32)), .val (.int (x1 &&& (255 : Int32))), .val (.int (1 : Int32))] []))
          refine Go.st (fun _ k => XS.iload X0.here hx rfl (hb hby d1_163) rfl k) ?_
          refine Go.st (fun _ k => XS.iloadN X0.here hx rfl (hb hby d1_165) rfl k) ?_
          show Go p e below _ (s₁.setTop (mkF m 166 #[.val (.ref a0), .val (.int p1), .val (.int (x0 &&& (255 : Int32))), .val (.int (3 : Int32)), .val (.int lo), .val (.int hi), .val (.int (p1 + (3 : Int32))), .val (.int (2 : Int32)), .val (.int (x1 &&& (255 : Int32))), .val (.int (1 : Int32))] [(.int (3 : Int32)), (.int (2 : Int32))]))
          refine Go.st (fun _ k => XS.icmpNo X0.here hx rfl (hb hby d1_166) rfl (tlt (by decide : ((2 : Int32) < (3 : Int32)))).2.1 k) ?_
          show Go p e below _ (s₁.setTop (mkF m 169 #[.val (.ref a0), .val (.int p1), .val (.int (x0 &&& (255 : Int32))), .val (.int (3 : Int32)), .val (.int lo), .val (.int hi), .val (.int (p1 + (3 : Int32))), .val (.int (2 : Int32)), .val (.int (x1 &&& (255 : Int32))), .val (.int (1 : Int32))] []))
          refine Go.st (fun _ k => XS.iload X0.here hx rfl (hb hby d1_169) rfl k) ?_
          refine Go.st (fun _ k => XS.iconst X0.here hx rfl (hb hby d1_171) k) ?_
          show Go p e below _ (s₁.setTop (mkF m 172 #[.val (.ref a0), .val (.int p1), .val (.int (x0 &&& (255 : Int32))), .val (.int (3 : Int32)), .val (.int lo), .val (.int hi), .val (.int (p1 + (3 : Int32))), .val (.int (2 : Int32)), .val (.int (x1 &&& (255 : Int32))), .val (.int (1 : Int32))] [(.int (-1 : Int32)), (.int (p1 + (3 : Int32)))]))
          refine Go.st (fun _ k => XS.icmpNo X0.here hx rfl (hb hby d1_172) rfl (feq (own_notm1 hs0 hs1 hs2 (by decide) (by decide))).1 k) ?_
          show Go p e below _ (s₁.setTop (mkF m 175 #[.val (.ref a0), .val (.int p1), .val (.int (x0 &&& (255 : Int32))), .val (.int (3 : Int32)), .val (.int lo), .val (.int hi), .val (.int (p1 + (3 : Int32))), .val (.int (2 : Int32)), .val (.int (x1 &&& (255 : Int32))), .val (.int (1 : Int32))] []))
          refine Go.st (fun _ k => XS.aloadN X0.here hx rfl (hb hby d1_175) rfl rfl k) ?_
          refine Go.st (fun _ k => XS.iloadN X0.here hx rfl (hb hby d1_176) rfl k) ?_
          show Go p e below _ (s₁.setTop (mkF m 177 #[.val (.ref a0), .val (.int p1), .val (.int (x0 &&& (255 : Int32))), .val (.int (3 : Int32)), .val (.int lo), .val (.int hi), .val (.int (p1 + (3 : Int32))), .val (.int (2 : Int32)), .val (.int (x1 &&& (255 : Int32))), .val (.int (1 : Int32))] [(.int p1), (.ref a0)]))
          refine Go.st (fun _ k => XS.iload X0.here hx rfl (hb hby d1_177) rfl k) ?_
          refine Go.st (fun _ k => XS.iadd X0.here hx rfl (hb hby d1_179) rfl k) ?_
          show Go p e below _ (s₁.setTop (mkF m 180 #[.val (.ref a0), .val (.int p1), .val (.int (x0 &&& (255 : Int32))), .val (.int (3 : Int32)), .val (.int lo), .val (.int hi), .val (.int (p1 + (3 : Int32))), .val (.int (2 : Int32)), .val (.int (x1 &&& (255 : Int32))), .val (.int (1 : Int32))] [(.int (p1 + (2 : Int32))), (.ref a0)]))
          have hk14 : p1.toInt + 2 < z.toInt := own_room hs0 hs1 hs2 hc9 (by decide) (by decide)
          obtain ⟨cl15, Ar15, ck15, Sz15, Nn15, Hs15, Gs15⟩ := id V
          have hin15 : ¬ ((p1 + (2 : Int32)) < 0 ∨ cl15.slots.size ≤ ((p1 + (2 : Int32))).toNatClampNeg) := inb_of Sz15 (own_ink hs0 hs2 (k := (2 : Int32)) (by decide) (by decide) hk14)
          have hat15 : cl15.slots[((p1 + (2 : Int32))).toNatClampNeg]? = some (.int x2) := Hs15.at hin15 (he2 hk14)
          refine Go.st (fun _ k => X0.baloadBytes hx (j := (p1 + (2 : Int32))) (v := (.int x2)) (by rw [e0]; exact Ar15.1) (State.isArrayOf_alike hZ.alike Ar15.2.1) Ar15.2.2 hin15 hat15 (g := (mkF m 180 #[.val (.ref a0), .val (.int p1), .val (.int (x0 &&& (255 : Int32))), .val (.int (3 : Int32)), .val (.int lo), .val (.int hi), .val (.int (p1 + (3 : Int32))), .val (.int (2 : Int32)), .val (.int (x1 &&& (255 : Int32))), .val (.int (1 : Int32))] [(.int (p1 + (2 : Int32))), (.ref a0)])) rfl rfl (hb hby d1_180) _ k) ?_
          show Go p e below _ (s₁.setTop (mkF m 181 #[.val (.ref a0), .val (.int p1), .val (.int (x0 &&& (255 : Int32))), .val (.int (3 : Int32)), .val (.int lo), .val (.int hi), .val (.int (p1 + (3 : Int32))), .val (.int (2 : Int32)), .val (.int (x1 &&& (255 : Int32))), .val (.int (1 : Int32))] [(.int x2)]))
          refine Go.st (fun _ k => XS.sipush X0.here hx rfl (hb hby d1_181) k) ?_
          refine Go.st (fun _ k => XS.iand X0.here hx rfl (hb hby d1_184) rfl k) ?_
          show Go p e below _ (s₁.setTop (mkF m 185 #[.val (.ref a0), .val (.int p1), .val (.int (x0 &&& (255 : Int32))), .val (.int (3 : Int32)), .val (.int lo), .val (.int hi), .val (.int (p1 + (3 : Int32))), .val (.int (2 : Int32)), .val (.int (x1 &&& (255 : Int32))), .val (.int (1 : Int32))] [(.int (x2 &&& (255 : Int32)))]))
          refine Go.st (fun _ k => XS.istore X0.here hx rfl (hb hby d1_185) rfl (l' := #[.val (.ref a0), .val (.int p1), .val (.int (x0 &&& (255 : Int32))), .val (.int (3 : Int32)), .val (.int lo), .val (.int hi), .val (.int (p1 + (3 : Int32))), .val (.int (2 : Int32)), .val (.int (x2 &&& (255 : Int32))), .val (.int (1 : Int32))]) rfl k) ?_
          show Go p e below _ (s₁.setTop (mkF m 187 #[.val (.ref a0), .val (.int p1), .val (.int (x0 &&& (255 : Int32))), .val (.int (3 : Int32)), .val (.int lo), .val (.int hi), .val (.int (p1 + (3 : Int32))), .val (.int (2 : Int32)), .val (.int (x2 &&& (255 : Int32))), .val (.int (1 : Int32))] []))
          refine Go.st (fun _ k => XS.iload X0.here hx rfl (hb hby d1_187) rfl k) ?_
          refine Go.st (fun _ k => XS.iconst X0.here hx rfl (hb hby d1_189) k) ?_
          show Go p e below _ (s₁.setTop (mkF m 190 #[.val (.ref a0), .val (.int p1), .val (.int (x0 &&& (255 : Int32))), .val (.int (3 : Int32)), .val (.int lo), .val (.int hi), .val (.int (p1 + (3 : Int32))), .val (.int (2 : Int32)), .val (.int (x2 &&& (255 : Int32))), .val (.int (1 : Int32))] [(.int (1 : Int32)), (.int (2 : Int32))]))
          refine Go.st (fun _ k => XS.icmpYes X0.here hx rfl (pc0 := 190) (pc' := 197) rfl (hb hby d1_190) rfl (feq (by decide : ¬ ((2 : Int32) = (1 : Int32)))).2 (by decide) (by decide) k) ?_
          show Go p e below _ (s₁.setTop (mkF m 197 #[.val (.ref a0), .val (.int p1), .val (.int (x0 &&& (255 : Int32))), .val (.int (3 : Int32)), .val (.int lo), .val (.int hi), .val (.int (p1 + (3 : Int32))), .val (.int (2 : Int32)), .val (.int (x2 &&& (255 : Int32))), .val (.int (1 : Int32))] []))
          refine Go.st (fun _ k => XS.iconst X0.here hx rfl (hb hby d1_197) k) ?_
          refine Go.st (fun _ k => XS.istore X0.here hx rfl (hb hby d1_198) rfl (l' := #[.val (.ref a0), .val (.int p1), .val (.int (x0 &&& (255 : Int32))), .val (.int (3 : Int32)), .val (.int lo), .val (.int hi), .val (.int (p1 + (3 : Int32))), .val (.int (2 : Int32)), .val (.int (x2 &&& (255 : Int32))), .val (.int (0 : Int32))]) rfl k) ?_
          show Go p e below _ (s₁.setTop (mkF m 200 #[.val (.ref a0), .val (.int p1), .val (.int (x0 &&& (255 : Int32))), .val (.int (3 : Int32)), .val (.int lo), .val (.int hi), .val (.int (p1 + (3 : Int32))), .val (.int (2 : Int32)), .val (.int (x2 &&& (255 : Int32))), .val (.int (0 : Int32))] []))
          refine Go.st (fun _ k => XS.iload X0.here hx rfl (hb hby d1_200) rfl k) ?_
          refine Go.st (fun _ k => XS.iload X0.here hx rfl (hb hby d1_202) rfl k) ?_
          show Go p e below _ (s₁.setTop (mkF m 204 #[.val (.ref a0), .val (.int p1), .val (.int (x0 &&& (255 : Int32))), .val (.int (3 : Int32)), .val (.int lo), .val (.int hi), .val (.int (p1 + (3 : Int32))), .val (.int (2 : Int32)), .val (.int (x2 &&& (255 : Int32))), .val (.int (0 : Int32))] [(.int (0 : Int32)), (.int (x2 &&& (255 : Int32)))]))
          refine Go.st (fun _ k => XS.ifYes X0.here hx rfl (pc0 := 204) (pc' := 212) rfl (hb hby d1_204) rfl ((if0 _ _).trans (teq (by decide : ((0 : Int32) = (0 : Int32)))).1) (by decide) (by decide) k) ?_
          show Go p e below _ (s₁.setTop (mkF m 212 #[.val (.ref a0), .val (.int p1), .val (.int (x0 &&& (255 : Int32))), .val (.int (3 : Int32)), .val (.int lo), .val (.int hi), .val (.int (p1 + (3 : Int32))), .val (.int (2 : Int32)), .val (.int (x2 &&& (255 : Int32))), .val (.int (0 : Int32))] [(.int (x2 &&& (255 : Int32)))]))
          refine Go.st (fun _ k => XS.sipush X0.here hx rfl (hb hby d1_212) k) ?_
          by_cases hc16 : (x2 &&& (255 : Int32)) < (128 : Int32)
          · show Go p e below _ (s₁.setTop (mkF m 215 #[.val (.ref a0), .val (.int p1), .val (.int (x0 &&& (255 : Int32))), .val (.int (3 : Int32)), .val (.int lo), .val (.int hi), .val (.int (p1 + (3 : Int32))), .val (.int (2 : Int32)), .val (.int (x2 &&& (255 : Int32))), .val (.int (0 : Int32))] [(.int (128 : Int32)), (.int (x2 &&& (255 : Int32)))]))
            refine Go.st (fun _ k => XS.icmpYes X0.here hx rfl (pc0 := 215) (pc' := 236) rfl (hb hby d1_215) rfl (tlt hc16).1 (by decide) (by decide) k) ?_
            show Go p e below _ (s₁.setTop (mkF m 236 #[.val (.ref a0), .val (.int p1), .val (.int (x0 &&& (255 : Int32))), .val (.int (3 : Int32)), .val (.int lo), .val (.int hi), .val (.int (p1 + (3 : Int32))), .val (.int (2 : Int32)), .val (.int (x2 &&& (255 : Int32))), .val (.int (0 : Int32))] []))
            refine Go.st (fun _ k => XS.iconst X0.here hx rfl (hb hby d1_236) k) ?_
            refine Go.st (fun _ k => XS.istore X0.here hx rfl (hb hby d1_237) rfl (l' := #[.val (.ref a0), .val (.int p1), .val (.int (x0 &&& (255 : Int32))), .val (.int (3 : Int32)), .val (.int lo), .val (.int hi), .val (.int (-1 : Int32)), .val (.int (2 : Int32)), .val (.int (x2 &&& (255 : Int32))), .val (.int (0 : Int32))]) rfl k) ?_
            show Go p e below _ (s₁.setTop (mkF m 239 #[.val (.ref a0), .val (.int p1), .val (.int (x0 &&& (255 : Int32))), .val (.int (3 : Int32)), .val (.int lo), .val (.int hi), .val (.int (-1 : Int32)), .val (.int (2 : Int32)), .val (.int (x2 &&& (255 : Int32))), .val (.int (0 : Int32))] []))
            refine Go.st (fun _ k => XS.iinc X0.here hx rfl (hb hby d1_239) rfl (l' := #[.val (.ref a0), .val (.int p1), .val (.int (x0 &&& (255 : Int32))), .val (.int (3 : Int32)), .val (.int lo), .val (.int hi), .val (.int (-1 : Int32)), .val (.int (3 : Int32)), .val (.int (x2 &&& (255 : Int32))), .val (.int (0 : Int32))]) rfl k) ?_
            show Go p e below _ (s₁.setTop (mkF m 242 #[.val (.ref a0), .val (.int p1), .val (.int (x0 &&& (255 : Int32))), .val (.int (3 : Int32)), .val (.int lo), .val (.int hi), .val (.int (-1 : Int32)), .val (.int (3 : Int32)), .val (.int (x2 &&& (255 : Int32))), .val (.int (0 : Int32))] []))
            refine Go.st (fun _ k => XS.goto X0.here hx rfl (pc0 := 242) (pc' := 163) rfl (hb hby d1_242) (by decide) (by decide) k) ?_
            show Go p e below _ (s₁.setTop (mkF m 163 #[.val (.ref a0), .val (.int p1), .val (.int (x0 &&& (255 : Int32))), .val (.int (3 : Int32)), .val (.int lo), .val (.int hi), .val (.int (-1 : Int32)), .val (.int (3 : Int32)), .val (.int (x2 &&& (255 : Int32))), .val (.int (0 : Int32))] []))
            refine Go.st (fun _ k => XS.iload X0.here hx rfl (hb hby d1_163) rfl k) ?_
            refine Go.st (fun _ k => XS.iloadN X0.here hx rfl (hb hby d1_165) rfl k) ?_
            show Go p e below _ (s₁.setTop (mkF m 166 #[.val (.ref a0), .val (.int p1), .val (.int (x0 &&& (255 : Int32))), .val (.int (3 : Int32)), .val (.int lo), .val (.int hi), .val (.int (-1 : Int32)), .val (.int (3 : Int32)), .val (.int (x2 &&& (255 : Int32))), .val (.int (0 : Int32))] [(.int (3 : Int32)), (.int (3 : Int32))]))
            refine Go.st (fun _ k => XS.icmpYes X0.here hx rfl (pc0 := 166) (pc' := 245) rfl (hb hby d1_166) rfl (flt (by decide : ¬ ((3 : Int32) < (3 : Int32)))).2.1 (by decide) (by decide) k) ?_
            show Go p e below _ (s₁.setTop (mkF m 245 #[.val (.ref a0), .val (.int p1), .val (.int (x0 &&& (255 : Int32))), .val (.int (3 : Int32)), .val (.int lo), .val (.int hi), .val (.int (-1 : Int32)), .val (.int (3 : Int32)), .val (.int (x2 &&& (255 : Int32))), .val (.int (0 : Int32))] []))
            refine Go.st (fun _ k => XS.iload X0.here hx rfl (hb hby d1_245) rfl k) ?_
            obtain ⟨fs, hr, hrun, hended, hW, hsame⟩ := X0.leave (v := some (.int (-1 : Int32))) (fun h => by rw [Bd.returns] at h; cases h)
            refine ⟨_, _, retI X0 hx Bd.returns (hb hby d1_247) hr, hrun, hended, _, _, rfl, ?_, ⟨_, rfl⟩, hW, hsame.mono (by decide) (by decide)⟩
            show Q_rmCE Z x0 x1 x2 x3 a0 p1 kk z vs h0 n0 _ s₁.heap _
            rw [e0]
            refine ⟨?_, N0, rfl⟩
            rw [hj]
            unfold fT3
            rw [if_neg hc9, if_neg hc12, if_neg hc13, if_pos hc16]
          · show Go p e below _ (s₁.setTop (mkF m 215 #[.val (.ref a0), .val (.int p1), .val (.int (x0 &&& (255 : Int32))), .val (.int (3 : Int32)), .val (.int lo), .val (.int hi), .val (.int (p1 + (3 : Int32))), .val (.int (2 : Int32)), .val (.int (x2 &&& (255 : Int32))), .val (.int (0 : Int32))] [(.int (128 : Int32)), (.int (x2 &&& (255 : Int32)))]))
            refine Go.st (fun _ k => XS.icmpNo X0.here hx rfl (hb hby d1_215) rfl (flt hc16).1 k) ?_
            show Go p e below _ (s₁.setTop (mkF m 218 #[.val (.ref a0), .val (.int p1), .val (.int (x0 &&& (255 : Int32))), .val (.int (3 : Int32)), .val (.int lo), .val (.int hi), .val (.int (p1 + (3 : Int32))), .val (.int (2 : Int32)), .val (.int (x2 &&& (255 : Int32))), .val (.int (0 : Int32))] []))
            refine Go.st (fun _ k => XS.iload X0.here hx rfl (hb hby d1_218) rfl k) ?_
            refine Go.st (fun _ k => XS.iload X0.here hx rfl (hb hby d1_220) rfl k) ?_
            show Go p e below _ (s₁.setTop (mkF m 222 #[.val (.ref a0), .val (.int p1), .val (.int (x0 &&& (255 : Int32))), .val (.int (3 : Int32)), .val (.int lo), .val (.int hi), .val (.int (p1 + (3 : Int32))), .val (.int (2 : Int32)), .val (.int (x2 &&& (255 : Int32))), .val (.int (0 : Int32))] [(.int (0 : Int32)), (.int (x2 &&& (255 : Int32)))]))
            refine Go.st (fun _ k => XS.ifYes X0.here hx rfl (pc0 := 222) (pc' := 230) rfl (hb hby d1_222) rfl ((if0 _ _).trans (teq (by decide : ((0 : Int32) = (0 : Int32)))).1) (by decide) (by decide) k) ?_
            show Go p e below _ (s₁.setTop (mkF m 230 #[.val (.ref a0), .val (.int p1), .val (.int (x0 &&& (255 : Int32))), .val (.int (3 : Int32)), .val (.int lo), .val (.int hi), .val (.int (p1 + (3 : Int32))), .val (.int (2 : Int32)), .val (.int (x2 &&& (255 : Int32))), .val (.int (0 : Int32))] [(.int (x2 &&& (255 : Int32)))]))
            refine Go.st (fun _ k => XS.sipush X0.here hx rfl (hb hby d1_230) k) ?_
            by_cases hc17 : (191 : Int32) < (x2 &&& (255 : Int32))
            · show Go p e below _ (s₁.setTop (mkF m 233 #[.val (.ref a0), .val (.int p1), .val (.int (x0 &&& (255 : Int32))), .val (.int (3 : Int32)), .val (.int lo), .val (.int hi), .val (.int (p1 + (3 : Int32))), .val (.int (2 : Int32)), .val (.int (x2 &&& (255 : Int32))), .val (.int (0 : Int32))] [(.int (191 : Int32)), (.int (x2 &&& (255 : Int32)))]))
              refine Go.st (fun _ k => XS.icmpNo X0.here hx rfl (hb hby d1_233) rfl (tlt hc17).2.2.2 k) ?_
              show Go p e below _ (s₁.setTop (mkF m 236 #[.val (.ref a0), .val (.int p1), .val (.int (x0 &&& (255 : Int32))), .val (.int (3 : Int32)), .val (.int lo), .val (.int hi), .val (.int (p1 + (3 : Int32))), .val (.int (2 : Int32)), .val (.int (x2 &&& (255 : Int32))), .val (.int (0 : Int32))] []))
              refine Go.st (fun _ k => XS.iconst X0.here hx rfl (hb hby d1_236) k) ?_
              refine Go.st (fun _ k => XS.istore X0.here hx rfl (hb hby d1_237) rfl (l' := #[.val (.ref a0), .val (.int p1), .val (.int (x0 &&& (255 : Int32))), .val (.int (3 : Int32)), .val (.int lo), .val (.int hi), .val (.int (-1 : Int32)), .val (.int (2 : Int32)), .val (.int (x2 &&& (255 : Int32))), .val (.int (0 : Int32))]) rfl k) ?_
              show Go p e below _ (s₁.setTop (mkF m 239 #[.val (.ref a0), .val (.int p1), .val (.int (x0 &&& (255 : Int32))), .val (.int (3 : Int32)), .val (.int lo), .val (.int hi), .val (.int (-1 : Int32)), .val (.int (2 : Int32)), .val (.int (x2 &&& (255 : Int32))), .val (.int (0 : Int32))] []))
              refine Go.st (fun _ k => XS.iinc X0.here hx rfl (hb hby d1_239) rfl (l' := #[.val (.ref a0), .val (.int p1), .val (.int (x0 &&& (255 : Int32))), .val (.int (3 : Int32)), .val (.int lo), .val (.int hi), .val (.int (-1 : Int32)), .val (.int (3 : Int32)), .val (.int (x2 &&& (255 : Int32))), .val (.int (0 : Int32))]) rfl k) ?_
              show Go p e below _ (s₁.setTop (mkF m 242 #[.val (.ref a0), .val (.int p1), .val (.int (x0 &&& (255 : Int32))), .val (.int (3 : Int32)), .val (.int lo), .val (.int hi), .val (.int (-1 : Int32)), .val (.int (3 : Int32)), .val (.int (x2 &&& (255 : Int32))), .val (.int (0 : Int32))] []))
              refine Go.st (fun _ k => XS.goto X0.here hx rfl (pc0 := 242) (pc' := 163) rfl (hb hby d1_242) (by decide) (by decide) k) ?_
              show Go p e below _ (s₁.setTop (mkF m 163 #[.val (.ref a0), .val (.int p1), .val (.int (x0 &&& (255 : Int32))), .val (.int (3 : Int32)), .val (.int lo), .val (.int hi), .val (.int (-1 : Int32)), .val (.int (3 : Int32)), .val (.int (x2 &&& (255 : Int32))), .val (.int (0 : Int32))] []))
              refine Go.st (fun _ k => XS.iload X0.here hx rfl (hb hby d1_163) rfl k) ?_
              refine Go.st (fun _ k => XS.iloadN X0.here hx rfl (hb hby d1_165) rfl k) ?_
              show Go p e below _ (s₁.setTop (mkF m 166 #[.val (.ref a0), .val (.int p1), .val (.int (x0 &&& (255 : Int32))), .val (.int (3 : Int32)), .val (.int lo), .val (.int hi), .val (.int (-1 : Int32)), .val (.int (3 : Int32)), .val (.int (x2 &&& (255 : Int32))), .val (.int (0 : Int32))] [(.int (3 : Int32)), (.int (3 : Int32))]))
              refine Go.st (fun _ k => XS.icmpYes X0.here hx rfl (pc0 := 166) (pc' := 245) rfl (hb hby d1_166) rfl (flt (by decide : ¬ ((3 : Int32) < (3 : Int32)))).2.1 (by decide) (by decide) k) ?_
              show Go p e below _ (s₁.setTop (mkF m 245 #[.val (.ref a0), .val (.int p1), .val (.int (x0 &&& (255 : Int32))), .val (.int (3 : Int32)), .val (.int lo), .val (.int hi), .val (.int (-1 : Int32)), .val (.int (3 : Int32)), .val (.int (x2 &&& (255 : Int32))), .val (.int (0 : Int32))] []))
              refine Go.st (fun _ k => XS.iload X0.here hx rfl (hb hby d1_245) rfl k) ?_
              obtain ⟨fs, hr, hrun, hended, hW, hsame⟩ := X0.leave (v := some (.int (-1 : Int32))) (fun h => by rw [Bd.returns] at h; cases h)
              refine ⟨_, _, retI X0 hx Bd.returns (hb hby d1_247) hr, hrun, hended, _, _, rfl, ?_, ⟨_, rfl⟩, hW, hsame.mono (by decide) (by decide)⟩
              show Q_rmCE Z x0 x1 x2 x3 a0 p1 kk z vs h0 n0 _ s₁.heap _
              rw [e0]
              refine ⟨?_, N0, rfl⟩
              rw [hj]
              unfold fT3
              rw [if_neg hc9, if_neg hc12, if_neg hc13, if_neg hc16, if_pos hc17]
            · show Go p e below _ (s₁.setTop (mkF m 233 #[.val (.ref a0), .val (.int p1), .val (.int (x0 &&& (255 : Int32))), .val (.int (3 : Int32)), .val (.int lo), .val (.int hi), .val (.int (p1 + (3 : Int32))), .val (.int (2 : Int32)), .val (.int (x2 &&& (255 : Int32))), .val (.int (0 : Int32))] [(.int (191 : Int32)), (.int (x2 &&& (255 : Int32)))]))
              refine Go.st (fun _ k => XS.icmpYes X0.here hx rfl (pc0 := 233) (pc' := 239) rfl (hb hby d1_233) rfl (flt hc17).2.2.2 (by decide) (by decide) k) ?_
              show Go p e below _ (s₁.setTop (mkF m 239 #[.val (.ref a0), .val (.int p1), .val (.int (x0 &&& (255 : Int32))), .val (.int (3 : Int32)), .val (.int lo), .val (.int hi), .val (.int (p1 + (3 : Int32))), .val (.int (2 : Int32)), .val (.int (x2 &&& (255 : Int32))), .val (.int (0 : Int32))] []))
              refine Go.st (fun _ k => XS.iinc X0.here hx rfl (hb hby d1_239) rfl (l' := #[.val (.ref a0), .val (.int p1), .val (.int (x0 &&& (255 : Int32))), .val (.int (3 : Int32)), .val (.int lo), .val (.int hi), .val (.int (p1 + (3 : Int32))), .val (.int (3 : Int32)), .val (.int (x2 &&& (255 : Int32))), .val (.int (0 : Int32))]) rfl k) ?_
              show Go p e below _ (s₁.setTop (mkF m 242 #[.val (.ref a0), .val (.int p1), .val (.int (x0 &&& (255 : Int32))), .val (.int (3 : Int32)), .val (.int lo), .val (.int hi), .val (.int (p1 + (3 : Int32))), .val (.int (3 : Int32)), .val (.int (x2 &&& (255 : Int32))), .val (.int (0 : Int32))] []))
              refine Go.st (fun _ k => XS.goto X0.here hx rfl (pc0 := 242) (pc' := 163) rfl (hb hby d1_242) (by decide) (by decide) k) ?_
              show Go p e below _ (s₁.setTop (mkF m 163 #[.val (.ref a0), .val (.int p1), .val (.int (x0 &&& (255 : Int32))), .val (.int (3 : Int32)), .val (.int lo), .val (.int hi), .val (.int (p1 + (3 : Int32))), .val (.int (3 : Int32)), .val (.int (x2 &&& (255 : Int32))), .val (.int (0 : Int32))] []))
              refine Go.st (fun _ k => XS.iload X0.here hx rfl (hb hby d1_163) rfl k) ?_
              refine Go.st (fun _ k => XS.iloadN X0.here hx rfl (hb hby d1_165) rfl k) ?_
              show Go p e below _ (s₁.setTop (mkF m 166 #[.val (.ref a0), .val (.int p1), .val (.int (x0 &&& (255 : Int32))), .val (.int (3 : Int32)), .val (.int lo), .val (.int hi), .val (.int (p1 + (3 : Int32))), .val (.int (3 : Int32)), .val (.int (x2 &&& (255 : Int32))), .val (.int (0 : Int32))] [(.int (3 : Int32)), (.int (3 : Int32))]))
              refine Go.st (fun _ k => XS.icmpYes X0.here hx rfl (pc0 := 166) (pc' := 245) rfl (hb hby d1_166) rfl (flt (by decide : ¬ ((3 : Int32) < (3 : Int32)))).2.1 (by decide) (by decide) k) ?_
              show Go p e below _ (s₁.setTop (mkF m 245 #[.val (.ref a0), .val (.int p1), .val (.int (x0 &&& (255 : Int32))), .val (.int (3 : Int32)), .val (.int lo), .val (.int hi), .val (.int (p1 + (3 : Int32))), .val (.int (3 : Int32)), .val (.int (x2 &&& (255 : Int32))), .val (.int (0 : Int32))] []))
              refine Go.st (fun _ k => XS.iload X0.here hx rfl (hb hby d1_245) rfl k) ?_
              obtain ⟨fs, hr, hrun, hended, hW, hsame⟩ := X0.leave (v := some (.int (p1 + (3 : Int32)))) (fun h => by rw [Bd.returns] at h; cases h)
              refine ⟨_, _, retI X0 hx Bd.returns (hb hby d1_247) hr, hrun, hended, _, _, rfl, ?_, ⟨_, rfl⟩, hW, hsame.mono (by decide) (by decide)⟩
              show Q_rmCE Z x0 x1 x2 x3 a0 p1 kk z vs h0 n0 _ s₁.heap _
              rw [e0]
              refine ⟨?_, N0, rfl⟩
              rw [hj]
              unfold fT3
              rw [if_neg hc9, if_neg hc12, if_neg hc13, if_neg hc16, if_neg hc17]
  have key4 : ∀ (lo : Int32) (hi : Int32), (fCE x0 x1 x2 x3 p1 z = fT4 lo hi x0 x1 x2 x3 p1 z) → Go p e below (F_rmCE Z x0 x1 x2 x3 a0 p1 kk z vs h0 n0 s) (s₁.setTop (mkF m 145 #[.val (.ref a0), .val (.int p1), .val (.int (x0 &&& (255 : Int32))), .val (.int (4 : Int32)), .val (.int lo), .val (.int hi), .unset, .unset, .unset, .unset] [])) := by
    intro lo hi hj
    show Go p e below _ (s₁.setTop (mkF m 145 #[.val (.ref a0), .val (.int p1), .val (.int (x0 &&& (255 : Int32))), .val (.int (4 : Int32)), .val (.int lo), .val (.int hi), .unset, .unset, .unset, .unset] []))
    refine Go.st (fun _ k => XS.aloadN X0.here hx rfl (hb hby d1_145) rfl rfl k) ?_
    show Go p e below _ (s₁.setTop (mkF m 146 #[.val (.ref a0), .val (.int p1), .val (.int (x0 &&& (255 : Int32))), .val (.int (4 : Int32)), .val (.int lo), .val (.int hi), .unset, .unset, .unset, .unset] [(.ref a0)]))
    obtain ⟨cl18, Ar18, ck18, Sz18, Nn18, Hs18, Gs18⟩ := id V
    refine Go.st (fun _ k => X0.arraylength hx (by rw [e0]; exact Ar18.1) (State.isArrayOf_alike hZ.alike Ar18.2.1) (g := (mkF m 146 #[.val (.ref a0), .val (.int p1), .val (.int (x0 &&& (255 : Int32))), .val (.int (4 : Int32)), .val (.int lo), .val (.int hi), .unset, .unset, .unset, .unset] [(.ref a0)])) rfl rfl (hb hby d1_146) _ k) ?_
    rw [len_of Sz18 Nn18]
    show Go p e below _ (s₁.setTop (mkF m 147 #[.val (.ref a0), .val (.int p1), .val (.int (x0 &&& (255 : Int32))), .val (.int (4 : Int32)), .val (.int lo), .val (.int hi), .unset, .unset, .unset, .unset] [(.int z)]))
    refine Go.st (fun _ k => XS.iloadN X0.here hx rfl (hb hby d1_147) rfl k) ?_
    refine Go.st (fun _ k => XS.isub X0.here hx rfl (hb hby d1_148) rfl k) ?_
    show Go p e below _ (s₁.setTop (mkF m 149 #[.val (.ref a0), .val (.int p1), .val (.int (x0 &&& (255 : Int32))), .val (.int (4 : Int32)), .val (.int lo), .val (.int hi), .unset, .unset, .unset, .unset] [(.int (z - p1))]))
    refine Go.st (fun _ k => XS.iloadN X0.here hx rfl (hb hby d1_149) rfl k) ?_
    by_cases hc19 : (z - p1) < (4 : Int32)
    · show Go p e below _ (s₁.setTop (mkF m 150 #[.val (.ref a0), .val (.int p1), .val (.int (x0 &&& (255 : Int32))), .val (.int (4 : Int32)), .val (.int lo), .val (.int hi), .unset, .unset, .unset, .unset] [(.int (4 : Int32)), (.int (z - p1))]))
      refine Go.st (fun _ k => XS.icmpNo X0.here hx rfl (hb hby d1_150) rfl (tlt hc19).2.1 k) ?_
      show Go p e below _ (s₁.setTop (mkF m 153 #[.val (.ref a0), .val (.int p1), .val (.int (x0 &&& (255 : Int32))), .val (.int (4 : Int32)), .val (.int lo), .val (.int hi), .unset, .unset, .unset, .unset] []))
      refine Go.st (fun _ k => XS.iconst X0.here hx rfl (hb hby d1_153) k) ?_
      obtain ⟨fs, hr, hrun, hended, hW, hsame⟩ := X0.leave (v := some (.int (-1 : Int32))) (fun h => by rw [Bd.returns] at h; cases h)
      refine ⟨_, _, retI X0 hx Bd.returns (hb hby d1_154) hr, hrun, hended, _, _, rfl, ?_, ⟨_, rfl⟩, hW, hsame.mono (by decide) (by decide)⟩
      show Q_rmCE Z x0 x1 x2 x3 a0 p1 kk z vs h0 n0 _ s₁.heap _
      rw [e0]
      refine ⟨?_, N0, rfl⟩
      rw [hj]
      unfold fT4
      rw [if_pos hc19]
    · show Go p e below _ (s₁.setTop (mkF m 150 #[.val (.ref a0), .val (.int p1), .val (.int (x0 &&& (255 : Int32))), .val (.int (4 : Int32)), .val (.int lo), .val (.int hi), .unset, .unset, .unset, .unset] [(.int (4 : Int32)), (.int (z - p1))]))
      refine Go.st (fun _ k => XS.icmpYes X0.here hx rfl (pc0 := 150) (pc' := 155) rfl (hb hby d1_150) rfl (flt hc19).2.1 (by decide) (by decide) k) ?_
      show Go p e below _ (s₁.setTop (mkF m 155 #[.val (.ref a0), .val (.int p1), .val (.int (x0 &&& (255 : Int32))), .val (.int (4 : Int32)), .val (.int lo), .val (.int hi), .unset, .unset, .unset, .unset] []))
      refine Go.st (fun _ k => XS.iloadN X0.here hx rfl (hb hby d1_155) rfl k) ?_
      refine Go.st (fun _ k => XS.iloadN X0.here hx rfl (hb hby d1_156) rfl k) ?_
      show Go p e below _ (s₁.setTop (mkF m 157 #[.val (.ref a0), .val (.int p1), .val (.int (x0 &&& (255 : Int32))), .val (.int (4 : Int32)), .val (.int lo), .val (.int hi), .unset, .unset, .unset, .unset] [(.int (4 : Int32)), (.int p1)]))
      refine Go.st (fun _ k => XS.iadd X0.here hx rfl (hb hby d1_157) rfl k) ?_
      refine Go.st (fun _ k => XS.istore X0.here hx rfl (hb hby d1_158) rfl (l' := #[.val (.ref a0), .val (.int p1), .val (.int (x0 &&& (255 : Int32))), .val (.int (4 : Int32)), .val (.int lo), .val (.int hi), .val (.int (p1 + (4 : Int32))), .unset, .unset, .unset]) rfl k) ?_
      show Go p e below _ (s₁.setTop (mkF m 160 #[.val (.ref a0), .val (.int p1), .val (.int (x0 &&& (255 : Int32))), .val (.int (4 : Int32)), .val (.int lo), .val (.int hi), .val (.int (p1 + (4 : Int32))), .unset, .unset, .unset] []))
      refine Go.st (fun _ k => XS.iconst X0.here hx rfl (hb hby d1_160) k) ?_
      refine Go.st (fun _ k => XS.istore X0.here hx rfl (hb hby d1_161) rfl (l' := #[.val (.ref a0), .val (.int p1), .val (.int (x0 &&& (255 : Int32))), .val (.int (4 : Int32)), .val (.int lo), .val (.int hi), .val (.int (p1 + (4 : Int32))), .val (.int (1 : Int32)), .unset, .unset]) rfl k) ?_
      show Go p e below _ (s₁.setTop (mkF m 163 #[.val (.ref a0), .val (.int p1), .val (.int (x0 &&& (255 : Int32))), .val (.int (4 : Int32)), .val (.int lo), .val (.int hi), .val (.int (p1 + (4 : Int32))), .val (.int (1 : Int32)), .unset, .unset] []))
      refine Go.st (fun _ k => XS.iload X0.here hx rfl (hb hby d1_163) rfl k) ?_
      refine Go.st (fun _ k => XS.iloadN X0.here hx rfl (hb hby d1_165) rfl k) ?_
      show Go p e below _ (s₁.setTop (mkF m 166 #[.val (.ref a0), .val (.int p1), .val (.int (x0 &&& (255 : Int32))), .val (.int (4 : Int32)), .val (.int lo), .val (.int hi), .val (.int (p1 + (4 : Int32))), .val (.int (1 : Int32)), .unset, .unset] [(.int (4 : Int32)), (.int (1 : Int32))]))
      refine Go.st (fun _ k => XS.icmpNo X0.here hx rfl (hb hby d1_166) rfl (tlt (by decide : ((1 : Int32) < (4 : Int32)))).2.1 k) ?_
      show Go p e below _ (s₁.setTop (mkF m 169 #[.val (.ref a0), .val (.int p1), .val (.int (x0 &&& (255 : Int32))), .val (.int (4 : Int32)), .val (.int lo), .val (.int hi), .val (.int (p1 + (4 : Int32))), .val (.int (1 : Int32)), .unset, .unset] []))
      refine Go.st (fun _ k => XS.iload X0.here hx rfl (hb hby d1_169) rfl k) ?_
      refine Go.st (fun _ k => XS.iconst X0.here hx rfl (hb hby d1_171) k) ?_
      show Go p e below _ (s₁.setTop (mkF m 172 #[.val (.ref a0), .val (.int p1), .val (.int (x0 &&& (255 : Int32))), .val (.int (4 : Int32)), .val (.int lo), .val (.int hi), .val (.int (p1 + (4 : Int32))), .val (.int (1 : Int32)), .unset, .unset] [(.int (-1 : Int32)), (.int (p1 + (4 : Int32)))]))
      refine Go.st (fun _ k => XS.icmpNo X0.here hx rfl (hb hby d1_172) rfl (feq (own_notm1 hs0 hs1 hs2 (by decide) (by decide))).1 k) ?_
      show Go p e below _ (s₁.setTop (mkF m 175 #[.val (.ref a0), .val (.int p1), .val (.int (x0 &&& (255 : Int32))), .val (.int (4 : Int32)), .val (.int lo), .val (.int hi), .val (.int (p1 + (4 : Int32))), .val (.int (1 : Int32)), .unset, .unset] []))
      refine Go.st (fun _ k => XS.aloadN X0.here hx rfl (hb hby d1_175) rfl rfl k) ?_
      refine Go.st (fun _ k => XS.iloadN X0.here hx rfl (hb hby d1_176) rfl k) ?_
      show Go p e below _ (s₁.setTop (mkF m 177 #[.val (.ref a0), .val (.int p1), .val (.int (x0 &&& (255 : Int32))), .val (.int (4 : Int32)), .val (.int lo), .val (.int hi), .val (.int (p1 + (4 : Int32))), .val (.int (1 : Int32)), .unset, .unset] [(.int p1), (.ref a0)]))
      refine Go.st (fun _ k => XS.iload X0.here hx rfl (hb hby d1_177) rfl k) ?_
      refine Go.st (fun _ k => XS.iadd X0.here hx rfl (hb hby d1_179) rfl k) ?_
      show Go p e below _ (s₁.setTop (mkF m 180 #[.val (.ref a0), .val (.int p1), .val (.int (x0 &&& (255 : Int32))), .val (.int (4 : Int32)), .val (.int lo), .val (.int hi), .val (.int (p1 + (4 : Int32))), .val (.int (1 : Int32)), .unset, .unset] [(.int (p1 + (1 : Int32))), (.ref a0)]))
      have hk20 : p1.toInt + 1 < z.toInt := own_room hs0 hs1 hs2 hc19 (by decide) (by decide)
      obtain ⟨cl21, Ar21, ck21, Sz21, Nn21, Hs21, Gs21⟩ := id V
      have hin21 : ¬ ((p1 + (1 : Int32)) < 0 ∨ cl21.slots.size ≤ ((p1 + (1 : Int32))).toNatClampNeg) := inb_of Sz21 (own_ink hs0 hs2 (k := (1 : Int32)) (by decide) (by decide) hk20)
      have hat21 : cl21.slots[((p1 + (1 : Int32))).toNatClampNeg]? = some (.int x1) := Hs21.at hin21 (he1 hk20)
      refine Go.st (fun _ k => X0.baloadBytes hx (j := (p1 + (1 : Int32))) (v := (.int x1)) (by rw [e0]; exact Ar21.1) (State.isArrayOf_alike hZ.alike Ar21.2.1) Ar21.2.2 hin21 hat21 (g := (mkF m 180 #[.val (.ref a0), .val (.int p1), .val (.int (x0 &&& (255 : Int32))), .val (.int (4 : Int32)), .val (.int lo), .val (.int hi), .val (.int (p1 + (4 : Int32))), .val (.int (1 : Int32)), .unset, .unset] [(.int (p1 + (1 : Int32))), (.ref a0)])) rfl rfl (hb hby d1_180) _ k) ?_
      show Go p e below _ (s₁.setTop (mkF m 181 #[.val (.ref a0), .val (.int p1), .val (.int (x0 &&& (255 : Int32))), .val (.int (4 : Int32)), .val (.int lo), .val (.int hi), .val (.int (p1 + (4 : Int32))), .val (.int (1 : Int32)), .unset, .unset] [(.int x1)]))
      refine Go.st (fun _ k => XS.sipush X0.here hx rfl (hb hby d1_181) k) ?_
      refine Go.st (fun _ k => XS.iand X0.here hx rfl (hb hby d1_184) rfl k) ?_
      show Go p e below _ (s₁.setTop (mkF m 185 #[.val (.ref a0), .val (.int p1), .val (.int (x0 &&& (255 : Int32))), .val (.int (4 : Int32)), .val (.int lo), .val (.int hi), .val (.int (p1 + (4 : Int32))), .val (.int (1 : Int32)), .unset, .unset] [(.int (x1 &&& (255 : Int32)))]))
      refine Go.st (fun _ k => XS.istore X0.here hx rfl (hb hby d1_185) rfl (l' := #[.val (.ref a0), .val (.int p1), .val (.int (x0 &&& (255 : Int32))), .val (.int (4 : Int32)), .val (.int lo), .val (.int hi), .val (.int (p1 + (4 : Int32))), .val (.int (1 : Int32)), .val (.int (x1 &&& (255 : Int32))), .unset]) rfl k) ?_
      show Go p e below _ (s₁.setTop (mkF m 187 #[.val (.ref a0), .val (.int p1), .val (.int (x0 &&& (255 : Int32))), .val (.int (4 : Int32)), .val (.int lo), .val (.int hi), .val (.int (p1 + (4 : Int32))), .val (.int (1 : Int32)), .val (.int (x1 &&& (255 : Int32))), .unset] []))
      refine Go.st (fun _ k => XS.iload X0.here hx rfl (hb hby d1_187) rfl k) ?_
      refine Go.st (fun _ k => XS.iconst X0.here hx rfl (hb hby d1_189) k) ?_
      show Go p e below _ (s₁.setTop (mkF m 190 #[.val (.ref a0), .val (.int p1), .val (.int (x0 &&& (255 : Int32))), .val (.int (4 : Int32)), .val (.int lo), .val (.int hi), .val (.int (p1 + (4 : Int32))), .val (.int (1 : Int32)), .val (.int (x1 &&& (255 : Int32))), .unset] [(.int (1 : Int32)), (.int (1 : Int32))]))
      refine Go.st (fun _ k => XS.icmpNo X0.here hx rfl (hb hby d1_190) rfl (teq (by decide : ((1 : Int32) = (1 : Int32)))).2 k) ?_
      show Go p e below _ (s₁.setTop (mkF m 193 #[.val (.ref a0), .val (.int p1), .val (.int (x0 &&& (255 : Int32))), .val (.int (4 : Int32)), .val (.int lo), .val (.int hi), .val (.int (p1 + (4 : Int32))), .val (.int (1 : Int32)), .val (.int (x1 &&& (255 : Int32))), .unset] []))
      refine Go.st (fun _ k => XS.iconst X0.here hx rfl (hb hby d1_193) k) ?_
      refine Go.st (fun _ k => XS.goto X0.here hx rfl (pc0 := 194) (pc' := 198) rfl (hb hby d1_194) (by decide) (by decide) k) ?_
      show Go p e below _ (s₁.setTop (mkF m 198 #[.val (.ref a0), .val (.int p1), .val (.int (x0 &&& (255 : Int32))), .val (.int (4 : Int32)), .val (.int lo), .val (.int hi), .val (.int (p1 + (4 : Int32))), .val (.int (1 : Int32)), .val (.int (x1 &&& (255 : Int32))), .unset] [(.int (1 : Int32))]))
      refine Go.st (fun _ k => XS.istore X0.here hx rfl (hb hby d1_198) rfl (l' := #[.val (.ref a0), .val (.int p1), .val (.int (x0 &&& (255 : Int32))), .val (.int (4 : Int32)), .val (.int lo), .val (.int hi), .val (.int (p1 + (4 : Int32))), .val (.int (1 : Int32)), .val (.int (x1 &&& (255 : Int32))), .val (.int (1 : Int32))]) rfl k) ?_
      show Go p e below _ (s₁.setTop (mkF m 200 #[.val (.ref a0), .val (.int p1), .val (.int (x0 &&& (255 : Int32))), .val (.int (4 : Int32)), .val (.int lo), .val (.int hi), .val (.int (p1 + (4 : Int32))), .val (.int (1 : Int32)), .val (.int (x1 &&& (255 : Int32))), .val (.int (1 : Int32))] []))
      refine Go.st (fun _ k => XS.iload X0.here hx rfl (hb hby d1_200) rfl k) ?_
      refine Go.st (fun _ k => XS.iload X0.here hx rfl (hb hby d1_202) rfl k) ?_
      show Go p e below _ (s₁.setTop (mkF m 204 #[.val (.ref a0), .val (.int p1), .val (.int (x0 &&& (255 : Int32))), .val (.int (4 : Int32)), .val (.int lo), .val (.int hi), .val (.int (p1 + (4 : Int32))), .val (.int (1 : Int32)), .val (.int (x1 &&& (255 : Int32))), .val (.int (1 : Int32))] [(.int (1 : Int32)), (.int (x1 &&& (255 : Int32)))]))
      refine Go.st (fun _ k => XS.ifNo X0.here hx rfl (hb hby d1_204) rfl ((if0 _ _).trans (feq (by decide : ¬ ((1 : Int32) = (0 : Int32)))).1) k) ?_
      show Go p e below _ (s₁.setTop (mkF m 207 #[.val (.ref a0), .val (.int p1), .val (.int (x0 &&& (255 : Int32))), .val (.int (4 : Int32)), .val (.int lo), .val (.int hi), .val (.int (p1 + (4 : Int32))), .val (.int (1 : Int32)), .val (.int (x1 &&& (255 : Int32))), .val (.int (1 : Int32))] [(.int (x1 &&& (255 : Int32)))]))
      refine Go.st (fun _ k => XS.iload X0.here hx rfl (hb hby d1_207) rfl k) ?_
      refine Go.st (fun _ k => XS.goto X0.here hx rfl (pc0 := 209) (pc' := 215) rfl (hb hby d1_209) (by decide) (by decide) k) ?_
      show Go p e below _ (s₁.setTop (mkF m 215 #[.val (.ref a0), .val (.int p1), .val (.int (x0 &&& (255 : Int32))), .val (.int (4 : Int32)), .val (.int lo), .val (.int hi), .val (.int (p1 + (4 : Int32))), .val (.int (1 : Int32)), .val (.int (x1 &&& (255 : Int32))), .val (.int (1 : Int32))] [(.int lo), (.int (x1 &&& (255 : Int32)))]))
      by_cases hc22 : (x1 &&& (255 : Int32)) < lo
      · show Go p e below _ (s₁.setTop (mkF m 215 #[.val (.ref a0), .val (.int p1), .val (.int (x0 &&& (255 : Int32))), .val (.int (4 : Int32)), .val (.int lo), .val (.int hi), .val (.int (p1 + (4 : Int32))), .val (.int (1 : Int32)), .val (.int (x1 &&& (255 : Int32))), .val (.int (1 : Int32))] [(.int lo), (.int (x1 &&& (255 : Int32)))]))
        refine Go.st (fun _ k => XS.icmpYes X0.here hx rfl (pc0 := 215) (pc' := 236) rfl (hb hby d1_215) rfl (tlt hc22).1 (by decide) (by decide) k) ?_
        show Go p e below _ (s₁.setTop (mkF m 236 #[.val (.ref a0), .val (.int p1), .val (.int (x0 &&& (255 : Int32))), .val (.int (4 : Int32)), .val (.int lo), .val (.int hi), .val (.int (p1 + (4 : Int32))), .val (.int (1 : Int32)), .val (.int (x1 &&& (255 : Int32))), .val (.int (1 : Int32))] []))
        refine Go.st (fun _ k => XS.iconst X0.here hx rfl (hb hby d1_236) k) ?_
        refine Go.st (fun _ k => XS.istore X0.here hx rfl (hb hby d1_237) rfl (l' := #[.val (.ref a0), .val (.int p1), .val (.int (x0 &&& (255 : Int32))), .val (.int (4 : Int32)), .val (.int lo), .val (.int hi), .val (.int (-1 : Int32)), .val (.int (1 : Int32)), .val (.int (x1 &&& (255 : Int32))), .val (.int (1 : Int32))]) rfl k) ?_
        show Go p e below _ (s₁.setTop (mkF m 239 #[.val (.ref a0), .val (.int p1), .val (.int (x0 &&& (255 : Int32))), .val (.int (4 : Int32)), .val (.int lo), .val (.int hi), .val (.int (-1 : Int32)), .val (.int (1 : Int32)), .val (.int (x1 &&& (255 : Int32))), .val (.int (1 : Int32))] []))
        refine Go.st (fun _ k => XS.iinc X0.here hx rfl (hb hby d1_239) rfl (l' := #[.val (.ref a0), .val (.int p1), .val (.int (x0 &&& (255 : Int32))), .val (.int (4 : Int32)), .val (.int lo), .val (.int hi), .val (.int (-1 : Int32)), .val (.int (2 : Int32)), .val (.int (x1 &&& (255 : Int32))), .val (.int (1 : Int32))]) rfl k) ?_
        show Go p e below _ (s₁.setTop (mkF m 242 #[.val (.ref a0), .val (.int p1), .val (.int (x0 &&& (255 : Int32))), .val (.int (4 : Int32)), .val (.int lo), .val (.int hi), .val (.int (-1 : Int32)), .val (.int (2 : Int32)), .val (.int (x1 &&& (255 : Int32))), .val (.int (1 : Int32))] []))
        refine Go.st (fun _ k => XS.goto X0.here hx rfl (pc0 := 242) (pc' := 163) rfl (hb hby d1_242) (by decide) (by decide) k) ?_
        show Go p e below _ (s₁.setTop (mkF m 163 #[.val (.ref a0), .val (.int p1), .val (.int (x0 &&& (255 : Int32))), .val (.int (4 : Int32)), .val (.int lo), .val (.int hi), .val (.int (-1 : Int32)), .val (.int (2 : Int32)), .val (.int (x1 &&& (255 : Int32))), .val (.int (1 : Int32))] []))
        refine Go.st (fun _ k => XS.iload X0.here hx rfl (hb hby d1_163) rfl k) ?_
        refine Go.st (fun _ k => XS.iloadN X0.here hx rfl (hb hby d1_165) rfl k) ?_
        show Go p e below _ (s₁.setTop (mkF m 166 #[.val (.ref a0), .val (.int p1), .val (.int (x0 &&& (255 : Int32))), .val (.int (4 : Int32)), .val (.int lo), .val (.int hi), .val (.int (-1 : Int32)), .val (.int (2 : Int32)), .val (.int (x1 &&& (255 : Int32))), .val (.int (1 : Int32))] [(.int (4 : Int32)), (.int (2 : Int32))]))
        refine Go.st (fun _ k => XS.icmpNo X0.here hx rfl (hb hby d1_166) rfl (tlt (by decide : ((2 : Int32) < (4 : Int32)))).2.1 k) ?_
        show Go p e below _ (s₁.setTop (mkF m 169 #[.val (.ref a0), .val (.int p1), .val (.int (x0 &&& (255 : Int32))), .val (.int (4 : Int32)), .val (.int lo), .val (.int hi), .val (.int (-1 : Int32)), .val (.int (2 : Int32)), .val (.int (x1 &&& (255 : Int32))), .val (.int (1 : Int32))] []))
        refine Go.st (fun _ k => XS.iload X0.here hx rfl (hb hby d1_169) rfl k) ?_
        refine Go.st (fun _ k => XS.iconst X0.here hx rfl (hb hby d1_171) k) ?_
        show Go p e below _ (s₁.setTop (mkF m 172 #[.val (.ref a0), .val (.int p1), .val (.int (x0 &&& (255 : Int32))), .val (.int (4 : Int32)), .val (.int lo), .val (.int hi), .val (.int (-1 : Int32)), .val (.int (2 : Int32)), .val (.int (x1 &&& (255 : Int32))), .val (.int (1 : Int32))] [(.int (-1 : Int32)), (.int (-1 : Int32))]))
        refine Go.st (fun _ k => XS.icmpYes X0.here hx rfl (pc0 := 172) (pc' := 245) rfl (hb hby d1_172) rfl (teq (by decide : ((-1 : Int32) = (-1 : Int32)))).1 (by decide) (by decide) k) ?_
        show Go p e below _ (s₁.setTop (mkF m 245 #[.val (.ref a0), .val (.int p1), .val (.int (x0 &&& (255 : Int32))), .val (.int (4 : Int32)), .val (.int lo), .val (.int hi), .val (.int (-1 : Int32)), .val (.int (2 : Int32)), .val (.int (x1 &&& (255 : Int32))), .val (.int (1 : Int32))] []))
        refine Go.st (fun _ k => XS.iload X0.here hx rfl (hb hby d1_245) rfl k) ?_
        obtain ⟨fs, hr, hrun, hended, hW, hsame⟩ := X0.leave (v := some (.int (-1 : Int32))) (fun h => by rw [Bd.returns] at h; cases h)
        refine ⟨_, _, retI X0 hx Bd.returns (hb hby d1_247) hr, hrun, hended, _, _, rfl, ?_, ⟨_, rfl⟩, hW, hsame.mono (by decide) (by decide)⟩
        show Q_rmCE Z x0 x1 x2 x3 a0 p1 kk z vs h0 n0 _ s₁.heap _
        rw [e0]
        refine ⟨?_, N0, rfl⟩
        rw [hj]
        unfold fT4
        rw [if_neg hc19, if_pos hc22]
      · show Go p e below _ (s₁.setTop (mkF m 215 #[.val (.ref a0), .val (.int p1), .val (.int (x0 &&& (255 : Int32))), .val (.int (4 : Int32)), .val (.int lo), .val (.int hi), .val (.int (p1 + (4 : Int32))), .val (.int (1 : Int32)), .val (.int (x1 &&& (255 : Int32))), .val (.int (1 : Int32))] [(.int lo), (.int (x1 &&& (255 : Int32)))]))
        refine Go.st (fun _ k => XS.icmpNo X0.here hx rfl (hb hby d1_215) rfl (flt hc22).1 k) ?_
        show Go p e below _ (s₁.setTop (mkF m 218 #[.val (.ref a0), .val (.int p1), .val (.int (x0 &&& (255 : Int32))), .val (.int (4 : Int32)), .val (.int lo), .val (.int hi), .val (.int (p1 + (4 : Int32))), .val (.int (1 : Int32)), .val (.int (x1 &&& (255 : Int32))), .val (.int (1 : Int32))] []))
        refine Go.st (fun _ k => XS.iload X0.here hx rfl (hb hby d1_218) rfl k) ?_
        refine Go.st (fun _ k => XS.iload X0.here hx rfl (hb hby d1_220) rfl k) ?_
        show Go p e below _ (s₁.setTop (mkF m 222 #[.val (.ref a0), .val (.int p1), .val (.int (x0 &&& (255 : Int32))), .val (.int (4 : Int32)), .val (.int lo), .val (.int hi), .val (.int (p1 + (4 : Int32))), .val (.int (1 : Int32)), .val (.int (x1 &&& (255 : Int32))), .val (.int (1 : Int32))] [(.int (1 : Int32)), (.int (x1 &&& (255 : Int32)))]))
        refine Go.st (fun _ k => XS.ifNo X0.here hx rfl (hb hby d1_222) rfl ((if0 _ _).trans (feq (by decide : ¬ ((1 : Int32) = (0 : Int32)))).1) k) ?_
        show Go p e below _ (s₁.setTop (mkF m 225 #[.val (.ref a0), .val (.int p1), .val (.int (x0 &&& (255 : Int32))), .val (.int (4 : Int32)), .val (.int lo), .val (.int hi), .val (.int (p1 + (4 : Int32))), .val (.int (1 : Int32)), .val (.int (x1 &&& (255 : Int32))), .val (.int (1 : Int32))] [(.int (x1 &&& (255 : Int32)))]))
        refine Go.st (fun _ k => XS.iload X0.here hx rfl (hb hby d1_225) rfl k) ?_
        refine Go.st (fun _ k => XS.goto X0.here hx rfl (pc0 := 227) (pc' := 233) rfl (hb hby d1_227) (by decide) (by decide) k) ?_
        show Go p e below _ (s₁.setTop (mkF m 233 #[.val (.ref a0), .val (.int p1), .val (.int (x0 &&& (255 : Int32))), .val (.int (4 : Int32)), .val (.int lo), .val (.int hi), .val (.int (p1 + (4 : Int32))), .val (.int (1 : Int32)), .val (.int (x1 &&& (255 : Int32))), .val (.int (1 : Int32))] [(.int hi), (.int (x1 &&& (255 : Int32)))]))
        by_cases hc23 : hi < (x1 &&& (255 : Int32))
        · show Go p e below _ (s₁.setTop (mkF m 233 #[.val (.ref a0), .val (.int p1), .val (.int (x0 &&& (255 : Int32))), .val (.int (4 : Int32)), .val (.int lo), .val (.int hi), .val (.int (p1 + (4 : Int32))), .val (.int (1 : Int32)), .val (.int (x1 &&& (255 : Int32))), .val (.int (1 : Int32))] [(.int hi), (.int (x1 &&& (255 : Int32)))]))
          refine Go.st (fun _ k => XS.icmpNo X0.here hx rfl (hb hby d1_233) rfl (tlt hc23).2.2.2 k) ?_
          show Go p e below _ (s₁.setTop (mkF m 236 #[.val (.ref a0), .val (.int p1), .val (.int (x0 &&& (255 : Int32))), .val (.int (4 : Int32)), .val (.int lo), .val (.int hi), .val (.int (p1 + (4 : Int32))), .val (.int (1 : Int32)), .val (.int (x1 &&& (255 : Int32))), .val (.int (1 : Int32))] []))
          refine Go.st (fun _ k => XS.iconst X0.here hx rfl (hb hby d1_236) k) ?_
          refine Go.st (fun _ k => XS.istore X0.here hx rfl (hb hby d1_237) rfl (l' := #[.val (.ref a0), .val (.int p1), .val (.int (x0 &&& (255 : Int32))), .val (.int (4 : Int32)), .val (.int lo), .val (.int hi), .val (.int (-1 : Int32)), .val (.int (1 : Int32)), .val (.int (x1 &&& (255 : Int32))), .val (.int (1 : Int32))]) rfl k) ?_
          show Go p e below _ (s₁.setTop (mkF m 239 #[.val (.ref a0), .val (.int p1), .val (.int (x0 &&& (255 : Int32))), .val (.int (4 : Int32)), .val (.int lo), .val (.int hi), .val (.int (-1 : Int32)), .val (.int (1 : Int32)), .val (.int (x1 &&& (255 : Int32))), .val (.int (1 : Int32))] []))
          refine Go.st (fun _ k => XS.iinc X0.here hx rfl (hb hby d1_239) rfl (l' := #[.val (.ref a0), .val (.int p1), .val (.int (x0 &&& (255 : Int32))), .val (.int (4 : Int32)), .val (.int lo), .val (.int hi), .val (.int (-1 : Int32)), .val (.int (2 : Int32)), .val (.int (x1 &&& (255 : Int32))), .val (.int (1 : Int32))]) rfl k) ?_
          show Go p e below _ (s₁.setTop (mkF m 242 #[.val (.ref a0), .val (.int p1), .val (.int (x0 &&& (255 : Int32))), .val (.int (4 : Int32)), .val (.int lo), .val (.int hi), .val (.int (-1 : Int32)), .val (.int (2 : Int32)), .val (.int (x1 &&& (255 : Int32))), .val (.int (1 : Int32))] []))
          refine Go.st (fun _ k => XS.goto X0.here hx rfl (pc0 := 242) (pc' := 163) rfl (hb hby d1_242) (by decide) (by decide) k) ?_
          show Go p e below _ (s₁.setTop (mkF m 163 #[.val (.ref a0), .val (.int p1), .val (.int (x0 &&& (255 : Int32))), .val (.int (4 : Int32)), .val (.int lo), .val (.int hi), .val (.int (-1 : Int32)), .val (.int (2 : Int32)), .val (.int (x1 &&& (255 : Int32))), .val (.int (1 : Int32))] []))
          refine Go.st (fun _ k => XS.iload X0.here hx rfl (hb hby d1_163) rfl k) ?_
          refine Go.st (fun _ k => XS.iloadN X0.here hx rfl (hb hby d1_165) rfl k) ?_
          show Go p e below _ (s₁.setTop (mkF m 166 #[.val (.ref a0), .val (.int p1), .val (.int (x0 &&& (255 : Int32))), .val (.int (4 : Int32)), .val (.int lo), .val (.int hi), .val (.int (-1 : Int32)), .val (.int (2 : Int32)), .val (.int (x1 &&& (255 : Int32))), .val (.int (1 : Int32))] [(.int (4 : Int32)), (.int (2 : Int32))]))
          refine Go.st (fun _ k => XS.icmpNo X0.here hx rfl (hb hby d1_166) rfl (tlt (by decide : ((2 : Int32) < (4 : Int32)))).2.1 k) ?_
          show Go p e below _ (s₁.setTop (mkF m 169 #[.val (.ref a0), .val (.int p1), .val (.int (x0 &&& (255 : Int32))), .val (.int (4 : Int32)), .val (.int lo), .val (.int hi), .val (.int (-1 : Int32)), .val (.int (2 : Int32)), .val (.int (x1 &&& (255 : Int32))), .val (.int (1 : Int32))] []))
          refine Go.st (fun _ k => XS.iload X0.here hx rfl (hb hby d1_169) rfl k) ?_
          refine Go.st (fun _ k => XS.iconst X0.here hx rfl (hb hby d1_171) k) ?_
          show Go p e below _ (s₁.setTop (mkF m 172 #[.val (.ref a0), .val (.int p1), .val (.int (x0 &&& (255 : Int32))), .val (.int (4 : Int32)), .val (.int lo), .val (.int hi), .val (.int (-1 : Int32)), .val (.int (2 : Int32)), .val (.int (x1 &&& (255 : Int32))), .val (.int (1 : Int32))] [(.int (-1 : Int32)), (.int (-1 : Int32))]))
          refine Go.st (fun _ k => XS.icmpYes X0.here hx rfl (pc0 := 172) (pc' := 245) rfl (hb hby d1_172) rfl (teq (by decide : ((-1 : Int32) = (-1 : Int32)))).1 (by decide) (by decide) k) ?_
          show Go p e below _ (s₁.setTop (mkF m 245 #[.val (.ref a0), .val (.int p1), .val (.int (x0 &&& (255 : Int32))), .val (.int (4 : Int32)), .val (.int lo), .val (.int hi), .val (.int (-1 : Int32)), .val (.int (2 : Int32)), .val (.int (x1 &&& (255 : Int32))), .val (.int (1 : Int32))] []))
          refine Go.st (fun _ k => XS.iload X0.here hx rfl (hb hby d1_245) rfl k) ?_
          obtain ⟨fs, hr, hrun, hended, hW, hsame⟩ := X0.leave (v := some (.int (-1 : Int32))) (fun h => by rw [Bd.returns] at h; cases h)
          refine ⟨_, _, retI X0 hx Bd.returns (hb hby d1_247) hr, hrun, hended, _, _, rfl, ?_, ⟨_, rfl⟩, hW, hsame.mono (by decide) (by decide)⟩
          show Q_rmCE Z x0 x1 x2 x3 a0 p1 kk z vs h0 n0 _ s₁.heap _
          rw [e0]
          refine ⟨?_, N0, rfl⟩
          rw [hj]
          unfold fT4
          rw [if_neg hc19, if_neg hc22, if_pos hc23]
        · show Go p e below _ (s₁.setTop (mkF m 233 #[.val (.ref a0), .val (.int p1), .val (.int (x0 &&& (255 : Int32))), .val (.int (4 : Int32)), .val (.int lo), .val (.int hi), .val (.int (p1 + (4 : Int32))), .val (.int (1 : Int32)), .val (.int (x1 &&& (255 : Int32))), .val (.int (1 : Int32))] [(.int hi), (.int (x1 &&& (255 : Int32)))]))
          refine Go.st (fun _ k => XS.icmpYes X0.here hx rfl (pc0 := 233) (pc' := 239) rfl (hb hby d1_233) rfl (flt hc23).2.2.2 (by decide) (by decide) k) ?_
          show Go p e below _ (s₁.setTop (mkF m 239 #[.val (.ref a0), .val (.int p1), .val (.int (x0 &&& (255 : Int32))), .val (.int (4 : Int32)), .val (.int lo), .val (.int hi), .val (.int (p1 + (4 : Int32))), .val (.int (1 : Int32)), .val (.int (x1 &&& (255 : Int32))), .val (.int (1 : Int32))] []))
          refine Go.st (fun _ k => XS.iinc X0.here hx rfl (hb hby d1_239) rfl (l' := #[.val (.ref a0), .val (.int p1), .val (.int (x0 &&& (255 : Int32))), .val (.int (4 : Int32)), .val (.int lo), .val (.int hi), .val (.int (p1 + (4 : Int32))), .val (.int (2 : Int32)), .val (.int (x1 &&& (255 : Int32))), .val (.int (1 : Int32))]) rfl k) ?_
          show Go p e below _ (s₁.setTop (mkF m 242 #[.val (.ref a0), .val (.int p1), .val (.int (x0 &&& (255 : Int32))), .val (.int (4 : Int32)), .val (.int lo), .val (.int hi), .val (.int (p1 + (4 : Int32))), .val (.int (2 : Int32)), .val (.int (x1 &&& (255 : Int32))), .val (.int (1 : Int32))] []))
          refine Go.st (fun _ k => XS.goto X0.here hx rfl (pc0 := 242) (pc' := 163) rfl (hb hby d1_242) (by decide) (by decide) k) ?_
          show Go p e below _ (s₁.setTop (mkF m 163 #[.val (.ref a0), .val (.int p1), .val (.int (x0 &&& (255 : Int32))), .val (.int (4 : Int32)), .val (.int lo), .val (.int hi), .val (.int (p1 + (4 : Int32))), .val (.int (2 : Int32)), .val (.int (x1 &&& (255 : Int32))), .val (.int (1 : Int32))] []))
          refine Go.st (fun _ k => XS.iload X0.here hx rfl (hb hby d1_163) rfl k) ?_
          refine Go.st (fun _ k => XS.iloadN X0.here hx rfl (hb hby d1_165) rfl k) ?_
          show Go p e below _ (s₁.setTop (mkF m 166 #[.val (.ref a0), .val (.int p1), .val (.int (x0 &&& (255 : Int32))), .val (.int (4 : Int32)), .val (.int lo), .val (.int hi), .val (.int (p1 + (4 : Int32))), .val (.int (2 : Int32)), .val (.int (x1 &&& (255 : Int32))), .val (.int (1 : Int32))] [(.int (4 : Int32)), (.int (2 : Int32))]))
          refine Go.st (fun _ k => XS.icmpNo X0.here hx rfl (hb hby d1_166) rfl (tlt (by decide : ((2 : Int32) < (4 : Int32)))).2.1 k) ?_
          show Go p e below _ (s₁.setTop (mkF m 169 #[.val (.ref a0), .val (.int p1), .val (.int (x0 &&& (255 : Int32))), .val (.int (4 : Int32)), .val (.int lo), .val (.int hi), .val (.int (p1 + (4 : Int32))), .val (.int (2 : Int32)), .val (.int (x1 &&& (255 : Int32))), .val (.int (1 : Int32))] []))
          refine Go.st (fun _ k => XS.iload X0.here hx rfl (hb hby d1_169) rfl k) ?_
          refine Go.st (fun _ k => XS.iconst X0.here hx rfl (hb hby d1_171) k) ?_
          show Go p e below _ (s₁.setTop (mkF m 172 #[.val (.ref a0), .val (.int p1), .val (.int (x0 &&& (255 : Int32))), .val (.int (4 : Int32)), .val (.int lo), .val (.int hi), .val (.int (p1 + (4 : Int32))), .val (.int (2 : Int32)), .val (.int (x1 &&& (255 : Int32))), .val (.int (1 : Int32))] [(.int (-1 : Int32)), (.int (p1 + (4 : Int32)))]))
          refine Go.st (fun _ k => XS.icmpNo X0.here hx rfl (hb hby d1_172) rfl (feq (own_notm1 hs0 hs1 hs2 (by decide) (by decide))).1 k) ?_
          show Go p e below _ (s₁.setTop (mkF m 175 #[.val (.ref a0), .val (.int p1), .val (.int (x0 &&& (255 : Int32))), .val (.int (4 : Int32)), .val (.int lo), .val (.int hi), .val (.int (p1 + (4 : Int32))), .val (.int (2 : Int32)), .val (.int (x1 &&& (255 : Int32))), .val (.int (1 : Int32))] []))
          refine Go.st (fun _ k => XS.aloadN X0.here hx rfl (hb hby d1_175) rfl rfl k) ?_
          refine Go.st (fun _ k => XS.iloadN X0.here hx rfl (hb hby d1_176) rfl k) ?_
          show Go p e below _ (s₁.setTop (mkF m 177 #[.val (.ref a0), .val (.int p1), .val (.int (x0 &&& (255 : Int32))), .val (.int (4 : Int32)), .val (.int lo), .val (.int hi), .val (.int (p1 + (4 : Int32))), .val (.int (2 : Int32)), .val (.int (x1 &&& (255 : Int32))), .val (.int (1 : Int32))] [(.int p1), (.ref a0)]))
          refine Go.st (fun _ k => XS.iload X0.here hx rfl (hb hby d1_177) rfl k) ?_
          refine Go.st (fun _ k => XS.iadd X0.here hx rfl (hb hby d1_179) rfl k) ?_
          show Go p e below _ (s₁.setTop (mkF m 180 #[.val (.ref a0), .val (.int p1), .val (.int (x0 &&& (255 : Int32))), .val (.int (4 : Int32)), .val (.int lo), .val (.int hi), .val (.int (p1 + (4 : Int32))), .val (.int (2 : Int32)), .val (.int (x1 &&& (255 : Int32))), .val (.int (1 : Int32))] [(.int (p1 + (2 : Int32))), (.ref a0)]))
          have hk24 : p1.toInt + 2 < z.toInt := own_room hs0 hs1 hs2 hc19 (by decide) (by decide)
          obtain ⟨cl25, Ar25, ck25, Sz25, Nn25, Hs25, Gs25⟩ := id V
          have hin25 : ¬ ((p1 + (2 : Int32)) < 0 ∨ cl25.slots.size ≤ ((p1 + (2 : Int32))).toNatClampNeg) := inb_of Sz25 (own_ink hs0 hs2 (k := (2 : Int32)) (by decide) (by decide) hk24)
          have hat25 : cl25.slots[((p1 + (2 : Int32))).toNatClampNeg]? = some (.int x2) := Hs25.at hin25 (he2 hk24)
          refine Go.st (fun _ k => X0.baloadBytes hx (j := (p1 + (2 : Int32))) (v := (.int x2)) (by rw [e0]; exact Ar25.1) (State.isArrayOf_alike hZ.alike Ar25.2.1) Ar25.2.2 hin25 hat25 (g := (mkF m 180 #[.val (.ref a0), .val (.int p1), .val (.int (x0 &&& (255 : Int32))), .val (.int (4 : Int32)), .val (.int lo), .val (.int hi), .val (.int (p1 + (4 : Int32))), .val (.int (2 : Int32)), .val (.int (x1 &&& (255 : Int32))), .val (.int (1 : Int32))] [(.int (p1 + (2 : Int32))), (.ref a0)])) rfl rfl (hb hby d1_180) _ k) ?_
          show Go p e below _ (s₁.setTop (mkF m 181 #[.val (.ref a0), .val (.int p1), .val (.int (x0 &&& (255 : Int32))), .val (.int (4 : Int32)), .val (.int lo), .val (.int hi), .val (.int (p1 + (4 : Int32))), .val (.int (2 : Int32)), .val (.int (x1 &&& (255 : Int32))), .val (.int (1 : Int32))] [(.int x2)]))
          refine Go.st (fun _ k => XS.sipush X0.here hx rfl (hb hby d1_181) k) ?_
          refine Go.st (fun _ k => XS.iand X0.here hx rfl (hb hby d1_184) rfl k) ?_
          show Go p e below _ (s₁.setTop (mkF m 185 #[.val (.ref a0), .val (.int p1), .val (.int (x0 &&& (255 : Int32))), .val (.int (4 : Int32)), .val (.int lo), .val (.int hi), .val (.int (p1 + (4 : Int32))), .val (.int (2 : Int32)), .val (.int (x1 &&& (255 : Int32))), .val (.int (1 : Int32))] [(.int (x2 &&& (255 : Int32)))]))
          refine Go.st (fun _ k => XS.istore X0.here hx rfl (hb hby d1_185) rfl (l' := #[.val (.ref a0), .val (.int p1), .val (.int (x0 &&& (255 : Int32))), .val (.int (4 : Int32)), .val (.int lo), .val (.int hi), .val (.int (p1 + (4 : Int32))), .val (.int (2 : Int32)), .val (.int (x2 &&& (255 : Int32))), .val (.int (1 : Int32))]) rfl k) ?_
          show Go p e below _ (s₁.setTop (mkF m 187 #[.val (.ref a0), .val (.int p1), .val (.int (x0 &&& (255 : Int32))), .val (.int (4 : Int32)), .val (.int lo), .val (.int hi), .val (.int (p1 + (4 : Int32))), .val (.int (2 : Int32)), .val (.int (x2 &&& (255 : Int32))), .val (.int (1 : Int32))] []))
          refine Go.st (fun _ k => XS.iload X0.here hx rfl (hb hby d1_187) rfl k) ?_
          refine Go.st (fun _ k => XS.iconst X0.here hx rfl (hb hby d1_189) k) ?_
          show Go p e below _ (s₁.setTop (mkF m 190 #[.val (.ref a0), .val (.int p1), .val (.int (x0 &&& (255 : Int32))), .val (.int (4 : Int32)), .val (.int lo), .val (.int hi), .val (.int (p1 + (4 : Int32))), .val (.int (2 : Int32)), .val (.int (x2 &&& (255 : Int32))), .val (.int (1 : Int32))] [(.int (1 : Int32)), (.int (2 : Int32))]))
          refine Go.st (fun _ k => XS.icmpYes X0.here hx rfl (pc0 := 190) (pc' := 197) rfl (hb hby d1_190) rfl (feq (by decide : ¬ ((2 : Int32) = (1 : Int32)))).2 (by decide) (by decide) k) ?_
          show Go p e below _ (s₁.setTop (mkF m 197 #[.val (.ref a0), .val (.int p1), .val (.int (x0 &&& (255 : Int32))), .val (.int (4 : Int32)), .val (.int lo), .val (.int hi), .val (.int (p1 + (4 : Int32))), .val (.int (2 : Int32)), .val (.int (x2 &&& (255 : Int32))), .val (.int (1 : Int32))] []))
          refine Go.st (fun _ k => XS.iconst X0.here hx rfl (hb hby d1_197) k) ?_
          refine Go.st (fun _ k => XS.istore X0.here hx rfl (hb hby d1_198) rfl (l' := #[.val (.ref a0), .val (.int p1), .val (.int (x0 &&& (255 : Int32))), .val (.int (4 : Int32)), .val (.int lo), .val (.int hi), .val (.int (p1 + (4 : Int32))), .val (.int (2 : Int32)), .val (.int (x2 &&& (255 : Int32))), .val (.int (0 : Int32))]) rfl k) ?_
          show Go p e below _ (s₁.setTop (mkF m 200 #[.val (.ref a0), .val (.int p1), .val (.int (x0 &&& (255 : Int32))), .val (.int (4 : Int32)), .val (.int lo), .val (.int hi), .val (.int (p1 + (4 : Int32))), .val (.int (2 : Int32)), .val (.int (x2 &&& (255 : Int32))), .val (.int (0 : Int32))] []))
          refine Go.st (fun _ k => XS.iload X0.here hx rfl (hb hby d1_200) rfl k) ?_
          refine Go.st (fun _ k => XS.iload X0.here hx rfl (hb hby d1_202) rfl k) ?_
          show Go p e below _ (s₁.setTop (mkF m 204 #[.val (.ref a0), .val (.int p1), .val (.int (x0 &&& (255 : Int32))), .val (.int (4 : Int32)), .val (.int lo), .val (.int hi), .val (.int (p1 + (4 : Int32))), .val (.int (2 : Int32)), .val (.int (x2 &&& (255 : Int32))), .val (.int (0 : Int32))] [(.int (0 : Int32)), (.int (x2 &&& (255 : Int32)))]))
          refine Go.st (fun _ k => XS.ifYes X0.here hx rfl (pc0 := 204) (pc' := 212) rfl (hb hby d1_204) rfl ((if0 _ _).trans (teq (by decide : ((0 : Int32) = (0 : Int32)))).1) (by decide) (by decide) k) ?_
          show Go p e below _ (s₁.setTop (mkF m 212 #[.val (.ref a0), .val (.int p1), .val (.int (x0 &&& (255 : Int32))), .val (.int (4 : Int32)), .val (.int lo), .val (.int hi), .val (.int (p1 + (4 : Int32))), .val (.int (2 : Int32)), .val (.int (x2 &&& (255 : Int32))), .val (.int (0 : Int32))] [(.int (x2 &&& (255 : Int32)))]))
          refine Go.st (fun _ k => XS.sipush X0.here hx rfl (hb hby d1_212) k) ?_
          by_cases hc26 : (x2 &&& (255 : Int32)) < (128 : Int32)
          · show Go p e below _ (s₁.setTop (mkF m 215 #[.val (.ref a0), .val (.int p1), .val (.int (x0 &&& (255 : Int32))), .val (.int (4 : Int32)), .val (.int lo), .val (.int hi), .val (.int (p1 + (4 : Int32))), .val (.int (2 : Int32)), .val (.int (x2 &&& (255 : Int32))), .val (.int (0 : Int32))] [(.int (128 : Int32)), (.int (x2 &&& (255 : Int32)))]))
            refine Go.st (fun _ k => XS.icmpYes X0.here hx rfl (pc0 := 215) (pc' := 236) rfl (hb hby d1_215) rfl (tlt hc26).1 (by decide) (by decide) k) ?_
            show Go p e below _ (s₁.setTop (mkF m 236 #[.val (.ref a0), .val (.int p1), .val (.int (x0 &&& (255 : Int32))), .val (.int (4 : Int32)), .val (.int lo), .val (.int hi), .val (.int (p1 + (4 : Int32))), .val (.int (2 : Int32)), .val (.int (x2 &&& (255 : Int32))), .val (.int (0 : Int32))] []))
            refine Go.st (fun _ k => XS.iconst X0.here hx rfl (hb hby d1_236) k) ?_
            refine Go.st (fun _ k => XS.istore X0.here hx rfl (hb hby d1_237) rfl (l' := #[.val (.ref a0), .val (.int p1), .val (.int (x0 &&& (255 : Int32))), .val (.int (4 : Int32)), .val (.int lo), .val (.int hi), .val (.int (-1 : Int32)), .val (.int (2 : Int32)), .val (.int (x2 &&& (255 : Int32))), .val (.int (0 : Int32))]) rfl k) ?_
            show Go p e below _ (s₁.setTop (mkF m 239 #[.val (.ref a0), .val (.int p1), .val (.int (x0 &&& (255 : Int32))), .val (.int (4 : Int32)), .val (.int lo), .val (.int hi), .val (.int (-1 : Int32)), .val (.int (2 : Int32)), .val (.int (x2 &&& (255 : Int32))), .val (.int (0 : Int32))] []))
            refine Go.st (fun _ k => XS.iinc X0.here hx rfl (hb hby d1_239) rfl (l' := #[.val (.ref a0), .val (.int p1), .val (.int (x0 &&& (255 : Int32))), .val (.int (4 : Int32)), .val (.int lo), .val (.int hi), .val (.int (-1 : Int32)), .val (.int (3 : Int32)), .val (.int (x2 &&& (255 : Int32))), .val (.int (0 : Int32))]) rfl k) ?_
            show Go p e below _ (s₁.setTop (mkF m 242 #[.val (.ref a0), .val (.int p1), .val (.int (x0 &&& (255 : Int32))), .val (.int (4 : Int32)), .val (.int lo), .val (.int hi), .val (.int (-1 : Int32)), .val (.int (3 : Int32)), .val (.int (x2 &&& (255 : Int32))), .val (.int (0 : Int32))] []))
            refine Go.st (fun _ k => XS.goto X0.here hx rfl (pc0 := 242) (pc' := 163) rfl (hb hby d1_242) (by decide) (by decide) k) ?_
            show Go p e below _ (s₁.setTop (mkF m 163 #[.val (.ref a0), .val (.int p1), .val (.int (x0 &&& (255 : Int32))), .val (.int (4 : Int32)), .val (.int lo), .val (.int hi), .val (.int (-1 : Int32)), .val (.int (3 : Int32)), .val (.int (x2 &&& (255 : Int32))), .val (.int (0 : Int32))] []))
            refine Go.st (fun _ k => XS.iload X0.here hx rfl (hb hby d1_163) rfl k) ?_
            refine Go.st (fun _ k => XS.iloadN X0.here hx rfl (hb hby d1_165) rfl k) ?_
            show Go p e below _ (s₁.setTop (mkF m 166 #[.val (.ref a0), .val (.int p1), .val (.int (x0 &&& (255 : Int32))), .val (.int (4 : Int32)), .val (.int lo), .val (.int hi), .val (.int (-1 : Int32)), .val (.int (3 : Int32)), .val (.int (x2 &&& (255 : Int32))), .val (.int (0 : Int32))] [(.int (4 : Int32)), (.int (3 : Int32))]))
            refine Go.st (fun _ k => XS.icmpNo X0.here hx rfl (hb hby d1_166) rfl (tlt (by decide : ((3 : Int32) < (4 : Int32)))).2.1 k) ?_
            show Go p e below _ (s₁.setTop (mkF m 169 #[.val (.ref a0), .val (.int p1), .val (.int (x0 &&& (255 : Int32))), .val (.int (4 : Int32)), .val (.int lo), .val (.int hi), .val (.int (-1 : Int32)), .val (.int (3 : Int32)), .val (.int (x2 &&& (255 : Int32))), .val (.int (0 : Int32))] []))
            refine Go.st (fun _ k => XS.iload X0.here hx rfl (hb hby d1_169) rfl k) ?_
            refine Go.st (fun _ k => XS.iconst X0.here hx rfl (hb hby d1_171) k) ?_
            show Go p e below _ (s₁.setTop (mkF m 172 #[.val (.ref a0), .val (.int p1), .val (.int (x0 &&& (255 : Int32))), .val (.int (4 : Int32)), .val (.int lo), .val (.int hi), .val (.int (-1 : Int32)), .val (.int (3 : Int32)), .val (.int (x2 &&& (255 : Int32))), .val (.int (0 : Int32))] [(.int (-1 : Int32)), (.int (-1 : Int32))]))
            refine Go.st (fun _ k => XS.icmpYes X0.here hx rfl (pc0 := 172) (pc' := 245) rfl (hb hby d1_172) rfl (teq (by decide : ((-1 : Int32) = (-1 : Int32)))).1 (by decide) (by decide) k) ?_
            show Go p e below _ (s₁.setTop (mkF m 245 #[.val (.ref a0), .val (.int p1), .val (.int (x0 &&& (255 : Int32))), .val (.int (4 : Int32)), .val (.int lo), .val (.int hi), .val (.int (-1 : Int32)), .val (.int (3 : Int32)), .val (.int (x2 &&& (255 : Int32))), .val (.int (0 : Int32))] []))
            refine Go.st (fun _ k => XS.iload X0.here hx rfl (hb hby d1_245) rfl k) ?_
            obtain ⟨fs, hr, hrun, hended, hW, hsame⟩ := X0.leave (v := some (.int (-1 : Int32))) (fun h => by rw [Bd.returns] at h; cases h)
            refine ⟨_, _, retI X0 hx Bd.returns (hb hby d1_247) hr, hrun, hended, _, _, rfl, ?_, ⟨_, rfl⟩, hW, hsame.mono (by decide) (by decide)⟩
            show Q_rmCE Z x0 x1 x2 x3 a0 p1 kk z vs h0 n0 _ s₁.heap _
            rw [e0]
            refine ⟨?_, N0, rfl⟩
            rw [hj]
            unfold fT4
            rw [if_neg hc19, if_neg hc22, if_neg hc23, if_pos hc26]
          · show Go p e below _ (s₁.setTop (mkF m 215 #[.val (.ref a0), .val (.int p1), .val (.int (x0 &&& (255 : Int32))), .val (.int (4 : Int32)), .val (.int lo), .val (.int hi), .val (.int (p1 + (4 : Int32))), .val (.int (2 : Int32)), .val (.int (x2 &&& (255 : Int32))), .val (.int (0 : Int32))] [(.int (128 : Int32)), (.int (x2 &&& (255 : Int32)))]))
            refine Go.st (fun _ k => XS.icmpNo X0.here hx rfl (hb hby d1_215) rfl (flt hc26).1 k) ?_
            show Go p e below _ (s₁.setTop (mkF m 218 #[.val (.ref a0), .val (.int p1), .val (.int (x0 &&& (255 : Int32))), .val (.int (4 : Int32)), .val (.int lo), .val (.int hi), .val (.int (p1 + (4 : Int32))), .val (.int (2 : Int32)), .val (.int (x2 &&& (255 : Int32))), .val (.int (0 : Int32))] []))
            refine Go.st (fun _ k => XS.iload X0.here hx rfl (hb hby d1_218) rfl k) ?_
            refine Go.st (fun _ k => XS.iload X0.here hx rfl (hb hby d1_220) rfl k) ?_
            show Go p e below _ (s₁.setTop (mkF m 222 #[.val (.ref a0), .val (.int p1), .val (.int (x0 &&& (255 : Int32))), .val (.int (4 : Int32)), .val (.int lo), .val (.int hi), .val (.int (p1 + (4 : Int32))), .val (.int (2 : Int32)), .val (.int (x2 &&& (255 : Int32))), .val (.int (0 : Int32))] [(.int (0 : Int32)), (.int (x2 &&& (255 : Int32)))]))
            refine Go.st (fun _ k => XS.ifYes X0.here hx rfl (pc0 := 222) (pc' := 230) rfl (hb hby d1_222) rfl ((if0 _ _).trans (teq (by decide : ((0 : Int32) = (0 : Int32)))).1) (by decide) (by decide) k) ?_
            show Go p e below _ (s₁.setTop (mkF m 230 #[.val (.ref a0), .val (.int p1), .val (.int (x0 &&& (255 : Int32))), .val (.int (4 : Int32)), .val (.int lo), .val (.int hi), .val (.int (p1 + (4 : Int32))), .val (.int (2 : Int32)), .val (.int (x2 &&& (255 : Int32))), .val (.int (0 : Int32))] [(.int (x2 &&& (255 : Int32)))]))
            refine Go.st (fun _ k => XS.sipush X0.here hx rfl (hb hby d1_230) k) ?_
            by_cases hc27 : (191 : Int32) < (x2 &&& (255 : Int32))
            · show Go p e below _ (s₁.setTop (mkF m 233 #[.val (.ref a0), .val (.int p1), .val (.int (x0 &&& (255 : Int32))), .val (.int (4 : Int32)), .val (.int lo), .val (.int hi), .val (.int (p1 + (4 : Int32))), .val (.int (2 : Int32)), .val (.int (x2 &&& (255 : Int32))), .val (.int (0 : Int32))] [(.int (191 : Int32)), (.int (x2 &&& (255 : Int32)))]))
              refine Go.st (fun _ k => XS.icmpNo X0.here hx rfl (hb hby d1_233) rfl (tlt hc27).2.2.2 k) ?_
              show Go p e below _ (s₁.setTop (mkF m 236 #[.val (.ref a0), .val (.int p1), .val (.int (x0 &&& (255 : Int32))), .val (.int (4 : Int32)), .val (.int lo), .val (.int hi), .val (.int (p1 + (4 : Int32))), .val (.int (2 : Int32)), .val (.int (x2 &&& (255 : Int32))), .val (.int (0 : Int32))] []))
              refine Go.st (fun _ k => XS.iconst X0.here hx rfl (hb hby d1_236) k) ?_
              refine Go.st (fun _ k => XS.istore X0.here hx rfl (hb hby d1_237) rfl (l' := #[.val (.ref a0), .val (.int p1), .val (.int (x0 &&& (255 : Int32))), .val (.int (4 : Int32)), .val (.int lo), .val (.int hi), .val (.int (-1 : Int32)), .val (.int (2 : Int32)), .val (.int (x2 &&& (255 : Int32))), .val (.int (0 : Int32))]) rfl k) ?_
              show Go p e below _ (s₁.setTop (mkF m 239 #[.val (.ref a0), .val (.int p1), .val (.int (x0 &&& (255 : Int32))), .val (.int (4 : Int32)), .val (.int lo), .val (.int hi), .val (.int (-1 : Int32)), .val (.int (2 : Int32)), .val (.int (x2 &&& (255 : Int32))), .val (.int (0 : Int32))] []))
              refine Go.st (fun _ k => XS.iinc X0.here hx rfl (hb hby d1_239) rfl (l' := #[.val (.ref a0), .val (.int p1), .val (.int (x0 &&& (255 : Int32))), .val (.int (4 : Int32)), .val (.int lo), .val (.int hi), .val (.int (-1 : Int32)), .val (.int (3 : Int32)), .val (.int (x2 &&& (255 : Int32))), .val (.int (0 : Int32))]) rfl k) ?_
              show Go p e below _ (s₁.setTop (mkF m 242 #[.val (.ref a0), .val (.int p1), .val (.int (x0 &&& (255 : Int32))), .val (.int (4 : Int32)), .val (.int lo), .val (.int hi), .val (.int (-1 : Int32)), .val (.int (3 : Int32)), .val (.int (x2 &&& (255 : Int32))), .val (.int (0 : Int32))] []))
              refine Go.st (fun _ k => XS.goto X0.here hx rfl (pc0 := 242) (pc' := 163) rfl (hb hby d1_242) (by decide) (by decide) k) ?_
              show Go p e below _ (s₁.setTop (mkF m 163 #[.val (.ref a0), .val (.int p1), .val (.int (x0 &&& (255 : Int32))), .val (.int (4 : Int32)), .val (.int lo), .val (.int hi), .val (.int (-1 : Int32)), .val (.int (3 : Int32)), .val (.int (x2 &&& (255 : Int32))), .val (.int (0 : Int32))] []))
              refine Go.st (fun _ k => XS.iload X0.here hx rfl (hb hby d1_163) rfl k) ?_
              refine Go.st (fun _ k => XS.iloadN X0.here hx rfl (hb hby d1_165) rfl k) ?_
              show Go p e below _ (s₁.setTop (mkF m 166 #[.val (.ref a0), .val (.int p1), .val (.int (x0 &&& (255 : Int32))), .val (.int (4 : Int32)), .val (.int lo), .val (.int hi), .val (.int (-1 : Int32)), .val (.int (3 : Int32)), .val (.int (x2 &&& (255 : Int32))), .val (.int (0 : Int32))] [(.int (4 : Int32)), (.int (3 : Int32))]))
              refine Go.st (fun _ k => XS.icmpNo X0.here hx rfl (hb hby d1_166) rfl (tlt (by decide : ((3 : Int32) < (4 : Int32)))).2.1 k) ?_
              show Go p e below _ (s₁.setTop (mkF m 169 #[.val (.ref a0), .val (.int p1), .val (.int (x0 &&& (255 : Int32))), .val (.int (4 : Int32)), .val (.int lo), .val (.int hi), .val (.int (-1 : Int32)), .val (.int (3 : Int32)), .val (.int (x2 &&& (255 : Int32))), .val (.int (0 : Int32))] []))
              refine Go.st (fun _ k => XS.iload X0.here hx rfl (hb hby d1_169) rfl k) ?_
              refine Go.st (fun _ k => XS.iconst X0.here hx rfl (hb hby d1_171) k) ?_
              show Go p e below _ (s₁.setTop (mkF m 172 #[.val (.ref a0), .val (.int p1), .val (.int (x0 &&& (255 : Int32))), .val (.int (4 : Int32)), .val (.int lo), .val (.int hi), .val (.int (-1 : Int32)), .val (.int (3 : Int32)), .val (.int (x2 &&& (255 : Int32))), .val (.int (0 : Int32))] [(.int (-1 : Int32)), (.int (-1 : Int32))]))
              refine Go.st (fun _ k => XS.icmpYes X0.here hx rfl (pc0 := 172) (pc' := 245) rfl (hb hby d1_172) rfl (teq (by decide : ((-1 : Int32) = (-1 : Int32)))).1 (by decide) (by decide) k) ?_
              show Go p e below _ (s₁.setTop (mkF m 245 #[.val (.ref a0), .val (.int p1), .val (.int (x0 &&& (255 : Int32))), .val (.int (4 : Int32)), .val (.int lo), .val (.int hi), .val (.int (-1 : Int32)), .val (.int (3 : Int32)), .val (.int (x2 &&& (255 : Int32))), .val (.int (0 : Int32))] []))
              refine Go.st (fun _ k => XS.iload X0.here hx rfl (hb hby d1_245) rfl k) ?_
              obtain ⟨fs, hr, hrun, hended, hW, hsame⟩ := X0.leave (v := some (.int (-1 : Int32))) (fun h => by rw [Bd.returns] at h; cases h)
              refine ⟨_, _, retI X0 hx Bd.returns (hb hby d1_247) hr, hrun, hended, _, _, rfl, ?_, ⟨_, rfl⟩, hW, hsame.mono (by decide) (by decide)⟩
              show Q_rmCE Z x0 x1 x2 x3 a0 p1 kk z vs h0 n0 _ s₁.heap _
              rw [e0]
              refine ⟨?_, N0, rfl⟩
              rw [hj]
              unfold fT4
              rw [if_neg hc19, if_neg hc22, if_neg hc23, if_neg hc26, if_pos hc27]
            · show Go p e below _ (s₁.setTop (mkF m 233 #[.val (.ref a0), .val (.int p1), .val (.int (x0 &&& (255 : Int32))), .val (.int (4 : Int32)), .val (.int lo), .val (.int hi), .val (.int (p1 + (4 : Int32))), .val (.int (2 : Int32)), .val (.int (x2 &&& (255 : Int32))), .val (.int (0 : Int32))] [(.int (191 : Int32)), (.int (x2 &&& (255 : Int32)))]))
              refine Go.st (fun _ k => XS.icmpYes X0.here hx rfl (pc0 := 233) (pc' := 239) rfl (hb hby d1_233) rfl (flt hc27).2.2.2 (by decide) (by decide) k) ?_
              show Go p e below _ (s₁.setTop (mkF m 239 #[.val (.ref a0), .val (.int p1), .val (.int (x0 &&& (255 : Int32))), .val (.int (4 : Int32)), .val (.int lo), .val (.int hi), .val (.int (p1 + (4 : Int32))), .val (.int (2 : Int32)), .val (.int (x2 &&& (255 : Int32))), .val (.int (0 : Int32))] []))
              refine Go.st (fun _ k => XS.iinc X0.here hx rfl (hb hby d1_239) rfl (l' := #[.val (.ref a0), .val (.int p1), .val (.int (x0 &&& (255 : Int32))), .val (.int (4 : Int32)), .val (.int lo), .val (.int hi), .val (.int (p1 + (4 : Int32))), .val (.int (3 : Int32)), .val (.int (x2 &&& (255 : Int32))), .val (.int (0 : Int32))]) rfl k) ?_
              show Go p e below _ (s₁.setTop (mkF m 242 #[.val (.ref a0), .val (.int p1), .val (.int (x0 &&& (255 : Int32))), .val (.int (4 : Int32)), .val (.int lo), .val (.int hi), .val (.int (p1 + (4 : Int32))), .val (.int (3 : Int32)), .val (.int (x2 &&& (255 : Int32))), .val (.int (0 : Int32))] []))
              refine Go.st (fun _ k => XS.goto X0.here hx rfl (pc0 := 242) (pc' := 163) rfl (hb hby d1_242) (by decide) (by decide) k) ?_
              show Go p e below _ (s₁.setTop (mkF m 163 #[.val (.ref a0), .val (.int p1), .val (.int (x0 &&& (255 : Int32))), .val (.int (4 : Int32)), .val (.int lo), .val (.int hi), .val (.int (p1 + (4 : Int32))), .val (.int (3 : Int32)), .val (.int (x2 &&& (255 : Int32))), .val (.int (0 : Int32))] []))
              refine Go.st (fun _ k => XS.iload X0.here hx rfl (hb hby d1_163) rfl k) ?_
              refine Go.st (fun _ k => XS.iloadN X0.here hx rfl (hb hby d1_165) rfl k) ?_
              show Go p e below _ (s₁.setTop (mkF m 166 #[.val (.ref a0), .val (.int p1), .val (.int (x0 &&& (255 : Int32))), .val (.int (4 : Int32)), .val (.int lo), .val (.int hi), .val (.int (p1 + (4 : Int32))), .val (.int (3 : Int32)), .val (.int (x2 &&& (255 : Int32))), .val (.int (0 : Int32))] [(.int (4 : Int32)), (.int (3 : Int32))]))
              refine Go.st (fun _ k => XS.icmpNo X0.here hx rfl (hb hby d1_166) rfl (tlt (by decide : ((3 : Int32) < (4 : Int32)))).2.1 k) ?_
              show Go p e below _ (s₁.setTop (mkF m 169 #[.val (.ref a0), .val (.int p1), .val (.int (x0 &&& (255 : Int32))), .val (.int (4 : Int32)), .val (.int lo), .val (.int hi), .val (.int (p1 + (4 : Int32))), .val (.int (3 : Int32)), .val (.int (x2 &&& (255 : Int32))), .val (.int (0 : Int32))] []))
              refine Go.st (fun _ k => XS.iload X0.here hx rfl (hb hby d1_169) rfl k) ?_
              refine Go.st (fun _ k => XS.iconst X0.here hx rfl (hb hby d1_171) k) ?_
              show Go p e below _ (s₁.setTop (mkF m 172 #[.val (.ref a0), .val (.int p1), .val (.int (x0 &&& (255 : Int32))), .val (.int (4 : Int32)), .val (.int lo), .val (.int hi), .val (.int (p1 + (4 : Int32))), .val (.int (3 : Int32)), .val (.int (x2 &&& (255 : Int32))), .val (.int (0 : Int32))] [(.int (-1 : Int32)), (.int (p1 + (4 : Int32)))]))
              refine Go.st (fun _ k => XS.icmpNo X0.here hx rfl (hb hby d1_172) rfl (feq (own_notm1 hs0 hs1 hs2 (by decide) (by decide))).1 k) ?_
              show Go p e below _ (s₁.setTop (mkF m 175 #[.val (.ref a0), .val (.int p1), .val (.int (x0 &&& (255 : Int32))), .val (.int (4 : Int32)), .val (.int lo), .val (.int hi), .val (.int (p1 + (4 : Int32))), .val (.int (3 : Int32)), .val (.int (x2 &&& (255 : Int32))), .val (.int (0 : Int32))] []))
              refine Go.st (fun _ k => XS.aloadN X0.here hx rfl (hb hby d1_175) rfl rfl k) ?_
              refine Go.st (fun _ k => XS.iloadN X0.here hx rfl (hb hby d1_176) rfl k) ?_
              show Go p e below _ (s₁.setTop (mkF m 177 #[.val (.ref a0), .val (.int p1), .val (.int (x0 &&& (255 : Int32))), .val (.int (4 : Int32)), .val (.int lo), .val (.int hi), .val (.int (p1 + (4 : Int32))), .val (.int (3 : Int32)), .val (.int (x2 &&& (255 : Int32))), .val (.int (0 : Int32))] [(.int p1), (.ref a0)]))
              refine Go.st (fun _ k => XS.iload X0.here hx rfl (hb hby d1_177) rfl k) ?_
              refine Go.st (fun _ k => XS.iadd X0.here hx rfl (hb hby d1_179) rfl k) ?_
              show Go p e below _ (s₁.setTop (mkF m 180 #[.val (.ref a0), .val (.int p1), .val (.int (x0 &&& (255 : Int32))), .val (.int (4 : Int32)), .val (.int lo), .val (.int hi), .val (.int (p1 + (4 : Int32))), .val (.int (3 : Int32)), .val (.int (x2 &&& (255 : Int32))), .val (.int (0 : Int32))] [(.int (p1 + (3 : Int32))), (.ref a0)]))
              have hk28 : p1.toInt + 3 < z.toInt := own_room hs0 hs1 hs2 hc19 (by decide) (by decide)
              obtain ⟨cl29, Ar29, ck29, Sz29, Nn29, Hs29, Gs29⟩ := id V
              have hin29 : ¬ ((p1 + (3 : Int32)) < 0 ∨ cl29.slots.size ≤ ((p1 + (3 : Int32))).toNatClampNeg) := inb_of Sz29 (own_ink hs0 hs2 (k := (3 : Int32)) (by decide) (by decide) hk28)
              have hat29 : cl29.slots[((p1 + (3 : Int32))).toNatClampNeg]? = some (.int x3) := Hs29.at hin29 (he3 hk28)
              refine Go.st (fun _ k => X0.baloadBytes hx (j := (p1 + (3 : Int32))) (v := (.int x3)) (by rw [e0]; exact Ar29.1) (State.isArrayOf_alike hZ.alike Ar29.2.1) Ar29.2.2 hin29 hat29 (g := (mkF m 180 #[.val (.ref a0), .val (.int p1), .val (.int (x0 &&& (255 : Int32))), .val (.int (4 : Int32)), .val (.int lo), .val (.int hi), .val (.int (p1 + (4 : Int32))), .val (.int (3 : Int32)), .val (.int (x2 &&& (255 : Int32))), .val (.int (0 : Int32))] [(.int (p1 + (3 : Int32))), (.ref a0)])) rfl rfl (hb hby d1_180) _ k) ?_
              show Go p e below _ (s₁.setTop (mkF m 181 #[.val (.ref a0), .val (.int p1), .val (.int (x0 &&& (255 : Int32))), .val (.int (4 : Int32)), .val (.int lo), .val (.int hi), .val (.int (p1 + (4 : Int32))), .val (.int (3 : Int32)), .val (.int (x2 &&& (255 : Int32))), .val (.int (0 : Int32))] [(.int x3)]))
              refine Go.st (fun _ k => XS.sipush X0.here hx rfl (hb hby d1_181) k) ?_
              refine Go.st (fun _ k => XS.iand X0.here hx rfl (hb hby d1_184) rfl k) ?_
              show Go p e below _ (s₁.setTop (mkF m 185 #[.val (.ref a0), .val (.int p1), .val (.int (x0 &&& (255 : Int32))), .val (.int (4 : Int32)), .val (.int lo), .val (.int hi), .val (.int (p1 + (4 : Int32))), .val (.int (3 : Int32)), .val (.int (x2 &&& (255 : Int32))), .val (.int (0 : Int32))] [(.int (x3 &&& (255 : Int32)))]))
              refine Go.st (fun _ k => XS.istore X0.here hx rfl (hb hby d1_185) rfl (l' := #[.val (.ref a0), .val (.int p1), .val (.int (x0 &&& (255 : Int32))), .val (.int (4 : Int32)), .val (.int lo), .val (.int hi), .val (.int (p1 + (4 : Int32))), .val (.int (3 : Int32)), .val (.int (x3 &&& (255 : Int32))), .val (.int (0 : Int32))]) rfl k) ?_
              show Go p e below _ (s₁.setTop (mkF m 187 #[.val (.ref a0), .val (.int p1), .val (.int (x0 &&& (255 : Int32))), .val (.int (4 : Int32)), .val (.int lo), .val (.int hi), .val (.int (p1 + (4 : Int32))), .val (.int (3 : Int32)), .val (.int (x3 &&& (255 : Int32))), .val (.int (0 : Int32))] []))
              refine Go.st (fun _ k => XS.iload X0.here hx rfl (hb hby d1_187) rfl k) ?_
              refine Go.st (fun _ k => XS.iconst X0.here hx rfl (hb hby d1_189) k) ?_
              show Go p e below _ (s₁.setTop (mkF m 190 #[.val (.ref a0), .val (.int p1), .val (.int (x0 &&& (255 : Int32))), .val (.int (4 : Int32)), .val (.int lo), .val (.int hi), .val (.int (p1 + (4 : Int32))), .val (.int (3 : Int32)), .val (.int (x3 &&& (255 : Int32))), .val (.int (0 : Int32))] [(.int (1 : Int32)), (.int (3 : Int32))]))
              refine Go.st (fun _ k => XS.icmpYes X0.here hx rfl (pc0 := 190) (pc' := 197) rfl (hb hby d1_190) rfl (feq (by decide : ¬ ((3 : Int32) = (1 : Int32)))).2 (by decide) (by decide) k) ?_
              show Go p e below _ (s₁.setTop (mkF m 197 #[.val (.ref a0), .val (.int p1), .val (.int (x0 &&& (255 : Int32))), .val (.int (4 : Int32)), .val (.int lo), .val (.int hi), .val (.int (p1 + (4 : Int32))), .val (.int (3 : Int32)), .val (.int (x3 &&& (255 : Int32))), .val (.int (0 : Int32))] []))
              refine Go.st (fun _ k => XS.iconst X0.here hx rfl (hb hby d1_197) k) ?_
              refine Go.st (fun _ k => XS.istore X0.here hx rfl (hb hby d1_198) rfl (l' := #[.val (.ref a0), .val (.int p1), .val (.int (x0 &&& (255 : Int32))), .val (.int (4 : Int32)), .val (.int lo), .val (.int hi), .val (.int (p1 + (4 : Int32))), .val (.int (3 : Int32)), .val (.int (x3 &&& (255 : Int32))), .val (.int (0 : Int32))]) rfl k) ?_
              show Go p e below _ (s₁.setTop (mkF m 200 #[.val (.ref a0), .val (.int p1), .val (.int (x0 &&& (255 : Int32))), .val (.int (4 : Int32)), .val (.int lo), .val (.int hi), .val (.int (p1 + (4 : Int32))), .val (.int (3 : Int32)), .val (.int (x3 &&& (255 : Int32))), .val (.int (0 : Int32))] []))
              refine Go.st (fun _ k => XS.iload X0.here hx rfl (hb hby d1_200) rfl k) ?_
              refine Go.st (fun _ k => XS.iload X0.here hx rfl (hb hby d1_202) rfl k) ?_
              show Go p e below _ (s₁.setTop (mkF m 204 #[.val (.ref a0), .val (.int p1), .val (.int (x0 &&& (255 : Int32))), .val (.int (4 : Int32)), .val (.int lo), .val (.int hi), .val (.int (p1 + (4 : Int32))), .val (.int (3 : Int32)), .val (.int (x3 &&& (255 : Int32))), .val (.int (0 : Int32))] [(.int (0 : Int32)), (.int (x3 &&& (255 : Int32)))]))
              refine Go.st (fun _ k => XS.ifYes X0.here hx rfl (pc0 := 204) (pc' := 212) rfl (hb hby d1_204) rfl ((if0 _ _).trans (teq (by decide : ((0 : Int32) = (0 : Int32)))).1) (by decide) (by decide) k) ?_
              show Go p e below _ (s₁.setTop (mkF m 212 #[.val (.ref a0), .val (.int p1), .val (.int (x0 &&& (255 : Int32))), .val (.int (4 : Int32)), .val (.int lo), .val (.int hi), .val (.int (p1 + (4 : Int32))), .val (.int (3 : Int32)), .val (.int (x3 &&& (255 : Int32))), .val (.int (0 : Int32))] [(.int (x3 &&& (255 : Int32)))]))
              refine Go.st (fun _ k => XS.sipush X0.here hx rfl (hb hby d1_212) k) ?_
              by_cases hc30 : (x3 &&& (255 : Int32)) < (128 : Int32)
              · show Go p e below _ (s₁.setTop (mkF m 215 #[.val (.ref a0), .val (.int p1), .val (.int (x0 &&& (255 : Int32))), .val (.int (4 : Int32)), .val (.int lo), .val (.int hi), .val (.int (p1 + (4 : Int32))), .val (.int (3 : Int32)), .val (.int (x3 &&& (255 : Int32))), .val (.int (0 : Int32))] [(.int (128 : Int32)), (.int (x3 &&& (255 : Int32)))]))
                refine Go.st (fun _ k => XS.icmpYes X0.here hx rfl (pc0 := 215) (pc' := 236) rfl (hb hby d1_215) rfl (tlt hc30).1 (by decide) (by decide) k) ?_
                show Go p e below _ (s₁.setTop (mkF m 236 #[.val (.ref a0), .val (.int p1), .val (.int (x0 &&& (255 : Int32))), .val (.int (4 : Int32)), .val (.int lo), .val (.int hi), .val (.int (p1 + (4 : Int32))), .val (.int (3 : Int32)), .val (.int (x3 &&& (255 : Int32))), .val (.int (0 : Int32))] []))
                refine Go.st (fun _ k => XS.iconst X0.here hx rfl (hb hby d1_236) k) ?_
                refine Go.st (fun _ k => XS.istore X0.here hx rfl (hb hby d1_237) rfl (l' := #[.val (.ref a0), .val (.int p1), .val (.int (x0 &&& (255 : Int32))), .val (.int (4 : Int32)), .val (.int lo), .val (.int hi), .val (.int (-1 : Int32)), .val (.int (3 : Int32)), .val (.int (x3 &&& (255 : Int32))), .val (.int (0 : Int32))]) rfl k) ?_
                show Go p e below _ (s₁.setTop (mkF m 239 #[.val (.ref a0), .val (.int p1), .val (.int (x0 &&& (255 : Int32))), .val (.int (4 : Int32)), .val (.int lo), .val (.int hi), .val (.int (-1 : Int32)), .val (.int (3 : Int32)), .val (.int (x3 &&& (255 : Int32))), .val (.int (0 : Int32))] []))
                refine Go.st (fun _ k => XS.iinc X0.here hx rfl (hb hby d1_239) rfl (l' := #[.val (.ref a0), .val (.int p1), .val (.int (x0 &&& (255 : Int32))), .val (.int (4 : Int32)), .val (.int lo), .val (.int hi), .val (.int (-1 : Int32)), .val (.int (4 : Int32)), .val (.int (x3 &&& (255 : Int32))), .val (.int (0 : Int32))]) rfl k) ?_
                show Go p e below _ (s₁.setTop (mkF m 242 #[.val (.ref a0), .val (.int p1), .val (.int (x0 &&& (255 : Int32))), .val (.int (4 : Int32)), .val (.int lo), .val (.int hi), .val (.int (-1 : Int32)), .val (.int (4 : Int32)), .val (.int (x3 &&& (255 : Int32))), .val (.int (0 : Int32))] []))
                refine Go.st (fun _ k => XS.goto X0.here hx rfl (pc0 := 242) (pc' := 163) rfl (hb hby d1_242) (by decide) (by decide) k) ?_
                show Go p e below _ (s₁.setTop (mkF m 163 #[.val (.ref a0), .val (.int p1), .val (.int (x0 &&& (255 : Int32))), .val (.int (4 : Int32)), .val (.int lo), .val (.int hi), .val (.int (-1 : Int32)), .val (.int (4 : Int32)), .val (.int (x3 &&& (255 : Int32))), .val (.int (0 : Int32))] []))
                refine Go.st (fun _ k => XS.iload X0.here hx rfl (hb hby d1_163) rfl k) ?_
                refine Go.st (fun _ k => XS.iloadN X0.here hx rfl (hb hby d1_165) rfl k) ?_
                show Go p e below _ (s₁.setTop (mkF m 166 #[.val (.ref a0), .val (.int p1), .val (.int (x0 &&& (255 : Int32))), .val (.int (4 : Int32)), .val (.int lo), .val (.int hi), .val (.int (-1 : Int32)), .val (.int (4 : Int32)), .val (.int (x3 &&& (255 : Int32))), .val (.int (0 : Int32))] [(.int (4 : Int32)), (.int (4 : Int32))]))
                refine Go.st (fun _ k => XS.icmpYes X0.here hx rfl (pc0 := 166) (pc' := 245) rfl (hb hby d1_166) rfl (flt (by decide : ¬ ((4 : Int32) < (4 : Int32)))).2.1 (by decide) (by decide) k) ?_
                show Go p e below _ (s₁.setTop (mkF m 245 #[.val (.ref a0), .val (.int p1), .val (.int (x0 &&& (255 : Int32))), .val (.int (4 : Int32)), .val (.int lo), .val (.int hi), .val (.int (-1 : Int32)), .val (.int (4 : Int32)), .val (.int (x3 &&& (255 : Int32))), .val (.int (0 : Int32))] []))
                refine Go.st (fun _ k => XS.iload X0.here hx rfl (hb hby d1_245) rfl k) ?_
                obtain ⟨fs, hr, hrun, hended, hW, hsame⟩ := X0.leave (v := some (.int (-1 : Int32))) (fun h => by rw [Bd.returns] at h; cases h)
                refine ⟨_, _, retI X0 hx Bd.returns (hb hby d1_247) hr, hrun, hended, _, _, rfl, ?_, ⟨_, rfl⟩, hW, hsame.mono (by decide) (by decide)⟩
                show Q_rmCE Z x0 x1 x2 x3 a0 p1 kk z vs h0 n0 _ s₁.heap _
                rw [e0]
                refine ⟨?_, N0, rfl⟩
                rw [hj]
                unfold fT4
                rw [if_neg hc19, if_neg hc22, if_neg hc23, if_neg hc26, if_neg hc27, if_pos hc30]
              · show Go p e below _ (s₁.setTop (mkF m 215 #[.val (.ref a0), .val (.int p1), .val (.int (x0 &&& (255 : Int32))), .val (.int (4 : Int32)), .val (.int lo), .val (.int hi), .val (.int (p1 + (4 : Int32))), .val (.int (3 : Int32)), .val (.int (x3 &&& (255 : Int32))), .val (.int (0 : Int32))] [(.int (128 : Int32)), (.int (x3 &&& (255 : Int32)))]))
                refine Go.st (fun _ k => XS.icmpNo X0.here hx rfl (hb hby d1_215) rfl (flt hc30).1 k) ?_
                show Go p e below _ (s₁.setTop (mkF m 218 #[.val (.ref a0), .val (.int p1), .val (.int (x0 &&& (255 : Int32))), .val (.int (4 : Int32)), .val (.int lo), .val (.int hi), .val (.int (p1 + (4 : Int32))), .val (.int (3 : Int32)), .val (.int (x3 &&& (255 : Int32))), .val (.int (0 : Int32))] []))
                refine Go.st (fun _ k => XS.iload X0.here hx rfl (hb hby d1_218) rfl k) ?_
                refine Go.st (fun _ k => XS.iload X0.here hx rfl (hb hby d1_220) rfl k) ?_
                show Go p e below _ (s₁.setTop (mkF m 222 #[.val (.ref a0), .val (.int p1), .val (.int (x0 &&& (255 : Int32))), .val (.int (4 : Int32)), .val (.int lo), .val (.int hi), .val (.int (p1 + (4 : Int32))), .val (.int (3 : Int32)), .val (.int (x3 &&& (255 : Int32))), .val (.int (0 : Int32))] [(.int (0 : Int32)), (.int (x3 &&& (255 : Int32)))]))
                refine Go.st (fun _ k => XS.ifYes X0.here hx rfl (pc0 := 222) (pc' := 230) rfl (hb hby d1_222) rfl ((if0 _ _).trans (teq (by decide : ((0 : Int32) = (0 : Int32)))).1) (by decide) (by decide) k) ?_
                show Go p e below _ (s₁.setTop (mkF m 230 #[.val (.ref a0), .val (.int p1), .val (.int (x0 &&& (255 : Int32))), .val (.int (4 : Int32)), .val (.int lo), .val (.int hi), .val (.int (p1 + (4 : Int32))), .val (.int (3 : Int32)), .val (.int (x3 &&& (255 : Int32))), .val (.int (0 : Int32))] [(.int (x3 &&& (255 : Int32)))]))
                refine Go.st (fun _ k => XS.sipush X0.here hx rfl (hb hby d1_230) k) ?_
                by_cases hc31 : (191 : Int32) < (x3 &&& (255 : Int32))
                · show Go p e below _ (s₁.setTop (mkF m 233 #[.val (.ref a0), .val (.int p1), .val (.int (x0 &&& (255 : Int32))), .val (.int (4 : Int32)), .val (.int lo), .val (.int hi), .val (.int (p1 + (4 : Int32))), .val (.int (3 : Int32)), .val (.int (x3 &&& (255 : Int32))), .val (.int (0 : Int32))] [(.int (191 : Int32)), (.int (x3 &&& (255 : Int32)))]))
                  refine Go.st (fun _ k => XS.icmpNo X0.here hx rfl (hb hby d1_233) rfl (tlt hc31).2.2.2 k) ?_
                  show Go p e below _ (s₁.setTop (mkF m 236 #[.val (.ref a0), .val (.int p1), .val (.int (x0 &&& (255 : Int32))), .val (.int (4 : Int32)), .val (.int lo), .val (.int hi), .val (.int (p1 + (4 : Int32))), .val (.int (3 : Int32)), .val (.int (x3 &&& (255 : Int32))), .val (.int (0 : Int32))] []))
                  refine Go.st (fun _ k => XS.iconst X0.here hx rfl (hb hby d1_236) k) ?_
                  refine Go.st (fun _ k => XS.istore X0.here hx rfl (hb hby d1_237) rfl (l' := #[.val (.ref a0), .val (.int p1), .val (.int (x0 &&& (255 : Int32))), .val (.int (4 : Int32)), .val (.int lo), .val (.int hi), .val (.int (-1 : Int32)), .val (.int (3 : Int32)), .val (.int (x3 &&& (255 : Int32))), .val (.int (0 : Int32))]) rfl k) ?_
                  show Go p e below _ (s₁.setTop (mkF m 239 #[.val (.ref a0), .val (.int p1), .val (.int (x0 &&& (255 : Int32))), .val (.int (4 : Int32)), .val (.int lo), .val (.int hi), .val (.int (-1 : Int32)), .val (.int (3 : Int32)), .val (.int (x3 &&& (255 : Int32))), .val (.int (0 : Int32))] []))
                  refine Go.st (fun _ k => XS.iinc X0.here hx rfl (hb hby d1_239) rfl (l' := #[.val (.ref a0), .val (.int p1), .val (.int (x0 &&& (255 : Int32))), .val (.int (4 : Int32)), .val (.int lo), .val (.int hi), .val (.int (-1 : Int32)), .val (.int (4 : Int32)), .val (.int (x3 &&& (255 : Int32))), .val (.int (0 : Int32))]) rfl k) ?_
                  show Go p e below _ (s₁.setTop (mkF m 242 #[.val (.ref a0), .val (.int p1), .val (.int (x0 &&& (255 : Int32))), .val (.int (4 : Int32)), .val (.int lo), .val (.int hi), .val (.int (-1 : Int32)), .val (.int (4 : Int32)), .val (.int (x3 &&& (255 : Int32))), .val (.int (0 : Int32))] []))
                  refine Go.st (fun _ k => XS.goto X0.here hx rfl (pc0 := 242) (pc' := 163) rfl (hb hby d1_242) (by decide) (by decide) k) ?_
                  show Go p e below _ (s₁.setTop (mkF m 163 #[.val (.ref a0), .val (.int p1), .val (.int (x0 &&& (255 : Int32))), .val (.int (4 : Int32)), .val (.int lo), .val (.int hi), .val (.int (-1 : Int32)), .val (.int (4 : Int32)), .val (.int (x3 &&& (255 : Int32))), .val (.int (0 : Int32))] []))
                  refine Go.st (fun _ k => XS.iload X0.here hx rfl (hb hby d1_163) rfl k) ?_
                  refine Go.st (fun _ k => XS.iloadN X0.here hx rfl (hb hby d1_165) rfl k) ?_
                  show Go p e below _ (s₁.setTop (mkF m 166 #[.val (.ref a0), .val (.int p1), .val (.int (x0 &&& (255 : Int32))), .val (.int (4 : Int32)), .val (.int lo), .val (.int hi), .val (.int (-1 : Int32)), .val (.int (4 : Int32)), .val (.int (x3 &&& (255 : Int32))), .val (.int (0 : Int32))] [(.int (4 : Int32)), (.int (4 : Int32))]))
                  refine Go.st (fun _ k => XS.icmpYes X0.here hx rfl (pc0 := 166) (pc' := 245) rfl (hb hby d1_166) rfl (flt (by decide : ¬ ((4 : Int32) < (4 : Int32)))).2.1 (by decide) (by decide) k) ?_
                  show Go p e below _ (s₁.setTop (mkF m 245 #[.val (.ref a0), .val (.int p1), .val (.int (x0 &&& (255 : Int32))), .val (.int (4 : Int32)), .val (.int lo), .val (.int hi), .val (.int (-1 : Int32)), .val (.int (4 : Int32)), .val (.int (x3 &&& (255 : Int32))), .val (.int (0 : Int32))] []))
                  refine Go.st (fun _ k => XS.iload X0.here hx rfl (hb hby d1_245) rfl k) ?_
                  obtain ⟨fs, hr, hrun, hended, hW, hsame⟩ := X0.leave (v := some (.int (-1 : Int32))) (fun h => by rw [Bd.returns] at h; cases h)
                  refine ⟨_, _, retI X0 hx Bd.returns (hb hby d1_247) hr, hrun, hended, _, _, rfl, ?_, ⟨_, rfl⟩, hW, hsame.mono (by decide) (by decide)⟩
                  show Q_rmCE Z x0 x1 x2 x3 a0 p1 kk z vs h0 n0 _ s₁.heap _
                  rw [e0]
                  refine ⟨?_, N0, rfl⟩
                  rw [hj]
                  unfold fT4
                  rw [if_neg hc19, if_neg hc22, if_neg hc23, if_neg hc26, if_neg hc27, if_neg hc30, if_pos hc31]
                · show Go p e below _ (s₁.setTop (mkF m 233 #[.val (.ref a0), .val (.int p1), .val (.int (x0 &&& (255 : Int32))), .val (.int (4 : Int32)), .val (.int lo), .val (.int hi), .val (.int (p1 + (4 : Int32))), .val (.int (3 : Int32)), .val (.int (x3 &&& (255 : Int32))), .val (.int (0 : Int32))] [(.int (191 : Int32)), (.int (x3 &&& (255 : Int32)))]))
                  refine Go.st (fun _ k => XS.icmpYes X0.here hx rfl (pc0 := 233) (pc' := 239) rfl (hb hby d1_233) rfl (flt hc31).2.2.2 (by decide) (by decide) k) ?_
                  show Go p e below _ (s₁.setTop (mkF m 239 #[.val (.ref a0), .val (.int p1), .val (.int (x0 &&& (255 : Int32))), .val (.int (4 : Int32)), .val (.int lo), .val (.int hi), .val (.int (p1 + (4 : Int32))), .val (.int (3 : Int32)), .val (.int (x3 &&& (255 : Int32))), .val (.int (0 : Int32))] []))
                  refine Go.st (fun _ k => XS.iinc X0.here hx rfl (hb hby d1_239) rfl (l' := #[.val (.ref a0), .val (.int p1), .val (.int (x0 &&& (255 : Int32))), .val (.int (4 : Int32)), .val (.int lo), .val (.int hi), .val (.int (p1 + (4 : Int32))), .val (.int (4 : Int32)), .val (.int (x3 &&& (255 : Int32))), .val (.int (0 : Int32))]) rfl k) ?_
                  show Go p e below _ (s₁.setTop (mkF m 242 #[.val (.ref a0), .val (.int p1), .val (.int (x0 &&& (255 : Int32))), .val (.int (4 : Int32)), .val (.int lo), .val (.int hi), .val (.int (p1 + (4 : Int32))), .val (.int (4 : Int32)), .val (.int (x3 &&& (255 : Int32))), .val (.int (0 : Int32))] []))
                  refine Go.st (fun _ k => XS.goto X0.here hx rfl (pc0 := 242) (pc' := 163) rfl (hb hby d1_242) (by decide) (by decide) k) ?_
                  show Go p e below _ (s₁.setTop (mkF m 163 #[.val (.ref a0), .val (.int p1), .val (.int (x0 &&& (255 : Int32))), .val (.int (4 : Int32)), .val (.int lo), .val (.int hi), .val (.int (p1 + (4 : Int32))), .val (.int (4 : Int32)), .val (.int (x3 &&& (255 : Int32))), .val (.int (0 : Int32))] []))
                  refine Go.st (fun _ k => XS.iload X0.here hx rfl (hb hby d1_163) rfl k) ?_
                  refine Go.st (fun _ k => XS.iloadN X0.here hx rfl (hb hby d1_165) rfl k) ?_
                  show Go p e below _ (s₁.setTop (mkF m 166 #[.val (.ref a0), .val (.int p1), .val (.int (x0 &&& (255 : Int32))), .val (.int (4 : Int32)), .val (.int lo), .val (.int hi), .val (.int (p1 + (4 : Int32))), .val (.int (4 : Int32)), .val (.int (x3 &&& (255 : Int32))), .val (.int (0 : Int32))] [(.int (4 : Int32)), (.int (4 : Int32))]))
                  refine Go.st (fun _ k => XS.icmpYes X0.here hx rfl (pc0 := 166) (pc' := 245) rfl (hb hby d1_166) rfl (flt (by decide : ¬ ((4 : Int32) < (4 : Int32)))).2.1 (by decide) (by decide) k) ?_
                  show Go p e below _ (s₁.setTop (mkF m 245 #[.val (.ref a0), .val (.int p1), .val (.int (x0 &&& (255 : Int32))), .val (.int (4 : Int32)), .val (.int lo), .val (.int hi), .val (.int (p1 + (4 : Int32))), .val (.int (4 : Int32)), .val (.int (x3 &&& (255 : Int32))), .val (.int (0 : Int32))] []))
                  refine Go.st (fun _ k => XS.iload X0.here hx rfl (hb hby d1_245) rfl k) ?_
                  obtain ⟨fs, hr, hrun, hended, hW, hsame⟩ := X0.leave (v := some (.int (p1 + (4 : Int32)))) (fun h => by rw [Bd.returns] at h; cases h)
                  refine ⟨_, _, retI X0 hx Bd.returns (hb hby d1_247) hr, hrun, hended, _, _, rfl, ?_, ⟨_, rfl⟩, hW, hsame.mono (by decide) (by decide)⟩
                  show Q_rmCE Z x0 x1 x2 x3 a0 p1 kk z vs h0 n0 _ s₁.heap _
                  rw [e0]
                  refine ⟨?_, N0, rfl⟩
                  rw [hj]
                  unfold fT4
                  rw [if_neg hc19, if_neg hc22, if_neg hc23, if_neg hc26, if_neg hc27, if_neg hc30, if_neg hc31]
  refine Go.st (fun _ k => XS.iloadN X0.here hx rfl (hb hby d1_18) rfl k) ?_
  show Go p e below _ (s₁.setTop (mkF m 19 #[.val (.ref a0), .val (.int p1), .val (.int (x0 &&& (255 : Int32))), .unset, .val (.int (128 : Int32)), .val (.int (191 : Int32)), .unset, .unset, .unset, .unset] [(.int (x0 &&& (255 : Int32)))]))
  refine Go.st (fun _ k => XS.sipush X0.here hx rfl (hb hby d1_19) k) ?_
  by_cases hc32 : (x0 &&& (255 : Int32)) < (194 : Int32)
  · show Go p e below _ (s₁.setTop (mkF m 22 #[.val (.ref a0), .val (.int p1), .val (.int (x0 &&& (255 : Int32))), .unset, .val (.int (128 : Int32)), .val (.int (191 : Int32)), .unset, .unset, .unset, .unset] [(.int (194 : Int32)), (.int (x0 &&& (255 : Int32)))]))
    refine Go.st (fun _ k => XS.icmpYes X0.here hx rfl (pc0 := 22) (pc' := 37) rfl (hb hby d1_22) rfl (tlt hc32).1 (by decide) (by decide) k) ?_
    show Go p e below _ (s₁.setTop (mkF m 37 #[.val (.ref a0), .val (.int p1), .val (.int (x0 &&& (255 : Int32))), .unset, .val (.int (128 : Int32)), .val (.int (191 : Int32)), .unset, .unset, .unset, .unset] []))
    refine Go.st (fun _ k => XS.iloadN X0.here hx rfl (hb hby d1_37) rfl k) ?_
    refine Go.st (fun _ k => XS.sipush X0.here hx rfl (hb hby d1_38) k) ?_
    show Go p e below _ (s₁.setTop (mkF m 41 #[.val (.ref a0), .val (.int p1), .val (.int (x0 &&& (255 : Int32))), .unset, .val (.int (128 : Int32)), .val (.int (191 : Int32)), .unset, .unset, .unset, .unset] [(.int (224 : Int32)), (.int (x0 &&& (255 : Int32)))]))
    refine Go.st (fun _ k => XS.icmpYes X0.here hx rfl (pc0 := 41) (pc' := 90) rfl (hb hby d1_41) rfl (tlt (own_ta (own_ua hc32) (by decide))).1 (by decide) (by decide) k) ?_
    show Go p e below _ (s₁.setTop (mkF m 90 #[.val (.ref a0), .val (.int p1), .val (.int (x0 &&& (255 : Int32))), .unset, .val (.int (128 : Int32)), .val (.int (191 : Int32)), .unset, .unset, .unset, .unset] []))
    refine Go.st (fun _ k => XS.iloadN X0.here hx rfl (hb hby d1_90) rfl k) ?_
    refine Go.st (fun _ k => XS.sipush X0.here hx rfl (hb hby d1_91) k) ?_
    show Go p e below _ (s₁.setTop (mkF m 94 #[.val (.ref a0), .val (.int p1), .val (.int (x0 &&& (255 : Int32))), .unset, .val (.int (128 : Int32)), .val (.int (191 : Int32)), .unset, .unset, .unset, .unset] [(.int (240 : Int32)), (.int (x0 &&& (255 : Int32)))]))
    refine Go.st (fun _ k => XS.icmpYes X0.here hx rfl (pc0 := 94) (pc' := 143) rfl (hb hby d1_94) rfl (tlt (own_ta (own_ua hc32) (by decide))).1 (by decide) (by decide) k) ?_
    show Go p e below _ (s₁.setTop (mkF m 143 #[.val (.ref a0), .val (.int p1), .val (.int (x0 &&& (255 : Int32))), .unset, .val (.int (128 : Int32)), .val (.int (191 : Int32)), .unset, .unset, .unset, .unset] []))
    refine Go.st (fun _ k => XS.iconst X0.here hx rfl (hb hby d1_143) k) ?_
    obtain ⟨fs, hr, hrun, hended, hW, hsame⟩ := X0.leave (v := some (.int (-1 : Int32))) (fun h => by rw [Bd.returns] at h; cases h)
    refine ⟨_, _, retI X0 hx Bd.returns (hb hby d1_144) hr, hrun, hended, _, _, rfl, ?_, ⟨_, rfl⟩, hW, hsame.mono (by decide) (by decide)⟩
    show Q_rmCE Z x0 x1 x2 x3 a0 p1 kk z vs h0 n0 _ s₁.heap _
    rw [e0]
    refine ⟨?_, N0, rfl⟩
    unfold fCE
    rw [if_pos hc32]
  · show Go p e below _ (s₁.setTop (mkF m 22 #[.val (.ref a0), .val (.int p1), .val (.int (x0 &&& (255 : Int32))), .unset, .val (.int (128 : Int32)), .val (.int (191 : Int32)), .unset, .unset, .unset, .unset] [(.int (194 : Int32)), (.int (x0 &&& (255 : Int32)))]))
    refine Go.st (fun _ k => XS.icmpNo X0.here hx rfl (hb hby d1_22) rfl (flt hc32).1 k) ?_
    show Go p e below _ (s₁.setTop (mkF m 25 #[.val (.ref a0), .val (.int p1), .val (.int (x0 &&& (255 : Int32))), .unset, .val (.int (128 : Int32)), .val (.int (191 : Int32)), .unset, .unset, .unset, .unset] []))
    refine Go.st (fun _ k => XS.iloadN X0.here hx rfl (hb hby d1_25) rfl k) ?_
    refine Go.st (fun _ k => XS.sipush X0.here hx rfl (hb hby d1_26) k) ?_
    show Go p e below _ (s₁.setTop (mkF m 29 #[.val (.ref a0), .val (.int p1), .val (.int (x0 &&& (255 : Int32))), .unset, .val (.int (128 : Int32)), .val (.int (191 : Int32)), .unset, .unset, .unset, .unset] [(.int (223 : Int32)), (.int (x0 &&& (255 : Int32)))]))
    by_cases hc33 : (223 : Int32) < (x0 &&& (255 : Int32))
    · show Go p e below _ (s₁.setTop (mkF m 29 #[.val (.ref a0), .val (.int p1), .val (.int (x0 &&& (255 : Int32))), .unset, .val (.int (128 : Int32)), .val (.int (191 : Int32)), .unset, .unset, .unset, .unset] [(.int (223 : Int32)), (.int (x0 &&& (255 : Int32)))]))
      refine Go.st (fun _ k => XS.icmpYes X0.here hx rfl (pc0 := 29) (pc' := 37) rfl (hb hby d1_29) rfl (tlt hc33).2.2.1 (by decide) (by decide) k) ?_
      show Go p e below _ (s₁.setTop (mkF m 37 #[.val (.ref a0), .val (.int p1), .val (.int (x0 &&& (255 : Int32))), .unset, .val (.int (128 : Int32)), .val (.int (191 : Int32)), .unset, .unset, .unset, .unset] []))
      refine Go.st (fun _ k => XS.iloadN X0.here hx rfl (hb hby d1_37) rfl k) ?_
      refine Go.st (fun _ k => XS.sipush X0.here hx rfl (hb hby d1_38) k) ?_
      show Go p e below _ (s₁.setTop (mkF m 41 #[.val (.ref a0), .val (.int p1), .val (.int (x0 &&& (255 : Int32))), .unset, .val (.int (128 : Int32)), .val (.int (191 : Int32)), .unset, .unset, .unset, .unset] [(.int (224 : Int32)), (.int (x0 &&& (255 : Int32)))]))
      refine Go.st (fun _ k => XS.icmpNo X0.here hx rfl (hb hby d1_41) rfl (flt (own_fa (own_lb hc33) (by decide))).1 k) ?_
      show Go p e below _ (s₁.setTop (mkF m 44 #[.val (.ref a0), .val (.int p1), .val (.int (x0 &&& (255 : Int32))), .unset, .val (.int (128 : Int32)), .val (.int (191 : Int32)), .unset, .unset, .unset, .unset] []))
      refine Go.st (fun _ k => XS.iloadN X0.here hx rfl (hb hby d1_44) rfl k) ?_
      refine Go.st (fun _ k => XS.sipush X0.here hx rfl (hb hby d1_45) k) ?_
      show Go p e below _ (s₁.setTop (mkF m 48 #[.val (.ref a0), .val (.int p1), .val (.int (x0 &&& (255 : Int32))), .unset, .val (.int (128 : Int32)), .val (.int (191 : Int32)), .unset, .unset, .unset, .unset] [(.int (239 : Int32)), (.int (x0 &&& (255 : Int32)))]))
      by_cases hc34 : (239 : Int32) < (x0 &&& (255 : Int32))
      · show Go p e below _ (s₁.setTop (mkF m 48 #[.val (.ref a0), .val (.int p1), .val (.int (x0 &&& (255 : Int32))), .unset, .val (.int (128 : Int32)), .val (.int (191 : Int32)), .unset, .unset, .unset, .unset] [(.int (239 : Int32)), (.int (x0 &&& (255 : Int32)))]))
        refine Go.st (fun _ k => XS.icmpYes X0.here hx rfl (pc0 := 48) (pc' := 90) rfl (hb hby d1_48) rfl (tlt hc34).2.2.1 (by decide) (by decide) k) ?_
        show Go p e below _ (s₁.setTop (mkF m 90 #[.val (.ref a0), .val (.int p1), .val (.int (x0 &&& (255 : Int32))), .unset, .val (.int (128 : Int32)), .val (.int (191 : Int32)), .unset, .unset, .unset, .unset] []))
        refine Go.st (fun _ k => XS.iloadN X0.here hx rfl (hb hby d1_90) rfl k) ?_
        refine Go.st (fun _ k => XS.sipush X0.here hx rfl (hb hby d1_91) k) ?_
        show Go p e below _ (s₁.setTop (mkF m 94 #[.val (.ref a0), .val (.int p1), .val (.int (x0 &&& (255 : Int32))), .unset, .val (.int (128 : Int32)), .val (.int (191 : Int32)), .unset, .unset, .unset, .unset] [(.int (240 : Int32)), (.int (x0 &&& (255 : Int32)))]))
        refine Go.st (fun _ k => XS.icmpNo X0.here hx rfl (hb hby d1_94) rfl (flt (own_fa (own_lb hc34) (by decide))).1 k) ?_
        show Go p e below _ (s₁.setTop (mkF m 97 #[.val (.ref a0), .val (.int p1), .val (.int (x0 &&& (255 : Int32))), .unset, .val (.int (128 : Int32)), .val (.int (191 : Int32)), .unset, .unset, .unset, .unset] []))
        refine Go.st (fun _ k => XS.iloadN X0.here hx rfl (hb hby d1_97) rfl k) ?_
        refine Go.st (fun _ k => XS.sipush X0.here hx rfl (hb hby d1_98) k) ?_
        show Go p e below _ (s₁.setTop (mkF m 101 #[.val (.ref a0), .val (.int p1), .val (.int (x0 &&& (255 : Int32))), .unset, .val (.int (128 : Int32)), .val (.int (191 : Int32)), .unset, .unset, .unset, .unset] [(.int (244 : Int32)), (.int (x0 &&& (255 : Int32)))]))
        by_cases hc35 : (244 : Int32) < (x0 &&& (255 : Int32))
        · show Go p e below _ (s₁.setTop (mkF m 101 #[.val (.ref a0), .val (.int p1), .val (.int (x0 &&& (255 : Int32))), .unset, .val (.int (128 : Int32)), .val (.int (191 : Int32)), .unset, .unset, .unset, .unset] [(.int (244 : Int32)), (.int (x0 &&& (255 : Int32)))]))
          refine Go.st (fun _ k => XS.icmpYes X0.here hx rfl (pc0 := 101) (pc' := 143) rfl (hb hby d1_101) rfl (tlt hc35).2.2.1 (by decide) (by decide) k) ?_
          show Go p e below _ (s₁.setTop (mkF m 143 #[.val (.ref a0), .val (.int p1), .val (.int (x0 &&& (255 : Int32))), .unset, .val (.int (128 : Int32)), .val (.int (191 : Int32)), .unset, .unset, .unset, .unset] []))
          refine Go.st (fun _ k => XS.iconst X0.here hx rfl (hb hby d1_143) k) ?_
          obtain ⟨fs, hr, hrun, hended, hW, hsame⟩ := X0.leave (v := some (.int (-1 : Int32))) (fun h => by rw [Bd.returns] at h; cases h)
          refine ⟨_, _, retI X0 hx Bd.returns (hb hby d1_144) hr, hrun, hended, _, _, rfl, ?_, ⟨_, rfl⟩, hW, hsame.mono (by decide) (by decide)⟩
          show Q_rmCE Z x0 x1 x2 x3 a0 p1 kk z vs h0 n0 _ s₁.heap _
          rw [e0]
          refine ⟨?_, N0, rfl⟩
          unfold fCE
          rw [if_neg hc32, if_pos hc33, if_pos hc34, if_pos hc35]
        · show Go p e below _ (s₁.setTop (mkF m 101 #[.val (.ref a0), .val (.int p1), .val (.int (x0 &&& (255 : Int32))), .unset, .val (.int (128 : Int32)), .val (.int (191 : Int32)), .unset, .unset, .unset, .unset] [(.int (244 : Int32)), (.int (x0 &&& (255 : Int32)))]))
          refine Go.st (fun _ k => XS.icmpNo X0.here hx rfl (hb hby d1_101) rfl (flt hc35).2.2.1 k) ?_
          show Go p e below _ (s₁.setTop (mkF m 104 #[.val (.ref a0), .val (.int p1), .val (.int (x0 &&& (255 : Int32))), .unset, .val (.int (128 : Int32)), .val (.int (191 : Int32)), .unset, .unset, .unset, .unset] []))
          refine Go.st (fun _ k => XS.iconst X0.here hx rfl (hb hby d1_104) k) ?_
          refine Go.st (fun _ k => XS.istoreN X0.here hx rfl (hb hby d1_105) rfl (l' := #[.val (.ref a0), .val (.int p1), .val (.int (x0 &&& (255 : Int32))), .val (.int (4 : Int32)), .val (.int (128 : Int32)), .val (.int (191 : Int32)), .unset, .unset, .unset, .unset]) rfl k) ?_
          show Go p e below _ (s₁.setTop (mkF m 106 #[.val (.ref a0), .val (.int p1), .val (.int (x0 &&& (255 : Int32))), .val (.int (4 : Int32)), .val (.int (128 : Int32)), .val (.int (191 : Int32)), .unset, .unset, .unset, .unset] []))
          refine Go.st (fun _ k => XS.iloadN X0.here hx rfl (hb hby d1_106) rfl k) ?_
          refine Go.st (fun _ k => XS.sipush X0.here hx rfl (hb hby d1_107) k) ?_
          show Go p e below _ (s₁.setTop (mkF m 110 #[.val (.ref a0), .val (.int p1), .val (.int (x0 &&& (255 : Int32))), .val (.int (4 : Int32)), .val (.int (128 : Int32)), .val (.int (191 : Int32)), .unset, .unset, .unset, .unset] [(.int (240 : Int32)), (.int (x0 &&& (255 : Int32)))]))
          by_cases hc36 : (x0 &&& (255 : Int32)) = (240 : Int32)
          · show Go p e below _ (s₁.setTop (mkF m 110 #[.val (.ref a0), .val (.int p1), .val (.int (x0 &&& (255 : Int32))), .val (.int (4 : Int32)), .val (.int (128 : Int32)), .val (.int (191 : Int32)), .unset, .unset, .unset, .unset] [(.int (240 : Int32)), (.int (x0 &&& (255 : Int32)))]))
            refine Go.st (fun _ k => XS.icmpNo X0.here hx rfl (hb hby d1_110) rfl (teq hc36).2 k) ?_
            show Go p e below _ (s₁.setTop (mkF m 113 #[.val (.ref a0), .val (.int p1), .val (.int (x0 &&& (255 : Int32))), .val (.int (4 : Int32)), .val (.int (128 : Int32)), .val (.int (191 : Int32)), .unset, .unset, .unset, .unset] []))
            refine Go.st (fun _ k => XS.sipush X0.here hx rfl (hb hby d1_113) k) ?_
            refine Go.st (fun _ k => XS.goto X0.here hx rfl (pc0 := 116) (pc' := 121) rfl (hb hby d1_116) (by decide) (by decide) k) ?_
            show Go p e below _ (s₁.setTop (mkF m 121 #[.val (.ref a0), .val (.int p1), .val (.int (x0 &&& (255 : Int32))), .val (.int (4 : Int32)), .val (.int (128 : Int32)), .val (.int (191 : Int32)), .unset, .unset, .unset, .unset] [(.int (144 : Int32))]))
            refine Go.st (fun _ k => XS.istore X0.here hx rfl (hb hby d1_121) rfl (l' := #[.val (.ref a0), .val (.int p1), .val (.int (x0 &&& (255 : Int32))), .val (.int (4 : Int32)), .val (.int (144 : Int32)), .val (.int (191 : Int32)), .unset, .unset, .unset, .unset]) rfl k) ?_
            show Go p e below _ (s₁.setTop (mkF m 123 #[.val (.ref a0), .val (.int p1), .val (.int (x0 &&& (255 : Int32))), .val (.int (4 : Int32)), .val (.int (144 : Int32)), .val (.int (191 : Int32)), .unset, .unset, .unset, .unset] []))
            refine Go.st (fun _ k => XS.iloadN X0.here hx rfl (hb hby d1_123) rfl k) ?_
            refine Go.st (fun _ k => XS.sipush X0.here hx rfl (hb hby d1_124) k) ?_
            show Go p e below _ (s₁.setTop (mkF m 127 #[.val (.ref a0), .val (.int p1), .val (.int (x0 &&& (255 : Int32))), .val (.int (4 : Int32)), .val (.int (144 : Int32)), .val (.int (191 : Int32)), .unset, .unset, .unset, .unset] [(.int (244 : Int32)), (.int (x0 &&& (255 : Int32)))]))
            refine Go.st (fun _ k => XS.icmpYes X0.here hx rfl (pc0 := 127) (pc' := 136) rfl (hb hby d1_127) rfl (feq (own_fd (own_ue hc36) (by decide))).2 (by decide) (by decide) k) ?_
            show Go p e below _ (s₁.setTop (mkF m 136 #[.val (.ref a0), .val (.int p1), .val (.int (x0 &&& (255 : Int32))), .val (.int (4 : Int32)), .val (.int (144 : Int32)), .val (.int (191 : Int32)), .unset, .unset, .unset, .unset] []))
            refine Go.st (fun _ k => XS.iload X0.here hx rfl (hb hby d1_136) rfl k) ?_
            refine Go.st (fun _ k => XS.istore X0.here hx rfl (hb hby d1_138) rfl (l' := #[.val (.ref a0), .val (.int p1), .val (.int (x0 &&& (255 : Int32))), .val (.int (4 : Int32)), .val (.int (144 : Int32)), .val (.int (191 : Int32)), .unset, .unset, .unset, .unset]) rfl k) ?_
            show Go p e below _ (s₁.setTop (mkF m 140 #[.val (.ref a0), .val (.int p1), .val (.int (x0 &&& (255 : Int32))), .val (.int (4 : Int32)), .val (.int (144 : Int32)), .val (.int (191 : Int32)), .unset, .unset, .unset, .unset] []))
            refine Go.st (fun _ k => XS.goto X0.here hx rfl (pc0 := 140) (pc' := 145) rfl (hb hby d1_140) (by decide) (by decide) k) ?_
            show Go p e below _ (s₁.setTop (mkF m 145 #[.val (.ref a0), .val (.int p1), .val (.int (x0 &&& (255 : Int32))), .val (.int (4 : Int32)), .val (.int (144 : Int32)), .val (.int (191 : Int32)), .unset, .unset, .unset, .unset] []))
            exact key4 (144 : Int32) (191 : Int32) (by unfold fCE; rw [if_neg hc32, if_pos hc33, if_pos hc34, if_neg hc35, if_pos hc36])
          · show Go p e below _ (s₁.setTop (mkF m 110 #[.val (.ref a0), .val (.int p1), .val (.int (x0 &&& (255 : Int32))), .val (.int (4 : Int32)), .val (.int (128 : Int32)), .val (.int (191 : Int32)), .unset, .unset, .unset, .unset] [(.int (240 : Int32)), (.int (x0 &&& (255 : Int32)))]))
            refine Go.st (fun _ k => XS.icmpYes X0.here hx rfl (pc0 := 110) (pc' := 119) rfl (hb hby d1_110) rfl (feq hc36).2 (by decide) (by decide) k) ?_
            show Go p e below _ (s₁.setTop (mkF m 119 #[.val (.ref a0), .val (.int p1), .val (.int (x0 &&& (255 : Int32))), .val (.int (4 : Int32)), .val (.int (128 : Int32)), .val (.int (191 : Int32)), .unset, .unset, .unset, .unset] []))
            refine Go.st (fun _ k => XS.iload X0.here hx rfl (hb hby d1_119) rfl k) ?_
            refine Go.st (fun _ k => XS.istore X0.here hx rfl (hb hby d1_121) rfl (l' := #[.val (.ref a0), .val (.int p1), .val (.int (x0 &&& (255 : Int32))), .val (.int (4 : Int32)), .val (.int (128 : Int32)), .val (.int (191 : Int32)), .unset, .unset, .unset, .unset]) rfl k) ?_
            show Go p e below _ (s₁.setTop (mkF m 123 #[.val (.ref a0), .val (.int p1), .val (.int (x0 &&& (255 : Int32))), .val (.int (4 : Int32)), .val (.int (128 : Int32)), .val (.int (191 : Int32)), .unset, .unset, .unset, .unset] []))
            refine Go.st (fun _ k => XS.iloadN X0.here hx rfl (hb hby d1_123) rfl k) ?_
            refine Go.st (fun _ k => XS.sipush X0.here hx rfl (hb hby d1_124) k) ?_
            show Go p e below _ (s₁.setTop (mkF m 127 #[.val (.ref a0), .val (.int p1), .val (.int (x0 &&& (255 : Int32))), .val (.int (4 : Int32)), .val (.int (128 : Int32)), .val (.int (191 : Int32)), .unset, .unset, .unset, .unset] [(.int (244 : Int32)), (.int (x0 &&& (255 : Int32)))]))
            by_cases hc37 : (x0 &&& (255 : Int32)) = (244 : Int32)
            · show Go p e below _ (s₁.setTop (mkF m 127 #[.val (.ref a0), .val (.int p1), .val (.int (x0 &&& (255 : Int32))), .val (.int (4 : Int32)), .val (.int (128 : Int32)), .val (.int (191 : Int32)), .unset, .unset, .unset, .unset] [(.int (244 : Int32)), (.int (x0 &&& (255 : Int32)))]))
              refine Go.st (fun _ k => XS.icmpNo X0.here hx rfl (hb hby d1_127) rfl (teq hc37).2 k) ?_
              show Go p e below _ (s₁.setTop (mkF m 130 #[.val (.ref a0), .val (.int p1), .val (.int (x0 &&& (255 : Int32))), .val (.int (4 : Int32)), .val (.int (128 : Int32)), .val (.int (191 : Int32)), .unset, .unset, .unset, .unset] []))
              refine Go.st (fun _ k => XS.sipush X0.here hx rfl (hb hby d1_130) k) ?_
              refine Go.st (fun _ k => XS.goto X0.here hx rfl (pc0 := 133) (pc' := 138) rfl (hb hby d1_133) (by decide) (by decide) k) ?_
              show Go p e below _ (s₁.setTop (mkF m 138 #[.val (.ref a0), .val (.int p1), .val (.int (x0 &&& (255 : Int32))), .val (.int (4 : Int32)), .val (.int (128 : Int32)), .val (.int (191 : Int32)), .unset, .unset, .unset, .unset] [(.int (143 : Int32))]))
              refine Go.st (fun _ k => XS.istore X0.here hx rfl (hb hby d1_138) rfl (l' := #[.val (.ref a0), .val (.int p1), .val (.int (x0 &&& (255 : Int32))), .val (.int (4 : Int32)), .val (.int (128 : Int32)), .val (.int (143 : Int32)), .unset, .unset, .unset, .unset]) rfl k) ?_
              show Go p e below _ (s₁.setTop (mkF m 140 #[.val (.ref a0), .val (.int p1), .val (.int (x0 &&& (255 : Int32))), .val (.int (4 : Int32)), .val (.int (128 : Int32)), .val (.int (143 : Int32)), .unset, .unset, .unset, .unset] []))
              refine Go.st (fun _ k => XS.goto X0.here hx rfl (pc0 := 140) (pc' := 145) rfl (hb hby d1_140) (by decide) (by decide) k) ?_
              show Go p e below _ (s₁.setTop (mkF m 145 #[.val (.ref a0), .val (.int p1), .val (.int (x0 &&& (255 : Int32))), .val (.int (4 : Int32)), .val (.int (128 : Int32)), .val (.int (143 : Int32)), .unset, .unset, .unset, .unset] []))
              exact key4 (128 : Int32) (143 : Int32) (by unfold fCE; rw [if_neg hc32, if_pos hc33, if_pos hc34, if_neg hc35, if_neg hc36, if_pos hc37])
            · show Go p e below _ (s₁.setTop (mkF m 127 #[.val (.ref a0), .val (.int p1), .val (.int (x0 &&& (255 : Int32))), .val (.int (4 : Int32)), .val (.int (128 : Int32)), .val (.int (191 : Int32)), .unset, .unset, .unset, .unset] [(.int (244 : Int32)), (.int (x0 &&& (255 : Int32)))]))
              refine Go.st (fun _ k => XS.icmpYes X0.here hx rfl (pc0 := 127) (pc' := 136) rfl (hb hby d1_127) rfl (feq hc37).2 (by decide) (by decide) k) ?_
              show Go p e below _ (s₁.setTop (mkF m 136 #[.val (.ref a0), .val (.int p1), .val (.int (x0 &&& (255 : Int32))), .val (.int (4 : Int32)), .val (.int (128 : Int32)), .val (.int (191 : Int32)), .unset, .unset, .unset, .unset] []))
              refine Go.st (fun _ k => XS.iload X0.here hx rfl (hb hby d1_136) rfl k) ?_
              refine Go.st (fun _ k => XS.istore X0.here hx rfl (hb hby d1_138) rfl (l' := #[.val (.ref a0), .val (.int p1), .val (.int (x0 &&& (255 : Int32))), .val (.int (4 : Int32)), .val (.int (128 : Int32)), .val (.int (191 : Int32)), .unset, .unset, .unset, .unset]) rfl k) ?_
              show Go p e below _ (s₁.setTop (mkF m 140 #[.val (.ref a0), .val (.int p1), .val (.int (x0 &&& (255 : Int32))), .val (.int (4 : Int32)), .val (.int (128 : Int32)), .val (.int (191 : Int32)), .unset, .unset, .unset, .unset] []))
              refine Go.st (fun _ k => XS.goto X0.here hx rfl (pc0 := 140) (pc' := 145) rfl (hb hby d1_140) (by decide) (by decide) k) ?_
              show Go p e below _ (s₁.setTop (mkF m 145 #[.val (.ref a0), .val (.int p1), .val (.int (x0 &&& (255 : Int32))), .val (.int (4 : Int32)), .val (.int (128 : Int32)), .val (.int (191 : Int32)), .unset, .unset, .unset, .unset] []))
              exact key4 (128 : Int32) (191 : Int32) (by unfold fCE; rw [if_neg hc32, if_pos hc33, if_pos hc34, if_neg hc35, if_neg hc36, if_neg hc37])
      · show Go p e below _ (s₁.setTop (mkF m 48 #[.val (.ref a0), .val (.int p1), .val (.int (x0 &&& (255 : Int32))), .unset, .val (.int (128 : Int32)), .val (.int (191 : Int32)), .unset, .unset, .unset, .unset] [(.int (239 : Int32)), (.int (x0 &&& (255 : Int32)))]))
        refine Go.st (fun _ k => XS.icmpNo X0.here hx rfl (hb hby d1_48) rfl (flt hc34).2.2.1 k) ?_
        show Go p e below _ (s₁.setTop (mkF m 51 #[.val (.ref a0), .val (.int p1), .val (.int (x0 &&& (255 : Int32))), .unset, .val (.int (128 : Int32)), .val (.int (191 : Int32)), .unset, .unset, .unset, .unset] []))
        refine Go.st (fun _ k => XS.iconst X0.here hx rfl (hb hby d1_51) k) ?_
        refine Go.st (fun _ k => XS.istoreN X0.here hx rfl (hb hby d1_52) rfl (l' := #[.val (.ref a0), .val (.int p1), .val (.int (x0 &&& (255 : Int32))), .val (.int (3 : Int32)), .val (.int (128 : Int32)), .val (.int (191 : Int32)), .unset, .unset, .unset, .unset]) rfl k) ?_
        show Go p e below _ (s₁.setTop (mkF m 53 #[.val (.ref a0), .val (.int p1), .val (.int (x0 &&& (255 : Int32))), .val (.int (3 : Int32)), .val (.int (128 : Int32)), .val (.int (191 : Int32)), .unset, .unset, .unset, .unset] []))
        refine Go.st (fun _ k => XS.iloadN X0.here hx rfl (hb hby d1_53) rfl k) ?_
        refine Go.st (fun _ k => XS.sipush X0.here hx rfl (hb hby d1_54) k) ?_
        show Go p e below _ (s₁.setTop (mkF m 57 #[.val (.ref a0), .val (.int p1), .val (.int (x0 &&& (255 : Int32))), .val (.int (3 : Int32)), .val (.int (128 : Int32)), .val (.int (191 : Int32)), .unset, .unset, .unset, .unset] [(.int (224 : Int32)), (.int (x0 &&& (255 : Int32)))]))
        by_cases hc38 : (x0 &&& (255 : Int32)) = (224 : Int32)
        · show Go p e below _ (s₁.setTop (mkF m 57 #[.val (.ref a0), .val (.int p1), .val (.int (x0 &&& (255 : Int32))), .val (.int (3 : Int32)), .val (.int (128 : Int32)), .val (.int (191 : Int32)), .unset, .unset, .unset, .unset] [(.int (224 : Int32)), (.int (x0 &&& (255 : Int32)))]))
          refine Go.st (fun _ k => XS.icmpNo X0.here hx rfl (hb hby d1_57) rfl (teq hc38).2 k) ?_
          show Go p e below _ (s₁.setTop (mkF m 60 #[.val (.ref a0), .val (.int p1), .val (.int (x0 &&& (255 : Int32))), .val (.int (3 : Int32)), .val (.int (128 : Int32)), .val (.int (191 : Int32)), .unset, .unset, .unset, .unset] []))
          refine Go.st (fun _ k => XS.sipush X0.here hx rfl (hb hby d1_60) k) ?_
          refine Go.st (fun _ k => XS.goto X0.here hx rfl (pc0 := 63) (pc' := 68) rfl (hb hby d1_63) (by decide) (by decide) k) ?_
          show Go p e below _ (s₁.setTop (mkF m 68 #[.val (.ref a0), .val (.int p1), .val (.int (x0 &&& (255 : Int32))), .val (.int (3 : Int32)), .val (.int (128 : Int32)), .val (.int (191 : Int32)), .unset, .unset, .unset, .unset] [(.int (160 : Int32))]))
          refine Go.st (fun _ k => XS.istore X0.here hx rfl (hb hby d1_68) rfl (l' := #[.val (.ref a0), .val (.int p1), .val (.int (x0 &&& (255 : Int32))), .val (.int (3 : Int32)), .val (.int (160 : Int32)), .val (.int (191 : Int32)), .unset, .unset, .unset, .unset]) rfl k) ?_
          show Go p e below _ (s₁.setTop (mkF m 70 #[.val (.ref a0), .val (.int p1), .val (.int (x0 &&& (255 : Int32))), .val (.int (3 : Int32)), .val (.int (160 : Int32)), .val (.int (191 : Int32)), .unset, .unset, .unset, .unset] []))
          refine Go.st (fun _ k => XS.iloadN X0.here hx rfl (hb hby d1_70) rfl k) ?_
          refine Go.st (fun _ k => XS.sipush X0.here hx rfl (hb hby d1_71) k) ?_
          show Go p e below _ (s₁.setTop (mkF m 74 #[.val (.ref a0), .val (.int p1), .val (.int (x0 &&& (255 : Int32))), .val (.int (3 : Int32)), .val (.int (160 : Int32)), .val (.int (191 : Int32)), .unset, .unset, .unset, .unset] [(.int (237 : Int32)), (.int (x0 &&& (255 : Int32)))]))
          refine Go.st (fun _ k => XS.icmpYes X0.here hx rfl (pc0 := 74) (pc' := 83) rfl (hb hby d1_74) rfl (feq (own_fd (own_ue hc38) (by decide))).2 (by decide) (by decide) k) ?_
          show Go p e below _ (s₁.setTop (mkF m 83 #[.val (.ref a0), .val (.int p1), .val (.int (x0 &&& (255 : Int32))), .val (.int (3 : Int32)), .val (.int (160 : Int32)), .val (.int (191 : Int32)), .unset, .unset, .unset, .unset] []))
          refine Go.st (fun _ k => XS.iload X0.here hx rfl (hb hby d1_83) rfl k) ?_
          refine Go.st (fun _ k => XS.istore X0.here hx rfl (hb hby d1_85) rfl (l' := #[.val (.ref a0), .val (.int p1), .val (.int (x0 &&& (255 : Int32))), .val (.int (3 : Int32)), .val (.int (160 : Int32)), .val (.int (191 : Int32)), .unset, .unset, .unset, .unset]) rfl k) ?_
          show Go p e below _ (s₁.setTop (mkF m 87 #[.val (.ref a0), .val (.int p1), .val (.int (x0 &&& (255 : Int32))), .val (.int (3 : Int32)), .val (.int (160 : Int32)), .val (.int (191 : Int32)), .unset, .unset, .unset, .unset] []))
          refine Go.st (fun _ k => XS.goto X0.here hx rfl (pc0 := 87) (pc' := 145) rfl (hb hby d1_87) (by decide) (by decide) k) ?_
          show Go p e below _ (s₁.setTop (mkF m 145 #[.val (.ref a0), .val (.int p1), .val (.int (x0 &&& (255 : Int32))), .val (.int (3 : Int32)), .val (.int (160 : Int32)), .val (.int (191 : Int32)), .unset, .unset, .unset, .unset] []))
          exact key3 (160 : Int32) (191 : Int32) (by unfold fCE; rw [if_neg hc32, if_pos hc33, if_neg hc34, if_pos hc38])
        · show Go p e below _ (s₁.setTop (mkF m 57 #[.val (.ref a0), .val (.int p1), .val (.int (x0 &&& (255 : Int32))), .val (.int (3 : Int32)), .val (.int (128 : Int32)), .val (.int (191 : Int32)), .unset, .unset, .unset, .unset] [(.int (224 : Int32)), (.int (x0 &&& (255 : Int32)))]))
          refine Go.st (fun _ k => XS.icmpYes X0.here hx rfl (pc0 := 57) (pc' := 66) rfl (hb hby d1_57) rfl (feq hc38).2 (by decide) (by decide) k) ?_
          show Go p e below _ (s₁.setTop (mkF m 66 #[.val (.ref a0), .val (.int p1), .val (.int (x0 &&& (255 : Int32))), .val (.int (3 : Int32)), .val (.int (128 : Int32)), .val (.int (191 : Int32)), .unset, .unset, .unset, .unset] []))
          refine Go.st (fun _ k => XS.iload X0.here hx rfl (hb hby d1_66) rfl k) ?_
          refine Go.st (fun _ k => XS.istore X0.here hx rfl (hb hby d1_68) rfl (l' := #[.val (.ref a0), .val (.int p1), .val (.int (x0 &&& (255 : Int32))), .val (.int (3 : Int32)), .val (.int (128 : Int32)), .val (.int (191 : Int32)), .unset, .unset, .unset, .unset]) rfl k) ?_
          show Go p e below _ (s₁.setTop (mkF m 70 #[.val (.ref a0), .val (.int p1), .val (.int (x0 &&& (255 : Int32))), .val (.int (3 : Int32)), .val (.int (128 : Int32)), .val (.int (191 : Int32)), .unset, .unset, .unset, .unset] []))
          refine Go.st (fun _ k => XS.iloadN X0.here hx rfl (hb hby d1_70) rfl k) ?_
          refine Go.st (fun _ k => XS.sipush X0.here hx rfl (hb hby d1_71) k) ?_
          show Go p e below _ (s₁.setTop (mkF m 74 #[.val (.ref a0), .val (.int p1), .val (.int (x0 &&& (255 : Int32))), .val (.int (3 : Int32)), .val (.int (128 : Int32)), .val (.int (191 : Int32)), .unset, .unset, .unset, .unset] [(.int (237 : Int32)), (.int (x0 &&& (255 : Int32)))]))
          by_cases hc39 : (x0 &&& (255 : Int32)) = (237 : Int32)
          · show Go p e below _ (s₁.setTop (mkF m 74 #[.val (.ref a0), .val (.int p1), .val (.int (x0 &&& (255 : Int32))), .val (.int (3 : Int32)), .val (.int (128 : Int32)), .val (.int (191 : Int32)), .unset, .unset, .unset, .unset] [(.int (237 : Int32)), (.int (x0 &&& (255 : Int32)))]))
            refine Go.st (fun _ k => XS.icmpNo X0.here hx rfl (hb hby d1_74) rfl (teq hc39).2 k) ?_
            show Go p e below _ (s₁.setTop (mkF m 77 #[.val (.ref a0), .val (.int p1), .val (.int (x0 &&& (255 : Int32))), .val (.int (3 : Int32)), .val (.int (128 : Int32)), .val (.int (191 : Int32)), .unset, .unset, .unset, .unset] []))
            refine Go.st (fun _ k => XS.sipush X0.here hx rfl (hb hby d1_77) k) ?_
            refine Go.st (fun _ k => XS.goto X0.here hx rfl (pc0 := 80) (pc' := 85) rfl (hb hby d1_80) (by decide) (by decide) k) ?_
            show Go p e below _ (s₁.setTop (mkF m 85 #[.val (.ref a0), .val (.int p1), .val (.int (x0 &&& (255 : Int32))), .val (.int (3 : Int32)), .val (.int (128 : Int32)), .val (.int (191 : Int32)), .unset, .unset, .unset, .unset] [(.int (159 : Int32))]))
            refine Go.st (fun _ k => XS.istore X0.here hx rfl (hb hby d1_85) rfl (l' := #[.val (.ref a0), .val (.int p1), .val (.int (x0 &&& (255 : Int32))), .val (.int (3 : Int32)), .val (.int (128 : Int32)), .val (.int (159 : Int32)), .unset, .unset, .unset, .unset]) rfl k) ?_
            show Go p e below _ (s₁.setTop (mkF m 87 #[.val (.ref a0), .val (.int p1), .val (.int (x0 &&& (255 : Int32))), .val (.int (3 : Int32)), .val (.int (128 : Int32)), .val (.int (159 : Int32)), .unset, .unset, .unset, .unset] []))
            refine Go.st (fun _ k => XS.goto X0.here hx rfl (pc0 := 87) (pc' := 145) rfl (hb hby d1_87) (by decide) (by decide) k) ?_
            show Go p e below _ (s₁.setTop (mkF m 145 #[.val (.ref a0), .val (.int p1), .val (.int (x0 &&& (255 : Int32))), .val (.int (3 : Int32)), .val (.int (128 : Int32)), .val (.int (159 : Int32)), .unset, .unset, .unset, .unset] []))
            exact key3 (128 : Int32) (159 : Int32) (by unfold fCE; rw [if_neg hc32, if_pos hc33, if_neg hc34, if_neg hc38, if_pos hc39])
          · show Go p e below _ (s₁.setTop (mkF m 74 #[.val (.ref a0), .val (.int p1), .val (.int (x0 &&& (255 : Int32))), .val (.int (3 : Int32)), .val (.int (128 : Int32)), .val (.int (191 : Int32)), .unset, .unset, .unset, .unset] [(.int (237 : Int32)), (.int (x0 &&& (255 : Int32)))]))
            refine Go.st (fun _ k => XS.icmpYes X0.here hx rfl (pc0 := 74) (pc' := 83) rfl (hb hby d1_74) rfl (feq hc39).2 (by decide) (by decide) k) ?_
            show Go p e below _ (s₁.setTop (mkF m 83 #[.val (.ref a0), .val (.int p1), .val (.int (x0 &&& (255 : Int32))), .val (.int (3 : Int32)), .val (.int (128 : Int32)), .val (.int (191 : Int32)), .unset, .unset, .unset, .unset] []))
            refine Go.st (fun _ k => XS.iload X0.here hx rfl (hb hby d1_83) rfl k) ?_
            refine Go.st (fun _ k => XS.istore X0.here hx rfl (hb hby d1_85) rfl (l' := #[.val (.ref a0), .val (.int p1), .val (.int (x0 &&& (255 : Int32))), .val (.int (3 : Int32)), .val (.int (128 : Int32)), .val (.int (191 : Int32)), .unset, .unset, .unset, .unset]) rfl k) ?_
            show Go p e below _ (s₁.setTop (mkF m 87 #[.val (.ref a0), .val (.int p1), .val (.int (x0 &&& (255 : Int32))), .val (.int (3 : Int32)), .val (.int (128 : Int32)), .val (.int (191 : Int32)), .unset, .unset, .unset, .unset] []))
            refine Go.st (fun _ k => XS.goto X0.here hx rfl (pc0 := 87) (pc' := 145) rfl (hb hby d1_87) (by decide) (by decide) k) ?_
            show Go p e below _ (s₁.setTop (mkF m 145 #[.val (.ref a0), .val (.int p1), .val (.int (x0 &&& (255 : Int32))), .val (.int (3 : Int32)), .val (.int (128 : Int32)), .val (.int (191 : Int32)), .unset, .unset, .unset, .unset] []))
            exact key3 (128 : Int32) (191 : Int32) (by unfold fCE; rw [if_neg hc32, if_pos hc33, if_neg hc34, if_neg hc38, if_neg hc39])
    · show Go p e below _ (s₁.setTop (mkF m 29 #[.val (.ref a0), .val (.int p1), .val (.int (x0 &&& (255 : Int32))), .unset, .val (.int (128 : Int32)), .val (.int (191 : Int32)), .unset, .unset, .unset, .unset] [(.int (223 : Int32)), (.int (x0 &&& (255 : Int32)))]))
      refine Go.st (fun _ k => XS.icmpNo X0.here hx rfl (hb hby d1_29) rfl (flt hc33).2.2.1 k) ?_
      show Go p e below _ (s₁.setTop (mkF m 32 #[.val (.ref a0), .val (.int p1), .val (.int (x0 &&& (255 : Int32))), .unset, .val (.int (128 : Int32)), .val (.int (191 : Int32)), .unset, .unset, .unset, .unset] []))
      refine Go.st (fun _ k => XS.iconst X0.here hx rfl (hb hby d1_32) k) ?_
      refine Go.st (fun _ k => XS.istoreN X0.here hx rfl (hb hby d1_33) rfl (l' := #[.val (.ref a0), .val (.int p1), .val (.int (x0 &&& (255 : Int32))), .val (.int (2 : Int32)), .val (.int (128 : Int32)), .val (.int (191 : Int32)), .unset, .unset, .unset, .unset]) rfl k) ?_
      show Go p e below _ (s₁.setTop (mkF m 34 #[.val (.ref a0), .val (.int p1), .val (.int (x0 &&& (255 : Int32))), .val (.int (2 : Int32)), .val (.int (128 : Int32)), .val (.int (191 : Int32)), .unset, .unset, .unset, .unset] []))
      refine Go.st (fun _ k => XS.goto X0.here hx rfl (pc0 := 34) (pc' := 145) rfl (hb hby d1_34) (by decide) (by decide) k) ?_
      show Go p e below _ (s₁.setTop (mkF m 145 #[.val (.ref a0), .val (.int p1), .val (.int (x0 &&& (255 : Int32))), .val (.int (2 : Int32)), .val (.int (128 : Int32)), .val (.int (191 : Int32)), .unset, .unset, .unset, .unset] []))
      exact key2 (128 : Int32) (191 : Int32) (by unfold fCE; rw [if_neg hc32, if_neg hc33])
theorem d3_0 : decode method_3_code 0 = .ok (.iload_n 0, 1) := by decide +kernel
theorem d3_1 : decode method_3_code 1 = .ok (.sipush 192, 3) := by decide +kernel
theorem d3_4 : decode method_3_code 4 = .ok (.iand, 1) := by decide +kernel
theorem d3_5 : decode method_3_code 5 = .ok (.sipush 128, 3) := by decide +kernel
theorem d3_8 : decode method_3_code 8 = .ok (.if_icmp .ne 7, 3) := by decide +kernel
theorem d3_11 : decode method_3_code 11 = .ok (.iconst 1, 1) := by decide +kernel
theorem d3_12 : decode method_3_code 12 = .ok (.goto 4, 3) := by decide +kernel
theorem d3_15 : decode method_3_code 15 = .ok (.iconst 0, 1) := by decide +kernel
theorem d3_16 : decode method_3_code 16 = .ok (.ireturn, 1) := by decide +kernel
theorem pn_3 : plainName "com/example/apportis/apportis/Utf8CharacterEndPinLaw" = true := by first | (simp [plainName, overriddenIn]; done) | decide +kernel
theorem ef_rm3 (m : MethodId) (p0 : Int32) : entryFrame m #[(.int p0)] 1 = mkF m 0 #[.val (.int p0)] [] := by first | (simp [entryFrame, mkF, argsToLocals, Value.category]; done) | rfl
def fCont (p0 : Int32) : Int32 := if (p0 &&& (192 : Int32)) = (128 : Int32) then (1 : Int32) else (0 : Int32)
def Q_rm3 (Z : State) (p0 : Int32) (h0 : Heap) (n0 : Nat) (v : Option Value) (h : Heap) (L : List Loc) : Prop := v = some (.int (fCont p0)) ∧ Fr n0 L ∧ h = h0
abbrev F_rm3 (Z : State) (p0 : Int32) (h0 : Heap) (n0 : Nat) (s : State) (o : Outcome) (U : State) : Prop := ∃ v L, o = .returned v ∧ Q_rm3 Z p0 h0 n0 v U.heap L ∧ FrameEnd s o U L 0 0
set_option maxRecDepth 65536 in
set_option maxHeartbeats 40000000 in
theorem rm3 (l : Launch) (Z : State) (aZ : Array Value) (hw : ∀ d ∈ tables_1, d.before aZ Z = true) (ws : List Jvm.Cond) (p0 : Int32) (h0 : Heap) (n0 : Nat) :
    MetFree l (⟨"com/example/apportis/apportis/Utf8CharacterEndPinLaw", "cont", "(I)Z"⟩ : MethodName) (head1 (Jvm.Cond.code (⟨"com/example/apportis/apportis/Utf8CharacterEndPinLaw", "cont", "(I)Z"⟩ : MethodName) method_3_code 1 (some .boolean) :: ws) ({ frames := 0, cells := 0, slots := 0, locals := 0 } : Room)) (fun a U => a = #[(.int p0)] ∧ Z.Warmed39 U.vm ∧ U.heap = h0) (fun _ _ _ _ _ => True) (fun _ U o U' => ∃ v L, o = .returned v ∧ Q_rm3 Z p0 h0 n0 v U'.heap L ∧ FrameEnd U o U' L 0 0) := by
  refine MetFree.of_bodySF (plainFor_of_name pn_3) hisR ?_
  intro p e s m args below meth c s₁ Bd hml0 hP hK
  obtain ⟨rfl, hZ, hh⟩ := hP
  have hx := Bd.exec
  have hby := Bd.bytes
  have hml : c.maxLocals = 1 := hml0
  have hown : s.vm.findClass "com/example/apportis/apportis/Utf8CharacterEndPinLaw" = some m.cls := findClass_of_methodNamed Bd.named
  have hnm := (name_of_methodNamed Bd.named Bd.method).1
  have X0 : Stand p l e ({ frames := 0, cells := 0, slots := 0, locals := 0 } : Room) s m #[(.int p0)] below meth c s₁ [] 0 0 := Stand.of_body Bd
  have e0 : s₁.heap = h0 := by rw [← hh, Bd.state]; rfl
  have N0 := Fr.nil n0
  refine Go.st (fun _ k => castTop (ef_rm3 m p0) k) ?_
  show Go p e below _ (s₁.setTop (mkF m 0 #[.val (.int p0)] []))
  refine Go.st (fun _ k => XS.iloadN X0.here hx rfl (hb hby d3_0) rfl k) ?_
  refine Go.st (fun _ k => XS.sipush X0.here hx rfl (hb hby d3_1) k) ?_
  show Go p e below _ (s₁.setTop (mkF m 4 #[.val (.int p0)] [(.int (192 : Int32)), (.int p0)]))
  refine Go.st (fun _ k => XS.iand X0.here hx rfl (hb hby d3_4) rfl k) ?_
  refine Go.st (fun _ k => XS.sipush X0.here hx rfl (hb hby d3_5) k) ?_
  show Go p e below _ (s₁.setTop (mkF m 8 #[.val (.int p0)] [(.int (128 : Int32)), (.int (p0 &&& (192 : Int32)))]))
  by_cases hc1 : (p0 &&& (192 : Int32)) = (128 : Int32)
  · show Go p e below _ (s₁.setTop (mkF m 8 #[.val (.int p0)] [(.int (128 : Int32)), (.int (p0 &&& (192 : Int32)))]))
    refine Go.st (fun _ k => XS.icmpNo X0.here hx rfl (hb hby d3_8) rfl (teq hc1).2 k) ?_
    show Go p e below _ (s₁.setTop (mkF m 11 #[.val (.int p0)] []))
    refine Go.st (fun _ k => XS.iconst X0.here hx rfl (hb hby d3_11) k) ?_
    refine Go.st (fun _ k => XS.goto X0.here hx rfl (pc0 := 12) (pc' := 16) rfl (hb hby d3_12) (by decide) (by decide) k) ?_
    show Go p e below _ (s₁.setTop (mkF m 16 #[.val (.int p0)] [(.int (1 : Int32))]))
    obtain ⟨fs, hr, hrun, hended, hW, hsame⟩ := X0.leave (v := some (.int (1 : Int32))) (fun h => by rw [Bd.returns] at h; cases h)
    refine ⟨_, _, retN X0 hx (t := .boolean) Bd.returns (by simp) (hb hby d3_16) hr, hrun, hended, _, _, rfl, ?_, ⟨_, rfl⟩, hW, hsame.mono (by decide) (by decide)⟩
    show Q_rm3 Z p0 h0 n0 _ s₁.heap _
    rw [e0]
    refine ⟨?_, N0, rfl⟩
    unfold fCont
    rw [if_pos hc1]
  · show Go p e below _ (s₁.setTop (mkF m 8 #[.val (.int p0)] [(.int (128 : Int32)), (.int (p0 &&& (192 : Int32)))]))
    refine Go.st (fun _ k => XS.icmpYes X0.here hx rfl (pc0 := 8) (pc' := 15) rfl (hb hby d3_8) rfl (feq hc1).2 (by decide) (by decide) k) ?_
    show Go p e below _ (s₁.setTop (mkF m 15 #[.val (.int p0)] []))
    refine Go.st (fun _ k => XS.iconst X0.here hx rfl (hb hby d3_15) k) ?_
    obtain ⟨fs, hr, hrun, hended, hW, hsame⟩ := X0.leave (v := some (.int (0 : Int32))) (fun h => by rw [Bd.returns] at h; cases h)
    refine ⟨_, _, retN X0 hx (t := .boolean) Bd.returns (by simp) (hb hby d3_16) hr, hrun, hended, _, _, rfl, ?_, ⟨_, rfl⟩, hW, hsame.mono (by decide) (by decide)⟩
    show Q_rm3 Z p0 h0 n0 _ s₁.heap _
    rw [e0]
    refine ⟨?_, N0, rfl⟩
    unfold fCont
    rw [if_neg hc1]
theorem d2_0 : decode method_4_code 0 = .ok (.iload_n 0, 1) := by decide +kernel
theorem d2_1 : decode method_4_code 1 = .ok (.sipush 192, 3) := by decide +kernel
theorem d2_4 : decode method_4_code 4 = .ok (.if_icmp .ge 5, 3) := by decide +kernel
theorem d2_7 : decode method_4_code 7 = .ok (.iconst (-1), 1) := by decide +kernel
theorem d2_8 : decode method_4_code 8 = .ok (.ireturn, 1) := by decide +kernel
theorem d2_9 : decode method_4_code 9 = .ok (.iload_n 0, 1) := by decide +kernel
theorem d2_10 : decode method_4_code 10 = .ok (.sipush 224, 3) := by decide +kernel
theorem d2_13 : decode method_4_code 13 = .ok (.if_icmp .ge 9, 3) := by decide +kernel
theorem d2_16 : decode method_4_code 16 = .ok (.iconst 2, 1) := by decide +kernel
theorem d2_17 : decode method_4_code 17 = .ok (.istore 6, 2) := by decide +kernel
theorem d2_19 : decode method_4_code 19 = .ok (.goto 31, 3) := by decide +kernel
theorem d2_22 : decode method_4_code 22 = .ok (.iload_n 0, 1) := by decide +kernel
theorem d2_23 : decode method_4_code 23 = .ok (.sipush 240, 3) := by decide +kernel
theorem d2_26 : decode method_4_code 26 = .ok (.if_icmp .ge 9, 3) := by decide +kernel
theorem d2_29 : decode method_4_code 29 = .ok (.iconst 3, 1) := by decide +kernel
theorem d2_30 : decode method_4_code 30 = .ok (.istore 6, 2) := by decide +kernel
theorem d2_32 : decode method_4_code 32 = .ok (.goto 18, 3) := by decide +kernel
theorem d2_35 : decode method_4_code 35 = .ok (.iload_n 0, 1) := by decide +kernel
theorem d2_36 : decode method_4_code 36 = .ok (.sipush 248, 3) := by decide +kernel
theorem d2_39 : decode method_4_code 39 = .ok (.if_icmp .ge 9, 3) := by decide +kernel
theorem d2_42 : decode method_4_code 42 = .ok (.iconst 4, 1) := by decide +kernel
theorem d2_43 : decode method_4_code 43 = .ok (.istore 6, 2) := by decide +kernel
theorem d2_45 : decode method_4_code 45 = .ok (.goto 5, 3) := by decide +kernel
theorem d2_48 : decode method_4_code 48 = .ok (.iconst (-1), 1) := by decide +kernel
theorem d2_49 : decode method_4_code 49 = .ok (.ireturn, 1) := by decide +kernel
theorem d2_50 : decode method_4_code 50 = .ok (.iload 4, 2) := by decide +kernel
theorem d2_52 : decode method_4_code 52 = .ok (.iload 6, 2) := by decide +kernel
theorem d2_54 : decode method_4_code 54 = .ok (.if_icmp .ge 5, 3) := by decide +kernel
theorem d2_57 : decode method_4_code 57 = .ok (.iconst (-1), 1) := by decide +kernel
theorem d2_58 : decode method_4_code 58 = .ok (.ireturn, 1) := by decide +kernel
theorem d2_59 : decode method_4_code 59 = .ok (.iload_n 1, 1) := by decide +kernel
theorem d2_60 : decode method_4_code 60 = .ok (.invokestatic 19, 3) := by decide +kernel
theorem d2_63 : decode method_4_code 63 = .ok (.ifCond .ne 5, 3) := by decide +kernel
theorem d2_66 : decode method_4_code 66 = .ok (.iconst (-1), 1) := by decide +kernel
theorem d2_67 : decode method_4_code 67 = .ok (.ireturn, 1) := by decide +kernel
theorem d2_68 : decode method_4_code 68 = .ok (.iload 6, 2) := by decide +kernel
theorem d2_70 : decode method_4_code 70 = .ok (.iconst 3, 1) := by decide +kernel
theorem d2_71 : decode method_4_code 71 = .ok (.if_icmp .lt 12, 3) := by decide +kernel
theorem d2_74 : decode method_4_code 74 = .ok (.iload_n 2, 1) := by decide +kernel
theorem d2_75 : decode method_4_code 75 = .ok (.invokestatic 19, 3) := by decide +kernel
theorem d2_78 : decode method_4_code 78 = .ok (.ifCond .ne 5, 3) := by decide +kernel
theorem d2_81 : decode method_4_code 81 = .ok (.iconst (-1), 1) := by decide +kernel
theorem d2_82 : decode method_4_code 82 = .ok (.ireturn, 1) := by decide +kernel
theorem d2_83 : decode method_4_code 83 = .ok (.iload 6, 2) := by decide +kernel
theorem d2_85 : decode method_4_code 85 = .ok (.iconst 4, 1) := by decide +kernel
theorem d2_86 : decode method_4_code 86 = .ok (.if_icmp .ne 12, 3) := by decide +kernel
theorem d2_89 : decode method_4_code 89 = .ok (.iload_n 3, 1) := by decide +kernel
theorem d2_90 : decode method_4_code 90 = .ok (.invokestatic 19, 3) := by decide +kernel
theorem d2_93 : decode method_4_code 93 = .ok (.ifCond .ne 5, 3) := by decide +kernel
theorem d2_96 : decode method_4_code 96 = .ok (.iconst (-1), 1) := by decide +kernel
theorem d2_97 : decode method_4_code 97 = .ok (.ireturn, 1) := by decide +kernel
theorem d2_98 : decode method_4_code 98 = .ok (.iload 6, 2) := by decide +kernel
theorem d2_100 : decode method_4_code 100 = .ok (.iconst 2, 1) := by decide +kernel
theorem d2_101 : decode method_4_code 101 = .ok (.if_icmp .ne 25, 3) := by decide +kernel
theorem d2_104 : decode method_4_code 104 = .ok (.iload_n 0, 1) := by decide +kernel
theorem d2_105 : decode method_4_code 105 = .ok (.bipush 31, 2) := by decide +kernel
theorem d2_107 : decode method_4_code 107 = .ok (.iand, 1) := by decide +kernel
theorem d2_108 : decode method_4_code 108 = .ok (.bipush 6, 2) := by decide +kernel
theorem d2_110 : decode method_4_code 110 = .ok (.ishl, 1) := by decide +kernel
theorem d2_111 : decode method_4_code 111 = .ok (.iload_n 1, 1) := by decide +kernel
theorem d2_112 : decode method_4_code 112 = .ok (.bipush 63, 2) := by decide +kernel
theorem d2_114 : decode method_4_code 114 = .ok (.iand, 1) := by decide +kernel
theorem d2_115 : decode method_4_code 115 = .ok (.ior, 1) := by decide +kernel
theorem d2_116 : decode method_4_code 116 = .ok (.istore 7, 2) := by decide +kernel
theorem d2_118 : decode method_4_code 118 = .ok (.sipush 128, 3) := by decide +kernel
theorem d2_121 : decode method_4_code 121 = .ok (.istore 8, 2) := by decide +kernel
theorem d2_123 : decode method_4_code 123 = .ok (.goto 73, 3) := by decide +kernel
theorem d2_126 : decode method_4_code 126 = .ok (.iload 6, 2) := by decide +kernel
theorem d2_128 : decode method_4_code 128 = .ok (.iconst 3, 1) := by decide +kernel
theorem d2_129 : decode method_4_code 129 = .ok (.if_icmp .ne 33, 3) := by decide +kernel
theorem d2_132 : decode method_4_code 132 = .ok (.iload_n 0, 1) := by decide +kernel
theorem d2_133 : decode method_4_code 133 = .ok (.bipush 15, 2) := by decide +kernel
theorem d2_135 : decode method_4_code 135 = .ok (.iand, 1) := by decide +kernel
theorem d2_136 : decode method_4_code 136 = .ok (.bipush 12, 2) := by decide +kernel
theorem d2_138 : decode method_4_code 138 = .ok (.ishl, 1) := by decide +kernel
theorem d2_139 : decode method_4_code 139 = .ok (.iload_n 1, 1) := by decide +kernel
theorem d2_140 : decode method_4_code 140 = .ok (.bipush 63, 2) := by decide +kernel
theorem d2_142 : decode method_4_code 142 = .ok (.iand, 1) := by decide +kernel
theorem d2_143 : decode method_4_code 143 = .ok (.bipush 6, 2) := by decide +kernel
theorem d2_145 : decode method_4_code 145 = .ok (.ishl, 1) := by decide +kernel
theorem d2_146 : decode method_4_code 146 = .ok (.ior, 1) := by decide +kernel
theorem d2_147 : decode method_4_code 147 = .ok (.iload_n 2, 1) := by decide +kernel
theorem d2_148 : decode method_4_code 148 = .ok (.bipush 63, 2) := by decide +kernel
theorem d2_150 : decode method_4_code 150 = .ok (.iand, 1) := by decide +kernel
theorem d2_151 : decode method_4_code 151 = .ok (.ior, 1) := by decide +kernel
theorem d2_152 : decode method_4_code 152 = .ok (.istore 7, 2) := by decide +kernel
theorem d2_154 : decode method_4_code 154 = .ok (.sipush 2048, 3) := by decide +kernel
theorem d2_157 : decode method_4_code 157 = .ok (.istore 8, 2) := by decide +kernel
theorem d2_159 : decode method_4_code 159 = .ok (.goto 37, 3) := by decide +kernel
theorem d2_162 : decode method_4_code 162 = .ok (.iload_n 0, 1) := by decide +kernel
theorem d2_163 : decode method_4_code 163 = .ok (.bipush 7, 2) := by decide +kernel
theorem d2_165 : decode method_4_code 165 = .ok (.iand, 1) := by decide +kernel
theorem d2_166 : decode method_4_code 166 = .ok (.bipush 18, 2) := by decide +kernel
theorem d2_168 : decode method_4_code 168 = .ok (.ishl, 1) := by decide +kernel
theorem d2_169 : decode method_4_code 169 = .ok (.iload_n 1, 1) := by decide +kernel
theorem d2_170 : decode method_4_code 170 = .ok (.bipush 63, 2) := by decide +kernel
theorem d2_172 : decode method_4_code 172 = .ok (.iand, 1) := by decide +kernel
theorem d2_173 : decode method_4_code 173 = .ok (.bipush 12, 2) := by decide +kernel
theorem d2_175 : decode method_4_code 175 = .ok (.ishl, 1) := by decide +kernel
theorem d2_176 : decode method_4_code 176 = .ok (.ior, 1) := by decide +kernel
theorem d2_177 : decode method_4_code 177 = .ok (.iload_n 2, 1) := by decide +kernel
theorem d2_178 : decode method_4_code 178 = .ok (.bipush 63, 2) := by decide +kernel
theorem d2_180 : decode method_4_code 180 = .ok (.iand, 1) := by decide +kernel
theorem d2_181 : decode method_4_code 181 = .ok (.bipush 6, 2) := by decide +kernel
theorem d2_183 : decode method_4_code 183 = .ok (.ishl, 1) := by decide +kernel
theorem d2_184 : decode method_4_code 184 = .ok (.ior, 1) := by decide +kernel
theorem d2_185 : decode method_4_code 185 = .ok (.iload_n 3, 1) := by decide +kernel
theorem d2_186 : decode method_4_code 186 = .ok (.bipush 63, 2) := by decide +kernel
theorem d2_188 : decode method_4_code 188 = .ok (.iand, 1) := by decide +kernel
theorem d2_189 : decode method_4_code 189 = .ok (.ior, 1) := by decide +kernel
theorem d2_190 : decode method_4_code 190 = .ok (.istore 7, 2) := by decide +kernel
theorem d2_192 : decode method_4_code 192 = .ok (.ldc 23, 2) := by decide +kernel
theorem d2_194 : decode method_4_code 194 = .ok (.istore 8, 2) := by decide +kernel
theorem d2_196 : decode method_4_code 196 = .ok (.iload 7, 2) := by decide +kernel
theorem d2_198 : decode method_4_code 198 = .ok (.iload 8, 2) := by decide +kernel
theorem d2_200 : decode method_4_code 200 = .ok (.if_icmp .lt 24, 3) := by decide +kernel
theorem d2_203 : decode method_4_code 203 = .ok (.iload 7, 2) := by decide +kernel
theorem d2_205 : decode method_4_code 205 = .ok (.ldc 24, 2) := by decide +kernel
theorem d2_207 : decode method_4_code 207 = .ok (.if_icmp .gt 17, 3) := by decide +kernel
theorem d2_210 : decode method_4_code 210 = .ok (.iload 7, 2) := by decide +kernel
theorem d2_212 : decode method_4_code 212 = .ok (.ldc 25, 2) := by decide +kernel
theorem d2_214 : decode method_4_code 214 = .ok (.if_icmp .lt 12, 3) := by decide +kernel
theorem d2_217 : decode method_4_code 217 = .ok (.iload 7, 2) := by decide +kernel
theorem d2_219 : decode method_4_code 219 = .ok (.ldc 26, 2) := by decide +kernel
theorem d2_221 : decode method_4_code 221 = .ok (.if_icmp .gt 5, 3) := by decide +kernel
theorem d2_224 : decode method_4_code 224 = .ok (.iconst (-1), 1) := by decide +kernel
theorem d2_225 : decode method_4_code 225 = .ok (.ireturn, 1) := by decide +kernel
theorem d2_226 : decode method_4_code 226 = .ok (.iload 5, 2) := by decide +kernel
theorem d2_228 : decode method_4_code 228 = .ok (.iload 6, 2) := by decide +kernel
theorem d2_230 : decode method_4_code 230 = .ok (.iadd, 1) := by decide +kernel
theorem d2_231 : decode method_4_code 231 = .ok (.ireturn, 1) := by decide +kernel
theorem pn_2 : plainName "com/example/apportis/apportis/Utf8CharacterEndPinLaw" = true := by first | (simp [plainName, overriddenIn]; done) | decide +kernel
theorem pd56f531e : parseMethodDescriptor "(I)Z" = some ⟨[.int], some .boolean⟩ := by decide +kernel
theorem ef_rm2 (m : MethodId) (p0 : Int32) (p1 : Int32) (p2 : Int32) (p3 : Int32) (p4 : Int32) (p5 : Int32) : entryFrame m #[(.int p0), (.int p1), (.int p2), (.int p3), (.int p4), (.int p5)] 9 = mkF m 0 #[.val (.int p0), .val (.int p1), .val (.int p2), .val (.int p3), .val (.int p4), .val (.int p5), .unset, .unset, .unset] [] := by first | (simp [entryFrame, mkF, argsToLocals, Value.category]; done) | rfl
def fExp (p0 : Int32) (p1 : Int32) (p2 : Int32) (p3 : Int32) (p4 : Int32) (p5 : Int32) : Int32 := if p0 < (192 : Int32) then (-1 : Int32) else (if p0 < (224 : Int32) then (if p4 < (2 : Int32) then (-1 : Int32) else (if (fCont p1) = (0 : Int32) then (-1 : Int32) else (if (((p0 &&& (31 : Int32)) <<< ((6 : Int32) &&& 31)) ||| (p1 &&& (63 : Int32))) < (128 : Int32) then (-1 : Int32) else (if (1114111 : Int32) < (((p0 &&& (31 : Int32)) <<< ((6 : Int32) &&& 31)) ||| (p1 &&& (63 : Int32))) then (-1 : Int32) else (if (((p0 &&& (31 : Int32)) <<< ((6 : Int32) &&& 31)) ||| (p1 &&& (63 : Int32))) < (55296 : Int32) then (p5 + (2 : Int32)) else (if (57343 : Int32) < (((p0 &&& (31 : Int32)) <<< ((6 : Int32) &&& 31)) ||| (p1 &&& (63 : Int32))) then (p5 + (2 : Int32)) else (-1 : Int32))))))) else (if p0 < (240 : Int32) then (if p4 < (3 : Int32) then (-1 : Int32) else (if (fCont p1) = (0 : Int32) then (-1 : Int32) else (if (fCont p2) = (0 : Int32) then (-1 : Int32) else (if ((((p0 &&& (15 : Int32)) <<< ((12 : Int32) &&& 31)) ||| ((p1 &&& (63 : Int32)) <<< ((6 : Int32) &&& 31))) ||| (p2 &&& (63 : Int32))) < (2048 : Int32) then (-1 : Int32) else (if (1114111 : Int32) < ((((p0 &&& (15 : Int32)) <<< ((12 : Int32) &&& 31)) ||| ((p1 &&& (63 : Int32)) <<< ((6 : Int32) &&& 31))) ||| (p2 &&& (63 : Int32))) then (-1 : Int32) else (if ((((p0 &&& (15 : Int32)) <<< ((12 : Int32) &&& 31)) ||| ((p1 &&& (63 : Int32)) <<< ((6 : Int32) &&& 31))) ||| (p2 &&& (63 : Int32))) < (55296 : Int32) then (p5 + (3 : Int32)) else (if (57343 : Int32) < ((((p0 &&& (15 : Int32)) <<< ((12 : Int32) &&& 31)) ||| ((p1 &&& (63 : Int32)) <<< ((6 : Int32) &&& 31))) ||| (p2 &&& (63 : Int32))) then (p5 + (3 : Int32)) else (-1 : Int32)))))))) else (if p0 < (248 : Int32) then (if p4 < (4 : Int32) then (-1 : Int32) else (if (fCont p1) = (0 : Int32) then (-1 : Int32) else (if (fCont p2) = (0 : Int32) then (-1 : Int32) else (if (fCont p3) = (0 : Int32) then (-1 : Int32) else (if (((((p0 &&& (7 : Int32)) <<< ((18 : Int32) &&& 31)) ||| ((p1 &&& (63 : Int32)) <<< ((12 : Int32) &&& 31))) ||| ((p2 &&& (63 : Int32)) <<< ((6 : Int32) &&& 31))) ||| (p3 &&& (63 : Int32))) < (65536 : Int32) then (-1 : Int32) else (if (1114111 : Int32) < (((((p0 &&& (7 : Int32)) <<< ((18 : Int32) &&& 31)) ||| ((p1 &&& (63 : Int32)) <<< ((12 : Int32) &&& 31))) ||| ((p2 &&& (63 : Int32)) <<< ((6 : Int32) &&& 31))) ||| (p3 &&& (63 : Int32))) then (-1 : Int32) else (if (((((p0 &&& (7 : Int32)) <<< ((18 : Int32) &&& 31)) ||| ((p1 &&& (63 : Int32)) <<< ((12 : Int32) &&& 31))) ||| ((p2 &&& (63 : Int32)) <<< ((6 : Int32) &&& 31))) ||| (p3 &&& (63 : Int32))) < (55296 : Int32) then (p5 + (4 : Int32)) else (if (57343 : Int32) < (((((p0 &&& (7 : Int32)) <<< ((18 : Int32) &&& 31)) ||| ((p1 &&& (63 : Int32)) <<< ((12 : Int32) &&& 31))) ||| ((p2 &&& (63 : Int32)) <<< ((6 : Int32) &&& 31))) ||| (p3 &&& (63 : Int32))) then (p5 + (4 : Int32)) else (-1 : Int32))))))))) else (-1 : Int32))))
def Q_rm2 (Z : State) (p0 : Int32) (p1 : Int32) (p2 : Int32) (p3 : Int32) (p4 : Int32) (p5 : Int32) (h0 : Heap) (n0 : Nat) (v : Option Value) (h : Heap) (L : List Loc) : Prop := v = some (.int (fExp p0 p1 p2 p3 p4 p5)) ∧ Fr n0 L ∧ h = h0
abbrev F_rm2 (Z : State) (p0 : Int32) (p1 : Int32) (p2 : Int32) (p3 : Int32) (p4 : Int32) (p5 : Int32) (h0 : Heap) (n0 : Nat) (s : State) (o : Outcome) (U : State) : Prop := ∃ v L, o = .returned v ∧ Q_rm2 Z p0 p1 p2 p3 p4 p5 h0 n0 v U.heap L ∧ FrameEnd s o U L 0 0
set_option maxRecDepth 65536 in
set_option maxHeartbeats 40000000 in
theorem rm2 (l : Launch) (Z : State) (aZ : Array Value) (hw : ∀ d ∈ tables_1, d.before aZ Z = true) (ws : List Jvm.Cond) (p0 : Int32) (p1 : Int32) (p2 : Int32) (p3 : Int32) (p4 : Int32) (p5 : Int32) (h0 : Heap) (n0 : Nat) :
    MetFree l (⟨"com/example/apportis/apportis/Utf8CharacterEndPinLaw", "expected", "(IIIIII)I"⟩ : MethodName) (head1 (Jvm.Cond.code (⟨"com/example/apportis/apportis/Utf8CharacterEndPinLaw", "expected", "(IIIIII)I"⟩ : MethodName) method_4_code 9 (some .int) :: ws) ({ frames := 1, cells := 0, slots := 0, locals := 12 } : Room)) (fun a U => a = #[(.int p0), (.int p1), (.int p2), (.int p3), (.int p4), (.int p5)] ∧ Z.Warmed39 U.vm ∧ U.heap = h0) (fun _ _ _ _ _ => True) (fun _ U o U' => ∃ v L, o = .returned v ∧ Q_rm2 Z p0 p1 p2 p3 p4 p5 h0 n0 v U'.heap L ∧ FrameEnd U o U' L 0 0) := by
  refine MetFree.of_bodySF (plainFor_of_name pn_2) hisR ?_
  intro p e s m args below meth c s₁ Bd hml0 hP hK
  obtain ⟨rfl, hZ, hh⟩ := hP
  have hx := Bd.exec
  have hby := Bd.bytes
  have hml : c.maxLocals = 9 := hml0
  have hown : s.vm.findClass "com/example/apportis/apportis/Utf8CharacterEndPinLaw" = some m.cls := findClass_of_methodNamed Bd.named
  have hnm := (name_of_methodNamed Bd.named Bd.method).1
  have X0 : Stand p l e ({ frames := 1, cells := 0, slots := 0, locals := 12 } : Room) s m #[(.int p0), (.int p1), (.int p2), (.int p3), (.int p4), (.int p5)] below meth c s₁ [] 0 0 := Stand.of_body Bd
  have e0 : s₁.heap = h0 := by rw [← hh, Bd.state]; rfl
  have N0 := Fr.nil n0
  refine Go.st (fun _ k => castTop (ef_rm2 m p0 p1 p2 p3 p4 p5) k) ?_
  show Go p e below _ (s₁.setTop (mkF m 0 #[.val (.int p0), .val (.int p1), .val (.int p2), .val (.int p3), .val (.int p4), .val (.int p5), .unset, .unset, .unset] []))
  refine Go.st (fun _ k => XS.iloadN X0.here hx rfl (hb hby d2_0) rfl k) ?_
  refine Go.st (fun _ k => XS.sipush X0.here hx rfl (hb hby d2_1) k) ?_
  show Go p e below _ (s₁.setTop (mkF m 4 #[.val (.int p0), .val (.int p1), .val (.int p2), .val (.int p3), .val (.int p4), .val (.int p5), .unset, .unset, .unset] [(.int (192 : Int32)), (.int p0)]))
  by_cases hc1 : p0 < (192 : Int32)
  · show Go p e below _ (s₁.setTop (mkF m 4 #[.val (.int p0), .val (.int p1), .val (.int p2), .val (.int p3), .val (.int p4), .val (.int p5), .unset, .unset, .unset] [(.int (192 : Int32)), (.int p0)]))
    refine Go.st (fun _ k => XS.icmpNo X0.here hx rfl (hb hby d2_4) rfl (tlt hc1).2.1 k) ?_
    show Go p e below _ (s₁.setTop (mkF m 7 #[.val (.int p0), .val (.int p1), .val (.int p2), .val (.int p3), .val (.int p4), .val (.int p5), .unset, .unset, .unset] []))
    refine Go.st (fun _ k => XS.iconst X0.here hx rfl (hb hby d2_7) k) ?_
    obtain ⟨fs, hr, hrun, hended, hW, hsame⟩ := X0.leave (v := some (.int (-1 : Int32))) (fun h => by rw [Bd.returns] at h; cases h)
    refine ⟨_, _, retI X0 hx Bd.returns (hb hby d2_8) hr, hrun, hended, _, _, rfl, ?_, ⟨_, rfl⟩, hW, hsame.mono (by decide) (by decide)⟩
    show Q_rm2 Z p0 p1 p2 p3 p4 p5 h0 n0 _ s₁.heap _
    rw [e0]
    refine ⟨?_, N0, rfl⟩
    unfold fExp
    rw [if_pos hc1]
  · show Go p e below _ (s₁.setTop (mkF m 4 #[.val (.int p0), .val (.int p1), .val (.int p2), .val (.int p3), .val (.int p4), .val (.int p5), .unset, .unset, .unset] [(.int (192 : Int32)), (.int p0)]))
    refine Go.st (fun _ k => XS.icmpYes X0.here hx rfl (pc0 := 4) (pc' := 9) rfl (hb hby d2_4) rfl (flt hc1).2.1 (by decide) (by decide) k) ?_
    show Go p e below _ (s₁.setTop (mkF m 9 #[.val (.int p0), .val (.int p1), .val (.int p2), .val (.int p3), .val (.int p4), .val (.int p5), .unset, .unset, .unset] []))
    refine Go.st (fun _ k => XS.iloadN X0.here hx rfl (hb hby d2_9) rfl k) ?_
    refine Go.st (fun _ k => XS.sipush X0.here hx rfl (hb hby d2_10) k) ?_
    show Go p e below _ (s₁.setTop (mkF m 13 #[.val (.int p0), .val (.int p1), .val (.int p2), .val (.int p3), .val (.int p4), .val (.int p5), .unset, .unset, .unset] [(.int (224 : Int32)), (.int p0)]))
    by_cases hc2 : p0 < (224 : Int32)
    · show Go p e below _ (s₁.setTop (mkF m 13 #[.val (.int p0), .val (.int p1), .val (.int p2), .val (.int p3), .val (.int p4), .val (.int p5), .unset, .unset, .unset] [(.int (224 : Int32)), (.int p0)]))
      refine Go.st (fun _ k => XS.icmpNo X0.here hx rfl (hb hby d2_13) rfl (tlt hc2).2.1 k) ?_
      show Go p e below _ (s₁.setTop (mkF m 16 #[.val (.int p0), .val (.int p1), .val (.int p2), .val (.int p3), .val (.int p4), .val (.int p5), .unset, .unset, .unset] []))
      refine Go.st (fun _ k => XS.iconst X0.here hx rfl (hb hby d2_16) k) ?_
      refine Go.st (fun _ k => XS.istore X0.here hx rfl (hb hby d2_17) rfl (l' := #[.val (.int p0), .val (.int p1), .val (.int p2), .val (.int p3), .val (.int p4), .val (.int p5), .val (.int (2 : Int32)), .unset, .unset]) rfl k) ?_
      show Go p e below _ (s₁.setTop (mkF m 19 #[.val (.int p0), .val (.int p1), .val (.int p2), .val (.int p3), .val (.int p4), .val (.int p5), .val (.int (2 : Int32)), .unset, .unset] []))
      refine Go.st (fun _ k => XS.goto X0.here hx rfl (pc0 := 19) (pc' := 50) rfl (hb hby d2_19) (by decide) (by decide) k) ?_
      show Go p e below _ (s₁.setTop (mkF m 50 #[.val (.int p0), .val (.int p1), .val (.int p2), .val (.int p3), .val (.int p4), .val (.int p5), .val (.int (2 : Int32)), .unset, .unset] []))
      refine Go.st (fun _ k => XS.iload X0.here hx rfl (hb hby d2_50) rfl k) ?_
      refine Go.st (fun _ k => XS.iload X0.here hx rfl (hb hby d2_52) rfl k) ?_
      show Go p e below _ (s₁.setTop (mkF m 54 #[.val (.int p0), .val (.int p1), .val (.int p2), .val (.int p3), .val (.int p4), .val (.int p5), .val (.int (2 : Int32)), .unset, .unset] [(.int (2 : Int32)), (.int p4)]))
      by_cases hc3 : p4 < (2 : Int32)
      · show Go p e below _ (s₁.setTop (mkF m 54 #[.val (.int p0), .val (.int p1), .val (.int p2), .val (.int p3), .val (.int p4), .val (.int p5), .val (.int (2 : Int32)), .unset, .unset] [(.int (2 : Int32)), (.int p4)]))
        refine Go.st (fun _ k => XS.icmpNo X0.here hx rfl (hb hby d2_54) rfl (tlt hc3).2.1 k) ?_
        show Go p e below _ (s₁.setTop (mkF m 57 #[.val (.int p0), .val (.int p1), .val (.int p2), .val (.int p3), .val (.int p4), .val (.int p5), .val (.int (2 : Int32)), .unset, .unset] []))
        refine Go.st (fun _ k => XS.iconst X0.here hx rfl (hb hby d2_57) k) ?_
        obtain ⟨fs, hr, hrun, hended, hW, hsame⟩ := X0.leave (v := some (.int (-1 : Int32))) (fun h => by rw [Bd.returns] at h; cases h)
        refine ⟨_, _, retI X0 hx Bd.returns (hb hby d2_58) hr, hrun, hended, _, _, rfl, ?_, ⟨_, rfl⟩, hW, hsame.mono (by decide) (by decide)⟩
        show Q_rm2 Z p0 p1 p2 p3 p4 p5 h0 n0 _ s₁.heap _
        rw [e0]
        refine ⟨?_, N0, rfl⟩
        unfold fExp
        rw [if_neg hc1, if_pos hc2, if_pos hc3]
      · show Go p e below _ (s₁.setTop (mkF m 54 #[.val (.int p0), .val (.int p1), .val (.int p2), .val (.int p3), .val (.int p4), .val (.int p5), .val (.int (2 : Int32)), .unset, .unset] [(.int (2 : Int32)), (.int p4)]))
        refine Go.st (fun _ k => XS.icmpYes X0.here hx rfl (pc0 := 54) (pc' := 59) rfl (hb hby d2_54) rfl (flt hc3).2.1 (by decide) (by decide) k) ?_
        show Go p e below _ (s₁.setTop (mkF m 59 #[.val (.int p0), .val (.int p1), .val (.int p2), .val (.int p3), .val (.int p4), .val (.int p5), .val (.int (2 : Int32)), .unset, .unset] []))
        refine Go.st (fun _ k => XS.iloadN X0.here hx rfl (hb hby d2_59) rfl k) ?_
        show Go p e below _ (s₁.setTop (mkF m 60 #[.val (.int p0), .val (.int p1), .val (.int p2), .val (.int p3), .val (.int p4), .val (.int p5), .val (.int (2 : Int32)), .unset, .unset] [(.int p1)]))
        obtain ⟨_, _, ⟨T4, L4, k4, n4⟩, -, X4, ⟨Lc4, hQ4, l4, y4, z4⟩, st4⟩ := Jvm.LawKit.callS X0 hx (y := (⟨"com/example/apportis/apportis/Utf8CharacterEndPinLaw", "cont", "(I)Z"⟩ : MethodName)) hown (mvT hZ (hw _ (List.mem_of_getElem? (i := 9) rfl))) (mvT hZ (hw _ (List.mem_of_getElem? (i := 10) rfl))) (mvT hZ (hw _ (List.mem_of_getElem? (i := 7) rfl))) (mvT hZ (hw _ (List.mem_of_getElem? (i := 11) rfl))) (by decide) (backOf (W := 0) (rm3 l Z aZ hw [] p1 h0 n0 ) hZ (hw _ (List.mem_of_getElem? (i := 11) rfl)) (hw _ (List.mem_of_getElem? (i := 7) rfl)) (by decide) (by decide)) (g := (mkF m 60 #[.val (.int p0), .val (.int p1), .val (.int p2), .val (.int p3), .val (.int p4), .val (.int p5), .val (.int (2 : Int32)), .unset, .unset] [(.int p1)])) rfl (by rw [hml]; rfl) (argsL := [(.int p1)]) (rest := []) (lenOf pd56f531e rfl) rfl (by show 2 * 0 + _ ≤ _; exact Nat.le_of_eq rfl) (hb hby d2_60) (fun _ _ => ⟨rfl, e0, (by decide : 0 + 0 ≤ _), (by decide : 0 + 0 ≤ _)⟩)
        dsimp only [Pt.U, Pt.locs, Pt.cells, Pt.slots] at X4 l4 y4 z4 st4 hQ4
        subst l4 y4 z4
        obtain ⟨rfl, N4q, e4⟩ := hQ4
        have N4 := Fr.app N0 N4q
        refine Go.st (fun _ k => st4 _ k) ?_
        show Go p e below _ (T4.setTop (mkF m 63 #[.val (.int p0), .val (.int p1), .val (.int p2), .val (.int p3), .val (.int p4), .val (.int p5), .val (.int (2 : Int32)), .unset, .unset] [(.int (fCont p1))]))
        by_cases hc5 : (fCont p1) = (0 : Int32)
        · show Go p e below _ (T4.setTop (mkF m 63 #[.val (.int p0), .val (.int p1), .val (.int p2), .val (.int p3), .val (.int p4), .val (.int p5), .val (.int (2 : Int32)), .unset, .unset] [(.int (fCont p1))]))
          refine Go.st (fun _ k => XS.ifNo X4.here hx rfl (hb hby d2_63) rfl ((if0 _ _).trans (teq hc5).2) k) ?_
          show Go p e below _ (T4.setTop (mkF m 66 #[.val (.int p0), .val (.int p1), .val (.int p2), .val (.int p3), .val (.int p4), .val (.int p5), .val (.int (2 : Int32)), .unset, .unset] []))
          refine Go.st (fun _ k => XS.iconst X4.here hx rfl (hb hby d2_66) k) ?_
          obtain ⟨fs, hr, hrun, hended, hW, hsame⟩ := X4.leave (v := some (.int (-1 : Int32))) (fun h => by rw [Bd.returns] at h; cases h)
          refine ⟨_, _, retI X4 hx Bd.returns (hb hby d2_67) hr, hrun, hended, _, _, rfl, ?_, ⟨_, rfl⟩, hW, hsame.mono (by decide) (by decide)⟩
          show Q_rm2 Z p0 p1 p2 p3 p4 p5 h0 n0 _ T4.heap _
          rw [e4]
          refine ⟨?_, N4, rfl⟩
          unfold fExp
          rw [if_neg hc1, if_pos hc2, if_neg hc3, if_pos hc5]
        · show Go p e below _ (T4.setTop (mkF m 63 #[.val (.int p0), .val (.int p1), .val (.int p2), .val (.int p3), .val (.int p4), .val (.int p5), .val (.int (2 : Int32)), .unset, .unset] [(.int (fCont p1))]))
          refine Go.st (fun _ k => XS.ifYes X4.here hx rfl (pc0 := 63) (pc' := 68) rfl (hb hby d2_63) rfl ((if0 _ _).trans (feq hc5).2) (by decide) (by decide) k) ?_
          show Go p e below _ (T4.setTop (mkF m 68 #[.val (.int p0), .val (.int p1), .val (.int p2), .val (.int p3), .val (.int p4), .val (.int p5), .val (.int (2 : Int32)), .unset, .unset] []))
          refine Go.st (fun _ k => XS.iload X4.here hx rfl (hb hby d2_68) rfl k) ?_
          refine Go.st (fun _ k => XS.iconst X4.here hx rfl (hb hby d2_70) k) ?_
          show Go p e below _ (T4.setTop (mkF m 71 #[.val (.int p0), .val (.int p1), .val (.int p2), .val (.int p3), .val (.int p4), .val (.int p5), .val (.int (2 : Int32)), .unset, .unset] [(.int (3 : Int32)), (.int (2 : Int32))]))
          refine Go.st (fun _ k => XS.icmpYes X4.here hx rfl (pc0 := 71) (pc' := 83) rfl (hb hby d2_71) rfl (tlt (by decide : ((2 : Int32) < (3 : Int32)))).1 (by decide) (by decide) k) ?_
          show Go p e below _ (T4.setTop (mkF m 83 #[.val (.int p0), .val (.int p1), .val (.int p2), .val (.int p3), .val (.int p4), .val (.int p5), .val (.int (2 : Int32)), .unset, .unset] []))
          refine Go.st (fun _ k => XS.iload X4.here hx rfl (hb hby d2_83) rfl k) ?_
          refine Go.st (fun _ k => XS.iconst X4.here hx rfl (hb hby d2_85) k) ?_
          show Go p e below _ (T4.setTop (mkF m 86 #[.val (.int p0), .val (.int p1), .val (.int p2), .val (.int p3), .val (.int p4), .val (.int p5), .val (.int (2 : Int32)), .unset, .unset] [(.int (4 : Int32)), (.int (2 : Int32))]))
          refine Go.st (fun _ k => XS.icmpYes X4.here hx rfl (pc0 := 86) (pc' := 98) rfl (hb hby d2_86) rfl (feq (by decide : ¬ ((2 : Int32) = (4 : Int32)))).2 (by decide) (by decide) k) ?_
          show Go p e below _ (T4.setTop (mkF m 98 #[.val (.int p0), .val (.int p1), .val (.int p2), .val (.int p3), .val (.int p4), .val (.int p5), .val (.int (2 : Int32)), .unset, .unset] []))
          refine Go.st (fun _ k => XS.iload X4.here hx rfl (hb hby d2_98) rfl k) ?_
          refine Go.st (fun _ k => XS.iconst X4.here hx rfl (hb hby d2_100) k) ?_
          show Go p e below _ (T4.setTop (mkF m 101 #[.val (.int p0), .val (.int p1), .val (.int p2), .val (.int p3), .val (.int p4), .val (.int p5), .val (.int (2 : Int32)), .unset, .unset] [(.int (2 : Int32)), (.int (2 : Int32))]))
          refine Go.st (fun _ k => XS.icmpNo X4.here hx rfl (hb hby d2_101) rfl (teq (by decide : ((2 : Int32) = (2 : Int32)))).2 k) ?_
          show Go p e below _ (T4.setTop (mkF m 104 #[.val (.int p0), .val (.int p1), .val (.int p2), .val (.int p3), .val (.int p4), .val (.int p5), .val (.int (2 : Int32)), .unset, .unset] []))
          refine Go.st (fun _ k => XS.iloadN X4.here hx rfl (hb hby d2_104) rfl k) ?_
          refine Go.st (fun _ k => XS.bipush X4.here hx rfl (hb hby d2_105) k) ?_
          show Go p e below _ (T4.setTop (mkF m 107 #[.val (.int p0), .val (.int p1), .val (.int p2), .val (.int p3), .val (.int p4), .val (.int p5), .val (.int (2 : Int32)), .unset, .unset] [(.int (31 : Int32)), (.int p0)]))
          refine Go.st (fun _ k => XS.iand X4.here hx rfl (hb hby d2_107) rfl k) ?_
          refine Go.st (fun _ k => XS.bipush X4.here hx rfl (hb hby d2_108) k) ?_
          show Go p e below _ (T4.setTop (mkF m 110 #[.val (.int p0), .val (.int p1), .val (.int p2), .val (.int p3), .val (.int p4), .val (.int p5), .val (.int (2 : Int32)), .unset, .unset] [(.int (6 : Int32)), (.int (p0 &&& (31 : Int32)))]))
          refine Go.st (fun _ k => XS.ishl X4.here hx rfl (hb hby d2_110) rfl k) ?_
          show Go p e below _ (T4.setTop (mkF m 111 #[.val (.int p0), .val (.int p1), .val (.int p2), .val (.int p3), .val (.int p4), .val (.int p5), .val (.int (2 : Int32)), .unset, .unset] [(.int ((p0 &&& (31 : Int32)) <<< ((6 : Int32) &&& 31)))]))
          refine Go.st (fun _ k => XS.iloadN X4.here hx rfl (hb hby d2_111) rfl k) ?_
          refine Go.st (fun _ k => XS.bipush X4.here hx rfl (hb hby d2_112) k) ?_
          show Go p e below _ (T4.setTop (mkF m 114 #[.val (.int p0), .val (.int p1), .val (.int p2), .val (.int p3), .val (.int p4), .val (.int p5), .val (.int (2 : Int32)), .unset, .unset] [(.int (63 : Int32)), (.int p1), (.int ((p0 &&& (31 : Int32)) <<< ((6 : Int32) &&& 31)))]))
          refine Go.st (fun _ k => XS.iand X4.here hx rfl (hb hby d2_114) rfl k) ?_
          refine Go.st (fun _ k => XS.ior X4.here hx rfl (hb hby d2_115) rfl k) ?_
          show Go p e below _ (T4.setTop (mkF m 116 #[.val (.int p0), .val (.int p1), .val (.int p2), .val (.int p3), .val (.int p4), .val (.int p5), .val (.int (2 : Int32)), .unset, .unset] [(.int (((p0 &&& (31 : Int32)) <<< ((6 : Int32) &&& 31)) ||| (p1 &&& (63 : Int32))))]))
          refine Go.st (fun _ k => XS.istore X4.here hx rfl (hb hby d2_116) rfl (l' := #[.val (.int p0), .val (.int p1), .val (.int p2), .val (.int p3), .val (.int p4), .val (.int p5), .val (.int (2 : Int32)), .val (.int (((p0 &&& (31 : Int32)) <<< ((6 : Int32) &&& 31)) ||| (p1 &&& (63 : Int32)))), .unset]) rfl k) ?_
          show Go p e below _ (T4.setTop (mkF m 118 #[.val (.int p0), .val (.int p1), .val (.int p2), .val (.int p3), .val (.int p4), .val (.int p5), .val (.int (2 : Int32)), .val (.int (((p0 &&& (31 : Int32)) <<< ((6 : Int32) &&& 31)) ||| (p1 &&& (63 : Int32)))), .unset] []))
          refine Go.st (fun _ k => XS.sipush X4.here hx rfl (hb hby d2_118) k) ?_
          refine Go.st (fun _ k => XS.istore X4.here hx rfl (hb hby d2_121) rfl (l' := #[.val (.int p0), .val (.int p1), .val (.int p2), .val (.int p3), .val (.int p4), .val (.int p5), .val (.int (2 : Int32)), .val (.int (((p0 &&& (31 : Int32)) <<< ((6 : Int32) &&& 31)) ||| (p1 &&& (63 : Int32)))), .val (.int (128 : Int32))]) rfl k) ?_
          show Go p e below _ (T4.setTop (mkF m 123 #[.val (.int p0), .val (.int p1), .val (.int p2), .val (.int p3), .val (.int p4), .val (.int p5), .val (.int (2 : Int32)), .val (.int (((p0 &&& (31 : Int32)) <<< ((6 : Int32) &&& 31)) ||| (p1 &&& (63 : Int32)))), .val (.int (128 : Int32))] []))
          refine Go.st (fun _ k => XS.goto X4.here hx rfl (pc0 := 123) (pc' := 196) rfl (hb hby d2_123) (by decide) (by decide) k) ?_
          show Go p e below _ (T4.setTop (mkF m 196 #[.val (.int p0), .val (.int p1), .val (.int p2), .val (.int p3), .val (.int p4), .val (.int p5), .val (.int (2 : Int32)), .val (.int (((p0 &&& (31 : Int32)) <<< ((6 : Int32) &&& 31)) ||| (p1 &&& (63 : Int32)))), .val (.int (128 : Int32))] []))
          refine Go.st (fun _ k => XS.iload X4.here hx rfl (hb hby d2_196) rfl k) ?_
          refine Go.st (fun _ k => XS.iload X4.here hx rfl (hb hby d2_198) rfl k) ?_
          show Go p e below _ (T4.setTop (mkF m 200 #[.val (.int p0), .val (.int p1), .val (.int p2), .val (.int p3), .val (.int p4), .val (.int p5), .val (.int (2 : Int32)), .val (.int (((p0 &&& (31 : Int32)) <<< ((6 : Int32) &&& 31)) ||| (p1 &&& (63 : Int32)))), .val (.int (128 : Int32))] [(.int (128 : Int32)), (.int (((p0 &&& (31 : Int32)) <<< ((6 : Int32) &&& 31)) ||| (p1 &&& (63 : Int32))))]))
          by_cases hc6 : (((p0 &&& (31 : Int32)) <<< ((6 : Int32) &&& 31)) ||| (p1 &&& (63 : Int32))) < (128 : Int32)
          · show Go p e below _ (T4.setTop (mkF m 200 #[.val (.int p0), .val (.int p1), .val (.int p2), .val (.int p3), .val (.int p4), .val (.int p5), .val (.int (2 : Int32)), .val (.int (((p0 &&& (31 : Int32)) <<< ((6 : Int32) &&& 31)) ||| (p1 &&& (63 : Int32)))), .val (.int (128 : Int32))] [(.int (128 : Int32)), (.int (((p0 &&& (31 : Int32)) <<< ((6 : Int32) &&& 31)) ||| (p1 &&& (63 : Int32))))]))
            refine Go.st (fun _ k => XS.icmpYes X4.here hx rfl (pc0 := 200) (pc' := 224) rfl (hb hby d2_200) rfl (tlt hc6).1 (by decide) (by decide) k) ?_
            show Go p e below _ (T4.setTop (mkF m 224 #[.val (.int p0), .val (.int p1), .val (.int p2), .val (.int p3), .val (.int p4), .val (.int p5), .val (.int (2 : Int32)), .val (.int (((p0 &&& (31 : Int32)) <<< ((6 : Int32) &&& 31)) ||| (p1 &&& (63 : Int32)))), .val (.int (128 : Int32))] []))
            refine Go.st (fun _ k => XS.iconst X4.here hx rfl (hb hby d2_224) k) ?_
            obtain ⟨fs, hr, hrun, hended, hW, hsame⟩ := X4.leave (v := some (.int (-1 : Int32))) (fun h => by rw [Bd.returns] at h; cases h)
            refine ⟨_, _, retI X4 hx Bd.returns (hb hby d2_225) hr, hrun, hended, _, _, rfl, ?_, ⟨_, rfl⟩, hW, hsame.mono (by decide) (by decide)⟩
            show Q_rm2 Z p0 p1 p2 p3 p4 p5 h0 n0 _ T4.heap _
            rw [e4]
            refine ⟨?_, N4, rfl⟩
            unfold fExp
            rw [if_neg hc1, if_pos hc2, if_neg hc3, if_neg hc5, if_pos hc6]
          · show Go p e below _ (T4.setTop (mkF m 200 #[.val (.int p0), .val (.int p1), .val (.int p2), .val (.int p3), .val (.int p4), .val (.int p5), .val (.int (2 : Int32)), .val (.int (((p0 &&& (31 : Int32)) <<< ((6 : Int32) &&& 31)) ||| (p1 &&& (63 : Int32)))), .val (.int (128 : Int32))] [(.int (128 : Int32)), (.int (((p0 &&& (31 : Int32)) <<< ((6 : Int32) &&& 31)) ||| (p1 &&& (63 : Int32))))]))
            refine Go.st (fun _ k => XS.icmpNo X4.here hx rfl (hb hby d2_200) rfl (flt hc6).1 k) ?_
            show Go p e below _ (T4.setTop (mkF m 203 #[.val (.int p0), .val (.int p1), .val (.int p2), .val (.int p3), .val (.int p4), .val (.int p5), .val (.int (2 : Int32)), .val (.int (((p0 &&& (31 : Int32)) <<< ((6 : Int32) &&& 31)) ||| (p1 &&& (63 : Int32)))), .val (.int (128 : Int32))] []))
            refine Go.st (fun _ k => XS.iload X4.here hx rfl (hb hby d2_203) rfl k) ?_
            show Go p e below _ (T4.setTop (mkF m 205 #[.val (.int p0), .val (.int p1), .val (.int p2), .val (.int p3), .val (.int p4), .val (.int p5), .val (.int (2 : Int32)), .val (.int (((p0 &&& (31 : Int32)) <<< ((6 : Int32) &&& 31)) ||| (p1 &&& (63 : Int32)))), .val (.int (128 : Int32))] [(.int (((p0 &&& (31 : Int32)) <<< ((6 : Int32) &&& 31)) ||| (p1 &&& (63 : Int32))))]))
            refine Go.st (fun _ k => X4.ldcInt hx hown (mvT hZ (hw _ (List.mem_of_getElem? (i := 12) rfl))) (g := (mkF m 205 #[.val (.int p0), .val (.int p1), .val (.int p2), .val (.int p3), .val (.int p4), .val (.int p5), .val (.int (2 : Int32)), .val (.int (((p0 &&& (31 : Int32)) <<< ((6 : Int32) &&& 31)) ||| (p1 &&& (63 : Int32)))), .val (.int (128 : Int32))] [(.int (((p0 &&& (31 : Int32)) <<< ((6 : Int32) &&& 31)) ||| (p1 &&& (63 : Int32))))])) rfl (hb hby d2_205) _ k) ?_
            show Go p e below _ (T4.setTop (mkF m 207 #[.val (.int p0), .val (.int p1), .val (.int p2), .val (.int p3), .val (.int p4), .val (.int p5), .val (.int (2 : Int32)), .val (.int (((p0 &&& (31 : Int32)) <<< ((6 : Int32) &&& 31)) ||| (p1 &&& (63 : Int32)))), .val (.int (128 : Int32))] [(.int (1114111 : Int32)), (.int (((p0 &&& (31 : Int32)) <<< ((6 : Int32) &&& 31)) ||| (p1 &&& (63 : Int32))))]))
            by_cases hc7 : (1114111 : Int32) < (((p0 &&& (31 : Int32)) <<< ((6 : Int32) &&& 31)) ||| (p1 &&& (63 : Int32)))
            · show Go p e below _ (T4.setTop (mkF m 207 #[.val (.int p0), .val (.int p1), .val (.int p2), .val (.int p3), .val (.int p4), .val (.int p5), .val (.int (2 : Int32)), .val (.int (((p0 &&& (31 : Int32)) <<< ((6 : Int32) &&& 31)) ||| (p1 &&& (63 : Int32)))), .val (.int (128 : Int32))] [(.int (1114111 : Int32)), (.int (((p0 &&& (31 : Int32)) <<< ((6 : Int32) &&& 31)) ||| (p1 &&& (63 : Int32))))]))
              refine Go.st (fun _ k => XS.icmpYes X4.here hx rfl (pc0 := 207) (pc' := 224) rfl (hb hby d2_207) rfl (tlt hc7).2.2.1 (by decide) (by decide) k) ?_
              show Go p e below _ (T4.setTop (mkF m 224 #[.val (.int p0), .val (.int p1), .val (.int p2), .val (.int p3), .val (.int p4), .val (.int p5), .val (.int (2 : Int32)), .val (.int (((p0 &&& (31 : Int32)) <<< ((6 : Int32) &&& 31)) ||| (p1 &&& (63 : Int32)))), .val (.int (128 : Int32))] []))
              refine Go.st (fun _ k => XS.iconst X4.here hx rfl (hb hby d2_224) k) ?_
              obtain ⟨fs, hr, hrun, hended, hW, hsame⟩ := X4.leave (v := some (.int (-1 : Int32))) (fun h => by rw [Bd.returns] at h; cases h)
              refine ⟨_, _, retI X4 hx Bd.returns (hb hby d2_225) hr, hrun, hended, _, _, rfl, ?_, ⟨_, rfl⟩, hW, hsame.mono (by decide) (by decide)⟩
              show Q_rm2 Z p0 p1 p2 p3 p4 p5 h0 n0 _ T4.heap _
              rw [e4]
              refine ⟨?_, N4, rfl⟩
              unfold fExp
              rw [if_neg hc1, if_pos hc2, if_neg hc3, if_neg hc5, if_neg hc6, if_pos hc7]
            · show Go p e below _ (T4.setTop (mkF m 207 #[.val (.int p0), .val (.int p1), .val (.int p2), .val (.int p3), .val (.int p4), .val (.int p5), .val (.int (2 : Int32)), .val (.int (((p0 &&& (31 : Int32)) <<< ((6 : Int32) &&& 31)) ||| (p1 &&& (63 : Int32)))), .val (.int (128 : Int32))] [(.int (1114111 : Int32)), (.int (((p0 &&& (31 : Int32)) <<< ((6 : Int32) &&& 31)) ||| (p1 &&& (63 : Int32))))]))
              refine Go.st (fun _ k => XS.icmpNo X4.here hx rfl (hb hby d2_207) rfl (flt hc7).2.2.1 k) ?_
              show Go p e below _ (T4.setTop (mkF m 210 #[.val (.int p0), .val (.int p1), .val (.int p2), .val (.int p3), .val (.int p4), .val (.int p5), .val (.int (2 : Int32)), .val (.int (((p0 &&& (31 : Int32)) <<< ((6 : Int32) &&& 31)) ||| (p1 &&& (63 : Int32)))), .val (.int (128 : Int32))] []))
              refine Go.st (fun _ k => XS.iload X4.here hx rfl (hb hby d2_210) rfl k) ?_
              show Go p e below _ (T4.setTop (mkF m 212 #[.val (.int p0), .val (.int p1), .val (.int p2), .val (.int p3), .val (.int p4), .val (.int p5), .val (.int (2 : Int32)), .val (.int (((p0 &&& (31 : Int32)) <<< ((6 : Int32) &&& 31)) ||| (p1 &&& (63 : Int32)))), .val (.int (128 : Int32))] [(.int (((p0 &&& (31 : Int32)) <<< ((6 : Int32) &&& 31)) ||| (p1 &&& (63 : Int32))))]))
              refine Go.st (fun _ k => X4.ldcInt hx hown (mvT hZ (hw _ (List.mem_of_getElem? (i := 13) rfl))) (g := (mkF m 212 #[.val (.int p0), .val (.int p1), .val (.int p2), .val (.int p3), .val (.int p4), .val (.int p5), .val (.int (2 : Int32)), .val (.int (((p0 &&& (31 : Int32)) <<< ((6 : Int32) &&& 31)) ||| (p1 &&& (63 : Int32)))), .val (.int (128 : Int32))] [(.int (((p0 &&& (31 : Int32)) <<< ((6 : Int32) &&& 31)) ||| (p1 &&& (63 : Int32))))])) rfl (hb hby d2_212) _ k) ?_
              show Go p e below _ (T4.setTop (mkF m 214 #[.val (.int p0), .val (.int p1), .val (.int p2), .val (.int p3), .val (.int p4), .val (.int p5), .val (.int (2 : Int32)), .val (.int (((p0 &&& (31 : Int32)) <<< ((6 : Int32) &&& 31)) ||| (p1 &&& (63 : Int32)))), .val (.int (128 : Int32))] [(.int (55296 : Int32)), (.int (((p0 &&& (31 : Int32)) <<< ((6 : Int32) &&& 31)) ||| (p1 &&& (63 : Int32))))]))
              by_cases hc8 : (((p0 &&& (31 : Int32)) <<< ((6 : Int32) &&& 31)) ||| (p1 &&& (63 : Int32))) < (55296 : Int32)
              · show Go p e below _ (T4.setTop (mkF m 214 #[.val (.int p0), .val (.int p1), .val (.int p2), .val (.int p3), .val (.int p4), .val (.int p5), .val (.int (2 : Int32)), .val (.int (((p0 &&& (31 : Int32)) <<< ((6 : Int32) &&& 31)) ||| (p1 &&& (63 : Int32)))), .val (.int (128 : Int32))] [(.int (55296 : Int32)), (.int (((p0 &&& (31 : Int32)) <<< ((6 : Int32) &&& 31)) ||| (p1 &&& (63 : Int32))))]))
                refine Go.st (fun _ k => XS.icmpYes X4.here hx rfl (pc0 := 214) (pc' := 226) rfl (hb hby d2_214) rfl (tlt hc8).1 (by decide) (by decide) k) ?_
                show Go p e below _ (T4.setTop (mkF m 226 #[.val (.int p0), .val (.int p1), .val (.int p2), .val (.int p3), .val (.int p4), .val (.int p5), .val (.int (2 : Int32)), .val (.int (((p0 &&& (31 : Int32)) <<< ((6 : Int32) &&& 31)) ||| (p1 &&& (63 : Int32)))), .val (.int (128 : Int32))] []))
                refine Go.st (fun _ k => XS.iload X4.here hx rfl (hb hby d2_226) rfl k) ?_
                refine Go.st (fun _ k => XS.iload X4.here hx rfl (hb hby d2_228) rfl k) ?_
                show Go p e below _ (T4.setTop (mkF m 230 #[.val (.int p0), .val (.int p1), .val (.int p2), .val (.int p3), .val (.int p4), .val (.int p5), .val (.int (2 : Int32)), .val (.int (((p0 &&& (31 : Int32)) <<< ((6 : Int32) &&& 31)) ||| (p1 &&& (63 : Int32)))), .val (.int (128 : Int32))] [(.int (2 : Int32)), (.int p5)]))
                refine Go.st (fun _ k => XS.iadd X4.here hx rfl (hb hby d2_230) rfl k) ?_
                obtain ⟨fs, hr, hrun, hended, hW, hsame⟩ := X4.leave (v := some (.int (p5 + (2 : Int32)))) (fun h => by rw [Bd.returns] at h; cases h)
                refine ⟨_, _, retI X4 hx Bd.returns (hb hby d2_231) hr, hrun, hended, _, _, rfl, ?_, ⟨_, rfl⟩, hW, hsame.mono (by decide) (by decide)⟩
                show Q_rm2 Z p0 p1 p2 p3 p4 p5 h0 n0 _ T4.heap _
                rw [e4]
                refine ⟨?_, N4, rfl⟩
                unfold fExp
                rw [if_neg hc1, if_pos hc2, if_neg hc3, if_neg hc5, if_neg hc6, if_neg hc7, if_pos hc8]
              · show Go p e below _ (T4.setTop (mkF m 214 #[.val (.int p0), .val (.int p1), .val (.int p2), .val (.int p3), .val (.int p4), .val (.int p5), .val (.int (2 : Int32)), .val (.int (((p0 &&& (31 : Int32)) <<< ((6 : Int32) &&& 31)) ||| (p1 &&& (63 : Int32)))), .val (.int (128 : Int32))] [(.int (55296 : Int32)), (.int (((p0 &&& (31 : Int32)) <<< ((6 : Int32) &&& 31)) ||| (p1 &&& (63 : Int32))))]))
                refine Go.st (fun _ k => XS.icmpNo X4.here hx rfl (hb hby d2_214) rfl (flt hc8).1 k) ?_
                show Go p e below _ (T4.setTop (mkF m 217 #[.val (.int p0), .val (.int p1), .val (.int p2), .val (.int p3), .val (.int p4), .val (.int p5), .val (.int (2 : Int32)), .val (.int (((p0 &&& (31 : Int32)) <<< ((6 : Int32) &&& 31)) ||| (p1 &&& (63 : Int32)))), .val (.int (128 : Int32))] []))
                refine Go.st (fun _ k => XS.iload X4.here hx rfl (hb hby d2_217) rfl k) ?_
                show Go p e below _ (T4.setTop (mkF m 219 #[.val (.int p0), .val (.int p1), .val (.int p2), .val (.int p3), .val (.int p4), .val (.int p5), .val (.int (2 : Int32)), .val (.int (((p0 &&& (31 : Int32)) <<< ((6 : Int32) &&& 31)) ||| (p1 &&& (63 : Int32)))), .val (.int (128 : Int32))] [(.int (((p0 &&& (31 : Int32)) <<< ((6 : Int32) &&& 31)) ||| (p1 &&& (63 : Int32))))]))
                refine Go.st (fun _ k => X4.ldcInt hx hown (mvT hZ (hw _ (List.mem_of_getElem? (i := 15) rfl))) (g := (mkF m 219 #[.val (.int p0), .val (.int p1), .val (.int p2), .val (.int p3), .val (.int p4), .val (.int p5), .val (.int (2 : Int32)), .val (.int (((p0 &&& (31 : Int32)) <<< ((6 : Int32) &&& 31)) ||| (p1 &&& (63 : Int32)))), .val (.int (128 : Int32))] [(.int (((p0 &&& (31 : Int32)) <<< ((6 : Int32) &&& 31)) ||| (p1 &&& (63 : Int32))))])) rfl (hb hby d2_219) _ k) ?_
                show Go p e below _ (T4.setTop (mkF m 221 #[.val (.int p0), .val (.int p1), .val (.int p2), .val (.int p3), .val (.int p4), .val (.int p5), .val (.int (2 : Int32)), .val (.int (((p0 &&& (31 : Int32)) <<< ((6 : Int32) &&& 31)) ||| (p1 &&& (63 : Int32)))), .val (.int (128 : Int32))] [(.int (57343 : Int32)), (.int (((p0 &&& (31 : Int32)) <<< ((6 : Int32) &&& 31)) ||| (p1 &&& (63 : Int32))))]))
                by_cases hc9 : (57343 : Int32) < (((p0 &&& (31 : Int32)) <<< ((6 : Int32) &&& 31)) ||| (p1 &&& (63 : Int32)))
                · show Go p e below _ (T4.setTop (mkF m 221 #[.val (.int p0), .val (.int p1), .val (.int p2), .val (.int p3), .val (.int p4), .val (.int p5), .val (.int (2 : Int32)), .val (.int (((p0 &&& (31 : Int32)) <<< ((6 : Int32) &&& 31)) ||| (p1 &&& (63 : Int32)))), .val (.int (128 : Int32))] [(.int (57343 : Int32)), (.int (((p0 &&& (31 : Int32)) <<< ((6 : Int32) &&& 31)) ||| (p1 &&& (63 : Int32))))]))
                  refine Go.st (fun _ k => XS.icmpYes X4.here hx rfl (pc0 := 221) (pc' := 226) rfl (hb hby d2_221) rfl (tlt hc9).2.2.1 (by decide) (by decide) k) ?_
                  show Go p e below _ (T4.setTop (mkF m 226 #[.val (.int p0), .val (.int p1), .val (.int p2), .val (.int p3), .val (.int p4), .val (.int p5), .val (.int (2 : Int32)), .val (.int (((p0 &&& (31 : Int32)) <<< ((6 : Int32) &&& 31)) ||| (p1 &&& (63 : Int32)))), .val (.int (128 : Int32))] []))
                  refine Go.st (fun _ k => XS.iload X4.here hx rfl (hb hby d2_226) rfl k) ?_
                  refine Go.st (fun _ k => XS.iload X4.here hx rfl (hb hby d2_228) rfl k) ?_
                  show Go p e below _ (T4.setTop (mkF m 230 #[.val (.int p0), .val (.int p1), .val (.int p2), .val (.int p3), .val (.int p4), .val (.int p5), .val (.int (2 : Int32)), .val (.int (((p0 &&& (31 : Int32)) <<< ((6 : Int32) &&& 31)) ||| (p1 &&& (63 : Int32)))), .val (.int (128 : Int32))] [(.int (2 : Int32)), (.int p5)]))
                  refine Go.st (fun _ k => XS.iadd X4.here hx rfl (hb hby d2_230) rfl k) ?_
                  obtain ⟨fs, hr, hrun, hended, hW, hsame⟩ := X4.leave (v := some (.int (p5 + (2 : Int32)))) (fun h => by rw [Bd.returns] at h; cases h)
                  refine ⟨_, _, retI X4 hx Bd.returns (hb hby d2_231) hr, hrun, hended, _, _, rfl, ?_, ⟨_, rfl⟩, hW, hsame.mono (by decide) (by decide)⟩
                  show Q_rm2 Z p0 p1 p2 p3 p4 p5 h0 n0 _ T4.heap _
                  rw [e4]
                  refine ⟨?_, N4, rfl⟩
                  unfold fExp
                  rw [if_neg hc1, if_pos hc2, if_neg hc3, if_neg hc5, if_neg hc6, if_neg hc7, if_neg hc8, if_pos hc9]
                · show Go p e below _ (T4.setTop (mkF m 221 #[.val (.int p0), .val (.int p1), .val (.int p2), .val (.int p3), .val (.int p4), .val (.int p5), .val (.int (2 : Int32)), .val (.int (((p0 &&& (31 : Int32)) <<< ((6 : Int32) &&& 31)) ||| (p1 &&& (63 : Int32)))), .val (.int (128 : Int32))] [(.int (57343 : Int32)), (.int (((p0 &&& (31 : Int32)) <<< ((6 : Int32) &&& 31)) ||| (p1 &&& (63 : Int32))))]))
                  refine Go.st (fun _ k => XS.icmpNo X4.here hx rfl (hb hby d2_221) rfl (flt hc9).2.2.1 k) ?_
                  show Go p e below _ (T4.setTop (mkF m 224 #[.val (.int p0), .val (.int p1), .val (.int p2), .val (.int p3), .val (.int p4), .val (.int p5), .val (.int (2 : Int32)), .val (.int (((p0 &&& (31 : Int32)) <<< ((6 : Int32) &&& 31)) ||| (p1 &&& (63 : Int32)))), .val (.int (128 : Int32))] []))
                  refine Go.st (fun _ k => XS.iconst X4.here hx rfl (hb hby d2_224) k) ?_
                  obtain ⟨fs, hr, hrun, hended, hW, hsame⟩ := X4.leave (v := some (.int (-1 : Int32))) (fun h => by rw [Bd.returns] at h; cases h)
                  refine ⟨_, _, retI X4 hx Bd.returns (hb hby d2_225) hr, hrun, hended, _, _, rfl, ?_, ⟨_, rfl⟩, hW, hsame.mono (by decide) (by decide)⟩
                  show Q_rm2 Z p0 p1 p2 p3 p4 p5 h0 n0 _ T4.heap _
                  rw [e4]
                  refine ⟨?_, N4, rfl⟩
                  unfold fExp
                  rw [if_neg hc1, if_pos hc2, if_neg hc3, if_neg hc5, if_neg hc6, if_neg hc7, if_neg hc8, if_neg hc9]
    · show Go p e below _ (s₁.setTop (mkF m 13 #[.val (.int p0), .val (.int p1), .val (.int p2), .val (.int p3), .val (.int p4), .val (.int p5), .unset, .unset, .unset] [(.int (224 : Int32)), (.int p0)]))
      refine Go.st (fun _ k => XS.icmpYes X0.here hx rfl (pc0 := 13) (pc' := 22) rfl (hb hby d2_13) rfl (flt hc2).2.1 (by decide) (by decide) k) ?_
      show Go p e below _ (s₁.setTop (mkF m 22 #[.val (.int p0), .val (.int p1), .val (.int p2), .val (.int p3), .val (.int p4), .val (.int p5), .unset, .unset, .unset] []))
      refine Go.st (fun _ k => XS.iloadN X0.here hx rfl (hb hby d2_22) rfl k) ?_
      refine Go.st (fun _ k => XS.sipush X0.here hx rfl (hb hby d2_23) k) ?_
      show Go p e below _ (s₁.setTop (mkF m 26 #[.val (.int p0), .val (.int p1), .val (.int p2), .val (.int p3), .val (.int p4), .val (.int p5), .unset, .unset, .unset] [(.int (240 : Int32)), (.int p0)]))
      by_cases hc10 : p0 < (240 : Int32)
      · show Go p e below _ (s₁.setTop (mkF m 26 #[.val (.int p0), .val (.int p1), .val (.int p2), .val (.int p3), .val (.int p4), .val (.int p5), .unset, .unset, .unset] [(.int (240 : Int32)), (.int p0)]))
        refine Go.st (fun _ k => XS.icmpNo X0.here hx rfl (hb hby d2_26) rfl (tlt hc10).2.1 k) ?_
        show Go p e below _ (s₁.setTop (mkF m 29 #[.val (.int p0), .val (.int p1), .val (.int p2), .val (.int p3), .val (.int p4), .val (.int p5), .unset, .unset, .unset] []))
        refine Go.st (fun _ k => XS.iconst X0.here hx rfl (hb hby d2_29) k) ?_
        refine Go.st (fun _ k => XS.istore X0.here hx rfl (hb hby d2_30) rfl (l' := #[.val (.int p0), .val (.int p1), .val (.int p2), .val (.int p3), .val (.int p4), .val (.int p5), .val (.int (3 : Int32)), .unset, .unset]) rfl k) ?_
        show Go p e below _ (s₁.setTop (mkF m 32 #[.val (.int p0), .val (.int p1), .val (.int p2), .val (.int p3), .val (.int p4), .val (.int p5), .val (.int (3 : Int32)), .unset, .unset] []))
        refine Go.st (fun _ k => XS.goto X0.here hx rfl (pc0 := 32) (pc' := 50) rfl (hb hby d2_32) (by decide) (by decide) k) ?_
        show Go p e below _ (s₁.setTop (mkF m 50 #[.val (.int p0), .val (.int p1), .val (.int p2), .val (.int p3), .val (.int p4), .val (.int p5), .val (.int (3 : Int32)), .unset, .unset] []))
        refine Go.st (fun _ k => XS.iload X0.here hx rfl (hb hby d2_50) rfl k) ?_
        refine Go.st (fun _ k => XS.iload X0.here hx rfl (hb hby d2_52) rfl k) ?_
        show Go p e below _ (s₁.setTop (mkF m 54 #[.val (.int p0), .val (.int p1), .val (.int p2), .val (.int p3), .val (.int p4), .val (.int p5), .val (.int (3 : Int32)), .unset, .unset] [(.int (3 : Int32)), (.int p4)]))
        by_cases hc11 : p4 < (3 : Int32)
        · show Go p e below _ (s₁.setTop (mkF m 54 #[.val (.int p0), .val (.int p1), .val (.int p2), .val (.int p3), .val (.int p4), .val (.int p5), .val (.int (3 : Int32)), .unset, .unset] [(.int (3 : Int32)), (.int p4)]))
          refine Go.st (fun _ k => XS.icmpNo X0.here hx rfl (hb hby d2_54) rfl (tlt hc11).2.1 k) ?_
          show Go p e below _ (s₁.setTop (mkF m 57 #[.val (.int p0), .val (.int p1), .val (.int p2), .val (.int p3), .val (.int p4), .val (.int p5), .val (.int (3 : Int32)), .unset, .unset] []))
          refine Go.st (fun _ k => XS.iconst X0.here hx rfl (hb hby d2_57) k) ?_
          obtain ⟨fs, hr, hrun, hended, hW, hsame⟩ := X0.leave (v := some (.int (-1 : Int32))) (fun h => by rw [Bd.returns] at h; cases h)
          refine ⟨_, _, retI X0 hx Bd.returns (hb hby d2_58) hr, hrun, hended, _, _, rfl, ?_, ⟨_, rfl⟩, hW, hsame.mono (by decide) (by decide)⟩
          show Q_rm2 Z p0 p1 p2 p3 p4 p5 h0 n0 _ s₁.heap _
          rw [e0]
          refine ⟨?_, N0, rfl⟩
          unfold fExp
          rw [if_neg hc1, if_neg hc2, if_pos hc10, if_pos hc11]
        · show Go p e below _ (s₁.setTop (mkF m 54 #[.val (.int p0), .val (.int p1), .val (.int p2), .val (.int p3), .val (.int p4), .val (.int p5), .val (.int (3 : Int32)), .unset, .unset] [(.int (3 : Int32)), (.int p4)]))
          refine Go.st (fun _ k => XS.icmpYes X0.here hx rfl (pc0 := 54) (pc' := 59) rfl (hb hby d2_54) rfl (flt hc11).2.1 (by decide) (by decide) k) ?_
          show Go p e below _ (s₁.setTop (mkF m 59 #[.val (.int p0), .val (.int p1), .val (.int p2), .val (.int p3), .val (.int p4), .val (.int p5), .val (.int (3 : Int32)), .unset, .unset] []))
          refine Go.st (fun _ k => XS.iloadN X0.here hx rfl (hb hby d2_59) rfl k) ?_
          show Go p e below _ (s₁.setTop (mkF m 60 #[.val (.int p0), .val (.int p1), .val (.int p2), .val (.int p3), .val (.int p4), .val (.int p5), .val (.int (3 : Int32)), .unset, .unset] [(.int p1)]))
          obtain ⟨_, _, ⟨T12, L12, k12, n12⟩, -, X12, ⟨Lc12, hQ12, l12, y12, z12⟩, st12⟩ := Jvm.LawKit.callS X0 hx (y := (⟨"com/example/apportis/apportis/Utf8CharacterEndPinLaw", "cont", "(I)Z"⟩ : MethodName)) hown (mvT hZ (hw _ (List.mem_of_getElem? (i := 9) rfl))) (mvT hZ (hw _ (List.mem_of_getElem? (i := 10) rfl))) (mvT hZ (hw _ (List.mem_of_getElem? (i := 7) rfl))) (mvT hZ (hw _ (List.mem_of_getElem? (i := 11) rfl))) (by decide) (backOf (W := 0) (rm3 l Z aZ hw [] p1 h0 n0 ) hZ (hw _ (List.mem_of_getElem? (i := 11) rfl)) (hw _ (List.mem_of_getElem? (i := 7) rfl)) (by decide) (by decide)) (g := (mkF m 60 #[.val (.int p0), .val (.int p1), .val (.int p2), .val (.int p3), .val (.int p4), .val (.int p5), .val (.int (3 : Int32)), .unset, .unset] [(.int p1)])) rfl (by rw [hml]; rfl) (argsL := [(.int p1)]) (rest := []) (lenOf pd56f531e rfl) rfl (by show 2 * 0 + _ ≤ _; exact Nat.le_of_eq rfl) (hb hby d2_60) (fun _ _ => ⟨rfl, e0, (by decide : 0 + 0 ≤ _), (by decide : 0 + 0 ≤ _)⟩)
          dsimp only [Pt.U, Pt.locs, Pt.cells, Pt.slots] at X12 l12 y12 z12 st12 hQ12
          subst l12 y12 z12
          obtain ⟨rfl, N12q, e12⟩ := hQ12
          have N12 := Fr.app N0 N12q
          refine Go.st (fun _ k => st12 _ k) ?_
          show Go p e below _ (T12.setTop (mkF m 63 #[.val (.int p0), .val (.int p1), .val (.int p2), .val (.int p3), .val (.int p4), .val (.int p5), .val (.int (3 : Int32)), .unset, .unset] [(.int (fCont p1))]))
          by_cases hc13 : (fCont p1) = (0 : Int32)
          · show Go p e below _ (T12.setTop (mkF m 63 #[.val (.int p0), .val (.int p1), .val (.int p2), .val (.int p3), .val (.int p4), .val (.int p5), .val (.int (3 : Int32)), .unset, .unset] [(.int (fCont p1))]))
            refine Go.st (fun _ k => XS.ifNo X12.here hx rfl (hb hby d2_63) rfl ((if0 _ _).trans (teq hc13).2) k) ?_
            show Go p e below _ (T12.setTop (mkF m 66 #[.val (.int p0), .val (.int p1), .val (.int p2), .val (.int p3), .val (.int p4), .val (.int p5), .val (.int (3 : Int32)), .unset, .unset] []))
            refine Go.st (fun _ k => XS.iconst X12.here hx rfl (hb hby d2_66) k) ?_
            obtain ⟨fs, hr, hrun, hended, hW, hsame⟩ := X12.leave (v := some (.int (-1 : Int32))) (fun h => by rw [Bd.returns] at h; cases h)
            refine ⟨_, _, retI X12 hx Bd.returns (hb hby d2_67) hr, hrun, hended, _, _, rfl, ?_, ⟨_, rfl⟩, hW, hsame.mono (by decide) (by decide)⟩
            show Q_rm2 Z p0 p1 p2 p3 p4 p5 h0 n0 _ T12.heap _
            rw [e12]
            refine ⟨?_, N12, rfl⟩
            unfold fExp
            rw [if_neg hc1, if_neg hc2, if_pos hc10, if_neg hc11, if_pos hc13]
          · show Go p e below _ (T12.setTop (mkF m 63 #[.val (.int p0), .val (.int p1), .val (.int p2), .val (.int p3), .val (.int p4), .val (.int p5), .val (.int (3 : Int32)), .unset, .unset] [(.int (fCont p1))]))
            refine Go.st (fun _ k => XS.ifYes X12.here hx rfl (pc0 := 63) (pc' := 68) rfl (hb hby d2_63) rfl ((if0 _ _).trans (feq hc13).2) (by decide) (by decide) k) ?_
            show Go p e below _ (T12.setTop (mkF m 68 #[.val (.int p0), .val (.int p1), .val (.int p2), .val (.int p3), .val (.int p4), .val (.int p5), .val (.int (3 : Int32)), .unset, .unset] []))
            refine Go.st (fun _ k => XS.iload X12.here hx rfl (hb hby d2_68) rfl k) ?_
            refine Go.st (fun _ k => XS.iconst X12.here hx rfl (hb hby d2_70) k) ?_
            show Go p e below _ (T12.setTop (mkF m 71 #[.val (.int p0), .val (.int p1), .val (.int p2), .val (.int p3), .val (.int p4), .val (.int p5), .val (.int (3 : Int32)), .unset, .unset] [(.int (3 : Int32)), (.int (3 : Int32))]))
            refine Go.st (fun _ k => XS.icmpNo X12.here hx rfl (hb hby d2_71) rfl (flt (by decide : ¬ ((3 : Int32) < (3 : Int32)))).1 k) ?_
            show Go p e below _ (T12.setTop (mkF m 74 #[.val (.int p0), .val (.int p1), .val (.int p2), .val (.int p3), .val (.int p4), .val (.int p5), .val (.int (3 : Int32)), .unset, .unset] []))
            refine Go.st (fun _ k => XS.iloadN X12.here hx rfl (hb hby d2_74) rfl k) ?_
            show Go p e below _ (T12.setTop (mkF m 75 #[.val (.int p0), .val (.int p1), .val (.int p2), .val (.int p3), .val (.int p4), .val (.int p5), .val (.int (3 : Int32)), .unset, .unset] [(.int p2)]))
            obtain ⟨_, _, ⟨T14, L14, k14, n14⟩, -, X14, ⟨Lc14, hQ14, l14, y14, z14⟩, st14⟩ := Jvm.LawKit.callS X12 hx (y := (⟨"com/example/apportis/apportis/Utf8CharacterEndPinLaw", "cont", "(I)Z"⟩ : MethodName)) hown (mvT hZ (hw _ (List.mem_of_getElem? (i := 9) rfl))) (mvT hZ (hw _ (List.mem_of_getElem? (i := 10) rfl))) (mvT hZ (hw _ (List.mem_of_getElem? (i := 7) rfl))) (mvT hZ (hw _ (List.mem_of_getElem? (i := 11) rfl))) (by decide) (backOf (W := 0) (rm3 l Z aZ hw [] p2 h0 n0 ) hZ (hw _ (List.mem_of_getElem? (i := 11) rfl)) (hw _ (List.mem_of_getElem? (i := 7) rfl)) (by decide) (by decide)) (g := (mkF m 75 #[.val (.int p0), .val (.int p1), .val (.int p2), .val (.int p3), .val (.int p4), .val (.int p5), .val (.int (3 : Int32)), .unset, .unset] [(.int p2)])) rfl (by rw [hml]; rfl) (argsL := [(.int p2)]) (rest := []) (lenOf pd56f531e rfl) rfl (by show 2 * 0 + _ ≤ _; exact Nat.le_of_eq rfl) (hb hby d2_75) (fun _ _ => ⟨rfl, e12, (by decide : 0 + 0 ≤ _), (by decide : 0 + 0 ≤ _)⟩)
            dsimp only [Pt.U, Pt.locs, Pt.cells, Pt.slots] at X14 l14 y14 z14 st14 hQ14
            subst l14 y14 z14
            obtain ⟨rfl, N14q, e14⟩ := hQ14
            have N14 := Fr.app N12 N14q
            refine Go.st (fun _ k => st14 _ k) ?_
            show Go p e below _ (T14.setTop (mkF m 78 #[.val (.int p0), .val (.int p1), .val (.int p2), .val (.int p3), .val (.int p4), .val (.int p5), .val (.int (3 : Int32)), .unset, .unset] [(.int (fCont p2))]))
            by_cases hc15 : (fCont p2) = (0 : Int32)
            · show Go p e below _ (T14.setTop (mkF m 78 #[.val (.int p0), .val (.int p1), .val (.int p2), .val (.int p3), .val (.int p4), .val (.int p5), .val (.int (3 : Int32)), .unset, .unset] [(.int (fCont p2))]))
              refine Go.st (fun _ k => XS.ifNo X14.here hx rfl (hb hby d2_78) rfl ((if0 _ _).trans (teq hc15).2) k) ?_
              show Go p e below _ (T14.setTop (mkF m 81 #[.val (.int p0), .val (.int p1), .val (.int p2), .val (.int p3), .val (.int p4), .val (.int p5), .val (.int (3 : Int32)), .unset, .unset] []))
              refine Go.st (fun _ k => XS.iconst X14.here hx rfl (hb hby d2_81) k) ?_
              obtain ⟨fs, hr, hrun, hended, hW, hsame⟩ := X14.leave (v := some (.int (-1 : Int32))) (fun h => by rw [Bd.returns] at h; cases h)
              refine ⟨_, _, retI X14 hx Bd.returns (hb hby d2_82) hr, hrun, hended, _, _, rfl, ?_, ⟨_, rfl⟩, hW, hsame.mono (by decide) (by decide)⟩
              show Q_rm2 Z p0 p1 p2 p3 p4 p5 h0 n0 _ T14.heap _
              rw [e14]
              refine ⟨?_, N14, rfl⟩
              unfold fExp
              rw [if_neg hc1, if_neg hc2, if_pos hc10, if_neg hc11, if_neg hc13, if_pos hc15]
            · show Go p e below _ (T14.setTop (mkF m 78 #[.val (.int p0), .val (.int p1), .val (.int p2), .val (.int p3), .val (.int p4), .val (.int p5), .val (.int (3 : Int32)), .unset, .unset] [(.int (fCont p2))]))
              refine Go.st (fun _ k => XS.ifYes X14.here hx rfl (pc0 := 78) (pc' := 83) rfl (hb hby d2_78) rfl ((if0 _ _).trans (feq hc15).2) (by decide) (by decide) k) ?_
              show Go p e below _ (T14.setTop (mkF m 83 #[.val (.int p0), .val (.int p1), .val (.int p2), .val (.int p3), .val (.int p4), .val (.int p5), .val (.int (3 : Int32)), .unset, .unset] []))
              refine Go.st (fun _ k => XS.iload X14.here hx rfl (hb hby d2_83) rfl k) ?_
              refine Go.st (fun _ k => XS.iconst X14.here hx rfl (hb hby d2_85) k) ?_
              show Go p e below _ (T14.setTop (mkF m 86 #[.val (.int p0), .val (.int p1), .val (.int p2), .val (.int p3), .val (.int p4), .val (.int p5), .val (.int (3 : Int32)), .unset, .unset] [(.int (4 : Int32)), (.int (3 : Int32))]))
              refine Go.st (fun _ k => XS.icmpYes X14.here hx rfl (pc0 := 86) (pc' := 98) rfl (hb hby d2_86) rfl (feq (by decide : ¬ ((3 : Int32) = (4 : Int32)))).2 (by decide) (by decide) k) ?_
              show Go p e below _ (T14.setTop (mkF m 98 #[.val (.int p0), .val (.int p1), .val (.int p2), .val (.int p3), .val (.int p4), .val (.int p5), .val (.int (3 : Int32)), .unset, .unset] []))
              refine Go.st (fun _ k => XS.iload X14.here hx rfl (hb hby d2_98) rfl k) ?_
              refine Go.st (fun _ k => XS.iconst X14.here hx rfl (hb hby d2_100) k) ?_
              show Go p e below _ (T14.setTop (mkF m 101 #[.val (.int p0), .val (.int p1), .val (.int p2), .val (.int p3), .val (.int p4), .val (.int p5), .val (.int (3 : Int32)), .unset, .unset] [(.int (2 : Int32)), (.int (3 : Int32))]))
              refine Go.st (fun _ k => XS.icmpYes X14.here hx rfl (pc0 := 101) (pc' := 126) rfl (hb hby d2_101) rfl (feq (by decide : ¬ ((3 : Int32) = (2 : Int32)))).2 (by decide) (by decide) k) ?_
              show Go p e below _ (T14.setTop (mkF m 126 #[.val (.int p0), .val (.int p1), .val (.int p2), .val (.int p3), .val (.int p4), .val (.int p5), .val (.int (3 : Int32)), .unset, .unset] []))
              refine Go.st (fun _ k => XS.iload X14.here hx rfl (hb hby d2_126) rfl k) ?_
              refine Go.st (fun _ k => XS.iconst X14.here hx rfl (hb hby d2_128) k) ?_
              show Go p e below _ (T14.setTop (mkF m 129 #[.val (.int p0), .val (.int p1), .val (.int p2), .val (.int p3), .val (.int p4), .val (.int p5), .val (.int (3 : Int32)), .unset, .unset] [(.int (3 : Int32)), (.int (3 : Int32))]))
              refine Go.st (fun _ k => XS.icmpNo X14.here hx rfl (hb hby d2_129) rfl (teq (by decide : ((3 : Int32) = (3 : Int32)))).2 k) ?_
              show Go p e below _ (T14.setTop (mkF m 132 #[.val (.int p0), .val (.int p1), .val (.int p2), .val (.int p3), .val (.int p4), .val (.int p5), .val (.int (3 : Int32)), .unset, .unset] []))
              refine Go.st (fun _ k => XS.iloadN X14.here hx rfl (hb hby d2_132) rfl k) ?_
              refine Go.st (fun _ k => XS.bipush X14.here hx rfl (hb hby d2_133) k) ?_
              show Go p e below _ (T14.setTop (mkF m 135 #[.val (.int p0), .val (.int p1), .val (.int p2), .val (.int p3), .val (.int p4), .val (.int p5), .val (.int (3 : Int32)), .unset, .unset] [(.int (15 : Int32)), (.int p0)]))
              refine Go.st (fun _ k => XS.iand X14.here hx rfl (hb hby d2_135) rfl k) ?_
              refine Go.st (fun _ k => XS.bipush X14.here hx rfl (hb hby d2_136) k) ?_
              show Go p e below _ (T14.setTop (mkF m 138 #[.val (.int p0), .val (.int p1), .val (.int p2), .val (.int p3), .val (.int p4), .val (.int p5), .val (.int (3 : Int32)), .unset, .unset] [(.int (12 : Int32)), (.int (p0 &&& (15 : Int32)))]))
              refine Go.st (fun _ k => XS.ishl X14.here hx rfl (hb hby d2_138) rfl k) ?_
              show Go p e below _ (T14.setTop (mkF m 139 #[.val (.int p0), .val (.int p1), .val (.int p2), .val (.int p3), .val (.int p4), .val (.int p5), .val (.int (3 : Int32)), .unset, .unset] [(.int ((p0 &&& (15 : Int32)) <<< ((12 : Int32) &&& 31)))]))
              refine Go.st (fun _ k => XS.iloadN X14.here hx rfl (hb hby d2_139) rfl k) ?_
              refine Go.st (fun _ k => XS.bipush X14.here hx rfl (hb hby d2_140) k) ?_
              show Go p e below _ (T14.setTop (mkF m 142 #[.val (.int p0), .val (.int p1), .val (.int p2), .val (.int p3), .val (.int p4), .val (.int p5), .val (.int (3 : Int32)), .unset, .unset] [(.int (63 : Int32)), (.int p1), (.int ((p0 &&& (15 : Int32)) <<< ((12 : Int32) &&& 31)))]))
              refine Go.st (fun _ k => XS.iand X14.here hx rfl (hb hby d2_142) rfl k) ?_
              refine Go.st (fun _ k => XS.bipush X14.here hx rfl (hb hby d2_143) k) ?_
              show Go p e below _ (T14.setTop (mkF m 145 #[.val (.int p0), .val (.int p1), .val (.int p2), .val (.int p3), .val (.int p4), .val (.int p5), .val (.int (3 : Int32)), .unset, .unset] [(.int (6 : Int32)), (.int (p1 &&& (63 : Int32))), (.int ((p0 &&& (15 : Int32)) <<< ((12 : Int32) &&& 31)))]))
              refine Go.st (fun _ k => XS.ishl X14.here hx rfl (hb hby d2_145) rfl k) ?_
              show Go p e below _ (T14.setTop (mkF m 146 #[.val (.int p0), .val (.int p1), .val (.int p2), .val (.int p3), .val (.int p4), .val (.int p5), .val (.int (3 : Int32)), .unset, .unset] [(.int ((p1 &&& (63 : Int32)) <<< ((6 : Int32) &&& 31))), (.int ((p0 &&& (15 : Int32)) <<< ((12 : Int32) &&& 31)))]))
              refine Go.st (fun _ k => XS.ior X14.here hx rfl (hb hby d2_146) rfl k) ?_
              refine Go.st (fun _ k => XS.iloadN X14.here hx rfl (hb hby d2_147) rfl k) ?_
              show Go p e below _ (T14.setTop (mkF m 148 #[.val (.int p0), .val (.int p1), .val (.int p2), .val (.int p3), .val (.int p4), .val (.int p5), .val (.int (3 : Int32)), .unset, .unset] [(.int p2), (.int (((p0 &&& (15 : Int32)) <<< ((12 : Int32) &&& 31)) ||| ((p1 &&& (63 : Int32)) <<< ((6 : Int32) &&& 31))))]))
              refine Go.st (fun _ k => XS.bipush X14.here hx rfl (hb hby d2_148) k) ?_
              refine Go.st (fun _ k => XS.iand X14.here hx rfl (hb hby d2_150) rfl k) ?_
              show Go p e below _ (T14.setTop (mkF m 151 #[.val (.int p0), .val (.int p1), .val (.int p2), .val (.int p3), .val (.int p4), .val (.int p5), .val (.int (3 : Int32)), .unset, .unset] [(.int (p2 &&& (63 : Int32))), (.int (((p0 &&& (15 : Int32)) <<< ((12 : Int32) &&& 31)) ||| ((p1 &&& (63 : Int32)) <<< ((6 : Int32) &&& 31))))]))
              refine Go.st (fun _ k => XS.ior X14.here hx rfl (hb hby d2_151) rfl k) ?_
              refine Go.st (fun _ k => XS.istore X14.here hx rfl (hb hby d2_152) rfl (l' := #[.val (.int p0), .val (.int p1), .val (.int p2), .val (.int p3), .val (.int p4), .val (.int p5), .val (.int (3 : Int32)), .val (.int ((((p0 &&& (15 : Int32)) <<< ((12 : Int32) &&& 31)) ||| ((p1 &&& (63 : Int32)) <<< ((6 : Int32) &&& 31))) ||| (p2 &&& (63 : Int32)))), .unset]) rfl k) ?_
              show Go p e below _ (T14.setTop (mkF m 154 #[.val (.int p0), .val (.int p1), .val (.int p2), .val (.int p3), .val (.int p4), .val (.int p5), .val (.int (3 : Int32)), .val (.int ((((p0 &&& (15 : Int32)) <<< ((12 : Int32) &&& 31)) ||| ((p1 &&& (63 : Int32)) <<< ((6 : Int32) &&& 31))) ||| (p2 &&& (63 : Int32)))), .unset] []))
              refine Go.st (fun _ k => XS.sipush X14.here hx rfl (hb hby d2_154) k) ?_
              refine Go.st (fun _ k => XS.istore X14.here hx rfl (hb hby d2_157) rfl (l' := #[.val (.int p0), .val (.int p1), .val (.int p2), .val (.int p3), .val (.int p4), .val (.int p5), .val (.int (3 : Int32)), .val (.int ((((p0 &&& (15 : Int32)) <<< ((12 : Int32) &&& 31)) ||| ((p1 &&& (63 : Int32)) <<< ((6 : Int32) &&& 31))) ||| (p2 &&& (63 : Int32)))), .val (.int (2048 : Int32))]) rfl k) ?_
              show Go p e below _ (T14.setTop (mkF m 159 #[.val (.int p0), .val (.int p1), .val (.int p2), .val (.int p3), .val (.int p4), .val (.int p5), .val (.int (3 : Int32)), .val (.int ((((p0 &&& (15 : Int32)) <<< ((12 : Int32) &&& 31)) ||| ((p1 &&& (63 : Int32)) <<< ((6 : Int32) &&& 31))) ||| (p2 &&& (63 : Int32)))), .val (.int (2048 : Int32))] []))
              refine Go.st (fun _ k => XS.goto X14.here hx rfl (pc0 := 159) (pc' := 196) rfl (hb hby d2_159) (by decide) (by decide) k) ?_
              show Go p e below _ (T14.setTop (mkF m 196 #[.val (.int p0), .val (.int p1), .val (.int p2), .val (.int p3), .val (.int p4), .val (.int p5), .val (.int (3 : Int32)), .val (.int ((((p0 &&& (15 : Int32)) <<< ((12 : Int32) &&& 31)) ||| ((p1 &&& (63 : Int32)) <<< ((6 : Int32) &&& 31))) ||| (p2 &&& (63 : Int32)))), .val (.int (2048 : Int32))] []))
              refine Go.st (fun _ k => XS.iload X14.here hx rfl (hb hby d2_196) rfl k) ?_
              refine Go.st (fun _ k => XS.iload X14.here hx rfl (hb hby d2_198) rfl k) ?_
              show Go p e below _ (T14.setTop (mkF m 200 #[.val (.int p0), .val (.int p1), .val (.int p2), .val (.int p3), .val (.int p4), .val (.int p5), .val (.int (3 : Int32)), .val (.int ((((p0 &&& (15 : Int32)) <<< ((12 : Int32) &&& 31)) ||| ((p1 &&& (63 : Int32)) <<< ((6 : Int32) &&& 31))) ||| (p2 &&& (63 : Int32)))), .val (.int (2048 : Int32))] [(.int (2048 : Int32)), (.int ((((p0 &&& (15 : Int32)) <<< ((12 : Int32) &&& 31)) ||| ((p1 &&& (63 : Int32)) <<< ((6 : Int32) &&& 31))) ||| (p2 &&& (63 : Int32))))]))
              by_cases hc16 : ((((p0 &&& (15 : Int32)) <<< ((12 : Int32) &&& 31)) ||| ((p1 &&& (63 : Int32)) <<< ((6 : Int32) &&& 31))) ||| (p2 &&& (63 : Int32))) < (2048 : Int32)
              · show Go p e below _ (T14.setTop (mkF m 200 #[.val (.int p0), .val (.int p1), .val (.int p2), .val (.int p3), .val (.int p4), .val (.int p5), .val (.int (3 : Int32)), .val (.int ((((p0 &&& (15 : Int32)) <<< ((12 : Int32) &&& 31)) ||| ((p1 &&& (63 : Int32)) <<< ((6 : Int32) &&& 31))) ||| (p2 &&& (63 : Int32)))), .val (.int (2048 : Int32))] [(.int (2048 : Int32)), (.int ((((p0 &&& (15 : Int32)) <<< ((12 : Int32) &&& 31)) ||| ((p1 &&& (63 : Int32)) <<< ((6 : Int32) &&& 31))) ||| (p2 &&& (63 : Int32))))]))
                refine Go.st (fun _ k => XS.icmpYes X14.here hx rfl (pc0 := 200) (pc' := 224) rfl (hb hby d2_200) rfl (tlt hc16).1 (by decide) (by decide) k) ?_
                show Go p e below _ (T14.setTop (mkF m 224 #[.val (.int p0), .val (.int p1), .val (.int p2), .val (.int p3), .val (.int p4), .val (.int p5), .val (.int (3 : Int32)), .val (.int ((((p0 &&& (15 : Int32)) <<< ((12 : Int32) &&& 31)) ||| ((p1 &&& (63 : Int32)) <<< ((6 : Int32) &&& 31))) ||| (p2 &&& (63 : Int32)))), .val (.int (2048 : Int32))] []))
                refine Go.st (fun _ k => XS.iconst X14.here hx rfl (hb hby d2_224) k) ?_
                obtain ⟨fs, hr, hrun, hended, hW, hsame⟩ := X14.leave (v := some (.int (-1 : Int32))) (fun h => by rw [Bd.returns] at h; cases h)
                refine ⟨_, _, retI X14 hx Bd.returns (hb hby d2_225) hr, hrun, hended, _, _, rfl, ?_, ⟨_, rfl⟩, hW, hsame.mono (by decide) (by decide)⟩
                show Q_rm2 Z p0 p1 p2 p3 p4 p5 h0 n0 _ T14.heap _
                rw [e14]
                refine ⟨?_, N14, rfl⟩
                unfold fExp
                rw [if_neg hc1, if_neg hc2, if_pos hc10, if_neg hc11, if_neg hc13, if_neg hc15, if_pos hc16]
              · show Go p e below _ (T14.setTop (mkF m 200 #[.val (.int p0), .val (.int p1), .val (.int p2), .val (.int p3), .val (.int p4), .val (.int p5), .val (.int (3 : Int32)), .val (.int ((((p0 &&& (15 : Int32)) <<< ((12 : Int32) &&& 31)) ||| ((p1 &&& (63 : Int32)) <<< ((6 : Int32) &&& 31))) ||| (p2 &&& (63 : Int32)))), .val (.int (2048 : Int32))] [(.int (2048 : Int32)), (.int ((((p0 &&& (15 : Int32)) <<< ((12 : Int32) &&& 31)) ||| ((p1 &&& (63 : Int32)) <<< ((6 : Int32) &&& 31))) ||| (p2 &&& (63 : Int32))))]))
                refine Go.st (fun _ k => XS.icmpNo X14.here hx rfl (hb hby d2_200) rfl (flt hc16).1 k) ?_
                show Go p e below _ (T14.setTop (mkF m 203 #[.val (.int p0), .val (.int p1), .val (.int p2), .val (.int p3), .val (.int p4), .val (.int p5), .val (.int (3 : Int32)), .val (.int ((((p0 &&& (15 : Int32)) <<< ((12 : Int32) &&& 31)) ||| ((p1 &&& (63 : Int32)) <<< ((6 : Int32) &&& 31))) ||| (p2 &&& (63 : Int32)))), .val (.int (2048 : Int32))] []))
                refine Go.st (fun _ k => XS.iload X14.here hx rfl (hb hby d2_203) rfl k) ?_
                show Go p e below _ (T14.setTop (mkF m 205 #[.val (.int p0), .val (.int p1), .val (.int p2), .val (.int p3), .val (.int p4), .val (.int p5), .val (.int (3 : Int32)), .val (.int ((((p0 &&& (15 : Int32)) <<< ((12 : Int32) &&& 31)) ||| ((p1 &&& (63 : Int32)) <<< ((6 : Int32) &&& 31))) ||| (p2 &&& (63 : Int32)))), .val (.int (2048 : Int32))] [(.int ((((p0 &&& (15 : Int32)) <<< ((12 : Int32) &&& 31)) ||| ((p1 &&& (63 : Int32)) <<< ((6 : Int32) &&& 31))) ||| (p2 &&& (63 : Int32))))]))
                refine Go.st (fun _ k => X14.ldcInt hx hown (mvT hZ (hw _ (List.mem_of_getElem? (i := 12) rfl))) (g := (mkF m 205 #[.val (.int p0), .val (.int p1), .val (.int p2), .val (.int p3), .val (.int p4), .val (.int p5), .val (.int (3 : Int32)), .val (.int ((((p0 &&& (15 : Int32)) <<< ((12 : Int32) &&& 31)) ||| ((p1 &&& (63 : Int32)) <<< ((6 : Int32) &&& 31))) ||| (p2 &&& (63 : Int32)))), .val (.int (2048 : Int32))] [(.int ((((p0 &&& (15 : Int32)) <<< ((12 : Int32) &&& 31)) ||| ((p1 &&& (63 : Int32)) <<< ((6 : Int32) &&& 31))) ||| (p2 &&& (63 : Int32))))])) rfl (hb hby d2_205) _ k) ?_
                show Go p e below _ (T14.setTop (mkF m 207 #[.val (.int p0), .val (.int p1), .val (.int p2), .val (.int p3), .val (.int p4), .val (.int p5), .val (.int (3 : Int32)), .val (.int ((((p0 &&& (15 : Int32)) <<< ((12 : Int32) &&& 31)) ||| ((p1 &&& (63 : Int32)) <<< ((6 : Int32) &&& 31))) ||| (p2 &&& (63 : Int32)))), .val (.int (2048 : Int32))] [(.int (1114111 : Int32)), (.int ((((p0 &&& (15 : Int32)) <<< ((12 : Int32) &&& 31)) ||| ((p1 &&& (63 : Int32)) <<< ((6 : Int32) &&& 31))) ||| (p2 &&& (63 : Int32))))]))
                by_cases hc17 : (1114111 : Int32) < ((((p0 &&& (15 : Int32)) <<< ((12 : Int32) &&& 31)) ||| ((p1 &&& (63 : Int32)) <<< ((6 : Int32) &&& 31))) ||| (p2 &&& (63 : Int32)))
                · show Go p e below _ (T14.setTop (mkF m 207 #[.val (.int p0), .val (.int p1), .val (.int p2), .val (.int p3), .val (.int p4), .val (.int p5), .val (.int (3 : Int32)), .val (.int ((((p0 &&& (15 : Int32)) <<< ((12 : Int32) &&& 31)) ||| ((p1 &&& (63 : Int32)) <<< ((6 : Int32) &&& 31))) ||| (p2 &&& (63 : Int32)))), .val (.int (2048 : Int32))] [(.int (1114111 : Int32)), (.int ((((p0 &&& (15 : Int32)) <<< ((12 : Int32) &&& 31)) ||| ((p1 &&& (63 : Int32)) <<< ((6 : Int32) &&& 31))) ||| (p2 &&& (63 : Int32))))]))
                  refine Go.st (fun _ k => XS.icmpYes X14.here hx rfl (pc0 := 207) (pc' := 224) rfl (hb hby d2_207) rfl (tlt hc17).2.2.1 (by decide) (by decide) k) ?_
                  show Go p e below _ (T14.setTop (mkF m 224 #[.val (.int p0), .val (.int p1), .val (.int p2), .val (.int p3), .val (.int p4), .val (.int p5), .val (.int (3 : Int32)), .val (.int ((((p0 &&& (15 : Int32)) <<< ((12 : Int32) &&& 31)) ||| ((p1 &&& (63 : Int32)) <<< ((6 : Int32) &&& 31))) ||| (p2 &&& (63 : Int32)))), .val (.int (2048 : Int32))] []))
                  refine Go.st (fun _ k => XS.iconst X14.here hx rfl (hb hby d2_224) k) ?_
                  obtain ⟨fs, hr, hrun, hended, hW, hsame⟩ := X14.leave (v := some (.int (-1 : Int32))) (fun h => by rw [Bd.returns] at h; cases h)
                  refine ⟨_, _, retI X14 hx Bd.returns (hb hby d2_225) hr, hrun, hended, _, _, rfl, ?_, ⟨_, rfl⟩, hW, hsame.mono (by decide) (by decide)⟩
                  show Q_rm2 Z p0 p1 p2 p3 p4 p5 h0 n0 _ T14.heap _
                  rw [e14]
                  refine ⟨?_, N14, rfl⟩
                  unfold fExp
                  rw [if_neg hc1, if_neg hc2, if_pos hc10, if_neg hc11, if_neg hc13, if_neg hc15, if_neg hc16, if_pos hc17]
                · show Go p e below _ (T14.setTop (mkF m 207 #[.val (.int p0), .val (.int p1), .val (.int p2), .val (.int p3), .val (.int p4), .val (.int p5), .val (.int (3 : Int32)), .val (.int ((((p0 &&& (15 : Int32)) <<< ((12 : Int32) &&& 31)) ||| ((p1 &&& (63 : Int32)) <<< ((6 : Int32) &&& 31))) ||| (p2 &&& (63 : Int32)))), .val (.int (2048 : Int32))] [(.int (1114111 : Int32)), (.int ((((p0 &&& (15 : Int32)) <<< ((12 : Int32) &&& 31)) ||| ((p1 &&& (63 : Int32)) <<< ((6 : Int32) &&& 31))) ||| (p2 &&& (63 : Int32))))]))
                  refine Go.st (fun _ k => XS.icmpNo X14.here hx rfl (hb hby d2_207) rfl (flt hc17).2.2.1 k) ?_
                  show Go p e below _ (T14.setTop (mkF m 210 #[.val (.int p0), .val (.int p1), .val (.int p2), .val (.int p3), .val (.int p4), .val (.int p5), .val (.int (3 : Int32)), .val (.int ((((p0 &&& (15 : Int32)) <<< ((12 : Int32) &&& 31)) ||| ((p1 &&& (63 : Int32)) <<< ((6 : Int32) &&& 31))) ||| (p2 &&& (63 : Int32)))), .val (.int (2048 : Int32))] []))
                  refine Go.st (fun _ k => XS.iload X14.here hx rfl (hb hby d2_210) rfl k) ?_
                  show Go p e below _ (T14.setTop (mkF m 212 #[.val (.int p0), .val (.int p1), .val (.int p2), .val (.int p3), .val (.int p4), .val (.int p5), .val (.int (3 : Int32)), .val (.int ((((p0 &&& (15 : Int32)) <<< ((12 : Int32) &&& 31)) ||| ((p1 &&& (63 : Int32)) <<< ((6 : Int32) &&& 31))) ||| (p2 &&& (63 : Int32)))), .val (.int (2048 : Int32))] [(.int ((((p0 &&& (15 : Int32)) <<< ((12 : Int32) &&& 31)) ||| ((p1 &&& (63 : Int32)) <<< ((6 : Int32) &&& 31))) ||| (p2 &&& (63 : Int32))))]))
                  refine Go.st (fun _ k => X14.ldcInt hx hown (mvT hZ (hw _ (List.mem_of_getElem? (i := 13) rfl))) (g := (mkF m 212 #[.val (.int p0), .val (.int p1), .val (.int p2), .val (.int p3), .val (.int p4), .val (.int p5), .val (.int (3 : Int32)), .val (.int ((((p0 &&& (15 : Int32)) <<< ((12 : Int32) &&& 31)) ||| ((p1 &&& (63 : Int32)) <<< ((6 : Int32) &&& 31))) ||| (p2 &&& (63 : Int32)))), .val (.int (2048 : Int32))] [(.int ((((p0 &&& (15 : Int32)) <<< ((12 : Int32) &&& 31)) ||| ((p1 &&& (63 : Int32)) <<< ((6 : Int32) &&& 31))) ||| (p2 &&& (63 : Int32))))])) rfl (hb hby d2_212) _ k) ?_
                  show Go p e below _ (T14.setTop (mkF m 214 #[.val (.int p0), .val (.int p1), .val (.int p2), .val (.int p3), .val (.int p4), .val (.int p5), .val (.int (3 : Int32)), .val (.int ((((p0 &&& (15 : Int32)) <<< ((12 : Int32) &&& 31)) ||| ((p1 &&& (63 : Int32)) <<< ((6 : Int32) &&& 31))) ||| (p2 &&& (63 : Int32)))), .val (.int (2048 : Int32))] [(.int (55296 : Int32)), (.int ((((p0 &&& (15 : Int32)) <<< ((12 : Int32) &&& 31)) ||| ((p1 &&& (63 : Int32)) <<< ((6 : Int32) &&& 31))) ||| (p2 &&& (63 : Int32))))]))
                  by_cases hc18 : ((((p0 &&& (15 : Int32)) <<< ((12 : Int32) &&& 31)) ||| ((p1 &&& (63 : Int32)) <<< ((6 : Int32) &&& 31))) ||| (p2 &&& (63 : Int32))) < (55296 : Int32)
                  · show Go p e below _ (T14.setTop (mkF m 214 #[.val (.int p0), .val (.int p1), .val (.int p2), .val (.int p3), .val (.int p4), .val (.int p5), .val (.int (3 : Int32)), .val (.int ((((p0 &&& (15 : Int32)) <<< ((12 : Int32) &&& 31)) ||| ((p1 &&& (63 : Int32)) <<< ((6 : Int32) &&& 31))) ||| (p2 &&& (63 : Int32)))), .val (.int (2048 : Int32))] [(.int (55296 : Int32)), (.int ((((p0 &&& (15 : Int32)) <<< ((12 : Int32) &&& 31)) ||| ((p1 &&& (63 : Int32)) <<< ((6 : Int32) &&& 31))) ||| (p2 &&& (63 : Int32))))]))
                    refine Go.st (fun _ k => XS.icmpYes X14.here hx rfl (pc0 := 214) (pc' := 226) rfl (hb hby d2_214) rfl (tlt hc18).1 (by decide) (by decide) k) ?_
                    show Go p e below _ (T14.setTop (mkF m 226 #[.val (.int p0), .val (.int p1), .val (.int p2), .val (.int p3), .val (.int p4), .val (.int p5), .val (.int (3 : Int32)), .val (.int ((((p0 &&& (15 : Int32)) <<< ((12 : Int32) &&& 31)) ||| ((p1 &&& (63 : Int32)) <<< ((6 : Int32) &&& 31))) ||| (p2 &&& (63 : Int32)))), .val (.int (2048 : Int32))] []))
                    refine Go.st (fun _ k => XS.iload X14.here hx rfl (hb hby d2_226) rfl k) ?_
                    refine Go.st (fun _ k => XS.iload X14.here hx rfl (hb hby d2_228) rfl k) ?_
                    show Go p e below _ (T14.setTop (mkF m 230 #[.val (.int p0), .val (.int p1), .val (.int p2), .val (.int p3), .val (.int p4), .val (.int p5), .val (.int (3 : Int32)), .val (.int ((((p0 &&& (15 : Int32)) <<< ((12 : Int32) &&& 31)) ||| ((p1 &&& (63 : Int32)) <<< ((6 : Int32) &&& 31))) ||| (p2 &&& (63 : Int32)))), .val (.int (2048 : Int32))] [(.int (3 : Int32)), (.int p5)]))
                    refine Go.st (fun _ k => XS.iadd X14.here hx rfl (hb hby d2_230) rfl k) ?_
                    obtain ⟨fs, hr, hrun, hended, hW, hsame⟩ := X14.leave (v := some (.int (p5 + (3 : Int32)))) (fun h => by rw [Bd.returns] at h; cases h)
                    refine ⟨_, _, retI X14 hx Bd.returns (hb hby d2_231) hr, hrun, hended, _, _, rfl, ?_, ⟨_, rfl⟩, hW, hsame.mono (by decide) (by decide)⟩
                    show Q_rm2 Z p0 p1 p2 p3 p4 p5 h0 n0 _ T14.heap _
                    rw [e14]
                    refine ⟨?_, N14, rfl⟩
                    unfold fExp
                    rw [if_neg hc1, if_neg hc2, if_pos hc10, if_neg hc11, if_neg hc13, if_neg hc15, if_neg hc16, if_neg hc17, if_pos hc18]
                  · show Go p e below _ (T14.setTop (mkF m 214 #[.val (.int p0), .val (.int p1), .val (.int p2), .val (.int p3), .val (.int p4), .val (.int p5), .val (.int (3 : Int32)), .val (.int ((((p0 &&& (15 : Int32)) <<< ((12 : Int32) &&& 31)) ||| ((p1 &&& (63 : Int32)) <<< ((6 : Int32) &&& 31))) ||| (p2 &&& (63 : Int32)))), .val (.int (2048 : Int32))] [(.int (55296 : Int32)), (.int ((((p0 &&& (15 : Int32)) <<< ((12 : Int32) &&& 31)) ||| ((p1 &&& (63 : Int32)) <<< ((6 : Int32) &&& 31))) ||| (p2 &&& (63 : Int32))))]))
                    refine Go.st (fun _ k => XS.icmpNo X14.here hx rfl (hb hby d2_214) rfl (flt hc18).1 k) ?_
                    show Go p e below _ (T14.setTop (mkF m 217 #[.val (.int p0), .val (.int p1), .val (.int p2), .val (.int p3), .val (.int p4), .val (.int p5), .val (.int (3 : Int32)), .val (.int ((((p0 &&& (15 : Int32)) <<< ((12 : Int32) &&& 31)) ||| ((p1 &&& (63 : Int32)) <<< ((6 : Int32) &&& 31))) ||| (p2 &&& (63 : Int32)))), .val (.int (2048 : Int32))] []))
                    refine Go.st (fun _ k => XS.iload X14.here hx rfl (hb hby d2_217) rfl k) ?_
                    show Go p e below _ (T14.setTop (mkF m 219 #[.val (.int p0), .val (.int p1), .val (.int p2), .val (.int p3), .val (.int p4), .val (.int p5), .val (.int (3 : Int32)), .val (.int ((((p0 &&& (15 : Int32)) <<< ((12 : Int32) &&& 31)) ||| ((p1 &&& (63 : Int32)) <<< ((6 : Int32) &&& 31))) ||| (p2 &&& (63 : Int32)))), .val (.int (2048 : Int32))] [(.int ((((p0 &&& (15 : Int32)) <<< ((12 : Int32) &&& 31)) ||| ((p1 &&& (63 : Int32)) <<< ((6 : Int32) &&& 31))) ||| (p2 &&& (63 : Int32))))]))
                    refine Go.st (fun _ k => X14.ldcInt hx hown (mvT hZ (hw _ (List.mem_of_getElem? (i := 15) rfl))) (g := (mkF m 219 #[.val (.int p0), .val (.int p1), .val (.int p2), .val (.int p3), .val (.int p4), .val (.int p5), .val (.int (3 : Int32)), .val (.int ((((p0 &&& (15 : Int32)) <<< ((12 : Int32) &&& 31)) ||| ((p1 &&& (63 : Int32)) <<< ((6 : Int32) &&& 31))) ||| (p2 &&& (63 : Int32)))), .val (.int (2048 : Int32))] [(.int ((((p0 &&& (15 : Int32)) <<< ((12 : Int32) &&& 31)) ||| ((p1 &&& (63 : Int32)) <<< ((6 : Int32) &&& 31))) ||| (p2 &&& (63 : Int32))))])) rfl (hb hby d2_219) _ k) ?_
                    show Go p e below _ (T14.setTop (mkF m 221 #[.val (.int p0), .val (.int p1), .val (.int p2), .val (.int p3), .val (.int p4), .val (.int p5), .val (.int (3 : Int32)), .val (.int ((((p0 &&& (15 : Int32)) <<< ((12 : Int32) &&& 31)) ||| ((p1 &&& (63 : Int32)) <<< ((6 : Int32) &&& 31))) ||| (p2 &&& (63 : Int32)))), .val (.int (2048 : Int32))] [(.int (57343 : Int32)), (.int ((((p0 &&& (15 : Int32)) <<< ((12 : Int32) &&& 31)) ||| ((p1 &&& (63 : Int32)) <<< ((6 : Int32) &&& 31))) ||| (p2 &&& (63 : Int32))))]))
                    by_cases hc19 : (57343 : Int32) < ((((p0 &&& (15 : Int32)) <<< ((12 : Int32) &&& 31)) ||| ((p1 &&& (63 : Int32)) <<< ((6 : Int32) &&& 31))) ||| (p2 &&& (63 : Int32)))
                    · show Go p e below _ (T14.setTop (mkF m 221 #[.val (.int p0), .val (.int p1), .val (.int p2), .val (.int p3), .val (.int p4), .val (.int p5), .val (.int (3 : Int32)), .val (.int ((((p0 &&& (15 : Int32)) <<< ((12 : Int32) &&& 31)) ||| ((p1 &&& (63 : Int32)) <<< ((6 : Int32) &&& 31))) ||| (p2 &&& (63 : Int32)))), .val (.int (2048 : Int32))] [(.int (57343 : Int32)), (.int ((((p0 &&& (15 : Int32)) <<< ((12 : Int32) &&& 31)) ||| ((p1 &&& (63 : Int32)) <<< ((6 : Int32) &&& 31))) ||| (p2 &&& (63 : Int32))))]))
                      refine Go.st (fun _ k => XS.icmpYes X14.here hx rfl (pc0 := 221) (pc' := 226) rfl (hb hby d2_221) rfl (tlt hc19).2.2.1 (by decide) (by decide) k) ?_
                      show Go p e below _ (T14.setTop (mkF m 226 #[.val (.int p0), .val (.int p1), .val (.int p2), .val (.int p3), .val (.int p4), .val (.int p5), .val (.int (3 : Int32)), .val (.int ((((p0 &&& (15 : Int32)) <<< ((12 : Int32) &&& 31)) ||| ((p1 &&& (63 : Int32)) <<< ((6 : Int32) &&& 31))) ||| (p2 &&& (63 : Int32)))), .val (.int (2048 : Int32))] []))
                      refine Go.st (fun _ k => XS.iload X14.here hx rfl (hb hby d2_226) rfl k) ?_
                      refine Go.st (fun _ k => XS.iload X14.here hx rfl (hb hby d2_228) rfl k) ?_
                      show Go p e below _ (T14.setTop (mkF m 230 #[.val (.int p0), .val (.int p1), .val (.int p2), .val (.int p3), .val (.int p4), .val (.int p5), .val (.int (3 : Int32)), .val (.int ((((p0 &&& (15 : Int32)) <<< ((12 : Int32) &&& 31)) ||| ((p1 &&& (63 : Int32)) <<< ((6 : Int32) &&& 31))) ||| (p2 &&& (63 : Int32)))), .val (.int (2048 : Int32))] [(.int (3 : Int32)), (.int p5)]))
                      refine Go.st (fun _ k => XS.iadd X14.here hx rfl (hb hby d2_230) rfl k) ?_
                      obtain ⟨fs, hr, hrun, hended, hW, hsame⟩ := X14.leave (v := some (.int (p5 + (3 : Int32)))) (fun h => by rw [Bd.returns] at h; cases h)
                      refine ⟨_, _, retI X14 hx Bd.returns (hb hby d2_231) hr, hrun, hended, _, _, rfl, ?_, ⟨_, rfl⟩, hW, hsame.mono (by decide) (by decide)⟩
                      show Q_rm2 Z p0 p1 p2 p3 p4 p5 h0 n0 _ T14.heap _
                      rw [e14]
                      refine ⟨?_, N14, rfl⟩
                      unfold fExp
                      rw [if_neg hc1, if_neg hc2, if_pos hc10, if_neg hc11, if_neg hc13, if_neg hc15, if_neg hc16, if_neg hc17, if_neg hc18, if_pos hc19]
                    · show Go p e below _ (T14.setTop (mkF m 221 #[.val (.int p0), .val (.int p1), .val (.int p2), .val (.int p3), .val (.int p4), .val (.int p5), .val (.int (3 : Int32)), .val (.int ((((p0 &&& (15 : Int32)) <<< ((12 : Int32) &&& 31)) ||| ((p1 &&& (63 : Int32)) <<< ((6 : Int32) &&& 31))) ||| (p2 &&& (63 : Int32)))), .val (.int (2048 : Int32))] [(.int (57343 : Int32)), (.int ((((p0 &&& (15 : Int32)) <<< ((12 : Int32) &&& 31)) ||| ((p1 &&& (63 : Int32)) <<< ((6 : Int32) &&& 31))) ||| (p2 &&& (63 : Int32))))]))
                      refine Go.st (fun _ k => XS.icmpNo X14.here hx rfl (hb hby d2_221) rfl (flt hc19).2.2.1 k) ?_
                      show Go p e below _ (T14.setTop (mkF m 224 #[.val (.int p0), .val (.int p1), .val (.int p2), .val (.int p3), .val (.int p4), .val (.int p5), .val (.int (3 : Int32)), .val (.int ((((p0 &&& (15 : Int32)) <<< ((12 : Int32) &&& 31)) ||| ((p1 &&& (63 : Int32)) <<< ((6 : Int32) &&& 31))) ||| (p2 &&& (63 : Int32)))), .val (.int (2048 : Int32))] []))
                      refine Go.st (fun _ k => XS.iconst X14.here hx rfl (hb hby d2_224) k) ?_
                      obtain ⟨fs, hr, hrun, hended, hW, hsame⟩ := X14.leave (v := some (.int (-1 : Int32))) (fun h => by rw [Bd.returns] at h; cases h)
                      refine ⟨_, _, retI X14 hx Bd.returns (hb hby d2_225) hr, hrun, hended, _, _, rfl, ?_, ⟨_, rfl⟩, hW, hsame.mono (by decide) (by decide)⟩
                      show Q_rm2 Z p0 p1 p2 p3 p4 p5 h0 n0 _ T14.heap _
                      rw [e14]
                      refine ⟨?_, N14, rfl⟩
                      unfold fExp
                      rw [if_neg hc1, if_neg hc2, if_pos hc10, if_neg hc11, if_neg hc13, if_neg hc15, if_neg hc16, if_neg hc17, if_neg hc18, if_neg hc19]
      · show Go p e below _ (s₁.setTop (mkF m 26 #[.val (.int p0), .val (.int p1), .val (.int p2), .val (.int p3), .val (.int p4), .val (.int p5), .unset, .unset, .unset] [(.int (240 : Int32)), (.int p0)]))
        refine Go.st (fun _ k => XS.icmpYes X0.here hx rfl (pc0 := 26) (pc' := 35) rfl (hb hby d2_26) rfl (flt hc10).2.1 (by decide) (by decide) k) ?_
        show Go p e below _ (s₁.setTop (mkF m 35 #[.val (.int p0), .val (.int p1), .val (.int p2), .val (.int p3), .val (.int p4), .val (.int p5), .unset, .unset, .unset] []))
        refine Go.st (fun _ k => XS.iloadN X0.here hx rfl (hb hby d2_35) rfl k) ?_
        refine Go.st (fun _ k => XS.sipush X0.here hx rfl (hb hby d2_36) k) ?_
        show Go p e below _ (s₁.setTop (mkF m 39 #[.val (.int p0), .val (.int p1), .val (.int p2), .val (.int p3), .val (.int p4), .val (.int p5), .unset, .unset, .unset] [(.int (248 : Int32)), (.int p0)]))
        by_cases hc20 : p0 < (248 : Int32)
        · show Go p e below _ (s₁.setTop (mkF m 39 #[.val (.int p0), .val (.int p1), .val (.int p2), .val (.int p3), .val (.int p4), .val (.int p5), .unset, .unset, .unset] [(.int (248 : Int32)), (.int p0)]))
          refine Go.st (fun _ k => XS.icmpNo X0.here hx rfl (hb hby d2_39) rfl (tlt hc20).2.1 k) ?_
          show Go p e below _ (s₁.setTop (mkF m 42 #[.val (.int p0), .val (.int p1), .val (.int p2), .val (.int p3), .val (.int p4), .val (.int p5), .unset, .unset, .unset] []))
          refine Go.st (fun _ k => XS.iconst X0.here hx rfl (hb hby d2_42) k) ?_
          refine Go.st (fun _ k => XS.istore X0.here hx rfl (hb hby d2_43) rfl (l' := #[.val (.int p0), .val (.int p1), .val (.int p2), .val (.int p3), .val (.int p4), .val (.int p5), .val (.int (4 : Int32)), .unset, .unset]) rfl k) ?_
          show Go p e below _ (s₁.setTop (mkF m 45 #[.val (.int p0), .val (.int p1), .val (.int p2), .val (.int p3), .val (.int p4), .val (.int p5), .val (.int (4 : Int32)), .unset, .unset] []))
          refine Go.st (fun _ k => XS.goto X0.here hx rfl (pc0 := 45) (pc' := 50) rfl (hb hby d2_45) (by decide) (by decide) k) ?_
          show Go p e below _ (s₁.setTop (mkF m 50 #[.val (.int p0), .val (.int p1), .val (.int p2), .val (.int p3), .val (.int p4), .val (.int p5), .val (.int (4 : Int32)), .unset, .unset] []))
          refine Go.st (fun _ k => XS.iload X0.here hx rfl (hb hby d2_50) rfl k) ?_
          refine Go.st (fun _ k => XS.iload X0.here hx rfl (hb hby d2_52) rfl k) ?_
          show Go p e below _ (s₁.setTop (mkF m 54 #[.val (.int p0), .val (.int p1), .val (.int p2), .val (.int p3), .val (.int p4), .val (.int p5), .val (.int (4 : Int32)), .unset, .unset] [(.int (4 : Int32)), (.int p4)]))
          by_cases hc21 : p4 < (4 : Int32)
          · show Go p e below _ (s₁.setTop (mkF m 54 #[.val (.int p0), .val (.int p1), .val (.int p2), .val (.int p3), .val (.int p4), .val (.int p5), .val (.int (4 : Int32)), .unset, .unset] [(.int (4 : Int32)), (.int p4)]))
            refine Go.st (fun _ k => XS.icmpNo X0.here hx rfl (hb hby d2_54) rfl (tlt hc21).2.1 k) ?_
            show Go p e below _ (s₁.setTop (mkF m 57 #[.val (.int p0), .val (.int p1), .val (.int p2), .val (.int p3), .val (.int p4), .val (.int p5), .val (.int (4 : Int32)), .unset, .unset] []))
            refine Go.st (fun _ k => XS.iconst X0.here hx rfl (hb hby d2_57) k) ?_
            obtain ⟨fs, hr, hrun, hended, hW, hsame⟩ := X0.leave (v := some (.int (-1 : Int32))) (fun h => by rw [Bd.returns] at h; cases h)
            refine ⟨_, _, retI X0 hx Bd.returns (hb hby d2_58) hr, hrun, hended, _, _, rfl, ?_, ⟨_, rfl⟩, hW, hsame.mono (by decide) (by decide)⟩
            show Q_rm2 Z p0 p1 p2 p3 p4 p5 h0 n0 _ s₁.heap _
            rw [e0]
            refine ⟨?_, N0, rfl⟩
            unfold fExp
            rw [if_neg hc1, if_neg hc2, if_neg hc10, if_pos hc20, if_pos hc21]
          · show Go p e below _ (s₁.setTop (mkF m 54 #[.val (.int p0), .val (.int p1), .val (.int p2), .val (.int p3), .val (.int p4), .val (.int p5), .val (.int (4 : Int32)), .unset, .unset] [(.int (4 : Int32)), (.int p4)]))
            refine Go.st (fun _ k => XS.icmpYes X0.here hx rfl (pc0 := 54) (pc' := 59) rfl (hb hby d2_54) rfl (flt hc21).2.1 (by decide) (by decide) k) ?_
            show Go p e below _ (s₁.setTop (mkF m 59 #[.val (.int p0), .val (.int p1), .val (.int p2), .val (.int p3), .val (.int p4), .val (.int p5), .val (.int (4 : Int32)), .unset, .unset] []))
            refine Go.st (fun _ k => XS.iloadN X0.here hx rfl (hb hby d2_59) rfl k) ?_
            show Go p e below _ (s₁.setTop (mkF m 60 #[.val (.int p0), .val (.int p1), .val (.int p2), .val (.int p3), .val (.int p4), .val (.int p5), .val (.int (4 : Int32)), .unset, .unset] [(.int p1)]))
            obtain ⟨_, _, ⟨T22, L22, k22, n22⟩, -, X22, ⟨Lc22, hQ22, l22, y22, z22⟩, st22⟩ := Jvm.LawKit.callS X0 hx (y := (⟨"com/example/apportis/apportis/Utf8CharacterEndPinLaw", "cont", "(I)Z"⟩ : MethodName)) hown (mvT hZ (hw _ (List.mem_of_getElem? (i := 9) rfl))) (mvT hZ (hw _ (List.mem_of_getElem? (i := 10) rfl))) (mvT hZ (hw _ (List.mem_of_getElem? (i := 7) rfl))) (mvT hZ (hw _ (List.mem_of_getElem? (i := 11) rfl))) (by decide) (backOf (W := 0) (rm3 l Z aZ hw [] p1 h0 n0 ) hZ (hw _ (List.mem_of_getElem? (i := 11) rfl)) (hw _ (List.mem_of_getElem? (i := 7) rfl)) (by decide) (by decide)) (g := (mkF m 60 #[.val (.int p0), .val (.int p1), .val (.int p2), .val (.int p3), .val (.int p4), .val (.int p5), .val (.int (4 : Int32)), .unset, .unset] [(.int p1)])) rfl (by rw [hml]; rfl) (argsL := [(.int p1)]) (rest := []) (lenOf pd56f531e rfl) rfl (by show 2 * 0 + _ ≤ _; exact Nat.le_of_eq rfl) (hb hby d2_60) (fun _ _ => ⟨rfl, e0, (by decide : 0 + 0 ≤ _), (by decide : 0 + 0 ≤ _)⟩)
            dsimp only [Pt.U, Pt.locs, Pt.cells, Pt.slots] at X22 l22 y22 z22 st22 hQ22
            subst l22 y22 z22
            obtain ⟨rfl, N22q, e22⟩ := hQ22
            have N22 := Fr.app N0 N22q
            refine Go.st (fun _ k => st22 _ k) ?_
            show Go p e below _ (T22.setTop (mkF m 63 #[.val (.int p0), .val (.int p1), .val (.int p2), .val (.int p3), .val (.int p4), .val (.int p5), .val (.int (4 : Int32)), .unset, .unset] [(.int (fCont p1))]))
            by_cases hc23 : (fCont p1) = (0 : Int32)
            · show Go p e below _ (T22.setTop (mkF m 63 #[.val (.int p0), .val (.int p1), .val (.int p2), .val (.int p3), .val (.int p4), .val (.int p5), .val (.int (4 : Int32)), .unset, .unset] [(.int (fCont p1))]))
              refine Go.st (fun _ k => XS.ifNo X22.here hx rfl (hb hby d2_63) rfl ((if0 _ _).trans (teq hc23).2) k) ?_
              show Go p e below _ (T22.setTop (mkF m 66 #[.val (.int p0), .val (.int p1), .val (.int p2), .val (.int p3), .val (.int p4), .val (.int p5), .val (.int (4 : Int32)), .unset, .unset] []))
              refine Go.st (fun _ k => XS.iconst X22.here hx rfl (hb hby d2_66) k) ?_
              obtain ⟨fs, hr, hrun, hended, hW, hsame⟩ := X22.leave (v := some (.int (-1 : Int32))) (fun h => by rw [Bd.returns] at h; cases h)
              refine ⟨_, _, retI X22 hx Bd.returns (hb hby d2_67) hr, hrun, hended, _, _, rfl, ?_, ⟨_, rfl⟩, hW, hsame.mono (by decide) (by decide)⟩
              show Q_rm2 Z p0 p1 p2 p3 p4 p5 h0 n0 _ T22.heap _
              rw [e22]
              refine ⟨?_, N22, rfl⟩
              unfold fExp
              rw [if_neg hc1, if_neg hc2, if_neg hc10, if_pos hc20, if_neg hc21, if_pos hc23]
            · show Go p e below _ (T22.setTop (mkF m 63 #[.val (.int p0), .val (.int p1), .val (.int p2), .val (.int p3), .val (.int p4), .val (.int p5), .val (.int (4 : Int32)), .unset, .unset] [(.int (fCont p1))]))
              refine Go.st (fun _ k => XS.ifYes X22.here hx rfl (pc0 := 63) (pc' := 68) rfl (hb hby d2_63) rfl ((if0 _ _).trans (feq hc23).2) (by decide) (by decide) k) ?_
              show Go p e below _ (T22.setTop (mkF m 68 #[.val (.int p0), .val (.int p1), .val (.int p2), .val (.int p3), .val (.int p4), .val (.int p5), .val (.int (4 : Int32)), .unset, .unset] []))
              refine Go.st (fun _ k => XS.iload X22.here hx rfl (hb hby d2_68) rfl k) ?_
              refine Go.st (fun _ k => XS.iconst X22.here hx rfl (hb hby d2_70) k) ?_
              show Go p e below _ (T22.setTop (mkF m 71 #[.val (.int p0), .val (.int p1), .val (.int p2), .val (.int p3), .val (.int p4), .val (.int p5), .val (.int (4 : Int32)), .unset, .unset] [(.int (3 : Int32)), (.int (4 : Int32))]))
              refine Go.st (fun _ k => XS.icmpNo X22.here hx rfl (hb hby d2_71) rfl (flt (by decide : ¬ ((4 : Int32) < (3 : Int32)))).1 k) ?_
              show Go p e below _ (T22.setTop (mkF m 74 #[.val (.int p0), .val (.int p1), .val (.int p2), .val (.int p3), .val (.int p4), .val (.int p5), .val (.int (4 : Int32)), .unset, .unset] []))
              refine Go.st (fun _ k => XS.iloadN X22.here hx rfl (hb hby d2_74) rfl k) ?_
              show Go p e below _ (T22.setTop (mkF m 75 #[.val (.int p0), .val (.int p1), .val (.int p2), .val (.int p3), .val (.int p4), .val (.int p5), .val (.int (4 : Int32)), .unset, .unset] [(.int p2)]))
              obtain ⟨_, _, ⟨T24, L24, k24, n24⟩, -, X24, ⟨Lc24, hQ24, l24, y24, z24⟩, st24⟩ := Jvm.LawKit.callS X22 hx (y := (⟨"com/example/apportis/apportis/Utf8CharacterEndPinLaw", "cont", "(I)Z"⟩ : MethodName)) hown (mvT hZ (hw _ (List.mem_of_getElem? (i := 9) rfl))) (mvT hZ (hw _ (List.mem_of_getElem? (i := 10) rfl))) (mvT hZ (hw _ (List.mem_of_getElem? (i := 7) rfl))) (mvT hZ (hw _ (List.mem_of_getElem? (i := 11) rfl))) (by decide) (backOf (W := 0) (rm3 l Z aZ hw [] p2 h0 n0 ) hZ (hw _ (List.mem_of_getElem? (i := 11) rfl)) (hw _ (List.mem_of_getElem? (i := 7) rfl)) (by decide) (by decide)) (g := (mkF m 75 #[.val (.int p0), .val (.int p1), .val (.int p2), .val (.int p3), .val (.int p4), .val (.int p5), .val (.int (4 : Int32)), .unset, .unset] [(.int p2)])) rfl (by rw [hml]; rfl) (argsL := [(.int p2)]) (rest := []) (lenOf pd56f531e rfl) rfl (by show 2 * 0 + _ ≤ _; exact Nat.le_of_eq rfl) (hb hby d2_75) (fun _ _ => ⟨rfl, e22, (by decide : 0 + 0 ≤ _), (by decide : 0 + 0 ≤ _)⟩)
              dsimp only [Pt.U, Pt.locs, Pt.cells, Pt.slots] at X24 l24 y24 z24 st24 hQ24
              subst l24 y24 z24
              obtain ⟨rfl, N24q, e24⟩ := hQ24
              have N24 := Fr.app N22 N24q
              refine Go.st (fun _ k => st24 _ k) ?_
              show Go p e below _ (T24.setTop (mkF m 78 #[.val (.int p0), .val (.int p1), .val (.int p2), .val (.int p3), .val (.int p4), .val (.int p5), .val (.int (4 : Int32)), .unset, .unset] [(.int (fCont p2))]))
              by_cases hc25 : (fCont p2) = (0 : Int32)
              · show Go p e below _ (T24.setTop (mkF m 78 #[.val (.int p0), .val (.int p1), .val (.int p2), .val (.int p3), .val (.int p4), .val (.int p5), .val (.int (4 : Int32)), .unset, .unset] [(.int (fCont p2))]))
                refine Go.st (fun _ k => XS.ifNo X24.here hx rfl (hb hby d2_78) rfl ((if0 _ _).trans (teq hc25).2) k) ?_
                show Go p e below _ (T24.setTop (mkF m 81 #[.val (.int p0), .val (.int p1), .val (.int p2), .val (.int p3), .val (.int p4), .val (.int p5), .val (.int (4 : Int32)), .unset, .unset] []))
                refine Go.st (fun _ k => XS.iconst X24.here hx rfl (hb hby d2_81) k) ?_
                obtain ⟨fs, hr, hrun, hended, hW, hsame⟩ := X24.leave (v := some (.int (-1 : Int32))) (fun h => by rw [Bd.returns] at h; cases h)
                refine ⟨_, _, retI X24 hx Bd.returns (hb hby d2_82) hr, hrun, hended, _, _, rfl, ?_, ⟨_, rfl⟩, hW, hsame.mono (by decide) (by decide)⟩
                show Q_rm2 Z p0 p1 p2 p3 p4 p5 h0 n0 _ T24.heap _
                rw [e24]
                refine ⟨?_, N24, rfl⟩
                unfold fExp
                rw [if_neg hc1, if_neg hc2, if_neg hc10, if_pos hc20, if_neg hc21, if_neg hc23, if_pos hc25]
              · show Go p e below _ (T24.setTop (mkF m 78 #[.val (.int p0), .val (.int p1), .val (.int p2), .val (.int p3), .val (.int p4), .val (.int p5), .val (.int (4 : Int32)), .unset, .unset] [(.int (fCont p2))]))
                refine Go.st (fun _ k => XS.ifYes X24.here hx rfl (pc0 := 78) (pc' := 83) rfl (hb hby d2_78) rfl ((if0 _ _).trans (feq hc25).2) (by decide) (by decide) k) ?_
                show Go p e below _ (T24.setTop (mkF m 83 #[.val (.int p0), .val (.int p1), .val (.int p2), .val (.int p3), .val (.int p4), .val (.int p5), .val (.int (4 : Int32)), .unset, .unset] []))
                refine Go.st (fun _ k => XS.iload X24.here hx rfl (hb hby d2_83) rfl k) ?_
                refine Go.st (fun _ k => XS.iconst X24.here hx rfl (hb hby d2_85) k) ?_
                show Go p e below _ (T24.setTop (mkF m 86 #[.val (.int p0), .val (.int p1), .val (.int p2), .val (.int p3), .val (.int p4), .val (.int p5), .val (.int (4 : Int32)), .unset, .unset] [(.int (4 : Int32)), (.int (4 : Int32))]))
                refine Go.st (fun _ k => XS.icmpNo X24.here hx rfl (hb hby d2_86) rfl (teq (by decide : ((4 : Int32) = (4 : Int32)))).2 k) ?_
                show Go p e below _ (T24.setTop (mkF m 89 #[.val (.int p0), .val (.int p1), .val (.int p2), .val (.int p3), .val (.int p4), .val (.int p5), .val (.int (4 : Int32)), .unset, .unset] []))
                refine Go.st (fun _ k => XS.iloadN X24.here hx rfl (hb hby d2_89) rfl k) ?_
                show Go p e below _ (T24.setTop (mkF m 90 #[.val (.int p0), .val (.int p1), .val (.int p2), .val (.int p3), .val (.int p4), .val (.int p5), .val (.int (4 : Int32)), .unset, .unset] [(.int p3)]))
                obtain ⟨_, _, ⟨T26, L26, k26, n26⟩, -, X26, ⟨Lc26, hQ26, l26, y26, z26⟩, st26⟩ := Jvm.LawKit.callS X24 hx (y := (⟨"com/example/apportis/apportis/Utf8CharacterEndPinLaw", "cont", "(I)Z"⟩ : MethodName)) hown (mvT hZ (hw _ (List.mem_of_getElem? (i := 9) rfl))) (mvT hZ (hw _ (List.mem_of_getElem? (i := 10) rfl))) (mvT hZ (hw _ (List.mem_of_getElem? (i := 7) rfl))) (mvT hZ (hw _ (List.mem_of_getElem? (i := 11) rfl))) (by decide) (backOf (W := 0) (rm3 l Z aZ hw [] p3 h0 n0 ) hZ (hw _ (List.mem_of_getElem? (i := 11) rfl)) (hw _ (List.mem_of_getElem? (i := 7) rfl)) (by decide) (by decide)) (g := (mkF m 90 #[.val (.int p0), .val (.int p1), .val (.int p2), .val (.int p3), .val (.int p4), .val (.int p5), .val (.int (4 : Int32)), .unset, .unset] [(.int p3)])) rfl (by rw [hml]; rfl) (argsL := [(.int p3)]) (rest := []) (lenOf pd56f531e rfl) rfl (by show 2 * 0 + _ ≤ _; exact Nat.le_of_eq rfl) (hb hby d2_90) (fun _ _ => ⟨rfl, e24, (by decide : 0 + 0 ≤ _), (by decide : 0 + 0 ≤ _)⟩)
                dsimp only [Pt.U, Pt.locs, Pt.cells, Pt.slots] at X26 l26 y26 z26 st26 hQ26
                subst l26 y26 z26
                obtain ⟨rfl, N26q, e26⟩ := hQ26
                have N26 := Fr.app N24 N26q
                refine Go.st (fun _ k => st26 _ k) ?_
                show Go p e below _ (T26.setTop (mkF m 93 #[.val (.int p0), .val (.int p1), .val (.int p2), .val (.int p3), .val (.int p4), .val (.int p5), .val (.int (4 : Int32)), .unset, .unset] [(.int (fCont p3))]))
                by_cases hc27 : (fCont p3) = (0 : Int32)
                · show Go p e below _ (T26.setTop (mkF m 93 #[.val (.int p0), .val (.int p1), .val (.int p2), .val (.int p3), .val (.int p4), .val (.int p5), .val (.int (4 : Int32)), .unset, .unset] [(.int (fCont p3))]))
                  refine Go.st (fun _ k => XS.ifNo X26.here hx rfl (hb hby d2_93) rfl ((if0 _ _).trans (teq hc27).2) k) ?_
                  show Go p e below _ (T26.setTop (mkF m 96 #[.val (.int p0), .val (.int p1), .val (.int p2), .val (.int p3), .val (.int p4), .val (.int p5), .val (.int (4 : Int32)), .unset, .unset] []))
                  refine Go.st (fun _ k => XS.iconst X26.here hx rfl (hb hby d2_96) k) ?_
                  obtain ⟨fs, hr, hrun, hended, hW, hsame⟩ := X26.leave (v := some (.int (-1 : Int32))) (fun h => by rw [Bd.returns] at h; cases h)
                  refine ⟨_, _, retI X26 hx Bd.returns (hb hby d2_97) hr, hrun, hended, _, _, rfl, ?_, ⟨_, rfl⟩, hW, hsame.mono (by decide) (by decide)⟩
                  show Q_rm2 Z p0 p1 p2 p3 p4 p5 h0 n0 _ T26.heap _
                  rw [e26]
                  refine ⟨?_, N26, rfl⟩
                  unfold fExp
                  rw [if_neg hc1, if_neg hc2, if_neg hc10, if_pos hc20, if_neg hc21, if_neg hc23, if_neg hc25, if_pos hc27]
                · show Go p e below _ (T26.setTop (mkF m 93 #[.val (.int p0), .val (.int p1), .val (.int p2), .val (.int p3), .val (.int p4), .val (.int p5), .val (.int (4 : Int32)), .unset, .unset] [(.int (fCont p3))]))
                  refine Go.st (fun _ k => XS.ifYes X26.here hx rfl (pc0 := 93) (pc' := 98) rfl (hb hby d2_93) rfl ((if0 _ _).trans (feq hc27).2) (by decide) (by decide) k) ?_
                  show Go p e below _ (T26.setTop (mkF m 98 #[.val (.int p0), .val (.int p1), .val (.int p2), .val (.int p3), .val (.int p4), .val (.int p5), .val (.int (4 : Int32)), .unset, .unset] []))
                  refine Go.st (fun _ k => XS.iload X26.here hx rfl (hb hby d2_98) rfl k) ?_
                  refine Go.st (fun _ k => XS.iconst X26.here hx rfl (hb hby d2_100) k) ?_
                  show Go p e below _ (T26.setTop (mkF m 101 #[.val (.int p0), .val (.int p1), .val (.int p2), .val (.int p3), .val (.int p4), .val (.int p5), .val (.int (4 : Int32)), .unset, .unset] [(.int (2 : Int32)), (.int (4 : Int32))]))
                  refine Go.st (fun _ k => XS.icmpYes X26.here hx rfl (pc0 := 101) (pc' := 126) rfl (hb hby d2_101) rfl (feq (by decide : ¬ ((4 : Int32) = (2 : Int32)))).2 (by decide) (by decide) k) ?_
                  show Go p e below _ (T26.setTop (mkF m 126 #[.val (.int p0), .val (.int p1), .val (.int p2), .val (.int p3), .val (.int p4), .val (.int p5), .val (.int (4 : Int32)), .unset, .unset] []))
                  refine Go.st (fun _ k => XS.iload X26.here hx rfl (hb hby d2_126) rfl k) ?_
                  refine Go.st (fun _ k => XS.iconst X26.here hx rfl (hb hby d2_128) k) ?_
                  show Go p e below _ (T26.setTop (mkF m 129 #[.val (.int p0), .val (.int p1), .val (.int p2), .val (.int p3), .val (.int p4), .val (.int p5), .val (.int (4 : Int32)), .unset, .unset] [(.int (3 : Int32)), (.int (4 : Int32))]))
                  refine Go.st (fun _ k => XS.icmpYes X26.here hx rfl (pc0 := 129) (pc' := 162) rfl (hb hby d2_129) rfl (feq (by decide : ¬ ((4 : Int32) = (3 : Int32)))).2 (by decide) (by decide) k) ?_
                  show Go p e below _ (T26.setTop (mkF m 162 #[.val (.int p0), .val (.int p1), .val (.int p2), .val (.int p3), .val (.int p4), .val (.int p5), .val (.int (4 : Int32)), .unset, .unset] []))
                  refine Go.st (fun _ k => XS.iloadN X26.here hx rfl (hb hby d2_162) rfl k) ?_
                  refine Go.st (fun _ k => XS.bipush X26.here hx rfl (hb hby d2_163) k) ?_
                  show Go p e below _ (T26.setTop (mkF m 165 #[.val (.int p0), .val (.int p1), .val (.int p2), .val (.int p3), .val (.int p4), .val (.int p5), .val (.int (4 : Int32)), .unset, .unset] [(.int (7 : Int32)), (.int p0)]))
                  refine Go.st (fun _ k => XS.iand X26.here hx rfl (hb hby d2_165) rfl k) ?_
                  refine Go.st (fun _ k => XS.bipush X26.here hx rfl (hb hby d2_166) k) ?_
                  show Go p e below _ (T26.setTop (mkF m 168 #[.val (.int p0), .val (.int p1), .val (.int p2), .val (.int p3), .val (.int p4), .val (.int p5), .val (.int (4 : Int32)), .unset, .unset] [(.int (18 : Int32)), (.int (p0 &&& (7 : Int32)))]))
                  refine Go.st (fun _ k => XS.ishl X26.here hx rfl (hb hby d2_168) rfl k) ?_
                  show Go p e below _ (T26.setTop (mkF m 169 #[.val (.int p0), .val (.int p1), .val (.int p2), .val (.int p3), .val (.int p4), .val (.int p5), .val (.int (4 : Int32)), .unset, .unset] [(.int ((p0 &&& (7 : Int32)) <<< ((18 : Int32) &&& 31)))]))
                  refine Go.st (fun _ k => XS.iloadN X26.here hx rfl (hb hby d2_169) rfl k) ?_
                  refine Go.st (fun _ k => XS.bipush X26.here hx rfl (hb hby d2_170) k) ?_
                  show Go p e below _ (T26.setTop (mkF m 172 #[.val (.int p0), .val (.int p1), .val (.int p2), .val (.int p3), .val (.int p4), .val (.int p5), .val (.int (4 : Int32)), .unset, .unset] [(.int (63 : Int32)), (.int p1), (.int ((p0 &&& (7 : Int32)) <<< ((18 : Int32) &&& 31)))]))
                  refine Go.st (fun _ k => XS.iand X26.here hx rfl (hb hby d2_172) rfl k) ?_
                  refine Go.st (fun _ k => XS.bipush X26.here hx rfl (hb hby d2_173) k) ?_
                  show Go p e below _ (T26.setTop (mkF m 175 #[.val (.int p0), .val (.int p1), .val (.int p2), .val (.int p3), .val (.int p4), .val (.int p5), .val (.int (4 : Int32)), .unset, .unset] [(.int (12 : Int32)), (.int (p1 &&& (63 : Int32))), (.int ((p0 &&& (7 : Int32)) <<< ((18 : Int32) &&& 31)))]))
                  refine Go.st (fun _ k => XS.ishl X26.here hx rfl (hb hby d2_175) rfl k) ?_
                  show Go p e below _ (T26.setTop (mkF m 176 #[.val (.int p0), .val (.int p1), .val (.int p2), .val (.int p3), .val (.int p4), .val (.int p5), .val (.int (4 : Int32)), .unset, .unset] [(.int ((p1 &&& (63 : Int32)) <<< ((12 : Int32) &&& 31))), (.int ((p0 &&& (7 : Int32)) <<< ((18 : Int32) &&& 31)))]))
                  refine Go.st (fun _ k => XS.ior X26.here hx rfl (hb hby d2_176) rfl k) ?_
                  refine Go.st (fun _ k => XS.iloadN X26.here hx rfl (hb hby d2_177) rfl k) ?_
                  show Go p e below _ (T26.setTop (mkF m 178 #[.val (.int p0), .val (.int p1), .val (.int p2), .val (.int p3), .val (.int p4), .val (.int p5), .val (.int (4 : Int32)), .unset, .unset] [(.int p2), (.int (((p0 &&& (7 : Int32)) <<< ((18 : Int32) &&& 31)) ||| ((p1 &&& (63 : Int32)) <<< ((12 : Int32) &&& 31))))]))
                  refine Go.st (fun _ k => XS.bipush X26.here hx rfl (hb hby d2_178) k) ?_
                  refine Go.st (fun _ k => XS.iand X26.here hx rfl (hb hby d2_180) rfl k) ?_
                  show Go p e below _ (T26.setTop (mkF m 181 #[.val (.int p0), .val (.int p1), .val (.int p2), .val (.int p3), .val (.int p4), .val (.int p5), .val (.int (4 : Int32)), .unset, .unset] [(.int (p2 &&& (63 : Int32))), (.int (((p0 &&& (7 : Int32)) <<< ((18 : Int32) &&& 31)) ||| ((p1 &&& (63 : Int32)) <<< ((12 : Int32) &&& 31))))]))
                  refine Go.st (fun _ k => XS.bipush X26.here hx rfl (hb hby d2_181) k) ?_
                  refine Go.st (fun _ k => XS.ishl X26.here hx rfl (hb hby d2_183) rfl k) ?_
                  show Go p e below _ (T26.setTop (mkF m 184 #[.val (.int p0), .val (.int p1), .val (.int p2), .val (.int p3), .val (.int p4), .val (.int p5), .val (.int (4 : Int32)), .unset, .unset] [(.int ((p2 &&& (63 : Int32)) <<< ((6 : Int32) &&& 31))), (.int (((p0 &&& (7 : Int32)) <<< ((18 : Int32) &&& 31)) ||| ((p1 &&& (63 : Int32)) <<< ((12 : Int32) &&& 31))))]))
                  refine Go.st (fun _ k => XS.ior X26.here hx rfl (hb hby d2_184) rfl k) ?_
                  refine Go.st (fun _ k => XS.iloadN X26.here hx rfl (hb hby d2_185) rfl k) ?_
                  show Go p e below _ (T26.setTop (mkF m 186 #[.val (.int p0), .val (.int p1), .val (.int p2), .val (.int p3), .val (.int p4), .val (.int p5), .val (.int (4 : Int32)), .unset, .unset] [(.int p3), (.int ((((p0 &&& (7 : Int32)) <<< ((18 : Int32) &&& 31)) ||| ((p1 &&& (63 : Int32)) <<< ((12 : Int32) &&& 31))) ||| ((p2 &&& (63 : Int32)) <<< ((6 : Int32) &&& 31))))]))
                  refine Go.st (fun _ k => XS.bipush X26.here hx rfl (hb hby d2_186) k) ?_
                  refine Go.st (fun _ k => XS.iand X26.here hx rfl (hb hby d2_188) rfl k) ?_
                  show Go p e below _ (T26.setTop (mkF m 189 #[.val (.int p0), .val (.int p1), .val (.int p2), .val (.int p3), .val (.int p4), .val (.int p5), .val (.int (4 : Int32)), .unset, .unset] [(.int (p3 &&& (63 : Int32))), (.int ((((p0 &&& (7 : Int32)) <<< ((18 : Int32) &&& 31)) ||| ((p1 &&& (63 : Int32)) <<< ((12 : Int32) &&& 31))) ||| ((p2 &&& (63 : Int32)) <<< ((6 : Int32) &&& 31))))]))
                  refine Go.st (fun _ k => XS.ior X26.here hx rfl (hb hby d2_189) rfl k) ?_
                  refine Go.st (fun _ k => XS.istore X26.here hx rfl (hb hby d2_190) rfl (l' := #[.val (.int p0), .val (.int p1), .val (.int p2), .val (.int p3), .val (.int p4), .val (.int p5), .val (.int (4 : Int32)), .val (.int (((((p0 &&& (7 : Int32)) <<< ((18 : Int32) &&& 31)) ||| ((p1 &&& (63 : Int32)) <<< ((12 : Int32) &&& 31))) ||| ((p2 &&& (63 : Int32)) <<< ((6 : Int32) &&& 31))) ||| (p3 &&& (63 : Int32)))), .unset]) rfl k) ?_
                  show Go p e below _ (T26.setTop (mkF m 192 #[.val (.int p0), .val (.int p1), .val (.int p2), .val (.int p3), .val (.int p4), .val (.int p5), .val (.int (4 : Int32)), .val (.int (((((p0 &&& (7 : Int32)) <<< ((18 : Int32) &&& 31)) ||| ((p1 &&& (63 : Int32)) <<< ((12 : Int32) &&& 31))) ||| ((p2 &&& (63 : Int32)) <<< ((6 : Int32) &&& 31))) ||| (p3 &&& (63 : Int32)))), .unset] []))
                  refine Go.st (fun _ k => X26.ldcInt hx hown (mvT hZ (hw _ (List.mem_of_getElem? (i := 14) rfl))) (g := (mkF m 192 #[.val (.int p0), .val (.int p1), .val (.int p2), .val (.int p3), .val (.int p4), .val (.int p5), .val (.int (4 : Int32)), .val (.int (((((p0 &&& (7 : Int32)) <<< ((18 : Int32) &&& 31)) ||| ((p1 &&& (63 : Int32)) <<< ((12 : Int32) &&& 31))) ||| ((p2 &&& (63 : Int32)) <<< ((6 : Int32) &&& 31))) ||| (p3 &&& (63 : Int32)))), .unset] [])) rfl (hb hby d2_192) _ k) ?_
                  show Go p e below _ (T26.setTop (mkF m 194 #[.val (.int p0), .val (.int p1), .val (.int p2), .val (.int p3), .val (.int p4), .val (.int p5), .val (.int (4 : Int32)), .val (.int (((((p0 &&& (7 : Int32)) <<< ((18 : Int32) &&& 31)) ||| ((p1 &&& (63 : Int32)) <<< ((12 : Int32) &&& 31))) ||| ((p2 &&& (63 : Int32)) <<< ((6 : Int32) &&& 31))) ||| (p3 &&& (63 : Int32)))), .unset] [(.int (65536 : Int32))]))
                  refine Go.st (fun _ k => XS.istore X26.here hx rfl (hb hby d2_194) rfl (l' := #[.val (.int p0), .val (.int p1), .val (.int p2), .val (.int p3), .val (.int p4), .val (.int p5), .val (.int (4 : Int32)), .val (.int (((((p0 &&& (7 : Int32)) <<< ((18 : Int32) &&& 31)) ||| ((p1 &&& (63 : Int32)) <<< ((12 : Int32) &&& 31))) ||| ((p2 &&& (63 : Int32)) <<< ((6 : Int32) &&& 31))) ||| (p3 &&& (63 : Int32)))), .val (.int (65536 : Int32))]) rfl k) ?_
                  show Go p e below _ (T26.setTop (mkF m 196 #[.val (.int p0), .val (.int p1), .val (.int p2), .val (.int p3), .val (.int p4), .val (.int p5), .val (.int (4 : Int32)), .val (.int (((((p0 &&& (7 : Int32)) <<< ((18 : Int32) &&& 31)) ||| ((p1 &&& (63 : Int32)) <<< ((12 : Int32) &&& 31))) ||| ((p2 &&& (63 : Int32)) <<< ((6 : Int32) &&& 31))) ||| (p3 &&& (63 : Int32)))), .val (.int (65536 : Int32))] []))
                  refine Go.st (fun _ k => XS.iload X26.here hx rfl (hb hby d2_196) rfl k) ?_
                  refine Go.st (fun _ k => XS.iload X26.here hx rfl (hb hby d2_198) rfl k) ?_
                  show Go p e below _ (T26.setTop (mkF m 200 #[.val (.int p0), .val (.int p1), .val (.int p2), .val (.int p3), .val (.int p4), .val (.int p5), .val (.int (4 : Int32)), .val (.int (((((p0 &&& (7 : Int32)) <<< ((18 : Int32) &&& 31)) ||| ((p1 &&& (63 : Int32)) <<< ((12 : Int32) &&& 31))) ||| ((p2 &&& (63 : Int32)) <<< ((6 : Int32) &&& 31))) ||| (p3 &&& (63 : Int32)))), .val (.int (65536 : Int32))] [(.int (65536 : Int32)), (.int (((((p0 &&& (7 : Int32)) <<< ((18 : Int32) &&& 31)) ||| ((p1 &&& (63 : Int32)) <<< ((12 : Int32) &&& 31))) ||| ((p2 &&& (63 : Int32)) <<< ((6 : Int32) &&& 31))) ||| (p3 &&& (63 : Int32))))]))
                  by_cases hc28 : (((((p0 &&& (7 : Int32)) <<< ((18 : Int32) &&& 31)) ||| ((p1 &&& (63 : Int32)) <<< ((12 : Int32) &&& 31))) ||| ((p2 &&& (63 : Int32)) <<< ((6 : Int32) &&& 31))) ||| (p3 &&& (63 : Int32))) < (65536 : Int32)
                  · show Go p e below _ (T26.setTop (mkF m 200 #[.val (.int p0), .val (.int p1), .val (.int p2), .val (.int p3), .val (.int p4), .val (.int p5), .val (.int (4 : Int32)), .val (.int (((((p0 &&& (7 : Int32)) <<< ((18 : Int32) &&& 31)) ||| ((p1 &&& (63 : Int32)) <<< ((12 : Int32) &&& 31))) ||| ((p2 &&& (63 : Int32)) <<< ((6 : Int32) &&& 31))) ||| (p3 &&& (63 : Int32)))), .val (.int (65536 : Int32))] [(.int (65536 : Int32)), (.int (((((p0 &&& (7 : Int32)) <<< ((18 : Int32) &&& 31)) ||| ((p1 &&& (63 : Int32)) <<< ((12 : Int32) &&& 31))) ||| ((p2 &&& (63 : Int32)) <<< ((6 : Int32) &&& 31))) ||| (p3 &&& (63 : Int32))))]))
                    refine Go.st (fun _ k => XS.icmpYes X26.here hx rfl (pc0 := 200) (pc' := 224) rfl (hb hby d2_200) rfl (tlt hc28).1 (by decide) (by decide) k) ?_
                    show Go p e below _ (T26.setTop (mkF m 224 #[.val (.int p0), .val (.int p1), .val (.int p2), .val (.int p3), .val (.int p4), .val (.int p5), .val (.int (4 : Int32)), .val (.int (((((p0 &&& (7 : Int32)) <<< ((18 : Int32) &&& 31)) ||| ((p1 &&& (63 : Int32)) <<< ((12 : Int32) &&& 31))) ||| ((p2 &&& (63 : Int32)) <<< ((6 : Int32) &&& 31))) ||| (p3 &&& (63 : Int32)))), .val (.int (65536 : Int32))] []))
                    refine Go.st (fun _ k => XS.iconst X26.here hx rfl (hb hby d2_224) k) ?_
                    obtain ⟨fs, hr, hrun, hended, hW, hsame⟩ := X26.leave (v := some (.int (-1 : Int32))) (fun h => by rw [Bd.returns] at h; cases h)
                    refine ⟨_, _, retI X26 hx Bd.returns (hb hby d2_225) hr, hrun, hended, _, _, rfl, ?_, ⟨_, rfl⟩, hW, hsame.mono (by decide) (by decide)⟩
                    show Q_rm2 Z p0 p1 p2 p3 p4 p5 h0 n0 _ T26.heap _
                    rw [e26]
                    refine ⟨?_, N26, rfl⟩
                    unfold fExp
                    rw [if_neg hc1, if_neg hc2, if_neg hc10, if_pos hc20, if_neg hc21, if_neg hc23, if_neg hc25, if_neg hc27, if_pos hc28]
                  · show Go p e below _ (T26.setTop (mkF m 200 #[.val (.int p0), .val (.int p1), .val (.int p2), .val (.int p3), .val (.int p4), .val (.int p5), .val (.int (4 : Int32)), .val (.int (((((p0 &&& (7 : Int32)) <<< ((18 : Int32) &&& 31)) ||| ((p1 &&& (63 : Int32)) <<< ((12 : Int32) &&& 31))) ||| ((p2 &&& (63 : Int32)) <<< ((6 : Int32) &&& 31))) ||| (p3 &&& (63 : Int32)))), .val (.int (65536 : Int32))] [(.int (65536 : Int32)), (.int (((((p0 &&& (7 : Int32)) <<< ((18 : Int32) &&& 31)) ||| ((p1 &&& (63 : Int32)) <<< ((12 : Int32) &&& 31))) ||| ((p2 &&& (63 : Int32)) <<< ((6 : Int32) &&& 31))) ||| (p3 &&& (63 : Int32))))]))
                    refine Go.st (fun _ k => XS.icmpNo X26.here hx rfl (hb hby d2_200) rfl (flt hc28).1 k) ?_
                    show Go p e below _ (T26.setTop (mkF m 203 #[.val (.int p0), .val (.int p1), .val (.int p2), .val (.int p3), .val (.int p4), .val (.int p5), .val (.int (4 : Int32)), .val (.int (((((p0 &&& (7 : Int32)) <<< ((18 : Int32) &&& 31)) ||| ((p1 &&& (63 : Int32)) <<< ((12 : Int32) &&& 31))) ||| ((p2 &&& (63 : Int32)) <<< ((6 : Int32) &&& 31))) ||| (p3 &&& (63 : Int32)))), .val (.int (65536 : Int32))] []))
                    refine Go.st (fun _ k => XS.iload X26.here hx rfl (hb hby d2_203) rfl k) ?_
                    show Go p e below _ (T26.setTop (mkF m 205 #[.val (.int p0), .val (.int p1), .val (.int p2), .val (.int p3), .val (.int p4), .val (.int p5), .val (.int (4 : Int32)), .val (.int (((((p0 &&& (7 : Int32)) <<< ((18 : Int32) &&& 31)) ||| ((p1 &&& (63 : Int32)) <<< ((12 : Int32) &&& 31))) ||| ((p2 &&& (63 : Int32)) <<< ((6 : Int32) &&& 31))) ||| (p3 &&& (63 : Int32)))), .val (.int (65536 : Int32))] [(.int (((((p0 &&& (7 : Int32)) <<< ((18 : Int32) &&& 31)) ||| ((p1 &&& (63 : Int32)) <<< ((12 : Int32) &&& 31))) ||| ((p2 &&& (63 : Int32)) <<< ((6 : Int32) &&& 31))) ||| (p3 &&& (63 : Int32))))]))
                    refine Go.st (fun _ k => X26.ldcInt hx hown (mvT hZ (hw _ (List.mem_of_getElem? (i := 12) rfl))) (g := (mkF m 205 #[.val (.int p0), .val (.int p1), .val (.int p2), .val (.int p3), .val (.int p4), .val (.int p5), .val (.int (4 : Int32)), .val (.int (((((p0 &&& (7 : Int32)) <<< ((18 : Int32) &&& 31)) ||| ((p1 &&& (63 : Int32)) <<< ((12 : Int32) &&& 31))) ||| ((p2 &&& (63 : Int32)) <<< ((6 : Int32) &&& 31))) ||| (p3 &&& (63 : Int32)))), .val (.int (65536 : Int32))] [(.int (((((p0 &&& (7 : Int32)) <<< ((18 : Int32) &&& 31)) ||| ((p1 &&& (63 : Int32)) <<< ((12 : Int32) &&& 31))) ||| ((p2 &&& (63 : Int32)) <<< ((6 : Int32) &&& 31))) ||| (p3 &&& (63 : Int32))))])) rfl (hb hby d2_205) _ k) ?_
                    show Go p e below _ (T26.setTop (mkF m 207 #[.val (.int p0), .val (.int p1), .val (.int p2), .val (.int p3), .val (.int p4), .val (.int p5), .val (.int (4 : Int32)), .val (.int (((((p0 &&& (7 : Int32)) <<< ((18 : Int32) &&& 31)) ||| ((p1 &&& (63 : Int32)) <<< ((12 : Int32) &&& 31))) ||| ((p2 &&& (63 : Int32)) <<< ((6 : Int32) &&& 31))) ||| (p3 &&& (63 : Int32)))), .val (.int (65536 : Int32))] [(.int (1114111 : Int32)), (.int (((((p0 &&& (7 : Int32)) <<< ((18 : Int32) &&& 31)) ||| ((p1 &&& (63 : Int32)) <<< ((12 : Int32) &&& 31))) ||| ((p2 &&& (63 : Int32)) <<< ((6 : Int32) &&& 31))) ||| (p3 &&& (63 : Int32))))]))
                    by_cases hc29 : (1114111 : Int32) < (((((p0 &&& (7 : Int32)) <<< ((18 : Int32) &&& 31)) ||| ((p1 &&& (63 : Int32)) <<< ((12 : Int32) &&& 31))) ||| ((p2 &&& (63 : Int32)) <<< ((6 : Int32) &&& 31))) ||| (p3 &&& (63 : Int32)))
                    · show Go p e below _ (T26.setTop (mkF m 207 #[.val (.int p0), .val (.int p1), .val (.int p2), .val (.int p3), .val (.int p4), .val (.int p5), .val (.int (4 : Int32)), .val (.int (((((p0 &&& (7 : Int32)) <<< ((18 : Int32) &&& 31)) ||| ((p1 &&& (63 : Int32)) <<< ((12 : Int32) &&& 31))) ||| ((p2 &&& (63 : Int32)) <<< ((6 : Int32) &&& 31))) ||| (p3 &&& (63 : Int32)))), .val (.int (65536 : Int32))] [(.int (1114111 : Int32)), (.int (((((p0 &&& (7 : Int32)) <<< ((18 : Int32) &&& 31)) ||| ((p1 &&& (63 : Int32)) <<< ((12 : Int32) &&& 31))) ||| ((p2 &&& (63 : Int32)) <<< ((6 : Int32) &&& 31))) ||| (p3 &&& (63 : Int32))))]))
                      refine Go.st (fun _ k => XS.icmpYes X26.here hx rfl (pc0 := 207) (pc' := 224) rfl (hb hby d2_207) rfl (tlt hc29).2.2.1 (by decide) (by decide) k) ?_
                      show Go p e below _ (T26.setTop (mkF m 224 #[.val (.int p0), .val (.int p1), .val (.int p2), .val (.int p3), .val (.int p4), .val (.int p5), .val (.int (4 : Int32)), .val (.int (((((p0 &&& (7 : Int32)) <<< ((18 : Int32) &&& 31)) ||| ((p1 &&& (63 : Int32)) <<< ((12 : Int32) &&& 31))) ||| ((p2 &&& (63 : Int32)) <<< ((6 : Int32) &&& 31))) ||| (p3 &&& (63 : Int32)))), .val (.int (65536 : Int32))] []))
                      refine Go.st (fun _ k => XS.iconst X26.here hx rfl (hb hby d2_224) k) ?_
                      obtain ⟨fs, hr, hrun, hended, hW, hsame⟩ := X26.leave (v := some (.int (-1 : Int32))) (fun h => by rw [Bd.returns] at h; cases h)
                      refine ⟨_, _, retI X26 hx Bd.returns (hb hby d2_225) hr, hrun, hended, _, _, rfl, ?_, ⟨_, rfl⟩, hW, hsame.mono (by decide) (by decide)⟩
                      show Q_rm2 Z p0 p1 p2 p3 p4 p5 h0 n0 _ T26.heap _
                      rw [e26]
                      refine ⟨?_, N26, rfl⟩
                      unfold fExp
                      rw [if_neg hc1, if_neg hc2, if_neg hc10, if_pos hc20, if_neg hc21, if_neg hc23, if_neg hc25, if_neg hc27, if_neg hc28, if_pos hc29]
                    · show Go p e below _ (T26.setTop (mkF m 207 #[.val (.int p0), .val (.int p1), .val (.int p2), .val (.int p3), .val (.int p4), .val (.int p5), .val (.int (4 : Int32)), .val (.int (((((p0 &&& (7 : Int32)) <<< ((18 : Int32) &&& 31)) ||| ((p1 &&& (63 : Int32)) <<< ((12 : Int32) &&& 31))) ||| ((p2 &&& (63 : Int32)) <<< ((6 : Int32) &&& 31))) ||| (p3 &&& (63 : Int32)))), .val (.int (65536 : Int32))] [(.int (1114111 : Int32)), (.int (((((p0 &&& (7 : Int32)) <<< ((18 : Int32) &&& 31)) ||| ((p1 &&& (63 : Int32)) <<< ((12 : Int32) &&& 31))) ||| ((p2 &&& (63 : Int32)) <<< ((6 : Int32) &&& 31))) ||| (p3 &&& (63 : Int32))))]))
                      refine Go.st (fun _ k => XS.icmpNo X26.here hx rfl (hb hby d2_207) rfl (flt hc29).2.2.1 k) ?_
                      show Go p e below _ (T26.setTop (mkF m 210 #[.val (.int p0), .val (.int p1), .val (.int p2), .val (.int p3), .val (.int p4), .val (.int p5), .val (.int (4 : Int32)), .val (.int (((((p0 &&& (7 : Int32)) <<< ((18 : Int32) &&& 31)) ||| ((p1 &&& (63 : Int32)) <<< ((12 : Int32) &&& 31))) ||| ((p2 &&& (63 : Int32)) <<< ((6 : Int32) &&& 31))) ||| (p3 &&& (63 : Int32)))), .val (.int (65536 : Int32))] []))
                      refine Go.st (fun _ k => XS.iload X26.here hx rfl (hb hby d2_210) rfl k) ?_
                      show Go p e below _ (T26.setTop (mkF m 212 #[.val (.int p0), .val (.int p1), .val (.int p2), .val (.int p3), .val (.int p4), .val (.int p5), .val (.int (4 : Int32)), .val (.int (((((p0 &&& (7 : Int32)) <<< ((18 : Int32) &&& 31)) ||| ((p1 &&& (63 : Int32)) <<< ((12 : Int32) &&& 31))) ||| ((p2 &&& (63 : Int32)) <<< ((6 : Int32) &&& 31))) ||| (p3 &&& (63 : Int32)))), .val (.int (65536 : Int32))] [(.int (((((p0 &&& (7 : Int32)) <<< ((18 : Int32) &&& 31)) ||| ((p1 &&& (63 : Int32)) <<< ((12 : Int32) &&& 31))) ||| ((p2 &&& (63 : Int32)) <<< ((6 : Int32) &&& 31))) ||| (p3 &&& (63 : Int32))))]))
                      refine Go.st (fun _ k => X26.ldcInt hx hown (mvT hZ (hw _ (List.mem_of_getElem? (i := 13) rfl))) (g := (mkF m 212 #[.val (.int p0), .val (.int p1), .val (.int p2), .val (.int p3), .val (.int p4), .val (.int p5), .val (.int (4 : Int32)), .val (.int (((((p0 &&& (7 : Int32)) <<< ((18 : Int32) &&& 31)) ||| ((p1 &&& (63 : Int32)) <<< ((12 : Int32) &&& 31))) ||| ((p2 &&& (63 : Int32)) <<< ((6 : Int32) &&& 31))) ||| (p3 &&& (63 : Int32)))), .val (.int (65536 : Int32))] [(.int (((((p0 &&& (7 : Int32)) <<< ((18 : Int32) &&& 31)) ||| ((p1 &&& (63 : Int32)) <<< ((12 : Int32) &&& 31))) ||| ((p2 &&& (63 : Int32)) <<< ((6 : Int32) &&& 31))) ||| (p3 &&& (63 : Int32))))])) rfl (hb hby d2_212) _ k) ?_
                      show Go p e below _ (T26.setTop (mkF m 214 #[.val (.int p0), .val (.int p1), .val (.int p2), .val (.int p3), .val (.int p4), .val (.int p5), .val (.int (4 : Int32)), .val (.int (((((p0 &&& (7 : Int32)) <<< ((18 : Int32) &&& 31)) ||| ((p1 &&& (63 : Int32)) <<< ((12 : Int32) &&& 31))) ||| ((p2 &&& (63 : Int32)) <<< ((6 : Int32) &&& 31))) ||| (p3 &&& (63 : Int32)))), .val (.int (65536 : Int32))] [(.int (55296 : Int32)), (.int (((((p0 &&& (7 : Int32)) <<< ((18 : Int32) &&& 31)) ||| ((p1 &&& (63 : Int32)) <<< ((12 : Int32) &&& 31))) ||| ((p2 &&& (63 : Int32)) <<< ((6 : Int32) &&& 31))) ||| (p3 &&& (63 : Int32))))]))
                      by_cases hc30 : (((((p0 &&& (7 : Int32)) <<< ((18 : Int32) &&& 31)) ||| ((p1 &&& (63 : Int32)) <<< ((12 : Int32) &&& 31))) ||| ((p2 &&& (63 : Int32)) <<< ((6 : Int32) &&& 31))) ||| (p3 &&& (63 : Int32))) < (55296 : Int32)
                      · show Go p e below _ (T26.setTop (mkF m 214 #[.val (.int p0), .val (.int p1), .val (.int p2), .val (.int p3), .val (.int p4), .val (.int p5), .val (.int (4 : Int32)), .val (.int (((((p0 &&& (7 : Int32)) <<< ((18 : Int32) &&& 31)) ||| ((p1 &&& (63 : Int32)) <<< ((12 : Int32) &&& 31))) ||| ((p2 &&& (63 : Int32)) <<< ((6 : Int32) &&& 31))) ||| (p3 &&& (63 : Int32)))), .val (.int (65536 : Int32))] [(.int (55296 : Int32)), (.int (((((p0 &&& (7 : Int32)) <<< ((18 : Int32) &&& 31)) ||| ((p1 &&& (63 : Int32)) <<< ((12 : Int32) &&& 31))) ||| ((p2 &&& (63 : Int32)) <<< ((6 : Int32) &&& 31))) ||| (p3 &&& (63 : Int32))))]))
                        refine Go.st (fun _ k => XS.icmpYes X26.here hx rfl (pc0 := 214) (pc' := 226) rfl (hb hby d2_214) rfl (tlt hc30).1 (by decide) (by decide) k) ?_
                        show Go p e below _ (T26.setTop (mkF m 226 #[.val (.int p0), .val (.int p1), .val (.int p2), .val (.int p3), .val (.int p4), .val (.int p5), .val (.int (4 : Int32)), .val (.int (((((p0 &&& (7 : Int32)) <<< ((18 : Int32) &&& 31)) ||| ((p1 &&& (63 : Int32)) <<< ((12 : Int32) &&& 31))) ||| ((p2 &&& (63 : Int32)) <<< ((6 : Int32) &&& 31))) ||| (p3 &&& (63 : Int32)))), .val (.int (65536 : Int32))] []))
                        refine Go.st (fun _ k => XS.iload X26.here hx rfl (hb hby d2_226) rfl k) ?_
                        refine Go.st (fun _ k => XS.iload X26.here hx rfl (hb hby d2_228) rfl k) ?_
                        show Go p e below _ (T26.setTop (mkF m 230 #[.val (.int p0), .val (.int p1), .val (.int p2), .val (.int p3), .val (.int p4), .val (.int p5), .val (.int (4 : Int32)), .val (.int (((((p0 &&& (7 : Int32)) <<< ((18 : Int32) &&& 31)) ||| ((p1 &&& (63 : Int32)) <<< ((12 : Int32) &&& 31))) ||| ((p2 &&& (63 : Int32)) <<< ((6 : Int32) &&& 31))) ||| (p3 &&& (63 : Int32)))), .val (.int (65536 : Int32))] [(.int (4 : Int32)), (.int p5)]))
                        refine Go.st (fun _ k => XS.iadd X26.here hx rfl (hb hby d2_230) rfl k) ?_
                        obtain ⟨fs, hr, hrun, hended, hW, hsame⟩ := X26.leave (v := some (.int (p5 + (4 : Int32)))) (fun h => by rw [Bd.returns] at h; cases h)
                        refine ⟨_, _, retI X26 hx Bd.returns (hb hby d2_231) hr, hrun, hended, _, _, rfl, ?_, ⟨_, rfl⟩, hW, hsame.mono (by decide) (by decide)⟩
                        show Q_rm2 Z p0 p1 p2 p3 p4 p5 h0 n0 _ T26.heap _
                        rw [e26]
                        refine ⟨?_, N26, rfl⟩
                        unfold fExp
                        rw [if_neg hc1, if_neg hc2, if_neg hc10, if_pos hc20, if_neg hc21, if_neg hc23, if_neg hc25, if_neg hc27, if_neg hc28, if_neg hc29, if_pos hc30]
                      · show Go p e below _ (T26.setTop (mkF m 214 #[.val (.int p0), .val (.int p1), .val (.int p2), .val (.int p3), .val (.int p4), .val (.int p5), .val (.int (4 : Int32)), .val (.int (((((p0 &&& (7 : Int32)) <<< ((18 : Int32) &&& 31)) ||| ((p1 &&& (63 : Int32)) <<< ((12 : Int32) &&& 31))) ||| ((p2 &&& (63 : Int32)) <<< ((6 : Int32) &&& 31))) ||| (p3 &&& (63 : Int32)))), .val (.int (65536 : Int32))] [(.int (55296 : Int32)), (.int (((((p0 &&& (7 : Int32)) <<< ((18 : Int32) &&& 31)) ||| ((p1 &&& (63 : Int32)) <<< ((12 : Int32) &&& 31))) ||| ((p2 &&& (63 : Int32)) <<< ((6 : Int32) &&& 31))) ||| (p3 &&& (63 : Int32))))]))
                        refine Go.st (fun _ k => XS.icmpNo X26.here hx rfl (hb hby d2_214) rfl (flt hc30).1 k) ?_
                        show Go p e below _ (T26.setTop (mkF m 217 #[.val (.int p0), .val (.int p1), .val (.int p2), .val (.int p3), .val (.int p4), .val (.int p5), .val (.int (4 : Int32)), .val (.int (((((p0 &&& (7 : Int32)) <<< ((18 : Int32) &&& 31)) ||| ((p1 &&& (63 : Int32)) <<< ((12 : Int32) &&& 31))) ||| ((p2 &&& (63 : Int32)) <<< ((6 : Int32) &&& 31))) ||| (p3 &&& (63 : Int32)))), .val (.int (65536 : Int32))] []))
                        refine Go.st (fun _ k => XS.iload X26.here hx rfl (hb hby d2_217) rfl k) ?_
                        show Go p e below _ (T26.setTop (mkF m 219 #[.val (.int p0), .val (.int p1), .val (.int p2), .val (.int p3), .val (.int p4), .val (.int p5), .val (.int (4 : Int32)), .val (.int (((((p0 &&& (7 : Int32)) <<< ((18 : Int32) &&& 31)) ||| ((p1 &&& (63 : Int32)) <<< ((12 : Int32) &&& 31))) ||| ((p2 &&& (63 : Int32)) <<< ((6 : Int32) &&& 31))) ||| (p3 &&& (63 : Int32)))), .val (.int (65536 : Int32))] [(.int (((((p0 &&& (7 : Int32)) <<< ((18 : Int32) &&& 31)) ||| ((p1 &&& (63 : Int32)) <<< ((12 : Int32) &&& 31))) ||| ((p2 &&& (63 : Int32)) <<< ((6 : Int32) &&& 31))) ||| (p3 &&& (63 : Int32))))]))
                        refine Go.st (fun _ k => X26.ldcInt hx hown (mvT hZ (hw _ (List.mem_of_getElem? (i := 15) rfl))) (g := (mkF m 219 #[.val (.int p0), .val (.int p1), .val (.int p2), .val (.int p3), .val (.int p4), .val (.int p5), .val (.int (4 : Int32)), .val (.int (((((p0 &&& (7 : Int32)) <<< ((18 : Int32) &&& 31)) ||| ((p1 &&& (63 : Int32)) <<< ((12 : Int32) &&& 31))) ||| ((p2 &&& (63 : Int32)) <<< ((6 : Int32) &&& 31))) ||| (p3 &&& (63 : Int32)))), .val (.int (65536 : Int32))] [(.int (((((p0 &&& (7 : Int32)) <<< ((18 : Int32) &&& 31)) ||| ((p1 &&& (63 : Int32)) <<< ((12 : Int32) &&& 31))) ||| ((p2 &&& (63 : Int32)) <<< ((6 : Int32) &&& 31))) ||| (p3 &&& (63 : Int32))))])) rfl (hb hby d2_219) _ k) ?_
                        show Go p e below _ (T26.setTop (mkF m 221 #[.val (.int p0), .val (.int p1), .val (.int p2), .val (.int p3), .val (.int p4), .val (.int p5), .val (.int (4 : Int32)), .val (.int (((((p0 &&& (7 : Int32)) <<< ((18 : Int32) &&& 31)) ||| ((p1 &&& (63 : Int32)) <<< ((12 : Int32) &&& 31))) ||| ((p2 &&& (63 : Int32)) <<< ((6 : Int32) &&& 31))) ||| (p3 &&& (63 : Int32)))), .val (.int (65536 : Int32))] [(.int (57343 : Int32)), (.int (((((p0 &&& (7 : Int32)) <<< ((18 : Int32) &&& 31)) ||| ((p1 &&& (63 : Int32)) <<< ((12 : Int32) &&& 31))) ||| ((p2 &&& (63 : Int32)) <<< ((6 : Int32) &&& 31))) ||| (p3 &&& (63 : Int32))))]))
                        by_cases hc31 : (57343 : Int32) < (((((p0 &&& (7 : Int32)) <<< ((18 : Int32) &&& 31)) ||| ((p1 &&& (63 : Int32)) <<< ((12 : Int32) &&& 31))) ||| ((p2 &&& (63 : Int32)) <<< ((6 : Int32) &&& 31))) ||| (p3 &&& (63 : Int32)))
                        · show Go p e below _ (T26.setTop (mkF m 221 #[.val (.int p0), .val (.int p1), .val (.int p2), .val (.int p3), .val (.int p4), .val (.int p5), .val (.int (4 : Int32)), .val (.int (((((p0 &&& (7 : Int32)) <<< ((18 : Int32) &&& 31)) ||| ((p1 &&& (63 : Int32)) <<< ((12 : Int32) &&& 31))) ||| ((p2 &&& (63 : Int32)) <<< ((6 : Int32) &&& 31))) ||| (p3 &&& (63 : Int32)))), .val (.int (65536 : Int32))] [(.int (57343 : Int32)), (.int (((((p0 &&& (7 : Int32)) <<< ((18 : Int32) &&& 31)) ||| ((p1 &&& (63 : Int32)) <<< ((12 : Int32) &&& 31))) ||| ((p2 &&& (63 : Int32)) <<< ((6 : Int32) &&& 31))) ||| (p3 &&& (63 : Int32))))]))
                          refine Go.st (fun _ k => XS.icmpYes X26.here hx rfl (pc0 := 221) (pc' := 226) rfl (hb hby d2_221) rfl (tlt hc31).2.2.1 (by decide) (by decide) k) ?_
                          show Go p e below _ (T26.setTop (mkF m 226 #[.val (.int p0), .val (.int p1), .val (.int p2), .val (.int p3), .val (.int p4), .val (.int p5), .val (.int (4 : Int32)), .val (.int (((((p0 &&& (7 : Int32)) <<< ((18 : Int32) &&& 31)) ||| ((p1 &&& (63 : Int32)) <<< ((12 : Int32) &&& 31))) ||| ((p2 &&& (63 : Int32)) <<< ((6 : Int32) &&& 31))) ||| (p3 &&& (63 : Int32)))), .val (.int (65536 : Int32))] []))
                          refine Go.st (fun _ k => XS.iload X26.here hx rfl (hb hby d2_226) rfl k) ?_
                          refine Go.st (fun _ k => XS.iload X26.here hx rfl (hb hby d2_228) rfl k) ?_
                          show Go p e below _ (T26.setTop (mkF m 230 #[.val (.int p0), .val (.int p1), .val (.int p2), .val (.int p3), .val (.int p4), .val (.int p5), .val (.int (4 : Int32)), .val (.int (((((p0 &&& (7 : Int32)) <<< ((18 : Int32) &&& 31)) ||| ((p1 &&& (63 : Int32)) <<< ((12 : Int32) &&& 31))) ||| ((p2 &&& (63 : Int32)) <<< ((6 : Int32) &&& 31))) ||| (p3 &&& (63 : Int32)))), .val (.int (65536 : Int32))] [(.int (4 : Int32)), (.int p5)]))
                          refine Go.st (fun _ k => XS.iadd X26.here hx rfl (hb hby d2_230) rfl k) ?_
                          obtain ⟨fs, hr, hrun, hended, hW, hsame⟩ := X26.leave (v := some (.int (p5 + (4 : Int32)))) (fun h => by rw [Bd.returns] at h; cases h)
                          refine ⟨_, _, retI X26 hx Bd.returns (hb hby d2_231) hr, hrun, hended, _, _, rfl, ?_, ⟨_, rfl⟩, hW, hsame.mono (by decide) (by decide)⟩
                          show Q_rm2 Z p0 p1 p2 p3 p4 p5 h0 n0 _ T26.heap _
                          rw [e26]
                          refine ⟨?_, N26, rfl⟩
                          unfold fExp
                          rw [if_neg hc1, if_neg hc2, if_neg hc10, if_pos hc20, if_neg hc21, if_neg hc23, if_neg hc25, if_neg hc27, if_neg hc28, if_neg hc29, if_neg hc30, if_pos hc31]
                        · show Go p e below _ (T26.setTop (mkF m 221 #[.val (.int p0), .val (.int p1), .val (.int p2), .val (.int p3), .val (.int p4), .val (.int p5), .val (.int (4 : Int32)), .val (.int (((((p0 &&& (7 : Int32)) <<< ((18 : Int32) &&& 31)) ||| ((p1 &&& (63 : Int32)) <<< ((12 : Int32) &&& 31))) ||| ((p2 &&& (63 : Int32)) <<< ((6 : Int32) &&& 31))) ||| (p3 &&& (63 : Int32)))), .val (.int (65536 : Int32))] [(.int (57343 : Int32)), (.int (((((p0 &&& (7 : Int32)) <<< ((18 : Int32) &&& 31)) ||| ((p1 &&& (63 : Int32)) <<< ((12 : Int32) &&& 31))) ||| ((p2 &&& (63 : Int32)) <<< ((6 : Int32) &&& 31))) ||| (p3 &&& (63 : Int32))))]))
                          refine Go.st (fun _ k => XS.icmpNo X26.here hx rfl (hb hby d2_221) rfl (flt hc31).2.2.1 k) ?_
                          show Go p e below _ (T26.setTop (mkF m 224 #[.val (.int p0), .val (.int p1), .val (.int p2), .val (.int p3), .val (.int p4), .val (.int p5), .val (.int (4 : Int32)), .val (.int (((((p0 &&& (7 : Int32)) <<< ((18 : Int32) &&& 31)) ||| ((p1 &&& (63 : Int32)) <<< ((12 : Int32) &&& 31))) ||| ((p2 &&& (63 : Int32)) <<< ((6 : Int32) &&& 31))) ||| (p3 &&& (63 : Int32)))), .val (.int (65536 : Int32))] []))
                          refine Go.st (fun _ k => XS.iconst X26.here hx rfl (hb hby d2_224) k) ?_
                          obtain ⟨fs, hr, hrun, hended, hW, hsame⟩ := X26.leave (v := some (.int (-1 : Int32))) (fun h => by rw [Bd.returns] at h; cases h)
                          refine ⟨_, _, retI X26 hx Bd.returns (hb hby d2_225) hr, hrun, hended, _, _, rfl, ?_, ⟨_, rfl⟩, hW, hsame.mono (by decide) (by decide)⟩
                          show Q_rm2 Z p0 p1 p2 p3 p4 p5 h0 n0 _ T26.heap _
                          rw [e26]
                          refine ⟨?_, N26, rfl⟩
                          unfold fExp
                          rw [if_neg hc1, if_neg hc2, if_neg hc10, if_pos hc20, if_neg hc21, if_neg hc23, if_neg hc25, if_neg hc27, if_neg hc28, if_neg hc29, if_neg hc30, if_neg hc31]
        · show Go p e below _ (s₁.setTop (mkF m 39 #[.val (.int p0), .val (.int p1), .val (.int p2), .val (.int p3), .val (.int p4), .val (.int p5), .unset, .unset, .unset] [(.int (248 : Int32)), (.int p0)]))
          refine Go.st (fun _ k => XS.icmpYes X0.here hx rfl (pc0 := 39) (pc' := 48) rfl (hb hby d2_39) rfl (flt hc20).2.1 (by decide) (by decide) k) ?_
          show Go p e below _ (s₁.setTop (mkF m 48 #[.val (.int p0), .val (.int p1), .val (.int p2), .val (.int p3), .val (.int p4), .val (.int p5), .unset, .unset, .unset] []))
          refine Go.st (fun _ k => XS.iconst X0.here hx rfl (hb hby d2_48) k) ?_
          obtain ⟨fs, hr, hrun, hended, hW, hsame⟩ := X0.leave (v := some (.int (-1 : Int32))) (fun h => by rw [Bd.returns] at h; cases h)
          refine ⟨_, _, retI X0 hx Bd.returns (hb hby d2_49) hr, hrun, hended, _, _, rfl, ?_, ⟨_, rfl⟩, hW, hsame.mono (by decide) (by decide)⟩
          show Q_rm2 Z p0 p1 p2 p3 p4 p5 h0 n0 _ s₁.heap _
          rw [e0]
          refine ⟨?_, N0, rfl⟩
          unfold fExp
          rw [if_neg hc1, if_neg hc2, if_neg hc10, if_neg hc20]
theorem own_natL {x : Int64} (h : 0 ≤ x.toInt) : x.toInt = (x.toBitVec.toNat : Int) := by
  have e : x.toInt = x.toBitVec.toInt := rfl
  have hb := x.toBitVec.isLt
  rw [e, BitVec.toInt_eq_toNat_cond] at h ⊢
  split
  · rfl
  · rename_i hc
    rw [if_neg hc] at h
    omega
theorem own_natI {x : Int32} (h : 0 ≤ x.toInt) : x.toInt = (x.toBitVec.toNat : Int) := by
  have e : x.toInt = x.toBitVec.toInt := rfl
  have hb := x.toBitVec.isLt
  rw [e, BitVec.toInt_eq_toNat_cond] at h ⊢
  split
  · rfl
  · rename_i hc
    rw [if_neg hc] at h
    omega
theorem own_orN {a b k : Nat} (hm : a % 2 ^ k = 0) (hb : b < 2 ^ k) : a ||| b = a + b := by
  have e : a = 2 ^ k * (a / 2 ^ k) := by
    have := Nat.div_add_mod a (2 ^ k)
    omega
  rw [e]
  exact (Nat.two_pow_add_eq_or_of_lt hb _).symm
theorem own_orL {a b : Int64} (k : Nat) (ha : 0 ≤ a.toInt) (hm : a.toInt % ((2 ^ k : Nat) : Int) = 0) (hb : 0 ≤ b.toInt) (hb2 : b.toInt < ((2 ^ k : Nat) : Int)) (hs : a.toInt + b.toInt < 2 ^ 63) : (a ||| b).toInt = a.toInt + b.toInt := by
  have ea := own_natL ha
  have eb := own_natL hb
  rw [ea] at hm hs ⊢
  rw [eb] at hb2 hs ⊢
  have e1 : (a ||| b).toBitVec.toNat = a.toBitVec.toNat + b.toBitVec.toNat := by
    rw [Int64.toBitVec_or, BitVec.toNat_or]
    exact own_orN (k := k) (by omega) (by omega)
  have e2 : (a ||| b).toInt = (a ||| b).toBitVec.toInt := rfl
  rw [e2, BitVec.toInt_eq_toNat_cond, e1, if_pos (by omega)]
  omega
theorem own_orI {a b : Int32} (k : Nat) (ha : 0 ≤ a.toInt) (hm : a.toInt % ((2 ^ k : Nat) : Int) = 0) (hb : 0 ≤ b.toInt) (hb2 : b.toInt < ((2 ^ k : Nat) : Int)) (hs : a.toInt + b.toInt < 2 ^ 31) : (a ||| b).toInt = a.toInt + b.toInt := by
  have ea := own_natI ha
  have eb := own_natI hb
  rw [ea] at hm hs ⊢
  rw [eb] at hb2 hs ⊢
  have e1 : (a ||| b).toBitVec.toNat = a.toBitVec.toNat + b.toBitVec.toNat := by
    rw [Int32.toBitVec_or, BitVec.toNat_or]
    exact own_orN (k := k) (by omega) (by omega)
  have e2 : (a ||| b).toInt = (a ||| b).toBitVec.toInt := rfl
  rw [e2, BitVec.toInt_eq_toNat_cond, e1, if_pos (by omega)]
  omega
theorem own_div {x y : Int32} (hx : 0 ≤ x.toInt) (hy : 0 < y.toInt) : (x / y).toInt = x.toInt / y.toInt := by
  rw [Jvm.Kit.i32_div (by omega), Int.tdiv_eq_ediv_of_nonneg hx]
theorem own_jrem {x y : Int32} (hx : 0 ≤ x.toInt) (hy : 0 < y.toInt) : (jrem x y).toInt = x.toInt % y.toInt := by
  have hd := own_div hx hy
  have hm := Int.emod_add_ediv_mul x.toInt y.toInt
  have h0 := Int.emod_nonneg x.toInt (b := y.toInt) (by omega)
  have h1 := Int.emod_lt_of_pos x.toInt hy
  have hq : 0 ≤ x.toInt / y.toInt * y.toInt := Int.mul_nonneg (Int.ediv_nonneg hx (by omega)) (by omega)
  have hl := x.toInt_lt
  have e1 : (x / y * y).toInt = x.toInt / y.toInt * y.toInt := by
    rw [Jvm.Kit.i32_mul (by rw [hd]; omega) (by rw [hd]; omega), hd]
  have e2 : (jrem x y).toInt = x.toInt - (x / y * y).toInt := Jvm.Kit.i32_sub (by rw [e1]; omega) (by rw [e1]; omega)
  rw [e2, e1]
  omega
theorem own_and3 (k : Int32) : (k &&& (3 : Int32)) = 0 ∨ (k &&& (3 : Int32)) = 1 ∨ (k &&& (3 : Int32)) = 2 ∨ (k &&& (3 : Int32)) = 3 := by
  have e := Jvm.Kit.i32_mask k 3 (k := 2) (by decide) (by decide)
  have c0 : (0 : Int32).toInt = 0 := by decide
  have c1 : (1 : Int32).toInt = 1 := by decide
  have c2 : (2 : Int32).toInt = 2 := by decide
  have c3 : (3 : Int32).toInt = 3 := by decide
  simp only [← Int32.toInt_inj, c0, c1, c2, c3]
  omega
theorem own_mask (b : Int32) : (nar .byte (b.toInt8.toInt32)) &&& (255 : Int32) = b &&& (255 : Int32) := by
  apply Int32.toInt_inj.mp
  rw [Jvm.Kit.i32_mask _ 255 (k := 8) (by decide) (by decide), Jvm.Kit.i32_mask b 255 (k := 8) (by decide) (by decide)]
  have e : (nar .byte (b.toInt8.toInt32)).toInt = b.toInt.bmod (2 ^ 8) := by
    show ((b.toInt8.toInt32).toInt8.toInt32).toInt = _
    rw [Int8.toInt_toInt32, Int32.toInt_toInt8, Int8.toInt_toInt32, Int32.toInt_toInt8, Int.bmod_bmod]
  rw [e]
  exact Int.bmod_emod
theorem own_b255 (b : Int32) : 0 ≤ (b &&& (255 : Int32)).toInt ∧ (b &&& (255 : Int32)).toInt ≤ 255 := by
  have e := Jvm.Kit.i32_mask b 255 (k := 8) (by decide) (by decide)
  omega
theorem own_cont {a : Int32} (h0 : 0 ≤ a.toInt) (h1 : a.toInt ≤ 255) : (fCont a = 0) = ¬ (128 ≤ a.toInt ∧ a.toInt < 192) := by
  have tab : ∀ n : Fin 256, (fCont (Int32.ofNat n.val) = 0) = ¬ (128 ≤ n.val ∧ n.val < 192) := by decide +kernel
  have e : a = Int32.ofNat a.toInt.toNat := by
    apply Int32.toInt_inj.mp
    rw [Int32.toInt_ofNat_of_lt (by omega)]
    omega
  have := tab ⟨a.toInt.toNat, by omega⟩
  simp only at this
  rw [← e] at this
  rw [this]
  apply propext
  omega
theorem own_low {a m : Int32} {k : Nat} (h0 : 0 ≤ a.toInt) (hk : k < 32) (hm : m.toBitVec.toNat = 2 ^ k - 1) : (a &&& m).toInt = a.toInt % 2 ^ k := Jvm.Kit.i32_mask a m hk hm
theorem own_cp2 {a b : Int32} (a0 : 0 ≤ a.toInt) (b0 : 0 ≤ b.toInt) : (((a &&& (31 : Int32)) <<< ((6 : Int32) &&& 31)) ||| (b &&& (63 : Int32))).toInt = a.toInt % 32 * 64 + b.toInt % 64 := by
  have e1 := Jvm.Kit.i32_mask a 31 (k := 5) (by decide) (by decide)
  have e2 := Jvm.Kit.i32_mask b 63 (k := 6) (by decide) (by decide)
  have e3 := Jvm.Kit.i32_shl (a &&& (31 : Int32)) ((6 : Int32) &&& 31) (k := 6) (by decide) (by omega) (by omega)
  rw [own_orI 6 (by omega) (by omega) (by omega) (by omega) (by omega), e3, e2, e1]
  omega
theorem own_cp3 {a b c : Int32} (a0 : 0 ≤ a.toInt) (b0 : 0 ≤ b.toInt) (c0 : 0 ≤ c.toInt) : ((((a &&& (15 : Int32)) <<< ((12 : Int32) &&& 31)) ||| ((b &&& (63 : Int32)) <<< ((6 : Int32) &&& 31))) ||| (c &&& (63 : Int32))).toInt = a.toInt % 16 * 4096 + b.toInt % 64 * 64 + c.toInt % 64 := by
  have e1 := Jvm.Kit.i32_mask a 15 (k := 4) (by decide) (by decide)
  have e2 := Jvm.Kit.i32_mask b 63 (k := 6) (by decide) (by decide)
  have e3 := Jvm.Kit.i32_mask c 63 (k := 6) (by decide) (by decide)
  have e4 := Jvm.Kit.i32_shl (a &&& (15 : Int32)) ((12 : Int32) &&& 31) (k := 12) (by decide) (by omega) (by omega)
  have e5 := Jvm.Kit.i32_shl (b &&& (63 : Int32)) ((6 : Int32) &&& 31) (k := 6) (by decide) (by omega) (by omega)
  have e6 : (((a &&& (15 : Int32)) <<< ((12 : Int32) &&& 31)) ||| ((b &&& (63 : Int32)) <<< ((6 : Int32) &&& 31))).toInt = a.toInt % 16 * 4096 + b.toInt % 64 * 64 := by
    rw [own_orI 12 (by omega) (by omega) (by omega) (by omega) (by omega), e4, e5, e1, e2]
    omega
  rw [own_orI 6 (by omega) (by omega) (by omega) (by omega) (by omega), e6, e3]
  omega
theorem own_cp4 {a b c d : Int32} (a0 : 0 ≤ a.toInt) (b0 : 0 ≤ b.toInt) (c0 : 0 ≤ c.toInt) (d0 : 0 ≤ d.toInt) : (((((a &&& (7 : Int32)) <<< ((18 : Int32) &&& 31)) ||| ((b &&& (63 : Int32)) <<< ((12 : Int32) &&& 31))) ||| ((c &&& (63 : Int32)) <<< ((6 : Int32) &&& 31))) ||| (d &&& (63 : Int32))).toInt = a.toInt % 8 * 262144 + b.toInt % 64 * 4096 + c.toInt % 64 * 64 + d.toInt % 64 := by
  have e1 := Jvm.Kit.i32_mask a 7 (k := 3) (by decide) (by decide)
  have e2 := Jvm.Kit.i32_mask b 63 (k := 6) (by decide) (by decide)
  have e3 := Jvm.Kit.i32_mask c 63 (k := 6) (by decide) (by decide)
  have e3' := Jvm.Kit.i32_mask d 63 (k := 6) (by decide) (by decide)
  have e4 := Jvm.Kit.i32_shl (a &&& (7 : Int32)) ((18 : Int32) &&& 31) (k := 18) (by decide) (by omega) (by omega)
  have e5 := Jvm.Kit.i32_shl (b &&& (63 : Int32)) ((12 : Int32) &&& 31) (k := 12) (by decide) (by omega) (by omega)
  have e5' := Jvm.Kit.i32_shl (c &&& (63 : Int32)) ((6 : Int32) &&& 31) (k := 6) (by decide) (by omega) (by omega)
  have e6 : (((a &&& (7 : Int32)) <<< ((18 : Int32) &&& 31)) ||| ((b &&& (63 : Int32)) <<< ((12 : Int32) &&& 31))).toInt = a.toInt % 8 * 262144 + b.toInt % 64 * 4096 := by
    rw [own_orI 18 (by omega) (by omega) (by omega) (by omega) (by omega), e4, e5, e1, e2]
    omega
  have e7 : ((((a &&& (7 : Int32)) <<< ((18 : Int32) &&& 31)) ||| ((b &&& (63 : Int32)) <<< ((12 : Int32) &&& 31))) ||| ((c &&& (63 : Int32)) <<< ((6 : Int32) &&& 31))).toInt = a.toInt % 8 * 262144 + b.toInt % 64 * 4096 + c.toInt % 64 * 64 := by
    rw [own_orI 12 (by omega) (by omega) (by omega) (by omega) (by omega), e6, e5', e3]
    omega
  rw [own_orI 6 (by omega) (by omega) (by omega) (by omega) (by omega), e7, e3']
  omega
set_option maxRecDepth 65536 in
set_option maxHeartbeats 40000000 in
theorem own_core {a0 a1 a2 a3 p z k y0 y1 y2 y3 : Int32} (b0 : 0 ≤ a0.toInt ∧ a0.toInt ≤ 255) (b1 : 0 ≤ a1.toInt ∧ a1.toInt ≤ 255) (b2 : 0 ≤ a2.toInt ∧ a2.toInt ≤ 255) (b3 : 0 ≤ a3.toInt ∧ a3.toInt ≤ 255)
    (h0 : y0 &&& (255 : Int32) = a0) (h1 : 1 < k.toInt → y1 &&& (255 : Int32) = a1) (h2 : 2 < k.toInt → y2 &&& (255 : Int32) = a2) (h3 : 3 < k.toInt → y3 &&& (255 : Int32) = a3) (hz : (z - p) = k) :
    fCE y0 y1 y2 y3 p z = fExp a0 a1 a2 a3 k p := by
  have x1 := own_cont b1.1 b1.2
  have x2 := own_cont b2.1 b2.2
  have x3 := own_cont b3.1 b3.2
  have e2 := own_cp2 b0.1 b1.1
  have e3 := own_cp3 b0.1 b1.1 b2.1
  have e4 := own_cp4 b0.1 b1.1 b2.1 b3.1
  unfold fCE fExp fT2 fT3 fT4
  simp only [h0, hz, x1, x2, x3]
  generalize (((a0 &&& (31 : Int32)) <<< ((6 : Int32) &&& 31)) ||| (a1 &&& (63 : Int32))) = v2 at *
  generalize ((((a0 &&& (15 : Int32)) <<< ((12 : Int32) &&& 31)) ||| ((a1 &&& (63 : Int32)) <<< ((6 : Int32) &&& 31))) ||| (a2 &&& (63 : Int32))) = v3 at *
  generalize (((((a0 &&& (7 : Int32)) <<< ((18 : Int32) &&& 31)) ||| ((a1 &&& (63 : Int32)) <<< ((12 : Int32) &&& 31))) ||| ((a2 &&& (63 : Int32)) <<< ((6 : Int32) &&& 31))) ||| (a3 &&& (63 : Int32))) = v4 at *
  clear x1 x2 x3
  have l2 : (2 : Int32).toInt = 2 := by decide
  have l3 : (3 : Int32).toInt = 3 := by decide
  have l4 : (4 : Int32).toInt = 4 := by decide
  have l128 : (128 : Int32).toInt = 128 := by decide
  have l143 : (143 : Int32).toInt = 143 := by decide
  have l144 : (144 : Int32).toInt = 144 := by decide
  have l159 : (159 : Int32).toInt = 159 := by decide
  have l160 : (160 : Int32).toInt = 160 := by decide
  have l191 : (191 : Int32).toInt = 191 := by decide
  have l192 : (192 : Int32).toInt = 192 := by decide
  have l194 : (194 : Int32).toInt = 194 := by decide
  have l223 : (223 : Int32).toInt = 223 := by decide
  have l224 : (224 : Int32).toInt = 224 := by decide
  have l237 : (237 : Int32).toInt = 237 := by decide
  have l239 : (239 : Int32).toInt = 239 := by decide
  have l240 : (240 : Int32).toInt = 240 := by decide
  have l244 : (244 : Int32).toInt = 244 := by decide
  have l248 : (248 : Int32).toInt = 248 := by decide
  have l2048 : (2048 : Int32).toInt = 2048 := by decide
  have l65536 : (65536 : Int32).toInt = 65536 := by decide
  have l1114111 : (1114111 : Int32).toInt = 1114111 := by decide
  have l55296 : (55296 : Int32).toInt = 55296 := by decide
  have l57343 : (57343 : Int32).toInt = 57343 := by decide
  simp only [Int32.lt_iff_toInt_lt, ← Int32.toInt_inj (x := a0), l2, l3, l4, l128, l143, l144, l159, l160, l191, l192, l194, l223, l224, l237, l239, l240, l244, l248, l2048, l65536, l1114111, l55296, l57343]
  have hr : (0 ≤ a0.toInt ∧ a0.toInt ≤ 191) ∨ (192 ≤ a0.toInt ∧ a0.toInt ≤ 193) ∨ (194 ≤ a0.toInt ∧ a0.toInt ≤ 223) ∨ (224 ≤ a0.toInt ∧ a0.toInt ≤ 224) ∨ (225 ≤ a0.toInt ∧ a0.toInt ≤ 236) ∨ (237 ≤ a0.toInt ∧ a0.toInt ≤ 237) ∨ (238 ≤ a0.toInt ∧ a0.toInt ≤ 239) ∨ (240 ≤ a0.toInt ∧ a0.toInt ≤ 240) ∨ (241 ≤ a0.toInt ∧ a0.toInt ≤ 243) ∨ (244 ≤ a0.toInt ∧ a0.toInt ≤ 244) ∨ (245 ≤ a0.toInt ∧ a0.toInt ≤ 247) ∨ (248 ≤ a0.toInt ∧ a0.toInt ≤ 255) := by omega
  rcases hr with hr | hr | hr | hr | hr | hr | hr | hr | hr | hr | hr | hr
  · have f0 : (a0.toInt < 192) := by omega
    have f1 : (a0.toInt < 194) := by omega
    have f2 : (a0.toInt < 224) := by omega
    have f3 : (a0.toInt < 240) := by omega
    have f4 : (a0.toInt < 248) := by omega
    have f5 : ¬ (223 < a0.toInt) := by omega
    have f6 : ¬ (239 < a0.toInt) := by omega
    have f7 : ¬ (244 < a0.toInt) := by omega
    have f8 : ¬ (a0.toInt = 224) := by omega
    have f9 : ¬ (a0.toInt = 237) := by omega
    have f10 : ¬ (a0.toInt = 240) := by omega
    have f11 : ¬ (a0.toInt = 244) := by omega
    simp only [f0, f1, f2, f3, f4, f5, f6, f7, f8, f9, f10, f11, if_true, if_false]
  · have f0 : ¬ (a0.toInt < 192) := by omega
    have f1 : (a0.toInt < 194) := by omega
    have f2 : (a0.toInt < 224) := by omega
    have f3 : (a0.toInt < 240) := by omega
    have f4 : (a0.toInt < 248) := by omega
    have f5 : ¬ (223 < a0.toInt) := by omega
    have f6 : ¬ (239 < a0.toInt) := by omega
    have f7 : ¬ (244 < a0.toInt) := by omega
    have f8 : ¬ (a0.toInt = 224) := by omega
    have f9 : ¬ (a0.toInt = 237) := by omega
    have f10 : ¬ (a0.toInt = 240) := by omega
    have f11 : ¬ (a0.toInt = 244) := by omega
    simp only [f0, f1, f2, f3, f4, f5, f6, f7, f8, f9, f10, f11, if_true, if_false]
    by_cases hk : k.toInt < 2
    · simp only [hk, if_true]
    · simp only [hk, if_false]
      clear h1 h2 h3 e3 e4
      clear l2 l3 l4 l128 l143 l144 l159 l160 l191 l192 l194 l223 l224 l237 l239 l240 l244 l248 l2048 l65536 l1114111 l55296 l57343
      clear f0 f1 f2 f3 f4 f5 f6 f7 f8 f9 f10 f11
      repeat' split
      all_goals first | rfl | (exfalso; omega)
  · have f0 : ¬ (a0.toInt < 192) := by omega
    have f1 : ¬ (a0.toInt < 194) := by omega
    have f2 : (a0.toInt < 224) := by omega
    have f3 : (a0.toInt < 240) := by omega
    have f4 : (a0.toInt < 248) := by omega
    have f5 : ¬ (223 < a0.toInt) := by omega
    have f6 : ¬ (239 < a0.toInt) := by omega
    have f7 : ¬ (244 < a0.toInt) := by omega
    have f8 : ¬ (a0.toInt = 224) := by omega
    have f9 : ¬ (a0.toInt = 237) := by omega
    have f10 : ¬ (a0.toInt = 240) := by omega
    have f11 : ¬ (a0.toInt = 244) := by omega
    simp only [f0, f1, f2, f3, f4, f5, f6, f7, f8, f9, f10, f11, if_true, if_false]
    by_cases hk : k.toInt < 2
    · simp only [hk, if_true]
    · rw [h1 (by omega)]
      simp only [hk, if_false]
      clear h1 h2 h3 e3 e4
      clear l2 l3 l4 l128 l143 l144 l159 l160 l191 l192 l194 l223 l224 l237 l239 l240 l244 l248 l2048 l65536 l1114111 l55296 l57343
      clear f0 f1 f2 f3 f4 f5 f6 f7 f8 f9 f10 f11
      repeat' split
      all_goals first | rfl | (exfalso; omega)
  · have f0 : ¬ (a0.toInt < 192) := by omega
    have f1 : ¬ (a0.toInt < 194) := by omega
    have f2 : ¬ (a0.toInt < 224) := by omega
    have f3 : (a0.toInt < 240) := by omega
    have f4 : (a0.toInt < 248) := by omega
    have f5 : (223 < a0.toInt) := by omega
    have f6 : ¬ (239 < a0.toInt) := by omega
    have f7 : ¬ (244 < a0.toInt) := by omega
    have f8 : (a0.toInt = 224) := by omega
    have f9 : ¬ (a0.toInt = 237) := by omega
    have f10 : ¬ (a0.toInt = 240) := by omega
    have f11 : ¬ (a0.toInt = 244) := by omega
    simp only [f0, f1, f2, f3, f4, f5, f6, f7, eq_true f8, f9, f10, f11, if_true, if_false]
    by_cases hk : k.toInt < 3
    · simp only [hk, if_true]
    · rw [h1 (by omega), h2 (by omega)]
      simp only [hk, if_false]
      clear h1 h2 h3 e2 e4
      clear l2 l3 l4 l128 l143 l144 l159 l160 l191 l192 l194 l223 l224 l237 l239 l240 l244 l248 l2048 l65536 l1114111 l55296 l57343
      clear f0 f1 f2 f3 f4 f5 f6 f7 f8 f9 f10 f11
      repeat' split
      all_goals first | rfl | (exfalso; omega)
  · have f0 : ¬ (a0.toInt < 192) := by omega
    have f1 : ¬ (a0.toInt < 194) := by omega
    have f2 : ¬ (a0.toInt < 224) := by omega
    have f3 : (a0.toInt < 240) := by omega
    have f4 : (a0.toInt < 248) := by omega
    have f5 : (223 < a0.toInt) := by omega
    have f6 : ¬ (239 < a0.toInt) := by omega
    have f7 : ¬ (244 < a0.toInt) := by omega
    have f8 : ¬ (a0.toInt = 224) := by omega
    have f9 : ¬ (a0.toInt = 237) := by omega
    have f10 : ¬ (a0.toInt = 240) := by omega
    have f11 : ¬ (a0.toInt = 244) := by omega
    simp only [f0, f1, f2, f3, f4, f5, f6, f7, f8, f9, f10, f11, if_true, if_false]
    by_cases hk : k.toInt < 3
    · simp only [hk, if_true]
    · rw [h1 (by omega), h2 (by omega)]
      simp only [hk, if_false]
      clear h1 h2 h3 e2 e4
      clear l2 l3 l4 l128 l143 l144 l159 l160 l191 l192 l194 l223 l224 l237 l239 l240 l244 l248 l2048 l65536 l1114111 l55296 l57343
      clear f0 f1 f2 f3 f4 f5 f6 f7 f8 f9 f10 f11
      repeat' split
      all_goals first | rfl | (exfalso; omega)
  · have f0 : ¬ (a0.toInt < 192) := by omega
    have f1 : ¬ (a0.toInt < 194) := by omega
    have f2 : ¬ (a0.toInt < 224) := by omega
    have f3 : (a0.toInt < 240) := by omega
    have f4 : (a0.toInt < 248) := by omega
    have f5 : (223 < a0.toInt) := by omega
    have f6 : ¬ (239 < a0.toInt) := by omega
    have f7 : ¬ (244 < a0.toInt) := by omega
    have f8 : ¬ (a0.toInt = 224) := by omega
    have f9 : (a0.toInt = 237) := by omega
    have f10 : ¬ (a0.toInt = 240) := by omega
    have f11 : ¬ (a0.toInt = 244) := by omega
    simp only [f0, f1, f2, f3, f4, f5, f6, f7, f8, eq_true f9, f10, f11, if_true, if_false]
    by_cases hk : k.toInt < 3
    · simp only [hk, if_true]
    · rw [h1 (by omega), h2 (by omega)]
      simp only [hk, if_false]
      clear h1 h2 h3 e2 e4
      clear l2 l3 l4 l128 l143 l144 l159 l160 l191 l192 l194 l223 l224 l237 l239 l240 l244 l248 l2048 l65536 l1114111 l55296 l57343
      clear f0 f1 f2 f3 f4 f5 f6 f7 f8 f9 f10 f11
      repeat' split
      all_goals first | rfl | (exfalso; omega)
  · have f0 : ¬ (a0.toInt < 192) := by omega
    have f1 : ¬ (a0.toInt < 194) := by omega
    have f2 : ¬ (a0.toInt < 224) := by omega
    have f3 : (a0.toInt < 240) := by omega
    have f4 : (a0.toInt < 248) := by omega
    have f5 : (223 < a0.toInt) := by omega
    have f6 : ¬ (239 < a0.toInt) := by omega
    have f7 : ¬ (244 < a0.toInt) := by omega
    have f8 : ¬ (a0.toInt = 224) := by omega
    have f9 : ¬ (a0.toInt = 237) := by omega
    have f10 : ¬ (a0.toInt = 240) := by omega
    have f11 : ¬ (a0.toInt = 244) := by omega
    simp only [f0, f1, f2, f3, f4, f5, f6, f7, f8, f9, f10, f11, if_true, if_false]
    by_cases hk : k.toInt < 3
    · simp only [hk, if_true]
    · rw [h1 (by omega), h2 (by omega)]
      simp only [hk, if_false]
      clear h1 h2 h3 e2 e4
      clear l2 l3 l4 l128 l143 l144 l159 l160 l191 l192 l194 l223 l224 l237 l239 l240 l244 l248 l2048 l65536 l1114111 l55296 l57343
      clear f0 f1 f2 f3 f4 f5 f6 f7 f8 f9 f10 f11
      repeat' split
      all_goals first | rfl | (exfalso; omega)
  · have f0 : ¬ (a0.toInt < 192) := by omega
    have f1 : ¬ (a0.toInt < 194) := by omega
    have f2 : ¬ (a0.toInt < 224) := by omega
    have f3 : ¬ (a0.toInt < 240) := by omega
    have f4 : (a0.toInt < 248) := by omega
    have f5 : (223 < a0.toInt) := by omega
    have f6 : (239 < a0.toInt) := by omega
    have f7 : ¬ (244 < a0.toInt) := by omega
    have f8 : ¬ (a0.toInt = 224) := by omega
    have f9 : ¬ (a0.toInt = 237) := by omega
    have f10 : (a0.toInt = 240) := by omega
    have f11 : ¬ (a0.toInt = 244) := by omega
    simp only [f0, f1, f2, f3, f4, f5, f6, f7, f8, f9, eq_true f10, f11, if_true, if_false]
    by_cases hk : k.toInt < 4
    · simp only [hk, if_true]
    · rw [h1 (by omega), h2 (by omega), h3 (by omega)]
      simp only [hk, if_false]
      clear h1 h2 h3 e2 e3
      clear l2 l3 l4 l128 l143 l144 l159 l160 l191 l192 l194 l223 l224 l237 l239 l240 l244 l248 l2048 l65536 l1114111 l55296 l57343
      clear f0 f1 f2 f3 f4 f5 f6 f7 f8 f9 f10 f11
      repeat' split
      all_goals first | rfl | (exfalso; omega)
  · have f0 : ¬ (a0.toInt < 192) := by omega
    have f1 : ¬ (a0.toInt < 194) := by omega
    have f2 : ¬ (a0.toInt < 224) := by omega
    have f3 : ¬ (a0.toInt < 240) := by omega
    have f4 : (a0.toInt < 248) := by omega
    have f5 : (223 < a0.toInt) := by omega
    have f6 : (239 < a0.toInt) := by omega
    have f7 : ¬ (244 < a0.toInt) := by omega
    have f8 : ¬ (a0.toInt = 224) := by omega
    have f9 : ¬ (a0.toInt = 237) := by omega
    have f10 : ¬ (a0.toInt = 240) := by omega
    have f11 : ¬ (a0.toInt = 244) := by omega
    simp only [f0, f1, f2, f3, f4, f5, f6, f7, f8, f9, f10, f11, if_true, if_false]
    by_cases hk : k.toInt < 4
    · simp only [hk, if_true]
    · rw [h1 (by omega), h2 (by omega), h3 (by omega)]
      simp only [hk, if_false]
      clear h1 h2 h3 e2 e3
      clear l2 l3 l4 l128 l143 l144 l159 l160 l191 l192 l194 l223 l224 l237 l239 l240 l244 l248 l2048 l65536 l1114111 l55296 l57343
      clear f0 f1 f2 f3 f4 f5 f6 f7 f8 f9 f10 f11
      repeat' split
      all_goals first | rfl | (exfalso; omega)
  · have f0 : ¬ (a0.toInt < 192) := by omega
    have f1 : ¬ (a0.toInt < 194) := by omega
    have f2 : ¬ (a0.toInt < 224) := by omega
    have f3 : ¬ (a0.toInt < 240) := by omega
    have f4 : (a0.toInt < 248) := by omega
    have f5 : (223 < a0.toInt) := by omega
    have f6 : (239 < a0.toInt) := by omega
    have f7 : ¬ (244 < a0.toInt) := by omega
    have f8 : ¬ (a0.toInt = 224) := by omega
    have f9 : ¬ (a0.toInt = 237) := by omega
    have f10 : ¬ (a0.toInt = 240) := by omega
    have f11 : (a0.toInt = 244) := by omega
    simp only [f0, f1, f2, f3, f4, f5, f6, f7, f8, f9, f10, eq_true f11, if_true, if_false]
    by_cases hk : k.toInt < 4
    · simp only [hk, if_true]
    · rw [h1 (by omega), h2 (by omega), h3 (by omega)]
      simp only [hk, if_false]
      clear h1 h2 h3 e2 e3
      clear l2 l3 l4 l128 l143 l144 l159 l160 l191 l192 l194 l223 l224 l237 l239 l240 l244 l248 l2048 l65536 l1114111 l55296 l57343
      clear f0 f1 f2 f3 f4 f5 f6 f7 f8 f9 f10 f11
      repeat' split
      all_goals first | rfl | (exfalso; omega)
  · have f0 : ¬ (a0.toInt < 192) := by omega
    have f1 : ¬ (a0.toInt < 194) := by omega
    have f2 : ¬ (a0.toInt < 224) := by omega
    have f3 : ¬ (a0.toInt < 240) := by omega
    have f4 : (a0.toInt < 248) := by omega
    have f5 : (223 < a0.toInt) := by omega
    have f6 : (239 < a0.toInt) := by omega
    have f7 : (244 < a0.toInt) := by omega
    have f8 : ¬ (a0.toInt = 224) := by omega
    have f9 : ¬ (a0.toInt = 237) := by omega
    have f10 : ¬ (a0.toInt = 240) := by omega
    have f11 : ¬ (a0.toInt = 244) := by omega
    simp only [f0, f1, f2, f3, f4, f5, f6, f7, f8, f9, f10, f11, if_true, if_false]
    by_cases hk : k.toInt < 4
    · simp only [hk, if_true]
    · simp only [hk, if_false]
      clear h1 h2 h3 e2 e3
      clear l2 l3 l4 l128 l143 l144 l159 l160 l191 l192 l194 l223 l224 l237 l239 l240 l244 l248 l2048 l65536 l1114111 l55296 l57343
      clear f0 f1 f2 f3 f4 f5 f6 f7 f8 f9 f10 f11
      repeat' split
      all_goals first | rfl | (exfalso; omega)
  · have f0 : ¬ (a0.toInt < 192) := by omega
    have f1 : ¬ (a0.toInt < 194) := by omega
    have f2 : ¬ (a0.toInt < 224) := by omega
    have f3 : ¬ (a0.toInt < 240) := by omega
    have f4 : ¬ (a0.toInt < 248) := by omega
    have f5 : (223 < a0.toInt) := by omega
    have f6 : (239 < a0.toInt) := by omega
    have f7 : (244 < a0.toInt) := by omega
    have f8 : ¬ (a0.toInt = 224) := by omega
    have f9 : ¬ (a0.toInt = 237) := by omega
    have f10 : ¬ (a0.toInt = 240) := by omega
    have f11 : ¬ (a0.toInt = 244) := by omega
    simp only [f0, f1, f2, f3, f4, f5, f6, f7, f8, f9, f10, f11, if_true, if_false]

theorem own_main (b0 b1 b2 b3 : Int32) {y0 y1 y2 y3 p z k : Int32} (h0 : y0 &&& (255 : Int32) = b0 &&& (255 : Int32)) (h1 : 1 < k.toInt → y1 &&& (255 : Int32) = b1 &&& (255 : Int32)) (h2 : 2 < k.toInt → y2 &&& (255 : Int32) = b2 &&& (255 : Int32)) (h3 : 3 < k.toInt → y3 &&& (255 : Int32) = b3 &&& (255 : Int32))
    (hz : (z - p) = k) : fCE y0 y1 y2 y3 p z = fExp (b0 &&& (255 : Int32)) (b1 &&& (255 : Int32)) (b2 &&& (255 : Int32)) (b3 &&& (255 : Int32)) k p :=
  own_core (own_b255 b0) (own_b255 b1) (own_b255 b2) (own_b255 b3) h0 h1 h2 h3 hz

theorem pn_0 : plainName "com/example/apportis/apportis/Utf8CharacterEndPinLaw" = true := by first | (simp [plainName, overriddenIn]; done) | decide +kernel
theorem pd92f6cd8e : parseMethodDescriptor "([BI)I" = some ⟨[(.array .byte), .int], some .int⟩ := by decide +kernel
theorem pd41a2ea18 : parseMethodDescriptor "(IIIIII)I" = some ⟨[.int, .int, .int, .int, .int, .int], some .int⟩ := by decide +kernel
theorem ef_rm0 (m : MethodId) (p0 : Int32) (p1 : Int32) (p2 : Int32) (p3 : Int32) (p4 : Int32) (p5 : Int32) : entryFrame m #[(.int p0), (.int p1), (.int p2), (.int p3), (.int p4), (.int p5)] maxLocals = mkF m 0 #[.val (.int p0), .val (.int p1), .val (.int p2), .val (.int p3), .val (.int p4), .val (.int p5), .unset, .unset, .unset, .unset, .unset] [] := by first | (simp [entryFrame, mkF, argsToLocals, Value.category, maxLocals]; done) | rfl
def Q_rm0 (Z : State) (p0 : Int32) (p1 : Int32) (p2 : Int32) (p3 : Int32) (p4 : Int32) (p5 : Int32) (h0 : Heap) (n0 : Nat) (v : Option Value) (h : Heap) (L : List Loc) : Prop := v = some (.int 1) ∧ Fr n0 L
abbrev F_rm0 (Z : State) (p0 : Int32) (p1 : Int32) (p2 : Int32) (p3 : Int32) (p4 : Int32) (p5 : Int32) (h0 : Heap) (n0 : Nat) (s : State) (o : Outcome) (U : State) : Prop := ∃ v L, o = .returned v ∧ Q_rm0 Z p0 p1 p2 p3 p4 p5 h0 n0 v U.heap L ∧ FrameEnd s o U L room_1.cells room_1.slots
set_option maxRecDepth 65536 in
set_option maxHeartbeats 40000000 in
theorem rm0 (l : Launch) (Z : State) (aZ : Array Value) (hw : ∀ d ∈ tables_1, d.before aZ Z = true) (ws : List Jvm.Cond) (p0 : Int32) (p1 : Int32) (p2 : Int32) (p3 : Int32) (p4 : Int32) (p5 : Int32) (h0 : Heap) (n0 : Nat) (Z0 : n0 ≤ h0.size) :
    MetFree l x (head1 (Jvm.Cond.code x code maxLocals ret :: ws) room_1) (fun a U => a = #[(.int p0), (.int p1), (.int p2), (.int p3), (.int p4), (.int p5)] ∧ Z.Warmed39 U.vm ∧ U.heap = h0) (fun _ _ _ _ _ => True) (fun _ U o U' => ∃ v L, o = .returned v ∧ Q_rm0 Z p0 p1 p2 p3 p4 p5 h0 n0 v U'.heap L ∧ FrameEnd U o U' L room_1.cells room_1.slots) := by
  refine MetFree.of_bodySF (plainFor_of_name pn_0) hisR ?_
  intro p e s m args below meth c s₁ Bd hml0 hP hK
  obtain ⟨rfl, hZ, hh⟩ := hP
  have hx := Bd.exec
  have hby := Bd.bytes
  have hml : c.maxLocals = 11 := hml0
  have hown : s.vm.findClass "com/example/apportis/apportis/Utf8CharacterEndPinLaw" = some m.cls := findClass_of_methodNamed Bd.named
  have hnm := (name_of_methodNamed Bd.named Bd.method).1
  have X0 : Stand p l e room_1 s m #[(.int p0), (.int p1), (.int p2), (.int p3), (.int p4), (.int p5)] below meth c s₁ [] 0 0 := Stand.of_body Bd
  have e0 : s₁.heap = h0 := by rw [← hh, Bd.state]; rfl
  have N0 := Fr.nil n0
  refine Go.st (fun _ k => castTop (ef_rm0 m p0 p1 p2 p3 p4 p5) k) ?_
  show Go p e below _ (s₁.setTop (mkF m 0 #[.val (.int p0), .val (.int p1), .val (.int p2), .val (.int p3), .val (.int p4), .val (.int p5), .unset, .unset, .unset, .unset, .unset] []))
  refine Go.st (fun _ k => XS.iload X0.here hx rfl (hb hby at_0) rfl k) ?_
  refine Go.st (fun _ k => XS.iconst X0.here hx rfl (hb hby at_2) k) ?_
  show Go p e below _ (s₁.setTop (mkF m 3 #[.val (.int p0), .val (.int p1), .val (.int p2), .val (.int p3), .val (.int p4), .val (.int p5), .unset, .unset, .unset, .unset, .unset] [(.int (3 : Int32)), (.int p4)]))
  refine Go.st (fun _ k => XS.iand X0.here hx rfl (hb hby at_3) rfl k) ?_
  show Go p e below _ (s₁.setTop (mkF m 4 #[.val (.int p0), .val (.int p1), .val (.int p2), .val (.int p3), .val (.int p4), .val (.int p5), .unset, .unset, .unset, .unset, .unset] [(.int (p4 &&& (3 : Int32)))]))
  rcases own_and3 p4 with hr1 | hr1 | hr1 | hr1
  · rw [hr1]
    show Go p e below _ (s₁.setTop (mkF m 4 #[.val (.int p0), .val (.int p1), .val (.int p2), .val (.int p3), .val (.int p4), .val (.int p5), .unset, .unset, .unset, .unset, .unset] [(.int (0 : Int32))]))
    refine Go.st (fun _ k => XS.istore X0.here hx rfl (hb hby at_4) rfl (l' := #[.val (.int p0), .val (.int p1), .val (.int p2), .val (.int p3), .val (.int p4), .val (.int p5), .val (.int (0 : Int32)), .unset, .unset, .unset, .unset]) rfl k) ?_
    show Go p e below _ (s₁.setTop (mkF m 6 #[.val (.int p0), .val (.int p1), .val (.int p2), .val (.int p3), .val (.int p4), .val (.int p5), .val (.int (0 : Int32)), .unset, .unset, .unset, .unset] []))
    refine Go.st (fun _ k => XS.iconst X0.here hx rfl (hb hby at_6) k) ?_
    refine Go.st (fun _ k => XS.iload X0.here hx rfl (hb hby at_7) rfl k) ?_
    show Go p e below _ (s₁.setTop (mkF m 9 #[.val (.int p0), .val (.int p1), .val (.int p2), .val (.int p3), .val (.int p4), .val (.int p5), .val (.int (0 : Int32)), .unset, .unset, .unset, .unset] [(.int p4), (.int (1 : Int32))]))
    refine Go.st (fun _ k => XS.iconst X0.here hx rfl (hb hby at_9) k) ?_
    refine Go.st (fun _ k => XS.iushr X0.here hx rfl (hb hby at_10) rfl k) ?_
    show Go p e below _ (s₁.setTop (mkF m 11 #[.val (.int p0), .val (.int p1), .val (.int p2), .val (.int p3), .val (.int p4), .val (.int p5), .val (.int (0 : Int32)), .unset, .unset, .unset, .unset] [(.int ((p4.toUInt32 >>> ((2 : Int32) &&& 31).toUInt32).toInt32)), (.int (1 : Int32))]))
    refine Go.st (fun _ k => XS.iconst X0.here hx rfl (hb hby at_11) k) ?_
    refine Go.st (fun _ k => XS.iand X0.here hx rfl (hb hby at_12) rfl k) ?_
    show Go p e below _ (s₁.setTop (mkF m 13 #[.val (.int p0), .val (.int p1), .val (.int p2), .val (.int p3), .val (.int p4), .val (.int p5), .val (.int (0 : Int32)), .unset, .unset, .unset, .unset] [(.int (((p4.toUInt32 >>> ((2 : Int32) &&& 31).toUInt32).toInt32) &&& (3 : Int32))), (.int (1 : Int32))]))
    rcases own_and3 _ with hr2 | hr2 | hr2 | hr2
    · rw [hr2]
      show Go p e below _ (s₁.setTop (mkF m 13 #[.val (.int p0), .val (.int p1), .val (.int p2), .val (.int p3), .val (.int p4), .val (.int p5), .val (.int (0 : Int32)), .unset, .unset, .unset, .unset] [(.int (0 : Int32)), (.int (1 : Int32))]))
      refine Go.st (fun _ k => XS.iadd X0.here hx rfl (hb hby at_13) rfl k) ?_
      refine Go.st (fun _ k => XS.istore X0.here hx rfl (hb hby at_14) rfl (l' := #[.val (.int p0), .val (.int p1), .val (.int p2), .val (.int p3), .val (.int p4), .val (.int p5), .val (.int (0 : Int32)), .val (.int (1 : Int32)), .unset, .unset, .unset]) rfl k) ?_
      show Go p e below _ (s₁.setTop (mkF m 16 #[.val (.int p0), .val (.int p1), .val (.int p2), .val (.int p3), .val (.int p4), .val (.int p5), .val (.int (0 : Int32)), .val (.int (1 : Int32)), .unset, .unset, .unset] []))
      refine Go.st (fun _ k => XS.iload X0.here hx rfl (hb hby at_16) rfl k) ?_
      refine Go.st (fun _ k => XS.iload X0.here hx rfl (hb hby at_18) rfl k) ?_
      show Go p e below _ (s₁.setTop (mkF m 20 #[.val (.int p0), .val (.int p1), .val (.int p2), .val (.int p3), .val (.int p4), .val (.int p5), .val (.int (0 : Int32)), .val (.int (1 : Int32)), .unset, .unset, .unset] [(.int (1 : Int32)), (.int (0 : Int32))]))
      refine Go.st (fun _ k => XS.iadd X0.here hx rfl (hb hby at_20) rfl k) ?_
      show Go p e below _ (s₁.setTop (mkF m 21 #[.val (.int p0), .val (.int p1), .val (.int p2), .val (.int p3), .val (.int p4), .val (.int p5), .val (.int (0 : Int32)), .val (.int (1 : Int32)), .unset, .unset, .unset] [(.int (1 : Int32))]))
      obtain ⟨T3, h3, k3, X3, e3, E3, A3, st3⟩ := newP X0 hx hZ (hw _ (List.mem_of_getElem? (i := 0) rfl)) e0 (g := (mkF m 21 #[.val (.int p0), .val (.int p1), .val (.int p2), .val (.int p3), .val (.int p4), .val (.int p5), .val (.int (0 : Int32)), .val (.int (1 : Int32)), .unset, .unset, .unset] [(.int (1 : Int32))])) rfl (hb hby at_21) rfl (by decide) (cap := 1) (by decide) (by decide) (by decide) (by decide)
      obtain ⟨b3, g3⟩ : ∃ z, z = h0.size := ⟨_, rfl⟩
      have gg3 : n0 ≤ b3 := Nat.le_trans Z0 (Nat.le_of_eq g3.symm)
      rw [← g3] at A3 st3
      have Z3 : n0 ≤ h3.size := Nat.le_trans Z0 E3.1
      have V3 : Arv Z h3 b3 k3 .byte (1 : Int32) [(.int (0 : Int32))] (.int (0 : Int32)) := (Arv.new A3 (by decide)).pad (pad_rep [] (.int (0 : Int32)) 1)
      refine Go.st (fun _ k => st3 _ k) ?_
      show Go p e below _ (T3.setTop (mkF m 23 #[.val (.int p0), .val (.int p1), .val (.int p2), .val (.int p3), .val (.int p4), .val (.int p5), .val (.int (0 : Int32)), .val (.int (1 : Int32)), .unset, .unset, .unset] [(.ref b3)]))
      refine Go.st (fun _ k => XS.astore X3.here hx rfl (hb hby at_23) rfl rfl (l' := #[.val (.int p0), .val (.int p1), .val (.int p2), .val (.int p3), .val (.int p4), .val (.int p5), .val (.int (0 : Int32)), .val (.int (1 : Int32)), .val (.ref b3), .unset, .unset]) rfl k) ?_
      show Go p e below _ (T3.setTop (mkF m 25 #[.val (.int p0), .val (.int p1), .val (.int p2), .val (.int p3), .val (.int p4), .val (.int p5), .val (.int (0 : Int32)), .val (.int (1 : Int32)), .val (.ref b3), .unset, .unset] []))
      refine Go.st (fun _ k => XS.iload X3.here hx rfl (hb hby at_25) rfl k) ?_
      refine Go.st (fun _ k => XS.i2b X3.here hx rfl (hb hby at_27) rfl k) ?_
      show Go p e below _ (T3.setTop (mkF m 28 #[.val (.int p0), .val (.int p1), .val (.int p2), .val (.int p3), .val (.int p4), .val (.int p5), .val (.int (0 : Int32)), .val (.int (1 : Int32)), .val (.ref b3), .unset, .unset] [(.int (p5.toInt8.toInt32))]))
      refine Go.st (fun _ k => XS.istore X3.here hx rfl (hb hby at_28) rfl (l' := #[.val (.int p0), .val (.int p1), .val (.int p2), .val (.int p3), .val (.int p4), .val (.int p5), .val (.int (0 : Int32)), .val (.int (1 : Int32)), .val (.ref b3), .val (.int (p5.toInt8.toInt32)), .unset]) rfl k) ?_
      show Go p e below _ (T3.setTop (mkF m 30 #[.val (.int p0), .val (.int p1), .val (.int p2), .val (.int p3), .val (.int p4), .val (.int p5), .val (.int (0 : Int32)), .val (.int (1 : Int32)), .val (.ref b3), .val (.int (p5.toInt8.toInt32)), .unset] []))
      refine Go.st (fun _ k => XS.iload X3.here hx rfl (hb hby at_30) rfl k) ?_
      refine Go.st (fun _ k => XS.ifYes X3.here hx rfl (pc0 := 32) (pc' := 41) rfl (hb hby at_32) rfl ((if0 _ _).trans (flt (by decide : ¬ ((0 : Int32) < (0 : Int32)))).2.2.2) (by decide) (by decide) k) ?_
      show Go p e below _ (T3.setTop (mkF m 41 #[.val (.int p0), .val (.int p1), .val (.int p2), .val (.int p3), .val (.int p4), .val (.int p5), .val (.int (0 : Int32)), .val (.int (1 : Int32)), .val (.ref b3), .val (.int (p5.toInt8.toInt32)), .unset] []))
      refine Go.st (fun _ k => XS.iload X3.here hx rfl (hb hby at_41) rfl k) ?_
      refine Go.st (fun _ k => XS.iconst X3.here hx rfl (hb hby at_43) k) ?_
      show Go p e below _ (T3.setTop (mkF m 44 #[.val (.int p0), .val (.int p1), .val (.int p2), .val (.int p3), .val (.int p4), .val (.int p5), .val (.int (0 : Int32)), .val (.int (1 : Int32)), .val (.ref b3), .val (.int (p5.toInt8.toInt32)), .unset] [(.int (1 : Int32)), (.int (0 : Int32))]))
      refine Go.st (fun _ k => XS.icmpYes X3.here hx rfl (pc0 := 44) (pc' := 53) rfl (hb hby at_44) rfl (flt (by decide : ¬ ((1 : Int32) < (0 : Int32)))).2.2.2 (by decide) (by decide) k) ?_
      show Go p e below _ (T3.setTop (mkF m 53 #[.val (.int p0), .val (.int p1), .val (.int p2), .val (.int p3), .val (.int p4), .val (.int p5), .val (.int (0 : Int32)), .val (.int (1 : Int32)), .val (.ref b3), .val (.int (p5.toInt8.toInt32)), .unset] []))
      refine Go.st (fun _ k => XS.iload X3.here hx rfl (hb hby at_53) rfl k) ?_
      refine Go.st (fun _ k => XS.iconst X3.here hx rfl (hb hby at_55) k) ?_
      show Go p e below _ (T3.setTop (mkF m 56 #[.val (.int p0), .val (.int p1), .val (.int p2), .val (.int p3), .val (.int p4), .val (.int p5), .val (.int (0 : Int32)), .val (.int (1 : Int32)), .val (.ref b3), .val (.int (p5.toInt8.toInt32)), .unset] [(.int (2 : Int32)), (.int (0 : Int32))]))
      refine Go.st (fun _ k => XS.icmpYes X3.here hx rfl (pc0 := 56) (pc' := 65) rfl (hb hby at_56) rfl (flt (by decide : ¬ ((2 : Int32) < (0 : Int32)))).2.2.2 (by decide) (by decide) k) ?_
      show Go p e below _ (T3.setTop (mkF m 65 #[.val (.int p0), .val (.int p1), .val (.int p2), .val (.int p3), .val (.int p4), .val (.int p5), .val (.int (0 : Int32)), .val (.int (1 : Int32)), .val (.ref b3), .val (.int (p5.toInt8.toInt32)), .unset] []))
      refine Go.st (fun _ k => XS.aload X3.here hx rfl (hb hby at_65) rfl rfl k) ?_
      refine Go.st (fun _ k => XS.iload X3.here hx rfl (hb hby at_67) rfl k) ?_
      show Go p e below _ (T3.setTop (mkF m 69 #[.val (.int p0), .val (.int p1), .val (.int p2), .val (.int p3), .val (.int p4), .val (.int p5), .val (.int (0 : Int32)), .val (.int (1 : Int32)), .val (.ref b3), .val (.int (p5.toInt8.toInt32)), .unset] [(.int (0 : Int32)), (.ref b3)]))
      refine Go.st (fun _ k => XS.iloadN X3.here hx rfl (hb hby at_69) rfl k) ?_
      refine Go.st (fun _ k => XS.i2b X3.here hx rfl (hb hby at_70) rfl k) ?_
      show Go p e below _ (T3.setTop (mkF m 71 #[.val (.int p0), .val (.int p1), .val (.int p2), .val (.int p3), .val (.int p4), .val (.int p5), .val (.int (0 : Int32)), .val (.int (1 : Int32)), .val (.ref b3), .val (.int (p5.toInt8.toInt32)), .unset] [(.int (p0.toInt8.toInt32)), (.int (0 : Int32)), (.ref b3)]))
      obtain ⟨cl4, Ar4, ck4, Sz4, Nn4, Hs4, Gs4⟩ := id V3
      have hin4 : ¬ ((0 : Int32) < 0 ∨ cl4.slots.size ≤ ((0 : Int32)).toNatClampNeg) := inb_of Sz4 ⟨by decide, by decide⟩
      obtain ⟨T5, h5, X5, e5, W5, st5⟩ := stB X3 hx hZ e3 Ar4 (j := (0 : Int32)) hin4 (g := (mkF m 71 #[.val (.int p0), .val (.int p1), .val (.int p2), .val (.int p3), .val (.int p4), .val (.int p5), .val (.int (0 : Int32)), .val (.int (1 : Int32)), .val (.ref b3), .val (.int (p5.toInt8.toInt32)), .unset] [(.int (p0.toInt8.toInt32)), (.int (0 : Int32)), (.ref b3)])) rfl rfl (hb hby at_71)
      have V5 : Arv Z h5 b3 k3 .byte (1 : Int32) [(.int (nar .byte (p0.toInt8.toInt32)))] (.int (0 : Int32)) := Arv.set Ar4 ck4 Sz4 Nn4 Hs4 Gs4 (fits_nar_byte _) W5 0 rfl (Nat.le_of_ble_eq_true rfl)
      have N5 := Fr.snoc X5 N0 gg3
      have Z5 : n0 ≤ h5.size := by rw [W5.size]; exact Z3
      refine Go.st (fun _ k => st5 _ k) ?_
      show Go p e below _ (T5.setTop (mkF m 72 #[.val (.int p0), .val (.int p1), .val (.int p2), .val (.int p3), .val (.int p4), .val (.int p5), .val (.int (0 : Int32)), .val (.int (1 : Int32)), .val (.ref b3), .val (.int (p5.toInt8.toInt32)), .unset] []))
      refine Go.st (fun _ k => XS.iload X5.here hx rfl (hb hby at_72) rfl k) ?_
      refine Go.st (fun _ k => XS.iconst X5.here hx rfl (hb hby at_74) k) ?_
      show Go p e below _ (T5.setTop (mkF m 75 #[.val (.int p0), .val (.int p1), .val (.int p2), .val (.int p3), .val (.int p4), .val (.int p5), .val (.int (0 : Int32)), .val (.int (1 : Int32)), .val (.ref b3), .val (.int (p5.toInt8.toInt32)), .unset] [(.int (1 : Int32)), (.int (1 : Int32))]))
      refine Go.st (fun _ k => XS.icmpYes X5.here hx rfl (pc0 := 75) (pc' := 87) rfl (hb hby at_75) rfl (flt (by decide : ¬ ((1 : Int32) < (1 : Int32)))).2.2.2 (by decide) (by decide) k) ?_
      show Go p e below _ (T5.setTop (mkF m 87 #[.val (.int p0), .val (.int p1), .val (.int p2), .val (.int p3), .val (.int p4), .val (.int p5), .val (.int (0 : Int32)), .val (.int (1 : Int32)), .val (.ref b3), .val (.int (p5.toInt8.toInt32)), .unset] []))
      refine Go.st (fun _ k => XS.iload X5.here hx rfl (hb hby at_87) rfl k) ?_
      refine Go.st (fun _ k => XS.iconst X5.here hx rfl (hb hby at_89) k) ?_
      show Go p e below _ (T5.setTop (mkF m 90 #[.val (.int p0), .val (.int p1), .val (.int p2), .val (.int p3), .val (.int p4), .val (.int p5), .val (.int (0 : Int32)), .val (.int (1 : Int32)), .val (.ref b3), .val (.int (p5.toInt8.toInt32)), .unset] [(.int (2 : Int32)), (.int (1 : Int32))]))
      refine Go.st (fun _ k => XS.icmpYes X5.here hx rfl (pc0 := 90) (pc' := 102) rfl (hb hby at_90) rfl (flt (by decide : ¬ ((2 : Int32) < (1 : Int32)))).2.2.2 (by decide) (by decide) k) ?_
      show Go p e below _ (T5.setTop (mkF m 102 #[.val (.int p0), .val (.int p1), .val (.int p2), .val (.int p3), .val (.int p4), .val (.int p5), .val (.int (0 : Int32)), .val (.int (1 : Int32)), .val (.ref b3), .val (.int (p5.toInt8.toInt32)), .unset] []))
      refine Go.st (fun _ k => XS.iload X5.here hx rfl (hb hby at_102) rfl k) ?_
      refine Go.st (fun _ k => XS.iconst X5.here hx rfl (hb hby at_104) k) ?_
      show Go p e below _ (T5.setTop (mkF m 105 #[.val (.int p0), .val (.int p1), .val (.int p2), .val (.int p3), .val (.int p4), .val (.int p5), .val (.int (0 : Int32)), .val (.int (1 : Int32)), .val (.ref b3), .val (.int (p5.toInt8.toInt32)), .unset] [(.int (3 : Int32)), (.int (1 : Int32))]))
      refine Go.st (fun _ k => XS.icmpYes X5.here hx rfl (pc0 := 105) (pc' := 117) rfl (hb hby at_105) rfl (flt (by decide : ¬ ((3 : Int32) < (1 : Int32)))).2.2.2 (by decide) (by decide) k) ?_
      show Go p e below _ (T5.setTop (mkF m 117 #[.val (.int p0), .val (.int p1), .val (.int p2), .val (.int p3), .val (.int p4), .val (.int p5), .val (.int (0 : Int32)), .val (.int (1 : Int32)), .val (.ref b3), .val (.int (p5.toInt8.toInt32)), .unset] []))
      refine Go.st (fun _ k => XS.aload X5.here hx rfl (hb hby at_117) rfl rfl k) ?_
      refine Go.st (fun _ k => XS.iload X5.here hx rfl (hb hby at_119) rfl k) ?_
      show Go p e below _ (T5.setTop (mkF m 121 #[.val (.int p0), .val (.int p1), .val (.int p2), .val (.int p3), .val (.int p4), .val (.int p5), .val (.int (0 : Int32)), .val (.int (1 : Int32)), .val (.ref b3), .val (.int (p5.toInt8.toInt32)), .unset] [(.int (0 : Int32)), (.ref b3)]))
      obtain ⟨_, _, ⟨T6, L6, k6, n6⟩, -, X6, ⟨Lc6, hQ6, l6, y6, z6⟩, st6⟩ := Jvm.LawKit.callS X5 hx (y := (⟨"com/example/apportis/apportis/Utf8", "characterEnd", "([BI)I"⟩ : MethodName)) hown (mvT hZ (hw _ (List.mem_of_getElem? (i := 1) rfl))) (mvT hZ (hw _ (List.mem_of_getElem? (i := 2) rfl))) (mvT hZ (hw _ (List.mem_of_getElem? (i := 3) rfl))) (mvT hZ (hw _ (List.mem_of_getElem? (i := 4) rfl))) (by decide) (backOf (W := 0) (rmCE l Z aZ hw [] (nar .byte (p0.toInt8.toInt32)) (0 : Int32) (0 : Int32) (0 : Int32) b3 (0 : Int32) k3 (1 : Int32) [(.int (nar .byte (p0.toInt8.toInt32)))] h5 n0 (by decide) (by decide) (by decide) rfl (fun h => absurd h (by decide)) (fun h => absurd h (by decide)) (fun h => absurd h (by decide)) V5) hZ (hw _ (List.mem_of_getElem? (i := 4) rfl)) (hw _ (List.mem_of_getElem? (i := 3) rfl)) (by decide) (by decide)) (g := (mkF m 121 #[.val (.int p0), .val (.int p1), .val (.int p2), .val (.int p3), .val (.int p4), .val (.int p5), .val (.int (0 : Int32)), .val (.int (1 : Int32)), .val (.ref b3), .val (.int (p5.toInt8.toInt32)), .unset] [(.int (0 : Int32)), (.ref b3)])) rfl (by rw [hml]; rfl) (argsL := [(.ref b3), (.int (0 : Int32))]) (rest := []) (lenOf pd92f6cd8e rfl) rfl (by show 2 * 0 + _ ≤ _; exact Nat.le_of_eq rfl) (hb hby at_121) (fun _ _ => ⟨rfl, e5, (by decide : 1 + 0 ≤ _), (by decide : 1 + 0 ≤ _)⟩)
      dsimp only [Pt.U, Pt.locs, Pt.cells, Pt.slots] at X6 l6 y6 z6 st6 hQ6
      subst l6 y6 z6
      obtain ⟨rfl, N6q, e6⟩ := hQ6
      have N6 := Fr.app N5 N6q
      refine Go.st (fun _ k => st6 _ k) ?_
      show Go p e below _ (T6.setTop (mkF m 124 #[.val (.int p0), .val (.int p1), .val (.int p2), .val (.int p3), .val (.int p4), .val (.int p5), .val (.int (0 : Int32)), .val (.int (1 : Int32)), .val (.ref b3), .val (.int (p5.toInt8.toInt32)), .unset] [(.int (fCE (nar .byte (p0.toInt8.toInt32)) (0 : Int32) (0 : Int32) (0 : Int32) (0 : Int32) (1 : Int32)))]))
      refine Go.st (fun _ k => XS.istore X6.here hx rfl (hb hby at_124) rfl (l' := #[.val (.int p0), .val (.int p1), .val (.int p2), .val (.int p3), .val (.int p4), .val (.int p5), .val (.int (0 : Int32)), .val (.int (1 : Int32)), .val (.ref b3), .val (.int (p5.toInt8.toInt32)), .val (.int (fCE (nar .byte (p0.toInt8.toInt32)) (0 : Int32) (0 : Int32) (0 : Int32) (0 : Int32) (1 : Int32)))]) rfl k) ?_
      show Go p e below _ (T6.setTop (mkF m 126 #[.val (.int p0), .val (.int p1), .val (.int p2), .val (.int p3), .val (.int p4), .val (.int p5), .val (.int (0 : Int32)), .val (.int (1 : Int32)), .val (.ref b3), .val (.int (p5.toInt8.toInt32)), .val (.int (fCE (nar .byte (p0.toInt8.toInt32)) (0 : Int32) (0 : Int32) (0 : Int32) (0 : Int32) (1 : Int32)))] []))
      refine Go.st (fun _ k => XS.iload X6.here hx rfl (hb hby at_126) rfl k) ?_
      refine Go.st (fun _ k => XS.iloadN X6.here hx rfl (hb hby at_128) rfl k) ?_
      show Go p e below _ (T6.setTop (mkF m 129 #[.val (.int p0), .val (.int p1), .val (.int p2), .val (.int p3), .val (.int p4), .val (.int p5), .val (.int (0 : Int32)), .val (.int (1 : Int32)), .val (.ref b3), .val (.int (p5.toInt8.toInt32)), .val (.int (fCE (nar .byte (p0.toInt8.toInt32)) (0 : Int32) (0 : Int32) (0 : Int32) (0 : Int32) (1 : Int32)))] [(.int p0), (.int (fCE (nar .byte (p0.toInt8.toInt32)) (0 : Int32) (0 : Int32) (0 : Int32) (0 : Int32) (1 : Int32)))]))
      refine Go.st (fun _ k => XS.sipush X6.here hx rfl (hb hby at_129) k) ?_
      refine Go.st (fun _ k => XS.iand X6.here hx rfl (hb hby at_132) rfl k) ?_
      show Go p e below _ (T6.setTop (mkF m 133 #[.val (.int p0), .val (.int p1), .val (.int p2), .val (.int p3), .val (.int p4), .val (.int p5), .val (.int (0 : Int32)), .val (.int (1 : Int32)), .val (.ref b3), .val (.int (p5.toInt8.toInt32)), .val (.int (fCE (nar .byte (p0.toInt8.toInt32)) (0 : Int32) (0 : Int32) (0 : Int32) (0 : Int32) (1 : Int32)))] [(.int (p0 &&& (255 : Int32))), (.int (fCE (nar .byte (p0.toInt8.toInt32)) (0 : Int32) (0 : Int32) (0 : Int32) (0 : Int32) (1 : Int32)))]))
      refine Go.st (fun _ k => XS.iloadN X6.here hx rfl (hb hby at_133) rfl k) ?_
      refine Go.st (fun _ k => XS.sipush X6.here hx rfl (hb hby at_134) k) ?_
      show Go p e below _ (T6.setTop (mkF m 137 #[.val (.int p0), .val (.int p1), .val (.int p2), .val (.int p3), .val (.int p4), .val (.int p5), .val (.int (0 : Int32)), .val (.int (1 : Int32)), .val (.ref b3), .val (.int (p5.toInt8.toInt32)), .val (.int (fCE (nar .byte (p0.toInt8.toInt32)) (0 : Int32) (0 : Int32) (0 : Int32) (0 : Int32) (1 : Int32)))] [(.int (255 : Int32)), (.int p1), (.int (p0 &&& (255 : Int32))), (.int (fCE (nar .byte (p0.toInt8.toInt32)) (0 : Int32) (0 : Int32) (0 : Int32) (0 : Int32) (1 : Int32)))]))
      refine Go.st (fun _ k => XS.iand X6.here hx rfl (hb hby at_137) rfl k) ?_
      refine Go.st (fun _ k => XS.iloadN X6.here hx rfl (hb hby at_138) rfl k) ?_
      show Go p e below _ (T6.setTop (mkF m 139 #[.val (.int p0), .val (.int p1), .val (.int p2), .val (.int p3), .val (.int p4), .val (.int p5), .val (.int (0 : Int32)), .val (.int (1 : Int32)), .val (.ref b3), .val (.int (p5.toInt8.toInt32)), .val (.int (fCE (nar .byte (p0.toInt8.toInt32)) (0 : Int32) (0 : Int32) (0 : Int32) (0 : Int32) (1 : Int32)))] [(.int p2), (.int (p1 &&& (255 : Int32))), (.int (p0 &&& (255 : Int32))), (.int (fCE (nar .byte (p0.toInt8.toInt32)) (0 : Int32) (0 : Int32) (0 : Int32) (0 : Int32) (1 : Int32)))]))
      refine Go.st (fun _ k => XS.sipush X6.here hx rfl (hb hby at_139) k) ?_
      refine Go.st (fun _ k => XS.iand X6.here hx rfl (hb hby at_142) rfl k) ?_
      show Go p e below _ (T6.setTop (mkF m 143 #[.val (.int p0), .val (.int p1), .val (.int p2), .val (.int p3), .val (.int p4), .val (.int p5), .val (.int (0 : Int32)), .val (.int (1 : Int32)), .val (.ref b3), .val (.int (p5.toInt8.toInt32)), .val (.int (fCE (nar .byte (p0.toInt8.toInt32)) (0 : Int32) (0 : Int32) (0 : Int32) (0 : Int32) (1 : Int32)))] [(.int (p2 &&& (255 : Int32))), (.int (p1 &&& (255 : Int32))), (.int (p0 &&& (255 : Int32))), (.int (fCE (nar .byte (p0.toInt8.toInt32)) (0 : Int32) (0 : Int32) (0 : Int32) (0 : Int32) (1 : Int32)))]))
      refine Go.st (fun _ k => XS.iloadN X6.here hx rfl (hb hby at_143) rfl k) ?_
      refine Go.st (fun _ k => XS.sipush X6.here hx rfl (hb hby at_144) k) ?_
      show Go p e below _ (T6.setTop (mkF m 147 #[.val (.int p0), .val (.int p1), .val (.int p2), .val (.int p3), .val (.int p4), .val (.int p5), .val (.int (0 : Int32)), .val (.int (1 : Int32)), .val (.ref b3), .val (.int (p5.toInt8.toInt32)), .val (.int (fCE (nar .byte (p0.toInt8.toInt32)) (0 : Int32) (0 : Int32) (0 : Int32) (0 : Int32) (1 : Int32)))] [(.int (255 : Int32)), (.int p3), (.int (p2 &&& (255 : Int32))), (.int (p1 &&& (255 : Int32))), (.int (p0 &&& (255 : Int32))), (.int (fCE (nar .byte (p0.toInt8.toInt32)) (0 : Int32) (0 : Int32) (0 : Int32) (0 : Int32) (1 : Int32)))]))
      refine Go.st (fun _ k => XS.iand X6.here hx rfl (hb hby at_147) rfl k) ?_
      refine Go.st (fun _ k => XS.iload X6.here hx rfl (hb hby at_148) rfl k) ?_
      show Go p e below _ (T6.setTop (mkF m 150 #[.val (.int p0), .val (.int p1), .val (.int p2), .val (.int p3), .val (.int p4), .val (.int p5), .val (.int (0 : Int32)), .val (.int (1 : Int32)), .val (.ref b3), .val (.int (p5.toInt8.toInt32)), .val (.int (fCE (nar .byte (p0.toInt8.toInt32)) (0 : Int32) (0 : Int32) (0 : Int32) (0 : Int32) (1 : Int32)))] [(.int (1 : Int32)), (.int (p3 &&& (255 : Int32))), (.int (p2 &&& (255 : Int32))), (.int (p1 &&& (255 : Int32))), (.int (p0 &&& (255 : Int32))), (.int (fCE (nar .byte (p0.toInt8.toInt32)) (0 : Int32) (0 : Int32) (0 : Int32) (0 : Int32) (1 : Int32)))]))
      refine Go.st (fun _ k => XS.iload X6.here hx rfl (hb hby at_150) rfl k) ?_
      show Go p e below _ (T6.setTop (mkF m 152 #[.val (.int p0), .val (.int p1), .val (.int p2), .val (.int p3), .val (.int p4), .val (.int p5), .val (.int (0 : Int32)), .val (.int (1 : Int32)), .val (.ref b3), .val (.int (p5.toInt8.toInt32)), .val (.int (fCE (nar .byte (p0.toInt8.toInt32)) (0 : Int32) (0 : Int32) (0 : Int32) (0 : Int32) (1 : Int32)))] [(.int (0 : Int32)), (.int (1 : Int32)), (.int (p3 &&& (255 : Int32))), (.int (p2 &&& (255 : Int32))), (.int (p1 &&& (255 : Int32))), (.int (p0 &&& (255 : Int32))), (.int (fCE (nar .byte (p0.toInt8.toInt32)) (0 : Int32) (0 : Int32) (0 : Int32) (0 : Int32) (1 : Int32)))]))
      obtain ⟨_, _, ⟨T7, L7, k7, n7⟩, -, X7, ⟨Lc7, hQ7, l7, y7, z7⟩, st7⟩ := Jvm.LawKit.callS X6 hx (y := (⟨"com/example/apportis/apportis/Utf8CharacterEndPinLaw", "expected", "(IIIIII)I"⟩ : MethodName)) hown (mvT hZ (hw _ (List.mem_of_getElem? (i := 5) rfl))) (mvT hZ (hw _ (List.mem_of_getElem? (i := 6) rfl))) (mvT hZ (hw _ (List.mem_of_getElem? (i := 7) rfl))) (mvT hZ (hw _ (List.mem_of_getElem? (i := 8) rfl))) (by decide) (backOf (W := 1) (rm2 l Z aZ hw [] (p0 &&& (255 : Int32)) (p1 &&& (255 : Int32)) (p2 &&& (255 : Int32)) (p3 &&& (255 : Int32)) (1 : Int32) (0 : Int32) h5 n0 ) hZ (hw _ (List.mem_of_getElem? (i := 8) rfl)) (hw _ (List.mem_of_getElem? (i := 7) rfl)) (by decide) (by decide)) (g := (mkF m 152 #[.val (.int p0), .val (.int p1), .val (.int p2), .val (.int p3), .val (.int p4), .val (.int p5), .val (.int (0 : Int32)), .val (.int (1 : Int32)), .val (.ref b3), .val (.int (p5.toInt8.toInt32)), .val (.int (fCE (nar .byte (p0.toInt8.toInt32)) (0 : Int32) (0 : Int32) (0 : Int32) (0 : Int32) (1 : Int32)))] [(.int (0 : Int32)), (.int (1 : Int32)), (.int (p3 &&& (255 : Int32))), (.int (p2 &&& (255 : Int32))), (.int (p1 &&& (255 : Int32))), (.int (p0 &&& (255 : Int32))), (.int (fCE (nar .byte (p0.toInt8.toInt32)) (0 : Int32) (0 : Int32) (0 : Int32) (0 : Int32) (1 : Int32)))])) rfl (by rw [hml]; rfl) (argsL := [(.int (p0 &&& (255 : Int32))), (.int (p1 &&& (255 : Int32))), (.int (p2 &&& (255 : Int32))), (.int (p3 &&& (255 : Int32))), (.int (1 : Int32)), (.int (0 : Int32))]) (rest := [(.int (fCE (nar .byte (p0.toInt8.toInt32)) (0 : Int32) (0 : Int32) (0 : Int32) (0 : Int32) (1 : Int32)))]) (lenOf pd41a2ea18 rfl) rfl (by show 2 * 0 + _ ≤ _; exact Nat.le_of_eq rfl) (hb hby at_152) (fun _ _ => ⟨rfl, e6, (by decide : 1 + 0 ≤ _), (by decide : 1 + 0 ≤ _)⟩)
      dsimp only [Pt.U, Pt.locs, Pt.cells, Pt.slots] at X7 l7 y7 z7 st7 hQ7
      subst l7 y7 z7
      obtain ⟨rfl, N7q, e7⟩ := hQ7
      have N7 := Fr.app N6 N7q
      refine Go.st (fun _ k => st7 _ k) ?_
      show Go p e below _ (T7.setTop (mkF m 155 #[.val (.int p0), .val (.int p1), .val (.int p2), .val (.int p3), .val (.int p4), .val (.int p5), .val (.int (0 : Int32)), .val (.int (1 : Int32)), .val (.ref b3), .val (.int (p5.toInt8.toInt32)), .val (.int (fCE (nar .byte (p0.toInt8.toInt32)) (0 : Int32) (0 : Int32) (0 : Int32) (0 : Int32) (1 : Int32)))] [(.int (fExp (p0 &&& (255 : Int32)) (p1 &&& (255 : Int32)) (p2 &&& (255 : Int32)) (p3 &&& (255 : Int32)) (1 : Int32) (0 : Int32))), (.int (fCE (nar .byte (p0.toInt8.toInt32)) (0 : Int32) (0 : Int32) (0 : Int32) (0 : Int32) (1 : Int32)))]))
      refine Go.st (fun _ k => XS.icmpNo X7.here hx rfl (hb hby at_155) rfl (teq (own_main p0 p1 p2 p3 (own_mask p0) (fun h => absurd h (by decide)) (fun h => absurd h (by decide)) (fun h => absurd h (by decide)) (by decide))).2 k) ?_
      show Go p e below _ (T7.setTop (mkF m 158 #[.val (.int p0), .val (.int p1), .val (.int p2), .val (.int p3), .val (.int p4), .val (.int p5), .val (.int (0 : Int32)), .val (.int (1 : Int32)), .val (.ref b3), .val (.int (p5.toInt8.toInt32)), .val (.int (fCE (nar .byte (p0.toInt8.toInt32)) (0 : Int32) (0 : Int32) (0 : Int32) (0 : Int32) (1 : Int32)))] []))
      refine Go.st (fun _ k => XS.iconst X7.here hx rfl (hb hby at_158) k) ?_
      refine Go.st (fun _ k => XS.goto X7.here hx rfl (pc0 := 159) (pc' := 163) rfl (hb hby at_159) (by decide) (by decide) k) ?_
      show Go p e below _ (T7.setTop (mkF m 163 #[.val (.int p0), .val (.int p1), .val (.int p2), .val (.int p3), .val (.int p4), .val (.int p5), .val (.int (0 : Int32)), .val (.int (1 : Int32)), .val (.ref b3), .val (.int (p5.toInt8.toInt32)), .val (.int (fCE (nar .byte (p0.toInt8.toInt32)) (0 : Int32) (0 : Int32) (0 : Int32) (0 : Int32) (1 : Int32)))] [(.int (1 : Int32))]))
      obtain ⟨fs, hr, hrun, hended, hW, hsame⟩ := X7.leave (v := some (.int (1 : Int32))) (fun h => by rw [Bd.returns] at h; cases h)
      refine ⟨_, _, retN X7 hx (t := .boolean) Bd.returns (by simp) (hb hby at_163) hr, hrun, hended, _, _, rfl, ?_, ⟨_, rfl⟩, hW, hsame.mono (by decide) (by decide)⟩
      show Q_rm0 Z p0 p1 p2 p3 p4 p5 h0 n0 _ T7.heap _
      rw [e7]
      exact ⟨rfl, N7⟩
    · rw [hr2]
      show Go p e below _ (s₁.setTop (mkF m 13 #[.val (.int p0), .val (.int p1), .val (.int p2), .val (.int p3), .val (.int p4), .val (.int p5), .val (.int (0 : Int32)), .unset, .unset, .unset, .unset] [(.int (1 : Int32)), (.int (1 : Int32))]))
      refine Go.st (fun _ k => XS.iadd X0.here hx rfl (hb hby at_13) rfl k) ?_
      refine Go.st (fun _ k => XS.istore X0.here hx rfl (hb hby at_14) rfl (l' := #[.val (.int p0), .val (.int p1), .val (.int p2), .val (.int p3), .val (.int p4), .val (.int p5), .val (.int (0 : Int32)), .val (.int (2 : Int32)), .unset, .unset, .unset]) rfl k) ?_
      show Go p e below _ (s₁.setTop (mkF m 16 #[.val (.int p0), .val (.int p1), .val (.int p2), .val (.int p3), .val (.int p4), .val (.int p5), .val (.int (0 : Int32)), .val (.int (2 : Int32)), .unset, .unset, .unset] []))
      refine Go.st (fun _ k => XS.iload X0.here hx rfl (hb hby at_16) rfl k) ?_
      refine Go.st (fun _ k => XS.iload X0.here hx rfl (hb hby at_18) rfl k) ?_
      show Go p e below _ (s₁.setTop (mkF m 20 #[.val (.int p0), .val (.int p1), .val (.int p2), .val (.int p3), .val (.int p4), .val (.int p5), .val (.int (0 : Int32)), .val (.int (2 : Int32)), .unset, .unset, .unset] [(.int (2 : Int32)), (.int (0 : Int32))]))
      refine Go.st (fun _ k => XS.iadd X0.here hx rfl (hb hby at_20) rfl k) ?_
      show Go p e below _ (s₁.setTop (mkF m 21 #[.val (.int p0), .val (.int p1), .val (.int p2), .val (.int p3), .val (.int p4), .val (.int p5), .val (.int (0 : Int32)), .val (.int (2 : Int32)), .unset, .unset, .unset] [(.int (2 : Int32))]))
      obtain ⟨T8, h8, k8, X8, e8, E8, A8, st8⟩ := newP X0 hx hZ (hw _ (List.mem_of_getElem? (i := 0) rfl)) e0 (g := (mkF m 21 #[.val (.int p0), .val (.int p1), .val (.int p2), .val (.int p3), .val (.int p4), .val (.int p5), .val (.int (0 : Int32)), .val (.int (2 : Int32)), .unset, .unset, .unset] [(.int (2 : Int32))])) rfl (hb hby at_21) rfl (by decide) (cap := 2) (by decide) (by decide) (by decide) (by decide)
      obtain ⟨b8, g8⟩ : ∃ z, z = h0.size := ⟨_, rfl⟩
      have gg8 : n0 ≤ b8 := Nat.le_trans Z0 (Nat.le_of_eq g8.symm)
      rw [← g8] at A8 st8
      have Z8 : n0 ≤ h8.size := Nat.le_trans Z0 E8.1
      have V8 : Arv Z h8 b8 k8 .byte (2 : Int32) [(.int (0 : Int32)), (.int (0 : Int32))] (.int (0 : Int32)) := (Arv.new A8 (by decide)).pad (pad_rep [] (.int (0 : Int32)) 2)
      refine Go.st (fun _ k => st8 _ k) ?_
      show Go p e below _ (T8.setTop (mkF m 23 #[.val (.int p0), .val (.int p1), .val (.int p2), .val (.int p3), .val (.int p4), .val (.int p5), .val (.int (0 : Int32)), .val (.int (2 : Int32)), .unset, .unset, .unset] [(.ref b8)]))
      refine Go.st (fun _ k => XS.astore X8.here hx rfl (hb hby at_23) rfl rfl (l' := #[.val (.int p0), .val (.int p1), .val (.int p2), .val (.int p3), .val (.int p4), .val (.int p5), .val (.int (0 : Int32)), .val (.int (2 : Int32)), .val (.ref b8), .unset, .unset]) rfl k) ?_
      show Go p e below _ (T8.setTop (mkF m 25 #[.val (.int p0), .val (.int p1), .val (.int p2), .val (.int p3), .val (.int p4), .val (.int p5), .val (.int (0 : Int32)), .val (.int (2 : Int32)), .val (.ref b8), .unset, .unset] []))
      refine Go.st (fun _ k => XS.iload X8.here hx rfl (hb hby at_25) rfl k) ?_
      refine Go.st (fun _ k => XS.i2b X8.here hx rfl (hb hby at_27) rfl k) ?_
      show Go p e below _ (T8.setTop (mkF m 28 #[.val (.int p0), .val (.int p1), .val (.int p2), .val (.int p3), .val (.int p4), .val (.int p5), .val (.int (0 : Int32)), .val (.int (2 : Int32)), .val (.ref b8), .unset, .unset] [(.int (p5.toInt8.toInt32))]))
      refine Go.st (fun _ k => XS.istore X8.here hx rfl (hb hby at_28) rfl (l' := #[.val (.int p0), .val (.int p1), .val (.int p2), .val (.int p3), .val (.int p4), .val (.int p5), .val (.int (0 : Int32)), .val (.int (2 : Int32)), .val (.ref b8), .val (.int (p5.toInt8.toInt32)), .unset]) rfl k) ?_
      show Go p e below _ (T8.setTop (mkF m 30 #[.val (.int p0), .val (.int p1), .val (.int p2), .val (.int p3), .val (.int p4), .val (.int p5), .val (.int (0 : Int32)), .val (.int (2 : Int32)), .val (.ref b8), .val (.int (p5.toInt8.toInt32)), .unset] []))
      refine Go.st (fun _ k => XS.iload X8.here hx rfl (hb hby at_30) rfl k) ?_
      refine Go.st (fun _ k => XS.ifYes X8.here hx rfl (pc0 := 32) (pc' := 41) rfl (hb hby at_32) rfl ((if0 _ _).trans (flt (by decide : ¬ ((0 : Int32) < (0 : Int32)))).2.2.2) (by decide) (by decide) k) ?_
      show Go p e below _ (T8.setTop (mkF m 41 #[.val (.int p0), .val (.int p1), .val (.int p2), .val (.int p3), .val (.int p4), .val (.int p5), .val (.int (0 : Int32)), .val (.int (2 : Int32)), .val (.ref b8), .val (.int (p5.toInt8.toInt32)), .unset] []))
      refine Go.st (fun _ k => XS.iload X8.here hx rfl (hb hby at_41) rfl k) ?_
      refine Go.st (fun _ k => XS.iconst X8.here hx rfl (hb hby at_43) k) ?_
      show Go p e below _ (T8.setTop (mkF m 44 #[.val (.int p0), .val (.int p1), .val (.int p2), .val (.int p3), .val (.int p4), .val (.int p5), .val (.int (0 : Int32)), .val (.int (2 : Int32)), .val (.ref b8), .val (.int (p5.toInt8.toInt32)), .unset] [(.int (1 : Int32)), (.int (0 : Int32))]))
      refine Go.st (fun _ k => XS.icmpYes X8.here hx rfl (pc0 := 44) (pc' := 53) rfl (hb hby at_44) rfl (flt (by decide : ¬ ((1 : Int32) < (0 : Int32)))).2.2.2 (by decide) (by decide) k) ?_
      show Go p e below _ (T8.setTop (mkF m 53 #[.val (.int p0), .val (.int p1), .val (.int p2), .val (.int p3), .val (.int p4), .val (.int p5), .val (.int (0 : Int32)), .val (.int (2 : Int32)), .val (.ref b8), .val (.int (p5.toInt8.toInt32)), .unset] []))
      refine Go.st (fun _ k => XS.iload X8.here hx rfl (hb hby at_53) rfl k) ?_
      refine Go.st (fun _ k => XS.iconst X8.here hx rfl (hb hby at_55) k) ?_
      show Go p e below _ (T8.setTop (mkF m 56 #[.val (.int p0), .val (.int p1), .val (.int p2), .val (.int p3), .val (.int p4), .val (.int p5), .val (.int (0 : Int32)), .val (.int (2 : Int32)), .val (.ref b8), .val (.int (p5.toInt8.toInt32)), .unset] [(.int (2 : Int32)), (.int (0 : Int32))]))
      refine Go.st (fun _ k => XS.icmpYes X8.here hx rfl (pc0 := 56) (pc' := 65) rfl (hb hby at_56) rfl (flt (by decide : ¬ ((2 : Int32) < (0 : Int32)))).2.2.2 (by decide) (by decide) k) ?_
      show Go p e below _ (T8.setTop (mkF m 65 #[.val (.int p0), .val (.int p1), .val (.int p2), .val (.int p3), .val (.int p4), .val (.int p5), .val (.int (0 : Int32)), .val (.int (2 : Int32)), .val (.ref b8), .val (.int (p5.toInt8.toInt32)), .unset] []))
      refine Go.st (fun _ k => XS.aload X8.here hx rfl (hb hby at_65) rfl rfl k) ?_
      refine Go.st (fun _ k => XS.iload X8.here hx rfl (hb hby at_67) rfl k) ?_
      show Go p e below _ (T8.setTop (mkF m 69 #[.val (.int p0), .val (.int p1), .val (.int p2), .val (.int p3), .val (.int p4), .val (.int p5), .val (.int (0 : Int32)), .val (.int (2 : Int32)), .val (.ref b8), .val (.int (p5.toInt8.toInt32)), .unset] [(.int (0 : Int32)), (.ref b8)]))
      refine Go.st (fun _ k => XS.iloadN X8.here hx rfl (hb hby at_69) rfl k) ?_
      refine Go.st (fun _ k => XS.i2b X8.here hx rfl (hb hby at_70) rfl k) ?_
      show Go p e below _ (T8.setTop (mkF m 71 #[.val (.int p0), .val (.int p1), .val (.int p2), .val (.int p3), .val (.int p4), .val (.int p5), .val (.int (0 : Int32)), .val (.int (2 : Int32)), .val (.ref b8), .val (.int (p5.toInt8.toInt32)), .unset] [(.int (p0.toInt8.toInt32)), (.int (0 : Int32)), (.ref b8)]))
      obtain ⟨cl9, Ar9, ck9, Sz9, Nn9, Hs9, Gs9⟩ := id V8
      have hin9 : ¬ ((0 : Int32) < 0 ∨ cl9.slots.size ≤ ((0 : Int32)).toNatClampNeg) := inb_of Sz9 ⟨by decide, by decide⟩
      obtain ⟨T10, h10, X10, e10, W10, st10⟩ := stB X8 hx hZ e8 Ar9 (j := (0 : Int32)) hin9 (g := (mkF m 71 #[.val (.int p0), .val (.int p1), .val (.int p2), .val (.int p3), .val (.int p4), .val (.int p5), .val (.int (0 : Int32)), .val (.int (2 : Int32)), .val (.ref b8), .val (.int (p5.toInt8.toInt32)), .unset] [(.int (p0.toInt8.toInt32)), (.int (0 : Int32)), (.ref b8)])) rfl rfl (hb hby at_71)
      have V10 : Arv Z h10 b8 k8 .byte (2 : Int32) [(.int (nar .byte (p0.toInt8.toInt32))), (.int (0 : Int32))] (.int (0 : Int32)) := Arv.set Ar9 ck9 Sz9 Nn9 Hs9 Gs9 (fits_nar_byte _) W10 0 rfl (Nat.le_of_ble_eq_true rfl)
      have N10 := Fr.snoc X10 N0 gg8
      have Z10 : n0 ≤ h10.size := by rw [W10.size]; exact Z8
      refine Go.st (fun _ k => st10 _ k) ?_
      show Go p e below _ (T10.setTop (mkF m 72 #[.val (.int p0), .val (.int p1), .val (.int p2), .val (.int p3), .val (.int p4), .val (.int p5), .val (.int (0 : Int32)), .val (.int (2 : Int32)), .val (.ref b8), .val (.int (p5.toInt8.toInt32)), .unset] []))
      refine Go.st (fun _ k => XS.iload X10.here hx rfl (hb hby at_72) rfl k) ?_
      refine Go.st (fun _ k => XS.iconst X10.here hx rfl (hb hby at_74) k) ?_
      show Go p e below _ (T10.setTop (mkF m 75 #[.val (.int p0), .val (.int p1), .val (.int p2), .val (.int p3), .val (.int p4), .val (.int p5), .val (.int (0 : Int32)), .val (.int (2 : Int32)), .val (.ref b8), .val (.int (p5.toInt8.toInt32)), .unset] [(.int (1 : Int32)), (.int (2 : Int32))]))
      refine Go.st (fun _ k => XS.icmpNo X10.here hx rfl (hb hby at_75) rfl (tlt (by decide : ((1 : Int32) < (2 : Int32)))).2.2.2 k) ?_
      show Go p e below _ (T10.setTop (mkF m 78 #[.val (.int p0), .val (.int p1), .val (.int p2), .val (.int p3), .val (.int p4), .val (.int p5), .val (.int (0 : Int32)), .val (.int (2 : Int32)), .val (.ref b8), .val (.int (p5.toInt8.toInt32)), .unset] []))
      refine Go.st (fun _ k => XS.aload X10.here hx rfl (hb hby at_78) rfl rfl k) ?_
      refine Go.st (fun _ k => XS.iload X10.here hx rfl (hb hby at_80) rfl k) ?_
      show Go p e below _ (T10.setTop (mkF m 82 #[.val (.int p0), .val (.int p1), .val (.int p2), .val (.int p3), .val (.int p4), .val (.int p5), .val (.int (0 : Int32)), .val (.int (2 : Int32)), .val (.ref b8), .val (.int (p5.toInt8.toInt32)), .unset] [(.int (0 : Int32)), (.ref b8)]))
      refine Go.st (fun _ k => XS.iconst X10.here hx rfl (hb hby at_82) k) ?_
      refine Go.st (fun _ k => XS.iadd X10.here hx rfl (hb hby at_83) rfl k) ?_
      show Go p e below _ (T10.setTop (mkF m 84 #[.val (.int p0), .val (.int p1), .val (.int p2), .val (.int p3), .val (.int p4), .val (.int p5), .val (.int (0 : Int32)), .val (.int (2 : Int32)), .val (.ref b8), .val (.int (p5.toInt8.toInt32)), .unset] [(.int (1 : Int32)), (.ref b8)]))
      refine Go.st (fun _ k => XS.iloadN X10.here hx rfl (hb hby at_84) rfl k) ?_
      refine Go.st (fun _ k => XS.i2b X10.here hx rfl (hb hby at_85) rfl k) ?_
      show Go p e below _ (T10.setTop (mkF m 86 #[.val (.int p0), .val (.int p1), .val (.int p2), .val (.int p3), .val (.int p4), .val (.int p5), .val (.int (0 : Int32)), .val (.int (2 : Int32)), .val (.ref b8), .val (.int (p5.toInt8.toInt32)), .unset] [(.int (p1.toInt8.toInt32)), (.int (1 : Int32)), (.ref b8)]))
      obtain ⟨cl11, Ar11, ck11, Sz11, Nn11, Hs11, Gs11⟩ := id V10
      have hin11 : ¬ ((1 : Int32) < 0 ∨ cl11.slots.size ≤ ((1 : Int32)).toNatClampNeg) := inb_of Sz11 ⟨by decide, by decide⟩
      obtain ⟨T12, h12, X12, e12, W12, st12⟩ := stB X10 hx hZ e10 Ar11 (j := (1 : Int32)) hin11 (g := (mkF m 86 #[.val (.int p0), .val (.int p1), .val (.int p2), .val (.int p3), .val (.int p4), .val (.int p5), .val (.int (0 : Int32)), .val (.int (2 : Int32)), .val (.ref b8), .val (.int (p5.toInt8.toInt32)), .unset] [(.int (p1.toInt8.toInt32)), (.int (1 : Int32)), (.ref b8)])) rfl rfl (hb hby at_86)
      have V12 : Arv Z h12 b8 k8 .byte (2 : Int32) [(.int (nar .byte (p0.toInt8.toInt32))), (.int (nar .byte (p1.toInt8.toInt32)))] (.int (0 : Int32)) := Arv.set Ar11 ck11 Sz11 Nn11 Hs11 Gs11 (fits_nar_byte _) W12 1 rfl (Nat.le_of_ble_eq_true rfl)
      have N12 := Fr.snoc X12 N10 gg8
      have Z12 : n0 ≤ h12.size := by rw [W12.size]; exact Z10
      refine Go.st (fun _ k => st12 _ k) ?_
      show Go p e below _ (T12.setTop (mkF m 87 #[.val (.int p0), .val (.int p1), .val (.int p2), .val (.int p3), .val (.int p4), .val (.int p5), .val (.int (0 : Int32)), .val (.int (2 : Int32)), .val (.ref b8), .val (.int (p5.toInt8.toInt32)), .unset] []))
      refine Go.st (fun _ k => XS.iload X12.here hx rfl (hb hby at_87) rfl k) ?_
      refine Go.st (fun _ k => XS.iconst X12.here hx rfl (hb hby at_89) k) ?_
      show Go p e below _ (T12.setTop (mkF m 90 #[.val (.int p0), .val (.int p1), .val (.int p2), .val (.int p3), .val (.int p4), .val (.int p5), .val (.int (0 : Int32)), .val (.int (2 : Int32)), .val (.ref b8), .val (.int (p5.toInt8.toInt32)), .unset] [(.int (2 : Int32)), (.int (2 : Int32))]))
      refine Go.st (fun _ k => XS.icmpYes X12.here hx rfl (pc0 := 90) (pc' := 102) rfl (hb hby at_90) rfl (flt (by decide : ¬ ((2 : Int32) < (2 : Int32)))).2.2.2 (by decide) (by decide) k) ?_
      show Go p e below _ (T12.setTop (mkF m 102 #[.val (.int p0), .val (.int p1), .val (.int p2), .val (.int p3), .val (.int p4), .val (.int p5), .val (.int (0 : Int32)), .val (.int (2 : Int32)), .val (.ref b8), .val (.int (p5.toInt8.toInt32)), .unset] []))
      refine Go.st (fun _ k => XS.iload X12.here hx rfl (hb hby at_102) rfl k) ?_
      refine Go.st (fun _ k => XS.iconst X12.here hx rfl (hb hby at_104) k) ?_
      show Go p e below _ (T12.setTop (mkF m 105 #[.val (.int p0), .val (.int p1), .val (.int p2), .val (.int p3), .val (.int p4), .val (.int p5), .val (.int (0 : Int32)), .val (.int (2 : Int32)), .val (.ref b8), .val (.int (p5.toInt8.toInt32)), .unset] [(.int (3 : Int32)), (.int (2 : Int32))]))
      refine Go.st (fun _ k => XS.icmpYes X12.here hx rfl (pc0 := 105) (pc' := 117) rfl (hb hby at_105) rfl (flt (by decide : ¬ ((3 : Int32) < (2 : Int32)))).2.2.2 (by decide) (by decide) k) ?_
      show Go p e below _ (T12.setTop (mkF m 117 #[.val (.int p0), .val (.int p1), .val (.int p2), .val (.int p3), .val (.int p4), .val (.int p5), .val (.int (0 : Int32)), .val (.int (2 : Int32)), .val (.ref b8), .val (.int (p5.toInt8.toInt32)), .unset] []))
      refine Go.st (fun _ k => XS.aload X12.here hx rfl (hb hby at_117) rfl rfl k) ?_
      refine Go.st (fun _ k => XS.iload X12.here hx rfl (hb hby at_119) rfl k) ?_
      show Go p e below _ (T12.setTop (mkF m 121 #[.val (.int p0), .val (.int p1), .val (.int p2), .val (.int p3), .val (.int p4), .val (.int p5), .val (.int (0 : Int32)), .val (.int (2 : Int32)), .val (.ref b8), .val (.int (p5.toInt8.toInt32)), .unset] [(.int (0 : Int32)), (.ref b8)]))
      obtain ⟨_, _, ⟨T13, L13, k13, n13⟩, -, X13, ⟨Lc13, hQ13, l13, y13, z13⟩, st13⟩ := Jvm.LawKit.callS X12 hx (y := (⟨"com/example/apportis/apportis/Utf8", "characterEnd", "([BI)I"⟩ : MethodName)) hown (mvT hZ (hw _ (List.mem_of_getElem? (i := 1) rfl))) (mvT hZ (hw _ (List.mem_of_getElem? (i := 2) rfl))) (mvT hZ (hw _ (List.mem_of_getElem? (i := 3) rfl))) (mvT hZ (hw _ (List.mem_of_getElem? (i := 4) rfl))) (by decide) (backOf (W := 0) (rmCE l Z aZ hw [] (nar .byte (p0.toInt8.toInt32)) (nar .byte (p1.toInt8.toInt32)) (0 : Int32) (0 : Int32) b8 (0 : Int32) k8 (2 : Int32) [(.int (nar .byte (p0.toInt8.toInt32))), (.int (nar .byte (p1.toInt8.toInt32)))] h12 n0 (by decide) (by decide) (by decide) rfl (fun _ => rfl) (fun h => absurd h (by decide)) (fun h => absurd h (by decide)) V12) hZ (hw _ (List.mem_of_getElem? (i := 4) rfl)) (hw _ (List.mem_of_getElem? (i := 3) rfl)) (by decide) (by decide)) (g := (mkF m 121 #[.val (.int p0), .val (.int p1), .val (.int p2), .val (.int p3), .val (.int p4), .val (.int p5), .val (.int (0 : Int32)), .val (.int (2 : Int32)), .val (.ref b8), .val (.int (p5.toInt8.toInt32)), .unset] [(.int (0 : Int32)), (.ref b8)])) rfl (by rw [hml]; rfl) (argsL := [(.ref b8), (.int (0 : Int32))]) (rest := []) (lenOf pd92f6cd8e rfl) rfl (by show 2 * 0 + _ ≤ _; exact Nat.le_of_eq rfl) (hb hby at_121) (fun _ _ => ⟨rfl, e12, (by decide : 1 + 0 ≤ _), (by decide : 2 + 0 ≤ _)⟩)
      dsimp only [Pt.U, Pt.locs, Pt.cells, Pt.slots] at X13 l13 y13 z13 st13 hQ13
      subst l13 y13 z13
      obtain ⟨rfl, N13q, e13⟩ := hQ13
      have N13 := Fr.app N12 N13q
      refine Go.st (fun _ k => st13 _ k) ?_
      show Go p e below _ (T13.setTop (mkF m 124 #[.val (.int p0), .val (.int p1), .val (.int p2), .val (.int p3), .val (.int p4), .val (.int p5), .val (.int (0 : Int32)), .val (.int (2 : Int32)), .val (.ref b8), .val (.int (p5.toInt8.toInt32)), .unset] [(.int (fCE (nar .byte (p0.toInt8.toInt32)) (nar .byte (p1.toInt8.toInt32)) (0 : Int32) (0 : Int32) (0 : Int32) (2 : Int32)))]))
      refine Go.st (fun _ k => XS.istore X13.here hx rfl (hb hby at_124) rfl (l' := #[.val (.int p0), .val (.int p1), .val (.int p2), .val (.int p3), .val (.int p4), .val (.int p5), .val (.int (0 : Int32)), .val (.int (2 : Int32)), .val (.ref b8), .val (.int (p5.toInt8.toInt32)), .val (.int (fCE (nar .byte (p0.toInt8.toInt32)) (nar .byte (p1.toInt8.toInt32)) (0 : Int32) (0 : Int32) (0 : Int32) (2 : Int32)))]) rfl k) ?_
      show Go p e below _ (T13.setTop (mkF m 126 #[.val (.int p0), .val (.int p1), .val (.int p2), .val (.int p3), .val (.int p4), .val (.int p5), .val (.int (0 : Int32)), .val (.int (2 : Int32)), .val (.ref b8), .val (.int (p5.toInt8.toInt32)), .val (.int (fCE (nar .byte (p0.toInt8.toInt32)) (nar .byte (p1.toInt8.toInt32)) (0 : Int32) (0 : Int32) (0 : Int32) (2 : Int32)))] []))
      refine Go.st (fun _ k => XS.iload X13.here hx rfl (hb hby at_126) rfl k) ?_
      refine Go.st (fun _ k => XS.iloadN X13.here hx rfl (hb hby at_128) rfl k) ?_
      show Go p e below _ (T13.setTop (mkF m 129 #[.val (.int p0), .val (.int p1), .val (.int p2), .val (.int p3), .val (.int p4), .val (.int p5), .val (.int (0 : Int32)), .val (.int (2 : Int32)), .val (.ref b8), .val (.int (p5.toInt8.toInt32)), .val (.int (fCE (nar .byte (p0.toInt8.toInt32)) (nar .byte (p1.toInt8.toInt32)) (0 : Int32) (0 : Int32) (0 : Int32) (2 : Int32)))] [(.int p0), (.int (fCE (nar .byte (p0.toInt8.toInt32)) (nar .byte (p1.toInt8.toInt32)) (0 : Int32) (0 : Int32) (0 : Int32) (2 : Int32)))]))
      refine Go.st (fun _ k => XS.sipush X13.here hx rfl (hb hby at_129) k) ?_
      refine Go.st (fun _ k => XS.iand X13.here hx rfl (hb hby at_132) rfl k) ?_
      show Go p e below _ (T13.setTop (mkF m 133 #[.val (.int p0), .val (.int p1), .val (.int p2), .val (.int p3), .val (.int p4), .val (.int p5), .val (.int (0 : Int32)), .val (.int (2 : Int32)), .val (.ref b8), .val (.int (p5.toInt8.toInt32)), .val (.int (fCE (nar .byte (p0.toInt8.toInt32)) (nar .byte (p1.toInt8.toInt32)) (0 : Int32) (0 : Int32) (0 : Int32) (2 : Int32)))] [(.int (p0 &&& (255 : Int32))), (.int (fCE (nar .byte (p0.toInt8.toInt32)) (nar .byte (p1.toInt8.toInt32)) (0 : Int32) (0 : Int32) (0 : Int32) (2 : Int32)))]))
      refine Go.st (fun _ k => XS.iloadN X13.here hx rfl (hb hby at_133) rfl k) ?_
      refine Go.st (fun _ k => XS.sipush X13.here hx rfl (hb hby at_134) k) ?_
      show Go p e below _ (T13.setTop (mkF m 137 #[.val (.int p0), .val (.int p1), .val (.int p2), .val (.int p3), .val (.int p4), .val (.int p5), .val (.int (0 : Int32)), .val (.int (2 : Int32)), .val (.ref b8), .val (.int (p5.toInt8.toInt32)), .val (.int (fCE (nar .byte (p0.toInt8.toInt32)) (nar .byte (p1.toInt8.toInt32)) (0 : Int32) (0 : Int32) (0 : Int32) (2 : Int32)))] [(.int (255 : Int32)), (.int p1), (.int (p0 &&& (255 : Int32))), (.int (fCE (nar .byte (p0.toInt8.toInt32)) (nar .byte (p1.toInt8.toInt32)) (0 : Int32) (0 : Int32) (0 : Int32) (2 : Int32)))]))
      refine Go.st (fun _ k => XS.iand X13.here hx rfl (hb hby at_137) rfl k) ?_
      refine Go.st (fun _ k => XS.iloadN X13.here hx rfl (hb hby at_138) rfl k) ?_
      show Go p e below _ (T13.setTop (mkF m 139 #[.val (.int p0), .val (.int p1), .val (.int p2), .val (.int p3), .val (.int p4), .val (.int p5), .val (.int (0 : Int32)), .val (.int (2 : Int32)), .val (.ref b8), .val (.int (p5.toInt8.toInt32)), .val (.int (fCE (nar .byte (p0.toInt8.toInt32)) (nar .byte (p1.toInt8.toInt32)) (0 : Int32) (0 : Int32) (0 : Int32) (2 : Int32)))] [(.int p2), (.int (p1 &&& (255 : Int32))), (.int (p0 &&& (255 : Int32))), (.int (fCE (nar .byte (p0.toInt8.toInt32)) (nar .byte (p1.toInt8.toInt32)) (0 : Int32) (0 : Int32) (0 : Int32) (2 : Int32)))]))
      refine Go.st (fun _ k => XS.sipush X13.here hx rfl (hb hby at_139) k) ?_
      refine Go.st (fun _ k => XS.iand X13.here hx rfl (hb hby at_142) rfl k) ?_
      show Go p e below _ (T13.setTop (mkF m 143 #[.val (.int p0), .val (.int p1), .val (.int p2), .val (.int p3), .val (.int p4), .val (.int p5), .val (.int (0 : Int32)), .val (.int (2 : Int32)), .val (.ref b8), .val (.int (p5.toInt8.toInt32)), .val (.int (fCE (nar .byte (p0.toInt8.toInt32)) (nar .byte (p1.toInt8.toInt32)) (0 : Int32) (0 : Int32) (0 : Int32) (2 : Int32)))] [(.int (p2 &&& (255 : Int32))), (.int (p1 &&& (255 : Int32))), (.int (p0 &&& (255 : Int32))), (.int (fCE (nar .byte (p0.toInt8.toInt32)) (nar .byte (p1.toInt8.toInt32)) (0 : Int32) (0 : Int32) (0 : Int32) (2 : Int32)))]))
      refine Go.st (fun _ k => XS.iloadN X13.here hx rfl (hb hby at_143) rfl k) ?_
      refine Go.st (fun _ k => XS.sipush X13.here hx rfl (hb hby at_144) k) ?_
      show Go p e below _ (T13.setTop (mkF m 147 #[.val (.int p0), .val (.int p1), .val (.int p2), .val (.int p3), .val (.int p4), .val (.int p5), .val (.int (0 : Int32)), .val (.int (2 : Int32)), .val (.ref b8), .val (.int (p5.toInt8.toInt32)), .val (.int (fCE (nar .byte (p0.toInt8.toInt32)) (nar .byte (p1.toInt8.toInt32)) (0 : Int32) (0 : Int32) (0 : Int32) (2 : Int32)))] [(.int (255 : Int32)), (.int p3), (.int (p2 &&& (255 : Int32))), (.int (p1 &&& (255 : Int32))), (.int (p0 &&& (255 : Int32))), (.int (fCE (nar .byte (p0.toInt8.toInt32)) (nar .byte (p1.toInt8.toInt32)) (0 : Int32) (0 : Int32) (0 : Int32) (2 : Int32)))]))
      refine Go.st (fun _ k => XS.iand X13.here hx rfl (hb hby at_147) rfl k) ?_
      refine Go.st (fun _ k => XS.iload X13.here hx rfl (hb hby at_148) rfl k) ?_
      show Go p e below _ (T13.setTop (mkF m 150 #[.val (.int p0), .val (.int p1), .val (.int p2), .val (.int p3), .val (.int p4), .val (.int p5), .val (.int (0 : Int32)), .val (.int (2 : Int32)), .val (.ref b8), .val (.int (p5.toInt8.toInt32)), .val (.int (fCE (nar .byte (p0.toInt8.toInt32)) (nar .byte (p1.toInt8.toInt32)) (0 : Int32) (0 : Int32) (0 : Int32) (2 : Int32)))] [(.int (2 : Int32)), (.int (p3 &&& (255 : Int32))), (.int (p2 &&& (255 : Int32))), (.int (p1 &&& (255 : Int32))), (.int (p0 &&& (255 : Int32))), (.int (fCE (nar .byte (p0.toInt8.toInt32)) (nar .byte (p1.toInt8.toInt32)) (0 : Int32) (0 : Int32) (0 : Int32) (2 : Int32)))]))
      refine Go.st (fun _ k => XS.iload X13.here hx rfl (hb hby at_150) rfl k) ?_
      show Go p e below _ (T13.setTop (mkF m 152 #[.val (.int p0), .val (.int p1), .val (.int p2), .val (.int p3), .val (.int p4), .val (.int p5), .val (.int (0 : Int32)), .val (.int (2 : Int32)), .val (.ref b8), .val (.int (p5.toInt8.toInt32)), .val (.int (fCE (nar .byte (p0.toInt8.toInt32)) (nar .byte (p1.toInt8.toInt32)) (0 : Int32) (0 : Int32) (0 : Int32) (2 : Int32)))] [(.int (0 : Int32)), (.int (2 : Int32)), (.int (p3 &&& (255 : Int32))), (.int (p2 &&& (255 : Int32))), (.int (p1 &&& (255 : Int32))), (.int (p0 &&& (255 : Int32))), (.int (fCE (nar .byte (p0.toInt8.toInt32)) (nar .byte (p1.toInt8.toInt32)) (0 : Int32) (0 : Int32) (0 : Int32) (2 : Int32)))]))
      obtain ⟨_, _, ⟨T14, L14, k14, n14⟩, -, X14, ⟨Lc14, hQ14, l14, y14, z14⟩, st14⟩ := Jvm.LawKit.callS X13 hx (y := (⟨"com/example/apportis/apportis/Utf8CharacterEndPinLaw", "expected", "(IIIIII)I"⟩ : MethodName)) hown (mvT hZ (hw _ (List.mem_of_getElem? (i := 5) rfl))) (mvT hZ (hw _ (List.mem_of_getElem? (i := 6) rfl))) (mvT hZ (hw _ (List.mem_of_getElem? (i := 7) rfl))) (mvT hZ (hw _ (List.mem_of_getElem? (i := 8) rfl))) (by decide) (backOf (W := 1) (rm2 l Z aZ hw [] (p0 &&& (255 : Int32)) (p1 &&& (255 : Int32)) (p2 &&& (255 : Int32)) (p3 &&& (255 : Int32)) (2 : Int32) (0 : Int32) h12 n0 ) hZ (hw _ (List.mem_of_getElem? (i := 8) rfl)) (hw _ (List.mem_of_getElem? (i := 7) rfl)) (by decide) (by decide)) (g := (mkF m 152 #[.val (.int p0), .val (.int p1), .val (.int p2), .val (.int p3), .val (.int p4), .val (.int p5), .val (.int (0 : Int32)), .val (.int (2 : Int32)), .val (.ref b8), .val (.int (p5.toInt8.toInt32)), .val (.int (fCE (nar .byte (p0.toInt8.toInt32)) (nar .byte (p1.toInt8.toInt32)) (0 : Int32) (0 : Int32) (0 : Int32) (2 : Int32)))] [(.int (0 : Int32)), (.int (2 : Int32)), (.int (p3 &&& (255 : Int32))), (.int (p2 &&& (255 : Int32))), (.int (p1 &&& (255 : Int32))), (.int (p0 &&& (255 : Int32))), (.int (fCE (nar .byte (p0.toInt8.toInt32)) (nar .byte (p1.toInt8.toInt32)) (0 : Int32) (0 : Int32) (0 : Int32) (2 : Int32)))])) rfl (by rw [hml]; rfl) (argsL := [(.int (p0 &&& (255 : Int32))), (.int (p1 &&& (255 : Int32))), (.int (p2 &&& (255 : Int32))), (.int (p3 &&& (255 : Int32))), (.int (2 : Int32)), (.int (0 : Int32))]) (rest := [(.int (fCE (nar .byte (p0.toInt8.toInt32)) (nar .byte (p1.toInt8.toInt32)) (0 : Int32) (0 : Int32) (0 : Int32) (2 : Int32)))]) (lenOf pd41a2ea18 rfl) rfl (by show 2 * 0 + _ ≤ _; exact Nat.le_of_eq rfl) (hb hby at_152) (fun _ _ => ⟨rfl, e13, (by decide : 1 + 0 ≤ _), (by decide : 2 + 0 ≤ _)⟩)
      dsimp only [Pt.U, Pt.locs, Pt.cells, Pt.slots] at X14 l14 y14 z14 st14 hQ14
      subst l14 y14 z14
      obtain ⟨rfl, N14q, e14⟩ := hQ14
      have N14 := Fr.app N13 N14q
      refine Go.st (fun _ k => st14 _ k) ?_
      show Go p e below _ (T14.setTop (mkF m 155 #[.val (.int p0), .val (.int p1), .val (.int p2), .val (.int p3), .val (.int p4), .val (.int p5), .val (.int (0 : Int32)), .val (.int (2 : Int32)), .val (.ref b8), .val (.int (p5.toInt8.toInt32)), .val (.int (fCE (nar .byte (p0.toInt8.toInt32)) (nar .byte (p1.toInt8.toInt32)) (0 : Int32) (0 : Int32) (0 : Int32) (2 : Int32)))] [(.int (fExp (p0 &&& (255 : Int32)) (p1 &&& (255 : Int32)) (p2 &&& (255 : Int32)) (p3 &&& (255 : Int32)) (2 : Int32) (0 : Int32))), (.int (fCE (nar .byte (p0.toInt8.toInt32)) (nar .byte (p1.toInt8.toInt32)) (0 : Int32) (0 : Int32) (0 : Int32) (2 : Int32)))]))
      refine Go.st (fun _ k => XS.icmpNo X14.here hx rfl (hb hby at_155) rfl (teq (own_main p0 p1 p2 p3 (own_mask p0) (fun _ => own_mask p1) (fun h => absurd h (by decide)) (fun h => absurd h (by decide)) (by decide))).2 k) ?_
      show Go p e below _ (T14.setTop (mkF m 158 #[.val (.int p0), .val (.int p1), .val (.int p2), .val (.int p3), .val (.int p4), .val (.int p5), .val (.int (0 : Int32)), .val (.int (2 : Int32)), .val (.ref b8), .val (.int (p5.toInt8.toInt32)), .val (.int (fCE (nar .byte (p0.toInt8.toInt32)) (nar .byte (p1.toInt8.toInt32)) (0 : Int32) (0 : Int32) (0 : Int32) (2 : Int32)))] []))
      refine Go.st (fun _ k => XS.iconst X14.here hx rfl (hb hby at_158) k) ?_
      refine Go.st (fun _ k => XS.goto X14.here hx rfl (pc0 := 159) (pc' := 163) rfl (hb hby at_159) (by decide) (by decide) k) ?_
      show Go p e below _ (T14.setTop (mkF m 163 #[.val (.int p0), .val (.int p1), .val (.int p2), .val (.int p3), .val (.int p4), .val (.int p5), .val (.int (0 : Int32)), .val (.int (2 : Int32)), .val (.ref b8), .val (.int (p5.toInt8.toInt32)), .val (.int (fCE (nar .byte (p0.toInt8.toInt32)) (nar .byte (p1.toInt8.toInt32)) (0 : Int32) (0 : Int32) (0 : Int32) (2 : Int32)))] [(.int (1 : Int32))]))
      obtain ⟨fs, hr, hrun, hended, hW, hsame⟩ := X14.leave (v := some (.int (1 : Int32))) (fun h => by rw [Bd.returns] at h; cases h)
      refine ⟨_, _, retN X14 hx (t := .boolean) Bd.returns (by simp) (hb hby at_163) hr, hrun, hended, _, _, rfl, ?_, ⟨_, rfl⟩, hW, hsame.mono (by decide) (by decide)⟩
      show Q_rm0 Z p0 p1 p2 p3 p4 p5 h0 n0 _ T14.heap _
      rw [e14]
      exact ⟨rfl, N14⟩
    · rw [hr2]
      show Go p e below _ (s₁.setTop (mkF m 13 #[.val (.int p0), .val (.int p1), .val (.int p2), .val (.int p3), .val (.int p4), .val (.int p5), .val (.int (0 : Int32)), .unset, .unset, .unset, .unset] [(.int (2 : Int32)), (.int (1 : Int32))]))
      refine Go.st (fun _ k => XS.iadd X0.here hx rfl (hb hby at_13) rfl k) ?_
      refine Go.st (fun _ k => XS.istore X0.here hx rfl (hb hby at_14) rfl (l' := #[.val (.int p0), .val (.int p1), .val (.int p2), .val (.int p3), .val (.int p4), .val (.int p5), .val (.int (0 : Int32)), .val (.int (3 : Int32)), .unset, .unset, .unset]) rfl k) ?_
      show Go p e below _ (s₁.setTop (mkF m 16 #[.val (.int p0), .val (.int p1), .val (.int p2), .val (.int p3), .val (.int p4), .val (.int p5), .val (.int (0 : Int32)), .val (.int (3 : Int32)), .unset, .unset, .unset] []))
      refine Go.st (fun _ k => XS.iload X0.here hx rfl (hb hby at_16) rfl k) ?_
      refine Go.st (fun _ k => XS.iload X0.here hx rfl (hb hby at_18) rfl k) ?_
      show Go p e below _ (s₁.setTop (mkF m 20 #[.val (.int p0), .val (.int p1), .val (.int p2), .val (.int p3), .val (.int p4), .val (.int p5), .val (.int (0 : Int32)), .val (.int (3 : Int32)), .unset, .unset, .unset] [(.int (3 : Int32)), (.int (0 : Int32))]))
      refine Go.st (fun _ k => XS.iadd X0.here hx rfl (hb hby at_20) rfl k) ?_
      show Go p e below _ (s₁.setTop (mkF m 21 #[.val (.int p0), .val (.int p1), .val (.int p2), .val (.int p3), .val (.int p4), .val (.int p5), .val (.int (0 : Int32)), .val (.int (3 : Int32)), .unset, .unset, .unset] [(.int (3 : Int32))]))
      obtain ⟨T15, h15, k15, X15, e15, E15, A15, st15⟩ := newP X0 hx hZ (hw _ (List.mem_of_getElem? (i := 0) rfl)) e0 (g := (mkF m 21 #[.val (.int p0), .val (.int p1), .val (.int p2), .val (.int p3), .val (.int p4), .val (.int p5), .val (.int (0 : Int32)), .val (.int (3 : Int32)), .unset, .unset, .unset] [(.int (3 : Int32))])) rfl (hb hby at_21) rfl (by decide) (cap := 3) (by decide) (by decide) (by decide) (by decide)
      obtain ⟨b15, g15⟩ : ∃ z, z = h0.size := ⟨_, rfl⟩
      have gg15 : n0 ≤ b15 := Nat.le_trans Z0 (Nat.le_of_eq g15.symm)
      rw [← g15] at A15 st15
      have Z15 : n0 ≤ h15.size := Nat.le_trans Z0 E15.1
      have V15 : Arv Z h15 b15 k15 .byte (3 : Int32) [(.int (0 : Int32)), (.int (0 : Int32)), (.int (0 : Int32))] (.int (0 : Int32)) := (Arv.new A15 (by decide)).pad (pad_rep [] (.int (0 : Int32)) 3)
      refine Go.st (fun _ k => st15 _ k) ?_
      show Go p e below _ (T15.setTop (mkF m 23 #[.val (.int p0), .val (.int p1), .val (.int p2), .val (.int p3), .val (.int p4), .val (.int p5), .val (.int (0 : Int32)), .val (.int (3 : Int32)), .unset, .unset, .unset] [(.ref b15)]))
      refine Go.st (fun _ k => XS.astore X15.here hx rfl (hb hby at_23) rfl rfl (l' := #[.val (.int p0), .val (.int p1), .val (.int p2), .val (.int p3), .val (.int p4), .val (.int p5), .val (.int (0 : Int32)), .val (.int (3 : Int32)), .val (.ref b15), .unset, .unset]) rfl k) ?_
      show Go p e below _ (T15.setTop (mkF m 25 #[.val (.int p0), .val (.int p1), .val (.int p2), .val (.int p3), .val (.int p4), .val (.int p5), .val (.int (0 : Int32)), .val (.int (3 : Int32)), .val (.ref b15), .unset, .unset] []))
      refine Go.st (fun _ k => XS.iload X15.here hx rfl (hb hby at_25) rfl k) ?_
      refine Go.st (fun _ k => XS.i2b X15.here hx rfl (hb hby at_27) rfl k) ?_
      show Go p e below _ (T15.setTop (mkF m 28 #[.val (.int p0), .val (.int p1), .val (.int p2), .val (.int p3), .val (.int p4), .val (.int p5), .val (.int (0 : Int32)), .val (.int (3 : Int32)), .val (.ref b15), .unset, .unset] [(.int (p5.toInt8.toInt32))]))
      refine Go.st (fun _ k => XS.istore X15.here hx rfl (hb hby at_28) rfl (l' := #[.val (.int p0), .val (.int p1), .val (.int p2), .val (.int p3), .val (.int p4), .val (.int p5), .val (.int (0 : Int32)), .val (.int (3 : Int32)), .val (.ref b15), .val (.int (p5.toInt8.toInt32)), .unset]) rfl k) ?_
      show Go p e below _ (T15.setTop (mkF m 30 #[.val (.int p0), .val (.int p1), .val (.int p2), .val (.int p3), .val (.int p4), .val (.int p5), .val (.int (0 : Int32)), .val (.int (3 : Int32)), .val (.ref b15), .val (.int (p5.toInt8.toInt32)), .unset] []))
      refine Go.st (fun _ k => XS.iload X15.here hx rfl (hb hby at_30) rfl k) ?_
      refine Go.st (fun _ k => XS.ifYes X15.here hx rfl (pc0 := 32) (pc' := 41) rfl (hb hby at_32) rfl ((if0 _ _).trans (flt (by decide : ¬ ((0 : Int32) < (0 : Int32)))).2.2.2) (by decide) (by decide) k) ?_
      show Go p e below _ (T15.setTop (mkF m 41 #[.val (.int p0), .val (.int p1), .val (.int p2), .val (.int p3), .val (.int p4), .val (.int p5), .val (.int (0 : Int32)), .val (.int (3 : Int32)), .val (.ref b15), .val (.int (p5.toInt8.toInt32)), .unset] []))
      refine Go.st (fun _ k => XS.iload X15.here hx rfl (hb hby at_41) rfl k) ?_
      refine Go.st (fun _ k => XS.iconst X15.here hx rfl (hb hby at_43) k) ?_
      show Go p e below _ (T15.setTop (mkF m 44 #[.val (.int p0), .val (.int p1), .val (.int p2), .val (.int p3), .val (.int p4), .val (.int p5), .val (.int (0 : Int32)), .val (.int (3 : Int32)), .val (.ref b15), .val (.int (p5.toInt8.toInt32)), .unset] [(.int (1 : Int32)), (.int (0 : Int32))]))
      refine Go.st (fun _ k => XS.icmpYes X15.here hx rfl (pc0 := 44) (pc' := 53) rfl (hb hby at_44) rfl (flt (by decide : ¬ ((1 : Int32) < (0 : Int32)))).2.2.2 (by decide) (by decide) k) ?_
      show Go p e below _ (T15.setTop (mkF m 53 #[.val (.int p0), .val (.int p1), .val (.int p2), .val (.int p3), .val (.int p4), .val (.int p5), .val (.int (0 : Int32)), .val (.int (3 : Int32)), .val (.ref b15), .val (.int (p5.toInt8.toInt32)), .unset] []))
      refine Go.st (fun _ k => XS.iload X15.here hx rfl (hb hby at_53) rfl k) ?_
      refine Go.st (fun _ k => XS.iconst X15.here hx rfl (hb hby at_55) k) ?_
      show Go p e below _ (T15.setTop (mkF m 56 #[.val (.int p0), .val (.int p1), .val (.int p2), .val (.int p3), .val (.int p4), .val (.int p5), .val (.int (0 : Int32)), .val (.int (3 : Int32)), .val (.ref b15), .val (.int (p5.toInt8.toInt32)), .unset] [(.int (2 : Int32)), (.int (0 : Int32))]))
      refine Go.st (fun _ k => XS.icmpYes X15.here hx rfl (pc0 := 56) (pc' := 65) rfl (hb hby at_56) rfl (flt (by decide : ¬ ((2 : Int32) < (0 : Int32)))).2.2.2 (by decide) (by decide) k) ?_
      show Go p e below _ (T15.setTop (mkF m 65 #[.val (.int p0), .val (.int p1), .val (.int p2), .val (.int p3), .val (.int p4), .val (.int p5), .val (.int (0 : Int32)), .val (.int (3 : Int32)), .val (.ref b15), .val (.int (p5.toInt8.toInt32)), .unset] []))
      refine Go.st (fun _ k => XS.aload X15.here hx rfl (hb hby at_65) rfl rfl k) ?_
      refine Go.st (fun _ k => XS.iload X15.here hx rfl (hb hby at_67) rfl k) ?_
      show Go p e below _ (T15.setTop (mkF m 69 #[.val (.int p0), .val (.int p1), .val (.int p2), .val (.int p3), .val (.int p4), .val (.int p5), .val (.int (0 : Int32)), .val (.int (3 : Int32)), .val (.ref b15), .val (.int (p5.toInt8.toInt32)), .unset] [(.int (0 : Int32)), (.ref b15)]))
      refine Go.st (fun _ k => XS.iloadN X15.here hx rfl (hb hby at_69) rfl k) ?_
      refine Go.st (fun _ k => XS.i2b X15.here hx rfl (hb hby at_70) rfl k) ?_
      show Go p e below _ (T15.setTop (mkF m 71 #[.val (.int p0), .val (.int p1), .val (.int p2), .val (.int p3), .val (.int p4), .val (.int p5), .val (.int (0 : Int32)), .val (.int (3 : Int32)), .val (.ref b15), .val (.int (p5.toInt8.toInt32)), .unset] [(.int (p0.toInt8.toInt32)), (.int (0 : Int32)), (.ref b15)]))
      obtain ⟨cl16, Ar16, ck16, Sz16, Nn16, Hs16, Gs16⟩ := id V15
      have hin16 : ¬ ((0 : Int32) < 0 ∨ cl16.slots.size ≤ ((0 : Int32)).toNatClampNeg) := inb_of Sz16 ⟨by decide, by decide⟩
      obtain ⟨T17, h17, X17, e17, W17, st17⟩ := stB X15 hx hZ e15 Ar16 (j := (0 : Int32)) hin16 (g := (mkF m 71 #[.val (.int p0), .val (.int p1), .val (.int p2), .val (.int p3), .val (.int p4), .val (.int p5), .val (.int (0 : Int32)), .val (.int (3 : Int32)), .val (.ref b15), .val (.int (p5.toInt8.toInt32)), .unset] [(.int (p0.toInt8.toInt32)), (.int (0 : Int32)), (.ref b15)])) rfl rfl (hb hby at_71)
      have V17 : Arv Z h17 b15 k15 .byte (3 : Int32) [(.int (nar .byte (p0.toInt8.toInt32))), (.int (0 : Int32)), (.int (0 : Int32))] (.int (0 : Int32)) := Arv.set Ar16 ck16 Sz16 Nn16 Hs16 Gs16 (fits_nar_byte _) W17 0 rfl (Nat.le_of_ble_eq_true rfl)
      have N17 := Fr.snoc X17 N0 gg15
      have Z17 : n0 ≤ h17.size := by rw [W17.size]; exact Z15
      refine Go.st (fun _ k => st17 _ k) ?_
      show Go p e below _ (T17.setTop (mkF m 72 #[.val (.int p0), .val (.int p1), .val (.int p2), .val (.int p3), .val (.int p4), .val (.int p5), .val (.int (0 : Int32)), .val (.int (3 : Int32)), .val (.ref b15), .val (.int (p5.toInt8.toInt32)), .unset] []))
      refine Go.st (fun _ k => XS.iload X17.here hx rfl (hb hby at_72) rfl k) ?_
      refine Go.st (fun _ k => XS.iconst X17.here hx rfl (hb hby at_74) k) ?_
      show Go p e below _ (T17.setTop (mkF m 75 #[.val (.int p0), .val (.int p1), .val (.int p2), .val (.int p3), .val (.int p4), .val (.int p5), .val (.int (0 : Int32)), .val (.int (3 : Int32)), .val (.ref b15), .val (.int (p5.toInt8.toInt32)), .unset] [(.int (1 : Int32)), (.int (3 : Int32))]))
      refine Go.st (fun _ k => XS.icmpNo X17.here hx rfl (hb hby at_75) rfl (tlt (by decide : ((1 : Int32) < (3 : Int32)))).2.2.2 k) ?_
      show Go p e below _ (T17.setTop (mkF m 78 #[.val (.int p0), .val (.int p1), .val (.int p2), .val (.int p3), .val (.int p4), .val (.int p5), .val (.int (0 : Int32)), .val (.int (3 : Int32)), .val (.ref b15), .val (.int (p5.toInt8.toInt32)), .unset] []))
      refine Go.st (fun _ k => XS.aload X17.here hx rfl (hb hby at_78) rfl rfl k) ?_
      refine Go.st (fun _ k => XS.iload X17.here hx rfl (hb hby at_80) rfl k) ?_
      show Go p e below _ (T17.setTop (mkF m 82 #[.val (.int p0), .val (.int p1), .val (.int p2), .val (.int p3), .val (.int p4), .val (.int p5), .val (.int (0 : Int32)), .val (.int (3 : Int32)), .val (.ref b15), .val (.int (p5.toInt8.toInt32)), .unset] [(.int (0 : Int32)), (.ref b15)]))
      refine Go.st (fun _ k => XS.iconst X17.here hx rfl (hb hby at_82) k) ?_
      refine Go.st (fun _ k => XS.iadd X17.here hx rfl (hb hby at_83) rfl k) ?_
      show Go p e below _ (T17.setTop (mkF m 84 #[.val (.int p0), .val (.int p1), .val (.int p2), .val (.int p3), .val (.int p4), .val (.int p5), .val (.int (0 : Int32)), .val (.int (3 : Int32)), .val (.ref b15), .val (.int (p5.toInt8.toInt32)), .unset] [(.int (1 : Int32)), (.ref b15)]))
      refine Go.st (fun _ k => XS.iloadN X17.here hx rfl (hb hby at_84) rfl k) ?_
      refine Go.st (fun _ k => XS.i2b X17.here hx rfl (hb hby at_85) rfl k) ?_
      show Go p e below _ (T17.setTop (mkF m 86 #[.val (.int p0), .val (.int p1), .val (.int p2), .val (.int p3), .val (.int p4), .val (.int p5), .val (.int (0 : Int32)), .val (.int (3 : Int32)), .val (.ref b15), .val (.int (p5.toInt8.toInt32)), .unset] [(.int (p1.toInt8.toInt32)), (.int (1 : Int32)), (.ref b15)]))
      obtain ⟨cl18, Ar18, ck18, Sz18, Nn18, Hs18, Gs18⟩ := id V17
      have hin18 : ¬ ((1 : Int32) < 0 ∨ cl18.slots.size ≤ ((1 : Int32)).toNatClampNeg) := inb_of Sz18 ⟨by decide, by decide⟩
      obtain ⟨T19, h19, X19, e19, W19, st19⟩ := stB X17 hx hZ e17 Ar18 (j := (1 : Int32)) hin18 (g := (mkF m 86 #[.val (.int p0), .val (.int p1), .val (.int p2), .val (.int p3), .val (.int p4), .val (.int p5), .val (.int (0 : Int32)), .val (.int (3 : Int32)), .val (.ref b15), .val (.int (p5.toInt8.toInt32)), .unset] [(.int (p1.toInt8.toInt32)), (.int (1 : Int32)), (.ref b15)])) rfl rfl (hb hby at_86)
      have V19 : Arv Z h19 b15 k15 .byte (3 : Int32) [(.int (nar .byte (p0.toInt8.toInt32))), (.int (nar .byte (p1.toInt8.toInt32))), (.int (0 : Int32))] (.int (0 : Int32)) := Arv.set Ar18 ck18 Sz18 Nn18 Hs18 Gs18 (fits_nar_byte _) W19 1 rfl (Nat.le_of_ble_eq_true rfl)
      have N19 := Fr.snoc X19 N17 gg15
      have Z19 : n0 ≤ h19.size := by rw [W19.size]; exact Z17
      refine Go.st (fun _ k => st19 _ k) ?_
      show Go p e below _ (T19.setTop (mkF m 87 #[.val (.int p0), .val (.int p1), .val (.int p2), .val (.int p3), .val (.int p4), .val (.int p5), .val (.int (0 : Int32)), .val (.int (3 : Int32)), .val (.ref b15), .val (.int (p5.toInt8.toInt32)), .unset] []))
      refine Go.st (fun _ k => XS.iload X19.here hx rfl (hb hby at_87) rfl k) ?_
      refine Go.st (fun _ k => XS.iconst X19.here hx rfl (hb hby at_89) k) ?_
      show Go p e below _ (T19.setTop (mkF m 90 #[.val (.int p0), .val (.int p1), .val (.int p2), .val (.int p3), .val (.int p4), .val (.int p5), .val (.int (0 : Int32)), .val (.int (3 : Int32)), .val (.ref b15), .val (.int (p5.toInt8.toInt32)), .unset] [(.int (2 : Int32)), (.int (3 : Int32))]))
      refine Go.st (fun _ k => XS.icmpNo X19.here hx rfl (hb hby at_90) rfl (tlt (by decide : ((2 : Int32) < (3 : Int32)))).2.2.2 k) ?_
      show Go p e below _ (T19.setTop (mkF m 93 #[.val (.int p0), .val (.int p1), .val (.int p2), .val (.int p3), .val (.int p4), .val (.int p5), .val (.int (0 : Int32)), .val (.int (3 : Int32)), .val (.ref b15), .val (.int (p5.toInt8.toInt32)), .unset] []))
      refine Go.st (fun _ k => XS.aload X19.here hx rfl (hb hby at_93) rfl rfl k) ?_
      refine Go.st (fun _ k => XS.iload X19.here hx rfl (hb hby at_95) rfl k) ?_
      show Go p e below _ (T19.setTop (mkF m 97 #[.val (.int p0), .val (.int p1), .val (.int p2), .val (.int p3), .val (.int p4), .val (.int p5), .val (.int (0 : Int32)), .val (.int (3 : Int32)), .val (.ref b15), .val (.int (p5.toInt8.toInt32)), .unset] [(.int (0 : Int32)), (.ref b15)]))
      refine Go.st (fun _ k => XS.iconst X19.here hx rfl (hb hby at_97) k) ?_
      refine Go.st (fun _ k => XS.iadd X19.here hx rfl (hb hby at_98) rfl k) ?_
      show Go p e below _ (T19.setTop (mkF m 99 #[.val (.int p0), .val (.int p1), .val (.int p2), .val (.int p3), .val (.int p4), .val (.int p5), .val (.int (0 : Int32)), .val (.int (3 : Int32)), .val (.ref b15), .val (.int (p5.toInt8.toInt32)), .unset] [(.int (2 : Int32)), (.ref b15)]))
      refine Go.st (fun _ k => XS.iloadN X19.here hx rfl (hb hby at_99) rfl k) ?_
      refine Go.st (fun _ k => XS.i2b X19.here hx rfl (hb hby at_100) rfl k) ?_
      show Go p e below _ (T19.setTop (mkF m 101 #[.val (.int p0), .val (.int p1), .val (.int p2), .val (.int p3), .val (.int p4), .val (.int p5), .val (.int (0 : Int32)), .val (.int (3 : Int32)), .val (.ref b15), .val (.int (p5.toInt8.toInt32)), .unset] [(.int (p2.toInt8.toInt32)), (.int (2 : Int32)), (.ref b15)]))
      obtain ⟨cl20, Ar20, ck20, Sz20, Nn20, Hs20, Gs20⟩ := id V19
      have hin20 : ¬ ((2 : Int32) < 0 ∨ cl20.slots.size ≤ ((2 : Int32)).toNatClampNeg) := inb_of Sz20 ⟨by decide, by decide⟩
      obtain ⟨T21, h21, X21, e21, W21, st21⟩ := stB X19 hx hZ e19 Ar20 (j := (2 : Int32)) hin20 (g := (mkF m 101 #[.val (.int p0), .val (.int p1), .val (.int p2), .val (.int p3), .val (.int p4), .val (.int p5), .val (.int (0 : Int32)), .val (.int (3 : Int32)), .val (.ref b15), .val (.int (p5.toInt8.toInt32)), .unset] [(.int (p2.toInt8.toInt32)), (.int (2 : Int32)), (.ref b15)])) rfl rfl (hb hby at_101)
      have V21 : Arv Z h21 b15 k15 .byte (3 : Int32) [(.int (nar .byte (p0.toInt8.toInt32))), (.int (nar .byte (p1.toInt8.toInt32))), (.int (nar .byte (p2.toInt8.toInt32)))] (.int (0 : Int32)) := Arv.set Ar20 ck20 Sz20 Nn20 Hs20 Gs20 (fits_nar_byte _) W21 2 rfl (Nat.le_of_ble_eq_true rfl)
      have N21 := Fr.snoc X21 N19 gg15
      have Z21 : n0 ≤ h21.size := by rw [W21.size]; exact Z19
      refine Go.st (fun _ k => st21 _ k) ?_
      show Go p e below _ (T21.setTop (mkF m 102 #[.val (.int p0), .val (.int p1), .val (.int p2), .val (.int p3), .val (.int p4), .val (.int p5), .val (.int (0 : Int32)), .val (.int (3 : Int32)), .val (.ref b15), .val (.int (p5.toInt8.toInt32)), .unset] []))
      refine Go.st (fun _ k => XS.iload X21.here hx rfl (hb hby at_102) rfl k) ?_
      refine Go.st (fun _ k => XS.iconst X21.here hx rfl (hb hby at_104) k) ?_
      show Go p e below _ (T21.setTop (mkF m 105 #[.val (.int p0), .val (.int p1), .val (.int p2), .val (.int p3), .val (.int p4), .val (.int p5), .val (.int (0 : Int32)), .val (.int (3 : Int32)), .val (.ref b15), .val (.int (p5.toInt8.toInt32)), .unset] [(.int (3 : Int32)), (.int (3 : Int32))]))
      refine Go.st (fun _ k => XS.icmpYes X21.here hx rfl (pc0 := 105) (pc' := 117) rfl (hb hby at_105) rfl (flt (by decide : ¬ ((3 : Int32) < (3 : Int32)))).2.2.2 (by decide) (by decide) k) ?_
      show Go p e below _ (T21.setTop (mkF m 117 #[.val (.int p0), .val (.int p1), .val (.int p2), .val (.int p3), .val (.int p4), .val (.int p5), .val (.int (0 : Int32)), .val (.int (3 : Int32)), .val (.ref b15), .val (.int (p5.toInt8.toInt32)), .unset] []))
      refine Go.st (fun _ k => XS.aload X21.here hx rfl (hb hby at_117) rfl rfl k) ?_
      refine Go.st (fun _ k => XS.iload X21.here hx rfl (hb hby at_119) rfl k) ?_
      show Go p e below _ (T21.setTop (mkF m 121 #[.val (.int p0), .val (.int p1), .val (.int p2), .val (.int p3), .val (.int p4), .val (.int p5), .val (.int (0 : Int32)), .val (.int (3 : Int32)), .val (.ref b15), .val (.int (p5.toInt8.toInt32)), .unset] [(.int (0 : Int32)), (.ref b15)]))
      obtain ⟨_, _, ⟨T22, L22, k22, n22⟩, -, X22, ⟨Lc22, hQ22, l22, y22, z22⟩, st22⟩ := Jvm.LawKit.callS X21 hx (y := (⟨"com/example/apportis/apportis/Utf8", "characterEnd", "([BI)I"⟩ : MethodName)) hown (mvT hZ (hw _ (List.mem_of_getElem? (i := 1) rfl))) (mvT hZ (hw _ (List.mem_of_getElem? (i := 2) rfl))) (mvT hZ (hw _ (List.mem_of_getElem? (i := 3) rfl))) (mvT hZ (hw _ (List.mem_of_getElem? (i := 4) rfl))) (by decide) (backOf (W := 0) (rmCE l Z aZ hw [] (nar .byte (p0.toInt8.toInt32)) (nar .byte (p1.toInt8.toInt32)) (nar .byte (p2.toInt8.toInt32)) (0 : Int32) b15 (0 : Int32) k15 (3 : Int32) [(.int (nar .byte (p0.toInt8.toInt32))), (.int (nar .byte (p1.toInt8.toInt32))), (.int (nar .byte (p2.toInt8.toInt32)))] h21 n0 (by decide) (by decide) (by decide) rfl (fun _ => rfl) (fun _ => rfl) (fun h => absurd h (by decide)) V21) hZ (hw _ (List.mem_of_getElem? (i := 4) rfl)) (hw _ (List.mem_of_getElem? (i := 3) rfl)) (by decide) (by decide)) (g := (mkF m 121 #[.val (.int p0), .val (.int p1), .val (.int p2), .val (.int p3), .val (.int p4), .val (.int p5), .val (.int (0 : Int32)), .val (.int (3 : Int32)), .val (.ref b15), .val (.int (p5.toInt8.toInt32)), .unset] [(.int (0 : Int32)), (.ref b15)])) rfl (by rw [hml]; rfl) (argsL := [(.ref b15), (.int (0 : Int32))]) (rest := []) (lenOf pd92f6cd8e rfl) rfl (by show 2 * 0 + _ ≤ _; exact Nat.le_of_eq rfl) (hb hby at_121) (fun _ _ => ⟨rfl, e21, (by decide : 1 + 0 ≤ _), (by decide : 3 + 0 ≤ _)⟩)
      dsimp only [Pt.U, Pt.locs, Pt.cells, Pt.slots] at X22 l22 y22 z22 st22 hQ22
      subst l22 y22 z22
      obtain ⟨rfl, N22q, e22⟩ := hQ22
      have N22 := Fr.app N21 N22q
      refine Go.st (fun _ k => st22 _ k) ?_
      show Go p e below _ (T22.setTop (mkF m 124 #[.val (.int p0), .val (.int p1), .val (.int p2), .val (.int p3), .val (.int p4), .val (.int p5), .val (.int (0 : Int32)), .val (.int (3 : Int32)), .val (.ref b15), .val (.int (p5.toInt8.toInt32)), .unset] [(.int (fCE (nar .byte (p0.toInt8.toInt32)) (nar .byte (p1.toInt8.toInt32)) (nar .byte (p2.toInt8.toInt32)) (0 : Int32) (0 : Int32) (3 : Int32)))]))
      refine Go.st (fun _ k => XS.istore X22.here hx rfl (hb hby at_124) rfl (l' := #[.val (.int p0), .val (.int p1), .val (.int p2), .val (.int p3), .val (.int p4), .val (.int p5), .val (.int (0 : Int32)), .val (.int (3 : Int32)), .val (.ref b15), .val (.int (p5.toInt8.toInt32)), .val (.int (fCE (nar .byte (p0.toInt8.toInt32)) (nar .byte (p1.toInt8.toInt32)) (nar .byte (p2.toInt8.toInt32)) (0 : Int32) (0 : Int32) (3 : Int32)))]) rfl k) ?_
      show Go p e below _ (T22.setTop (mkF m 126 #[.val (.int p0), .val (.int p1), .val (.int p2), .val (.int p3), .val (.int p4), .val (.int p5), .val (.int (0 : Int32)), .val (.int (3 : Int32)), .val (.ref b15), .val (.int (p5.toInt8.toInt32)), .val (.int (fCE (nar .byte (p0.toInt8.toInt32)) (nar .byte (p1.toInt8.toInt32)) (nar .byte (p2.toInt8.toInt32)) (0 : Int32) (0 : Int32) (3 : Int32)))] []))
      refine Go.st (fun _ k => XS.iload X22.here hx rfl (hb hby at_126) rfl k) ?_
      refine Go.st (fun _ k => XS.iloadN X22.here hx rfl (hb hby at_128) rfl k) ?_
      show Go p e below _ (T22.setTop (mkF m 129 #[.val (.int p0), .val (.int p1), .val (.int p2), .val (.int p3), .val (.int p4), .val (.int p5), .val (.int (0 : Int32)), .val (.int (3 : Int32)), .val (.ref b15), .val (.int (p5.toInt8.toInt32)), .val (.int (fCE (nar .byte (p0.toInt8.toInt32)) (nar .byte (p1.toInt8.toInt32)) (nar .byte (p2.toInt8.toInt32)) (0 : Int32) (0 : Int32) (3 : Int32)))] [(.int p0), (.int (fCE (nar .byte (p0.toInt8.toInt32)) (nar .byte (p1.toInt8.toInt32)) (nar .byte (p2.toInt8.toInt32)) (0 : Int32) (0 : Int32) (3 : Int32)))]))
      refine Go.st (fun _ k => XS.sipush X22.here hx rfl (hb hby at_129) k) ?_
      refine Go.st (fun _ k => XS.iand X22.here hx rfl (hb hby at_132) rfl k) ?_
      show Go p e below _ (T22.setTop (mkF m 133 #[.val (.int p0), .val (.int p1), .val (.int p2), .val (.int p3), .val (.int p4), .val (.int p5), .val (.int (0 : Int32)), .val (.int (3 : Int32)), .val (.ref b15), .val (.int (p5.toInt8.toInt32)), .val (.int (fCE (nar .byte (p0.toInt8.toInt32)) (nar .byte (p1.toInt8.toInt32)) (nar .byte (p2.toInt8.toInt32)) (0 : Int32) (0 : Int32) (3 : Int32)))] [(.int (p0 &&& (255 : Int32))), (.int (fCE (nar .byte (p0.toInt8.toInt32)) (nar .byte (p1.toInt8.toInt32)) (nar .byte (p2.toInt8.toInt32)) (0 : Int32) (0 : Int32) (3 : Int32)))]))
      refine Go.st (fun _ k => XS.iloadN X22.here hx rfl (hb hby at_133) rfl k) ?_
      refine Go.st (fun _ k => XS.sipush X22.here hx rfl (hb hby at_134) k) ?_
      show Go p e below _ (T22.setTop (mkF m 137 #[.val (.int p0), .val (.int p1), .val (.int p2), .val (.int p3), .val (.int p4), .val (.int p5), .val (.int (0 : Int32)), .val (.int (3 : Int32)), .val (.ref b15), .val (.int (p5.toInt8.toInt32)), .val (.int (fCE (nar .byte (p0.toInt8.toInt32)) (nar .byte (p1.toInt8.toInt32)) (nar .byte (p2.toInt8.toInt32)) (0 : Int32) (0 : Int32) (3 : Int32)))] [(.int (255 : Int32)), (.int p1), (.int (p0 &&& (255 : Int32))), (.int (fCE (nar .byte (p0.toInt8.toInt32)) (nar .byte (p1.toInt8.toInt32)) (nar .byte (p2.toInt8.toInt32)) (0 : Int32) (0 : Int32) (3 : Int32)))]))
      refine Go.st (fun _ k => XS.iand X22.here hx rfl (hb hby at_137) rfl k) ?_
      refine Go.st (fun _ k => XS.iloadN X22.here hx rfl (hb hby at_138) rfl k) ?_
      show Go p e below _ (T22.setTop (mkF m 139 #[.val (.int p0), .val (.int p1), .val (.int p2), .val (.int p3), .val (.int p4), .val (.int p5), .val (.int (0 : Int32)), .val (.int (3 : Int32)), .val (.ref b15), .val (.int (p5.toInt8.toInt32)), .val (.int (fCE (nar .byte (p0.toInt8.toInt32)) (nar .byte (p1.toInt8.toInt32)) (nar .byte (p2.toInt8.toInt32)) (0 : Int32) (0 : Int32) (3 : Int32)))] [(.int p2), (.int (p1 &&& (255 : Int32))), (.int (p0 &&& (255 : Int32))), (.int (fCE (nar .byte (p0.toInt8.toInt32)) (nar .byte (p1.toInt8.toInt32)) (nar .byte (p2.toInt8.toInt32)) (0 : Int32) (0 : Int32) (3 : Int32)))]))
      refine Go.st (fun _ k => XS.sipush X22.here hx rfl (hb hby at_139) k) ?_
      refine Go.st (fun _ k => XS.iand X22.here hx rfl (hb hby at_142) rfl k) ?_
      show Go p e below _ (T22.setTop (mkF m 143 #[.val (.int p0), .val (.int p1), .val (.int p2), .val (.int p3), .val (.int p4), .val (.int p5), .val (.int (0 : Int32)), .val (.int (3 : Int32)), .val (.ref b15), .val (.int (p5.toInt8.toInt32)), .val (.int (fCE (nar .byte (p0.toInt8.toInt32)) (nar .byte (p1.toInt8.toInt32)) (nar .byte (p2.toInt8.toInt32)) (0 : Int32) (0 : Int32) (3 : Int32)))] [(.int (p2 &&& (255 : Int32))), (.int (p1 &&& (255 : Int32))), (.int (p0 &&& (255 : Int32))), (.int (fCE (nar .byte (p0.toInt8.toInt32)) (nar .byte (p1.toInt8.toInt32)) (nar .byte (p2.toInt8.toInt32)) (0 : Int32) (0 : Int32) (3 : Int32)))]))
      refine Go.st (fun _ k => XS.iloadN X22.here hx rfl (hb hby at_143) rfl k) ?_
      refine Go.st (fun _ k => XS.sipush X22.here hx rfl (hb hby at_144) k) ?_
      show Go p e below _ (T22.setTop (mkF m 147 #[.val (.int p0), .val (.int p1), .val (.int p2), .val (.int p3), .val (.int p4), .val (.int p5), .val (.int (0 : Int32)), .val (.int (3 : Int32)), .val (.ref b15), .val (.int (p5.toInt8.toInt32)), .val (.int (fCE (nar .byte (p0.toInt8.toInt32)) (nar .byte (p1.toInt8.toInt32)) (nar .byte (p2.toInt8.toInt32)) (0 : Int32) (0 : Int32) (3 : Int32)))] [(.int (255 : Int32)), (.int p3), (.int (p2 &&& (255 : Int32))), (.int (p1 &&& (255 : Int32))), (.int (p0 &&& (255 : Int32))), (.int (fCE (nar .byte (p0.toInt8.toInt32)) (nar .byte (p1.toInt8.toInt32)) (nar .byte (p2.toInt8.toInt32)) (0 : Int32) (0 : Int32) (3 : Int32)))]))
      refine Go.st (fun _ k => XS.iand X22.here hx rfl (hb hby at_147) rfl k) ?_
      refine Go.st (fun _ k => XS.iload X22.here hx rfl (hb hby at_148) rfl k) ?_
      show Go p e below _ (T22.setTop (mkF m 150 #[.val (.int p0), .val (.int p1), .val (.int p2), .val (.int p3), .val (.int p4), .val (.int p5), .val (.int (0 : Int32)), .val (.int (3 : Int32)), .val (.ref b15), .val (.int (p5.toInt8.toInt32)), .val (.int (fCE (nar .byte (p0.toInt8.toInt32)) (nar .byte (p1.toInt8.toInt32)) (nar .byte (p2.toInt8.toInt32)) (0 : Int32) (0 : Int32) (3 : Int32)))] [(.int (3 : Int32)), (.int (p3 &&& (255 : Int32))), (.int (p2 &&& (255 : Int32))), (.int (p1 &&& (255 : Int32))), (.int (p0 &&& (255 : Int32))), (.int (fCE (nar .byte (p0.toInt8.toInt32)) (nar .byte (p1.toInt8.toInt32)) (nar .byte (p2.toInt8.toInt32)) (0 : Int32) (0 : Int32) (3 : Int32)))]))
      refine Go.st (fun _ k => XS.iload X22.here hx rfl (hb hby at_150) rfl k) ?_
      show Go p e below _ (T22.setTop (mkF m 152 #[.val (.int p0), .val (.int p1), .val (.int p2), .val (.int p3), .val (.int p4), .val (.int p5), .val (.int (0 : Int32)), .val (.int (3 : Int32)), .val (.ref b15), .val (.int (p5.toInt8.toInt32)), .val (.int (fCE (nar .byte (p0.toInt8.toInt32)) (nar .byte (p1.toInt8.toInt32)) (nar .byte (p2.toInt8.toInt32)) (0 : Int32) (0 : Int32) (3 : Int32)))] [(.int (0 : Int32)), (.int (3 : Int32)), (.int (p3 &&& (255 : Int32))), (.int (p2 &&& (255 : Int32))), (.int (p1 &&& (255 : Int32))), (.int (p0 &&& (255 : Int32))), (.int (fCE (nar .byte (p0.toInt8.toInt32)) (nar .byte (p1.toInt8.toInt32)) (nar .byte (p2.toInt8.toInt32)) (0 : Int32) (0 : Int32) (3 : Int32)))]))
      obtain ⟨_, _, ⟨T23, L23, k23, n23⟩, -, X23, ⟨Lc23, hQ23, l23, y23, z23⟩, st23⟩ := Jvm.LawKit.callS X22 hx (y := (⟨"com/example/apportis/apportis/Utf8CharacterEndPinLaw", "expected", "(IIIIII)I"⟩ : MethodName)) hown (mvT hZ (hw _ (List.mem_of_getElem? (i := 5) rfl))) (mvT hZ (hw _ (List.mem_of_getElem? (i := 6) rfl))) (mvT hZ (hw _ (List.mem_of_getElem? (i := 7) rfl))) (mvT hZ (hw _ (List.mem_of_getElem? (i := 8) rfl))) (by decide) (backOf (W := 1) (rm2 l Z aZ hw [] (p0 &&& (255 : Int32)) (p1 &&& (255 : Int32)) (p2 &&& (255 : Int32)) (p3 &&& (255 : Int32)) (3 : Int32) (0 : Int32) h21 n0 ) hZ (hw _ (List.mem_of_getElem? (i := 8) rfl)) (hw _ (List.mem_of_getElem? (i := 7) rfl)) (by decide) (by decide)) (g := (mkF m 152 #[.val (.int p0), .val (.int p1), .val (.int p2), .val (.int p3), .val (.int p4), .val (.int p5), .val (.int (0 : Int32)), .val (.int (3 : Int32)), .val (.ref b15), .val (.int (p5.toInt8.toInt32)), .val (.int (fCE (nar .byte (p0.toInt8.toInt32)) (nar .byte (p1.toInt8.toInt32)) (nar .byte (p2.toInt8.toInt32)) (0 : Int32) (0 : Int32) (3 : Int32)))] [(.int (0 : Int32)), (.int (3 : Int32)), (.int (p3 &&& (255 : Int32))), (.int (p2 &&& (255 : Int32))), (.int (p1 &&& (255 : Int32))), (.int (p0 &&& (255 : Int32))), (.int (fCE (nar .byte (p0.toInt8.toInt32)) (nar .byte (p1.toInt8.toInt32)) (nar .byte (p2.toInt8.toInt32)) (0 : Int32) (0 : Int32) (3 : Int32)))])) rfl (by rw [hml]; rfl) (argsL := [(.int (p0 &&& (255 : Int32))), (.int (p1 &&& (255 : Int32))), (.int (p2 &&& (255 : Int32))), (.int (p3 &&& (255 : Int32))), (.int (3 : Int32)), (.int (0 : Int32))]) (rest := [(.int (fCE (nar .byte (p0.toInt8.toInt32)) (nar .byte (p1.toInt8.toInt32)) (nar .byte (p2.toInt8.toInt32)) (0 : Int32) (0 : Int32) (3 : Int32)))]) (lenOf pd41a2ea18 rfl) rfl (by show 2 * 0 + _ ≤ _; exact Nat.le_of_eq rfl) (hb hby at_152) (fun _ _ => ⟨rfl, e22, (by decide : 1 + 0 ≤ _), (by decide : 3 + 0 ≤ _)⟩)
      dsimp only [Pt.U, Pt.locs, Pt.cells, Pt.slots] at X23 l23 y23 z23 st23 hQ23
      subst l23 y23 z23
      obtain ⟨rfl, N23q, e23⟩ := hQ23
      have N23 := Fr.app N22 N23q
      refine Go.st (fun _ k => st23 _ k) ?_
      show Go p e below _ (T23.setTop (mkF m 155 #[.val (.int p0), .val (.int p1), .val (.int p2), .val (.int p3), .val (.int p4), .val (.int p5), .val (.int (0 : Int32)), .val (.int (3 : Int32)), .val (.ref b15), .val (.int (p5.toInt8.toInt32)), .val (.int (fCE (nar .byte (p0.toInt8.toInt32)) (nar .byte (p1.toInt8.toInt32)) (nar .byte (p2.toInt8.toInt32)) (0 : Int32) (0 : Int32) (3 : Int32)))] [(.int (fExp (p0 &&& (255 : Int32)) (p1 &&& (255 : Int32)) (p2 &&& (255 : Int32)) (p3 &&& (255 : Int32)) (3 : Int32) (0 : Int32))), (.int (fCE (nar .byte (p0.toInt8.toInt32)) (nar .byte (p1.toInt8.toInt32)) (nar .byte (p2.toInt8.toInt32)) (0 : Int32) (0 : Int32) (3 : Int32)))]))
      refine Go.st (fun _ k => XS.icmpNo X23.here hx rfl (hb hby at_155) rfl (teq (own_main p0 p1 p2 p3 (own_mask p0) (fun _ => own_mask p1) (fun _ => own_mask p2) (fun h => absurd h (by decide)) (by decide))).2 k) ?_
      show Go p e below _ (T23.setTop (mkF m 158 #[.val (.int p0), .val (.int p1), .val (.int p2), .val (.int p3), .val (.int p4), .val (.int p5), .val (.int (0 : Int32)), .val (.int (3 : Int32)), .val (.ref b15), .val (.int (p5.toInt8.toInt32)), .val (.int (fCE (nar .byte (p0.toInt8.toInt32)) (nar .byte (p1.toInt8.toInt32)) (nar .byte (p2.toInt8.toInt32)) (0 : Int32) (0 : Int32) (3 : Int32)))] []))
      refine Go.st (fun _ k => XS.iconst X23.here hx rfl (hb hby at_158) k) ?_
      refine Go.st (fun _ k => XS.goto X23.here hx rfl (pc0 := 159) (pc' := 163) rfl (hb hby at_159) (by decide) (by decide) k) ?_
      show Go p e below _ (T23.setTop (mkF m 163 #[.val (.int p0), .val (.int p1), .val (.int p2), .val (.int p3), .val (.int p4), .val (.int p5), .val (.int (0 : Int32)), .val (.int (3 : Int32)), .val (.ref b15), .val (.int (p5.toInt8.toInt32)), .val (.int (fCE (nar .byte (p0.toInt8.toInt32)) (nar .byte (p1.toInt8.toInt32)) (nar .byte (p2.toInt8.toInt32)) (0 : Int32) (0 : Int32) (3 : Int32)))] [(.int (1 : Int32))]))
      obtain ⟨fs, hr, hrun, hended, hW, hsame⟩ := X23.leave (v := some (.int (1 : Int32))) (fun h => by rw [Bd.returns] at h; cases h)
      refine ⟨_, _, retN X23 hx (t := .boolean) Bd.returns (by simp) (hb hby at_163) hr, hrun, hended, _, _, rfl, ?_, ⟨_, rfl⟩, hW, hsame.mono (by decide) (by decide)⟩
      show Q_rm0 Z p0 p1 p2 p3 p4 p5 h0 n0 _ T23.heap _
      rw [e23]
      exact ⟨rfl, N23⟩
    · rw [hr2]
      show Go p e below _ (s₁.setTop (mkF m 13 #[.val (.int p0), .val (.int p1), .val (.int p2), .val (.int p3), .val (.int p4), .val (.int p5), .val (.int (0 : Int32)), .unset, .unset, .unset, .unset] [(.int (3 : Int32)), (.int (1 : Int32))]))
      refine Go.st (fun _ k => XS.iadd X0.here hx rfl (hb hby at_13) rfl k) ?_
      refine Go.st (fun _ k => XS.istore X0.here hx rfl (hb hby at_14) rfl (l' := #[.val (.int p0), .val (.int p1), .val (.int p2), .val (.int p3), .val (.int p4), .val (.int p5), .val (.int (0 : Int32)), .val (.int (4 : Int32)), .unset, .unset, .unset]) rfl k) ?_
      show Go p e below _ (s₁.setTop (mkF m 16 #[.val (.int p0), .val (.int p1), .val (.int p2), .val (.int p3), .val (.int p4), .val (.int p5), .val (.int (0 : Int32)), .val (.int (4 : Int32)), .unset, .unset, .unset] []))
      refine Go.st (fun _ k => XS.iload X0.here hx rfl (hb hby at_16) rfl k) ?_
      refine Go.st (fun _ k => XS.iload X0.here hx rfl (hb hby at_18) rfl k) ?_
      show Go p e below _ (s₁.setTop (mkF m 20 #[.val (.int p0), .val (.int p1), .val (.int p2), .val (.int p3), .val (.int p4), .val (.int p5), .val (.int (0 : Int32)), .val (.int (4 : Int32)), .unset, .unset, .unset] [(.int (4 : Int32)), (.int (0 : Int32))]))
      refine Go.st (fun _ k => XS.iadd X0.here hx rfl (hb hby at_20) rfl k) ?_
      show Go p e below _ (s₁.setTop (mkF m 21 #[.val (.int p0), .val (.int p1), .val (.int p2), .val (.int p3), .val (.int p4), .val (.int p5), .val (.int (0 : Int32)), .val (.int (4 : Int32)), .unset, .unset, .unset] [(.int (4 : Int32))]))
      obtain ⟨T24, h24, k24, X24, e24, E24, A24, st24⟩ := newP X0 hx hZ (hw _ (List.mem_of_getElem? (i := 0) rfl)) e0 (g := (mkF m 21 #[.val (.int p0), .val (.int p1), .val (.int p2), .val (.int p3), .val (.int p4), .val (.int p5), .val (.int (0 : Int32)), .val (.int (4 : Int32)), .unset, .unset, .unset] [(.int (4 : Int32))])) rfl (hb hby at_21) rfl (by decide) (cap := 4) (by decide) (by decide) (by decide) (by decide)
      obtain ⟨b24, g24⟩ : ∃ z, z = h0.size := ⟨_, rfl⟩
      have gg24 : n0 ≤ b24 := Nat.le_trans Z0 (Nat.le_of_eq g24.symm)
      rw [← g24] at A24 st24
      have Z24 : n0 ≤ h24.size := Nat.le_trans Z0 E24.1
      have V24 : Arv Z h24 b24 k24 .byte (4 : Int32) [(.int (0 : Int32)), (.int (0 : Int32)), (.int (0 : Int32)), (.int (0 : Int32))] (.int (0 : Int32)) := (Arv.new A24 (by decide)).pad (pad_rep [] (.int (0 : Int32)) 4)
      refine Go.st (fun _ k => st24 _ k) ?_
      show Go p e below _ (T24.setTop (mkF m 23 #[.val (.int p0), .val (.int p1), .val (.int p2), .val (.int p3), .val (.int p4), .val (.int p5), .val (.int (0 : Int32)), .val (.int (4 : Int32)), .unset, .unset, .unset] [(.ref b24)]))
      refine Go.st (fun _ k => XS.astore X24.here hx rfl (hb hby at_23) rfl rfl (l' := #[.val (.int p0), .val (.int p1), .val (.int p2), .val (.int p3), .val (.int p4), .val (.int p5), .val (.int (0 : Int32)), .val (.int (4 : Int32)), .val (.ref b24), .unset, .unset]) rfl k) ?_
      show Go p e below _ (T24.setTop (mkF m 25 #[.val (.int p0), .val (.int p1), .val (.int p2), .val (.int p3), .val (.int p4), .val (.int p5), .val (.int (0 : Int32)), .val (.int (4 : Int32)), .val (.ref b24), .unset, .unset] []))
      refine Go.st (fun _ k => XS.iload X24.here hx rfl (hb hby at_25) rfl k) ?_
      refine Go.st (fun _ k => XS.i2b X24.here hx rfl (hb hby at_27) rfl k) ?_
      show Go p e below _ (T24.setTop (mkF m 28 #[.val (.int p0), .val (.int p1), .val (.int p2), .val (.int p3), .val (.int p4), .val (.int p5), .val (.int (0 : Int32)), .val (.int (4 : Int32)), .val (.ref b24), .unset, .unset] [(.int (p5.toInt8.toInt32))]))
      refine Go.st (fun _ k => XS.istore X24.here hx rfl (hb hby at_28) rfl (l' := #[.val (.int p0), .val (.int p1), .val (.int p2), .val (.int p3), .val (.int p4), .val (.int p5), .val (.int (0 : Int32)), .val (.int (4 : Int32)), .val (.ref b24), .val (.int (p5.toInt8.toInt32)), .unset]) rfl k) ?_
      show Go p e below _ (T24.setTop (mkF m 30 #[.val (.int p0), .val (.int p1), .val (.int p2), .val (.int p3), .val (.int p4), .val (.int p5), .val (.int (0 : Int32)), .val (.int (4 : Int32)), .val (.ref b24), .val (.int (p5.toInt8.toInt32)), .unset] []))
      refine Go.st (fun _ k => XS.iload X24.here hx rfl (hb hby at_30) rfl k) ?_
      refine Go.st (fun _ k => XS.ifYes X24.here hx rfl (pc0 := 32) (pc' := 41) rfl (hb hby at_32) rfl ((if0 _ _).trans (flt (by decide : ¬ ((0 : Int32) < (0 : Int32)))).2.2.2) (by decide) (by decide) k) ?_
      show Go p e below _ (T24.setTop (mkF m 41 #[.val (.int p0), .val (.int p1), .val (.int p2), .val (.int p3), .val (.int p4), .val (.int p5), .val (.int (0 : Int32)), .val (.int (4 : Int32)), .val (.ref b24), .val (.int (p5.toInt8.toInt32)), .unset] []))
      refine Go.st (fun _ k => XS.iload X24.here hx rfl (hb hby at_41) rfl k) ?_
      refine Go.st (fun _ k => XS.iconst X24.here hx rfl (hb hby at_43) k) ?_
      show Go p e below _ (T24.setTop (mkF m 44 #[.val (.int p0), .val (.int p1), .val (.int p2), .val (.int p3), .val (.int p4), .val (.int p5), .val (.int (0 : Int32)), .val (.int (4 : Int32)), .val (.ref b24), .val (.int (p5.toInt8.toInt32)), .unset] [(.int (1 : Int32)), (.int (0 : Int32))]))
      refine Go.st (fun _ k => XS.icmpYes X24.here hx rfl (pc0 := 44) (pc' := 53) rfl (hb hby at_44) rfl (flt (by decide : ¬ ((1 : Int32) < (0 : Int32)))).2.2.2 (by decide) (by decide) k) ?_
      show Go p e below _ (T24.setTop (mkF m 53 #[.val (.int p0), .val (.int p1), .val (.int p2), .val (.int p3), .val (.int p4), .val (.int p5), .val (.int (0 : Int32)), .val (.int (4 : Int32)), .val (.ref b24), .val (.int (p5.toInt8.toInt32)), .unset] []))
      refine Go.st (fun _ k => XS.iload X24.here hx rfl (hb hby at_53) rfl k) ?_
      refine Go.st (fun _ k => XS.iconst X24.here hx rfl (hb hby at_55) k) ?_
      show Go p e below _ (T24.setTop (mkF m 56 #[.val (.int p0), .val (.int p1), .val (.int p2), .val (.int p3), .val (.int p4), .val (.int p5), .val (.int (0 : Int32)), .val (.int (4 : Int32)), .val (.ref b24), .val (.int (p5.toInt8.toInt32)), .unset] [(.int (2 : Int32)), (.int (0 : Int32))]))
      refine Go.st (fun _ k => XS.icmpYes X24.here hx rfl (pc0 := 56) (pc' := 65) rfl (hb hby at_56) rfl (flt (by decide : ¬ ((2 : Int32) < (0 : Int32)))).2.2.2 (by decide) (by decide) k) ?_
      show Go p e below _ (T24.setTop (mkF m 65 #[.val (.int p0), .val (.int p1), .val (.int p2), .val (.int p3), .val (.int p4), .val (.int p5), .val (.int (0 : Int32)), .val (.int (4 : Int32)), .val (.ref b24), .val (.int (p5.toInt8.toInt32)), .unset] []))
      refine Go.st (fun _ k => XS.aload X24.here hx rfl (hb hby at_65) rfl rfl k) ?_
      refine Go.st (fun _ k => XS.iload X24.here hx rfl (hb hby at_67) rfl k) ?_
      show Go p e below _ (T24.setTop (mkF m 69 #[.val (.int p0), .val (.int p1), .val (.int p2), .val (.int p3), .val (.int p4), .val (.int p5), .val (.int (0 : Int32)), .val (.int (4 : Int32)), .val (.ref b24), .val (.int (p5.toInt8.toInt32)), .unset] [(.int (0 : Int32)), (.ref b24)]))
      refine Go.st (fun _ k => XS.iloadN X24.here hx rfl (hb hby at_69) rfl k) ?_
      refine Go.st (fun _ k => XS.i2b X24.here hx rfl (hb hby at_70) rfl k) ?_
      show Go p e below _ (T24.setTop (mkF m 71 #[.val (.int p0), .val (.int p1), .val (.int p2), .val (.int p3), .val (.int p4), .val (.int p5), .val (.int (0 : Int32)), .val (.int (4 : Int32)), .val (.ref b24), .val (.int (p5.toInt8.toInt32)), .unset] [(.int (p0.toInt8.toInt32)), (.int (0 : Int32)), (.ref b24)]))
      obtain ⟨cl25, Ar25, ck25, Sz25, Nn25, Hs25, Gs25⟩ := id V24
      have hin25 : ¬ ((0 : Int32) < 0 ∨ cl25.slots.size ≤ ((0 : Int32)).toNatClampNeg) := inb_of Sz25 ⟨by decide, by decide⟩
      obtain ⟨T26, h26, X26, e26, W26, st26⟩ := stB X24 hx hZ e24 Ar25 (j := (0 : Int32)) hin25 (g := (mkF m 71 #[.val (.int p0), .val (.int p1), .val (.int p2), .val (.int p3), .val (.int p4), .val (.int p5), .val (.int (0 : Int32)), .val (.int (4 : Int32)), .val (.ref b24), .val (.int (p5.toInt8.toInt32)), .unset] [(.int (p0.toInt8.toInt32)), (.int (0 : Int32)), (.ref b24)])) rfl rfl (hb hby at_71)
      have V26 : Arv Z h26 b24 k24 .byte (4 : Int32) [(.int (nar .byte (p0.toInt8.toInt32))), (.int (0 : Int32)), (.int (0 : Int32)), (.int (0 : Int32))] (.int (0 : Int32)) := Arv.set Ar25 ck25 Sz25 Nn25 Hs25 Gs25 (fits_nar_byte _) W26 0 rfl (Nat.le_of_ble_eq_true rfl)
      have N26 := Fr.snoc X26 N0 gg24
      have Z26 : n0 ≤ h26.size := by rw [W26.size]; exact Z24
      refine Go.st (fun _ k => st26 _ k) ?_
      show Go p e below _ (T26.setTop (mkF m 72 #[.val (.int p0), .val (.int p1), .val (.int p2), .val (.int p3), .val (.int p4), .val (.int p5), .val (.int (0 : Int32)), .val (.int (4 : Int32)), .val (.ref b24), .val (.int (p5.toInt8.toInt32)), .unset] []))
      refine Go.st (fun _ k => XS.iload X26.here hx rfl (hb hby at_72) rfl k) ?_
      refine Go.st (fun _ k => XS.iconst X26.here hx rfl (hb hby at_74) k) ?_
      show Go p e below _ (T26.setTop (mkF m 75 #[.val (.int p0), .val (.int p1), .val (.int p2), .val (.int p3), .val (.int p4), .val (.int p5), .val (.int (0 : Int32)), .val (.int (4 : Int32)), .val (.ref b24), .val (.int (p5.toInt8.toInt32)), .unset] [(.int (1 : Int32)), (.int (4 : Int32))]))
      refine Go.st (fun _ k => XS.icmpNo X26.here hx rfl (hb hby at_75) rfl (tlt (by decide : ((1 : Int32) < (4 : Int32)))).2.2.2 k) ?_
      show Go p e below _ (T26.setTop (mkF m 78 #[.val (.int p0), .val (.int p1), .val (.int p2), .val (.int p3), .val (.int p4), .val (.int p5), .val (.int (0 : Int32)), .val (.int (4 : Int32)), .val (.ref b24), .val (.int (p5.toInt8.toInt32)), .unset] []))
      refine Go.st (fun _ k => XS.aload X26.here hx rfl (hb hby at_78) rfl rfl k) ?_
      refine Go.st (fun _ k => XS.iload X26.here hx rfl (hb hby at_80) rfl k) ?_
      show Go p e below _ (T26.setTop (mkF m 82 #[.val (.int p0), .val (.int p1), .val (.int p2), .val (.int p3), .val (.int p4), .val (.int p5), .val (.int (0 : Int32)), .val (.int (4 : Int32)), .val (.ref b24), .val (.int (p5.toInt8.toInt32)), .unset] [(.int (0 : Int32)), (.ref b24)]))
      refine Go.st (fun _ k => XS.iconst X26.here hx rfl (hb hby at_82) k) ?_
      refine Go.st (fun _ k => XS.iadd X26.here hx rfl (hb hby at_83) rfl k) ?_
      show Go p e below _ (T26.setTop (mkF m 84 #[.val (.int p0), .val (.int p1), .val (.int p2), .val (.int p3), .val (.int p4), .val (.int p5), .val (.int (0 : Int32)), .val (.int (4 : Int32)), .val (.ref b24), .val (.int (p5.toInt8.toInt32)), .unset] [(.int (1 : Int32)), (.ref b24)]))
      refine Go.st (fun _ k => XS.iloadN X26.here hx rfl (hb hby at_84) rfl k) ?_
      refine Go.st (fun _ k => XS.i2b X26.here hx rfl (hb hby at_85) rfl k) ?_
      show Go p e below _ (T26.setTop (mkF m 86 #[.val (.int p0), .val (.int p1), .val (.int p2), .val (.int p3), .val (.int p4), .val (.int p5), .val (.int (0 : Int32)), .val (.int (4 : Int32)), .val (.ref b24), .val (.int (p5.toInt8.toInt32)), .unset] [(.int (p1.toInt8.toInt32)), (.int (1 : Int32)), (.ref b24)]))
      obtain ⟨cl27, Ar27, ck27, Sz27, Nn27, Hs27, Gs27⟩ := id V26
      have hin27 : ¬ ((1 : Int32) < 0 ∨ cl27.slots.size ≤ ((1 : Int32)).toNatClampNeg) := inb_of Sz27 ⟨by decide, by decide⟩
      obtain ⟨T28, h28, X28, e28, W28, st28⟩ := stB X26 hx hZ e26 Ar27 (j := (1 : Int32)) hin27 (g := (mkF m 86 #[.val (.int p0), .val (.int p1), .val (.int p2), .val (.int p3), .val (.int p4), .val (.int p5), .val (.int (0 : Int32)), .val (.int (4 : Int32)), .val (.ref b24), .val (.int (p5.toInt8.toInt32)), .unset] [(.int (p1.toInt8.toInt32)), (.int (1 : Int32)), (.ref b24)])) rfl rfl (hb hby at_86)
      have V28 : Arv Z h28 b24 k24 .byte (4 : Int32) [(.int (nar .byte (p0.toInt8.toInt32))), (.int (nar .byte (p1.toInt8.toInt32))), (.int (0 : Int32)), (.int (0 : Int32))] (.int (0 : Int32)) := Arv.set Ar27 ck27 Sz27 Nn27 Hs27 Gs27 (fits_nar_byte _) W28 1 rfl (Nat.le_of_ble_eq_true rfl)
      have N28 := Fr.snoc X28 N26 gg24
      have Z28 : n0 ≤ h28.size := by rw [W28.size]; exact Z26
      refine Go.st (fun _ k => st28 _ k) ?_
      show Go p e below _ (T28.setTop (mkF m 87 #[.val (.int p0), .val (.int p1), .val (.int p2), .val (.int p3), .val (.int p4), .val (.int p5), .val (.int (0 : Int32)), .val (.int (4 : Int32)), .val (.ref b24), .val (.int (p5.toInt8.toInt32)), .unset] []))
      refine Go.st (fun _ k => XS.iload X28.here hx rfl (hb hby at_87) rfl k) ?_
      refine Go.st (fun _ k => XS.iconst X28.here hx rfl (hb hby at_89) k) ?_
      show Go p e below _ (T28.setTop (mkF m 90 #[.val (.int p0), .val (.int p1), .val (.int p2), .val (.int p3), .val (.int p4), .val (.int p5), .val (.int (0 : Int32)), .val (.int (4 : Int32)), .val (.ref b24), .val (.int (p5.toInt8.toInt32)), .unset] [(.int (2 : Int32)), (.int (4 : Int32))]))
      refine Go.st (fun _ k => XS.icmpNo X28.here hx rfl (hb hby at_90) rfl (tlt (by decide : ((2 : Int32) < (4 : Int32)))).2.2.2 k) ?_
      show Go p e below _ (T28.setTop (mkF m 93 #[.val (.int p0), .val (.int p1), .val (.int p2), .val (.int p3), .val (.int p4), .val (.int p5), .val (.int (0 : Int32)), .val (.int (4 : Int32)), .val (.ref b24), .val (.int (p5.toInt8.toInt32)), .unset] []))
      refine Go.st (fun _ k => XS.aload X28.here hx rfl (hb hby at_93) rfl rfl k) ?_
      refine Go.st (fun _ k => XS.iload X28.here hx rfl (hb hby at_95) rfl k) ?_
      show Go p e below _ (T28.setTop (mkF m 97 #[.val (.int p0), .val (.int p1), .val (.int p2), .val (.int p3), .val (.int p4), .val (.int p5), .val (.int (0 : Int32)), .val (.int (4 : Int32)), .val (.ref b24), .val (.int (p5.toInt8.toInt32)), .unset] [(.int (0 : Int32)), (.ref b24)]))
      refine Go.st (fun _ k => XS.iconst X28.here hx rfl (hb hby at_97) k) ?_
      refine Go.st (fun _ k => XS.iadd X28.here hx rfl (hb hby at_98) rfl k) ?_
      show Go p e below _ (T28.setTop (mkF m 99 #[.val (.int p0), .val (.int p1), .val (.int p2), .val (.int p3), .val (.int p4), .val (.int p5), .val (.int (0 : Int32)), .val (.int (4 : Int32)), .val (.ref b24), .val (.int (p5.toInt8.toInt32)), .unset] [(.int (2 : Int32)), (.ref b24)]))
      refine Go.st (fun _ k => XS.iloadN X28.here hx rfl (hb hby at_99) rfl k) ?_
      refine Go.st (fun _ k => XS.i2b X28.here hx rfl (hb hby at_100) rfl k) ?_
      show Go p e below _ (T28.setTop (mkF m 101 #[.val (.int p0), .val (.int p1), .val (.int p2), .val (.int p3), .val (.int p4), .val (.int p5), .val (.int (0 : Int32)), .val (.int (4 : Int32)), .val (.ref b24), .val (.int (p5.toInt8.toInt32)), .unset] [(.int (p2.toInt8.toInt32)), (.int (2 : Int32)), (.ref b24)]))
      obtain ⟨cl29, Ar29, ck29, Sz29, Nn29, Hs29, Gs29⟩ := id V28
      have hin29 : ¬ ((2 : Int32) < 0 ∨ cl29.slots.size ≤ ((2 : Int32)).toNatClampNeg) := inb_of Sz29 ⟨by decide, by decide⟩
      obtain ⟨T30, h30, X30, e30, W30, st30⟩ := stB X28 hx hZ e28 Ar29 (j := (2 : Int32)) hin29 (g := (mkF m 101 #[.val (.int p0), .val (.int p1), .val (.int p2), .val (.int p3), .val (.int p4), .val (.int p5), .val (.int (0 : Int32)), .val (.int (4 : Int32)), .val (.ref b24), .val (.int (p5.toInt8.toInt32)), .unset] [(.int (p2.toInt8.toInt32)), (.int (2 : Int32)), (.ref b24)])) rfl rfl (hb hby at_101)
      have V30 : Arv Z h30 b24 k24 .byte (4 : Int32) [(.int (nar .byte (p0.toInt8.toInt32))), (.int (nar .byte (p1.toInt8.toInt32))), (.int (nar .byte (p2.toInt8.toInt32))), (.int (0 : Int32))] (.int (0 : Int32)) := Arv.set Ar29 ck29 Sz29 Nn29 Hs29 Gs29 (fits_nar_byte _) W30 2 rfl (Nat.le_of_ble_eq_true rfl)
      have N30 := Fr.snoc X30 N28 gg24
      have Z30 : n0 ≤ h30.size := by rw [W30.size]; exact Z28
      refine Go.st (fun _ k => st30 _ k) ?_
      show Go p e below _ (T30.setTop (mkF m 102 #[.val (.int p0), .val (.int p1), .val (.int p2), .val (.int p3), .val (.int p4), .val (.int p5), .val (.int (0 : Int32)), .val (.int (4 : Int32)), .val (.ref b24), .val (.int (p5.toInt8.toInt32)), .unset] []))
      refine Go.st (fun _ k => XS.iload X30.here hx rfl (hb hby at_102) rfl k) ?_
      refine Go.st (fun _ k => XS.iconst X30.here hx rfl (hb hby at_104) k) ?_
      show Go p e below _ (T30.setTop (mkF m 105 #[.val (.int p0), .val (.int p1), .val (.int p2), .val (.int p3), .val (.int p4), .val (.int p5), .val (.int (0 : Int32)), .val (.int (4 : Int32)), .val (.ref b24), .val (.int (p5.toInt8.toInt32)), .unset] [(.int (3 : Int32)), (.int (4 : Int32))]))
      refine Go.st (fun _ k => XS.icmpNo X30.here hx rfl (hb hby at_105) rfl (tlt (by decide : ((3 : Int32) < (4 : Int32)))).2.2.2 k) ?_
      show Go p e below _ (T30.setTop (mkF m 108 #[.val (.int p0), .val (.int p1), .val (.int p2), .val (.int p3), .val (.int p4), .val (.int p5), .val (.int (0 : Int32)), .val (.int (4 : Int32)), .val (.ref b24), .val (.int (p5.toInt8.toInt32)), .unset] []))
      refine Go.st (fun _ k => XS.aload X30.here hx rfl (hb hby at_108) rfl rfl k) ?_
      refine Go.st (fun _ k => XS.iload X30.here hx rfl (hb hby at_110) rfl k) ?_
      show Go p e below _ (T30.setTop (mkF m 112 #[.val (.int p0), .val (.int p1), .val (.int p2), .val (.int p3), .val (.int p4), .val (.int p5), .val (.int (0 : Int32)), .val (.int (4 : Int32)), .val (.ref b24), .val (.int (p5.toInt8.toInt32)), .unset] [(.int (0 : Int32)), (.ref b24)]))
      refine Go.st (fun _ k => XS.iconst X30.here hx rfl (hb hby at_112) k) ?_
      refine Go.st (fun _ k => XS.iadd X30.here hx rfl (hb hby at_113) rfl k) ?_
      show Go p e below _ (T30.setTop (mkF m 114 #[.val (.int p0), .val (.int p1), .val (.int p2), .val (.int p3), .val (.int p4), .val (.int p5), .val (.int (0 : Int32)), .val (.int (4 : Int32)), .val (.ref b24), .val (.int (p5.toInt8.toInt32)), .unset] [(.int (3 : Int32)), (.ref b24)]))
      refine Go.st (fun _ k => XS.iloadN X30.here hx rfl (hb hby at_114) rfl k) ?_
      refine Go.st (fun _ k => XS.i2b X30.here hx rfl (hb hby at_115) rfl k) ?_
      show Go p e below _ (T30.setTop (mkF m 116 #[.val (.int p0), .val (.int p1), .val (.int p2), .val (.int p3), .val (.int p4), .val (.int p5), .val (.int (0 : Int32)), .val (.int (4 : Int32)), .val (.ref b24), .val (.int (p5.toInt8.toInt32)), .unset] [(.int (p3.toInt8.toInt32)), (.int (3 : Int32)), (.ref b24)]))
      obtain ⟨cl31, Ar31, ck31, Sz31, Nn31, Hs31, Gs31⟩ := id V30
      have hin31 : ¬ ((3 : Int32) < 0 ∨ cl31.slots.size ≤ ((3 : Int32)).toNatClampNeg) := inb_of Sz31 ⟨by decide, by decide⟩
      obtain ⟨T32, h32, X32, e32, W32, st32⟩ := stB X30 hx hZ e30 Ar31 (j := (3 : Int32)) hin31 (g := (mkF m 116 #[.val (.int p0), .val (.int p1), .val (.int p2), .val (.int p3), .val (.int p4), .val (.int p5), .val (.int (0 : Int32)), .val (.int (4 : Int32)), .val (.ref b24), .val (.int (p5.toInt8.toInt32)), .unset] [(.int (p3.toInt8.toInt32)), (.int (3 : Int32)), (.ref b24)])) rfl rfl (hb hby at_116)
      have V32 : Arv Z h32 b24 k24 .byte (4 : Int32) [(.int (nar .byte (p0.toInt8.toInt32))), (.int (nar .byte (p1.toInt8.toInt32))), (.int (nar .byte (p2.toInt8.toInt32))), (.int (nar .byte (p3.toInt8.toInt32)))] (.int (0 : Int32)) := Arv.set Ar31 ck31 Sz31 Nn31 Hs31 Gs31 (fits_nar_byte _) W32 3 rfl (Nat.le_of_ble_eq_true rfl)
      have N32 := Fr.snoc X32 N30 gg24
      have Z32 : n0 ≤ h32.size := by rw [W32.size]; exact Z30
      refine Go.st (fun _ k => st32 _ k) ?_
      show Go p e below _ (T32.setTop (mkF m 117 #[.val (.int p0), .val (.int p1), .val (.int p2), .val (.int p3), .val (.int p4), .val (.int p5), .val (.int (0 : Int32)), .val (.int (4 : Int32)), .val (.ref b24), .val (.int (p5.toInt8.toInt32)), .unset] []))
      refine Go.st (fun _ k => XS.aload X32.here hx rfl (hb hby at_117) rfl rfl k) ?_
      refine Go.st (fun _ k => XS.iload X32.here hx rfl (hb hby at_119) rfl k) ?_
      show Go p e below _ (T32.setTop (mkF m 121 #[.val (.int p0), .val (.int p1), .val (.int p2), .val (.int p3), .val (.int p4), .val (.int p5), .val (.int (0 : Int32)), .val (.int (4 : Int32)), .val (.ref b24), .val (.int (p5.toInt8.toInt32)), .unset] [(.int (0 : Int32)), (.ref b24)]))
      obtain ⟨_, _, ⟨T33, L33, k33, n33⟩, -, X33, ⟨Lc33, hQ33, l33, y33, z33⟩, st33⟩ := Jvm.LawKit.callS X32 hx (y := (⟨"com/example/apportis/apportis/Utf8", "characterEnd", "([BI)I"⟩ : MethodName)) hown (mvT hZ (hw _ (List.mem_of_getElem? (i := 1) rfl))) (mvT hZ (hw _ (List.mem_of_getElem? (i := 2) rfl))) (mvT hZ (hw _ (List.mem_of_getElem? (i := 3) rfl))) (mvT hZ (hw _ (List.mem_of_getElem? (i := 4) rfl))) (by decide) (backOf (W := 0) (rmCE l Z aZ hw [] (nar .byte (p0.toInt8.toInt32)) (nar .byte (p1.toInt8.toInt32)) (nar .byte (p2.toInt8.toInt32)) (nar .byte (p3.toInt8.toInt32)) b24 (0 : Int32) k24 (4 : Int32) [(.int (nar .byte (p0.toInt8.toInt32))), (.int (nar .byte (p1.toInt8.toInt32))), (.int (nar .byte (p2.toInt8.toInt32))), (.int (nar .byte (p3.toInt8.toInt32)))] h32 n0 (by decide) (by decide) (by decide) rfl (fun _ => rfl) (fun _ => rfl) (fun _ => rfl) V32) hZ (hw _ (List.mem_of_getElem? (i := 4) rfl)) (hw _ (List.mem_of_getElem? (i := 3) rfl)) (by decide) (by decide)) (g := (mkF m 121 #[.val (.int p0), .val (.int p1), .val (.int p2), .val (.int p3), .val (.int p4), .val (.int p5), .val (.int (0 : Int32)), .val (.int (4 : Int32)), .val (.ref b24), .val (.int (p5.toInt8.toInt32)), .unset] [(.int (0 : Int32)), (.ref b24)])) rfl (by rw [hml]; rfl) (argsL := [(.ref b24), (.int (0 : Int32))]) (rest := []) (lenOf pd92f6cd8e rfl) rfl (by show 2 * 0 + _ ≤ _; exact Nat.le_of_eq rfl) (hb hby at_121) (fun _ _ => ⟨rfl, e32, (by decide : 1 + 0 ≤ _), (by decide : 4 + 0 ≤ _)⟩)
      dsimp only [Pt.U, Pt.locs, Pt.cells, Pt.slots] at X33 l33 y33 z33 st33 hQ33
      subst l33 y33 z33
      obtain ⟨rfl, N33q, e33⟩ := hQ33
      have N33 := Fr.app N32 N33q
      refine Go.st (fun _ k => st33 _ k) ?_
      show Go p e below _ (T33.setTop (mkF m 124 #[.val (.int p0), .val (.int p1), .val (.int p2), .val (.int p3), .val (.int p4), .val (.int p5), .val (.int (0 : Int32)), .val (.int (4 : Int32)), .val (.ref b24), .val (.int (p5.toInt8.toInt32)), .unset] [(.int (fCE (nar .byte (p0.toInt8.toInt32)) (nar .byte (p1.toInt8.toInt32)) (nar .byte (p2.toInt8.toInt32)) (nar .byte (p3.toInt8.toInt32)) (0 : Int32) (4 : Int32)))]))
      refine Go.st (fun _ k => XS.istore X33.here hx rfl (hb hby at_124) rfl (l' := #[.val (.int p0), .val (.int p1), .val (.int p2), .val (.int p3), .val (.int p4), .val (.int p5), .val (.int (0 : Int32)), .val (.int (4 : Int32)), .val (.ref b24), .val (.int (p5.toInt8.toInt32)), .val (.int (fCE (nar .byte (p0.toInt8.toInt32)) (nar .byte (p1.toInt8.toInt32)) (nar .byte (p2.toInt8.toInt32)) (nar .byte (p3.toInt8.toInt32)) (0 : Int32) (4 : Int32)))]) rfl k) ?_
      show Go p e below _ (T33.setTop (mkF m 126 #[.val (.int p0), .val (.int p1), .val (.int p2), .val (.int p3), .val (.int p4), .val (.int p5), .val (.int (0 : Int32)), .val (.int (4 : Int32)), .val (.ref b24), .val (.int (p5.toInt8.toInt32)), .val (.int (fCE (nar .byte (p0.toInt8.toInt32)) (nar .byte (p1.toInt8.toInt32)) (nar .byte (p2.toInt8.toInt32)) (nar .byte (p3.toInt8.toInt32)) (0 : Int32) (4 : Int32)))] []))
      refine Go.st (fun _ k => XS.iload X33.here hx rfl (hb hby at_126) rfl k) ?_
      refine Go.st (fun _ k => XS.iloadN X33.here hx rfl (hb hby at_128) rfl k) ?_
      show Go p e below _ (T33.setTop (mkF m 129 #[.val (.int p0), .val (.int p1), .val (.int p2), .val (.int p3), .val (.int p4), .val (.int p5), .val (.int (0 : Int32)), .val (.int (4 : Int32)), .val (.ref b24), .val (.int (p5.toInt8.toInt32)), .val (.int (fCE (nar .byte (p0.toInt8.toInt32)) (nar .byte (p1.toInt8.toInt32)) (nar .byte (p2.toInt8.toInt32)) (nar .byte (p3.toInt8.toInt32)) (0 : Int32) (4 : Int32)))] [(.int p0), (.int (fCE (nar .byte (p0.toInt8.toInt32)) (nar .byte (p1.toInt8.toInt32)) (nar .byte (p2.toInt8.toInt32)) (nar .byte (p3.toInt8.toInt32)) (0 : Int32) (4 : Int32)))]))
      refine Go.st (fun _ k => XS.sipush X33.here hx rfl (hb hby at_129) k) ?_
      refine Go.st (fun _ k => XS.iand X33.here hx rfl (hb hby at_132) rfl k) ?_
      show Go p e below _ (T33.setTop (mkF m 133 #[.val (.int p0), .val (.int p1), .val (.int p2), .val (.int p3), .val (.int p4), .val (.int p5), .val (.int (0 : Int32)), .val (.int (4 : Int32)), .val (.ref b24), .val (.int (p5.toInt8.toInt32)), .val (.int (fCE (nar .byte (p0.toInt8.toInt32)) (nar .byte (p1.toInt8.toInt32)) (nar .byte (p2.toInt8.toInt32)) (nar .byte (p3.toInt8.toInt32)) (0 : Int32) (4 : Int32)))] [(.int (p0 &&& (255 : Int32))), (.int (fCE (nar .byte (p0.toInt8.toInt32)) (nar .byte (p1.toInt8.toInt32)) (nar .byte (p2.toInt8.toInt32)) (nar .byte (p3.toInt8.toInt32)) (0 : Int32) (4 : Int32)))]))
      refine Go.st (fun _ k => XS.iloadN X33.here hx rfl (hb hby at_133) rfl k) ?_
      refine Go.st (fun _ k => XS.sipush X33.here hx rfl (hb hby at_134) k) ?_
      show Go p e below _ (T33.setTop (mkF m 137 #[.val (.int p0), .val (.int p1), .val (.int p2), .val (.int p3), .val (.int p4), .val (.int p5), .val (.int (0 : Int32)), .val (.int (4 : Int32)), .val (.ref b24), .val (.int (p5.toInt8.toInt32)), .val (.int (fCE (nar .byte (p0.toInt8.toInt32)) (nar .byte (p1.toInt8.toInt32)) (nar .byte (p2.toInt8.toInt32)) (nar .byte (p3.toInt8.toInt32)) (0 : Int32) (4 : Int32)))] [(.int (255 : Int32)), (.int p1), (.int (p0 &&& (255 : Int32))), (.int (fCE (nar .byte (p0.toInt8.toInt32)) (nar .byte (p1.toInt8.toInt32)) (nar .byte (p2.toInt8.toInt32)) (nar .byte (p3.toInt8.toInt32)) (0 : Int32) (4 : Int32)))]))
      refine Go.st (fun _ k => XS.iand X33.here hx rfl (hb hby at_137) rfl k) ?_
      refine Go.st (fun _ k => XS.iloadN X33.here hx rfl (hb hby at_138) rfl k) ?_
      show Go p e below _ (T33.setTop (mkF m 139 #[.val (.int p0), .val (.int p1), .val (.int p2), .val (.int p3), .val (.int p4), .val (.int p5), .val (.int (0 : Int32)), .val (.int (4 : Int32)), .val (.ref b24), .val (.int (p5.toInt8.toInt32)), .val (.int (fCE (nar .byte (p0.toInt8.toInt32)) (nar .byte (p1.toInt8.toInt32)) (nar .byte (p2.toInt8.toInt32)) (nar .byte (p3.toInt8.toInt32)) (0 : Int32) (4 : Int32)))] [(.int p2), (.int (p1 &&& (255 : Int32))), (.int (p0 &&& (255 : Int32))), (.int (fCE (nar .byte (p0.toInt8.toInt32)) (nar .byte (p1.toInt8.toInt32)) (nar .byte (p2.toInt8.toInt32)) (nar .byte (p3.toInt8.toInt32)) (0 : Int32) (4 : Int32)))]))
      refine Go.st (fun _ k => XS.sipush X33.here hx rfl (hb hby at_139) k) ?_
      refine Go.st (fun _ k => XS.iand X33.here hx rfl (hb hby at_142) rfl k) ?_
      show Go p e below _ (T33.setTop (mkF m 143 #[.val (.int p0), .val (.int p1), .val (.int p2), .val (.int p3), .val (.int p4), .val (.int p5), .val (.int (0 : Int32)), .val (.int (4 : Int32)), .val (.ref b24), .val (.int (p5.toInt8.toInt32)), .val (.int (fCE (nar .byte (p0.toInt8.toInt32)) (nar .byte (p1.toInt8.toInt32)) (nar .byte (p2.toInt8.toInt32)) (nar .byte (p3.toInt8.toInt32)) (0 : Int32) (4 : Int32)))] [(.int (p2 &&& (255 : Int32))), (.int (p1 &&& (255 : Int32))), (.int (p0 &&& (255 : Int32))), (.int (fCE (nar .byte (p0.toInt8.toInt32)) (nar .byte (p1.toInt8.toInt32)) (nar .byte (p2.toInt8.toInt32)) (nar .byte (p3.toInt8.toInt32)) (0 : Int32) (4 : Int32)))]))
      refine Go.st (fun _ k => XS.iloadN X33.here hx rfl (hb hby at_143) rfl k) ?_
      refine Go.st (fun _ k => XS.sipush X33.here hx rfl (hb hby at_144) k) ?_
      show Go p e below _ (T33.setTop (mkF m 147 #[.val (.int p0), .val (.int p1), .val (.int p2), .val (.int p3), .val (.int p4), .val (.int p5), .val (.int (0 : Int32)), .val (.int (4 : Int32)), .val (.ref b24), .val (.int (p5.toInt8.toInt32)), .val (.int (fCE (nar .byte (p0.toInt8.toInt32)) (nar .byte (p1.toInt8.toInt32)) (nar .byte (p2.toInt8.toInt32)) (nar .byte (p3.toInt8.toInt32)) (0 : Int32) (4 : Int32)))] [(.int (255 : Int32)), (.int p3), (.int (p2 &&& (255 : Int32))), (.int (p1 &&& (255 : Int32))), (.int (p0 &&& (255 : Int32))), (.int (fCE (nar .byte (p0.toInt8.toInt32)) (nar .byte (p1.toInt8.toInt32)) (nar .byte (p2.toInt8.toInt32)) (nar .byte (p3.toInt8.toInt32)) (0 : Int32) (4 : Int32)))]))
      refine Go.st (fun _ k => XS.iand X33.here hx rfl (hb hby at_147) rfl k) ?_
      refine Go.st (fun _ k => XS.iload X33.here hx rfl (hb hby at_148) rfl k) ?_
      show Go p e below _ (T33.setTop (mkF m 150 #[.val (.int p0), .val (.int p1), .val (.int p2), .val (.int p3), .val (.int p4), .val (.int p5), .val (.int (0 : Int32)), .val (.int (4 : Int32)), .val (.ref b24), .val (.int (p5.toInt8.toInt32)), .val (.int (fCE (nar .byte (p0.toInt8.toInt32)) (nar .byte (p1.toInt8.toInt32)) (nar .byte (p2.toInt8.toInt32)) (nar .byte (p3.toInt8.toInt32)) (0 : Int32) (4 : Int32)))] [(.int (4 : Int32)), (.int (p3 &&& (255 : Int32))), (.int (p2 &&& (255 : Int32))), (.int (p1 &&& (255 : Int32))), (.int (p0 &&& (255 : Int32))), (.int (fCE (nar .byte (p0.toInt8.toInt32)) (nar .byte (p1.toInt8.toInt32)) (nar .byte (p2.toInt8.toInt32)) (nar .byte (p3.toInt8.toInt32)) (0 : Int32) (4 : Int32)))]))
      refine Go.st (fun _ k => XS.iload X33.here hx rfl (hb hby at_150) rfl k) ?_
      show Go p e below _ (T33.setTop (mkF m 152 #[.val (.int p0), .val (.int p1), .val (.int p2), .val (.int p3), .val (.int p4), .val (.int p5), .val (.int (0 : Int32)), .val (.int (4 : Int32)), .val (.ref b24), .val (.int (p5.toInt8.toInt32)), .val (.int (fCE (nar .byte (p0.toInt8.toInt32)) (nar .byte (p1.toInt8.toInt32)) (nar .byte (p2.toInt8.toInt32)) (nar .byte (p3.toInt8.toInt32)) (0 : Int32) (4 : Int32)))] [(.int (0 : Int32)), (.int (4 : Int32)), (.int (p3 &&& (255 : Int32))), (.int (p2 &&& (255 : Int32))), (.int (p1 &&& (255 : Int32))), (.int (p0 &&& (255 : Int32))), (.int (fCE (nar .byte (p0.toInt8.toInt32)) (nar .byte (p1.toInt8.toInt32)) (nar .byte (p2.toInt8.toInt32)) (nar .byte (p3.toInt8.toInt32)) (0 : Int32) (4 : Int32)))]))
      obtain ⟨_, _, ⟨T34, L34, k34, n34⟩, -, X34, ⟨Lc34, hQ34, l34, y34, z34⟩, st34⟩ := Jvm.LawKit.callS X33 hx (y := (⟨"com/example/apportis/apportis/Utf8CharacterEndPinLaw", "expected", "(IIIIII)I"⟩ : MethodName)) hown (mvT hZ (hw _ (List.mem_of_getElem? (i := 5) rfl))) (mvT hZ (hw _ (List.mem_of_getElem? (i := 6) rfl))) (mvT hZ (hw _ (List.mem_of_getElem? (i := 7) rfl))) (mvT hZ (hw _ (List.mem_of_getElem? (i := 8) rfl))) (by decide) (backOf (W := 1) (rm2 l Z aZ hw [] (p0 &&& (255 : Int32)) (p1 &&& (255 : Int32)) (p2 &&& (255 : Int32)) (p3 &&& (255 : Int32)) (4 : Int32) (0 : Int32) h32 n0 ) hZ (hw _ (List.mem_of_getElem? (i := 8) rfl)) (hw _ (List.mem_of_getElem? (i := 7) rfl)) (by decide) (by decide)) (g := (mkF m 152 #[.val (.int p0), .val (.int p1), .val (.int p2), .val (.int p3), .val (.int p4), .val (.int p5), .val (.int (0 : Int32)), .val (.int (4 : Int32)), .val (.ref b24), .val (.int (p5.toInt8.toInt32)), .val (.int (fCE (nar .byte (p0.toInt8.toInt32)) (nar .byte (p1.toInt8.toInt32)) (nar .byte (p2.toInt8.toInt32)) (nar .byte (p3.toInt8.toInt32)) (0 : Int32) (4 : Int32)))] [(.int (0 : Int32)), (.int (4 : Int32)), (.int (p3 &&& (255 : Int32))), (.int (p2 &&& (255 : Int32))), (.int (p1 &&& (255 : Int32))), (.int (p0 &&& (255 : Int32))), (.int (fCE (nar .byte (p0.toInt8.toInt32)) (nar .byte (p1.toInt8.toInt32)) (nar .byte (p2.toInt8.toInt32)) (nar .byte (p3.toInt8.toInt32)) (0 : Int32) (4 : Int32)))])) rfl (by rw [hml]; rfl) (argsL := [(.int (p0 &&& (255 : Int32))), (.int (p1 &&& (255 : Int32))), (.int (p2 &&& (255 : Int32))), (.int (p3 &&& (255 : Int32))), (.int (4 : Int32)), (.int (0 : Int32))]) (rest := [(.int (fCE (nar .byte (p0.toInt8.toInt32)) (nar .byte (p1.toInt8.toInt32)) (nar .byte (p2.toInt8.toInt32)) (nar .byte (p3.toInt8.toInt32)) (0 : Int32) (4 : Int32)))]) (lenOf pd41a2ea18 rfl) rfl (by show 2 * 0 + _ ≤ _; exact Nat.le_of_eq rfl) (hb hby at_152) (fun _ _ => ⟨rfl, e33, (by decide : 1 + 0 ≤ _), (by decide : 4 + 0 ≤ _)⟩)
      dsimp only [Pt.U, Pt.locs, Pt.cells, Pt.slots] at X34 l34 y34 z34 st34 hQ34
      subst l34 y34 z34
      obtain ⟨rfl, N34q, e34⟩ := hQ34
      have N34 := Fr.app N33 N34q
      refine Go.st (fun _ k => st34 _ k) ?_
      show Go p e below _ (T34.setTop (mkF m 155 #[.val (.int p0), .val (.int p1), .val (.int p2), .val (.int p3), .val (.int p4), .val (.int p5), .val (.int (0 : Int32)), .val (.int (4 : Int32)), .val (.ref b24), .val (.int (p5.toInt8.toInt32)), .val (.int (fCE (nar .byte (p0.toInt8.toInt32)) (nar .byte (p1.toInt8.toInt32)) (nar .byte (p2.toInt8.toInt32)) (nar .byte (p3.toInt8.toInt32)) (0 : Int32) (4 : Int32)))] [(.int (fExp (p0 &&& (255 : Int32)) (p1 &&& (255 : Int32)) (p2 &&& (255 : Int32)) (p3 &&& (255 : Int32)) (4 : Int32) (0 : Int32))), (.int (fCE (nar .byte (p0.toInt8.toInt32)) (nar .byte (p1.toInt8.toInt32)) (nar .byte (p2.toInt8.toInt32)) (nar .byte (p3.toInt8.toInt32)) (0 : Int32) (4 : Int32)))]))
      refine Go.st (fun _ k => XS.icmpNo X34.here hx rfl (hb hby at_155) rfl (teq (own_main p0 p1 p2 p3 (own_mask p0) (fun _ => own_mask p1) (fun _ => own_mask p2) (fun _ => own_mask p3) (by decide))).2 k) ?_
      show Go p e below _ (T34.setTop (mkF m 158 #[.val (.int p0), .val (.int p1), .val (.int p2), .val (.int p3), .val (.int p4), .val (.int p5), .val (.int (0 : Int32)), .val (.int (4 : Int32)), .val (.ref b24), .val (.int (p5.toInt8.toInt32)), .val (.int (fCE (nar .byte (p0.toInt8.toInt32)) (nar .byte (p1.toInt8.toInt32)) (nar .byte (p2.toInt8.toInt32)) (nar .byte (p3.toInt8.toInt32)) (0 : Int32) (4 : Int32)))] []))
      refine Go.st (fun _ k => XS.iconst X34.here hx rfl (hb hby at_158) k) ?_
      refine Go.st (fun _ k => XS.goto X34.here hx rfl (pc0 := 159) (pc' := 163) rfl (hb hby at_159) (by decide) (by decide) k) ?_
      show Go p e below _ (T34.setTop (mkF m 163 #[.val (.int p0), .val (.int p1), .val (.int p2), .val (.int p3), .val (.int p4), .val (.int p5), .val (.int (0 : Int32)), .val (.int (4 : Int32)), .val (.ref b24), .val (.int (p5.toInt8.toInt32)), .val (.int (fCE (nar .byte (p0.toInt8.toInt32)) (nar .byte (p1.toInt8.toInt32)) (nar .byte (p2.toInt8.toInt32)) (nar .byte (p3.toInt8.toInt32)) (0 : Int32) (4 : Int32)))] [(.int (1 : Int32))]))
      obtain ⟨fs, hr, hrun, hended, hW, hsame⟩ := X34.leave (v := some (.int (1 : Int32))) (fun h => by rw [Bd.returns] at h; cases h)
      refine ⟨_, _, retN X34 hx (t := .boolean) Bd.returns (by simp) (hb hby at_163) hr, hrun, hended, _, _, rfl, ?_, ⟨_, rfl⟩, hW, hsame.mono (by decide) (by decide)⟩
      show Q_rm0 Z p0 p1 p2 p3 p4 p5 h0 n0 _ T34.heap _
      rw [e34]
      exact ⟨rfl, N34⟩
  · rw [hr1]
    show Go p e below _ (s₁.setTop (mkF m 4 #[.val (.int p0), .val (.int p1), .val (.int p2), .val (.int p3), .val (.int p4), .val (.int p5), .unset, .unset, .unset, .unset, .unset] [(.int (1 : Int32))]))
    refine Go.st (fun _ k => XS.istore X0.here hx rfl (hb hby at_4) rfl (l' := #[.val (.int p0), .val (.int p1), .val (.int p2), .val (.int p3), .val (.int p4), .val (.int p5), .val (.int (1 : Int32)), .unset, .unset, .unset, .unset]) rfl k) ?_
    show Go p e below _ (s₁.setTop (mkF m 6 #[.val (.int p0), .val (.int p1), .val (.int p2), .val (.int p3), .val (.int p4), .val (.int p5), .val (.int (1 : Int32)), .unset, .unset, .unset, .unset] []))
    refine Go.st (fun _ k => XS.iconst X0.here hx rfl (hb hby at_6) k) ?_
    refine Go.st (fun _ k => XS.iload X0.here hx rfl (hb hby at_7) rfl k) ?_
    show Go p e below _ (s₁.setTop (mkF m 9 #[.val (.int p0), .val (.int p1), .val (.int p2), .val (.int p3), .val (.int p4), .val (.int p5), .val (.int (1 : Int32)), .unset, .unset, .unset, .unset] [(.int p4), (.int (1 : Int32))]))
    refine Go.st (fun _ k => XS.iconst X0.here hx rfl (hb hby at_9) k) ?_
    refine Go.st (fun _ k => XS.iushr X0.here hx rfl (hb hby at_10) rfl k) ?_
    show Go p e below _ (s₁.setTop (mkF m 11 #[.val (.int p0), .val (.int p1), .val (.int p2), .val (.int p3), .val (.int p4), .val (.int p5), .val (.int (1 : Int32)), .unset, .unset, .unset, .unset] [(.int ((p4.toUInt32 >>> ((2 : Int32) &&& 31).toUInt32).toInt32)), (.int (1 : Int32))]))
    refine Go.st (fun _ k => XS.iconst X0.here hx rfl (hb hby at_11) k) ?_
    refine Go.st (fun _ k => XS.iand X0.here hx rfl (hb hby at_12) rfl k) ?_
    show Go p e below _ (s₁.setTop (mkF m 13 #[.val (.int p0), .val (.int p1), .val (.int p2), .val (.int p3), .val (.int p4), .val (.int p5), .val (.int (1 : Int32)), .unset, .unset, .unset, .unset] [(.int (((p4.toUInt32 >>> ((2 : Int32) &&& 31).toUInt32).toInt32) &&& (3 : Int32))), (.int (1 : Int32))]))
    rcases own_and3 _ with hr35 | hr35 | hr35 | hr35
    · rw [hr35]
      show Go p e below _ (s₁.setTop (mkF m 13 #[.val (.int p0), .val (.int p1), .val (.int p2), .val (.int p3), .val (.int p4), .val (.int p5), .val (.int (1 : Int32)), .unset, .unset, .unset, .unset] [(.int (0 : Int32)), (.int (1 : Int32))]))
      refine Go.st (fun _ k => XS.iadd X0.here hx rfl (hb hby at_13) rfl k) ?_
      refine Go.st (fun _ k => XS.istore X0.here hx rfl (hb hby at_14) rfl (l' := #[.val (.int p0), .val (.int p1), .val (.int p2), .val (.int p3), .val (.int p4), .val (.int p5), .val (.int (1 : Int32)), .val (.int (1 : Int32)), .unset, .unset, .unset]) rfl k) ?_
      show Go p e below _ (s₁.setTop (mkF m 16 #[.val (.int p0), .val (.int p1), .val (.int p2), .val (.int p3), .val (.int p4), .val (.int p5), .val (.int (1 : Int32)), .val (.int (1 : Int32)), .unset, .unset, .unset] []))
      refine Go.st (fun _ k => XS.iload X0.here hx rfl (hb hby at_16) rfl k) ?_
      refine Go.st (fun _ k => XS.iload X0.here hx rfl (hb hby at_18) rfl k) ?_
      show Go p e below _ (s₁.setTop (mkF m 20 #[.val (.int p0), .val (.int p1), .val (.int p2), .val (.int p3), .val (.int p4), .val (.int p5), .val (.int (1 : Int32)), .val (.int (1 : Int32)), .unset, .unset, .unset] [(.int (1 : Int32)), (.int (1 : Int32))]))
      refine Go.st (fun _ k => XS.iadd X0.here hx rfl (hb hby at_20) rfl k) ?_
      show Go p e below _ (s₁.setTop (mkF m 21 #[.val (.int p0), .val (.int p1), .val (.int p2), .val (.int p3), .val (.int p4), .val (.int p5), .val (.int (1 : Int32)), .val (.int (1 : Int32)), .unset, .unset, .unset] [(.int (2 : Int32))]))
      obtain ⟨T36, h36, k36, X36, e36, E36, A36, st36⟩ := newP X0 hx hZ (hw _ (List.mem_of_getElem? (i := 0) rfl)) e0 (g := (mkF m 21 #[.val (.int p0), .val (.int p1), .val (.int p2), .val (.int p3), .val (.int p4), .val (.int p5), .val (.int (1 : Int32)), .val (.int (1 : Int32)), .unset, .unset, .unset] [(.int (2 : Int32))])) rfl (hb hby at_21) rfl (by decide) (cap := 2) (by decide) (by decide) (by decide) (by decide)
      obtain ⟨b36, g36⟩ : ∃ z, z = h0.size := ⟨_, rfl⟩
      have gg36 : n0 ≤ b36 := Nat.le_trans Z0 (Nat.le_of_eq g36.symm)
      rw [← g36] at A36 st36
      have Z36 : n0 ≤ h36.size := Nat.le_trans Z0 E36.1
      have V36 : Arv Z h36 b36 k36 .byte (2 : Int32) [(.int (0 : Int32)), (.int (0 : Int32))] (.int (0 : Int32)) := (Arv.new A36 (by decide)).pad (pad_rep [] (.int (0 : Int32)) 2)
      refine Go.st (fun _ k => st36 _ k) ?_
      show Go p e below _ (T36.setTop (mkF m 23 #[.val (.int p0), .val (.int p1), .val (.int p2), .val (.int p3), .val (.int p4), .val (.int p5), .val (.int (1 : Int32)), .val (.int (1 : Int32)), .unset, .unset, .unset] [(.ref b36)]))
      refine Go.st (fun _ k => XS.astore X36.here hx rfl (hb hby at_23) rfl rfl (l' := #[.val (.int p0), .val (.int p1), .val (.int p2), .val (.int p3), .val (.int p4), .val (.int p5), .val (.int (1 : Int32)), .val (.int (1 : Int32)), .val (.ref b36), .unset, .unset]) rfl k) ?_
      show Go p e below _ (T36.setTop (mkF m 25 #[.val (.int p0), .val (.int p1), .val (.int p2), .val (.int p3), .val (.int p4), .val (.int p5), .val (.int (1 : Int32)), .val (.int (1 : Int32)), .val (.ref b36), .unset, .unset] []))
      refine Go.st (fun _ k => XS.iload X36.here hx rfl (hb hby at_25) rfl k) ?_
      refine Go.st (fun _ k => XS.i2b X36.here hx rfl (hb hby at_27) rfl k) ?_
      show Go p e below _ (T36.setTop (mkF m 28 #[.val (.int p0), .val (.int p1), .val (.int p2), .val (.int p3), .val (.int p4), .val (.int p5), .val (.int (1 : Int32)), .val (.int (1 : Int32)), .val (.ref b36), .unset, .unset] [(.int (p5.toInt8.toInt32))]))
      refine Go.st (fun _ k => XS.istore X36.here hx rfl (hb hby at_28) rfl (l' := #[.val (.int p0), .val (.int p1), .val (.int p2), .val (.int p3), .val (.int p4), .val (.int p5), .val (.int (1 : Int32)), .val (.int (1 : Int32)), .val (.ref b36), .val (.int (p5.toInt8.toInt32)), .unset]) rfl k) ?_
      show Go p e below _ (T36.setTop (mkF m 30 #[.val (.int p0), .val (.int p1), .val (.int p2), .val (.int p3), .val (.int p4), .val (.int p5), .val (.int (1 : Int32)), .val (.int (1 : Int32)), .val (.ref b36), .val (.int (p5.toInt8.toInt32)), .unset] []))
      refine Go.st (fun _ k => XS.iload X36.here hx rfl (hb hby at_30) rfl k) ?_
      refine Go.st (fun _ k => XS.ifNo X36.here hx rfl (hb hby at_32) rfl ((if0 _ _).trans (tlt (by decide : ((0 : Int32) < (1 : Int32)))).2.2.2) k) ?_
      show Go p e below _ (T36.setTop (mkF m 35 #[.val (.int p0), .val (.int p1), .val (.int p2), .val (.int p3), .val (.int p4), .val (.int p5), .val (.int (1 : Int32)), .val (.int (1 : Int32)), .val (.ref b36), .val (.int (p5.toInt8.toInt32)), .unset] []))
      refine Go.st (fun _ k => XS.aload X36.here hx rfl (hb hby at_35) rfl rfl k) ?_
      refine Go.st (fun _ k => XS.iconst X36.here hx rfl (hb hby at_37) k) ?_
      show Go p e below _ (T36.setTop (mkF m 38 #[.val (.int p0), .val (.int p1), .val (.int p2), .val (.int p3), .val (.int p4), .val (.int p5), .val (.int (1 : Int32)), .val (.int (1 : Int32)), .val (.ref b36), .val (.int (p5.toInt8.toInt32)), .unset] [(.int (0 : Int32)), (.ref b36)]))
      refine Go.st (fun _ k => XS.iload X36.here hx rfl (hb hby at_38) rfl k) ?_
      show Go p e below _ (T36.setTop (mkF m 40 #[.val (.int p0), .val (.int p1), .val (.int p2), .val (.int p3), .val (.int p4), .val (.int p5), .val (.int (1 : Int32)), .val (.int (1 : Int32)), .val (.ref b36), .val (.int (p5.toInt8.toInt32)), .unset] [(.int (p5.toInt8.toInt32)), (.int (0 : Int32)), (.ref b36)]))
      obtain ⟨cl37, Ar37, ck37, Sz37, Nn37, Hs37, Gs37⟩ := id V36
      have hin37 : ¬ ((0 : Int32) < 0 ∨ cl37.slots.size ≤ ((0 : Int32)).toNatClampNeg) := inb_of Sz37 ⟨by decide, by decide⟩
      obtain ⟨T38, h38, X38, e38, W38, st38⟩ := stB X36 hx hZ e36 Ar37 (j := (0 : Int32)) hin37 (g := (mkF m 40 #[.val (.int p0), .val (.int p1), .val (.int p2), .val (.int p3), .val (.int p4), .val (.int p5), .val (.int (1 : Int32)), .val (.int (1 : Int32)), .val (.ref b36), .val (.int (p5.toInt8.toInt32)), .unset] [(.int (p5.toInt8.toInt32)), (.int (0 : Int32)), (.ref b36)])) rfl rfl (hb hby at_40)
      have V38 : Arv Z h38 b36 k36 .byte (2 : Int32) [(.int (nar .byte (p5.toInt8.toInt32))), (.int (0 : Int32))] (.int (0 : Int32)) := Arv.set Ar37 ck37 Sz37 Nn37 Hs37 Gs37 (fits_nar_byte _) W38 0 rfl (Nat.le_of_ble_eq_true rfl)
      have N38 := Fr.snoc X38 N0 gg36
      have Z38 : n0 ≤ h38.size := by rw [W38.size]; exact Z36
      refine Go.st (fun _ k => st38 _ k) ?_
      show Go p e below _ (T38.setTop (mkF m 41 #[.val (.int p0), .val (.int p1), .val (.int p2), .val (.int p3), .val (.int p4), .val (.int p5), .val (.int (1 : Int32)), .val (.int (1 : Int32)), .val (.ref b36), .val (.int (p5.toInt8.toInt32)), .unset] []))
      refine Go.st (fun _ k => XS.iload X38.here hx rfl (hb hby at_41) rfl k) ?_
      refine Go.st (fun _ k => XS.iconst X38.here hx rfl (hb hby at_43) k) ?_
      show Go p e below _ (T38.setTop (mkF m 44 #[.val (.int p0), .val (.int p1), .val (.int p2), .val (.int p3), .val (.int p4), .val (.int p5), .val (.int (1 : Int32)), .val (.int (1 : Int32)), .val (.ref b36), .val (.int (p5.toInt8.toInt32)), .unset] [(.int (1 : Int32)), (.int (1 : Int32))]))
      refine Go.st (fun _ k => XS.icmpYes X38.here hx rfl (pc0 := 44) (pc' := 53) rfl (hb hby at_44) rfl (flt (by decide : ¬ ((1 : Int32) < (1 : Int32)))).2.2.2 (by decide) (by decide) k) ?_
      show Go p e below _ (T38.setTop (mkF m 53 #[.val (.int p0), .val (.int p1), .val (.int p2), .val (.int p3), .val (.int p4), .val (.int p5), .val (.int (1 : Int32)), .val (.int (1 : Int32)), .val (.ref b36), .val (.int (p5.toInt8.toInt32)), .unset] []))
      refine Go.st (fun _ k => XS.iload X38.here hx rfl (hb hby at_53) rfl k) ?_
      refine Go.st (fun _ k => XS.iconst X38.here hx rfl (hb hby at_55) k) ?_
      show Go p e below _ (T38.setTop (mkF m 56 #[.val (.int p0), .val (.int p1), .val (.int p2), .val (.int p3), .val (.int p4), .val (.int p5), .val (.int (1 : Int32)), .val (.int (1 : Int32)), .val (.ref b36), .val (.int (p5.toInt8.toInt32)), .unset] [(.int (2 : Int32)), (.int (1 : Int32))]))
      refine Go.st (fun _ k => XS.icmpYes X38.here hx rfl (pc0 := 56) (pc' := 65) rfl (hb hby at_56) rfl (flt (by decide : ¬ ((2 : Int32) < (1 : Int32)))).2.2.2 (by decide) (by decide) k) ?_
      show Go p e below _ (T38.setTop (mkF m 65 #[.val (.int p0), .val (.int p1), .val (.int p2), .val (.int p3), .val (.int p4), .val (.int p5), .val (.int (1 : Int32)), .val (.int (1 : Int32)), .val (.ref b36), .val (.int (p5.toInt8.toInt32)), .unset] []))
      refine Go.st (fun _ k => XS.aload X38.here hx rfl (hb hby at_65) rfl rfl k) ?_
      refine Go.st (fun _ k => XS.iload X38.here hx rfl (hb hby at_67) rfl k) ?_
      show Go p e below _ (T38.setTop (mkF m 69 #[.val (.int p0), .val (.int p1), .val (.int p2), .val (.int p3), .val (.int p4), .val (.int p5), .val (.int (1 : Int32)), .val (.int (1 : Int32)), .val (.ref b36), .val (.int (p5.toInt8.toInt32)), .unset] [(.int (1 : Int32)), (.ref b36)]))
      refine Go.st (fun _ k => XS.iloadN X38.here hx rfl (hb hby at_69) rfl k) ?_
      refine Go.st (fun _ k => XS.i2b X38.here hx rfl (hb hby at_70) rfl k) ?_
      show Go p e below _ (T38.setTop (mkF m 71 #[.val (.int p0), .val (.int p1), .val (.int p2), .val (.int p3), .val (.int p4), .val (.int p5), .val (.int (1 : Int32)), .val (.int (1 : Int32)), .val (.ref b36), .val (.int (p5.toInt8.toInt32)), .unset] [(.int (p0.toInt8.toInt32)), (.int (1 : Int32)), (.ref b36)]))
      obtain ⟨cl39, Ar39, ck39, Sz39, Nn39, Hs39, Gs39⟩ := id V38
      have hin39 : ¬ ((1 : Int32) < 0 ∨ cl39.slots.size ≤ ((1 : Int32)).toNatClampNeg) := inb_of Sz39 ⟨by decide, by decide⟩
      obtain ⟨T40, h40, X40, e40, W40, st40⟩ := stB X38 hx hZ e38 Ar39 (j := (1 : Int32)) hin39 (g := (mkF m 71 #[.val (.int p0), .val (.int p1), .val (.int p2), .val (.int p3), .val (.int p4), .val (.int p5), .val (.int (1 : Int32)), .val (.int (1 : Int32)), .val (.ref b36), .val (.int (p5.toInt8.toInt32)), .unset] [(.int (p0.toInt8.toInt32)), (.int (1 : Int32)), (.ref b36)])) rfl rfl (hb hby at_71)
      have V40 : Arv Z h40 b36 k36 .byte (2 : Int32) [(.int (nar .byte (p5.toInt8.toInt32))), (.int (nar .byte (p0.toInt8.toInt32)))] (.int (0 : Int32)) := Arv.set Ar39 ck39 Sz39 Nn39 Hs39 Gs39 (fits_nar_byte _) W40 1 rfl (Nat.le_of_ble_eq_true rfl)
      have N40 := Fr.snoc X40 N38 gg36
      have Z40 : n0 ≤ h40.size := by rw [W40.size]; exact Z38
      refine Go.st (fun _ k => st40 _ k) ?_
      show Go p e below _ (T40.setTop (mkF m 72 #[.val (.int p0), .val (.int p1), .val (.int p2), .val (.int p3), .val (.int p4), .val (.int p5), .val (.int (1 : Int32)), .val (.int (1 : Int32)), .val (.ref b36), .val (.int (p5.toInt8.toInt32)), .unset] []))
      refine Go.st (fun _ k => XS.iload X40.here hx rfl (hb hby at_72) rfl k) ?_
      refine Go.st (fun _ k => XS.iconst X40.here hx rfl (hb hby at_74) k) ?_
      show Go p e below _ (T40.setTop (mkF m 75 #[.val (.int p0), .val (.int p1), .val (.int p2), .val (.int p3), .val (.int p4), .val (.int p5), .val (.int (1 : Int32)), .val (.int (1 : Int32)), .val (.ref b36), .val (.int (p5.toInt8.toInt32)), .unset] [(.int (1 : Int32)), (.int (1 : Int32))]))
      refine Go.st (fun _ k => XS.icmpYes X40.here hx rfl (pc0 := 75) (pc' := 87) rfl (hb hby at_75) rfl (flt (by decide : ¬ ((1 : Int32) < (1 : Int32)))).2.2.2 (by decide) (by decide) k) ?_
      show Go p e below _ (T40.setTop (mkF m 87 #[.val (.int p0), .val (.int p1), .val (.int p2), .val (.int p3), .val (.int p4), .val (.int p5), .val (.int (1 : Int32)), .val (.int (1 : Int32)), .val (.ref b36), .val (.int (p5.toInt8.toInt32)), .unset] []))
      refine Go.st (fun _ k => XS.iload X40.here hx rfl (hb hby at_87) rfl k) ?_
      refine Go.st (fun _ k => XS.iconst X40.here hx rfl (hb hby at_89) k) ?_
      show Go p e below _ (T40.setTop (mkF m 90 #[.val (.int p0), .val (.int p1), .val (.int p2), .val (.int p3), .val (.int p4), .val (.int p5), .val (.int (1 : Int32)), .val (.int (1 : Int32)), .val (.ref b36), .val (.int (p5.toInt8.toInt32)), .unset] [(.int (2 : Int32)), (.int (1 : Int32))]))
      refine Go.st (fun _ k => XS.icmpYes X40.here hx rfl (pc0 := 90) (pc' := 102) rfl (hb hby at_90) rfl (flt (by decide : ¬ ((2 : Int32) < (1 : Int32)))).2.2.2 (by decide) (by decide) k) ?_
      show Go p e below _ (T40.setTop (mkF m 102 #[.val (.int p0), .val (.int p1), .val (.int p2), .val (.int p3), .val (.int p4), .val (.int p5), .val (.int (1 : Int32)), .val (.int (1 : Int32)), .val (.ref b36), .val (.int (p5.toInt8.toInt32)), .unset] []))
      refine Go.st (fun _ k => XS.iload X40.here hx rfl (hb hby at_102) rfl k) ?_
      refine Go.st (fun _ k => XS.iconst X40.here hx rfl (hb hby at_104) k) ?_
      show Go p e below _ (T40.setTop (mkF m 105 #[.val (.int p0), .val (.int p1), .val (.int p2), .val (.int p3), .val (.int p4), .val (.int p5), .val (.int (1 : Int32)), .val (.int (1 : Int32)), .val (.ref b36), .val (.int (p5.toInt8.toInt32)), .unset] [(.int (3 : Int32)), (.int (1 : Int32))]))
      refine Go.st (fun _ k => XS.icmpYes X40.here hx rfl (pc0 := 105) (pc' := 117) rfl (hb hby at_105) rfl (flt (by decide : ¬ ((3 : Int32) < (1 : Int32)))).2.2.2 (by decide) (by decide) k) ?_
      show Go p e below _ (T40.setTop (mkF m 117 #[.val (.int p0), .val (.int p1), .val (.int p2), .val (.int p3), .val (.int p4), .val (.int p5), .val (.int (1 : Int32)), .val (.int (1 : Int32)), .val (.ref b36), .val (.int (p5.toInt8.toInt32)), .unset] []))
      refine Go.st (fun _ k => XS.aload X40.here hx rfl (hb hby at_117) rfl rfl k) ?_
      refine Go.st (fun _ k => XS.iload X40.here hx rfl (hb hby at_119) rfl k) ?_
      show Go p e below _ (T40.setTop (mkF m 121 #[.val (.int p0), .val (.int p1), .val (.int p2), .val (.int p3), .val (.int p4), .val (.int p5), .val (.int (1 : Int32)), .val (.int (1 : Int32)), .val (.ref b36), .val (.int (p5.toInt8.toInt32)), .unset] [(.int (1 : Int32)), (.ref b36)]))
      obtain ⟨_, _, ⟨T41, L41, k41, n41⟩, -, X41, ⟨Lc41, hQ41, l41, y41, z41⟩, st41⟩ := Jvm.LawKit.callS X40 hx (y := (⟨"com/example/apportis/apportis/Utf8", "characterEnd", "([BI)I"⟩ : MethodName)) hown (mvT hZ (hw _ (List.mem_of_getElem? (i := 1) rfl))) (mvT hZ (hw _ (List.mem_of_getElem? (i := 2) rfl))) (mvT hZ (hw _ (List.mem_of_getElem? (i := 3) rfl))) (mvT hZ (hw _ (List.mem_of_getElem? (i := 4) rfl))) (by decide) (backOf (W := 0) (rmCE l Z aZ hw [] (nar .byte (p0.toInt8.toInt32)) (0 : Int32) (0 : Int32) (0 : Int32) b36 (1 : Int32) k36 (2 : Int32) [(.int (nar .byte (p5.toInt8.toInt32))), (.int (nar .byte (p0.toInt8.toInt32)))] h40 n0 (by decide) (by decide) (by decide) rfl (fun h => absurd h (by decide)) (fun h => absurd h (by decide)) (fun h => absurd h (by decide)) V40) hZ (hw _ (List.mem_of_getElem? (i := 4) rfl)) (hw _ (List.mem_of_getElem? (i := 3) rfl)) (by decide) (by decide)) (g := (mkF m 121 #[.val (.int p0), .val (.int p1), .val (.int p2), .val (.int p3), .val (.int p4), .val (.int p5), .val (.int (1 : Int32)), .val (.int (1 : Int32)), .val (.ref b36), .val (.int (p5.toInt8.toInt32)), .unset] [(.int (1 : Int32)), (.ref b36)])) rfl (by rw [hml]; rfl) (argsL := [(.ref b36), (.int (1 : Int32))]) (rest := []) (lenOf pd92f6cd8e rfl) rfl (by show 2 * 0 + _ ≤ _; exact Nat.le_of_eq rfl) (hb hby at_121) (fun _ _ => ⟨rfl, e40, (by decide : 1 + 0 ≤ _), (by decide : 2 + 0 ≤ _)⟩)
      dsimp only [Pt.U, Pt.locs, Pt.cells, Pt.slots] at X41 l41 y41 z41 st41 hQ41
      subst l41 y41 z41
      obtain ⟨rfl, N41q, e41⟩ := hQ41
      have N41 := Fr.app N40 N41q
      refine Go.st (fun _ k => st41 _ k) ?_
      show Go p e below _ (T41.setTop (mkF m 124 #[.val (.int p0), .val (.int p1), .val (.int p2), .val (.int p3), .val (.int p4), .val (.int p5), .val (.int (1 : Int32)), .val (.int (1 : Int32)), .val (.ref b36), .val (.int (p5.toInt8.toInt32)), .unset] [(.int (fCE (nar .byte (p0.toInt8.toInt32)) (0 : Int32) (0 : Int32) (0 : Int32) (1 : Int32) (2 : Int32)))]))
      refine Go.st (fun _ k => XS.istore X41.here hx rfl (hb hby at_124) rfl (l' := #[.val (.int p0), .val (.int p1), .val (.int p2), .val (.int p3), .val (.int p4), .val (.int p5), .val (.int (1 : Int32)), .val (.int (1 : Int32)), .val (.ref b36), .val (.int (p5.toInt8.toInt32)), .val (.int (fCE (nar .byte (p0.toInt8.toInt32)) (0 : Int32) (0 : Int32) (0 : Int32) (1 : Int32) (2 : Int32)))]) rfl k) ?_
      show Go p e below _ (T41.setTop (mkF m 126 #[.val (.int p0), .val (.int p1), .val (.int p2), .val (.int p3), .val (.int p4), .val (.int p5), .val (.int (1 : Int32)), .val (.int (1 : Int32)), .val (.ref b36), .val (.int (p5.toInt8.toInt32)), .val (.int (fCE (nar .byte (p0.toInt8.toInt32)) (0 : Int32) (0 : Int32) (0 : Int32) (1 : Int32) (2 : Int32)))] []))
      refine Go.st (fun _ k => XS.iload X41.here hx rfl (hb hby at_126) rfl k) ?_
      refine Go.st (fun _ k => XS.iloadN X41.here hx rfl (hb hby at_128) rfl k) ?_
      show Go p e below _ (T41.setTop (mkF m 129 #[.val (.int p0), .val (.int p1), .val (.int p2), .val (.int p3), .val (.int p4), .val (.int p5), .val (.int (1 : Int32)), .val (.int (1 : Int32)), .val (.ref b36), .val (.int (p5.toInt8.toInt32)), .val (.int (fCE (nar .byte (p0.toInt8.toInt32)) (0 : Int32) (0 : Int32) (0 : Int32) (1 : Int32) (2 : Int32)))] [(.int p0), (.int (fCE (nar .byte (p0.toInt8.toInt32)) (0 : Int32) (0 : Int32) (0 : Int32) (1 : Int32) (2 : Int32)))]))
      refine Go.st (fun _ k => XS.sipush X41.here hx rfl (hb hby at_129) k) ?_
      refine Go.st (fun _ k => XS.iand X41.here hx rfl (hb hby at_132) rfl k) ?_
      show Go p e below _ (T41.setTop (mkF m 133 #[.val (.int p0), .val (.int p1), .val (.int p2), .val (.int p3), .val (.int p4), .val (.int p5), .val (.int (1 : Int32)), .val (.int (1 : Int32)), .val (.ref b36), .val (.int (p5.toInt8.toInt32)), .val (.int (fCE (nar .byte (p0.toInt8.toInt32)) (0 : Int32) (0 : Int32) (0 : Int32) (1 : Int32) (2 : Int32)))] [(.int (p0 &&& (255 : Int32))), (.int (fCE (nar .byte (p0.toInt8.toInt32)) (0 : Int32) (0 : Int32) (0 : Int32) (1 : Int32) (2 : Int32)))]))
      refine Go.st (fun _ k => XS.iloadN X41.here hx rfl (hb hby at_133) rfl k) ?_
      refine Go.st (fun _ k => XS.sipush X41.here hx rfl (hb hby at_134) k) ?_
      show Go p e below _ (T41.setTop (mkF m 137 #[.val (.int p0), .val (.int p1), .val (.int p2), .val (.int p3), .val (.int p4), .val (.int p5), .val (.int (1 : Int32)), .val (.int (1 : Int32)), .val (.ref b36), .val (.int (p5.toInt8.toInt32)), .val (.int (fCE (nar .byte (p0.toInt8.toInt32)) (0 : Int32) (0 : Int32) (0 : Int32) (1 : Int32) (2 : Int32)))] [(.int (255 : Int32)), (.int p1), (.int (p0 &&& (255 : Int32))), (.int (fCE (nar .byte (p0.toInt8.toInt32)) (0 : Int32) (0 : Int32) (0 : Int32) (1 : Int32) (2 : Int32)))]))
      refine Go.st (fun _ k => XS.iand X41.here hx rfl (hb hby at_137) rfl k) ?_
      refine Go.st (fun _ k => XS.iloadN X41.here hx rfl (hb hby at_138) rfl k) ?_
      show Go p e below _ (T41.setTop (mkF m 139 #[.val (.int p0), .val (.int p1), .val (.int p2), .val (.int p3), .val (.int p4), .val (.int p5), .val (.int (1 : Int32)), .val (.int (1 : Int32)), .val (.ref b36), .val (.int (p5.toInt8.toInt32)), .val (.int (fCE (nar .byte (p0.toInt8.toInt32)) (0 : Int32) (0 : Int32) (0 : Int32) (1 : Int32) (2 : Int32)))] [(.int p2), (.int (p1 &&& (255 : Int32))), (.int (p0 &&& (255 : Int32))), (.int (fCE (nar .byte (p0.toInt8.toInt32)) (0 : Int32) (0 : Int32) (0 : Int32) (1 : Int32) (2 : Int32)))]))
      refine Go.st (fun _ k => XS.sipush X41.here hx rfl (hb hby at_139) k) ?_
      refine Go.st (fun _ k => XS.iand X41.here hx rfl (hb hby at_142) rfl k) ?_
      show Go p e below _ (T41.setTop (mkF m 143 #[.val (.int p0), .val (.int p1), .val (.int p2), .val (.int p3), .val (.int p4), .val (.int p5), .val (.int (1 : Int32)), .val (.int (1 : Int32)), .val (.ref b36), .val (.int (p5.toInt8.toInt32)), .val (.int (fCE (nar .byte (p0.toInt8.toInt32)) (0 : Int32) (0 : Int32) (0 : Int32) (1 : Int32) (2 : Int32)))] [(.int (p2 &&& (255 : Int32))), (.int (p1 &&& (255 : Int32))), (.int (p0 &&& (255 : Int32))), (.int (fCE (nar .byte (p0.toInt8.toInt32)) (0 : Int32) (0 : Int32) (0 : Int32) (1 : Int32) (2 : Int32)))]))
      refine Go.st (fun _ k => XS.iloadN X41.here hx rfl (hb hby at_143) rfl k) ?_
      refine Go.st (fun _ k => XS.sipush X41.here hx rfl (hb hby at_144) k) ?_
      show Go p e below _ (T41.setTop (mkF m 147 #[.val (.int p0), .val (.int p1), .val (.int p2), .val (.int p3), .val (.int p4), .val (.int p5), .val (.int (1 : Int32)), .val (.int (1 : Int32)), .val (.ref b36), .val (.int (p5.toInt8.toInt32)), .val (.int (fCE (nar .byte (p0.toInt8.toInt32)) (0 : Int32) (0 : Int32) (0 : Int32) (1 : Int32) (2 : Int32)))] [(.int (255 : Int32)), (.int p3), (.int (p2 &&& (255 : Int32))), (.int (p1 &&& (255 : Int32))), (.int (p0 &&& (255 : Int32))), (.int (fCE (nar .byte (p0.toInt8.toInt32)) (0 : Int32) (0 : Int32) (0 : Int32) (1 : Int32) (2 : Int32)))]))
      refine Go.st (fun _ k => XS.iand X41.here hx rfl (hb hby at_147) rfl k) ?_
      refine Go.st (fun _ k => XS.iload X41.here hx rfl (hb hby at_148) rfl k) ?_
      show Go p e below _ (T41.setTop (mkF m 150 #[.val (.int p0), .val (.int p1), .val (.int p2), .val (.int p3), .val (.int p4), .val (.int p5), .val (.int (1 : Int32)), .val (.int (1 : Int32)), .val (.ref b36), .val (.int (p5.toInt8.toInt32)), .val (.int (fCE (nar .byte (p0.toInt8.toInt32)) (0 : Int32) (0 : Int32) (0 : Int32) (1 : Int32) (2 : Int32)))] [(.int (1 : Int32)), (.int (p3 &&& (255 : Int32))), (.int (p2 &&& (255 : Int32))), (.int (p1 &&& (255 : Int32))), (.int (p0 &&& (255 : Int32))), (.int (fCE (nar .byte (p0.toInt8.toInt32)) (0 : Int32) (0 : Int32) (0 : Int32) (1 : Int32) (2 : Int32)))]))
      refine Go.st (fun _ k => XS.iload X41.here hx rfl (hb hby at_150) rfl k) ?_
      show Go p e below _ (T41.setTop (mkF m 152 #[.val (.int p0), .val (.int p1), .val (.int p2), .val (.int p3), .val (.int p4), .val (.int p5), .val (.int (1 : Int32)), .val (.int (1 : Int32)), .val (.ref b36), .val (.int (p5.toInt8.toInt32)), .val (.int (fCE (nar .byte (p0.toInt8.toInt32)) (0 : Int32) (0 : Int32) (0 : Int32) (1 : Int32) (2 : Int32)))] [(.int (1 : Int32)), (.int (1 : Int32)), (.int (p3 &&& (255 : Int32))), (.int (p2 &&& (255 : Int32))), (.int (p1 &&& (255 : Int32))), (.int (p0 &&& (255 : Int32))), (.int (fCE (nar .byte (p0.toInt8.toInt32)) (0 : Int32) (0 : Int32) (0 : Int32) (1 : Int32) (2 : Int32)))]))
      obtain ⟨_, _, ⟨T42, L42, k42, n42⟩, -, X42, ⟨Lc42, hQ42, l42, y42, z42⟩, st42⟩ := Jvm.LawKit.callS X41 hx (y := (⟨"com/example/apportis/apportis/Utf8CharacterEndPinLaw", "expected", "(IIIIII)I"⟩ : MethodName)) hown (mvT hZ (hw _ (List.mem_of_getElem? (i := 5) rfl))) (mvT hZ (hw _ (List.mem_of_getElem? (i := 6) rfl))) (mvT hZ (hw _ (List.mem_of_getElem? (i := 7) rfl))) (mvT hZ (hw _ (List.mem_of_getElem? (i := 8) rfl))) (by decide) (backOf (W := 1) (rm2 l Z aZ hw [] (p0 &&& (255 : Int32)) (p1 &&& (255 : Int32)) (p2 &&& (255 : Int32)) (p3 &&& (255 : Int32)) (1 : Int32) (1 : Int32) h40 n0 ) hZ (hw _ (List.mem_of_getElem? (i := 8) rfl)) (hw _ (List.mem_of_getElem? (i := 7) rfl)) (by decide) (by decide)) (g := (mkF m 152 #[.val (.int p0), .val (.int p1), .val (.int p2), .val (.int p3), .val (.int p4), .val (.int p5), .val (.int (1 : Int32)), .val (.int (1 : Int32)), .val (.ref b36), .val (.int (p5.toInt8.toInt32)), .val (.int (fCE (nar .byte (p0.toInt8.toInt32)) (0 : Int32) (0 : Int32) (0 : Int32) (1 : Int32) (2 : Int32)))] [(.int (1 : Int32)), (.int (1 : Int32)), (.int (p3 &&& (255 : Int32))), (.int (p2 &&& (255 : Int32))), (.int (p1 &&& (255 : Int32))), (.int (p0 &&& (255 : Int32))), (.int (fCE (nar .byte (p0.toInt8.toInt32)) (0 : Int32) (0 : Int32) (0 : Int32) (1 : Int32) (2 : Int32)))])) rfl (by rw [hml]; rfl) (argsL := [(.int (p0 &&& (255 : Int32))), (.int (p1 &&& (255 : Int32))), (.int (p2 &&& (255 : Int32))), (.int (p3 &&& (255 : Int32))), (.int (1 : Int32)), (.int (1 : Int32))]) (rest := [(.int (fCE (nar .byte (p0.toInt8.toInt32)) (0 : Int32) (0 : Int32) (0 : Int32) (1 : Int32) (2 : Int32)))]) (lenOf pd41a2ea18 rfl) rfl (by show 2 * 0 + _ ≤ _; exact Nat.le_of_eq rfl) (hb hby at_152) (fun _ _ => ⟨rfl, e41, (by decide : 1 + 0 ≤ _), (by decide : 2 + 0 ≤ _)⟩)
      dsimp only [Pt.U, Pt.locs, Pt.cells, Pt.slots] at X42 l42 y42 z42 st42 hQ42
      subst l42 y42 z42
      obtain ⟨rfl, N42q, e42⟩ := hQ42
      have N42 := Fr.app N41 N42q
      refine Go.st (fun _ k => st42 _ k) ?_
      show Go p e below _ (T42.setTop (mkF m 155 #[.val (.int p0), .val (.int p1), .val (.int p2), .val (.int p3), .val (.int p4), .val (.int p5), .val (.int (1 : Int32)), .val (.int (1 : Int32)), .val (.ref b36), .val (.int (p5.toInt8.toInt32)), .val (.int (fCE (nar .byte (p0.toInt8.toInt32)) (0 : Int32) (0 : Int32) (0 : Int32) (1 : Int32) (2 : Int32)))] [(.int (fExp (p0 &&& (255 : Int32)) (p1 &&& (255 : Int32)) (p2 &&& (255 : Int32)) (p3 &&& (255 : Int32)) (1 : Int32) (1 : Int32))), (.int (fCE (nar .byte (p0.toInt8.toInt32)) (0 : Int32) (0 : Int32) (0 : Int32) (1 : Int32) (2 : Int32)))]))
      refine Go.st (fun _ k => XS.icmpNo X42.here hx rfl (hb hby at_155) rfl (teq (own_main p0 p1 p2 p3 (own_mask p0) (fun h => absurd h (by decide)) (fun h => absurd h (by decide)) (fun h => absurd h (by decide)) (by decide))).2 k) ?_
      show Go p e below _ (T42.setTop (mkF m 158 #[.val (.int p0), .val (.int p1), .val (.int p2), .val (.int p3), .val (.int p4), .val (.int p5), .val (.int (1 : Int32)), .val (.int (1 : Int32)), .val (.ref b36), .val (.int (p5.toInt8.toInt32)), .val (.int (fCE (nar .byte (p0.toInt8.toInt32)) (0 : Int32) (0 : Int32) (0 : Int32) (1 : Int32) (2 : Int32)))] []))
      refine Go.st (fun _ k => XS.iconst X42.here hx rfl (hb hby at_158) k) ?_
      refine Go.st (fun _ k => XS.goto X42.here hx rfl (pc0 := 159) (pc' := 163) rfl (hb hby at_159) (by decide) (by decide) k) ?_
      show Go p e below _ (T42.setTop (mkF m 163 #[.val (.int p0), .val (.int p1), .val (.int p2), .val (.int p3), .val (.int p4), .val (.int p5), .val (.int (1 : Int32)), .val (.int (1 : Int32)), .val (.ref b36), .val (.int (p5.toInt8.toInt32)), .val (.int (fCE (nar .byte (p0.toInt8.toInt32)) (0 : Int32) (0 : Int32) (0 : Int32) (1 : Int32) (2 : Int32)))] [(.int (1 : Int32))]))
      obtain ⟨fs, hr, hrun, hended, hW, hsame⟩ := X42.leave (v := some (.int (1 : Int32))) (fun h => by rw [Bd.returns] at h; cases h)
      refine ⟨_, _, retN X42 hx (t := .boolean) Bd.returns (by simp) (hb hby at_163) hr, hrun, hended, _, _, rfl, ?_, ⟨_, rfl⟩, hW, hsame.mono (by decide) (by decide)⟩
      show Q_rm0 Z p0 p1 p2 p3 p4 p5 h0 n0 _ T42.heap _
      rw [e42]
      exact ⟨rfl, N42⟩
    · rw [hr35]
      show Go p e below _ (s₁.setTop (mkF m 13 #[.val (.int p0), .val (.int p1), .val (.int p2), .val (.int p3), .val (.int p4), .val (.int p5), .val (.int (1 : Int32)), .unset, .unset, .unset, .unset] [(.int (1 : Int32)), (.int (1 : Int32))]))
      refine Go.st (fun _ k => XS.iadd X0.here hx rfl (hb hby at_13) rfl k) ?_
      refine Go.st (fun _ k => XS.istore X0.here hx rfl (hb hby at_14) rfl (l' := #[.val (.int p0), .val (.int p1), .val (.int p2), .val (.int p3), .val (.int p4), .val (.int p5), .val (.int (1 : Int32)), .val (.int (2 : Int32)), .unset, .unset, .unset]) rfl k) ?_
      show Go p e below _ (s₁.setTop (mkF m 16 #[.val (.int p0), .val (.int p1), .val (.int p2), .val (.int p3), .val (.int p4), .val (.int p5), .val (.int (1 : Int32)), .val (.int (2 : Int32)), .unset, .unset, .unset] []))
      refine Go.st (fun _ k => XS.iload X0.here hx rfl (hb hby at_16) rfl k) ?_
      refine Go.st (fun _ k => XS.iload X0.here hx rfl (hb hby at_18) rfl k) ?_
      show Go p e below _ (s₁.setTop (mkF m 20 #[.val (.int p0), .val (.int p1), .val (.int p2), .val (.int p3), .val (.int p4), .val (.int p5), .val (.int (1 : Int32)), .val (.int (2 : Int32)), .unset, .unset, .unset] [(.int (2 : Int32)), (.int (1 : Int32))]))
      refine Go.st (fun _ k => XS.iadd X0.here hx rfl (hb hby at_20) rfl k) ?_
      show Go p e below _ (s₁.setTop (mkF m 21 #[.val (.int p0), .val (.int p1), .val (.int p2), .val (.int p3), .val (.int p4), .val (.int p5), .val (.int (1 : Int32)), .val (.int (2 : Int32)), .unset, .unset, .unset] [(.int (3 : Int32))]))
      obtain ⟨T43, h43, k43, X43, e43, E43, A43, st43⟩ := newP X0 hx hZ (hw _ (List.mem_of_getElem? (i := 0) rfl)) e0 (g := (mkF m 21 #[.val (.int p0), .val (.int p1), .val (.int p2), .val (.int p3), .val (.int p4), .val (.int p5), .val (.int (1 : Int32)), .val (.int (2 : Int32)), .unset, .unset, .unset] [(.int (3 : Int32))])) rfl (hb hby at_21) rfl (by decide) (cap := 3) (by decide) (by decide) (by decide) (by decide)
      obtain ⟨b43, g43⟩ : ∃ z, z = h0.size := ⟨_, rfl⟩
      have gg43 : n0 ≤ b43 := Nat.le_trans Z0 (Nat.le_of_eq g43.symm)
      rw [← g43] at A43 st43
      have Z43 : n0 ≤ h43.size := Nat.le_trans Z0 E43.1
      have V43 : Arv Z h43 b43 k43 .byte (3 : Int32) [(.int (0 : Int32)), (.int (0 : Int32)), (.int (0 : Int32))] (.int (0 : Int32)) := (Arv.new A43 (by decide)).pad (pad_rep [] (.int (0 : Int32)) 3)
      refine Go.st (fun _ k => st43 _ k) ?_
      show Go p e below _ (T43.setTop (mkF m 23 #[.val (.int p0), .val (.int p1), .val (.int p2), .val (.int p3), .val (.int p4), .val (.int p5), .val (.int (1 : Int32)), .val (.int (2 : Int32)), .unset, .unset, .unset] [(.ref b43)]))
      refine Go.st (fun _ k => XS.astore X43.here hx rfl (hb hby at_23) rfl rfl (l' := #[.val (.int p0), .val (.int p1), .val (.int p2), .val (.int p3), .val (.int p4), .val (.int p5), .val (.int (1 : Int32)), .val (.int (2 : Int32)), .val (.ref b43), .unset, .unset]) rfl k) ?_
      show Go p e below _ (T43.setTop (mkF m 25 #[.val (.int p0), .val (.int p1), .val (.int p2), .val (.int p3), .val (.int p4), .val (.int p5), .val (.int (1 : Int32)), .val (.int (2 : Int32)), .val (.ref b43), .unset, .unset] []))
      refine Go.st (fun _ k => XS.iload X43.here hx rfl (hb hby at_25) rfl k) ?_
      refine Go.st (fun _ k => XS.i2b X43.here hx rfl (hb hby at_27) rfl k) ?_
      show Go p e below _ (T43.setTop (mkF m 28 #[.val (.int p0), .val (.int p1), .val (.int p2), .val (.int p3), .val (.int p4), .val (.int p5), .val (.int (1 : Int32)), .val (.int (2 : Int32)), .val (.ref b43), .unset, .unset] [(.int (p5.toInt8.toInt32))]))
      refine Go.st (fun _ k => XS.istore X43.here hx rfl (hb hby at_28) rfl (l' := #[.val (.int p0), .val (.int p1), .val (.int p2), .val (.int p3), .val (.int p4), .val (.int p5), .val (.int (1 : Int32)), .val (.int (2 : Int32)), .val (.ref b43), .val (.int (p5.toInt8.toInt32)), .unset]) rfl k) ?_
      show Go p e below _ (T43.setTop (mkF m 30 #[.val (.int p0), .val (.int p1), .val (.int p2), .val (.int p3), .val (.int p4), .val (.int p5), .val (.int (1 : Int32)), .val (.int (2 : Int32)), .val (.ref b43), .val (.int (p5.toInt8.toInt32)), .unset] []))
      refine Go.st (fun _ k => XS.iload X43.here hx rfl (hb hby at_30) rfl k) ?_
      refine Go.st (fun _ k => XS.ifNo X43.here hx rfl (hb hby at_32) rfl ((if0 _ _).trans (tlt (by decide : ((0 : Int32) < (1 : Int32)))).2.2.2) k) ?_
      show Go p e below _ (T43.setTop (mkF m 35 #[.val (.int p0), .val (.int p1), .val (.int p2), .val (.int p3), .val (.int p4), .val (.int p5), .val (.int (1 : Int32)), .val (.int (2 : Int32)), .val (.ref b43), .val (.int (p5.toInt8.toInt32)), .unset] []))
      refine Go.st (fun _ k => XS.aload X43.here hx rfl (hb hby at_35) rfl rfl k) ?_
      refine Go.st (fun _ k => XS.iconst X43.here hx rfl (hb hby at_37) k) ?_
      show Go p e below _ (T43.setTop (mkF m 38 #[.val (.int p0), .val (.int p1), .val (.int p2), .val (.int p3), .val (.int p4), .val (.int p5), .val (.int (1 : Int32)), .val (.int (2 : Int32)), .val (.ref b43), .val (.int (p5.toInt8.toInt32)), .unset] [(.int (0 : Int32)), (.ref b43)]))
      refine Go.st (fun _ k => XS.iload X43.here hx rfl (hb hby at_38) rfl k) ?_
      show Go p e below _ (T43.setTop (mkF m 40 #[.val (.int p0), .val (.int p1), .val (.int p2), .val (.int p3), .val (.int p4), .val (.int p5), .val (.int (1 : Int32)), .val (.int (2 : Int32)), .val (.ref b43), .val (.int (p5.toInt8.toInt32)), .unset] [(.int (p5.toInt8.toInt32)), (.int (0 : Int32)), (.ref b43)]))
      obtain ⟨cl44, Ar44, ck44, Sz44, Nn44, Hs44, Gs44⟩ := id V43
      have hin44 : ¬ ((0 : Int32) < 0 ∨ cl44.slots.size ≤ ((0 : Int32)).toNatClampNeg) := inb_of Sz44 ⟨by decide, by decide⟩
      obtain ⟨T45, h45, X45, e45, W45, st45⟩ := stB X43 hx hZ e43 Ar44 (j := (0 : Int32)) hin44 (g := (mkF m 40 #[.val (.int p0), .val (.int p1), .val (.int p2), .val (.int p3), .val (.int p4), .val (.int p5), .val (.int (1 : Int32)), .val (.int (2 : Int32)), .val (.ref b43), .val (.int (p5.toInt8.toInt32)), .unset] [(.int (p5.toInt8.toInt32)), (.int (0 : Int32)), (.ref b43)])) rfl rfl (hb hby at_40)
      have V45 : Arv Z h45 b43 k43 .byte (3 : Int32) [(.int (nar .byte (p5.toInt8.toInt32))), (.int (0 : Int32)), (.int (0 : Int32))] (.int (0 : Int32)) := Arv.set Ar44 ck44 Sz44 Nn44 Hs44 Gs44 (fits_nar_byte _) W45 0 rfl (Nat.le_of_ble_eq_true rfl)
      have N45 := Fr.snoc X45 N0 gg43
      have Z45 : n0 ≤ h45.size := by rw [W45.size]; exact Z43
      refine Go.st (fun _ k => st45 _ k) ?_
      show Go p e below _ (T45.setTop (mkF m 41 #[.val (.int p0), .val (.int p1), .val (.int p2), .val (.int p3), .val (.int p4), .val (.int p5), .val (.int (1 : Int32)), .val (.int (2 : Int32)), .val (.ref b43), .val (.int (p5.toInt8.toInt32)), .unset] []))
      refine Go.st (fun _ k => XS.iload X45.here hx rfl (hb hby at_41) rfl k) ?_
      refine Go.st (fun _ k => XS.iconst X45.here hx rfl (hb hby at_43) k) ?_
      show Go p e below _ (T45.setTop (mkF m 44 #[.val (.int p0), .val (.int p1), .val (.int p2), .val (.int p3), .val (.int p4), .val (.int p5), .val (.int (1 : Int32)), .val (.int (2 : Int32)), .val (.ref b43), .val (.int (p5.toInt8.toInt32)), .unset] [(.int (1 : Int32)), (.int (1 : Int32))]))
      refine Go.st (fun _ k => XS.icmpYes X45.here hx rfl (pc0 := 44) (pc' := 53) rfl (hb hby at_44) rfl (flt (by decide : ¬ ((1 : Int32) < (1 : Int32)))).2.2.2 (by decide) (by decide) k) ?_
      show Go p e below _ (T45.setTop (mkF m 53 #[.val (.int p0), .val (.int p1), .val (.int p2), .val (.int p3), .val (.int p4), .val (.int p5), .val (.int (1 : Int32)), .val (.int (2 : Int32)), .val (.ref b43), .val (.int (p5.toInt8.toInt32)), .unset] []))
      refine Go.st (fun _ k => XS.iload X45.here hx rfl (hb hby at_53) rfl k) ?_
      refine Go.st (fun _ k => XS.iconst X45.here hx rfl (hb hby at_55) k) ?_
      show Go p e below _ (T45.setTop (mkF m 56 #[.val (.int p0), .val (.int p1), .val (.int p2), .val (.int p3), .val (.int p4), .val (.int p5), .val (.int (1 : Int32)), .val (.int (2 : Int32)), .val (.ref b43), .val (.int (p5.toInt8.toInt32)), .unset] [(.int (2 : Int32)), (.int (1 : Int32))]))
      refine Go.st (fun _ k => XS.icmpYes X45.here hx rfl (pc0 := 56) (pc' := 65) rfl (hb hby at_56) rfl (flt (by decide : ¬ ((2 : Int32) < (1 : Int32)))).2.2.2 (by decide) (by decide) k) ?_
      show Go p e below _ (T45.setTop (mkF m 65 #[.val (.int p0), .val (.int p1), .val (.int p2), .val (.int p3), .val (.int p4), .val (.int p5), .val (.int (1 : Int32)), .val (.int (2 : Int32)), .val (.ref b43), .val (.int (p5.toInt8.toInt32)), .unset] []))
      refine Go.st (fun _ k => XS.aload X45.here hx rfl (hb hby at_65) rfl rfl k) ?_
      refine Go.st (fun _ k => XS.iload X45.here hx rfl (hb hby at_67) rfl k) ?_
      show Go p e below _ (T45.setTop (mkF m 69 #[.val (.int p0), .val (.int p1), .val (.int p2), .val (.int p3), .val (.int p4), .val (.int p5), .val (.int (1 : Int32)), .val (.int (2 : Int32)), .val (.ref b43), .val (.int (p5.toInt8.toInt32)), .unset] [(.int (1 : Int32)), (.ref b43)]))
      refine Go.st (fun _ k => XS.iloadN X45.here hx rfl (hb hby at_69) rfl k) ?_
      refine Go.st (fun _ k => XS.i2b X45.here hx rfl (hb hby at_70) rfl k) ?_
      show Go p e below _ (T45.setTop (mkF m 71 #[.val (.int p0), .val (.int p1), .val (.int p2), .val (.int p3), .val (.int p4), .val (.int p5), .val (.int (1 : Int32)), .val (.int (2 : Int32)), .val (.ref b43), .val (.int (p5.toInt8.toInt32)), .unset] [(.int (p0.toInt8.toInt32)), (.int (1 : Int32)), (.ref b43)]))
      obtain ⟨cl46, Ar46, ck46, Sz46, Nn46, Hs46, Gs46⟩ := id V45
      have hin46 : ¬ ((1 : Int32) < 0 ∨ cl46.slots.size ≤ ((1 : Int32)).toNatClampNeg) := inb_of Sz46 ⟨by decide, by decide⟩
      obtain ⟨T47, h47, X47, e47, W47, st47⟩ := stB X45 hx hZ e45 Ar46 (j := (1 : Int32)) hin46 (g := (mkF m 71 #[.val (.int p0), .val (.int p1), .val (.int p2), .val (.int p3), .val (.int p4), .val (.int p5), .val (.int (1 : Int32)), .val (.int (2 : Int32)), .val (.ref b43), .val (.int (p5.toInt8.toInt32)), .unset] [(.int (p0.toInt8.toInt32)), (.int (1 : Int32)), (.ref b43)])) rfl rfl (hb hby at_71)
      have V47 : Arv Z h47 b43 k43 .byte (3 : Int32) [(.int (nar .byte (p5.toInt8.toInt32))), (.int (nar .byte (p0.toInt8.toInt32))), (.int (0 : Int32))] (.int (0 : Int32)) := Arv.set Ar46 ck46 Sz46 Nn46 Hs46 Gs46 (fits_nar_byte _) W47 1 rfl (Nat.le_of_ble_eq_true rfl)
      have N47 := Fr.snoc X47 N45 gg43
      have Z47 : n0 ≤ h47.size := by rw [W47.size]; exact Z45
      refine Go.st (fun _ k => st47 _ k) ?_
      show Go p e below _ (T47.setTop (mkF m 72 #[.val (.int p0), .val (.int p1), .val (.int p2), .val (.int p3), .val (.int p4), .val (.int p5), .val (.int (1 : Int32)), .val (.int (2 : Int32)), .val (.ref b43), .val (.int (p5.toInt8.toInt32)), .unset] []))
      refine Go.st (fun _ k => XS.iload X47.here hx rfl (hb hby at_72) rfl k) ?_
      refine Go.st (fun _ k => XS.iconst X47.here hx rfl (hb hby at_74) k) ?_
      show Go p e below _ (T47.setTop (mkF m 75 #[.val (.int p0), .val (.int p1), .val (.int p2), .val (.int p3), .val (.int p4), .val (.int p5), .val (.int (1 : Int32)), .val (.int (2 : Int32)), .val (.ref b43), .val (.int (p5.toInt8.toInt32)), .unset] [(.int (1 : Int32)), (.int (2 : Int32))]))
      refine Go.st (fun _ k => XS.icmpNo X47.here hx rfl (hb hby at_75) rfl (tlt (by decide : ((1 : Int32) < (2 : Int32)))).2.2.2 k) ?_
      show Go p e below _ (T47.setTop (mkF m 78 #[.val (.int p0), .val (.int p1), .val (.int p2), .val (.int p3), .val (.int p4), .val (.int p5), .val (.int (1 : Int32)), .val (.int (2 : Int32)), .val (.ref b43), .val (.int (p5.toInt8.toInt32)), .unset] []))
      refine Go.st (fun _ k => XS.aload X47.here hx rfl (hb hby at_78) rfl rfl k) ?_
      refine Go.st (fun _ k => XS.iload X47.here hx rfl (hb hby at_80) rfl k) ?_
      show Go p e below _ (T47.setTop (mkF m 82 #[.val (.int p0), .val (.int p1), .val (.int p2), .val (.int p3), .val (.int p4), .val (.int p5), .val (.int (1 : Int32)), .val (.int (2 : Int32)), .val (.ref b43), .val (.int (p5.toInt8.toInt32)), .unset] [(.int (1 : Int32)), (.ref b43)]))
      refine Go.st (fun _ k => XS.iconst X47.here hx rfl (hb hby at_82) k) ?_
      refine Go.st (fun _ k => XS.iadd X47.here hx rfl (hb hby at_83) rfl k) ?_
      show Go p e below _ (T47.setTop (mkF m 84 #[.val (.int p0), .val (.int p1), .val (.int p2), .val (.int p3), .val (.int p4), .val (.int p5), .val (.int (1 : Int32)), .val (.int (2 : Int32)), .val (.ref b43), .val (.int (p5.toInt8.toInt32)), .unset] [(.int (2 : Int32)), (.ref b43)]))
      refine Go.st (fun _ k => XS.iloadN X47.here hx rfl (hb hby at_84) rfl k) ?_
      refine Go.st (fun _ k => XS.i2b X47.here hx rfl (hb hby at_85) rfl k) ?_
      show Go p e below _ (T47.setTop (mkF m 86 #[.val (.int p0), .val (.int p1), .val (.int p2), .val (.int p3), .val (.int p4), .val (.int p5), .val (.int (1 : Int32)), .val (.int (2 : Int32)), .val (.ref b43), .val (.int (p5.toInt8.toInt32)), .unset] [(.int (p1.toInt8.toInt32)), (.int (2 : Int32)), (.ref b43)]))
      obtain ⟨cl48, Ar48, ck48, Sz48, Nn48, Hs48, Gs48⟩ := id V47
      have hin48 : ¬ ((2 : Int32) < 0 ∨ cl48.slots.size ≤ ((2 : Int32)).toNatClampNeg) := inb_of Sz48 ⟨by decide, by decide⟩
      obtain ⟨T49, h49, X49, e49, W49, st49⟩ := stB X47 hx hZ e47 Ar48 (j := (2 : Int32)) hin48 (g := (mkF m 86 #[.val (.int p0), .val (.int p1), .val (.int p2), .val (.int p3), .val (.int p4), .val (.int p5), .val (.int (1 : Int32)), .val (.int (2 : Int32)), .val (.ref b43), .val (.int (p5.toInt8.toInt32)), .unset] [(.int (p1.toInt8.toInt32)), (.int (2 : Int32)), (.ref b43)])) rfl rfl (hb hby at_86)
      have V49 : Arv Z h49 b43 k43 .byte (3 : Int32) [(.int (nar .byte (p5.toInt8.toInt32))), (.int (nar .byte (p0.toInt8.toInt32))), (.int (nar .byte (p1.toInt8.toInt32)))] (.int (0 : Int32)) := Arv.set Ar48 ck48 Sz48 Nn48 Hs48 Gs48 (fits_nar_byte _) W49 2 rfl (Nat.le_of_ble_eq_true rfl)
      have N49 := Fr.snoc X49 N47 gg43
      have Z49 : n0 ≤ h49.size := by rw [W49.size]; exact Z47
      refine Go.st (fun _ k => st49 _ k) ?_
      show Go p e below _ (T49.setTop (mkF m 87 #[.val (.int p0), .val (.int p1), .val (.int p2), .val (.int p3), .val (.int p4), .val (.int p5), .val (.int (1 : Int32)), .val (.int (2 : Int32)), .val (.ref b43), .val (.int (p5.toInt8.toInt32)), .unset] []))
      refine Go.st (fun _ k => XS.iload X49.here hx rfl (hb hby at_87) rfl k) ?_
      refine Go.st (fun _ k => XS.iconst X49.here hx rfl (hb hby at_89) k) ?_
      show Go p e below _ (T49.setTop (mkF m 90 #[.val (.int p0), .val (.int p1), .val (.int p2), .val (.int p3), .val (.int p4), .val (.int p5), .val (.int (1 : Int32)), .val (.int (2 : Int32)), .val (.ref b43), .val (.int (p5.toInt8.toInt32)), .unset] [(.int (2 : Int32)), (.int (2 : Int32))]))
      refine Go.st (fun _ k => XS.icmpYes X49.here hx rfl (pc0 := 90) (pc' := 102) rfl (hb hby at_90) rfl (flt (by decide : ¬ ((2 : Int32) < (2 : Int32)))).2.2.2 (by decide) (by decide) k) ?_
      show Go p e below _ (T49.setTop (mkF m 102 #[.val (.int p0), .val (.int p1), .val (.int p2), .val (.int p3), .val (.int p4), .val (.int p5), .val (.int (1 : Int32)), .val (.int (2 : Int32)), .val (.ref b43), .val (.int (p5.toInt8.toInt32)), .unset] []))
      refine Go.st (fun _ k => XS.iload X49.here hx rfl (hb hby at_102) rfl k) ?_
      refine Go.st (fun _ k => XS.iconst X49.here hx rfl (hb hby at_104) k) ?_
      show Go p e below _ (T49.setTop (mkF m 105 #[.val (.int p0), .val (.int p1), .val (.int p2), .val (.int p3), .val (.int p4), .val (.int p5), .val (.int (1 : Int32)), .val (.int (2 : Int32)), .val (.ref b43), .val (.int (p5.toInt8.toInt32)), .unset] [(.int (3 : Int32)), (.int (2 : Int32))]))
      refine Go.st (fun _ k => XS.icmpYes X49.here hx rfl (pc0 := 105) (pc' := 117) rfl (hb hby at_105) rfl (flt (by decide : ¬ ((3 : Int32) < (2 : Int32)))).2.2.2 (by decide) (by decide) k) ?_
      show Go p e below _ (T49.setTop (mkF m 117 #[.val (.int p0), .val (.int p1), .val (.int p2), .val (.int p3), .val (.int p4), .val (.int p5), .val (.int (1 : Int32)), .val (.int (2 : Int32)), .val (.ref b43), .val (.int (p5.toInt8.toInt32)), .unset] []))
      refine Go.st (fun _ k => XS.aload X49.here hx rfl (hb hby at_117) rfl rfl k) ?_
      refine Go.st (fun _ k => XS.iload X49.here hx rfl (hb hby at_119) rfl k) ?_
      show Go p e below _ (T49.setTop (mkF m 121 #[.val (.int p0), .val (.int p1), .val (.int p2), .val (.int p3), .val (.int p4), .val (.int p5), .val (.int (1 : Int32)), .val (.int (2 : Int32)), .val (.ref b43), .val (.int (p5.toInt8.toInt32)), .unset] [(.int (1 : Int32)), (.ref b43)]))
      obtain ⟨_, _, ⟨T50, L50, k50, n50⟩, -, X50, ⟨Lc50, hQ50, l50, y50, z50⟩, st50⟩ := Jvm.LawKit.callS X49 hx (y := (⟨"com/example/apportis/apportis/Utf8", "characterEnd", "([BI)I"⟩ : MethodName)) hown (mvT hZ (hw _ (List.mem_of_getElem? (i := 1) rfl))) (mvT hZ (hw _ (List.mem_of_getElem? (i := 2) rfl))) (mvT hZ (hw _ (List.mem_of_getElem? (i := 3) rfl))) (mvT hZ (hw _ (List.mem_of_getElem? (i := 4) rfl))) (by decide) (backOf (W := 0) (rmCE l Z aZ hw [] (nar .byte (p0.toInt8.toInt32)) (nar .byte (p1.toInt8.toInt32)) (0 : Int32) (0 : Int32) b43 (1 : Int32) k43 (3 : Int32) [(.int (nar .byte (p5.toInt8.toInt32))), (.int (nar .byte (p0.toInt8.toInt32))), (.int (nar .byte (p1.toInt8.toInt32)))] h49 n0 (by decide) (by decide) (by decide) rfl (fun _ => rfl) (fun h => absurd h (by decide)) (fun h => absurd h (by decide)) V49) hZ (hw _ (List.mem_of_getElem? (i := 4) rfl)) (hw _ (List.mem_of_getElem? (i := 3) rfl)) (by decide) (by decide)) (g := (mkF m 121 #[.val (.int p0), .val (.int p1), .val (.int p2), .val (.int p3), .val (.int p4), .val (.int p5), .val (.int (1 : Int32)), .val (.int (2 : Int32)), .val (.ref b43), .val (.int (p5.toInt8.toInt32)), .unset] [(.int (1 : Int32)), (.ref b43)])) rfl (by rw [hml]; rfl) (argsL := [(.ref b43), (.int (1 : Int32))]) (rest := []) (lenOf pd92f6cd8e rfl) rfl (by show 2 * 0 + _ ≤ _; exact Nat.le_of_eq rfl) (hb hby at_121) (fun _ _ => ⟨rfl, e49, (by decide : 1 + 0 ≤ _), (by decide : 3 + 0 ≤ _)⟩)
      dsimp only [Pt.U, Pt.locs, Pt.cells, Pt.slots] at X50 l50 y50 z50 st50 hQ50
      subst l50 y50 z50
      obtain ⟨rfl, N50q, e50⟩ := hQ50
      have N50 := Fr.app N49 N50q
      refine Go.st (fun _ k => st50 _ k) ?_
      show Go p e below _ (T50.setTop (mkF m 124 #[.val (.int p0), .val (.int p1), .val (.int p2), .val (.int p3), .val (.int p4), .val (.int p5), .val (.int (1 : Int32)), .val (.int (2 : Int32)), .val (.ref b43), .val (.int (p5.toInt8.toInt32)), .unset] [(.int (fCE (nar .byte (p0.toInt8.toInt32)) (nar .byte (p1.toInt8.toInt32)) (0 : Int32) (0 : Int32) (1 : Int32) (3 : Int32)))]))
      refine Go.st (fun _ k => XS.istore X50.here hx rfl (hb hby at_124) rfl (l' := #[.val (.int p0), .val (.int p1), .val (.int p2), .val (.int p3), .val (.int p4), .val (.int p5), .val (.int (1 : Int32)), .val (.int (2 : Int32)), .val (.ref b43), .val (.int (p5.toInt8.toInt32)), .val (.int (fCE (nar .byte (p0.toInt8.toInt32)) (nar .byte (p1.toInt8.toInt32)) (0 : Int32) (0 : Int32) (1 : Int32) (3 : Int32)))]) rfl k) ?_
      show Go p e below _ (T50.setTop (mkF m 126 #[.val (.int p0), .val (.int p1), .val (.int p2), .val (.int p3), .val (.int p4), .val (.int p5), .val (.int (1 : Int32)), .val (.int (2 : Int32)), .val (.ref b43), .val (.int (p5.toInt8.toInt32)), .val (.int (fCE (nar .byte (p0.toInt8.toInt32)) (nar .byte (p1.toInt8.toInt32)) (0 : Int32) (0 : Int32) (1 : Int32) (3 : Int32)))] []))
      refine Go.st (fun _ k => XS.iload X50.here hx rfl (hb hby at_126) rfl k) ?_
      refine Go.st (fun _ k => XS.iloadN X50.here hx rfl (hb hby at_128) rfl k) ?_
      show Go p e below _ (T50.setTop (mkF m 129 #[.val (.int p0), .val (.int p1), .val (.int p2), .val (.int p3), .val (.int p4), .val (.int p5), .val (.int (1 : Int32)), .val (.int (2 : Int32)), .val (.ref b43), .val (.int (p5.toInt8.toInt32)), .val (.int (fCE (nar .byte (p0.toInt8.toInt32)) (nar .byte (p1.toInt8.toInt32)) (0 : Int32) (0 : Int32) (1 : Int32) (3 : Int32)))] [(.int p0), (.int (fCE (nar .byte (p0.toInt8.toInt32)) (nar .byte (p1.toInt8.toInt32)) (0 : Int32) (0 : Int32) (1 : Int32) (3 : Int32)))]))
      refine Go.st (fun _ k => XS.sipush X50.here hx rfl (hb hby at_129) k) ?_
      refine Go.st (fun _ k => XS.iand X50.here hx rfl (hb hby at_132) rfl k) ?_
      show Go p e below _ (T50.setTop (mkF m 133 #[.val (.int p0), .val (.int p1), .val (.int p2), .val (.int p3), .val (.int p4), .val (.int p5), .val (.int (1 : Int32)), .val (.int (2 : Int32)), .val (.ref b43), .val (.int (p5.toInt8.toInt32)), .val (.int (fCE (nar .byte (p0.toInt8.toInt32)) (nar .byte (p1.toInt8.toInt32)) (0 : Int32) (0 : Int32) (1 : Int32) (3 : Int32)))] [(.int (p0 &&& (255 : Int32))), (.int (fCE (nar .byte (p0.toInt8.toInt32)) (nar .byte (p1.toInt8.toInt32)) (0 : Int32) (0 : Int32) (1 : Int32) (3 : Int32)))]))
      refine Go.st (fun _ k => XS.iloadN X50.here hx rfl (hb hby at_133) rfl k) ?_
      refine Go.st (fun _ k => XS.sipush X50.here hx rfl (hb hby at_134) k) ?_
      show Go p e below _ (T50.setTop (mkF m 137 #[.val (.int p0), .val (.int p1), .val (.int p2), .val (.int p3), .val (.int p4), .val (.int p5), .val (.int (1 : Int32)), .val (.int (2 : Int32)), .val (.ref b43), .val (.int (p5.toInt8.toInt32)), .val (.int (fCE (nar .byte (p0.toInt8.toInt32)) (nar .byte (p1.toInt8.toInt32)) (0 : Int32) (0 : Int32) (1 : Int32) (3 : Int32)))] [(.int (255 : Int32)), (.int p1), (.int (p0 &&& (255 : Int32))), (.int (fCE (nar .byte (p0.toInt8.toInt32)) (nar .byte (p1.toInt8.toInt32)) (0 : Int32) (0 : Int32) (1 : Int32) (3 : Int32)))]))
      refine Go.st (fun _ k => XS.iand X50.here hx rfl (hb hby at_137) rfl k) ?_
      refine Go.st (fun _ k => XS.iloadN X50.here hx rfl (hb hby at_138) rfl k) ?_
      show Go p e below _ (T50.setTop (mkF m 139 #[.val (.int p0), .val (.int p1), .val (.int p2), .val (.int p3), .val (.int p4), .val (.int p5), .val (.int (1 : Int32)), .val (.int (2 : Int32)), .val (.ref b43), .val (.int (p5.toInt8.toInt32)), .val (.int (fCE (nar .byte (p0.toInt8.toInt32)) (nar .byte (p1.toInt8.toInt32)) (0 : Int32) (0 : Int32) (1 : Int32) (3 : Int32)))] [(.int p2), (.int (p1 &&& (255 : Int32))), (.int (p0 &&& (255 : Int32))), (.int (fCE (nar .byte (p0.toInt8.toInt32)) (nar .byte (p1.toInt8.toInt32)) (0 : Int32) (0 : Int32) (1 : Int32) (3 : Int32)))]))
      refine Go.st (fun _ k => XS.sipush X50.here hx rfl (hb hby at_139) k) ?_
      refine Go.st (fun _ k => XS.iand X50.here hx rfl (hb hby at_142) rfl k) ?_
      show Go p e below _ (T50.setTop (mkF m 143 #[.val (.int p0), .val (.int p1), .val (.int p2), .val (.int p3), .val (.int p4), .val (.int p5), .val (.int (1 : Int32)), .val (.int (2 : Int32)), .val (.ref b43), .val (.int (p5.toInt8.toInt32)), .val (.int (fCE (nar .byte (p0.toInt8.toInt32)) (nar .byte (p1.toInt8.toInt32)) (0 : Int32) (0 : Int32) (1 : Int32) (3 : Int32)))] [(.int (p2 &&& (255 : Int32))), (.int (p1 &&& (255 : Int32))), (.int (p0 &&& (255 : Int32))), (.int (fCE (nar .byte (p0.toInt8.toInt32)) (nar .byte (p1.toInt8.toInt32)) (0 : Int32) (0 : Int32) (1 : Int32) (3 : Int32)))]))
      refine Go.st (fun _ k => XS.iloadN X50.here hx rfl (hb hby at_143) rfl k) ?_
      refine Go.st (fun _ k => XS.sipush X50.here hx rfl (hb hby at_144) k) ?_
      show Go p e below _ (T50.setTop (mkF m 147 #[.val (.int p0), .val (.int p1), .val (.int p2), .val (.int p3), .val (.int p4), .val (.int p5), .val (.int (1 : Int32)), .val (.int (2 : Int32)), .val (.ref b43), .val (.int (p5.toInt8.toInt32)), .val (.int (fCE (nar .byte (p0.toInt8.toInt32)) (nar .byte (p1.toInt8.toInt32)) (0 : Int32) (0 : Int32) (1 : Int32) (3 : Int32)))] [(.int (255 : Int32)), (.int p3), (.int (p2 &&& (255 : Int32))), (.int (p1 &&& (255 : Int32))), (.int (p0 &&& (255 : Int32))), (.int (fCE (nar .byte (p0.toInt8.toInt32)) (nar .byte (p1.toInt8.toInt32)) (0 : Int32) (0 : Int32) (1 : Int32) (3 : Int32)))]))
      refine Go.st (fun _ k => XS.iand X50.here hx rfl (hb hby at_147) rfl k) ?_
      refine Go.st (fun _ k => XS.iload X50.here hx rfl (hb hby at_148) rfl k) ?_
      show Go p e below _ (T50.setTop (mkF m 150 #[.val (.int p0), .val (.int p1), .val (.int p2), .val (.int p3), .val (.int p4), .val (.int p5), .val (.int (1 : Int32)), .val (.int (2 : Int32)), .val (.ref b43), .val (.int (p5.toInt8.toInt32)), .val (.int (fCE (nar .byte (p0.toInt8.toInt32)) (nar .byte (p1.toInt8.toInt32)) (0 : Int32) (0 : Int32) (1 : Int32) (3 : Int32)))] [(.int (2 : Int32)), (.int (p3 &&& (255 : Int32))), (.int (p2 &&& (255 : Int32))), (.int (p1 &&& (255 : Int32))), (.int (p0 &&& (255 : Int32))), (.int (fCE (nar .byte (p0.toInt8.toInt32)) (nar .byte (p1.toInt8.toInt32)) (0 : Int32) (0 : Int32) (1 : Int32) (3 : Int32)))]))
      refine Go.st (fun _ k => XS.iload X50.here hx rfl (hb hby at_150) rfl k) ?_
      show Go p e below _ (T50.setTop (mkF m 152 #[.val (.int p0), .val (.int p1), .val (.int p2), .val (.int p3), .val (.int p4), .val (.int p5), .val (.int (1 : Int32)), .val (.int (2 : Int32)), .val (.ref b43), .val (.int (p5.toInt8.toInt32)), .val (.int (fCE (nar .byte (p0.toInt8.toInt32)) (nar .byte (p1.toInt8.toInt32)) (0 : Int32) (0 : Int32) (1 : Int32) (3 : Int32)))] [(.int (1 : Int32)), (.int (2 : Int32)), (.int (p3 &&& (255 : Int32))), (.int (p2 &&& (255 : Int32))), (.int (p1 &&& (255 : Int32))), (.int (p0 &&& (255 : Int32))), (.int (fCE (nar .byte (p0.toInt8.toInt32)) (nar .byte (p1.toInt8.toInt32)) (0 : Int32) (0 : Int32) (1 : Int32) (3 : Int32)))]))
      obtain ⟨_, _, ⟨T51, L51, k51, n51⟩, -, X51, ⟨Lc51, hQ51, l51, y51, z51⟩, st51⟩ := Jvm.LawKit.callS X50 hx (y := (⟨"com/example/apportis/apportis/Utf8CharacterEndPinLaw", "expected", "(IIIIII)I"⟩ : MethodName)) hown (mvT hZ (hw _ (List.mem_of_getElem? (i := 5) rfl))) (mvT hZ (hw _ (List.mem_of_getElem? (i := 6) rfl))) (mvT hZ (hw _ (List.mem_of_getElem? (i := 7) rfl))) (mvT hZ (hw _ (List.mem_of_getElem? (i := 8) rfl))) (by decide) (backOf (W := 1) (rm2 l Z aZ hw [] (p0 &&& (255 : Int32)) (p1 &&& (255 : Int32)) (p2 &&& (255 : Int32)) (p3 &&& (255 : Int32)) (2 : Int32) (1 : Int32) h49 n0 ) hZ (hw _ (List.mem_of_getElem? (i := 8) rfl)) (hw _ (List.mem_of_getElem? (i := 7) rfl)) (by decide) (by decide)) (g := (mkF m 152 #[.val (.int p0), .val (.int p1), .val (.int p2), .val (.int p3), .val (.int p4), .val (.int p5), .val (.int (1 : Int32)), .val (.int (2 : Int32)), .val (.ref b43), .val (.int (p5.toInt8.toInt32)), .val (.int (fCE (nar .byte (p0.toInt8.toInt32)) (nar .byte (p1.toInt8.toInt32)) (0 : Int32) (0 : Int32) (1 : Int32) (3 : Int32)))] [(.int (1 : Int32)), (.int (2 : Int32)), (.int (p3 &&& (255 : Int32))), (.int (p2 &&& (255 : Int32))), (.int (p1 &&& (255 : Int32))), (.int (p0 &&& (255 : Int32))), (.int (fCE (nar .byte (p0.toInt8.toInt32)) (nar .byte (p1.toInt8.toInt32)) (0 : Int32) (0 : Int32) (1 : Int32) (3 : Int32)))])) rfl (by rw [hml]; rfl) (argsL := [(.int (p0 &&& (255 : Int32))), (.int (p1 &&& (255 : Int32))), (.int (p2 &&& (255 : Int32))), (.int (p3 &&& (255 : Int32))), (.int (2 : Int32)), (.int (1 : Int32))]) (rest := [(.int (fCE (nar .byte (p0.toInt8.toInt32)) (nar .byte (p1.toInt8.toInt32)) (0 : Int32) (0 : Int32) (1 : Int32) (3 : Int32)))]) (lenOf pd41a2ea18 rfl) rfl (by show 2 * 0 + _ ≤ _; exact Nat.le_of_eq rfl) (hb hby at_152) (fun _ _ => ⟨rfl, e50, (by decide : 1 + 0 ≤ _), (by decide : 3 + 0 ≤ _)⟩)
      dsimp only [Pt.U, Pt.locs, Pt.cells, Pt.slots] at X51 l51 y51 z51 st51 hQ51
      subst l51 y51 z51
      obtain ⟨rfl, N51q, e51⟩ := hQ51
      have N51 := Fr.app N50 N51q
      refine Go.st (fun _ k => st51 _ k) ?_
      show Go p e below _ (T51.setTop (mkF m 155 #[.val (.int p0), .val (.int p1), .val (.int p2), .val (.int p3), .val (.int p4), .val (.int p5), .val (.int (1 : Int32)), .val (.int (2 : Int32)), .val (.ref b43), .val (.int (p5.toInt8.toInt32)), .val (.int (fCE (nar .byte (p0.toInt8.toInt32)) (nar .byte (p1.toInt8.toInt32)) (0 : Int32) (0 : Int32) (1 : Int32) (3 : Int32)))] [(.int (fExp (p0 &&& (255 : Int32)) (p1 &&& (255 : Int32)) (p2 &&& (255 : Int32)) (p3 &&& (255 : Int32)) (2 : Int32) (1 : Int32))), (.int (fCE (nar .byte (p0.toInt8.toInt32)) (nar .byte (p1.toInt8.toInt32)) (0 : Int32) (0 : Int32) (1 : Int32) (3 : Int32)))]))
      refine Go.st (fun _ k => XS.icmpNo X51.here hx rfl (hb hby at_155) rfl (teq (own_main p0 p1 p2 p3 (own_mask p0) (fun _ => own_mask p1) (fun h => absurd h (by decide)) (fun h => absurd h (by decide)) (by decide))).2 k) ?_
      show Go p e below _ (T51.setTop (mkF m 158 #[.val (.int p0), .val (.int p1), .val (.int p2), .val (.int p3), .val (.int p4), .val (.int p5), .val (.int (1 : Int32)), .val (.int (2 : Int32)), .val (.ref b43), .val (.int (p5.toInt8.toInt32)), .val (.int (fCE (nar .byte (p0.toInt8.toInt32)) (nar .byte (p1.toInt8.toInt32)) (0 : Int32) (0 : Int32) (1 : Int32) (3 : Int32)))] []))
      refine Go.st (fun _ k => XS.iconst X51.here hx rfl (hb hby at_158) k) ?_
      refine Go.st (fun _ k => XS.goto X51.here hx rfl (pc0 := 159) (pc' := 163) rfl (hb hby at_159) (by decide) (by decide) k) ?_
      show Go p e below _ (T51.setTop (mkF m 163 #[.val (.int p0), .val (.int p1), .val (.int p2), .val (.int p3), .val (.int p4), .val (.int p5), .val (.int (1 : Int32)), .val (.int (2 : Int32)), .val (.ref b43), .val (.int (p5.toInt8.toInt32)), .val (.int (fCE (nar .byte (p0.toInt8.toInt32)) (nar .byte (p1.toInt8.toInt32)) (0 : Int32) (0 : Int32) (1 : Int32) (3 : Int32)))] [(.int (1 : Int32))]))
      obtain ⟨fs, hr, hrun, hended, hW, hsame⟩ := X51.leave (v := some (.int (1 : Int32))) (fun h => by rw [Bd.returns] at h; cases h)
      refine ⟨_, _, retN X51 hx (t := .boolean) Bd.returns (by simp) (hb hby at_163) hr, hrun, hended, _, _, rfl, ?_, ⟨_, rfl⟩, hW, hsame.mono (by decide) (by decide)⟩
      show Q_rm0 Z p0 p1 p2 p3 p4 p5 h0 n0 _ T51.heap _
      rw [e51]
      exact ⟨rfl, N51⟩
    · rw [hr35]
      show Go p e below _ (s₁.setTop (mkF m 13 #[.val (.int p0), .val (.int p1), .val (.int p2), .val (.int p3), .val (.int p4), .val (.int p5), .val (.int (1 : Int32)), .unset, .unset, .unset, .unset] [(.int (2 : Int32)), (.int (1 : Int32))]))
      refine Go.st (fun _ k => XS.iadd X0.here hx rfl (hb hby at_13) rfl k) ?_
      refine Go.st (fun _ k => XS.istore X0.here hx rfl (hb hby at_14) rfl (l' := #[.val (.int p0), .val (.int p1), .val (.int p2), .val (.int p3), .val (.int p4), .val (.int p5), .val (.int (1 : Int32)), .val (.int (3 : Int32)), .unset, .unset, .unset]) rfl k) ?_
      show Go p e below _ (s₁.setTop (mkF m 16 #[.val (.int p0), .val (.int p1), .val (.int p2), .val (.int p3), .val (.int p4), .val (.int p5), .val (.int (1 : Int32)), .val (.int (3 : Int32)), .unset, .unset, .unset] []))
      refine Go.st (fun _ k => XS.iload X0.here hx rfl (hb hby at_16) rfl k) ?_
      refine Go.st (fun _ k => XS.iload X0.here hx rfl (hb hby at_18) rfl k) ?_
      show Go p e below _ (s₁.setTop (mkF m 20 #[.val (.int p0), .val (.int p1), .val (.int p2), .val (.int p3), .val (.int p4), .val (.int p5), .val (.int (1 : Int32)), .val (.int (3 : Int32)), .unset, .unset, .unset] [(.int (3 : Int32)), (.int (1 : Int32))]))
      refine Go.st (fun _ k => XS.iadd X0.here hx rfl (hb hby at_20) rfl k) ?_
      show Go p e below _ (s₁.setTop (mkF m 21 #[.val (.int p0), .val (.int p1), .val (.int p2), .val (.int p3), .val (.int p4), .val (.int p5), .val (.int (1 : Int32)), .val (.int (3 : Int32)), .unset, .unset, .unset] [(.int (4 : Int32))]))
      obtain ⟨T52, h52, k52, X52, e52, E52, A52, st52⟩ := newP X0 hx hZ (hw _ (List.mem_of_getElem? (i := 0) rfl)) e0 (g := (mkF m 21 #[.val (.int p0), .val (.int p1), .val (.int p2), .val (.int p3), .val (.int p4), .val (.int p5), .val (.int (1 : Int32)), .val (.int (3 : Int32)), .unset, .unset, .unset] [(.int (4 : Int32))])) rfl (hb hby at_21) rfl (by decide) (cap := 4) (by decide) (by decide) (by decide) (by decide)
      obtain ⟨b52, g52⟩ : ∃ z, z = h0.size := ⟨_, rfl⟩
      have gg52 : n0 ≤ b52 := Nat.le_trans Z0 (Nat.le_of_eq g52.symm)
      rw [← g52] at A52 st52
      have Z52 : n0 ≤ h52.size := Nat.le_trans Z0 E52.1
      have V52 : Arv Z h52 b52 k52 .byte (4 : Int32) [(.int (0 : Int32)), (.int (0 : Int32)), (.int (0 : Int32)), (.int (0 : Int32))] (.int (0 : Int32)) := (Arv.new A52 (by decide)).pad (pad_rep [] (.int (0 : Int32)) 4)
      refine Go.st (fun _ k => st52 _ k) ?_
      show Go p e below _ (T52.setTop (mkF m 23 #[.val (.int p0), .val (.int p1), .val (.int p2), .val (.int p3), .val (.int p4), .val (.int p5), .val (.int (1 : Int32)), .val (.int (3 : Int32)), .unset, .unset, .unset] [(.ref b52)]))
      refine Go.st (fun _ k => XS.astore X52.here hx rfl (hb hby at_23) rfl rfl (l' := #[.val (.int p0), .val (.int p1), .val (.int p2), .val (.int p3), .val (.int p4), .val (.int p5), .val (.int (1 : Int32)), .val (.int (3 : Int32)), .val (.ref b52), .unset, .unset]) rfl k) ?_
      show Go p e below _ (T52.setTop (mkF m 25 #[.val (.int p0), .val (.int p1), .val (.int p2), .val (.int p3), .val (.int p4), .val (.int p5), .val (.int (1 : Int32)), .val (.int (3 : Int32)), .val (.ref b52), .unset, .unset] []))
      refine Go.st (fun _ k => XS.iload X52.here hx rfl (hb hby at_25) rfl k) ?_
      refine Go.st (fun _ k => XS.i2b X52.here hx rfl (hb hby at_27) rfl k) ?_
      show Go p e below _ (T52.setTop (mkF m 28 #[.val (.int p0), .val (.int p1), .val (.int p2), .val (.int p3), .val (.int p4), .val (.int p5), .val (.int (1 : Int32)), .val (.int (3 : Int32)), .val (.ref b52), .unset, .unset] [(.int (p5.toInt8.toInt32))]))
      refine Go.st (fun _ k => XS.istore X52.here hx rfl (hb hby at_28) rfl (l' := #[.val (.int p0), .val (.int p1), .val (.int p2), .val (.int p3), .val (.int p4), .val (.int p5), .val (.int (1 : Int32)), .val (.int (3 : Int32)), .val (.ref b52), .val (.int (p5.toInt8.toInt32)), .unset]) rfl k) ?_
      show Go p e below _ (T52.setTop (mkF m 30 #[.val (.int p0), .val (.int p1), .val (.int p2), .val (.int p3), .val (.int p4), .val (.int p5), .val (.int (1 : Int32)), .val (.int (3 : Int32)), .val (.ref b52), .val (.int (p5.toInt8.toInt32)), .unset] []))
      refine Go.st (fun _ k => XS.iload X52.here hx rfl (hb hby at_30) rfl k) ?_
      refine Go.st (fun _ k => XS.ifNo X52.here hx rfl (hb hby at_32) rfl ((if0 _ _).trans (tlt (by decide : ((0 : Int32) < (1 : Int32)))).2.2.2) k) ?_
      show Go p e below _ (T52.setTop (mkF m 35 #[.val (.int p0), .val (.int p1), .val (.int p2), .val (.int p3), .val (.int p4), .val (.int p5), .val (.int (1 : Int32)), .val (.int (3 : Int32)), .val (.ref b52), .val (.int (p5.toInt8.toInt32)), .unset] []))
      refine Go.st (fun _ k => XS.aload X52.here hx rfl (hb hby at_35) rfl rfl k) ?_
      refine Go.st (fun _ k => XS.iconst X52.here hx rfl (hb hby at_37) k) ?_
      show Go p e below _ (T52.setTop (mkF m 38 #[.val (.int p0), .val (.int p1), .val (.int p2), .val (.int p3), .val (.int p4), .val (.int p5), .val (.int (1 : Int32)), .val (.int (3 : Int32)), .val (.ref b52), .val (.int (p5.toInt8.toInt32)), .unset] [(.int (0 : Int32)), (.ref b52)]))
      refine Go.st (fun _ k => XS.iload X52.here hx rfl (hb hby at_38) rfl k) ?_
      show Go p e below _ (T52.setTop (mkF m 40 #[.val (.int p0), .val (.int p1), .val (.int p2), .val (.int p3), .val (.int p4), .val (.int p5), .val (.int (1 : Int32)), .val (.int (3 : Int32)), .val (.ref b52), .val (.int (p5.toInt8.toInt32)), .unset] [(.int (p5.toInt8.toInt32)), (.int (0 : Int32)), (.ref b52)]))
      obtain ⟨cl53, Ar53, ck53, Sz53, Nn53, Hs53, Gs53⟩ := id V52
      have hin53 : ¬ ((0 : Int32) < 0 ∨ cl53.slots.size ≤ ((0 : Int32)).toNatClampNeg) := inb_of Sz53 ⟨by decide, by decide⟩
      obtain ⟨T54, h54, X54, e54, W54, st54⟩ := stB X52 hx hZ e52 Ar53 (j := (0 : Int32)) hin53 (g := (mkF m 40 #[.val (.int p0), .val (.int p1), .val (.int p2), .val (.int p3), .val (.int p4), .val (.int p5), .val (.int (1 : Int32)), .val (.int (3 : Int32)), .val (.ref b52), .val (.int (p5.toInt8.toInt32)), .unset] [(.int (p5.toInt8.toInt32)), (.int (0 : Int32)), (.ref b52)])) rfl rfl (hb hby at_40)
      have V54 : Arv Z h54 b52 k52 .byte (4 : Int32) [(.int (nar .byte (p5.toInt8.toInt32))), (.int (0 : Int32)), (.int (0 : Int32)), (.int (0 : Int32))] (.int (0 : Int32)) := Arv.set Ar53 ck53 Sz53 Nn53 Hs53 Gs53 (fits_nar_byte _) W54 0 rfl (Nat.le_of_ble_eq_true rfl)
      have N54 := Fr.snoc X54 N0 gg52
      have Z54 : n0 ≤ h54.size := by rw [W54.size]; exact Z52
      refine Go.st (fun _ k => st54 _ k) ?_
      show Go p e below _ (T54.setTop (mkF m 41 #[.val (.int p0), .val (.int p1), .val (.int p2), .val (.int p3), .val (.int p4), .val (.int p5), .val (.int (1 : Int32)), .val (.int (3 : Int32)), .val (.ref b52), .val (.int (p5.toInt8.toInt32)), .unset] []))
      refine Go.st (fun _ k => XS.iload X54.here hx rfl (hb hby at_41) rfl k) ?_
      refine Go.st (fun _ k => XS.iconst X54.here hx rfl (hb hby at_43) k) ?_
      show Go p e below _ (T54.setTop (mkF m 44 #[.val (.int p0), .val (.int p1), .val (.int p2), .val (.int p3), .val (.int p4), .val (.int p5), .val (.int (1 : Int32)), .val (.int (3 : Int32)), .val (.ref b52), .val (.int (p5.toInt8.toInt32)), .unset] [(.int (1 : Int32)), (.int (1 : Int32))]))
      refine Go.st (fun _ k => XS.icmpYes X54.here hx rfl (pc0 := 44) (pc' := 53) rfl (hb hby at_44) rfl (flt (by decide : ¬ ((1 : Int32) < (1 : Int32)))).2.2.2 (by decide) (by decide) k) ?_
      show Go p e below _ (T54.setTop (mkF m 53 #[.val (.int p0), .val (.int p1), .val (.int p2), .val (.int p3), .val (.int p4), .val (.int p5), .val (.int (1 : Int32)), .val (.int (3 : Int32)), .val (.ref b52), .val (.int (p5.toInt8.toInt32)), .unset] []))
      refine Go.st (fun _ k => XS.iload X54.here hx rfl (hb hby at_53) rfl k) ?_
      refine Go.st (fun _ k => XS.iconst X54.here hx rfl (hb hby at_55) k) ?_
      show Go p e below _ (T54.setTop (mkF m 56 #[.val (.int p0), .val (.int p1), .val (.int p2), .val (.int p3), .val (.int p4), .val (.int p5), .val (.int (1 : Int32)), .val (.int (3 : Int32)), .val (.ref b52), .val (.int (p5.toInt8.toInt32)), .unset] [(.int (2 : Int32)), (.int (1 : Int32))]))
      refine Go.st (fun _ k => XS.icmpYes X54.here hx rfl (pc0 := 56) (pc' := 65) rfl (hb hby at_56) rfl (flt (by decide : ¬ ((2 : Int32) < (1 : Int32)))).2.2.2 (by decide) (by decide) k) ?_
      show Go p e below _ (T54.setTop (mkF m 65 #[.val (.int p0), .val (.int p1), .val (.int p2), .val (.int p3), .val (.int p4), .val (.int p5), .val (.int (1 : Int32)), .val (.int (3 : Int32)), .val (.ref b52), .val (.int (p5.toInt8.toInt32)), .unset] []))
      refine Go.st (fun _ k => XS.aload X54.here hx rfl (hb hby at_65) rfl rfl k) ?_
      refine Go.st (fun _ k => XS.iload X54.here hx rfl (hb hby at_67) rfl k) ?_
      show Go p e below _ (T54.setTop (mkF m 69 #[.val (.int p0), .val (.int p1), .val (.int p2), .val (.int p3), .val (.int p4), .val (.int p5), .val (.int (1 : Int32)), .val (.int (3 : Int32)), .val (.ref b52), .val (.int (p5.toInt8.toInt32)), .unset] [(.int (1 : Int32)), (.ref b52)]))
      refine Go.st (fun _ k => XS.iloadN X54.here hx rfl (hb hby at_69) rfl k) ?_
      refine Go.st (fun _ k => XS.i2b X54.here hx rfl (hb hby at_70) rfl k) ?_
      show Go p e below _ (T54.setTop (mkF m 71 #[.val (.int p0), .val (.int p1), .val (.int p2), .val (.int p3), .val (.int p4), .val (.int p5), .val (.int (1 : Int32)), .val (.int (3 : Int32)), .val (.ref b52), .val (.int (p5.toInt8.toInt32)), .unset] [(.int (p0.toInt8.toInt32)), (.int (1 : Int32)), (.ref b52)]))
      obtain ⟨cl55, Ar55, ck55, Sz55, Nn55, Hs55, Gs55⟩ := id V54
      have hin55 : ¬ ((1 : Int32) < 0 ∨ cl55.slots.size ≤ ((1 : Int32)).toNatClampNeg) := inb_of Sz55 ⟨by decide, by decide⟩
      obtain ⟨T56, h56, X56, e56, W56, st56⟩ := stB X54 hx hZ e54 Ar55 (j := (1 : Int32)) hin55 (g := (mkF m 71 #[.val (.int p0), .val (.int p1), .val (.int p2), .val (.int p3), .val (.int p4), .val (.int p5), .val (.int (1 : Int32)), .val (.int (3 : Int32)), .val (.ref b52), .val (.int (p5.toInt8.toInt32)), .unset] [(.int (p0.toInt8.toInt32)), (.int (1 : Int32)), (.ref b52)])) rfl rfl (hb hby at_71)
      have V56 : Arv Z h56 b52 k52 .byte (4 : Int32) [(.int (nar .byte (p5.toInt8.toInt32))), (.int (nar .byte (p0.toInt8.toInt32))), (.int (0 : Int32)), (.int (0 : Int32))] (.int (0 : Int32)) := Arv.set Ar55 ck55 Sz55 Nn55 Hs55 Gs55 (fits_nar_byte _) W56 1 rfl (Nat.le_of_ble_eq_true rfl)
      have N56 := Fr.snoc X56 N54 gg52
      have Z56 : n0 ≤ h56.size := by rw [W56.size]; exact Z54
      refine Go.st (fun _ k => st56 _ k) ?_
      show Go p e below _ (T56.setTop (mkF m 72 #[.val (.int p0), .val (.int p1), .val (.int p2), .val (.int p3), .val (.int p4), .val (.int p5), .val (.int (1 : Int32)), .val (.int (3 : Int32)), .val (.ref b52), .val (.int (p5.toInt8.toInt32)), .unset] []))
      refine Go.st (fun _ k => XS.iload X56.here hx rfl (hb hby at_72) rfl k) ?_
      refine Go.st (fun _ k => XS.iconst X56.here hx rfl (hb hby at_74) k) ?_
      show Go p e below _ (T56.setTop (mkF m 75 #[.val (.int p0), .val (.int p1), .val (.int p2), .val (.int p3), .val (.int p4), .val (.int p5), .val (.int (1 : Int32)), .val (.int (3 : Int32)), .val (.ref b52), .val (.int (p5.toInt8.toInt32)), .unset] [(.int (1 : Int32)), (.int (3 : Int32))]))
      refine Go.st (fun _ k => XS.icmpNo X56.here hx rfl (hb hby at_75) rfl (tlt (by decide : ((1 : Int32) < (3 : Int32)))).2.2.2 k) ?_
      show Go p e below _ (T56.setTop (mkF m 78 #[.val (.int p0), .val (.int p1), .val (.int p2), .val (.int p3), .val (.int p4), .val (.int p5), .val (.int (1 : Int32)), .val (.int (3 : Int32)), .val (.ref b52), .val (.int (p5.toInt8.toInt32)), .unset] []))
      refine Go.st (fun _ k => XS.aload X56.here hx rfl (hb hby at_78) rfl rfl k) ?_
      refine Go.st (fun _ k => XS.iload X56.here hx rfl (hb hby at_80) rfl k) ?_
      show Go p e below _ (T56.setTop (mkF m 82 #[.val (.int p0), .val (.int p1), .val (.int p2), .val (.int p3), .val (.int p4), .val (.int p5), .val (.int (1 : Int32)), .val (.int (3 : Int32)), .val (.ref b52), .val (.int (p5.toInt8.toInt32)), .unset] [(.int (1 : Int32)), (.ref b52)]))
      refine Go.st (fun _ k => XS.iconst X56.here hx rfl (hb hby at_82) k) ?_
      refine Go.st (fun _ k => XS.iadd X56.here hx rfl (hb hby at_83) rfl k) ?_
      show Go p e below _ (T56.setTop (mkF m 84 #[.val (.int p0), .val (.int p1), .val (.int p2), .val (.int p3), .val (.int p4), .val (.int p5), .val (.int (1 : Int32)), .val (.int (3 : Int32)), .val (.ref b52), .val (.int (p5.toInt8.toInt32)), .unset] [(.int (2 : Int32)), (.ref b52)]))
      refine Go.st (fun _ k => XS.iloadN X56.here hx rfl (hb hby at_84) rfl k) ?_
      refine Go.st (fun _ k => XS.i2b X56.here hx rfl (hb hby at_85) rfl k) ?_
      show Go p e below _ (T56.setTop (mkF m 86 #[.val (.int p0), .val (.int p1), .val (.int p2), .val (.int p3), .val (.int p4), .val (.int p5), .val (.int (1 : Int32)), .val (.int (3 : Int32)), .val (.ref b52), .val (.int (p5.toInt8.toInt32)), .unset] [(.int (p1.toInt8.toInt32)), (.int (2 : Int32)), (.ref b52)]))
      obtain ⟨cl57, Ar57, ck57, Sz57, Nn57, Hs57, Gs57⟩ := id V56
      have hin57 : ¬ ((2 : Int32) < 0 ∨ cl57.slots.size ≤ ((2 : Int32)).toNatClampNeg) := inb_of Sz57 ⟨by decide, by decide⟩
      obtain ⟨T58, h58, X58, e58, W58, st58⟩ := stB X56 hx hZ e56 Ar57 (j := (2 : Int32)) hin57 (g := (mkF m 86 #[.val (.int p0), .val (.int p1), .val (.int p2), .val (.int p3), .val (.int p4), .val (.int p5), .val (.int (1 : Int32)), .val (.int (3 : Int32)), .val (.ref b52), .val (.int (p5.toInt8.toInt32)), .unset] [(.int (p1.toInt8.toInt32)), (.int (2 : Int32)), (.ref b52)])) rfl rfl (hb hby at_86)
      have V58 : Arv Z h58 b52 k52 .byte (4 : Int32) [(.int (nar .byte (p5.toInt8.toInt32))), (.int (nar .byte (p0.toInt8.toInt32))), (.int (nar .byte (p1.toInt8.toInt32))), (.int (0 : Int32))] (.int (0 : Int32)) := Arv.set Ar57 ck57 Sz57 Nn57 Hs57 Gs57 (fits_nar_byte _) W58 2 rfl (Nat.le_of_ble_eq_true rfl)
      have N58 := Fr.snoc X58 N56 gg52
      have Z58 : n0 ≤ h58.size := by rw [W58.size]; exact Z56
      refine Go.st (fun _ k => st58 _ k) ?_
      show Go p e below _ (T58.setTop (mkF m 87 #[.val (.int p0), .val (.int p1), .val (.int p2), .val (.int p3), .val (.int p4), .val (.int p5), .val (.int (1 : Int32)), .val (.int (3 : Int32)), .val (.ref b52), .val (.int (p5.toInt8.toInt32)), .unset] []))
      refine Go.st (fun _ k => XS.iload X58.here hx rfl (hb hby at_87) rfl k) ?_
      refine Go.st (fun _ k => XS.iconst X58.here hx rfl (hb hby at_89) k) ?_
      show Go p e below _ (T58.setTop (mkF m 90 #[.val (.int p0), .val (.int p1), .val (.int p2), .val (.int p3), .val (.int p4), .val (.int p5), .val (.int (1 : Int32)), .val (.int (3 : Int32)), .val (.ref b52), .val (.int (p5.toInt8.toInt32)), .unset] [(.int (2 : Int32)), (.int (3 : Int32))]))
      refine Go.st (fun _ k => XS.icmpNo X58.here hx rfl (hb hby at_90) rfl (tlt (by decide : ((2 : Int32) < (3 : Int32)))).2.2.2 k) ?_
      show Go p e below _ (T58.setTop (mkF m 93 #[.val (.int p0), .val (.int p1), .val (.int p2), .val (.int p3), .val (.int p4), .val (.int p5), .val (.int (1 : Int32)), .val (.int (3 : Int32)), .val (.ref b52), .val (.int (p5.toInt8.toInt32)), .unset] []))
      refine Go.st (fun _ k => XS.aload X58.here hx rfl (hb hby at_93) rfl rfl k) ?_
      refine Go.st (fun _ k => XS.iload X58.here hx rfl (hb hby at_95) rfl k) ?_
      show Go p e below _ (T58.setTop (mkF m 97 #[.val (.int p0), .val (.int p1), .val (.int p2), .val (.int p3), .val (.int p4), .val (.int p5), .val (.int (1 : Int32)), .val (.int (3 : Int32)), .val (.ref b52), .val (.int (p5.toInt8.toInt32)), .unset] [(.int (1 : Int32)), (.ref b52)]))
      refine Go.st (fun _ k => XS.iconst X58.here hx rfl (hb hby at_97) k) ?_
      refine Go.st (fun _ k => XS.iadd X58.here hx rfl (hb hby at_98) rfl k) ?_
      show Go p e below _ (T58.setTop (mkF m 99 #[.val (.int p0), .val (.int p1), .val (.int p2), .val (.int p3), .val (.int p4), .val (.int p5), .val (.int (1 : Int32)), .val (.int (3 : Int32)), .val (.ref b52), .val (.int (p5.toInt8.toInt32)), .unset] [(.int (3 : Int32)), (.ref b52)]))
      refine Go.st (fun _ k => XS.iloadN X58.here hx rfl (hb hby at_99) rfl k) ?_
      refine Go.st (fun _ k => XS.i2b X58.here hx rfl (hb hby at_100) rfl k) ?_
      show Go p e below _ (T58.setTop (mkF m 101 #[.val (.int p0), .val (.int p1), .val (.int p2), .val (.int p3), .val (.int p4), .val (.int p5), .val (.int (1 : Int32)), .val (.int (3 : Int32)), .val (.ref b52), .val (.int (p5.toInt8.toInt32)), .unset] [(.int (p2.toInt8.toInt32)), (.int (3 : Int32)), (.ref b52)]))
      obtain ⟨cl59, Ar59, ck59, Sz59, Nn59, Hs59, Gs59⟩ := id V58
      have hin59 : ¬ ((3 : Int32) < 0 ∨ cl59.slots.size ≤ ((3 : Int32)).toNatClampNeg) := inb_of Sz59 ⟨by decide, by decide⟩
      obtain ⟨T60, h60, X60, e60, W60, st60⟩ := stB X58 hx hZ e58 Ar59 (j := (3 : Int32)) hin59 (g := (mkF m 101 #[.val (.int p0), .val (.int p1), .val (.int p2), .val (.int p3), .val (.int p4), .val (.int p5), .val (.int (1 : Int32)), .val (.int (3 : Int32)), .val (.ref b52), .val (.int (p5.toInt8.toInt32)), .unset] [(.int (p2.toInt8.toInt32)), (.int (3 : Int32)), (.ref b52)])) rfl rfl (hb hby at_101)
      have V60 : Arv Z h60 b52 k52 .byte (4 : Int32) [(.int (nar .byte (p5.toInt8.toInt32))), (.int (nar .byte (p0.toInt8.toInt32))), (.int (nar .byte (p1.toInt8.toInt32))), (.int (nar .byte (p2.toInt8.toInt32)))] (.int (0 : Int32)) := Arv.set Ar59 ck59 Sz59 Nn59 Hs59 Gs59 (fits_nar_byte _) W60 3 rfl (Nat.le_of_ble_eq_true rfl)
      have N60 := Fr.snoc X60 N58 gg52
      have Z60 : n0 ≤ h60.size := by rw [W60.size]; exact Z58
      refine Go.st (fun _ k => st60 _ k) ?_
      show Go p e below _ (T60.setTop (mkF m 102 #[.val (.int p0), .val (.int p1), .val (.int p2), .val (.int p3), .val (.int p4), .val (.int p5), .val (.int (1 : Int32)), .val (.int (3 : Int32)), .val (.ref b52), .val (.int (p5.toInt8.toInt32)), .unset] []))
      refine Go.st (fun _ k => XS.iload X60.here hx rfl (hb hby at_102) rfl k) ?_
      refine Go.st (fun _ k => XS.iconst X60.here hx rfl (hb hby at_104) k) ?_
      show Go p e below _ (T60.setTop (mkF m 105 #[.val (.int p0), .val (.int p1), .val (.int p2), .val (.int p3), .val (.int p4), .val (.int p5), .val (.int (1 : Int32)), .val (.int (3 : Int32)), .val (.ref b52), .val (.int (p5.toInt8.toInt32)), .unset] [(.int (3 : Int32)), (.int (3 : Int32))]))
      refine Go.st (fun _ k => XS.icmpYes X60.here hx rfl (pc0 := 105) (pc' := 117) rfl (hb hby at_105) rfl (flt (by decide : ¬ ((3 : Int32) < (3 : Int32)))).2.2.2 (by decide) (by decide) k) ?_
      show Go p e below _ (T60.setTop (mkF m 117 #[.val (.int p0), .val (.int p1), .val (.int p2), .val (.int p3), .val (.int p4), .val (.int p5), .val (.int (1 : Int32)), .val (.int (3 : Int32)), .val (.ref b52), .val (.int (p5.toInt8.toInt32)), .unset] []))
      refine Go.st (fun _ k => XS.aload X60.here hx rfl (hb hby at_117) rfl rfl k) ?_
      refine Go.st (fun _ k => XS.iload X60.here hx rfl (hb hby at_119) rfl k) ?_
      show Go p e below _ (T60.setTop (mkF m 121 #[.val (.int p0), .val (.int p1), .val (.int p2), .val (.int p3), .val (.int p4), .val (.int p5), .val (.int (1 : Int32)), .val (.int (3 : Int32)), .val (.ref b52), .val (.int (p5.toInt8.toInt32)), .unset] [(.int (1 : Int32)), (.ref b52)]))
      obtain ⟨_, _, ⟨T61, L61, k61, n61⟩, -, X61, ⟨Lc61, hQ61, l61, y61, z61⟩, st61⟩ := Jvm.LawKit.callS X60 hx (y := (⟨"com/example/apportis/apportis/Utf8", "characterEnd", "([BI)I"⟩ : MethodName)) hown (mvT hZ (hw _ (List.mem_of_getElem? (i := 1) rfl))) (mvT hZ (hw _ (List.mem_of_getElem? (i := 2) rfl))) (mvT hZ (hw _ (List.mem_of_getElem? (i := 3) rfl))) (mvT hZ (hw _ (List.mem_of_getElem? (i := 4) rfl))) (by decide) (backOf (W := 0) (rmCE l Z aZ hw [] (nar .byte (p0.toInt8.toInt32)) (nar .byte (p1.toInt8.toInt32)) (nar .byte (p2.toInt8.toInt32)) (0 : Int32) b52 (1 : Int32) k52 (4 : Int32) [(.int (nar .byte (p5.toInt8.toInt32))), (.int (nar .byte (p0.toInt8.toInt32))), (.int (nar .byte (p1.toInt8.toInt32))), (.int (nar .byte (p2.toInt8.toInt32)))] h60 n0 (by decide) (by decide) (by decide) rfl (fun _ => rfl) (fun _ => rfl) (fun h => absurd h (by decide)) V60) hZ (hw _ (List.mem_of_getElem? (i := 4) rfl)) (hw _ (List.mem_of_getElem? (i := 3) rfl)) (by decide) (by decide)) (g := (mkF m 121 #[.val (.int p0), .val (.int p1), .val (.int p2), .val (.int p3), .val (.int p4), .val (.int p5), .val (.int (1 : Int32)), .val (.int (3 : Int32)), .val (.ref b52), .val (.int (p5.toInt8.toInt32)), .unset] [(.int (1 : Int32)), (.ref b52)])) rfl (by rw [hml]; rfl) (argsL := [(.ref b52), (.int (1 : Int32))]) (rest := []) (lenOf pd92f6cd8e rfl) rfl (by show 2 * 0 + _ ≤ _; exact Nat.le_of_eq rfl) (hb hby at_121) (fun _ _ => ⟨rfl, e60, (by decide : 1 + 0 ≤ _), (by decide : 4 + 0 ≤ _)⟩)
      dsimp only [Pt.U, Pt.locs, Pt.cells, Pt.slots] at X61 l61 y61 z61 st61 hQ61
      subst l61 y61 z61
      obtain ⟨rfl, N61q, e61⟩ := hQ61
      have N61 := Fr.app N60 N61q
      refine Go.st (fun _ k => st61 _ k) ?_
      show Go p e below _ (T61.setTop (mkF m 124 #[.val (.int p0), .val (.int p1), .val (.int p2), .val (.int p3), .val (.int p4), .val (.int p5), .val (.int (1 : Int32)), .val (.int (3 : Int32)), .val (.ref b52), .val (.int (p5.toInt8.toInt32)), .unset] [(.int (fCE (nar .byte (p0.toInt8.toInt32)) (nar .byte (p1.toInt8.toInt32)) (nar .byte (p2.toInt8.toInt32)) (0 : Int32) (1 : Int32) (4 : Int32)))]))
      refine Go.st (fun _ k => XS.istore X61.here hx rfl (hb hby at_124) rfl (l' := #[.val (.int p0), .val (.int p1), .val (.int p2), .val (.int p3), .val (.int p4), .val (.int p5), .val (.int (1 : Int32)), .val (.int (3 : Int32)), .val (.ref b52), .val (.int (p5.toInt8.toInt32)), .val (.int (fCE (nar .byte (p0.toInt8.toInt32)) (nar .byte (p1.toInt8.toInt32)) (nar .byte (p2.toInt8.toInt32)) (0 : Int32) (1 : Int32) (4 : Int32)))]) rfl k) ?_
      show Go p e below _ (T61.setTop (mkF m 126 #[.val (.int p0), .val (.int p1), .val (.int p2), .val (.int p3), .val (.int p4), .val (.int p5), .val (.int (1 : Int32)), .val (.int (3 : Int32)), .val (.ref b52), .val (.int (p5.toInt8.toInt32)), .val (.int (fCE (nar .byte (p0.toInt8.toInt32)) (nar .byte (p1.toInt8.toInt32)) (nar .byte (p2.toInt8.toInt32)) (0 : Int32) (1 : Int32) (4 : Int32)))] []))
      refine Go.st (fun _ k => XS.iload X61.here hx rfl (hb hby at_126) rfl k) ?_
      refine Go.st (fun _ k => XS.iloadN X61.here hx rfl (hb hby at_128) rfl k) ?_
      show Go p e below _ (T61.setTop (mkF m 129 #[.val (.int p0), .val (.int p1), .val (.int p2), .val (.int p3), .val (.int p4), .val (.int p5), .val (.int (1 : Int32)), .val (.int (3 : Int32)), .val (.ref b52), .val (.int (p5.toInt8.toInt32)), .val (.int (fCE (nar .byte (p0.toInt8.toInt32)) (nar .byte (p1.toInt8.toInt32)) (nar .byte (p2.toInt8.toInt32)) (0 : Int32) (1 : Int32) (4 : Int32)))] [(.int p0), (.int (fCE (nar .byte (p0.toInt8.toInt32)) (nar .byte (p1.toInt8.toInt32)) (nar .byte (p2.toInt8.toInt32)) (0 : Int32) (1 : Int32) (4 : Int32)))]))
      refine Go.st (fun _ k => XS.sipush X61.here hx rfl (hb hby at_129) k) ?_
      refine Go.st (fun _ k => XS.iand X61.here hx rfl (hb hby at_132) rfl k) ?_
      show Go p e below _ (T61.setTop (mkF m 133 #[.val (.int p0), .val (.int p1), .val (.int p2), .val (.int p3), .val (.int p4), .val (.int p5), .val (.int (1 : Int32)), .val (.int (3 : Int32)), .val (.ref b52), .val (.int (p5.toInt8.toInt32)), .val (.int (fCE (nar .byte (p0.toInt8.toInt32)) (nar .byte (p1.toInt8.toInt32)) (nar .byte (p2.toInt8.toInt32)) (0 : Int32) (1 : Int32) (4 : Int32)))] [(.int (p0 &&& (255 : Int32))), (.int (fCE (nar .byte (p0.toInt8.toInt32)) (nar .byte (p1.toInt8.toInt32)) (nar .byte (p2.toInt8.toInt32)) (0 : Int32) (1 : Int32) (4 : Int32)))]))
      refine Go.st (fun _ k => XS.iloadN X61.here hx rfl (hb hby at_133) rfl k) ?_
      refine Go.st (fun _ k => XS.sipush X61.here hx rfl (hb hby at_134) k) ?_
      show Go p e below _ (T61.setTop (mkF m 137 #[.val (.int p0), .val (.int p1), .val (.int p2), .val (.int p3), .val (.int p4), .val (.int p5), .val (.int (1 : Int32)), .val (.int (3 : Int32)), .val (.ref b52), .val (.int (p5.toInt8.toInt32)), .val (.int (fCE (nar .byte (p0.toInt8.toInt32)) (nar .byte (p1.toInt8.toInt32)) (nar .byte (p2.toInt8.toInt32)) (0 : Int32) (1 : Int32) (4 : Int32)))] [(.int (255 : Int32)), (.int p1), (.int (p0 &&& (255 : Int32))), (.int (fCE (nar .byte (p0.toInt8.toInt32)) (nar .byte (p1.toInt8.toInt32)) (nar .byte (p2.toInt8.toInt32)) (0 : Int32) (1 : Int32) (4 : Int32)))]))
      refine Go.st (fun _ k => XS.iand X61.here hx rfl (hb hby at_137) rfl k) ?_
      refine Go.st (fun _ k => XS.iloadN X61.here hx rfl (hb hby at_138) rfl k) ?_
      show Go p e below _ (T61.setTop (mkF m 139 #[.val (.int p0), .val (.int p1), .val (.int p2), .val (.int p3), .val (.int p4), .val (.int p5), .val (.int (1 : Int32)), .val (.int (3 : Int32)), .val (.ref b52), .val (.int (p5.toInt8.toInt32)), .val (.int (fCE (nar .byte (p0.toInt8.toInt32)) (nar .byte (p1.toInt8.toInt32)) (nar .byte (p2.toInt8.toInt32)) (0 : Int32) (1 : Int32) (4 : Int32)))] [(.int p2), (.int (p1 &&& (255 : Int32))), (.int (p0 &&& (255 : Int32))), (.int (fCE (nar .byte (p0.toInt8.toInt32)) (nar .byte (p1.toInt8.toInt32)) (nar .byte (p2.toInt8.toInt32)) (0 : Int32) (1 : Int32) (4 : Int32)))]))
      refine Go.st (fun _ k => XS.sipush X61.here hx rfl (hb hby at_139) k) ?_
      refine Go.st (fun _ k => XS.iand X61.here hx rfl (hb hby at_142) rfl k) ?_
      show Go p e below _ (T61.setTop (mkF m 143 #[.val (.int p0), .val (.int p1), .val (.int p2), .val (.int p3), .val (.int p4), .val (.int p5), .val (.int (1 : Int32)), .val (.int (3 : Int32)), .val (.ref b52), .val (.int (p5.toInt8.toInt32)), .val (.int (fCE (nar .byte (p0.toInt8.toInt32)) (nar .byte (p1.toInt8.toInt32)) (nar .byte (p2.toInt8.toInt32)) (0 : Int32) (1 : Int32) (4 : Int32)))] [(.int (p2 &&& (255 : Int32))), (.int (p1 &&& (255 : Int32))), (.int (p0 &&& (255 : Int32))), (.int (fCE (nar .byte (p0.toInt8.toInt32)) (nar .byte (p1.toInt8.toInt32)) (nar .byte (p2.toInt8.toInt32)) (0 : Int32) (1 : Int32) (4 : Int32)))]))
      refine Go.st (fun _ k => XS.iloadN X61.here hx rfl (hb hby at_143) rfl k) ?_
      refine Go.st (fun _ k => XS.sipush X61.here hx rfl (hb hby at_144) k) ?_
      show Go p e below _ (T61.setTop (mkF m 147 #[.val (.int p0), .val (.int p1), .val (.int p2), .val (.int p3), .val (.int p4), .val (.int p5), .val (.int (1 : Int32)), .val (.int (3 : Int32)), .val (.ref b52), .val (.int (p5.toInt8.toInt32)), .val (.int (fCE (nar .byte (p0.toInt8.toInt32)) (nar .byte (p1.toInt8.toInt32)) (nar .byte (p2.toInt8.toInt32)) (0 : Int32) (1 : Int32) (4 : Int32)))] [(.int (255 : Int32)), (.int p3), (.int (p2 &&& (255 : Int32))), (.int (p1 &&& (255 : Int32))), (.int (p0 &&& (255 : Int32))), (.int (fCE (nar .byte (p0.toInt8.toInt32)) (nar .byte (p1.toInt8.toInt32)) (nar .byte (p2.toInt8.toInt32)) (0 : Int32) (1 : Int32) (4 : Int32)))]))
      refine Go.st (fun _ k => XS.iand X61.here hx rfl (hb hby at_147) rfl k) ?_
      refine Go.st (fun _ k => XS.iload X61.here hx rfl (hb hby at_148) rfl k) ?_
      show Go p e below _ (T61.setTop (mkF m 150 #[.val (.int p0), .val (.int p1), .val (.int p2), .val (.int p3), .val (.int p4), .val (.int p5), .val (.int (1 : Int32)), .val (.int (3 : Int32)), .val (.ref b52), .val (.int (p5.toInt8.toInt32)), .val (.int (fCE (nar .byte (p0.toInt8.toInt32)) (nar .byte (p1.toInt8.toInt32)) (nar .byte (p2.toInt8.toInt32)) (0 : Int32) (1 : Int32) (4 : Int32)))] [(.int (3 : Int32)), (.int (p3 &&& (255 : Int32))), (.int (p2 &&& (255 : Int32))), (.int (p1 &&& (255 : Int32))), (.int (p0 &&& (255 : Int32))), (.int (fCE (nar .byte (p0.toInt8.toInt32)) (nar .byte (p1.toInt8.toInt32)) (nar .byte (p2.toInt8.toInt32)) (0 : Int32) (1 : Int32) (4 : Int32)))]))
      refine Go.st (fun _ k => XS.iload X61.here hx rfl (hb hby at_150) rfl k) ?_
      show Go p e below _ (T61.setTop (mkF m 152 #[.val (.int p0), .val (.int p1), .val (.int p2), .val (.int p3), .val (.int p4), .val (.int p5), .val (.int (1 : Int32)), .val (.int (3 : Int32)), .val (.ref b52), .val (.int (p5.toInt8.toInt32)), .val (.int (fCE (nar .byte (p0.toInt8.toInt32)) (nar .byte (p1.toInt8.toInt32)) (nar .byte (p2.toInt8.toInt32)) (0 : Int32) (1 : Int32) (4 : Int32)))] [(.int (1 : Int32)), (.int (3 : Int32)), (.int (p3 &&& (255 : Int32))), (.int (p2 &&& (255 : Int32))), (.int (p1 &&& (255 : Int32))), (.int (p0 &&& (255 : Int32))), (.int (fCE (nar .byte (p0.toInt8.toInt32)) (nar .byte (p1.toInt8.toInt32)) (nar .byte (p2.toInt8.toInt32)) (0 : Int32) (1 : Int32) (4 : Int32)))]))
      obtain ⟨_, _, ⟨T62, L62, k62, n62⟩, -, X62, ⟨Lc62, hQ62, l62, y62, z62⟩, st62⟩ := Jvm.LawKit.callS X61 hx (y := (⟨"com/example/apportis/apportis/Utf8CharacterEndPinLaw", "expected", "(IIIIII)I"⟩ : MethodName)) hown (mvT hZ (hw _ (List.mem_of_getElem? (i := 5) rfl))) (mvT hZ (hw _ (List.mem_of_getElem? (i := 6) rfl))) (mvT hZ (hw _ (List.mem_of_getElem? (i := 7) rfl))) (mvT hZ (hw _ (List.mem_of_getElem? (i := 8) rfl))) (by decide) (backOf (W := 1) (rm2 l Z aZ hw [] (p0 &&& (255 : Int32)) (p1 &&& (255 : Int32)) (p2 &&& (255 : Int32)) (p3 &&& (255 : Int32)) (3 : Int32) (1 : Int32) h60 n0 ) hZ (hw _ (List.mem_of_getElem? (i := 8) rfl)) (hw _ (List.mem_of_getElem? (i := 7) rfl)) (by decide) (by decide)) (g := (mkF m 152 #[.val (.int p0), .val (.int p1), .val (.int p2), .val (.int p3), .val (.int p4), .val (.int p5), .val (.int (1 : Int32)), .val (.int (3 : Int32)), .val (.ref b52), .val (.int (p5.toInt8.toInt32)), .val (.int (fCE (nar .byte (p0.toInt8.toInt32)) (nar .byte (p1.toInt8.toInt32)) (nar .byte (p2.toInt8.toInt32)) (0 : Int32) (1 : Int32) (4 : Int32)))] [(.int (1 : Int32)), (.int (3 : Int32)), (.int (p3 &&& (255 : Int32))), (.int (p2 &&& (255 : Int32))), (.int (p1 &&& (255 : Int32))), (.int (p0 &&& (255 : Int32))), (.int (fCE (nar .byte (p0.toInt8.toInt32)) (nar .byte (p1.toInt8.toInt32)) (nar .byte (p2.toInt8.toInt32)) (0 : Int32) (1 : Int32) (4 : Int32)))])) rfl (by rw [hml]; rfl) (argsL := [(.int (p0 &&& (255 : Int32))), (.int (p1 &&& (255 : Int32))), (.int (p2 &&& (255 : Int32))), (.int (p3 &&& (255 : Int32))), (.int (3 : Int32)), (.int (1 : Int32))]) (rest := [(.int (fCE (nar .byte (p0.toInt8.toInt32)) (nar .byte (p1.toInt8.toInt32)) (nar .byte (p2.toInt8.toInt32)) (0 : Int32) (1 : Int32) (4 : Int32)))]) (lenOf pd41a2ea18 rfl) rfl (by show 2 * 0 + _ ≤ _; exact Nat.le_of_eq rfl) (hb hby at_152) (fun _ _ => ⟨rfl, e61, (by decide : 1 + 0 ≤ _), (by decide : 4 + 0 ≤ _)⟩)
      dsimp only [Pt.U, Pt.locs, Pt.cells, Pt.slots] at X62 l62 y62 z62 st62 hQ62
      subst l62 y62 z62
      obtain ⟨rfl, N62q, e62⟩ := hQ62
      have N62 := Fr.app N61 N62q
      refine Go.st (fun _ k => st62 _ k) ?_
      show Go p e below _ (T62.setTop (mkF m 155 #[.val (.int p0), .val (.int p1), .val (.int p2), .val (.int p3), .val (.int p4), .val (.int p5), .val (.int (1 : Int32)), .val (.int (3 : Int32)), .val (.ref b52), .val (.int (p5.toInt8.toInt32)), .val (.int (fCE (nar .byte (p0.toInt8.toInt32)) (nar .byte (p1.toInt8.toInt32)) (nar .byte (p2.toInt8.toInt32)) (0 : Int32) (1 : Int32) (4 : Int32)))] [(.int (fExp (p0 &&& (255 : Int32)) (p1 &&& (255 : Int32)) (p2 &&& (255 : Int32)) (p3 &&& (255 : Int32)) (3 : Int32) (1 : Int32))), (.int (fCE (nar .byte (p0.toInt8.toInt32)) (nar .byte (p1.toInt8.toInt32)) (nar .byte (p2.toInt8.toInt32)) (0 : Int32) (1 : Int32) (4 : Int32)))]))
      refine Go.st (fun _ k => XS.icmpNo X62.here hx rfl (hb hby at_155) rfl (teq (own_main p0 p1 p2 p3 (own_mask p0) (fun _ => own_mask p1) (fun _ => own_mask p2) (fun h => absurd h (by decide)) (by decide))).2 k) ?_
      show Go p e below _ (T62.setTop (mkF m 158 #[.val (.int p0), .val (.int p1), .val (.int p2), .val (.int p3), .val (.int p4), .val (.int p5), .val (.int (1 : Int32)), .val (.int (3 : Int32)), .val (.ref b52), .val (.int (p5.toInt8.toInt32)), .val (.int (fCE (nar .byte (p0.toInt8.toInt32)) (nar .byte (p1.toInt8.toInt32)) (nar .byte (p2.toInt8.toInt32)) (0 : Int32) (1 : Int32) (4 : Int32)))] []))
      refine Go.st (fun _ k => XS.iconst X62.here hx rfl (hb hby at_158) k) ?_
      refine Go.st (fun _ k => XS.goto X62.here hx rfl (pc0 := 159) (pc' := 163) rfl (hb hby at_159) (by decide) (by decide) k) ?_
      show Go p e below _ (T62.setTop (mkF m 163 #[.val (.int p0), .val (.int p1), .val (.int p2), .val (.int p3), .val (.int p4), .val (.int p5), .val (.int (1 : Int32)), .val (.int (3 : Int32)), .val (.ref b52), .val (.int (p5.toInt8.toInt32)), .val (.int (fCE (nar .byte (p0.toInt8.toInt32)) (nar .byte (p1.toInt8.toInt32)) (nar .byte (p2.toInt8.toInt32)) (0 : Int32) (1 : Int32) (4 : Int32)))] [(.int (1 : Int32))]))
      obtain ⟨fs, hr, hrun, hended, hW, hsame⟩ := X62.leave (v := some (.int (1 : Int32))) (fun h => by rw [Bd.returns] at h; cases h)
      refine ⟨_, _, retN X62 hx (t := .boolean) Bd.returns (by simp) (hb hby at_163) hr, hrun, hended, _, _, rfl, ?_, ⟨_, rfl⟩, hW, hsame.mono (by decide) (by decide)⟩
      show Q_rm0 Z p0 p1 p2 p3 p4 p5 h0 n0 _ T62.heap _
      rw [e62]
      exact ⟨rfl, N62⟩
    · rw [hr35]
      show Go p e below _ (s₁.setTop (mkF m 13 #[.val (.int p0), .val (.int p1), .val (.int p2), .val (.int p3), .val (.int p4), .val (.int p5), .val (.int (1 : Int32)), .unset, .unset, .unset, .unset] [(.int (3 : Int32)), (.int (1 : Int32))]))
      refine Go.st (fun _ k => XS.iadd X0.here hx rfl (hb hby at_13) rfl k) ?_
      refine Go.st (fun _ k => XS.istore X0.here hx rfl (hb hby at_14) rfl (l' := #[.val (.int p0), .val (.int p1), .val (.int p2), .val (.int p3), .val (.int p4), .val (.int p5), .val (.int (1 : Int32)), .val (.int (4 : Int32)), .unset, .unset, .unset]) rfl k) ?_
      show Go p e below _ (s₁.setTop (mkF m 16 #[.val (.int p0), .val (.int p1), .val (.int p2), .val (.int p3), .val (.int p4), .val (.int p5), .val (.int (1 : Int32)), .val (.int (4 : Int32)), .unset, .unset, .unset] []))
      refine Go.st (fun _ k => XS.iload X0.here hx rfl (hb hby at_16) rfl k) ?_
      refine Go.st (fun _ k => XS.iload X0.here hx rfl (hb hby at_18) rfl k) ?_
      show Go p e below _ (s₁.setTop (mkF m 20 #[.val (.int p0), .val (.int p1), .val (.int p2), .val (.int p3), .val (.int p4), .val (.int p5), .val (.int (1 : Int32)), .val (.int (4 : Int32)), .unset, .unset, .unset] [(.int (4 : Int32)), (.int (1 : Int32))]))
      refine Go.st (fun _ k => XS.iadd X0.here hx rfl (hb hby at_20) rfl k) ?_
      show Go p e below _ (s₁.setTop (mkF m 21 #[.val (.int p0), .val (.int p1), .val (.int p2), .val (.int p3), .val (.int p4), .val (.int p5), .val (.int (1 : Int32)), .val (.int (4 : Int32)), .unset, .unset, .unset] [(.int (5 : Int32))]))
      obtain ⟨T63, h63, k63, X63, e63, E63, A63, st63⟩ := newP X0 hx hZ (hw _ (List.mem_of_getElem? (i := 0) rfl)) e0 (g := (mkF m 21 #[.val (.int p0), .val (.int p1), .val (.int p2), .val (.int p3), .val (.int p4), .val (.int p5), .val (.int (1 : Int32)), .val (.int (4 : Int32)), .unset, .unset, .unset] [(.int (5 : Int32))])) rfl (hb hby at_21) rfl (by decide) (cap := 5) (by decide) (by decide) (by decide) (by decide)
      obtain ⟨b63, g63⟩ : ∃ z, z = h0.size := ⟨_, rfl⟩
      have gg63 : n0 ≤ b63 := Nat.le_trans Z0 (Nat.le_of_eq g63.symm)
      rw [← g63] at A63 st63
      have Z63 : n0 ≤ h63.size := Nat.le_trans Z0 E63.1
      have V63 : Arv Z h63 b63 k63 .byte (5 : Int32) [(.int (0 : Int32)), (.int (0 : Int32)), (.int (0 : Int32)), (.int (0 : Int32)), (.int (0 : Int32))] (.int (0 : Int32)) := (Arv.new A63 (by decide)).pad (pad_rep [] (.int (0 : Int32)) 5)
      refine Go.st (fun _ k => st63 _ k) ?_
      show Go p e below _ (T63.setTop (mkF m 23 #[.val (.int p0), .val (.int p1), .val (.int p2), .val (.int p3), .val (.int p4), .val (.int p5), .val (.int (1 : Int32)), .val (.int (4 : Int32)), .unset, .unset, .unset] [(.ref b63)]))
      refine Go.st (fun _ k => XS.astore X63.here hx rfl (hb hby at_23) rfl rfl (l' := #[.val (.int p0), .val (.int p1), .val (.int p2), .val (.int p3), .val (.int p4), .val (.int p5), .val (.int (1 : Int32)), .val (.int (4 : Int32)), .val (.ref b63), .unset, .unset]) rfl k) ?_
      show Go p e below _ (T63.setTop (mkF m 25 #[.val (.int p0), .val (.int p1), .val (.int p2), .val (.int p3), .val (.int p4), .val (.int p5), .val (.int (1 : Int32)), .val (.int (4 : Int32)), .val (.ref b63), .unset, .unset] []))
      refine Go.st (fun _ k => XS.iload X63.here hx rfl (hb hby at_25) rfl k) ?_
      refine Go.st (fun _ k => XS.i2b X63.here hx rfl (hb hby at_27) rfl k) ?_
      show Go p e below _ (T63.setTop (mkF m 28 #[.val (.int p0), .val (.int p1), .val (.int p2), .val (.int p3), .val (.int p4), .val (.int p5), .val (.int (1 : Int32)), .val (.int (4 : Int32)), .val (.ref b63), .unset, .unset] [(.int (p5.toInt8.toInt32))]))
      refine Go.st (fun _ k => XS.istore X63.here hx rfl (hb hby at_28) rfl (l' := #[.val (.int p0), .val (.int p1), .val (.int p2), .val (.int p3), .val (.int p4), .val (.int p5), .val (.int (1 : Int32)), .val (.int (4 : Int32)), .val (.ref b63), .val (.int (p5.toInt8.toInt32)), .unset]) rfl k) ?_
      show Go p e below _ (T63.setTop (mkF m 30 #[.val (.int p0), .val (.int p1), .val (.int p2), .val (.int p3), .val (.int p4), .val (.int p5), .val (.int (1 : Int32)), .val (.int (4 : Int32)), .val (.ref b63), .val (.int (p5.toInt8.toInt32)), .unset] []))
      refine Go.st (fun _ k => XS.iload X63.here hx rfl (hb hby at_30) rfl k) ?_
      refine Go.st (fun _ k => XS.ifNo X63.here hx rfl (hb hby at_32) rfl ((if0 _ _).trans (tlt (by decide : ((0 : Int32) < (1 : Int32)))).2.2.2) k) ?_
      show Go p e below _ (T63.setTop (mkF m 35 #[.val (.int p0), .val (.int p1), .val (.int p2), .val (.int p3), .val (.int p4), .val (.int p5), .val (.int (1 : Int32)), .val (.int (4 : Int32)), .val (.ref b63), .val (.int (p5.toInt8.toInt32)), .unset] []))
      refine Go.st (fun _ k => XS.aload X63.here hx rfl (hb hby at_35) rfl rfl k) ?_
      refine Go.st (fun _ k => XS.iconst X63.here hx rfl (hb hby at_37) k) ?_
      show Go p e below _ (T63.setTop (mkF m 38 #[.val (.int p0), .val (.int p1), .val (.int p2), .val (.int p3), .val (.int p4), .val (.int p5), .val (.int (1 : Int32)), .val (.int (4 : Int32)), .val (.ref b63), .val (.int (p5.toInt8.toInt32)), .unset] [(.int (0 : Int32)), (.ref b63)]))
      refine Go.st (fun _ k => XS.iload X63.here hx rfl (hb hby at_38) rfl k) ?_
      show Go p e below _ (T63.setTop (mkF m 40 #[.val (.int p0), .val (.int p1), .val (.int p2), .val (.int p3), .val (.int p4), .val (.int p5), .val (.int (1 : Int32)), .val (.int (4 : Int32)), .val (.ref b63), .val (.int (p5.toInt8.toInt32)), .unset] [(.int (p5.toInt8.toInt32)), (.int (0 : Int32)), (.ref b63)]))
      obtain ⟨cl64, Ar64, ck64, Sz64, Nn64, Hs64, Gs64⟩ := id V63
      have hin64 : ¬ ((0 : Int32) < 0 ∨ cl64.slots.size ≤ ((0 : Int32)).toNatClampNeg) := inb_of Sz64 ⟨by decide, by decide⟩
      obtain ⟨T65, h65, X65, e65, W65, st65⟩ := stB X63 hx hZ e63 Ar64 (j := (0 : Int32)) hin64 (g := (mkF m 40 #[.val (.int p0), .val (.int p1), .val (.int p2), .val (.int p3), .val (.int p4), .val (.int p5), .val (.int (1 : Int32)), .val (.int (4 : Int32)), .val (.ref b63), .val (.int (p5.toInt8.toInt32)), .unset] [(.int (p5.toInt8.toInt32)), (.int (0 : Int32)), (.ref b63)])) rfl rfl (hb hby at_40)
      have V65 : Arv Z h65 b63 k63 .byte (5 : Int32) [(.int (nar .byte (p5.toInt8.toInt32))), (.int (0 : Int32)), (.int (0 : Int32)), (.int (0 : Int32)), (.int (0 : Int32))] (.int (0 : Int32)) := Arv.set Ar64 ck64 Sz64 Nn64 Hs64 Gs64 (fits_nar_byte _) W65 0 rfl (Nat.le_of_ble_eq_true rfl)
      have N65 := Fr.snoc X65 N0 gg63
      have Z65 : n0 ≤ h65.size := by rw [W65.size]; exact Z63
      refine Go.st (fun _ k => st65 _ k) ?_
      show Go p e below _ (T65.setTop (mkF m 41 #[.val (.int p0), .val (.int p1), .val (.int p2), .val (.int p3), .val (.int p4), .val (.int p5), .val (.int (1 : Int32)), .val (.int (4 : Int32)), .val (.ref b63), .val (.int (p5.toInt8.toInt32)), .unset] []))
      refine Go.st (fun _ k => XS.iload X65.here hx rfl (hb hby at_41) rfl k) ?_
      refine Go.st (fun _ k => XS.iconst X65.here hx rfl (hb hby at_43) k) ?_
      show Go p e below _ (T65.setTop (mkF m 44 #[.val (.int p0), .val (.int p1), .val (.int p2), .val (.int p3), .val (.int p4), .val (.int p5), .val (.int (1 : Int32)), .val (.int (4 : Int32)), .val (.ref b63), .val (.int (p5.toInt8.toInt32)), .unset] [(.int (1 : Int32)), (.int (1 : Int32))]))
      refine Go.st (fun _ k => XS.icmpYes X65.here hx rfl (pc0 := 44) (pc' := 53) rfl (hb hby at_44) rfl (flt (by decide : ¬ ((1 : Int32) < (1 : Int32)))).2.2.2 (by decide) (by decide) k) ?_
      show Go p e below _ (T65.setTop (mkF m 53 #[.val (.int p0), .val (.int p1), .val (.int p2), .val (.int p3), .val (.int p4), .val (.int p5), .val (.int (1 : Int32)), .val (.int (4 : Int32)), .val (.ref b63), .val (.int (p5.toInt8.toInt32)), .unset] []))
      refine Go.st (fun _ k => XS.iload X65.here hx rfl (hb hby at_53) rfl k) ?_
      refine Go.st (fun _ k => XS.iconst X65.here hx rfl (hb hby at_55) k) ?_
      show Go p e below _ (T65.setTop (mkF m 56 #[.val (.int p0), .val (.int p1), .val (.int p2), .val (.int p3), .val (.int p4), .val (.int p5), .val (.int (1 : Int32)), .val (.int (4 : Int32)), .val (.ref b63), .val (.int (p5.toInt8.toInt32)), .unset] [(.int (2 : Int32)), (.int (1 : Int32))]))
      refine Go.st (fun _ k => XS.icmpYes X65.here hx rfl (pc0 := 56) (pc' := 65) rfl (hb hby at_56) rfl (flt (by decide : ¬ ((2 : Int32) < (1 : Int32)))).2.2.2 (by decide) (by decide) k) ?_
      show Go p e below _ (T65.setTop (mkF m 65 #[.val (.int p0), .val (.int p1), .val (.int p2), .val (.int p3), .val (.int p4), .val (.int p5), .val (.int (1 : Int32)), .val (.int (4 : Int32)), .val (.ref b63), .val (.int (p5.toInt8.toInt32)), .unset] []))
      refine Go.st (fun _ k => XS.aload X65.here hx rfl (hb hby at_65) rfl rfl k) ?_
      refine Go.st (fun _ k => XS.iload X65.here hx rfl (hb hby at_67) rfl k) ?_
      show Go p e below _ (T65.setTop (mkF m 69 #[.val (.int p0), .val (.int p1), .val (.int p2), .val (.int p3), .val (.int p4), .val (.int p5), .val (.int (1 : Int32)), .val (.int (4 : Int32)), .val (.ref b63), .val (.int (p5.toInt8.toInt32)), .unset] [(.int (1 : Int32)), (.ref b63)]))
      refine Go.st (fun _ k => XS.iloadN X65.here hx rfl (hb hby at_69) rfl k) ?_
      refine Go.st (fun _ k => XS.i2b X65.here hx rfl (hb hby at_70) rfl k) ?_
      show Go p e below _ (T65.setTop (mkF m 71 #[.val (.int p0), .val (.int p1), .val (.int p2), .val (.int p3), .val (.int p4), .val (.int p5), .val (.int (1 : Int32)), .val (.int (4 : Int32)), .val (.ref b63), .val (.int (p5.toInt8.toInt32)), .unset] [(.int (p0.toInt8.toInt32)), (.int (1 : Int32)), (.ref b63)]))
      obtain ⟨cl66, Ar66, ck66, Sz66, Nn66, Hs66, Gs66⟩ := id V65
      have hin66 : ¬ ((1 : Int32) < 0 ∨ cl66.slots.size ≤ ((1 : Int32)).toNatClampNeg) := inb_of Sz66 ⟨by decide, by decide⟩
      obtain ⟨T67, h67, X67, e67, W67, st67⟩ := stB X65 hx hZ e65 Ar66 (j := (1 : Int32)) hin66 (g := (mkF m 71 #[.val (.int p0), .val (.int p1), .val (.int p2), .val (.int p3), .val (.int p4), .val (.int p5), .val (.int (1 : Int32)), .val (.int (4 : Int32)), .val (.ref b63), .val (.int (p5.toInt8.toInt32)), .unset] [(.int (p0.toInt8.toInt32)), (.int (1 : Int32)), (.ref b63)])) rfl rfl (hb hby at_71)
      have V67 : Arv Z h67 b63 k63 .byte (5 : Int32) [(.int (nar .byte (p5.toInt8.toInt32))), (.int (nar .byte (p0.toInt8.toInt32))), (.int (0 : Int32)), (.int (0 : Int32)), (.int (0 : Int32))] (.int (0 : Int32)) := Arv.set Ar66 ck66 Sz66 Nn66 Hs66 Gs66 (fits_nar_byte _) W67 1 rfl (Nat.le_of_ble_eq_true rfl)
      have N67 := Fr.snoc X67 N65 gg63
      have Z67 : n0 ≤ h67.size := by rw [W67.size]; exact Z65
      refine Go.st (fun _ k => st67 _ k) ?_
      show Go p e below _ (T67.setTop (mkF m 72 #[.val (.int p0), .val (.int p1), .val (.int p2), .val (.int p3), .val (.int p4), .val (.int p5), .val (.int (1 : Int32)), .val (.int (4 : Int32)), .val (.ref b63), .val (.int (p5.toInt8.toInt32)), .unset] []))
      refine Go.st (fun _ k => XS.iload X67.here hx rfl (hb hby at_72) rfl k) ?_
      refine Go.st (fun _ k => XS.iconst X67.here hx rfl (hb hby at_74) k) ?_
      show Go p e below _ (T67.setTop (mkF m 75 #[.val (.int p0), .val (.int p1), .val (.int p2), .val (.int p3), .val (.int p4), .val (.int p5), .val (.int (1 : Int32)), .val (.int (4 : Int32)), .val (.ref b63), .val (.int (p5.toInt8.toInt32)), .unset] [(.int (1 : Int32)), (.int (4 : Int32))]))
      refine Go.st (fun _ k => XS.icmpNo X67.here hx rfl (hb hby at_75) rfl (tlt (by decide : ((1 : Int32) < (4 : Int32)))).2.2.2 k) ?_
      show Go p e below _ (T67.setTop (mkF m 78 #[.val (.int p0), .val (.int p1), .val (.int p2), .val (.int p3), .val (.int p4), .val (.int p5), .val (.int (1 : Int32)), .val (.int (4 : Int32)), .val (.ref b63), .val (.int (p5.toInt8.toInt32)), .unset] []))
      refine Go.st (fun _ k => XS.aload X67.here hx rfl (hb hby at_78) rfl rfl k) ?_
      refine Go.st (fun _ k => XS.iload X67.here hx rfl (hb hby at_80) rfl k) ?_
      show Go p e below _ (T67.setTop (mkF m 82 #[.val (.int p0), .val (.int p1), .val (.int p2), .val (.int p3), .val (.int p4), .val (.int p5), .val (.int (1 : Int32)), .val (.int (4 : Int32)), .val (.ref b63), .val (.int (p5.toInt8.toInt32)), .unset] [(.int (1 : Int32)), (.ref b63)]))
      refine Go.st (fun _ k => XS.iconst X67.here hx rfl (hb hby at_82) k) ?_
      refine Go.st (fun _ k => XS.iadd X67.here hx rfl (hb hby at_83) rfl k) ?_
      show Go p e below _ (T67.setTop (mkF m 84 #[.val (.int p0), .val (.int p1), .val (.int p2), .val (.int p3), .val (.int p4), .val (.int p5), .val (.int (1 : Int32)), .val (.int (4 : Int32)), .val (.ref b63), .val (.int (p5.toInt8.toInt32)), .unset] [(.int (2 : Int32)), (.ref b63)]))
      refine Go.st (fun _ k => XS.iloadN X67.here hx rfl (hb hby at_84) rfl k) ?_
      refine Go.st (fun _ k => XS.i2b X67.here hx rfl (hb hby at_85) rfl k) ?_
      show Go p e below _ (T67.setTop (mkF m 86 #[.val (.int p0), .val (.int p1), .val (.int p2), .val (.int p3), .val (.int p4), .val (.int p5), .val (.int (1 : Int32)), .val (.int (4 : Int32)), .val (.ref b63), .val (.int (p5.toInt8.toInt32)), .unset] [(.int (p1.toInt8.toInt32)), (.int (2 : Int32)), (.ref b63)]))
      obtain ⟨cl68, Ar68, ck68, Sz68, Nn68, Hs68, Gs68⟩ := id V67
      have hin68 : ¬ ((2 : Int32) < 0 ∨ cl68.slots.size ≤ ((2 : Int32)).toNatClampNeg) := inb_of Sz68 ⟨by decide, by decide⟩
      obtain ⟨T69, h69, X69, e69, W69, st69⟩ := stB X67 hx hZ e67 Ar68 (j := (2 : Int32)) hin68 (g := (mkF m 86 #[.val (.int p0), .val (.int p1), .val (.int p2), .val (.int p3), .val (.int p4), .val (.int p5), .val (.int (1 : Int32)), .val (.int (4 : Int32)), .val (.ref b63), .val (.int (p5.toInt8.toInt32)), .unset] [(.int (p1.toInt8.toInt32)), (.int (2 : Int32)), (.ref b63)])) rfl rfl (hb hby at_86)
      have V69 : Arv Z h69 b63 k63 .byte (5 : Int32) [(.int (nar .byte (p5.toInt8.toInt32))), (.int (nar .byte (p0.toInt8.toInt32))), (.int (nar .byte (p1.toInt8.toInt32))), (.int (0 : Int32)), (.int (0 : Int32))] (.int (0 : Int32)) := Arv.set Ar68 ck68 Sz68 Nn68 Hs68 Gs68 (fits_nar_byte _) W69 2 rfl (Nat.le_of_ble_eq_true rfl)
      have N69 := Fr.snoc X69 N67 gg63
      have Z69 : n0 ≤ h69.size := by rw [W69.size]; exact Z67
      refine Go.st (fun _ k => st69 _ k) ?_
      show Go p e below _ (T69.setTop (mkF m 87 #[.val (.int p0), .val (.int p1), .val (.int p2), .val (.int p3), .val (.int p4), .val (.int p5), .val (.int (1 : Int32)), .val (.int (4 : Int32)), .val (.ref b63), .val (.int (p5.toInt8.toInt32)), .unset] []))
      refine Go.st (fun _ k => XS.iload X69.here hx rfl (hb hby at_87) rfl k) ?_
      refine Go.st (fun _ k => XS.iconst X69.here hx rfl (hb hby at_89) k) ?_
      show Go p e below _ (T69.setTop (mkF m 90 #[.val (.int p0), .val (.int p1), .val (.int p2), .val (.int p3), .val (.int p4), .val (.int p5), .val (.int (1 : Int32)), .val (.int (4 : Int32)), .val (.ref b63), .val (.int (p5.toInt8.toInt32)), .unset] [(.int (2 : Int32)), (.int (4 : Int32))]))
      refine Go.st (fun _ k => XS.icmpNo X69.here hx rfl (hb hby at_90) rfl (tlt (by decide : ((2 : Int32) < (4 : Int32)))).2.2.2 k) ?_
      show Go p e below _ (T69.setTop (mkF m 93 #[.val (.int p0), .val (.int p1), .val (.int p2), .val (.int p3), .val (.int p4), .val (.int p5), .val (.int (1 : Int32)), .val (.int (4 : Int32)), .val (.ref b63), .val (.int (p5.toInt8.toInt32)), .unset] []))
      refine Go.st (fun _ k => XS.aload X69.here hx rfl (hb hby at_93) rfl rfl k) ?_
      refine Go.st (fun _ k => XS.iload X69.here hx rfl (hb hby at_95) rfl k) ?_
      show Go p e below _ (T69.setTop (mkF m 97 #[.val (.int p0), .val (.int p1), .val (.int p2), .val (.int p3), .val (.int p4), .val (.int p5), .val (.int (1 : Int32)), .val (.int (4 : Int32)), .val (.ref b63), .val (.int (p5.toInt8.toInt32)), .unset] [(.int (1 : Int32)), (.ref b63)]))
      refine Go.st (fun _ k => XS.iconst X69.here hx rfl (hb hby at_97) k) ?_
      refine Go.st (fun _ k => XS.iadd X69.here hx rfl (hb hby at_98) rfl k) ?_
      show Go p e below _ (T69.setTop (mkF m 99 #[.val (.int p0), .val (.int p1), .val (.int p2), .val (.int p3), .val (.int p4), .val (.int p5), .val (.int (1 : Int32)), .val (.int (4 : Int32)), .val (.ref b63), .val (.int (p5.toInt8.toInt32)), .unset] [(.int (3 : Int32)), (.ref b63)]))
      refine Go.st (fun _ k => XS.iloadN X69.here hx rfl (hb hby at_99) rfl k) ?_
      refine Go.st (fun _ k => XS.i2b X69.here hx rfl (hb hby at_100) rfl k) ?_
      show Go p e below _ (T69.setTop (mkF m 101 #[.val (.int p0), .val (.int p1), .val (.int p2), .val (.int p3), .val (.int p4), .val (.int p5), .val (.int (1 : Int32)), .val (.int (4 : Int32)), .val (.ref b63), .val (.int (p5.toInt8.toInt32)), .unset] [(.int (p2.toInt8.toInt32)), (.int (3 : Int32)), (.ref b63)]))
      obtain ⟨cl70, Ar70, ck70, Sz70, Nn70, Hs70, Gs70⟩ := id V69
      have hin70 : ¬ ((3 : Int32) < 0 ∨ cl70.slots.size ≤ ((3 : Int32)).toNatClampNeg) := inb_of Sz70 ⟨by decide, by decide⟩
      obtain ⟨T71, h71, X71, e71, W71, st71⟩ := stB X69 hx hZ e69 Ar70 (j := (3 : Int32)) hin70 (g := (mkF m 101 #[.val (.int p0), .val (.int p1), .val (.int p2), .val (.int p3), .val (.int p4), .val (.int p5), .val (.int (1 : Int32)), .val (.int (4 : Int32)), .val (.ref b63), .val (.int (p5.toInt8.toInt32)), .unset] [(.int (p2.toInt8.toInt32)), (.int (3 : Int32)), (.ref b63)])) rfl rfl (hb hby at_101)
      have V71 : Arv Z h71 b63 k63 .byte (5 : Int32) [(.int (nar .byte (p5.toInt8.toInt32))), (.int (nar .byte (p0.toInt8.toInt32))), (.int (nar .byte (p1.toInt8.toInt32))), (.int (nar .byte (p2.toInt8.toInt32))), (.int (0 : Int32))] (.int (0 : Int32)) := Arv.set Ar70 ck70 Sz70 Nn70 Hs70 Gs70 (fits_nar_byte _) W71 3 rfl (Nat.le_of_ble_eq_true rfl)
      have N71 := Fr.snoc X71 N69 gg63
      have Z71 : n0 ≤ h71.size := by rw [W71.size]; exact Z69
      refine Go.st (fun _ k => st71 _ k) ?_
      show Go p e below _ (T71.setTop (mkF m 102 #[.val (.int p0), .val (.int p1), .val (.int p2), .val (.int p3), .val (.int p4), .val (.int p5), .val (.int (1 : Int32)), .val (.int (4 : Int32)), .val (.ref b63), .val (.int (p5.toInt8.toInt32)), .unset] []))
      refine Go.st (fun _ k => XS.iload X71.here hx rfl (hb hby at_102) rfl k) ?_
      refine Go.st (fun _ k => XS.iconst X71.here hx rfl (hb hby at_104) k) ?_
      show Go p e below _ (T71.setTop (mkF m 105 #[.val (.int p0), .val (.int p1), .val (.int p2), .val (.int p3), .val (.int p4), .val (.int p5), .val (.int (1 : Int32)), .val (.int (4 : Int32)), .val (.ref b63), .val (.int (p5.toInt8.toInt32)), .unset] [(.int (3 : Int32)), (.int (4 : Int32))]))
      refine Go.st (fun _ k => XS.icmpNo X71.here hx rfl (hb hby at_105) rfl (tlt (by decide : ((3 : Int32) < (4 : Int32)))).2.2.2 k) ?_
      show Go p e below _ (T71.setTop (mkF m 108 #[.val (.int p0), .val (.int p1), .val (.int p2), .val (.int p3), .val (.int p4), .val (.int p5), .val (.int (1 : Int32)), .val (.int (4 : Int32)), .val (.ref b63), .val (.int (p5.toInt8.toInt32)), .unset] []))
      refine Go.st (fun _ k => XS.aload X71.here hx rfl (hb hby at_108) rfl rfl k) ?_
      refine Go.st (fun _ k => XS.iload X71.here hx rfl (hb hby at_110) rfl k) ?_
      show Go p e below _ (T71.setTop (mkF m 112 #[.val (.int p0), .val (.int p1), .val (.int p2), .val (.int p3), .val (.int p4), .val (.int p5), .val (.int (1 : Int32)), .val (.int (4 : Int32)), .val (.ref b63), .val (.int (p5.toInt8.toInt32)), .unset] [(.int (1 : Int32)), (.ref b63)]))
      refine Go.st (fun _ k => XS.iconst X71.here hx rfl (hb hby at_112) k) ?_
      refine Go.st (fun _ k => XS.iadd X71.here hx rfl (hb hby at_113) rfl k) ?_
      show Go p e below _ (T71.setTop (mkF m 114 #[.val (.int p0), .val (.int p1), .val (.int p2), .val (.int p3), .val (.int p4), .val (.int p5), .val (.int (1 : Int32)), .val (.int (4 : Int32)), .val (.ref b63), .val (.int (p5.toInt8.toInt32)), .unset] [(.int (4 : Int32)), (.ref b63)]))
      refine Go.st (fun _ k => XS.iloadN X71.here hx rfl (hb hby at_114) rfl k) ?_
      refine Go.st (fun _ k => XS.i2b X71.here hx rfl (hb hby at_115) rfl k) ?_
      show Go p e below _ (T71.setTop (mkF m 116 #[.val (.int p0), .val (.int p1), .val (.int p2), .val (.int p3), .val (.int p4), .val (.int p5), .val (.int (1 : Int32)), .val (.int (4 : Int32)), .val (.ref b63), .val (.int (p5.toInt8.toInt32)), .unset] [(.int (p3.toInt8.toInt32)), (.int (4 : Int32)), (.ref b63)]))
      obtain ⟨cl72, Ar72, ck72, Sz72, Nn72, Hs72, Gs72⟩ := id V71
      have hin72 : ¬ ((4 : Int32) < 0 ∨ cl72.slots.size ≤ ((4 : Int32)).toNatClampNeg) := inb_of Sz72 ⟨by decide, by decide⟩
      obtain ⟨T73, h73, X73, e73, W73, st73⟩ := stB X71 hx hZ e71 Ar72 (j := (4 : Int32)) hin72 (g := (mkF m 116 #[.val (.int p0), .val (.int p1), .val (.int p2), .val (.int p3), .val (.int p4), .val (.int p5), .val (.int (1 : Int32)), .val (.int (4 : Int32)), .val (.ref b63), .val (.int (p5.toInt8.toInt32)), .unset] [(.int (p3.toInt8.toInt32)), (.int (4 : Int32)), (.ref b63)])) rfl rfl (hb hby at_116)
      have V73 : Arv Z h73 b63 k63 .byte (5 : Int32) [(.int (nar .byte (p5.toInt8.toInt32))), (.int (nar .byte (p0.toInt8.toInt32))), (.int (nar .byte (p1.toInt8.toInt32))), (.int (nar .byte (p2.toInt8.toInt32))), (.int (nar .byte (p3.toInt8.toInt32)))] (.int (0 : Int32)) := Arv.set Ar72 ck72 Sz72 Nn72 Hs72 Gs72 (fits_nar_byte _) W73 4 rfl (Nat.le_of_ble_eq_true rfl)
      have N73 := Fr.snoc X73 N71 gg63
      have Z73 : n0 ≤ h73.size := by rw [W73.size]; exact Z71
      refine Go.st (fun _ k => st73 _ k) ?_
      show Go p e below _ (T73.setTop (mkF m 117 #[.val (.int p0), .val (.int p1), .val (.int p2), .val (.int p3), .val (.int p4), .val (.int p5), .val (.int (1 : Int32)), .val (.int (4 : Int32)), .val (.ref b63), .val (.int (p5.toInt8.toInt32)), .unset] []))
      refine Go.st (fun _ k => XS.aload X73.here hx rfl (hb hby at_117) rfl rfl k) ?_
      refine Go.st (fun _ k => XS.iload X73.here hx rfl (hb hby at_119) rfl k) ?_
      show Go p e below _ (T73.setTop (mkF m 121 #[.val (.int p0), .val (.int p1), .val (.int p2), .val (.int p3), .val (.int p4), .val (.int p5), .val (.int (1 : Int32)), .val (.int (4 : Int32)), .val (.ref b63), .val (.int (p5.toInt8.toInt32)), .unset] [(.int (1 : Int32)), (.ref b63)]))
      obtain ⟨_, _, ⟨T74, L74, k74, n74⟩, -, X74, ⟨Lc74, hQ74, l74, y74, z74⟩, st74⟩ := Jvm.LawKit.callS X73 hx (y := (⟨"com/example/apportis/apportis/Utf8", "characterEnd", "([BI)I"⟩ : MethodName)) hown (mvT hZ (hw _ (List.mem_of_getElem? (i := 1) rfl))) (mvT hZ (hw _ (List.mem_of_getElem? (i := 2) rfl))) (mvT hZ (hw _ (List.mem_of_getElem? (i := 3) rfl))) (mvT hZ (hw _ (List.mem_of_getElem? (i := 4) rfl))) (by decide) (backOf (W := 0) (rmCE l Z aZ hw [] (nar .byte (p0.toInt8.toInt32)) (nar .byte (p1.toInt8.toInt32)) (nar .byte (p2.toInt8.toInt32)) (nar .byte (p3.toInt8.toInt32)) b63 (1 : Int32) k63 (5 : Int32) [(.int (nar .byte (p5.toInt8.toInt32))), (.int (nar .byte (p0.toInt8.toInt32))), (.int (nar .byte (p1.toInt8.toInt32))), (.int (nar .byte (p2.toInt8.toInt32))), (.int (nar .byte (p3.toInt8.toInt32)))] h73 n0 (by decide) (by decide) (by decide) rfl (fun _ => rfl) (fun _ => rfl) (fun _ => rfl) V73) hZ (hw _ (List.mem_of_getElem? (i := 4) rfl)) (hw _ (List.mem_of_getElem? (i := 3) rfl)) (by decide) (by decide)) (g := (mkF m 121 #[.val (.int p0), .val (.int p1), .val (.int p2), .val (.int p3), .val (.int p4), .val (.int p5), .val (.int (1 : Int32)), .val (.int (4 : Int32)), .val (.ref b63), .val (.int (p5.toInt8.toInt32)), .unset] [(.int (1 : Int32)), (.ref b63)])) rfl (by rw [hml]; rfl) (argsL := [(.ref b63), (.int (1 : Int32))]) (rest := []) (lenOf pd92f6cd8e rfl) rfl (by show 2 * 0 + _ ≤ _; exact Nat.le_of_eq rfl) (hb hby at_121) (fun _ _ => ⟨rfl, e73, (by decide : 1 + 0 ≤ _), (by decide : 5 + 0 ≤ _)⟩)
      dsimp only [Pt.U, Pt.locs, Pt.cells, Pt.slots] at X74 l74 y74 z74 st74 hQ74
      subst l74 y74 z74
      obtain ⟨rfl, N74q, e74⟩ := hQ74
      have N74 := Fr.app N73 N74q
      refine Go.st (fun _ k => st74 _ k) ?_
      show Go p e below _ (T74.setTop (mkF m 124 #[.val (.int p0), .val (.int p1), .val (.int p2), .val (.int p3), .val (.int p4), .val (.int p5), .val (.int (1 : Int32)), .val (.int (4 : Int32)), .val (.ref b63), .val (.int (p5.toInt8.toInt32)), .unset] [(.int (fCE (nar .byte (p0.toInt8.toInt32)) (nar .byte (p1.toInt8.toInt32)) (nar .byte (p2.toInt8.toInt32)) (nar .byte (p3.toInt8.toInt32)) (1 : Int32) (5 : Int32)))]))
      refine Go.st (fun _ k => XS.istore X74.here hx rfl (hb hby at_124) rfl (l' := #[.val (.int p0), .val (.int p1), .val (.int p2), .val (.int p3), .val (.int p4), .val (.int p5), .val (.int (1 : Int32)), .val (.int (4 : Int32)), .val (.ref b63), .val (.int (p5.toInt8.toInt32)), .val (.int (fCE (nar .byte (p0.toInt8.toInt32)) (nar .byte (p1.toInt8.toInt32)) (nar .byte (p2.toInt8.toInt32)) (nar .byte (p3.toInt8.toInt32)) (1 : Int32) (5 : Int32)))]) rfl k) ?_
      show Go p e below _ (T74.setTop (mkF m 126 #[.val (.int p0), .val (.int p1), .val (.int p2), .val (.int p3), .val (.int p4), .val (.int p5), .val (.int (1 : Int32)), .val (.int (4 : Int32)), .val (.ref b63), .val (.int (p5.toInt8.toInt32)), .val (.int (fCE (nar .byte (p0.toInt8.toInt32)) (nar .byte (p1.toInt8.toInt32)) (nar .byte (p2.toInt8.toInt32)) (nar .byte (p3.toInt8.toInt32)) (1 : Int32) (5 : Int32)))] []))
      refine Go.st (fun _ k => XS.iload X74.here hx rfl (hb hby at_126) rfl k) ?_
      refine Go.st (fun _ k => XS.iloadN X74.here hx rfl (hb hby at_128) rfl k) ?_
      show Go p e below _ (T74.setTop (mkF m 129 #[.val (.int p0), .val (.int p1), .val (.int p2), .val (.int p3), .val (.int p4), .val (.int p5), .val (.int (1 : Int32)), .val (.int (4 : Int32)), .val (.ref b63), .val (.int (p5.toInt8.toInt32)), .val (.int (fCE (nar .byte (p0.toInt8.toInt32)) (nar .byte (p1.toInt8.toInt32)) (nar .byte (p2.toInt8.toInt32)) (nar .byte (p3.toInt8.toInt32)) (1 : Int32) (5 : Int32)))] [(.int p0), (.int (fCE (nar .byte (p0.toInt8.toInt32)) (nar .byte (p1.toInt8.toInt32)) (nar .byte (p2.toInt8.toInt32)) (nar .byte (p3.toInt8.toInt32)) (1 : Int32) (5 : Int32)))]))
      refine Go.st (fun _ k => XS.sipush X74.here hx rfl (hb hby at_129) k) ?_
      refine Go.st (fun _ k => XS.iand X74.here hx rfl (hb hby at_132) rfl k) ?_
      show Go p e below _ (T74.setTop (mkF m 133 #[.val (.int p0), .val (.int p1), .val (.int p2), .val (.int p3), .val (.int p4), .val (.int p5), .val (.int (1 : Int32)), .val (.int (4 : Int32)), .val (.ref b63), .val (.int (p5.toInt8.toInt32)), .val (.int (fCE (nar .byte (p0.toInt8.toInt32)) (nar .byte (p1.toInt8.toInt32)) (nar .byte (p2.toInt8.toInt32)) (nar .byte (p3.toInt8.toInt32)) (1 : Int32) (5 : Int32)))] [(.int (p0 &&& (255 : Int32))), (.int (fCE (nar .byte (p0.toInt8.toInt32)) (nar .byte (p1.toInt8.toInt32)) (nar .byte (p2.toInt8.toInt32)) (nar .byte (p3.toInt8.toInt32)) (1 : Int32) (5 : Int32)))]))
      refine Go.st (fun _ k => XS.iloadN X74.here hx rfl (hb hby at_133) rfl k) ?_
      refine Go.st (fun _ k => XS.sipush X74.here hx rfl (hb hby at_134) k) ?_
      show Go p e below _ (T74.setTop (mkF m 137 #[.val (.int p0), .val (.int p1), .val (.int p2), .val (.int p3), .val (.int p4), .val (.int p5), .val (.int (1 : Int32)), .val (.int (4 : Int32)), .val (.ref b63), .val (.int (p5.toInt8.toInt32)), .val (.int (fCE (nar .byte (p0.toInt8.toInt32)) (nar .byte (p1.toInt8.toInt32)) (nar .byte (p2.toInt8.toInt32)) (nar .byte (p3.toInt8.toInt32)) (1 : Int32) (5 : Int32)))] [(.int (255 : Int32)), (.int p1), (.int (p0 &&& (255 : Int32))), (.int (fCE (nar .byte (p0.toInt8.toInt32)) (nar .byte (p1.toInt8.toInt32)) (nar .byte (p2.toInt8.toInt32)) (nar .byte (p3.toInt8.toInt32)) (1 : Int32) (5 : Int32)))]))
      refine Go.st (fun _ k => XS.iand X74.here hx rfl (hb hby at_137) rfl k) ?_
      refine Go.st (fun _ k => XS.iloadN X74.here hx rfl (hb hby at_138) rfl k) ?_
      show Go p e below _ (T74.setTop (mkF m 139 #[.val (.int p0), .val (.int p1), .val (.int p2), .val (.int p3), .val (.int p4), .val (.int p5), .val (.int (1 : Int32)), .val (.int (4 : Int32)), .val (.ref b63), .val (.int (p5.toInt8.toInt32)), .val (.int (fCE (nar .byte (p0.toInt8.toInt32)) (nar .byte (p1.toInt8.toInt32)) (nar .byte (p2.toInt8.toInt32)) (nar .byte (p3.toInt8.toInt32)) (1 : Int32) (5 : Int32)))] [(.int p2), (.int (p1 &&& (255 : Int32))), (.int (p0 &&& (255 : Int32))), (.int (fCE (nar .byte (p0.toInt8.toInt32)) (nar .byte (p1.toInt8.toInt32)) (nar .byte (p2.toInt8.toInt32)) (nar .byte (p3.toInt8.toInt32)) (1 : Int32) (5 : Int32)))]))
      refine Go.st (fun _ k => XS.sipush X74.here hx rfl (hb hby at_139) k) ?_
      refine Go.st (fun _ k => XS.iand X74.here hx rfl (hb hby at_142) rfl k) ?_
      show Go p e below _ (T74.setTop (mkF m 143 #[.val (.int p0), .val (.int p1), .val (.int p2), .val (.int p3), .val (.int p4), .val (.int p5), .val (.int (1 : Int32)), .val (.int (4 : Int32)), .val (.ref b63), .val (.int (p5.toInt8.toInt32)), .val (.int (fCE (nar .byte (p0.toInt8.toInt32)) (nar .byte (p1.toInt8.toInt32)) (nar .byte (p2.toInt8.toInt32)) (nar .byte (p3.toInt8.toInt32)) (1 : Int32) (5 : Int32)))] [(.int (p2 &&& (255 : Int32))), (.int (p1 &&& (255 : Int32))), (.int (p0 &&& (255 : Int32))), (.int (fCE (nar .byte (p0.toInt8.toInt32)) (nar .byte (p1.toInt8.toInt32)) (nar .byte (p2.toInt8.toInt32)) (nar .byte (p3.toInt8.toInt32)) (1 : Int32) (5 : Int32)))]))
      refine Go.st (fun _ k => XS.iloadN X74.here hx rfl (hb hby at_143) rfl k) ?_
      refine Go.st (fun _ k => XS.sipush X74.here hx rfl (hb hby at_144) k) ?_
      show Go p e below _ (T74.setTop (mkF m 147 #[.val (.int p0), .val (.int p1), .val (.int p2), .val (.int p3), .val (.int p4), .val (.int p5), .val (.int (1 : Int32)), .val (.int (4 : Int32)), .val (.ref b63), .val (.int (p5.toInt8.toInt32)), .val (.int (fCE (nar .byte (p0.toInt8.toInt32)) (nar .byte (p1.toInt8.toInt32)) (nar .byte (p2.toInt8.toInt32)) (nar .byte (p3.toInt8.toInt32)) (1 : Int32) (5 : Int32)))] [(.int (255 : Int32)), (.int p3), (.int (p2 &&& (255 : Int32))), (.int (p1 &&& (255 : Int32))), (.int (p0 &&& (255 : Int32))), (.int (fCE (nar .byte (p0.toInt8.toInt32)) (nar .byte (p1.toInt8.toInt32)) (nar .byte (p2.toInt8.toInt32)) (nar .byte (p3.toInt8.toInt32)) (1 : Int32) (5 : Int32)))]))
      refine Go.st (fun _ k => XS.iand X74.here hx rfl (hb hby at_147) rfl k) ?_
      refine Go.st (fun _ k => XS.iload X74.here hx rfl (hb hby at_148) rfl k) ?_
      show Go p e below _ (T74.setTop (mkF m 150 #[.val (.int p0), .val (.int p1), .val (.int p2), .val (.int p3), .val (.int p4), .val (.int p5), .val (.int (1 : Int32)), .val (.int (4 : Int32)), .val (.ref b63), .val (.int (p5.toInt8.toInt32)), .val (.int (fCE (nar .byte (p0.toInt8.toInt32)) (nar .byte (p1.toInt8.toInt32)) (nar .byte (p2.toInt8.toInt32)) (nar .byte (p3.toInt8.toInt32)) (1 : Int32) (5 : Int32)))] [(.int (4 : Int32)), (.int (p3 &&& (255 : Int32))), (.int (p2 &&& (255 : Int32))), (.int (p1 &&& (255 : Int32))), (.int (p0 &&& (255 : Int32))), (.int (fCE (nar .byte (p0.toInt8.toInt32)) (nar .byte (p1.toInt8.toInt32)) (nar .byte (p2.toInt8.toInt32)) (nar .byte (p3.toInt8.toInt32)) (1 : Int32) (5 : Int32)))]))
      refine Go.st (fun _ k => XS.iload X74.here hx rfl (hb hby at_150) rfl k) ?_
      show Go p e below _ (T74.setTop (mkF m 152 #[.val (.int p0), .val (.int p1), .val (.int p2), .val (.int p3), .val (.int p4), .val (.int p5), .val (.int (1 : Int32)), .val (.int (4 : Int32)), .val (.ref b63), .val (.int (p5.toInt8.toInt32)), .val (.int (fCE (nar .byte (p0.toInt8.toInt32)) (nar .byte (p1.toInt8.toInt32)) (nar .byte (p2.toInt8.toInt32)) (nar .byte (p3.toInt8.toInt32)) (1 : Int32) (5 : Int32)))] [(.int (1 : Int32)), (.int (4 : Int32)), (.int (p3 &&& (255 : Int32))), (.int (p2 &&& (255 : Int32))), (.int (p1 &&& (255 : Int32))), (.int (p0 &&& (255 : Int32))), (.int (fCE (nar .byte (p0.toInt8.toInt32)) (nar .byte (p1.toInt8.toInt32)) (nar .byte (p2.toInt8.toInt32)) (nar .byte (p3.toInt8.toInt32)) (1 : Int32) (5 : Int32)))]))
      obtain ⟨_, _, ⟨T75, L75, k75, n75⟩, -, X75, ⟨Lc75, hQ75, l75, y75, z75⟩, st75⟩ := Jvm.LawKit.callS X74 hx (y := (⟨"com/example/apportis/apportis/Utf8CharacterEndPinLaw", "expected", "(IIIIII)I"⟩ : MethodName)) hown (mvT hZ (hw _ (List.mem_of_getElem? (i := 5) rfl))) (mvT hZ (hw _ (List.mem_of_getElem? (i := 6) rfl))) (mvT hZ (hw _ (List.mem_of_getElem? (i := 7) rfl))) (mvT hZ (hw _ (List.mem_of_getElem? (i := 8) rfl))) (by decide) (backOf (W := 1) (rm2 l Z aZ hw [] (p0 &&& (255 : Int32)) (p1 &&& (255 : Int32)) (p2 &&& (255 : Int32)) (p3 &&& (255 : Int32)) (4 : Int32) (1 : Int32) h73 n0 ) hZ (hw _ (List.mem_of_getElem? (i := 8) rfl)) (hw _ (List.mem_of_getElem? (i := 7) rfl)) (by decide) (by decide)) (g := (mkF m 152 #[.val (.int p0), .val (.int p1), .val (.int p2), .val (.int p3), .val (.int p4), .val (.int p5), .val (.int (1 : Int32)), .val (.int (4 : Int32)), .val (.ref b63), .val (.int (p5.toInt8.toInt32)), .val (.int (fCE (nar .byte (p0.toInt8.toInt32)) (nar .byte (p1.toInt8.toInt32)) (nar .byte (p2.toInt8.toInt32)) (nar .byte (p3.toInt8.toInt32)) (1 : Int32) (5 : Int32)))] [(.int (1 : Int32)), (.int (4 : Int32)), (.int (p3 &&& (255 : Int32))), (.int (p2 &&& (255 : Int32))), (.int (p1 &&& (255 : Int32))), (.int (p0 &&& (255 : Int32))), (.int (fCE (nar .byte (p0.toInt8.toInt32)) (nar .byte (p1.toInt8.toInt32)) (nar .byte (p2.toInt8.toInt32)) (nar .byte (p3.toInt8.toInt32)) (1 : Int32) (5 : Int32)))])) rfl (by rw [hml]; rfl) (argsL := [(.int (p0 &&& (255 : Int32))), (.int (p1 &&& (255 : Int32))), (.int (p2 &&& (255 : Int32))), (.int (p3 &&& (255 : Int32))), (.int (4 : Int32)), (.int (1 : Int32))]) (rest := [(.int (fCE (nar .byte (p0.toInt8.toInt32)) (nar .byte (p1.toInt8.toInt32)) (nar .byte (p2.toInt8.toInt32)) (nar .byte (p3.toInt8.toInt32)) (1 : Int32) (5 : Int32)))]) (lenOf pd41a2ea18 rfl) rfl (by show 2 * 0 + _ ≤ _; exact Nat.le_of_eq rfl) (hb hby at_152) (fun _ _ => ⟨rfl, e74, (by decide : 1 + 0 ≤ _), (by decide : 5 + 0 ≤ _)⟩)
      dsimp only [Pt.U, Pt.locs, Pt.cells, Pt.slots] at X75 l75 y75 z75 st75 hQ75
      subst l75 y75 z75
      obtain ⟨rfl, N75q, e75⟩ := hQ75
      have N75 := Fr.app N74 N75q
      refine Go.st (fun _ k => st75 _ k) ?_
      show Go p e below _ (T75.setTop (mkF m 155 #[.val (.int p0), .val (.int p1), .val (.int p2), .val (.int p3), .val (.int p4), .val (.int p5), .val (.int (1 : Int32)), .val (.int (4 : Int32)), .val (.ref b63), .val (.int (p5.toInt8.toInt32)), .val (.int (fCE (nar .byte (p0.toInt8.toInt32)) (nar .byte (p1.toInt8.toInt32)) (nar .byte (p2.toInt8.toInt32)) (nar .byte (p3.toInt8.toInt32)) (1 : Int32) (5 : Int32)))] [(.int (fExp (p0 &&& (255 : Int32)) (p1 &&& (255 : Int32)) (p2 &&& (255 : Int32)) (p3 &&& (255 : Int32)) (4 : Int32) (1 : Int32))), (.int (fCE (nar .byte (p0.toInt8.toInt32)) (nar .byte (p1.toInt8.toInt32)) (nar .byte (p2.toInt8.toInt32)) (nar .byte (p3.toInt8.toInt32)) (1 : Int32) (5 : Int32)))]))
      refine Go.st (fun _ k => XS.icmpNo X75.here hx rfl (hb hby at_155) rfl (teq (own_main p0 p1 p2 p3 (own_mask p0) (fun _ => own_mask p1) (fun _ => own_mask p2) (fun _ => own_mask p3) (by decide))).2 k) ?_
      show Go p e below _ (T75.setTop (mkF m 158 #[.val (.int p0), .val (.int p1), .val (.int p2), .val (.int p3), .val (.int p4), .val (.int p5), .val (.int (1 : Int32)), .val (.int (4 : Int32)), .val (.ref b63), .val (.int (p5.toInt8.toInt32)), .val (.int (fCE (nar .byte (p0.toInt8.toInt32)) (nar .byte (p1.toInt8.toInt32)) (nar .byte (p2.toInt8.toInt32)) (nar .byte (p3.toInt8.toInt32)) (1 : Int32) (5 : Int32)))] []))
      refine Go.st (fun _ k => XS.iconst X75.here hx rfl (hb hby at_158) k) ?_
      refine Go.st (fun _ k => XS.goto X75.here hx rfl (pc0 := 159) (pc' := 163) rfl (hb hby at_159) (by decide) (by decide) k) ?_
      show Go p e below _ (T75.setTop (mkF m 163 #[.val (.int p0), .val (.int p1), .val (.int p2), .val (.int p3), .val (.int p4), .val (.int p5), .val (.int (1 : Int32)), .val (.int (4 : Int32)), .val (.ref b63), .val (.int (p5.toInt8.toInt32)), .val (.int (fCE (nar .byte (p0.toInt8.toInt32)) (nar .byte (p1.toInt8.toInt32)) (nar .byte (p2.toInt8.toInt32)) (nar .byte (p3.toInt8.toInt32)) (1 : Int32) (5 : Int32)))] [(.int (1 : Int32))]))
      obtain ⟨fs, hr, hrun, hended, hW, hsame⟩ := X75.leave (v := some (.int (1 : Int32))) (fun h => by rw [Bd.returns] at h; cases h)
      refine ⟨_, _, retN X75 hx (t := .boolean) Bd.returns (by simp) (hb hby at_163) hr, hrun, hended, _, _, rfl, ?_, ⟨_, rfl⟩, hW, hsame.mono (by decide) (by decide)⟩
      show Q_rm0 Z p0 p1 p2 p3 p4 p5 h0 n0 _ T75.heap _
      rw [e75]
      exact ⟨rfl, N75⟩
  · rw [hr1]
    show Go p e below _ (s₁.setTop (mkF m 4 #[.val (.int p0), .val (.int p1), .val (.int p2), .val (.int p3), .val (.int p4), .val (.int p5), .unset, .unset, .unset, .unset, .unset] [(.int (2 : Int32))]))
    refine Go.st (fun _ k => XS.istore X0.here hx rfl (hb hby at_4) rfl (l' := #[.val (.int p0), .val (.int p1), .val (.int p2), .val (.int p3), .val (.int p4), .val (.int p5), .val (.int (2 : Int32)), .unset, .unset, .unset, .unset]) rfl k) ?_
    show Go p e below _ (s₁.setTop (mkF m 6 #[.val (.int p0), .val (.int p1), .val (.int p2), .val (.int p3), .val (.int p4), .val (.int p5), .val (.int (2 : Int32)), .unset, .unset, .unset, .unset] []))
    refine Go.st (fun _ k => XS.iconst X0.here hx rfl (hb hby at_6) k) ?_
    refine Go.st (fun _ k => XS.iload X0.here hx rfl (hb hby at_7) rfl k) ?_
    show Go p e below _ (s₁.setTop (mkF m 9 #[.val (.int p0), .val (.int p1), .val (.int p2), .val (.int p3), .val (.int p4), .val (.int p5), .val (.int (2 : Int32)), .unset, .unset, .unset, .unset] [(.int p4), (.int (1 : Int32))]))
    refine Go.st (fun _ k => XS.iconst X0.here hx rfl (hb hby at_9) k) ?_
    refine Go.st (fun _ k => XS.iushr X0.here hx rfl (hb hby at_10) rfl k) ?_
    show Go p e below _ (s₁.setTop (mkF m 11 #[.val (.int p0), .val (.int p1), .val (.int p2), .val (.int p3), .val (.int p4), .val (.int p5), .val (.int (2 : Int32)), .unset, .unset, .unset, .unset] [(.int ((p4.toUInt32 >>> ((2 : Int32) &&& 31).toUInt32).toInt32)), (.int (1 : Int32))]))
    refine Go.st (fun _ k => XS.iconst X0.here hx rfl (hb hby at_11) k) ?_
    refine Go.st (fun _ k => XS.iand X0.here hx rfl (hb hby at_12) rfl k) ?_
    show Go p e below _ (s₁.setTop (mkF m 13 #[.val (.int p0), .val (.int p1), .val (.int p2), .val (.int p3), .val (.int p4), .val (.int p5), .val (.int (2 : Int32)), .unset, .unset, .unset, .unset] [(.int (((p4.toUInt32 >>> ((2 : Int32) &&& 31).toUInt32).toInt32) &&& (3 : Int32))), (.int (1 : Int32))]))
    rcases own_and3 _ with hr76 | hr76 | hr76 | hr76
    · rw [hr76]
      show Go p e below _ (s₁.setTop (mkF m 13 #[.val (.int p0), .val (.int p1), .val (.int p2), .val (.int p3), .val (.int p4), .val (.int p5), .val (.int (2 : Int32)), .unset, .unset, .unset, .unset] [(.int (0 : Int32)), (.int (1 : Int32))]))
      refine Go.st (fun _ k => XS.iadd X0.here hx rfl (hb hby at_13) rfl k) ?_
      refine Go.st (fun _ k => XS.istore X0.here hx rfl (hb hby at_14) rfl (l' := #[.val (.int p0), .val (.int p1), .val (.int p2), .val (.int p3), .val (.int p4), .val (.int p5), .val (.int (2 : Int32)), .val (.int (1 : Int32)), .unset, .unset, .unset]) rfl k) ?_
      show Go p e below _ (s₁.setTop (mkF m 16 #[.val (.int p0), .val (.int p1), .val (.int p2), .val (.int p3), .val (.int p4), .val (.int p5), .val (.int (2 : Int32)), .val (.int (1 : Int32)), .unset, .unset, .unset] []))
      refine Go.st (fun _ k => XS.iload X0.here hx rfl (hb hby at_16) rfl k) ?_
      refine Go.st (fun _ k => XS.iload X0.here hx rfl (hb hby at_18) rfl k) ?_
      show Go p e below _ (s₁.setTop (mkF m 20 #[.val (.int p0), .val (.int p1), .val (.int p2), .val (.int p3), .val (.int p4), .val (.int p5), .val (.int (2 : Int32)), .val (.int (1 : Int32)), .unset, .unset, .unset] [(.int (1 : Int32)), (.int (2 : Int32))]))
      refine Go.st (fun _ k => XS.iadd X0.here hx rfl (hb hby at_20) rfl k) ?_
      show Go p e below _ (s₁.setTop (mkF m 21 #[.val (.int p0), .val (.int p1), .val (.int p2), .val (.int p3), .val (.int p4), .val (.int p5), .val (.int (2 : Int32)), .val (.int (1 : Int32)), .unset, .unset, .unset] [(.int (3 : Int32))]))
      obtain ⟨T77, h77, k77, X77, e77, E77, A77, st77⟩ := newP X0 hx hZ (hw _ (List.mem_of_getElem? (i := 0) rfl)) e0 (g := (mkF m 21 #[.val (.int p0), .val (.int p1), .val (.int p2), .val (.int p3), .val (.int p4), .val (.int p5), .val (.int (2 : Int32)), .val (.int (1 : Int32)), .unset, .unset, .unset] [(.int (3 : Int32))])) rfl (hb hby at_21) rfl (by decide) (cap := 3) (by decide) (by decide) (by decide) (by decide)
      obtain ⟨b77, g77⟩ : ∃ z, z = h0.size := ⟨_, rfl⟩
      have gg77 : n0 ≤ b77 := Nat.le_trans Z0 (Nat.le_of_eq g77.symm)
      rw [← g77] at A77 st77
      have Z77 : n0 ≤ h77.size := Nat.le_trans Z0 E77.1
      have V77 : Arv Z h77 b77 k77 .byte (3 : Int32) [(.int (0 : Int32)), (.int (0 : Int32)), (.int (0 : Int32))] (.int (0 : Int32)) := (Arv.new A77 (by decide)).pad (pad_rep [] (.int (0 : Int32)) 3)
      refine Go.st (fun _ k => st77 _ k) ?_
      show Go p e below _ (T77.setTop (mkF m 23 #[.val (.int p0), .val (.int p1), .val (.int p2), .val (.int p3), .val (.int p4), .val (.int p5), .val (.int (2 : Int32)), .val (.int (1 : Int32)), .unset, .unset, .unset] [(.ref b77)]))
      refine Go.st (fun _ k => XS.astore X77.here hx rfl (hb hby at_23) rfl rfl (l' := #[.val (.int p0), .val (.int p1), .val (.int p2), .val (.int p3), .val (.int p4), .val (.int p5), .val (.int (2 : Int32)), .val (.int (1 : Int32)), .val (.ref b77), .unset, .unset]) rfl k) ?_
      show Go p e below _ (T77.setTop (mkF m 25 #[.val (.int p0), .val (.int p1), .val (.int p2), .val (.int p3), .val (.int p4), .val (.int p5), .val (.int (2 : Int32)), .val (.int (1 : Int32)), .val (.ref b77), .unset, .unset] []))
      refine Go.st (fun _ k => XS.iload X77.here hx rfl (hb hby at_25) rfl k) ?_
      refine Go.st (fun _ k => XS.i2b X77.here hx rfl (hb hby at_27) rfl k) ?_
      show Go p e below _ (T77.setTop (mkF m 28 #[.val (.int p0), .val (.int p1), .val (.int p2), .val (.int p3), .val (.int p4), .val (.int p5), .val (.int (2 : Int32)), .val (.int (1 : Int32)), .val (.ref b77), .unset, .unset] [(.int (p5.toInt8.toInt32))]))
      refine Go.st (fun _ k => XS.istore X77.here hx rfl (hb hby at_28) rfl (l' := #[.val (.int p0), .val (.int p1), .val (.int p2), .val (.int p3), .val (.int p4), .val (.int p5), .val (.int (2 : Int32)), .val (.int (1 : Int32)), .val (.ref b77), .val (.int (p5.toInt8.toInt32)), .unset]) rfl k) ?_
      show Go p e below _ (T77.setTop (mkF m 30 #[.val (.int p0), .val (.int p1), .val (.int p2), .val (.int p3), .val (.int p4), .val (.int p5), .val (.int (2 : Int32)), .val (.int (1 : Int32)), .val (.ref b77), .val (.int (p5.toInt8.toInt32)), .unset] []))
      refine Go.st (fun _ k => XS.iload X77.here hx rfl (hb hby at_30) rfl k) ?_
      refine Go.st (fun _ k => XS.ifNo X77.here hx rfl (hb hby at_32) rfl ((if0 _ _).trans (tlt (by decide : ((0 : Int32) < (2 : Int32)))).2.2.2) k) ?_
      show Go p e below _ (T77.setTop (mkF m 35 #[.val (.int p0), .val (.int p1), .val (.int p2), .val (.int p3), .val (.int p4), .val (.int p5), .val (.int (2 : Int32)), .val (.int (1 : Int32)), .val (.ref b77), .val (.int (p5.toInt8.toInt32)), .unset] []))
      refine Go.st (fun _ k => XS.aload X77.here hx rfl (hb hby at_35) rfl rfl k) ?_
      refine Go.st (fun _ k => XS.iconst X77.here hx rfl (hb hby at_37) k) ?_
      show Go p e below _ (T77.setTop (mkF m 38 #[.val (.int p0), .val (.int p1), .val (.int p2), .val (.int p3), .val (.int p4), .val (.int p5), .val (.int (2 : Int32)), .val (.int (1 : Int32)), .val (.ref b77), .val (.int (p5.toInt8.toInt32)), .unset] [(.int (0 : Int32)), (.ref b77)]))
      refine Go.st (fun _ k => XS.iload X77.here hx rfl (hb hby at_38) rfl k) ?_
      show Go p e below _ (T77.setTop (mkF m 40 #[.val (.int p0), .val (.int p1), .val (.int p2), .val (.int p3), .val (.int p4), .val (.int p5), .val (.int (2 : Int32)), .val (.int (1 : Int32)), .val (.ref b77), .val (.int (p5.toInt8.toInt32)), .unset] [(.int (p5.toInt8.toInt32)), (.int (0 : Int32)), (.ref b77)]))
      obtain ⟨cl78, Ar78, ck78, Sz78, Nn78, Hs78, Gs78⟩ := id V77
      have hin78 : ¬ ((0 : Int32) < 0 ∨ cl78.slots.size ≤ ((0 : Int32)).toNatClampNeg) := inb_of Sz78 ⟨by decide, by decide⟩
      obtain ⟨T79, h79, X79, e79, W79, st79⟩ := stB X77 hx hZ e77 Ar78 (j := (0 : Int32)) hin78 (g := (mkF m 40 #[.val (.int p0), .val (.int p1), .val (.int p2), .val (.int p3), .val (.int p4), .val (.int p5), .val (.int (2 : Int32)), .val (.int (1 : Int32)), .val (.ref b77), .val (.int (p5.toInt8.toInt32)), .unset] [(.int (p5.toInt8.toInt32)), (.int (0 : Int32)), (.ref b77)])) rfl rfl (hb hby at_40)
      have V79 : Arv Z h79 b77 k77 .byte (3 : Int32) [(.int (nar .byte (p5.toInt8.toInt32))), (.int (0 : Int32)), (.int (0 : Int32))] (.int (0 : Int32)) := Arv.set Ar78 ck78 Sz78 Nn78 Hs78 Gs78 (fits_nar_byte _) W79 0 rfl (Nat.le_of_ble_eq_true rfl)
      have N79 := Fr.snoc X79 N0 gg77
      have Z79 : n0 ≤ h79.size := by rw [W79.size]; exact Z77
      refine Go.st (fun _ k => st79 _ k) ?_
      show Go p e below _ (T79.setTop (mkF m 41 #[.val (.int p0), .val (.int p1), .val (.int p2), .val (.int p3), .val (.int p4), .val (.int p5), .val (.int (2 : Int32)), .val (.int (1 : Int32)), .val (.ref b77), .val (.int (p5.toInt8.toInt32)), .unset] []))
      refine Go.st (fun _ k => XS.iload X79.here hx rfl (hb hby at_41) rfl k) ?_
      refine Go.st (fun _ k => XS.iconst X79.here hx rfl (hb hby at_43) k) ?_
      show Go p e below _ (T79.setTop (mkF m 44 #[.val (.int p0), .val (.int p1), .val (.int p2), .val (.int p3), .val (.int p4), .val (.int p5), .val (.int (2 : Int32)), .val (.int (1 : Int32)), .val (.ref b77), .val (.int (p5.toInt8.toInt32)), .unset] [(.int (1 : Int32)), (.int (2 : Int32))]))
      refine Go.st (fun _ k => XS.icmpNo X79.here hx rfl (hb hby at_44) rfl (tlt (by decide : ((1 : Int32) < (2 : Int32)))).2.2.2 k) ?_
      show Go p e below _ (T79.setTop (mkF m 47 #[.val (.int p0), .val (.int p1), .val (.int p2), .val (.int p3), .val (.int p4), .val (.int p5), .val (.int (2 : Int32)), .val (.int (1 : Int32)), .val (.ref b77), .val (.int (p5.toInt8.toInt32)), .unset] []))
      refine Go.st (fun _ k => XS.aload X79.here hx rfl (hb hby at_47) rfl rfl k) ?_
      refine Go.st (fun _ k => XS.iconst X79.here hx rfl (hb hby at_49) k) ?_
      show Go p e below _ (T79.setTop (mkF m 50 #[.val (.int p0), .val (.int p1), .val (.int p2), .val (.int p3), .val (.int p4), .val (.int p5), .val (.int (2 : Int32)), .val (.int (1 : Int32)), .val (.ref b77), .val (.int (p5.toInt8.toInt32)), .unset] [(.int (1 : Int32)), (.ref b77)]))
      refine Go.st (fun _ k => XS.iload X79.here hx rfl (hb hby at_50) rfl k) ?_
      show Go p e below _ (T79.setTop (mkF m 52 #[.val (.int p0), .val (.int p1), .val (.int p2), .val (.int p3), .val (.int p4), .val (.int p5), .val (.int (2 : Int32)), .val (.int (1 : Int32)), .val (.ref b77), .val (.int (p5.toInt8.toInt32)), .unset] [(.int (p5.toInt8.toInt32)), (.int (1 : Int32)), (.ref b77)]))
      obtain ⟨cl80, Ar80, ck80, Sz80, Nn80, Hs80, Gs80⟩ := id V79
      have hin80 : ¬ ((1 : Int32) < 0 ∨ cl80.slots.size ≤ ((1 : Int32)).toNatClampNeg) := inb_of Sz80 ⟨by decide, by decide⟩
      obtain ⟨T81, h81, X81, e81, W81, st81⟩ := stB X79 hx hZ e79 Ar80 (j := (1 : Int32)) hin80 (g := (mkF m 52 #[.val (.int p0), .val (.int p1), .val (.int p2), .val (.int p3), .val (.int p4), .val (.int p5), .val (.int (2 : Int32)), .val (.int (1 : Int32)), .val (.ref b77), .val (.int (p5.toInt8.toInt32)), .unset] [(.int (p5.toInt8.toInt32)), (.int (1 : Int32)), (.ref b77)])) rfl rfl (hb hby at_52)
      have V81 : Arv Z h81 b77 k77 .byte (3 : Int32) [(.int (nar .byte (p5.toInt8.toInt32))), (.int (nar .byte (p5.toInt8.toInt32))), (.int (0 : Int32))] (.int (0 : Int32)) := Arv.set Ar80 ck80 Sz80 Nn80 Hs80 Gs80 (fits_nar_byte _) W81 1 rfl (Nat.le_of_ble_eq_true rfl)
      have N81 := Fr.snoc X81 N79 gg77
      have Z81 : n0 ≤ h81.size := by rw [W81.size]; exact Z79
      refine Go.st (fun _ k => st81 _ k) ?_
      show Go p e below _ (T81.setTop (mkF m 53 #[.val (.int p0), .val (.int p1), .val (.int p2), .val (.int p3), .val (.int p4), .val (.int p5), .val (.int (2 : Int32)), .val (.int (1 : Int32)), .val (.ref b77), .val (.int (p5.toInt8.toInt32)), .unset] []))
      refine Go.st (fun _ k => XS.iload X81.here hx rfl (hb hby at_53) rfl k) ?_
      refine Go.st (fun _ k => XS.iconst X81.here hx rfl (hb hby at_55) k) ?_
      show Go p e below _ (T81.setTop (mkF m 56 #[.val (.int p0), .val (.int p1), .val (.int p2), .val (.int p3), .val (.int p4), .val (.int p5), .val (.int (2 : Int32)), .val (.int (1 : Int32)), .val (.ref b77), .val (.int (p5.toInt8.toInt32)), .unset] [(.int (2 : Int32)), (.int (2 : Int32))]))
      refine Go.st (fun _ k => XS.icmpYes X81.here hx rfl (pc0 := 56) (pc' := 65) rfl (hb hby at_56) rfl (flt (by decide : ¬ ((2 : Int32) < (2 : Int32)))).2.2.2 (by decide) (by decide) k) ?_
      show Go p e below _ (T81.setTop (mkF m 65 #[.val (.int p0), .val (.int p1), .val (.int p2), .val (.int p3), .val (.int p4), .val (.int p5), .val (.int (2 : Int32)), .val (.int (1 : Int32)), .val (.ref b77), .val (.int (p5.toInt8.toInt32)), .unset] []))
      refine Go.st (fun _ k => XS.aload X81.here hx rfl (hb hby at_65) rfl rfl k) ?_
      refine Go.st (fun _ k => XS.iload X81.here hx rfl (hb hby at_67) rfl k) ?_
      show Go p e below _ (T81.setTop (mkF m 69 #[.val (.int p0), .val (.int p1), .val (.int p2), .val (.int p3), .val (.int p4), .val (.int p5), .val (.int (2 : Int32)), .val (.int (1 : Int32)), .val (.ref b77), .val (.int (p5.toInt8.toInt32)), .unset] [(.int (2 : Int32)), (.ref b77)]))
      refine Go.st (fun _ k => XS.iloadN X81.here hx rfl (hb hby at_69) rfl k) ?_
      refine Go.st (fun _ k => XS.i2b X81.here hx rfl (hb hby at_70) rfl k) ?_
      show Go p e below _ (T81.setTop (mkF m 71 #[.val (.int p0), .val (.int p1), .val (.int p2), .val (.int p3), .val (.int p4), .val (.int p5), .val (.int (2 : Int32)), .val (.int (1 : Int32)), .val (.ref b77), .val (.int (p5.toInt8.toInt32)), .unset] [(.int (p0.toInt8.toInt32)), (.int (2 : Int32)), (.ref b77)]))
      obtain ⟨cl82, Ar82, ck82, Sz82, Nn82, Hs82, Gs82⟩ := id V81
      have hin82 : ¬ ((2 : Int32) < 0 ∨ cl82.slots.size ≤ ((2 : Int32)).toNatClampNeg) := inb_of Sz82 ⟨by decide, by decide⟩
      obtain ⟨T83, h83, X83, e83, W83, st83⟩ := stB X81 hx hZ e81 Ar82 (j := (2 : Int32)) hin82 (g := (mkF m 71 #[.val (.int p0), .val (.int p1), .val (.int p2), .val (.int p3), .val (.int p4), .val (.int p5), .val (.int (2 : Int32)), .val (.int (1 : Int32)), .val (.ref b77), .val (.int (p5.toInt8.toInt32)), .unset] [(.int (p0.toInt8.toInt32)), (.int (2 : Int32)), (.ref b77)])) rfl rfl (hb hby at_71)
      have V83 : Arv Z h83 b77 k77 .byte (3 : Int32) [(.int (nar .byte (p5.toInt8.toInt32))), (.int (nar .byte (p5.toInt8.toInt32))), (.int (nar .byte (p0.toInt8.toInt32)))] (.int (0 : Int32)) := Arv.set Ar82 ck82 Sz82 Nn82 Hs82 Gs82 (fits_nar_byte _) W83 2 rfl (Nat.le_of_ble_eq_true rfl)
      have N83 := Fr.snoc X83 N81 gg77
      have Z83 : n0 ≤ h83.size := by rw [W83.size]; exact Z81
      refine Go.st (fun _ k => st83 _ k) ?_
      show Go p e below _ (T83.setTop (mkF m 72 #[.val (.int p0), .val (.int p1), .val (.int p2), .val (.int p3), .val (.int p4), .val (.int p5), .val (.int (2 : Int32)), .val (.int (1 : Int32)), .val (.ref b77), .val (.int (p5.toInt8.toInt32)), .unset] []))
      refine Go.st (fun _ k => XS.iload X83.here hx rfl (hb hby at_72) rfl k) ?_
      refine Go.st (fun _ k => XS.iconst X83.here hx rfl (hb hby at_74) k) ?_
      show Go p e below _ (T83.setTop (mkF m 75 #[.val (.int p0), .val (.int p1), .val (.int p2), .val (.int p3), .val (.int p4), .val (.int p5), .val (.int (2 : Int32)), .val (.int (1 : Int32)), .val (.ref b77), .val (.int (p5.toInt8.toInt32)), .unset] [(.int (1 : Int32)), (.int (1 : Int32))]))
      refine Go.st (fun _ k => XS.icmpYes X83.here hx rfl (pc0 := 75) (pc' := 87) rfl (hb hby at_75) rfl (flt (by decide : ¬ ((1 : Int32) < (1 : Int32)))).2.2.2 (by decide) (by decide) k) ?_
      show Go p e below _ (T83.setTop (mkF m 87 #[.val (.int p0), .val (.int p1), .val (.int p2), .val (.int p3), .val (.int p4), .val (.int p5), .val (.int (2 : Int32)), .val (.int (1 : Int32)), .val (.ref b77), .val (.int (p5.toInt8.toInt32)), .unset] []))
      refine Go.st (fun _ k => XS.iload X83.here hx rfl (hb hby at_87) rfl k) ?_
      refine Go.st (fun _ k => XS.iconst X83.here hx rfl (hb hby at_89) k) ?_
      show Go p e below _ (T83.setTop (mkF m 90 #[.val (.int p0), .val (.int p1), .val (.int p2), .val (.int p3), .val (.int p4), .val (.int p5), .val (.int (2 : Int32)), .val (.int (1 : Int32)), .val (.ref b77), .val (.int (p5.toInt8.toInt32)), .unset] [(.int (2 : Int32)), (.int (1 : Int32))]))
      refine Go.st (fun _ k => XS.icmpYes X83.here hx rfl (pc0 := 90) (pc' := 102) rfl (hb hby at_90) rfl (flt (by decide : ¬ ((2 : Int32) < (1 : Int32)))).2.2.2 (by decide) (by decide) k) ?_
      show Go p e below _ (T83.setTop (mkF m 102 #[.val (.int p0), .val (.int p1), .val (.int p2), .val (.int p3), .val (.int p4), .val (.int p5), .val (.int (2 : Int32)), .val (.int (1 : Int32)), .val (.ref b77), .val (.int (p5.toInt8.toInt32)), .unset] []))
      refine Go.st (fun _ k => XS.iload X83.here hx rfl (hb hby at_102) rfl k) ?_
      refine Go.st (fun _ k => XS.iconst X83.here hx rfl (hb hby at_104) k) ?_
      show Go p e below _ (T83.setTop (mkF m 105 #[.val (.int p0), .val (.int p1), .val (.int p2), .val (.int p3), .val (.int p4), .val (.int p5), .val (.int (2 : Int32)), .val (.int (1 : Int32)), .val (.ref b77), .val (.int (p5.toInt8.toInt32)), .unset] [(.int (3 : Int32)), (.int (1 : Int32))]))
      refine Go.st (fun _ k => XS.icmpYes X83.here hx rfl (pc0 := 105) (pc' := 117) rfl (hb hby at_105) rfl (flt (by decide : ¬ ((3 : Int32) < (1 : Int32)))).2.2.2 (by decide) (by decide) k) ?_
      show Go p e below _ (T83.setTop (mkF m 117 #[.val (.int p0), .val (.int p1), .val (.int p2), .val (.int p3), .val (.int p4), .val (.int p5), .val (.int (2 : Int32)), .val (.int (1 : Int32)), .val (.ref b77), .val (.int (p5.toInt8.toInt32)), .unset] []))
      refine Go.st (fun _ k => XS.aload X83.here hx rfl (hb hby at_117) rfl rfl k) ?_
      refine Go.st (fun _ k => XS.iload X83.here hx rfl (hb hby at_119) rfl k) ?_
      show Go p e below _ (T83.setTop (mkF m 121 #[.val (.int p0), .val (.int p1), .val (.int p2), .val (.int p3), .val (.int p4), .val (.int p5), .val (.int (2 : Int32)), .val (.int (1 : Int32)), .val (.ref b77), .val (.int (p5.toInt8.toInt32)), .unset] [(.int (2 : Int32)), (.ref b77)]))
      obtain ⟨_, _, ⟨T84, L84, k84, n84⟩, -, X84, ⟨Lc84, hQ84, l84, y84, z84⟩, st84⟩ := Jvm.LawKit.callS X83 hx (y := (⟨"com/example/apportis/apportis/Utf8", "characterEnd", "([BI)I"⟩ : MethodName)) hown (mvT hZ (hw _ (List.mem_of_getElem? (i := 1) rfl))) (mvT hZ (hw _ (List.mem_of_getElem? (i := 2) rfl))) (mvT hZ (hw _ (List.mem_of_getElem? (i := 3) rfl))) (mvT hZ (hw _ (List.mem_of_getElem? (i := 4) rfl))) (by decide) (backOf (W := 0) (rmCE l Z aZ hw [] (nar .byte (p0.toInt8.toInt32)) (0 : Int32) (0 : Int32) (0 : Int32) b77 (2 : Int32) k77 (3 : Int32) [(.int (nar .byte (p5.toInt8.toInt32))), (.int (nar .byte (p5.toInt8.toInt32))), (.int (nar .byte (p0.toInt8.toInt32)))] h83 n0 (by decide) (by decide) (by decide) rfl (fun h => absurd h (by decide)) (fun h => absurd h (by decide)) (fun h => absurd h (by decide)) V83) hZ (hw _ (List.mem_of_getElem? (i := 4) rfl)) (hw _ (List.mem_of_getElem? (i := 3) rfl)) (by decide) (by decide)) (g := (mkF m 121 #[.val (.int p0), .val (.int p1), .val (.int p2), .val (.int p3), .val (.int p4), .val (.int p5), .val (.int (2 : Int32)), .val (.int (1 : Int32)), .val (.ref b77), .val (.int (p5.toInt8.toInt32)), .unset] [(.int (2 : Int32)), (.ref b77)])) rfl (by rw [hml]; rfl) (argsL := [(.ref b77), (.int (2 : Int32))]) (rest := []) (lenOf pd92f6cd8e rfl) rfl (by show 2 * 0 + _ ≤ _; exact Nat.le_of_eq rfl) (hb hby at_121) (fun _ _ => ⟨rfl, e83, (by decide : 1 + 0 ≤ _), (by decide : 3 + 0 ≤ _)⟩)
      dsimp only [Pt.U, Pt.locs, Pt.cells, Pt.slots] at X84 l84 y84 z84 st84 hQ84
      subst l84 y84 z84
      obtain ⟨rfl, N84q, e84⟩ := hQ84
      have N84 := Fr.app N83 N84q
      refine Go.st (fun _ k => st84 _ k) ?_
      show Go p e below _ (T84.setTop (mkF m 124 #[.val (.int p0), .val (.int p1), .val (.int p2), .val (.int p3), .val (.int p4), .val (.int p5), .val (.int (2 : Int32)), .val (.int (1 : Int32)), .val (.ref b77), .val (.int (p5.toInt8.toInt32)), .unset] [(.int (fCE (nar .byte (p0.toInt8.toInt32)) (0 : Int32) (0 : Int32) (0 : Int32) (2 : Int32) (3 : Int32)))]))
      refine Go.st (fun _ k => XS.istore X84.here hx rfl (hb hby at_124) rfl (l' := #[.val (.int p0), .val (.int p1), .val (.int p2), .val (.int p3), .val (.int p4), .val (.int p5), .val (.int (2 : Int32)), .val (.int (1 : Int32)), .val (.ref b77), .val (.int (p5.toInt8.toInt32)), .val (.int (fCE (nar .byte (p0.toInt8.toInt32)) (0 : Int32) (0 : Int32) (0 : Int32) (2 : Int32) (3 : Int32)))]) rfl k) ?_
      show Go p e below _ (T84.setTop (mkF m 126 #[.val (.int p0), .val (.int p1), .val (.int p2), .val (.int p3), .val (.int p4), .val (.int p5), .val (.int (2 : Int32)), .val (.int (1 : Int32)), .val (.ref b77), .val (.int (p5.toInt8.toInt32)), .val (.int (fCE (nar .byte (p0.toInt8.toInt32)) (0 : Int32) (0 : Int32) (0 : Int32) (2 : Int32) (3 : Int32)))] []))
      refine Go.st (fun _ k => XS.iload X84.here hx rfl (hb hby at_126) rfl k) ?_
      refine Go.st (fun _ k => XS.iloadN X84.here hx rfl (hb hby at_128) rfl k) ?_
      show Go p e below _ (T84.setTop (mkF m 129 #[.val (.int p0), .val (.int p1), .val (.int p2), .val (.int p3), .val (.int p4), .val (.int p5), .val (.int (2 : Int32)), .val (.int (1 : Int32)), .val (.ref b77), .val (.int (p5.toInt8.toInt32)), .val (.int (fCE (nar .byte (p0.toInt8.toInt32)) (0 : Int32) (0 : Int32) (0 : Int32) (2 : Int32) (3 : Int32)))] [(.int p0), (.int (fCE (nar .byte (p0.toInt8.toInt32)) (0 : Int32) (0 : Int32) (0 : Int32) (2 : Int32) (3 : Int32)))]))
      refine Go.st (fun _ k => XS.sipush X84.here hx rfl (hb hby at_129) k) ?_
      refine Go.st (fun _ k => XS.iand X84.here hx rfl (hb hby at_132) rfl k) ?_
      show Go p e below _ (T84.setTop (mkF m 133 #[.val (.int p0), .val (.int p1), .val (.int p2), .val (.int p3), .val (.int p4), .val (.int p5), .val (.int (2 : Int32)), .val (.int (1 : Int32)), .val (.ref b77), .val (.int (p5.toInt8.toInt32)), .val (.int (fCE (nar .byte (p0.toInt8.toInt32)) (0 : Int32) (0 : Int32) (0 : Int32) (2 : Int32) (3 : Int32)))] [(.int (p0 &&& (255 : Int32))), (.int (fCE (nar .byte (p0.toInt8.toInt32)) (0 : Int32) (0 : Int32) (0 : Int32) (2 : Int32) (3 : Int32)))]))
      refine Go.st (fun _ k => XS.iloadN X84.here hx rfl (hb hby at_133) rfl k) ?_
      refine Go.st (fun _ k => XS.sipush X84.here hx rfl (hb hby at_134) k) ?_
      show Go p e below _ (T84.setTop (mkF m 137 #[.val (.int p0), .val (.int p1), .val (.int p2), .val (.int p3), .val (.int p4), .val (.int p5), .val (.int (2 : Int32)), .val (.int (1 : Int32)), .val (.ref b77), .val (.int (p5.toInt8.toInt32)), .val (.int (fCE (nar .byte (p0.toInt8.toInt32)) (0 : Int32) (0 : Int32) (0 : Int32) (2 : Int32) (3 : Int32)))] [(.int (255 : Int32)), (.int p1), (.int (p0 &&& (255 : Int32))), (.int (fCE (nar .byte (p0.toInt8.toInt32)) (0 : Int32) (0 : Int32) (0 : Int32) (2 : Int32) (3 : Int32)))]))
      refine Go.st (fun _ k => XS.iand X84.here hx rfl (hb hby at_137) rfl k) ?_
      refine Go.st (fun _ k => XS.iloadN X84.here hx rfl (hb hby at_138) rfl k) ?_
      show Go p e below _ (T84.setTop (mkF m 139 #[.val (.int p0), .val (.int p1), .val (.int p2), .val (.int p3), .val (.int p4), .val (.int p5), .val (.int (2 : Int32)), .val (.int (1 : Int32)), .val (.ref b77), .val (.int (p5.toInt8.toInt32)), .val (.int (fCE (nar .byte (p0.toInt8.toInt32)) (0 : Int32) (0 : Int32) (0 : Int32) (2 : Int32) (3 : Int32)))] [(.int p2), (.int (p1 &&& (255 : Int32))), (.int (p0 &&& (255 : Int32))), (.int (fCE (nar .byte (p0.toInt8.toInt32)) (0 : Int32) (0 : Int32) (0 : Int32) (2 : Int32) (3 : Int32)))]))
      refine Go.st (fun _ k => XS.sipush X84.here hx rfl (hb hby at_139) k) ?_
      refine Go.st (fun _ k => XS.iand X84.here hx rfl (hb hby at_142) rfl k) ?_
      show Go p e below _ (T84.setTop (mkF m 143 #[.val (.int p0), .val (.int p1), .val (.int p2), .val (.int p3), .val (.int p4), .val (.int p5), .val (.int (2 : Int32)), .val (.int (1 : Int32)), .val (.ref b77), .val (.int (p5.toInt8.toInt32)), .val (.int (fCE (nar .byte (p0.toInt8.toInt32)) (0 : Int32) (0 : Int32) (0 : Int32) (2 : Int32) (3 : Int32)))] [(.int (p2 &&& (255 : Int32))), (.int (p1 &&& (255 : Int32))), (.int (p0 &&& (255 : Int32))), (.int (fCE (nar .byte (p0.toInt8.toInt32)) (0 : Int32) (0 : Int32) (0 : Int32) (2 : Int32) (3 : Int32)))]))
      refine Go.st (fun _ k => XS.iloadN X84.here hx rfl (hb hby at_143) rfl k) ?_
      refine Go.st (fun _ k => XS.sipush X84.here hx rfl (hb hby at_144) k) ?_
      show Go p e below _ (T84.setTop (mkF m 147 #[.val (.int p0), .val (.int p1), .val (.int p2), .val (.int p3), .val (.int p4), .val (.int p5), .val (.int (2 : Int32)), .val (.int (1 : Int32)), .val (.ref b77), .val (.int (p5.toInt8.toInt32)), .val (.int (fCE (nar .byte (p0.toInt8.toInt32)) (0 : Int32) (0 : Int32) (0 : Int32) (2 : Int32) (3 : Int32)))] [(.int (255 : Int32)), (.int p3), (.int (p2 &&& (255 : Int32))), (.int (p1 &&& (255 : Int32))), (.int (p0 &&& (255 : Int32))), (.int (fCE (nar .byte (p0.toInt8.toInt32)) (0 : Int32) (0 : Int32) (0 : Int32) (2 : Int32) (3 : Int32)))]))
      refine Go.st (fun _ k => XS.iand X84.here hx rfl (hb hby at_147) rfl k) ?_
      refine Go.st (fun _ k => XS.iload X84.here hx rfl (hb hby at_148) rfl k) ?_
      show Go p e below _ (T84.setTop (mkF m 150 #[.val (.int p0), .val (.int p1), .val (.int p2), .val (.int p3), .val (.int p4), .val (.int p5), .val (.int (2 : Int32)), .val (.int (1 : Int32)), .val (.ref b77), .val (.int (p5.toInt8.toInt32)), .val (.int (fCE (nar .byte (p0.toInt8.toInt32)) (0 : Int32) (0 : Int32) (0 : Int32) (2 : Int32) (3 : Int32)))] [(.int (1 : Int32)), (.int (p3 &&& (255 : Int32))), (.int (p2 &&& (255 : Int32))), (.int (p1 &&& (255 : Int32))), (.int (p0 &&& (255 : Int32))), (.int (fCE (nar .byte (p0.toInt8.toInt32)) (0 : Int32) (0 : Int32) (0 : Int32) (2 : Int32) (3 : Int32)))]))
      refine Go.st (fun _ k => XS.iload X84.here hx rfl (hb hby at_150) rfl k) ?_
      show Go p e below _ (T84.setTop (mkF m 152 #[.val (.int p0), .val (.int p1), .val (.int p2), .val (.int p3), .val (.int p4), .val (.int p5), .val (.int (2 : Int32)), .val (.int (1 : Int32)), .val (.ref b77), .val (.int (p5.toInt8.toInt32)), .val (.int (fCE (nar .byte (p0.toInt8.toInt32)) (0 : Int32) (0 : Int32) (0 : Int32) (2 : Int32) (3 : Int32)))] [(.int (2 : Int32)), (.int (1 : Int32)), (.int (p3 &&& (255 : Int32))), (.int (p2 &&& (255 : Int32))), (.int (p1 &&& (255 : Int32))), (.int (p0 &&& (255 : Int32))), (.int (fCE (nar .byte (p0.toInt8.toInt32)) (0 : Int32) (0 : Int32) (0 : Int32) (2 : Int32) (3 : Int32)))]))
      obtain ⟨_, _, ⟨T85, L85, k85, n85⟩, -, X85, ⟨Lc85, hQ85, l85, y85, z85⟩, st85⟩ := Jvm.LawKit.callS X84 hx (y := (⟨"com/example/apportis/apportis/Utf8CharacterEndPinLaw", "expected", "(IIIIII)I"⟩ : MethodName)) hown (mvT hZ (hw _ (List.mem_of_getElem? (i := 5) rfl))) (mvT hZ (hw _ (List.mem_of_getElem? (i := 6) rfl))) (mvT hZ (hw _ (List.mem_of_getElem? (i := 7) rfl))) (mvT hZ (hw _ (List.mem_of_getElem? (i := 8) rfl))) (by decide) (backOf (W := 1) (rm2 l Z aZ hw [] (p0 &&& (255 : Int32)) (p1 &&& (255 : Int32)) (p2 &&& (255 : Int32)) (p3 &&& (255 : Int32)) (1 : Int32) (2 : Int32) h83 n0 ) hZ (hw _ (List.mem_of_getElem? (i := 8) rfl)) (hw _ (List.mem_of_getElem? (i := 7) rfl)) (by decide) (by decide)) (g := (mkF m 152 #[.val (.int p0), .val (.int p1), .val (.int p2), .val (.int p3), .val (.int p4), .val (.int p5), .val (.int (2 : Int32)), .val (.int (1 : Int32)), .val (.ref b77), .val (.int (p5.toInt8.toInt32)), .val (.int (fCE (nar .byte (p0.toInt8.toInt32)) (0 : Int32) (0 : Int32) (0 : Int32) (2 : Int32) (3 : Int32)))] [(.int (2 : Int32)), (.int (1 : Int32)), (.int (p3 &&& (255 : Int32))), (.int (p2 &&& (255 : Int32))), (.int (p1 &&& (255 : Int32))), (.int (p0 &&& (255 : Int32))), (.int (fCE (nar .byte (p0.toInt8.toInt32)) (0 : Int32) (0 : Int32) (0 : Int32) (2 : Int32) (3 : Int32)))])) rfl (by rw [hml]; rfl) (argsL := [(.int (p0 &&& (255 : Int32))), (.int (p1 &&& (255 : Int32))), (.int (p2 &&& (255 : Int32))), (.int (p3 &&& (255 : Int32))), (.int (1 : Int32)), (.int (2 : Int32))]) (rest := [(.int (fCE (nar .byte (p0.toInt8.toInt32)) (0 : Int32) (0 : Int32) (0 : Int32) (2 : Int32) (3 : Int32)))]) (lenOf pd41a2ea18 rfl) rfl (by show 2 * 0 + _ ≤ _; exact Nat.le_of_eq rfl) (hb hby at_152) (fun _ _ => ⟨rfl, e84, (by decide : 1 + 0 ≤ _), (by decide : 3 + 0 ≤ _)⟩)
      dsimp only [Pt.U, Pt.locs, Pt.cells, Pt.slots] at X85 l85 y85 z85 st85 hQ85
      subst l85 y85 z85
      obtain ⟨rfl, N85q, e85⟩ := hQ85
      have N85 := Fr.app N84 N85q
      refine Go.st (fun _ k => st85 _ k) ?_
      show Go p e below _ (T85.setTop (mkF m 155 #[.val (.int p0), .val (.int p1), .val (.int p2), .val (.int p3), .val (.int p4), .val (.int p5), .val (.int (2 : Int32)), .val (.int (1 : Int32)), .val (.ref b77), .val (.int (p5.toInt8.toInt32)), .val (.int (fCE (nar .byte (p0.toInt8.toInt32)) (0 : Int32) (0 : Int32) (0 : Int32) (2 : Int32) (3 : Int32)))] [(.int (fExp (p0 &&& (255 : Int32)) (p1 &&& (255 : Int32)) (p2 &&& (255 : Int32)) (p3 &&& (255 : Int32)) (1 : Int32) (2 : Int32))), (.int (fCE (nar .byte (p0.toInt8.toInt32)) (0 : Int32) (0 : Int32) (0 : Int32) (2 : Int32) (3 : Int32)))]))
      refine Go.st (fun _ k => XS.icmpNo X85.here hx rfl (hb hby at_155) rfl (teq (own_main p0 p1 p2 p3 (own_mask p0) (fun h => absurd h (by decide)) (fun h => absurd h (by decide)) (fun h => absurd h (by decide)) (by decide))).2 k) ?_
      show Go p e below _ (T85.setTop (mkF m 158 #[.val (.int p0), .val (.int p1), .val (.int p2), .val (.int p3), .val (.int p4), .val (.int p5), .val (.int (2 : Int32)), .val (.int (1 : Int32)), .val (.ref b77), .val (.int (p5.toInt8.toInt32)), .val (.int (fCE (nar .byte (p0.toInt8.toInt32)) (0 : Int32) (0 : Int32) (0 : Int32) (2 : Int32) (3 : Int32)))] []))
      refine Go.st (fun _ k => XS.iconst X85.here hx rfl (hb hby at_158) k) ?_
      refine Go.st (fun _ k => XS.goto X85.here hx rfl (pc0 := 159) (pc' := 163) rfl (hb hby at_159) (by decide) (by decide) k) ?_
      show Go p e below _ (T85.setTop (mkF m 163 #[.val (.int p0), .val (.int p1), .val (.int p2), .val (.int p3), .val (.int p4), .val (.int p5), .val (.int (2 : Int32)), .val (.int (1 : Int32)), .val (.ref b77), .val (.int (p5.toInt8.toInt32)), .val (.int (fCE (nar .byte (p0.toInt8.toInt32)) (0 : Int32) (0 : Int32) (0 : Int32) (2 : Int32) (3 : Int32)))] [(.int (1 : Int32))]))
      obtain ⟨fs, hr, hrun, hended, hW, hsame⟩ := X85.leave (v := some (.int (1 : Int32))) (fun h => by rw [Bd.returns] at h; cases h)
      refine ⟨_, _, retN X85 hx (t := .boolean) Bd.returns (by simp) (hb hby at_163) hr, hrun, hended, _, _, rfl, ?_, ⟨_, rfl⟩, hW, hsame.mono (by decide) (by decide)⟩
      show Q_rm0 Z p0 p1 p2 p3 p4 p5 h0 n0 _ T85.heap _
      rw [e85]
      exact ⟨rfl, N85⟩
    · rw [hr76]
      show Go p e below _ (s₁.setTop (mkF m 13 #[.val (.int p0), .val (.int p1), .val (.int p2), .val (.int p3), .val (.int p4), .val (.int p5), .val (.int (2 : Int32)), .unset, .unset, .unset, .unset] [(.int (1 : Int32)), (.int (1 : Int32))]))
      refine Go.st (fun _ k => XS.iadd X0.here hx rfl (hb hby at_13) rfl k) ?_
      refine Go.st (fun _ k => XS.istore X0.here hx rfl (hb hby at_14) rfl (l' := #[.val (.int p0), .val (.int p1), .val (.int p2), .val (.int p3), .val (.int p4), .val (.int p5), .val (.int (2 : Int32)), .val (.int (2 : Int32)), .unset, .unset, .unset]) rfl k) ?_
      show Go p e below _ (s₁.setTop (mkF m 16 #[.val (.int p0), .val (.int p1), .val (.int p2), .val (.int p3), .val (.int p4), .val (.int p5), .val (.int (2 : Int32)), .val (.int (2 : Int32)), .unset, .unset, .unset] []))
      refine Go.st (fun _ k => XS.iload X0.here hx rfl (hb hby at_16) rfl k) ?_
      refine Go.st (fun _ k => XS.iload X0.here hx rfl (hb hby at_18) rfl k) ?_
      show Go p e below _ (s₁.setTop (mkF m 20 #[.val (.int p0), .val (.int p1), .val (.int p2), .val (.int p3), .val (.int p4), .val (.int p5), .val (.int (2 : Int32)), .val (.int (2 : Int32)), .unset, .unset, .unset] [(.int (2 : Int32)), (.int (2 : Int32))]))
      refine Go.st (fun _ k => XS.iadd X0.here hx rfl (hb hby at_20) rfl k) ?_
      show Go p e below _ (s₁.setTop (mkF m 21 #[.val (.int p0), .val (.int p1), .val (.int p2), .val (.int p3), .val (.int p4), .val (.int p5), .val (.int (2 : Int32)), .val (.int (2 : Int32)), .unset, .unset, .unset] [(.int (4 : Int32))]))
      obtain ⟨T86, h86, k86, X86, e86, E86, A86, st86⟩ := newP X0 hx hZ (hw _ (List.mem_of_getElem? (i := 0) rfl)) e0 (g := (mkF m 21 #[.val (.int p0), .val (.int p1), .val (.int p2), .val (.int p3), .val (.int p4), .val (.int p5), .val (.int (2 : Int32)), .val (.int (2 : Int32)), .unset, .unset, .unset] [(.int (4 : Int32))])) rfl (hb hby at_21) rfl (by decide) (cap := 4) (by decide) (by decide) (by decide) (by decide)
      obtain ⟨b86, g86⟩ : ∃ z, z = h0.size := ⟨_, rfl⟩
      have gg86 : n0 ≤ b86 := Nat.le_trans Z0 (Nat.le_of_eq g86.symm)
      rw [← g86] at A86 st86
      have Z86 : n0 ≤ h86.size := Nat.le_trans Z0 E86.1
      have V86 : Arv Z h86 b86 k86 .byte (4 : Int32) [(.int (0 : Int32)), (.int (0 : Int32)), (.int (0 : Int32)), (.int (0 : Int32))] (.int (0 : Int32)) := (Arv.new A86 (by decide)).pad (pad_rep [] (.int (0 : Int32)) 4)
      refine Go.st (fun _ k => st86 _ k) ?_
      show Go p e below _ (T86.setTop (mkF m 23 #[.val (.int p0), .val (.int p1), .val (.int p2), .val (.int p3), .val (.int p4), .val (.int p5), .val (.int (2 : Int32)), .val (.int (2 : Int32)), .unset, .unset, .unset] [(.ref b86)]))
      refine Go.st (fun _ k => XS.astore X86.here hx rfl (hb hby at_23) rfl rfl (l' := #[.val (.int p0), .val (.int p1), .val (.int p2), .val (.int p3), .val (.int p4), .val (.int p5), .val (.int (2 : Int32)), .val (.int (2 : Int32)), .val (.ref b86), .unset, .unset]) rfl k) ?_
      show Go p e below _ (T86.setTop (mkF m 25 #[.val (.int p0), .val (.int p1), .val (.int p2), .val (.int p3), .val (.int p4), .val (.int p5), .val (.int (2 : Int32)), .val (.int (2 : Int32)), .val (.ref b86), .unset, .unset] []))
      refine Go.st (fun _ k => XS.iload X86.here hx rfl (hb hby at_25) rfl k) ?_
      refine Go.st (fun _ k => XS.i2b X86.here hx rfl (hb hby at_27) rfl k) ?_
      show Go p e below _ (T86.setTop (mkF m 28 #[.val (.int p0), .val (.int p1), .val (.int p2), .val (.int p3), .val (.int p4), .val (.int p5), .val (.int (2 : Int32)), .val (.int (2 : Int32)), .val (.ref b86), .unset, .unset] [(.int (p5.toInt8.toInt32))]))
      refine Go.st (fun _ k => XS.istore X86.here hx rfl (hb hby at_28) rfl (l' := #[.val (.int p0), .val (.int p1), .val (.int p2), .val (.int p3), .val (.int p4), .val (.int p5), .val (.int (2 : Int32)), .val (.int (2 : Int32)), .val (.ref b86), .val (.int (p5.toInt8.toInt32)), .unset]) rfl k) ?_
      show Go p e below _ (T86.setTop (mkF m 30 #[.val (.int p0), .val (.int p1), .val (.int p2), .val (.int p3), .val (.int p4), .val (.int p5), .val (.int (2 : Int32)), .val (.int (2 : Int32)), .val (.ref b86), .val (.int (p5.toInt8.toInt32)), .unset] []))
      refine Go.st (fun _ k => XS.iload X86.here hx rfl (hb hby at_30) rfl k) ?_
      refine Go.st (fun _ k => XS.ifNo X86.here hx rfl (hb hby at_32) rfl ((if0 _ _).trans (tlt (by decide : ((0 : Int32) < (2 : Int32)))).2.2.2) k) ?_
      show Go p e below _ (T86.setTop (mkF m 35 #[.val (.int p0), .val (.int p1), .val (.int p2), .val (.int p3), .val (.int p4), .val (.int p5), .val (.int (2 : Int32)), .val (.int (2 : Int32)), .val (.ref b86), .val (.int (p5.toInt8.toInt32)), .unset] []))
      refine Go.st (fun _ k => XS.aload X86.here hx rfl (hb hby at_35) rfl rfl k) ?_
      refine Go.st (fun _ k => XS.iconst X86.here hx rfl (hb hby at_37) k) ?_
      show Go p e below _ (T86.setTop (mkF m 38 #[.val (.int p0), .val (.int p1), .val (.int p2), .val (.int p3), .val (.int p4), .val (.int p5), .val (.int (2 : Int32)), .val (.int (2 : Int32)), .val (.ref b86), .val (.int (p5.toInt8.toInt32)), .unset] [(.int (0 : Int32)), (.ref b86)]))
      refine Go.st (fun _ k => XS.iload X86.here hx rfl (hb hby at_38) rfl k) ?_
      show Go p e below _ (T86.setTop (mkF m 40 #[.val (.int p0), .val (.int p1), .val (.int p2), .val (.int p3), .val (.int p4), .val (.int p5), .val (.int (2 : Int32)), .val (.int (2 : Int32)), .val (.ref b86), .val (.int (p5.toInt8.toInt32)), .unset] [(.int (p5.toInt8.toInt32)), (.int (0 : Int32)), (.ref b86)]))
      obtain ⟨cl87, Ar87, ck87, Sz87, Nn87, Hs87, Gs87⟩ := id V86
      have hin87 : ¬ ((0 : Int32) < 0 ∨ cl87.slots.size ≤ ((0 : Int32)).toNatClampNeg) := inb_of Sz87 ⟨by decide, by decide⟩
      obtain ⟨T88, h88, X88, e88, W88, st88⟩ := stB X86 hx hZ e86 Ar87 (j := (0 : Int32)) hin87 (g := (mkF m 40 #[.val (.int p0), .val (.int p1), .val (.int p2), .val (.int p3), .val (.int p4), .val (.int p5), .val (.int (2 : Int32)), .val (.int (2 : Int32)), .val (.ref b86), .val (.int (p5.toInt8.toInt32)), .unset] [(.int (p5.toInt8.toInt32)), (.int (0 : Int32)), (.ref b86)])) rfl rfl (hb hby at_40)
      have V88 : Arv Z h88 b86 k86 .byte (4 : Int32) [(.int (nar .byte (p5.toInt8.toInt32))), (.int (0 : Int32)), (.int (0 : Int32)), (.int (0 : Int32))] (.int (0 : Int32)) := Arv.set Ar87 ck87 Sz87 Nn87 Hs87 Gs87 (fits_nar_byte _) W88 0 rfl (Nat.le_of_ble_eq_true rfl)
      have N88 := Fr.snoc X88 N0 gg86
      have Z88 : n0 ≤ h88.size := by rw [W88.size]; exact Z86
      refine Go.st (fun _ k => st88 _ k) ?_
      show Go p e below _ (T88.setTop (mkF m 41 #[.val (.int p0), .val (.int p1), .val (.int p2), .val (.int p3), .val (.int p4), .val (.int p5), .val (.int (2 : Int32)), .val (.int (2 : Int32)), .val (.ref b86), .val (.int (p5.toInt8.toInt32)), .unset] []))
      refine Go.st (fun _ k => XS.iload X88.here hx rfl (hb hby at_41) rfl k) ?_
      refine Go.st (fun _ k => XS.iconst X88.here hx rfl (hb hby at_43) k) ?_
      show Go p e below _ (T88.setTop (mkF m 44 #[.val (.int p0), .val (.int p1), .val (.int p2), .val (.int p3), .val (.int p4), .val (.int p5), .val (.int (2 : Int32)), .val (.int (2 : Int32)), .val (.ref b86), .val (.int (p5.toInt8.toInt32)), .unset] [(.int (1 : Int32)), (.int (2 : Int32))]))
      refine Go.st (fun _ k => XS.icmpNo X88.here hx rfl (hb hby at_44) rfl (tlt (by decide : ((1 : Int32) < (2 : Int32)))).2.2.2 k) ?_
      show Go p e below _ (T88.setTop (mkF m 47 #[.val (.int p0), .val (.int p1), .val (.int p2), .val (.int p3), .val (.int p4), .val (.int p5), .val (.int (2 : Int32)), .val (.int (2 : Int32)), .val (.ref b86), .val (.int (p5.toInt8.toInt32)), .unset] []))
      refine Go.st (fun _ k => XS.aload X88.here hx rfl (hb hby at_47) rfl rfl k) ?_
      refine Go.st (fun _ k => XS.iconst X88.here hx rfl (hb hby at_49) k) ?_
      show Go p e below _ (T88.setTop (mkF m 50 #[.val (.int p0), .val (.int p1), .val (.int p2), .val (.int p3), .val (.int p4), .val (.int p5), .val (.int (2 : Int32)), .val (.int (2 : Int32)), .val (.ref b86), .val (.int (p5.toInt8.toInt32)), .unset] [(.int (1 : Int32)), (.ref b86)]))
      refine Go.st (fun _ k => XS.iload X88.here hx rfl (hb hby at_50) rfl k) ?_
      show Go p e below _ (T88.setTop (mkF m 52 #[.val (.int p0), .val (.int p1), .val (.int p2), .val (.int p3), .val (.int p4), .val (.int p5), .val (.int (2 : Int32)), .val (.int (2 : Int32)), .val (.ref b86), .val (.int (p5.toInt8.toInt32)), .unset] [(.int (p5.toInt8.toInt32)), (.int (1 : Int32)), (.ref b86)]))
      obtain ⟨cl89, Ar89, ck89, Sz89, Nn89, Hs89, Gs89⟩ := id V88
      have hin89 : ¬ ((1 : Int32) < 0 ∨ cl89.slots.size ≤ ((1 : Int32)).toNatClampNeg) := inb_of Sz89 ⟨by decide, by decide⟩
      obtain ⟨T90, h90, X90, e90, W90, st90⟩ := stB X88 hx hZ e88 Ar89 (j := (1 : Int32)) hin89 (g := (mkF m 52 #[.val (.int p0), .val (.int p1), .val (.int p2), .val (.int p3), .val (.int p4), .val (.int p5), .val (.int (2 : Int32)), .val (.int (2 : Int32)), .val (.ref b86), .val (.int (p5.toInt8.toInt32)), .unset] [(.int (p5.toInt8.toInt32)), (.int (1 : Int32)), (.ref b86)])) rfl rfl (hb hby at_52)
      have V90 : Arv Z h90 b86 k86 .byte (4 : Int32) [(.int (nar .byte (p5.toInt8.toInt32))), (.int (nar .byte (p5.toInt8.toInt32))), (.int (0 : Int32)), (.int (0 : Int32))] (.int (0 : Int32)) := Arv.set Ar89 ck89 Sz89 Nn89 Hs89 Gs89 (fits_nar_byte _) W90 1 rfl (Nat.le_of_ble_eq_true rfl)
      have N90 := Fr.snoc X90 N88 gg86
      have Z90 : n0 ≤ h90.size := by rw [W90.size]; exact Z88
      refine Go.st (fun _ k => st90 _ k) ?_
      show Go p e below _ (T90.setTop (mkF m 53 #[.val (.int p0), .val (.int p1), .val (.int p2), .val (.int p3), .val (.int p4), .val (.int p5), .val (.int (2 : Int32)), .val (.int (2 : Int32)), .val (.ref b86), .val (.int (p5.toInt8.toInt32)), .unset] []))
      refine Go.st (fun _ k => XS.iload X90.here hx rfl (hb hby at_53) rfl k) ?_
      refine Go.st (fun _ k => XS.iconst X90.here hx rfl (hb hby at_55) k) ?_
      show Go p e below _ (T90.setTop (mkF m 56 #[.val (.int p0), .val (.int p1), .val (.int p2), .val (.int p3), .val (.int p4), .val (.int p5), .val (.int (2 : Int32)), .val (.int (2 : Int32)), .val (.ref b86), .val (.int (p5.toInt8.toInt32)), .unset] [(.int (2 : Int32)), (.int (2 : Int32))]))
      refine Go.st (fun _ k => XS.icmpYes X90.here hx rfl (pc0 := 56) (pc' := 65) rfl (hb hby at_56) rfl (flt (by decide : ¬ ((2 : Int32) < (2 : Int32)))).2.2.2 (by decide) (by decide) k) ?_
      show Go p e below _ (T90.setTop (mkF m 65 #[.val (.int p0), .val (.int p1), .val (.int p2), .val (.int p3), .val (.int p4), .val (.int p5), .val (.int (2 : Int32)), .val (.int (2 : Int32)), .val (.ref b86), .val (.int (p5.toInt8.toInt32)), .unset] []))
      refine Go.st (fun _ k => XS.aload X90.here hx rfl (hb hby at_65) rfl rfl k) ?_
      refine Go.st (fun _ k => XS.iload X90.here hx rfl (hb hby at_67) rfl k) ?_
      show Go p e below _ (T90.setTop (mkF m 69 #[.val (.int p0), .val (.int p1), .val (.int p2), .val (.int p3), .val (.int p4), .val (.int p5), .val (.int (2 : Int32)), .val (.int (2 : Int32)), .val (.ref b86), .val (.int (p5.toInt8.toInt32)), .unset] [(.int (2 : Int32)), (.ref b86)]))
      refine Go.st (fun _ k => XS.iloadN X90.here hx rfl (hb hby at_69) rfl k) ?_
      refine Go.st (fun _ k => XS.i2b X90.here hx rfl (hb hby at_70) rfl k) ?_
      show Go p e below _ (T90.setTop (mkF m 71 #[.val (.int p0), .val (.int p1), .val (.int p2), .val (.int p3), .val (.int p4), .val (.int p5), .val (.int (2 : Int32)), .val (.int (2 : Int32)), .val (.ref b86), .val (.int (p5.toInt8.toInt32)), .unset] [(.int (p0.toInt8.toInt32)), (.int (2 : Int32)), (.ref b86)]))
      obtain ⟨cl91, Ar91, ck91, Sz91, Nn91, Hs91, Gs91⟩ := id V90
      have hin91 : ¬ ((2 : Int32) < 0 ∨ cl91.slots.size ≤ ((2 : Int32)).toNatClampNeg) := inb_of Sz91 ⟨by decide, by decide⟩
      obtain ⟨T92, h92, X92, e92, W92, st92⟩ := stB X90 hx hZ e90 Ar91 (j := (2 : Int32)) hin91 (g := (mkF m 71 #[.val (.int p0), .val (.int p1), .val (.int p2), .val (.int p3), .val (.int p4), .val (.int p5), .val (.int (2 : Int32)), .val (.int (2 : Int32)), .val (.ref b86), .val (.int (p5.toInt8.toInt32)), .unset] [(.int (p0.toInt8.toInt32)), (.int (2 : Int32)), (.ref b86)])) rfl rfl (hb hby at_71)
      have V92 : Arv Z h92 b86 k86 .byte (4 : Int32) [(.int (nar .byte (p5.toInt8.toInt32))), (.int (nar .byte (p5.toInt8.toInt32))), (.int (nar .byte (p0.toInt8.toInt32))), (.int (0 : Int32))] (.int (0 : Int32)) := Arv.set Ar91 ck91 Sz91 Nn91 Hs91 Gs91 (fits_nar_byte _) W92 2 rfl (Nat.le_of_ble_eq_true rfl)
      have N92 := Fr.snoc X92 N90 gg86
      have Z92 : n0 ≤ h92.size := by rw [W92.size]; exact Z90
      refine Go.st (fun _ k => st92 _ k) ?_
      show Go p e below _ (T92.setTop (mkF m 72 #[.val (.int p0), .val (.int p1), .val (.int p2), .val (.int p3), .val (.int p4), .val (.int p5), .val (.int (2 : Int32)), .val (.int (2 : Int32)), .val (.ref b86), .val (.int (p5.toInt8.toInt32)), .unset] []))
      refine Go.st (fun _ k => XS.iload X92.here hx rfl (hb hby at_72) rfl k) ?_
      refine Go.st (fun _ k => XS.iconst X92.here hx rfl (hb hby at_74) k) ?_
      show Go p e below _ (T92.setTop (mkF m 75 #[.val (.int p0), .val (.int p1), .val (.int p2), .val (.int p3), .val (.int p4), .val (.int p5), .val (.int (2 : Int32)), .val (.int (2 : Int32)), .val (.ref b86), .val (.int (p5.toInt8.toInt32)), .unset] [(.int (1 : Int32)), (.int (2 : Int32))]))
      refine Go.st (fun _ k => XS.icmpNo X92.here hx rfl (hb hby at_75) rfl (tlt (by decide : ((1 : Int32) < (2 : Int32)))).2.2.2 k) ?_
      show Go p e below _ (T92.setTop (mkF m 78 #[.val (.int p0), .val (.int p1), .val (.int p2), .val (.int p3), .val (.int p4), .val (.int p5), .val (.int (2 : Int32)), .val (.int (2 : Int32)), .val (.ref b86), .val (.int (p5.toInt8.toInt32)), .unset] []))
      refine Go.st (fun _ k => XS.aload X92.here hx rfl (hb hby at_78) rfl rfl k) ?_
      refine Go.st (fun _ k => XS.iload X92.here hx rfl (hb hby at_80) rfl k) ?_
      show Go p e below _ (T92.setTop (mkF m 82 #[.val (.int p0), .val (.int p1), .val (.int p2), .val (.int p3), .val (.int p4), .val (.int p5), .val (.int (2 : Int32)), .val (.int (2 : Int32)), .val (.ref b86), .val (.int (p5.toInt8.toInt32)), .unset] [(.int (2 : Int32)), (.ref b86)]))
      refine Go.st (fun _ k => XS.iconst X92.here hx rfl (hb hby at_82) k) ?_
      refine Go.st (fun _ k => XS.iadd X92.here hx rfl (hb hby at_83) rfl k) ?_
      show Go p e below _ (T92.setTop (mkF m 84 #[.val (.int p0), .val (.int p1), .val (.int p2), .val (.int p3), .val (.int p4), .val (.int p5), .val (.int (2 : Int32)), .val (.int (2 : Int32)), .val (.ref b86), .val (.int (p5.toInt8.toInt32)), .unset] [(.int (3 : Int32)), (.ref b86)]))
      refine Go.st (fun _ k => XS.iloadN X92.here hx rfl (hb hby at_84) rfl k) ?_
      refine Go.st (fun _ k => XS.i2b X92.here hx rfl (hb hby at_85) rfl k) ?_
      show Go p e below _ (T92.setTop (mkF m 86 #[.val (.int p0), .val (.int p1), .val (.int p2), .val (.int p3), .val (.int p4), .val (.int p5), .val (.int (2 : Int32)), .val (.int (2 : Int32)), .val (.ref b86), .val (.int (p5.toInt8.toInt32)), .unset] [(.int (p1.toInt8.toInt32)), (.int (3 : Int32)), (.ref b86)]))
      obtain ⟨cl93, Ar93, ck93, Sz93, Nn93, Hs93, Gs93⟩ := id V92
      have hin93 : ¬ ((3 : Int32) < 0 ∨ cl93.slots.size ≤ ((3 : Int32)).toNatClampNeg) := inb_of Sz93 ⟨by decide, by decide⟩
      obtain ⟨T94, h94, X94, e94, W94, st94⟩ := stB X92 hx hZ e92 Ar93 (j := (3 : Int32)) hin93 (g := (mkF m 86 #[.val (.int p0), .val (.int p1), .val (.int p2), .val (.int p3), .val (.int p4), .val (.int p5), .val (.int (2 : Int32)), .val (.int (2 : Int32)), .val (.ref b86), .val (.int (p5.toInt8.toInt32)), .unset] [(.int (p1.toInt8.toInt32)), (.int (3 : Int32)), (.ref b86)])) rfl rfl (hb hby at_86)
      have V94 : Arv Z h94 b86 k86 .byte (4 : Int32) [(.int (nar .byte (p5.toInt8.toInt32))), (.int (nar .byte (p5.toInt8.toInt32))), (.int (nar .byte (p0.toInt8.toInt32))), (.int (nar .byte (p1.toInt8.toInt32)))] (.int (0 : Int32)) := Arv.set Ar93 ck93 Sz93 Nn93 Hs93 Gs93 (fits_nar_byte _) W94 3 rfl (Nat.le_of_ble_eq_true rfl)
      have N94 := Fr.snoc X94 N92 gg86
      have Z94 : n0 ≤ h94.size := by rw [W94.size]; exact Z92
      refine Go.st (fun _ k => st94 _ k) ?_
      show Go p e below _ (T94.setTop (mkF m 87 #[.val (.int p0), .val (.int p1), .val (.int p2), .val (.int p3), .val (.int p4), .val (.int p5), .val (.int (2 : Int32)), .val (.int (2 : Int32)), .val (.ref b86), .val (.int (p5.toInt8.toInt32)), .unset] []))
      refine Go.st (fun _ k => XS.iload X94.here hx rfl (hb hby at_87) rfl k) ?_
      refine Go.st (fun _ k => XS.iconst X94.here hx rfl (hb hby at_89) k) ?_
      show Go p e below _ (T94.setTop (mkF m 90 #[.val (.int p0), .val (.int p1), .val (.int p2), .val (.int p3), .val (.int p4), .val (.int p5), .val (.int (2 : Int32)), .val (.int (2 : Int32)), .val (.ref b86), .val (.int (p5.toInt8.toInt32)), .unset] [(.int (2 : Int32)), (.int (2 : Int32))]))
      refine Go.st (fun _ k => XS.icmpYes X94.here hx rfl (pc0 := 90) (pc' := 102) rfl (hb hby at_90) rfl (flt (by decide : ¬ ((2 : Int32) < (2 : Int32)))).2.2.2 (by decide) (by decide) k) ?_
      show Go p e below _ (T94.setTop (mkF m 102 #[.val (.int p0), .val (.int p1), .val (.int p2), .val (.int p3), .val (.int p4), .val (.int p5), .val (.int (2 : Int32)), .val (.int (2 : Int32)), .val (.ref b86), .val (.int (p5.toInt8.toInt32)), .unset] []))
      refine Go.st (fun _ k => XS.iload X94.here hx rfl (hb hby at_102) rfl k) ?_
      refine Go.st (fun _ k => XS.iconst X94.here hx rfl (hb hby at_104) k) ?_
      show Go p e below _ (T94.setTop (mkF m 105 #[.val (.int p0), .val (.int p1), .val (.int p2), .val (.int p3), .val (.int p4), .val (.int p5), .val (.int (2 : Int32)), .val (.int (2 : Int32)), .val (.ref b86), .val (.int (p5.toInt8.toInt32)), .unset] [(.int (3 : Int32)), (.int (2 : Int32))]))
      refine Go.st (fun _ k => XS.icmpYes X94.here hx rfl (pc0 := 105) (pc' := 117) rfl (hb hby at_105) rfl (flt (by decide : ¬ ((3 : Int32) < (2 : Int32)))).2.2.2 (by decide) (by decide) k) ?_
      show Go p e below _ (T94.setTop (mkF m 117 #[.val (.int p0), .val (.int p1), .val (.int p2), .val (.int p3), .val (.int p4), .val (.int p5), .val (.int (2 : Int32)), .val (.int (2 : Int32)), .val (.ref b86), .val (.int (p5.toInt8.toInt32)), .unset] []))
      refine Go.st (fun _ k => XS.aload X94.here hx rfl (hb hby at_117) rfl rfl k) ?_
      refine Go.st (fun _ k => XS.iload X94.here hx rfl (hb hby at_119) rfl k) ?_
      show Go p e below _ (T94.setTop (mkF m 121 #[.val (.int p0), .val (.int p1), .val (.int p2), .val (.int p3), .val (.int p4), .val (.int p5), .val (.int (2 : Int32)), .val (.int (2 : Int32)), .val (.ref b86), .val (.int (p5.toInt8.toInt32)), .unset] [(.int (2 : Int32)), (.ref b86)]))
      obtain ⟨_, _, ⟨T95, L95, k95, n95⟩, -, X95, ⟨Lc95, hQ95, l95, y95, z95⟩, st95⟩ := Jvm.LawKit.callS X94 hx (y := (⟨"com/example/apportis/apportis/Utf8", "characterEnd", "([BI)I"⟩ : MethodName)) hown (mvT hZ (hw _ (List.mem_of_getElem? (i := 1) rfl))) (mvT hZ (hw _ (List.mem_of_getElem? (i := 2) rfl))) (mvT hZ (hw _ (List.mem_of_getElem? (i := 3) rfl))) (mvT hZ (hw _ (List.mem_of_getElem? (i := 4) rfl))) (by decide) (backOf (W := 0) (rmCE l Z aZ hw [] (nar .byte (p0.toInt8.toInt32)) (nar .byte (p1.toInt8.toInt32)) (0 : Int32) (0 : Int32) b86 (2 : Int32) k86 (4 : Int32) [(.int (nar .byte (p5.toInt8.toInt32))), (.int (nar .byte (p5.toInt8.toInt32))), (.int (nar .byte (p0.toInt8.toInt32))), (.int (nar .byte (p1.toInt8.toInt32)))] h94 n0 (by decide) (by decide) (by decide) rfl (fun _ => rfl) (fun h => absurd h (by decide)) (fun h => absurd h (by decide)) V94) hZ (hw _ (List.mem_of_getElem? (i := 4) rfl)) (hw _ (List.mem_of_getElem? (i := 3) rfl)) (by decide) (by decide)) (g := (mkF m 121 #[.val (.int p0), .val (.int p1), .val (.int p2), .val (.int p3), .val (.int p4), .val (.int p5), .val (.int (2 : Int32)), .val (.int (2 : Int32)), .val (.ref b86), .val (.int (p5.toInt8.toInt32)), .unset] [(.int (2 : Int32)), (.ref b86)])) rfl (by rw [hml]; rfl) (argsL := [(.ref b86), (.int (2 : Int32))]) (rest := []) (lenOf pd92f6cd8e rfl) rfl (by show 2 * 0 + _ ≤ _; exact Nat.le_of_eq rfl) (hb hby at_121) (fun _ _ => ⟨rfl, e94, (by decide : 1 + 0 ≤ _), (by decide : 4 + 0 ≤ _)⟩)
      dsimp only [Pt.U, Pt.locs, Pt.cells, Pt.slots] at X95 l95 y95 z95 st95 hQ95
      subst l95 y95 z95
      obtain ⟨rfl, N95q, e95⟩ := hQ95
      have N95 := Fr.app N94 N95q
      refine Go.st (fun _ k => st95 _ k) ?_
      show Go p e below _ (T95.setTop (mkF m 124 #[.val (.int p0), .val (.int p1), .val (.int p2), .val (.int p3), .val (.int p4), .val (.int p5), .val (.int (2 : Int32)), .val (.int (2 : Int32)), .val (.ref b86), .val (.int (p5.toInt8.toInt32)), .unset] [(.int (fCE (nar .byte (p0.toInt8.toInt32)) (nar .byte (p1.toInt8.toInt32)) (0 : Int32) (0 : Int32) (2 : Int32) (4 : Int32)))]))
      refine Go.st (fun _ k => XS.istore X95.here hx rfl (hb hby at_124) rfl (l' := #[.val (.int p0), .val (.int p1), .val (.int p2), .val (.int p3), .val (.int p4), .val (.int p5), .val (.int (2 : Int32)), .val (.int (2 : Int32)), .val (.ref b86), .val (.int (p5.toInt8.toInt32)), .val (.int (fCE (nar .byte (p0.toInt8.toInt32)) (nar .byte (p1.toInt8.toInt32)) (0 : Int32) (0 : Int32) (2 : Int32) (4 : Int32)))]) rfl k) ?_
      show Go p e below _ (T95.setTop (mkF m 126 #[.val (.int p0), .val (.int p1), .val (.int p2), .val (.int p3), .val (.int p4), .val (.int p5), .val (.int (2 : Int32)), .val (.int (2 : Int32)), .val (.ref b86), .val (.int (p5.toInt8.toInt32)), .val (.int (fCE (nar .byte (p0.toInt8.toInt32)) (nar .byte (p1.toInt8.toInt32)) (0 : Int32) (0 : Int32) (2 : Int32) (4 : Int32)))] []))
      refine Go.st (fun _ k => XS.iload X95.here hx rfl (hb hby at_126) rfl k) ?_
      refine Go.st (fun _ k => XS.iloadN X95.here hx rfl (hb hby at_128) rfl k) ?_
      show Go p e below _ (T95.setTop (mkF m 129 #[.val (.int p0), .val (.int p1), .val (.int p2), .val (.int p3), .val (.int p4), .val (.int p5), .val (.int (2 : Int32)), .val (.int (2 : Int32)), .val (.ref b86), .val (.int (p5.toInt8.toInt32)), .val (.int (fCE (nar .byte (p0.toInt8.toInt32)) (nar .byte (p1.toInt8.toInt32)) (0 : Int32) (0 : Int32) (2 : Int32) (4 : Int32)))] [(.int p0), (.int (fCE (nar .byte (p0.toInt8.toInt32)) (nar .byte (p1.toInt8.toInt32)) (0 : Int32) (0 : Int32) (2 : Int32) (4 : Int32)))]))
      refine Go.st (fun _ k => XS.sipush X95.here hx rfl (hb hby at_129) k) ?_
      refine Go.st (fun _ k => XS.iand X95.here hx rfl (hb hby at_132) rfl k) ?_
      show Go p e below _ (T95.setTop (mkF m 133 #[.val (.int p0), .val (.int p1), .val (.int p2), .val (.int p3), .val (.int p4), .val (.int p5), .val (.int (2 : Int32)), .val (.int (2 : Int32)), .val (.ref b86), .val (.int (p5.toInt8.toInt32)), .val (.int (fCE (nar .byte (p0.toInt8.toInt32)) (nar .byte (p1.toInt8.toInt32)) (0 : Int32) (0 : Int32) (2 : Int32) (4 : Int32)))] [(.int (p0 &&& (255 : Int32))), (.int (fCE (nar .byte (p0.toInt8.toInt32)) (nar .byte (p1.toInt8.toInt32)) (0 : Int32) (0 : Int32) (2 : Int32) (4 : Int32)))]))
      refine Go.st (fun _ k => XS.iloadN X95.here hx rfl (hb hby at_133) rfl k) ?_
      refine Go.st (fun _ k => XS.sipush X95.here hx rfl (hb hby at_134) k) ?_
      show Go p e below _ (T95.setTop (mkF m 137 #[.val (.int p0), .val (.int p1), .val (.int p2), .val (.int p3), .val (.int p4), .val (.int p5), .val (.int (2 : Int32)), .val (.int (2 : Int32)), .val (.ref b86), .val (.int (p5.toInt8.toInt32)), .val (.int (fCE (nar .byte (p0.toInt8.toInt32)) (nar .byte (p1.toInt8.toInt32)) (0 : Int32) (0 : Int32) (2 : Int32) (4 : Int32)))] [(.int (255 : Int32)), (.int p1), (.int (p0 &&& (255 : Int32))), (.int (fCE (nar .byte (p0.toInt8.toInt32)) (nar .byte (p1.toInt8.toInt32)) (0 : Int32) (0 : Int32) (2 : Int32) (4 : Int32)))]))
      refine Go.st (fun _ k => XS.iand X95.here hx rfl (hb hby at_137) rfl k) ?_
      refine Go.st (fun _ k => XS.iloadN X95.here hx rfl (hb hby at_138) rfl k) ?_
      show Go p e below _ (T95.setTop (mkF m 139 #[.val (.int p0), .val (.int p1), .val (.int p2), .val (.int p3), .val (.int p4), .val (.int p5), .val (.int (2 : Int32)), .val (.int (2 : Int32)), .val (.ref b86), .val (.int (p5.toInt8.toInt32)), .val (.int (fCE (nar .byte (p0.toInt8.toInt32)) (nar .byte (p1.toInt8.toInt32)) (0 : Int32) (0 : Int32) (2 : Int32) (4 : Int32)))] [(.int p2), (.int (p1 &&& (255 : Int32))), (.int (p0 &&& (255 : Int32))), (.int (fCE (nar .byte (p0.toInt8.toInt32)) (nar .byte (p1.toInt8.toInt32)) (0 : Int32) (0 : Int32) (2 : Int32) (4 : Int32)))]))
      refine Go.st (fun _ k => XS.sipush X95.here hx rfl (hb hby at_139) k) ?_
      refine Go.st (fun _ k => XS.iand X95.here hx rfl (hb hby at_142) rfl k) ?_
      show Go p e below _ (T95.setTop (mkF m 143 #[.val (.int p0), .val (.int p1), .val (.int p2), .val (.int p3), .val (.int p4), .val (.int p5), .val (.int (2 : Int32)), .val (.int (2 : Int32)), .val (.ref b86), .val (.int (p5.toInt8.toInt32)), .val (.int (fCE (nar .byte (p0.toInt8.toInt32)) (nar .byte (p1.toInt8.toInt32)) (0 : Int32) (0 : Int32) (2 : Int32) (4 : Int32)))] [(.int (p2 &&& (255 : Int32))), (.int (p1 &&& (255 : Int32))), (.int (p0 &&& (255 : Int32))), (.int (fCE (nar .byte (p0.toInt8.toInt32)) (nar .byte (p1.toInt8.toInt32)) (0 : Int32) (0 : Int32) (2 : Int32) (4 : Int32)))]))
      refine Go.st (fun _ k => XS.iloadN X95.here hx rfl (hb hby at_143) rfl k) ?_
      refine Go.st (fun _ k => XS.sipush X95.here hx rfl (hb hby at_144) k) ?_
      show Go p e below _ (T95.setTop (mkF m 147 #[.val (.int p0), .val (.int p1), .val (.int p2), .val (.int p3), .val (.int p4), .val (.int p5), .val (.int (2 : Int32)), .val (.int (2 : Int32)), .val (.ref b86), .val (.int (p5.toInt8.toInt32)), .val (.int (fCE (nar .byte (p0.toInt8.toInt32)) (nar .byte (p1.toInt8.toInt32)) (0 : Int32) (0 : Int32) (2 : Int32) (4 : Int32)))] [(.int (255 : Int32)), (.int p3), (.int (p2 &&& (255 : Int32))), (.int (p1 &&& (255 : Int32))), (.int (p0 &&& (255 : Int32))), (.int (fCE (nar .byte (p0.toInt8.toInt32)) (nar .byte (p1.toInt8.toInt32)) (0 : Int32) (0 : Int32) (2 : Int32) (4 : Int32)))]))
      refine Go.st (fun _ k => XS.iand X95.here hx rfl (hb hby at_147) rfl k) ?_
      refine Go.st (fun _ k => XS.iload X95.here hx rfl (hb hby at_148) rfl k) ?_
      show Go p e below _ (T95.setTop (mkF m 150 #[.val (.int p0), .val (.int p1), .val (.int p2), .val (.int p3), .val (.int p4), .val (.int p5), .val (.int (2 : Int32)), .val (.int (2 : Int32)), .val (.ref b86), .val (.int (p5.toInt8.toInt32)), .val (.int (fCE (nar .byte (p0.toInt8.toInt32)) (nar .byte (p1.toInt8.toInt32)) (0 : Int32) (0 : Int32) (2 : Int32) (4 : Int32)))] [(.int (2 : Int32)), (.int (p3 &&& (255 : Int32))), (.int (p2 &&& (255 : Int32))), (.int (p1 &&& (255 : Int32))), (.int (p0 &&& (255 : Int32))), (.int (fCE (nar .byte (p0.toInt8.toInt32)) (nar .byte (p1.toInt8.toInt32)) (0 : Int32) (0 : Int32) (2 : Int32) (4 : Int32)))]))
      refine Go.st (fun _ k => XS.iload X95.here hx rfl (hb hby at_150) rfl k) ?_
      show Go p e below _ (T95.setTop (mkF m 152 #[.val (.int p0), .val (.int p1), .val (.int p2), .val (.int p3), .val (.int p4), .val (.int p5), .val (.int (2 : Int32)), .val (.int (2 : Int32)), .val (.ref b86), .val (.int (p5.toInt8.toInt32)), .val (.int (fCE (nar .byte (p0.toInt8.toInt32)) (nar .byte (p1.toInt8.toInt32)) (0 : Int32) (0 : Int32) (2 : Int32) (4 : Int32)))] [(.int (2 : Int32)), (.int (2 : Int32)), (.int (p3 &&& (255 : Int32))), (.int (p2 &&& (255 : Int32))), (.int (p1 &&& (255 : Int32))), (.int (p0 &&& (255 : Int32))), (.int (fCE (nar .byte (p0.toInt8.toInt32)) (nar .byte (p1.toInt8.toInt32)) (0 : Int32) (0 : Int32) (2 : Int32) (4 : Int32)))]))
      obtain ⟨_, _, ⟨T96, L96, k96, n96⟩, -, X96, ⟨Lc96, hQ96, l96, y96, z96⟩, st96⟩ := Jvm.LawKit.callS X95 hx (y := (⟨"com/example/apportis/apportis/Utf8CharacterEndPinLaw", "expected", "(IIIIII)I"⟩ : MethodName)) hown (mvT hZ (hw _ (List.mem_of_getElem? (i := 5) rfl))) (mvT hZ (hw _ (List.mem_of_getElem? (i := 6) rfl))) (mvT hZ (hw _ (List.mem_of_getElem? (i := 7) rfl))) (mvT hZ (hw _ (List.mem_of_getElem? (i := 8) rfl))) (by decide) (backOf (W := 1) (rm2 l Z aZ hw [] (p0 &&& (255 : Int32)) (p1 &&& (255 : Int32)) (p2 &&& (255 : Int32)) (p3 &&& (255 : Int32)) (2 : Int32) (2 : Int32) h94 n0 ) hZ (hw _ (List.mem_of_getElem? (i := 8) rfl)) (hw _ (List.mem_of_getElem? (i := 7) rfl)) (by decide) (by decide)) (g := (mkF m 152 #[.val (.int p0), .val (.int p1), .val (.int p2), .val (.int p3), .val (.int p4), .val (.int p5), .val (.int (2 : Int32)), .val (.int (2 : Int32)), .val (.ref b86), .val (.int (p5.toInt8.toInt32)), .val (.int (fCE (nar .byte (p0.toInt8.toInt32)) (nar .byte (p1.toInt8.toInt32)) (0 : Int32) (0 : Int32) (2 : Int32) (4 : Int32)))] [(.int (2 : Int32)), (.int (2 : Int32)), (.int (p3 &&& (255 : Int32))), (.int (p2 &&& (255 : Int32))), (.int (p1 &&& (255 : Int32))), (.int (p0 &&& (255 : Int32))), (.int (fCE (nar .byte (p0.toInt8.toInt32)) (nar .byte (p1.toInt8.toInt32)) (0 : Int32) (0 : Int32) (2 : Int32) (4 : Int32)))])) rfl (by rw [hml]; rfl) (argsL := [(.int (p0 &&& (255 : Int32))), (.int (p1 &&& (255 : Int32))), (.int (p2 &&& (255 : Int32))), (.int (p3 &&& (255 : Int32))), (.int (2 : Int32)), (.int (2 : Int32))]) (rest := [(.int (fCE (nar .byte (p0.toInt8.toInt32)) (nar .byte (p1.toInt8.toInt32)) (0 : Int32) (0 : Int32) (2 : Int32) (4 : Int32)))]) (lenOf pd41a2ea18 rfl) rfl (by show 2 * 0 + _ ≤ _; exact Nat.le_of_eq rfl) (hb hby at_152) (fun _ _ => ⟨rfl, e95, (by decide : 1 + 0 ≤ _), (by decide : 4 + 0 ≤ _)⟩)
      dsimp only [Pt.U, Pt.locs, Pt.cells, Pt.slots] at X96 l96 y96 z96 st96 hQ96
      subst l96 y96 z96
      obtain ⟨rfl, N96q, e96⟩ := hQ96
      have N96 := Fr.app N95 N96q
      refine Go.st (fun _ k => st96 _ k) ?_
      show Go p e below _ (T96.setTop (mkF m 155 #[.val (.int p0), .val (.int p1), .val (.int p2), .val (.int p3), .val (.int p4), .val (.int p5), .val (.int (2 : Int32)), .val (.int (2 : Int32)), .val (.ref b86), .val (.int (p5.toInt8.toInt32)), .val (.int (fCE (nar .byte (p0.toInt8.toInt32)) (nar .byte (p1.toInt8.toInt32)) (0 : Int32) (0 : Int32) (2 : Int32) (4 : Int32)))] [(.int (fExp (p0 &&& (255 : Int32)) (p1 &&& (255 : Int32)) (p2 &&& (255 : Int32)) (p3 &&& (255 : Int32)) (2 : Int32) (2 : Int32))), (.int (fCE (nar .byte (p0.toInt8.toInt32)) (nar .byte (p1.toInt8.toInt32)) (0 : Int32) (0 : Int32) (2 : Int32) (4 : Int32)))]))
      refine Go.st (fun _ k => XS.icmpNo X96.here hx rfl (hb hby at_155) rfl (teq (own_main p0 p1 p2 p3 (own_mask p0) (fun _ => own_mask p1) (fun h => absurd h (by decide)) (fun h => absurd h (by decide)) (by decide))).2 k) ?_
      show Go p e below _ (T96.setTop (mkF m 158 #[.val (.int p0), .val (.int p1), .val (.int p2), .val (.int p3), .val (.int p4), .val (.int p5), .val (.int (2 : Int32)), .val (.int (2 : Int32)), .val (.ref b86), .val (.int (p5.toInt8.toInt32)), .val (.int (fCE (nar .byte (p0.toInt8.toInt32)) (nar .byte (p1.toInt8.toInt32)) (0 : Int32) (0 : Int32) (2 : Int32) (4 : Int32)))] []))
      refine Go.st (fun _ k => XS.iconst X96.here hx rfl (hb hby at_158) k) ?_
      refine Go.st (fun _ k => XS.goto X96.here hx rfl (pc0 := 159) (pc' := 163) rfl (hb hby at_159) (by decide) (by decide) k) ?_
      show Go p e below _ (T96.setTop (mkF m 163 #[.val (.int p0), .val (.int p1), .val (.int p2), .val (.int p3), .val (.int p4), .val (.int p5), .val (.int (2 : Int32)), .val (.int (2 : Int32)), .val (.ref b86), .val (.int (p5.toInt8.toInt32)), .val (.int (fCE (nar .byte (p0.toInt8.toInt32)) (nar .byte (p1.toInt8.toInt32)) (0 : Int32) (0 : Int32) (2 : Int32) (4 : Int32)))] [(.int (1 : Int32))]))
      obtain ⟨fs, hr, hrun, hended, hW, hsame⟩ := X96.leave (v := some (.int (1 : Int32))) (fun h => by rw [Bd.returns] at h; cases h)
      refine ⟨_, _, retN X96 hx (t := .boolean) Bd.returns (by simp) (hb hby at_163) hr, hrun, hended, _, _, rfl, ?_, ⟨_, rfl⟩, hW, hsame.mono (by decide) (by decide)⟩
      show Q_rm0 Z p0 p1 p2 p3 p4 p5 h0 n0 _ T96.heap _
      rw [e96]
      exact ⟨rfl, N96⟩
    · rw [hr76]
      show Go p e below _ (s₁.setTop (mkF m 13 #[.val (.int p0), .val (.int p1), .val (.int p2), .val (.int p3), .val (.int p4), .val (.int p5), .val (.int (2 : Int32)), .unset, .unset, .unset, .unset] [(.int (2 : Int32)), (.int (1 : Int32))]))
      refine Go.st (fun _ k => XS.iadd X0.here hx rfl (hb hby at_13) rfl k) ?_
      refine Go.st (fun _ k => XS.istore X0.here hx rfl (hb hby at_14) rfl (l' := #[.val (.int p0), .val (.int p1), .val (.int p2), .val (.int p3), .val (.int p4), .val (.int p5), .val (.int (2 : Int32)), .val (.int (3 : Int32)), .unset, .unset, .unset]) rfl k) ?_
      show Go p e below _ (s₁.setTop (mkF m 16 #[.val (.int p0), .val (.int p1), .val (.int p2), .val (.int p3), .val (.int p4), .val (.int p5), .val (.int (2 : Int32)), .val (.int (3 : Int32)), .unset, .unset, .unset] []))
      refine Go.st (fun _ k => XS.iload X0.here hx rfl (hb hby at_16) rfl k) ?_
      refine Go.st (fun _ k => XS.iload X0.here hx rfl (hb hby at_18) rfl k) ?_
      show Go p e below _ (s₁.setTop (mkF m 20 #[.val (.int p0), .val (.int p1), .val (.int p2), .val (.int p3), .val (.int p4), .val (.int p5), .val (.int (2 : Int32)), .val (.int (3 : Int32)), .unset, .unset, .unset] [(.int (3 : Int32)), (.int (2 : Int32))]))
      refine Go.st (fun _ k => XS.iadd X0.here hx rfl (hb hby at_20) rfl k) ?_
      show Go p e below _ (s₁.setTop (mkF m 21 #[.val (.int p0), .val (.int p1), .val (.int p2), .val (.int p3), .val (.int p4), .val (.int p5), .val (.int (2 : Int32)), .val (.int (3 : Int32)), .unset, .unset, .unset] [(.int (5 : Int32))]))
      obtain ⟨T97, h97, k97, X97, e97, E97, A97, st97⟩ := newP X0 hx hZ (hw _ (List.mem_of_getElem? (i := 0) rfl)) e0 (g := (mkF m 21 #[.val (.int p0), .val (.int p1), .val (.int p2), .val (.int p3), .val (.int p4), .val (.int p5), .val (.int (2 : Int32)), .val (.int (3 : Int32)), .unset, .unset, .unset] [(.int (5 : Int32))])) rfl (hb hby at_21) rfl (by decide) (cap := 5) (by decide) (by decide) (by decide) (by decide)
      obtain ⟨b97, g97⟩ : ∃ z, z = h0.size := ⟨_, rfl⟩
      have gg97 : n0 ≤ b97 := Nat.le_trans Z0 (Nat.le_of_eq g97.symm)
      rw [← g97] at A97 st97
      have Z97 : n0 ≤ h97.size := Nat.le_trans Z0 E97.1
      have V97 : Arv Z h97 b97 k97 .byte (5 : Int32) [(.int (0 : Int32)), (.int (0 : Int32)), (.int (0 : Int32)), (.int (0 : Int32)), (.int (0 : Int32))] (.int (0 : Int32)) := (Arv.new A97 (by decide)).pad (pad_rep [] (.int (0 : Int32)) 5)
      refine Go.st (fun _ k => st97 _ k) ?_
      show Go p e below _ (T97.setTop (mkF m 23 #[.val (.int p0), .val (.int p1), .val (.int p2), .val (.int p3), .val (.int p4), .val (.int p5), .val (.int (2 : Int32)), .val (.int (3 : Int32)), .unset, .unset, .unset] [(.ref b97)]))
      refine Go.st (fun _ k => XS.astore X97.here hx rfl (hb hby at_23) rfl rfl (l' := #[.val (.int p0), .val (.int p1), .val (.int p2), .val (.int p3), .val (.int p4), .val (.int p5), .val (.int (2 : Int32)), .val (.int (3 : Int32)), .val (.ref b97), .unset, .unset]) rfl k) ?_
      show Go p e below _ (T97.setTop (mkF m 25 #[.val (.int p0), .val (.int p1), .val (.int p2), .val (.int p3), .val (.int p4), .val (.int p5), .val (.int (2 : Int32)), .val (.int (3 : Int32)), .val (.ref b97), .unset, .unset] []))
      refine Go.st (fun _ k => XS.iload X97.here hx rfl (hb hby at_25) rfl k) ?_
      refine Go.st (fun _ k => XS.i2b X97.here hx rfl (hb hby at_27) rfl k) ?_
      show Go p e below _ (T97.setTop (mkF m 28 #[.val (.int p0), .val (.int p1), .val (.int p2), .val (.int p3), .val (.int p4), .val (.int p5), .val (.int (2 : Int32)), .val (.int (3 : Int32)), .val (.ref b97), .unset, .unset] [(.int (p5.toInt8.toInt32))]))
      refine Go.st (fun _ k => XS.istore X97.here hx rfl (hb hby at_28) rfl (l' := #[.val (.int p0), .val (.int p1), .val (.int p2), .val (.int p3), .val (.int p4), .val (.int p5), .val (.int (2 : Int32)), .val (.int (3 : Int32)), .val (.ref b97), .val (.int (p5.toInt8.toInt32)), .unset]) rfl k) ?_
      show Go p e below _ (T97.setTop (mkF m 30 #[.val (.int p0), .val (.int p1), .val (.int p2), .val (.int p3), .val (.int p4), .val (.int p5), .val (.int (2 : Int32)), .val (.int (3 : Int32)), .val (.ref b97), .val (.int (p5.toInt8.toInt32)), .unset] []))
      refine Go.st (fun _ k => XS.iload X97.here hx rfl (hb hby at_30) rfl k) ?_
      refine Go.st (fun _ k => XS.ifNo X97.here hx rfl (hb hby at_32) rfl ((if0 _ _).trans (tlt (by decide : ((0 : Int32) < (2 : Int32)))).2.2.2) k) ?_
      show Go p e below _ (T97.setTop (mkF m 35 #[.val (.int p0), .val (.int p1), .val (.int p2), .val (.int p3), .val (.int p4), .val (.int p5), .val (.int (2 : Int32)), .val (.int (3 : Int32)), .val (.ref b97), .val (.int (p5.toInt8.toInt32)), .unset] []))
      refine Go.st (fun _ k => XS.aload X97.here hx rfl (hb hby at_35) rfl rfl k) ?_
      refine Go.st (fun _ k => XS.iconst X97.here hx rfl (hb hby at_37) k) ?_
      show Go p e below _ (T97.setTop (mkF m 38 #[.val (.int p0), .val (.int p1), .val (.int p2), .val (.int p3), .val (.int p4), .val (.int p5), .val (.int (2 : Int32)), .val (.int (3 : Int32)), .val (.ref b97), .val (.int (p5.toInt8.toInt32)), .unset] [(.int (0 : Int32)), (.ref b97)]))
      refine Go.st (fun _ k => XS.iload X97.here hx rfl (hb hby at_38) rfl k) ?_
      show Go p e below _ (T97.setTop (mkF m 40 #[.val (.int p0), .val (.int p1), .val (.int p2), .val (.int p3), .val (.int p4), .val (.int p5), .val (.int (2 : Int32)), .val (.int (3 : Int32)), .val (.ref b97), .val (.int (p5.toInt8.toInt32)), .unset] [(.int (p5.toInt8.toInt32)), (.int (0 : Int32)), (.ref b97)]))
      obtain ⟨cl98, Ar98, ck98, Sz98, Nn98, Hs98, Gs98⟩ := id V97
      have hin98 : ¬ ((0 : Int32) < 0 ∨ cl98.slots.size ≤ ((0 : Int32)).toNatClampNeg) := inb_of Sz98 ⟨by decide, by decide⟩
      obtain ⟨T99, h99, X99, e99, W99, st99⟩ := stB X97 hx hZ e97 Ar98 (j := (0 : Int32)) hin98 (g := (mkF m 40 #[.val (.int p0), .val (.int p1), .val (.int p2), .val (.int p3), .val (.int p4), .val (.int p5), .val (.int (2 : Int32)), .val (.int (3 : Int32)), .val (.ref b97), .val (.int (p5.toInt8.toInt32)), .unset] [(.int (p5.toInt8.toInt32)), (.int (0 : Int32)), (.ref b97)])) rfl rfl (hb hby at_40)
      have V99 : Arv Z h99 b97 k97 .byte (5 : Int32) [(.int (nar .byte (p5.toInt8.toInt32))), (.int (0 : Int32)), (.int (0 : Int32)), (.int (0 : Int32)), (.int (0 : Int32))] (.int (0 : Int32)) := Arv.set Ar98 ck98 Sz98 Nn98 Hs98 Gs98 (fits_nar_byte _) W99 0 rfl (Nat.le_of_ble_eq_true rfl)
      have N99 := Fr.snoc X99 N0 gg97
      have Z99 : n0 ≤ h99.size := by rw [W99.size]; exact Z97
      refine Go.st (fun _ k => st99 _ k) ?_
      show Go p e below _ (T99.setTop (mkF m 41 #[.val (.int p0), .val (.int p1), .val (.int p2), .val (.int p3), .val (.int p4), .val (.int p5), .val (.int (2 : Int32)), .val (.int (3 : Int32)), .val (.ref b97), .val (.int (p5.toInt8.toInt32)), .unset] []))
      refine Go.st (fun _ k => XS.iload X99.here hx rfl (hb hby at_41) rfl k) ?_
      refine Go.st (fun _ k => XS.iconst X99.here hx rfl (hb hby at_43) k) ?_
      show Go p e below _ (T99.setTop (mkF m 44 #[.val (.int p0), .val (.int p1), .val (.int p2), .val (.int p3), .val (.int p4), .val (.int p5), .val (.int (2 : Int32)), .val (.int (3 : Int32)), .val (.ref b97), .val (.int (p5.toInt8.toInt32)), .unset] [(.int (1 : Int32)), (.int (2 : Int32))]))
      refine Go.st (fun _ k => XS.icmpNo X99.here hx rfl (hb hby at_44) rfl (tlt (by decide : ((1 : Int32) < (2 : Int32)))).2.2.2 k) ?_
      show Go p e below _ (T99.setTop (mkF m 47 #[.val (.int p0), .val (.int p1), .val (.int p2), .val (.int p3), .val (.int p4), .val (.int p5), .val (.int (2 : Int32)), .val (.int (3 : Int32)), .val (.ref b97), .val (.int (p5.toInt8.toInt32)), .unset] []))
      refine Go.st (fun _ k => XS.aload X99.here hx rfl (hb hby at_47) rfl rfl k) ?_
      refine Go.st (fun _ k => XS.iconst X99.here hx rfl (hb hby at_49) k) ?_
      show Go p e below _ (T99.setTop (mkF m 50 #[.val (.int p0), .val (.int p1), .val (.int p2), .val (.int p3), .val (.int p4), .val (.int p5), .val (.int (2 : Int32)), .val (.int (3 : Int32)), .val (.ref b97), .val (.int (p5.toInt8.toInt32)), .unset] [(.int (1 : Int32)), (.ref b97)]))
      refine Go.st (fun _ k => XS.iload X99.here hx rfl (hb hby at_50) rfl k) ?_
      show Go p e below _ (T99.setTop (mkF m 52 #[.val (.int p0), .val (.int p1), .val (.int p2), .val (.int p3), .val (.int p4), .val (.int p5), .val (.int (2 : Int32)), .val (.int (3 : Int32)), .val (.ref b97), .val (.int (p5.toInt8.toInt32)), .unset] [(.int (p5.toInt8.toInt32)), (.int (1 : Int32)), (.ref b97)]))
      obtain ⟨cl100, Ar100, ck100, Sz100, Nn100, Hs100, Gs100⟩ := id V99
      have hin100 : ¬ ((1 : Int32) < 0 ∨ cl100.slots.size ≤ ((1 : Int32)).toNatClampNeg) := inb_of Sz100 ⟨by decide, by decide⟩
      obtain ⟨T101, h101, X101, e101, W101, st101⟩ := stB X99 hx hZ e99 Ar100 (j := (1 : Int32)) hin100 (g := (mkF m 52 #[.val (.int p0), .val (.int p1), .val (.int p2), .val (.int p3), .val (.int p4), .val (.int p5), .val (.int (2 : Int32)), .val (.int (3 : Int32)), .val (.ref b97), .val (.int (p5.toInt8.toInt32)), .unset] [(.int (p5.toInt8.toInt32)), (.int (1 : Int32)), (.ref b97)])) rfl rfl (hb hby at_52)
      have V101 : Arv Z h101 b97 k97 .byte (5 : Int32) [(.int (nar .byte (p5.toInt8.toInt32))), (.int (nar .byte (p5.toInt8.toInt32))), (.int (0 : Int32)), (.int (0 : Int32)), (.int (0 : Int32))] (.int (0 : Int32)) := Arv.set Ar100 ck100 Sz100 Nn100 Hs100 Gs100 (fits_nar_byte _) W101 1 rfl (Nat.le_of_ble_eq_true rfl)
      have N101 := Fr.snoc X101 N99 gg97
      have Z101 : n0 ≤ h101.size := by rw [W101.size]; exact Z99
      refine Go.st (fun _ k => st101 _ k) ?_
      show Go p e below _ (T101.setTop (mkF m 53 #[.val (.int p0), .val (.int p1), .val (.int p2), .val (.int p3), .val (.int p4), .val (.int p5), .val (.int (2 : Int32)), .val (.int (3 : Int32)), .val (.ref b97), .val (.int (p5.toInt8.toInt32)), .unset] []))
      refine Go.st (fun _ k => XS.iload X101.here hx rfl (hb hby at_53) rfl k) ?_
      refine Go.st (fun _ k => XS.iconst X101.here hx rfl (hb hby at_55) k) ?_
      show Go p e below _ (T101.setTop (mkF m 56 #[.val (.int p0), .val (.int p1), .val (.int p2), .val (.int p3), .val (.int p4), .val (.int p5), .val (.int (2 : Int32)), .val (.int (3 : Int32)), .val (.ref b97), .val (.int (p5.toInt8.toInt32)), .unset] [(.int (2 : Int32)), (.int (2 : Int32))]))
      refine Go.st (fun _ k => XS.icmpYes X101.here hx rfl (pc0 := 56) (pc' := 65) rfl (hb hby at_56) rfl (flt (by decide : ¬ ((2 : Int32) < (2 : Int32)))).2.2.2 (by decide) (by decide) k) ?_
      show Go p e below _ (T101.setTop (mkF m 65 #[.val (.int p0), .val (.int p1), .val (.int p2), .val (.int p3), .val (.int p4), .val (.int p5), .val (.int (2 : Int32)), .val (.int (3 : Int32)), .val (.ref b97), .val (.int (p5.toInt8.toInt32)), .unset] []))
      refine Go.st (fun _ k => XS.aload X101.here hx rfl (hb hby at_65) rfl rfl k) ?_
      refine Go.st (fun _ k => XS.iload X101.here hx rfl (hb hby at_67) rfl k) ?_
      show Go p e below _ (T101.setTop (mkF m 69 #[.val (.int p0), .val (.int p1), .val (.int p2), .val (.int p3), .val (.int p4), .val (.int p5), .val (.int (2 : Int32)), .val (.int (3 : Int32)), .val (.ref b97), .val (.int (p5.toInt8.toInt32)), .unset] [(.int (2 : Int32)), (.ref b97)]))
      refine Go.st (fun _ k => XS.iloadN X101.here hx rfl (hb hby at_69) rfl k) ?_
      refine Go.st (fun _ k => XS.i2b X101.here hx rfl (hb hby at_70) rfl k) ?_
      show Go p e below _ (T101.setTop (mkF m 71 #[.val (.int p0), .val (.int p1), .val (.int p2), .val (.int p3), .val (.int p4), .val (.int p5), .val (.int (2 : Int32)), .val (.int (3 : Int32)), .val (.ref b97), .val (.int (p5.toInt8.toInt32)), .unset] [(.int (p0.toInt8.toInt32)), (.int (2 : Int32)), (.ref b97)]))
      obtain ⟨cl102, Ar102, ck102, Sz102, Nn102, Hs102, Gs102⟩ := id V101
      have hin102 : ¬ ((2 : Int32) < 0 ∨ cl102.slots.size ≤ ((2 : Int32)).toNatClampNeg) := inb_of Sz102 ⟨by decide, by decide⟩
      obtain ⟨T103, h103, X103, e103, W103, st103⟩ := stB X101 hx hZ e101 Ar102 (j := (2 : Int32)) hin102 (g := (mkF m 71 #[.val (.int p0), .val (.int p1), .val (.int p2), .val (.int p3), .val (.int p4), .val (.int p5), .val (.int (2 : Int32)), .val (.int (3 : Int32)), .val (.ref b97), .val (.int (p5.toInt8.toInt32)), .unset] [(.int (p0.toInt8.toInt32)), (.int (2 : Int32)), (.ref b97)])) rfl rfl (hb hby at_71)
      have V103 : Arv Z h103 b97 k97 .byte (5 : Int32) [(.int (nar .byte (p5.toInt8.toInt32))), (.int (nar .byte (p5.toInt8.toInt32))), (.int (nar .byte (p0.toInt8.toInt32))), (.int (0 : Int32)), (.int (0 : Int32))] (.int (0 : Int32)) := Arv.set Ar102 ck102 Sz102 Nn102 Hs102 Gs102 (fits_nar_byte _) W103 2 rfl (Nat.le_of_ble_eq_true rfl)
      have N103 := Fr.snoc X103 N101 gg97
      have Z103 : n0 ≤ h103.size := by rw [W103.size]; exact Z101
      refine Go.st (fun _ k => st103 _ k) ?_
      show Go p e below _ (T103.setTop (mkF m 72 #[.val (.int p0), .val (.int p1), .val (.int p2), .val (.int p3), .val (.int p4), .val (.int p5), .val (.int (2 : Int32)), .val (.int (3 : Int32)), .val (.ref b97), .val (.int (p5.toInt8.toInt32)), .unset] []))
      refine Go.st (fun _ k => XS.iload X103.here hx rfl (hb hby at_72) rfl k) ?_
      refine Go.st (fun _ k => XS.iconst X103.here hx rfl (hb hby at_74) k) ?_
      show Go p e below _ (T103.setTop (mkF m 75 #[.val (.int p0), .val (.int p1), .val (.int p2), .val (.int p3), .val (.int p4), .val (.int p5), .val (.int (2 : Int32)), .val (.int (3 : Int32)), .val (.ref b97), .val (.int (p5.toInt8.toInt32)), .unset] [(.int (1 : Int32)), (.int (3 : Int32))]))
      refine Go.st (fun _ k => XS.icmpNo X103.here hx rfl (hb hby at_75) rfl (tlt (by decide : ((1 : Int32) < (3 : Int32)))).2.2.2 k) ?_
      show Go p e below _ (T103.setTop (mkF m 78 #[.val (.int p0), .val (.int p1), .val (.int p2), .val (.int p3), .val (.int p4), .val (.int p5), .val (.int (2 : Int32)), .val (.int (3 : Int32)), .val (.ref b97), .val (.int (p5.toInt8.toInt32)), .unset] []))
      refine Go.st (fun _ k => XS.aload X103.here hx rfl (hb hby at_78) rfl rfl k) ?_
      refine Go.st (fun _ k => XS.iload X103.here hx rfl (hb hby at_80) rfl k) ?_
      show Go p e below _ (T103.setTop (mkF m 82 #[.val (.int p0), .val (.int p1), .val (.int p2), .val (.int p3), .val (.int p4), .val (.int p5), .val (.int (2 : Int32)), .val (.int (3 : Int32)), .val (.ref b97), .val (.int (p5.toInt8.toInt32)), .unset] [(.int (2 : Int32)), (.ref b97)]))
      refine Go.st (fun _ k => XS.iconst X103.here hx rfl (hb hby at_82) k) ?_
      refine Go.st (fun _ k => XS.iadd X103.here hx rfl (hb hby at_83) rfl k) ?_
      show Go p e below _ (T103.setTop (mkF m 84 #[.val (.int p0), .val (.int p1), .val (.int p2), .val (.int p3), .val (.int p4), .val (.int p5), .val (.int (2 : Int32)), .val (.int (3 : Int32)), .val (.ref b97), .val (.int (p5.toInt8.toInt32)), .unset] [(.int (3 : Int32)), (.ref b97)]))
      refine Go.st (fun _ k => XS.iloadN X103.here hx rfl (hb hby at_84) rfl k) ?_
      refine Go.st (fun _ k => XS.i2b X103.here hx rfl (hb hby at_85) rfl k) ?_
      show Go p e below _ (T103.setTop (mkF m 86 #[.val (.int p0), .val (.int p1), .val (.int p2), .val (.int p3), .val (.int p4), .val (.int p5), .val (.int (2 : Int32)), .val (.int (3 : Int32)), .val (.ref b97), .val (.int (p5.toInt8.toInt32)), .unset] [(.int (p1.toInt8.toInt32)), (.int (3 : Int32)), (.ref b97)]))
      obtain ⟨cl104, Ar104, ck104, Sz104, Nn104, Hs104, Gs104⟩ := id V103
      have hin104 : ¬ ((3 : Int32) < 0 ∨ cl104.slots.size ≤ ((3 : Int32)).toNatClampNeg) := inb_of Sz104 ⟨by decide, by decide⟩
      obtain ⟨T105, h105, X105, e105, W105, st105⟩ := stB X103 hx hZ e103 Ar104 (j := (3 : Int32)) hin104 (g := (mkF m 86 #[.val (.int p0), .val (.int p1), .val (.int p2), .val (.int p3), .val (.int p4), .val (.int p5), .val (.int (2 : Int32)), .val (.int (3 : Int32)), .val (.ref b97), .val (.int (p5.toInt8.toInt32)), .unset] [(.int (p1.toInt8.toInt32)), (.int (3 : Int32)), (.ref b97)])) rfl rfl (hb hby at_86)
      have V105 : Arv Z h105 b97 k97 .byte (5 : Int32) [(.int (nar .byte (p5.toInt8.toInt32))), (.int (nar .byte (p5.toInt8.toInt32))), (.int (nar .byte (p0.toInt8.toInt32))), (.int (nar .byte (p1.toInt8.toInt32))), (.int (0 : Int32))] (.int (0 : Int32)) := Arv.set Ar104 ck104 Sz104 Nn104 Hs104 Gs104 (fits_nar_byte _) W105 3 rfl (Nat.le_of_ble_eq_true rfl)
      have N105 := Fr.snoc X105 N103 gg97
      have Z105 : n0 ≤ h105.size := by rw [W105.size]; exact Z103
      refine Go.st (fun _ k => st105 _ k) ?_
      show Go p e below _ (T105.setTop (mkF m 87 #[.val (.int p0), .val (.int p1), .val (.int p2), .val (.int p3), .val (.int p4), .val (.int p5), .val (.int (2 : Int32)), .val (.int (3 : Int32)), .val (.ref b97), .val (.int (p5.toInt8.toInt32)), .unset] []))
      refine Go.st (fun _ k => XS.iload X105.here hx rfl (hb hby at_87) rfl k) ?_
      refine Go.st (fun _ k => XS.iconst X105.here hx rfl (hb hby at_89) k) ?_
      show Go p e below _ (T105.setTop (mkF m 90 #[.val (.int p0), .val (.int p1), .val (.int p2), .val (.int p3), .val (.int p4), .val (.int p5), .val (.int (2 : Int32)), .val (.int (3 : Int32)), .val (.ref b97), .val (.int (p5.toInt8.toInt32)), .unset] [(.int (2 : Int32)), (.int (3 : Int32))]))
      refine Go.st (fun _ k => XS.icmpNo X105.here hx rfl (hb hby at_90) rfl (tlt (by decide : ((2 : Int32) < (3 : Int32)))).2.2.2 k) ?_
      show Go p e below _ (T105.setTop (mkF m 93 #[.val (.int p0), .val (.int p1), .val (.int p2), .val (.int p3), .val (.int p4), .val (.int p5), .val (.int (2 : Int32)), .val (.int (3 : Int32)), .val (.ref b97), .val (.int (p5.toInt8.toInt32)), .unset] []))
      refine Go.st (fun _ k => XS.aload X105.here hx rfl (hb hby at_93) rfl rfl k) ?_
      refine Go.st (fun _ k => XS.iload X105.here hx rfl (hb hby at_95) rfl k) ?_
      show Go p e below _ (T105.setTop (mkF m 97 #[.val (.int p0), .val (.int p1), .val (.int p2), .val (.int p3), .val (.int p4), .val (.int p5), .val (.int (2 : Int32)), .val (.int (3 : Int32)), .val (.ref b97), .val (.int (p5.toInt8.toInt32)), .unset] [(.int (2 : Int32)), (.ref b97)]))
      refine Go.st (fun _ k => XS.iconst X105.here hx rfl (hb hby at_97) k) ?_
      refine Go.st (fun _ k => XS.iadd X105.here hx rfl (hb hby at_98) rfl k) ?_
      show Go p e below _ (T105.setTop (mkF m 99 #[.val (.int p0), .val (.int p1), .val (.int p2), .val (.int p3), .val (.int p4), .val (.int p5), .val (.int (2 : Int32)), .val (.int (3 : Int32)), .val (.ref b97), .val (.int (p5.toInt8.toInt32)), .unset] [(.int (4 : Int32)), (.ref b97)]))
      refine Go.st (fun _ k => XS.iloadN X105.here hx rfl (hb hby at_99) rfl k) ?_
      refine Go.st (fun _ k => XS.i2b X105.here hx rfl (hb hby at_100) rfl k) ?_
      show Go p e below _ (T105.setTop (mkF m 101 #[.val (.int p0), .val (.int p1), .val (.int p2), .val (.int p3), .val (.int p4), .val (.int p5), .val (.int (2 : Int32)), .val (.int (3 : Int32)), .val (.ref b97), .val (.int (p5.toInt8.toInt32)), .unset] [(.int (p2.toInt8.toInt32)), (.int (4 : Int32)), (.ref b97)]))
      obtain ⟨cl106, Ar106, ck106, Sz106, Nn106, Hs106, Gs106⟩ := id V105
      have hin106 : ¬ ((4 : Int32) < 0 ∨ cl106.slots.size ≤ ((4 : Int32)).toNatClampNeg) := inb_of Sz106 ⟨by decide, by decide⟩
      obtain ⟨T107, h107, X107, e107, W107, st107⟩ := stB X105 hx hZ e105 Ar106 (j := (4 : Int32)) hin106 (g := (mkF m 101 #[.val (.int p0), .val (.int p1), .val (.int p2), .val (.int p3), .val (.int p4), .val (.int p5), .val (.int (2 : Int32)), .val (.int (3 : Int32)), .val (.ref b97), .val (.int (p5.toInt8.toInt32)), .unset] [(.int (p2.toInt8.toInt32)), (.int (4 : Int32)), (.ref b97)])) rfl rfl (hb hby at_101)
      have V107 : Arv Z h107 b97 k97 .byte (5 : Int32) [(.int (nar .byte (p5.toInt8.toInt32))), (.int (nar .byte (p5.toInt8.toInt32))), (.int (nar .byte (p0.toInt8.toInt32))), (.int (nar .byte (p1.toInt8.toInt32))), (.int (nar .byte (p2.toInt8.toInt32)))] (.int (0 : Int32)) := Arv.set Ar106 ck106 Sz106 Nn106 Hs106 Gs106 (fits_nar_byte _) W107 4 rfl (Nat.le_of_ble_eq_true rfl)
      have N107 := Fr.snoc X107 N105 gg97
      have Z107 : n0 ≤ h107.size := by rw [W107.size]; exact Z105
      refine Go.st (fun _ k => st107 _ k) ?_
      show Go p e below _ (T107.setTop (mkF m 102 #[.val (.int p0), .val (.int p1), .val (.int p2), .val (.int p3), .val (.int p4), .val (.int p5), .val (.int (2 : Int32)), .val (.int (3 : Int32)), .val (.ref b97), .val (.int (p5.toInt8.toInt32)), .unset] []))
      refine Go.st (fun _ k => XS.iload X107.here hx rfl (hb hby at_102) rfl k) ?_
      refine Go.st (fun _ k => XS.iconst X107.here hx rfl (hb hby at_104) k) ?_
      show Go p e below _ (T107.setTop (mkF m 105 #[.val (.int p0), .val (.int p1), .val (.int p2), .val (.int p3), .val (.int p4), .val (.int p5), .val (.int (2 : Int32)), .val (.int (3 : Int32)), .val (.ref b97), .val (.int (p5.toInt8.toInt32)), .unset] [(.int (3 : Int32)), (.int (3 : Int32))]))
      refine Go.st (fun _ k => XS.icmpYes X107.here hx rfl (pc0 := 105) (pc' := 117) rfl (hb hby at_105) rfl (flt (by decide : ¬ ((3 : Int32) < (3 : Int32)))).2.2.2 (by decide) (by decide) k) ?_
      show Go p e below _ (T107.setTop (mkF m 117 #[.val (.int p0), .val (.int p1), .val (.int p2), .val (.int p3), .val (.int p4), .val (.int p5), .val (.int (2 : Int32)), .val (.int (3 : Int32)), .val (.ref b97), .val (.int (p5.toInt8.toInt32)), .unset] []))
      refine Go.st (fun _ k => XS.aload X107.here hx rfl (hb hby at_117) rfl rfl k) ?_
      refine Go.st (fun _ k => XS.iload X107.here hx rfl (hb hby at_119) rfl k) ?_
      show Go p e below _ (T107.setTop (mkF m 121 #[.val (.int p0), .val (.int p1), .val (.int p2), .val (.int p3), .val (.int p4), .val (.int p5), .val (.int (2 : Int32)), .val (.int (3 : Int32)), .val (.ref b97), .val (.int (p5.toInt8.toInt32)), .unset] [(.int (2 : Int32)), (.ref b97)]))
      obtain ⟨_, _, ⟨T108, L108, k108, n108⟩, -, X108, ⟨Lc108, hQ108, l108, y108, z108⟩, st108⟩ := Jvm.LawKit.callS X107 hx (y := (⟨"com/example/apportis/apportis/Utf8", "characterEnd", "([BI)I"⟩ : MethodName)) hown (mvT hZ (hw _ (List.mem_of_getElem? (i := 1) rfl))) (mvT hZ (hw _ (List.mem_of_getElem? (i := 2) rfl))) (mvT hZ (hw _ (List.mem_of_getElem? (i := 3) rfl))) (mvT hZ (hw _ (List.mem_of_getElem? (i := 4) rfl))) (by decide) (backOf (W := 0) (rmCE l Z aZ hw [] (nar .byte (p0.toInt8.toInt32)) (nar .byte (p1.toInt8.toInt32)) (nar .byte (p2.toInt8.toInt32)) (0 : Int32) b97 (2 : Int32) k97 (5 : Int32) [(.int (nar .byte (p5.toInt8.toInt32))), (.int (nar .byte (p5.toInt8.toInt32))), (.int (nar .byte (p0.toInt8.toInt32))), (.int (nar .byte (p1.toInt8.toInt32))), (.int (nar .byte (p2.toInt8.toInt32)))] h107 n0 (by decide) (by decide) (by decide) rfl (fun _ => rfl) (fun _ => rfl) (fun h => absurd h (by decide)) V107) hZ (hw _ (List.mem_of_getElem? (i := 4) rfl)) (hw _ (List.mem_of_getElem? (i := 3) rfl)) (by decide) (by decide)) (g := (mkF m 121 #[.val (.int p0), .val (.int p1), .val (.int p2), .val (.int p3), .val (.int p4), .val (.int p5), .val (.int (2 : Int32)), .val (.int (3 : Int32)), .val (.ref b97), .val (.int (p5.toInt8.toInt32)), .unset] [(.int (2 : Int32)), (.ref b97)])) rfl (by rw [hml]; rfl) (argsL := [(.ref b97), (.int (2 : Int32))]) (rest := []) (lenOf pd92f6cd8e rfl) rfl (by show 2 * 0 + _ ≤ _; exact Nat.le_of_eq rfl) (hb hby at_121) (fun _ _ => ⟨rfl, e107, (by decide : 1 + 0 ≤ _), (by decide : 5 + 0 ≤ _)⟩)
      dsimp only [Pt.U, Pt.locs, Pt.cells, Pt.slots] at X108 l108 y108 z108 st108 hQ108
      subst l108 y108 z108
      obtain ⟨rfl, N108q, e108⟩ := hQ108
      have N108 := Fr.app N107 N108q
      refine Go.st (fun _ k => st108 _ k) ?_
      show Go p e below _ (T108.setTop (mkF m 124 #[.val (.int p0), .val (.int p1), .val (.int p2), .val (.int p3), .val (.int p4), .val (.int p5), .val (.int (2 : Int32)), .val (.int (3 : Int32)), .val (.ref b97), .val (.int (p5.toInt8.toInt32)), .unset] [(.int (fCE (nar .byte (p0.toInt8.toInt32)) (nar .byte (p1.toInt8.toInt32)) (nar .byte (p2.toInt8.toInt32)) (0 : Int32) (2 : Int32) (5 : Int32)))]))
      refine Go.st (fun _ k => XS.istore X108.here hx rfl (hb hby at_124) rfl (l' := #[.val (.int p0), .val (.int p1), .val (.int p2), .val (.int p3), .val (.int p4), .val (.int p5), .val (.int (2 : Int32)), .val (.int (3 : Int32)), .val (.ref b97), .val (.int (p5.toInt8.toInt32)), .val (.int (fCE (nar .byte (p0.toInt8.toInt32)) (nar .byte (p1.toInt8.toInt32)) (nar .byte (p2.toInt8.toInt32)) (0 : Int32) (2 : Int32) (5 : Int32)))]) rfl k) ?_
      show Go p e below _ (T108.setTop (mkF m 126 #[.val (.int p0), .val (.int p1), .val (.int p2), .val (.int p3), .val (.int p4), .val (.int p5), .val (.int (2 : Int32)), .val (.int (3 : Int32)), .val (.ref b97), .val (.int (p5.toInt8.toInt32)), .val (.int (fCE (nar .byte (p0.toInt8.toInt32)) (nar .byte (p1.toInt8.toInt32)) (nar .byte (p2.toInt8.toInt32)) (0 : Int32) (2 : Int32) (5 : Int32)))] []))
      refine Go.st (fun _ k => XS.iload X108.here hx rfl (hb hby at_126) rfl k) ?_
      refine Go.st (fun _ k => XS.iloadN X108.here hx rfl (hb hby at_128) rfl k) ?_
      show Go p e below _ (T108.setTop (mkF m 129 #[.val (.int p0), .val (.int p1), .val (.int p2), .val (.int p3), .val (.int p4), .val (.int p5), .val (.int (2 : Int32)), .val (.int (3 : Int32)), .val (.ref b97), .val (.int (p5.toInt8.toInt32)), .val (.int (fCE (nar .byte (p0.toInt8.toInt32)) (nar .byte (p1.toInt8.toInt32)) (nar .byte (p2.toInt8.toInt32)) (0 : Int32) (2 : Int32) (5 : Int32)))] [(.int p0), (.int (fCE (nar .byte (p0.toInt8.toInt32)) (nar .byte (p1.toInt8.toInt32)) (nar .byte (p2.toInt8.toInt32)) (0 : Int32) (2 : Int32) (5 : Int32)))]))
      refine Go.st (fun _ k => XS.sipush X108.here hx rfl (hb hby at_129) k) ?_
      refine Go.st (fun _ k => XS.iand X108.here hx rfl (hb hby at_132) rfl k) ?_
      show Go p e below _ (T108.setTop (mkF m 133 #[.val (.int p0), .val (.int p1), .val (.int p2), .val (.int p3), .val (.int p4), .val (.int p5), .val (.int (2 : Int32)), .val (.int (3 : Int32)), .val (.ref b97), .val (.int (p5.toInt8.toInt32)), .val (.int (fCE (nar .byte (p0.toInt8.toInt32)) (nar .byte (p1.toInt8.toInt32)) (nar .byte (p2.toInt8.toInt32)) (0 : Int32) (2 : Int32) (5 : Int32)))] [(.int (p0 &&& (255 : Int32))), (.int (fCE (nar .byte (p0.toInt8.toInt32)) (nar .byte (p1.toInt8.toInt32)) (nar .byte (p2.toInt8.toInt32)) (0 : Int32) (2 : Int32) (5 : Int32)))]))
      refine Go.st (fun _ k => XS.iloadN X108.here hx rfl (hb hby at_133) rfl k) ?_
      refine Go.st (fun _ k => XS.sipush X108.here hx rfl (hb hby at_134) k) ?_
      show Go p e below _ (T108.setTop (mkF m 137 #[.val (.int p0), .val (.int p1), .val (.int p2), .val (.int p3), .val (.int p4), .val (.int p5), .val (.int (2 : Int32)), .val (.int (3 : Int32)), .val (.ref b97), .val (.int (p5.toInt8.toInt32)), .val (.int (fCE (nar .byte (p0.toInt8.toInt32)) (nar .byte (p1.toInt8.toInt32)) (nar .byte (p2.toInt8.toInt32)) (0 : Int32) (2 : Int32) (5 : Int32)))] [(.int (255 : Int32)), (.int p1), (.int (p0 &&& (255 : Int32))), (.int (fCE (nar .byte (p0.toInt8.toInt32)) (nar .byte (p1.toInt8.toInt32)) (nar .byte (p2.toInt8.toInt32)) (0 : Int32) (2 : Int32) (5 : Int32)))]))
      refine Go.st (fun _ k => XS.iand X108.here hx rfl (hb hby at_137) rfl k) ?_
      refine Go.st (fun _ k => XS.iloadN X108.here hx rfl (hb hby at_138) rfl k) ?_
      show Go p e below _ (T108.setTop (mkF m 139 #[.val (.int p0), .val (.int p1), .val (.int p2), .val (.int p3), .val (.int p4), .val (.int p5), .val (.int (2 : Int32)), .val (.int (3 : Int32)), .val (.ref b97), .val (.int (p5.toInt8.toInt32)), .val (.int (fCE (nar .byte (p0.toInt8.toInt32)) (nar .byte (p1.toInt8.toInt32)) (nar .byte (p2.toInt8.toInt32)) (0 : Int32) (2 : Int32) (5 : Int32)))] [(.int p2), (.int (p1 &&& (255 : Int32))), (.int (p0 &&& (255 : Int32))), (.int (fCE (nar .byte (p0.toInt8.toInt32)) (nar .byte (p1.toInt8.toInt32)) (nar .byte (p2.toInt8.toInt32)) (0 : Int32) (2 : Int32) (5 : Int32)))]))
      refine Go.st (fun _ k => XS.sipush X108.here hx rfl (hb hby at_139) k) ?_
      refine Go.st (fun _ k => XS.iand X108.here hx rfl (hb hby at_142) rfl k) ?_
      show Go p e below _ (T108.setTop (mkF m 143 #[.val (.int p0), .val (.int p1), .val (.int p2), .val (.int p3), .val (.int p4), .val (.int p5), .val (.int (2 : Int32)), .val (.int (3 : Int32)), .val (.ref b97), .val (.int (p5.toInt8.toInt32)), .val (.int (fCE (nar .byte (p0.toInt8.toInt32)) (nar .byte (p1.toInt8.toInt32)) (nar .byte (p2.toInt8.toInt32)) (0 : Int32) (2 : Int32) (5 : Int32)))] [(.int (p2 &&& (255 : Int32))), (.int (p1 &&& (255 : Int32))), (.int (p0 &&& (255 : Int32))), (.int (fCE (nar .byte (p0.toInt8.toInt32)) (nar .byte (p1.toInt8.toInt32)) (nar .byte (p2.toInt8.toInt32)) (0 : Int32) (2 : Int32) (5 : Int32)))]))
      refine Go.st (fun _ k => XS.iloadN X108.here hx rfl (hb hby at_143) rfl k) ?_
      refine Go.st (fun _ k => XS.sipush X108.here hx rfl (hb hby at_144) k) ?_
      show Go p e below _ (T108.setTop (mkF m 147 #[.val (.int p0), .val (.int p1), .val (.int p2), .val (.int p3), .val (.int p4), .val (.int p5), .val (.int (2 : Int32)), .val (.int (3 : Int32)), .val (.ref b97), .val (.int (p5.toInt8.toInt32)), .val (.int (fCE (nar .byte (p0.toInt8.toInt32)) (nar .byte (p1.toInt8.toInt32)) (nar .byte (p2.toInt8.toInt32)) (0 : Int32) (2 : Int32) (5 : Int32)))] [(.int (255 : Int32)), (.int p3), (.int (p2 &&& (255 : Int32))), (.int (p1 &&& (255 : Int32))), (.int (p0 &&& (255 : Int32))), (.int (fCE (nar .byte (p0.toInt8.toInt32)) (nar .byte (p1.toInt8.toInt32)) (nar .byte (p2.toInt8.toInt32)) (0 : Int32) (2 : Int32) (5 : Int32)))]))
      refine Go.st (fun _ k => XS.iand X108.here hx rfl (hb hby at_147) rfl k) ?_
      refine Go.st (fun _ k => XS.iload X108.here hx rfl (hb hby at_148) rfl k) ?_
      show Go p e below _ (T108.setTop (mkF m 150 #[.val (.int p0), .val (.int p1), .val (.int p2), .val (.int p3), .val (.int p4), .val (.int p5), .val (.int (2 : Int32)), .val (.int (3 : Int32)), .val (.ref b97), .val (.int (p5.toInt8.toInt32)), .val (.int (fCE (nar .byte (p0.toInt8.toInt32)) (nar .byte (p1.toInt8.toInt32)) (nar .byte (p2.toInt8.toInt32)) (0 : Int32) (2 : Int32) (5 : Int32)))] [(.int (3 : Int32)), (.int (p3 &&& (255 : Int32))), (.int (p2 &&& (255 : Int32))), (.int (p1 &&& (255 : Int32))), (.int (p0 &&& (255 : Int32))), (.int (fCE (nar .byte (p0.toInt8.toInt32)) (nar .byte (p1.toInt8.toInt32)) (nar .byte (p2.toInt8.toInt32)) (0 : Int32) (2 : Int32) (5 : Int32)))]))
      refine Go.st (fun _ k => XS.iload X108.here hx rfl (hb hby at_150) rfl k) ?_
      show Go p e below _ (T108.setTop (mkF m 152 #[.val (.int p0), .val (.int p1), .val (.int p2), .val (.int p3), .val (.int p4), .val (.int p5), .val (.int (2 : Int32)), .val (.int (3 : Int32)), .val (.ref b97), .val (.int (p5.toInt8.toInt32)), .val (.int (fCE (nar .byte (p0.toInt8.toInt32)) (nar .byte (p1.toInt8.toInt32)) (nar .byte (p2.toInt8.toInt32)) (0 : Int32) (2 : Int32) (5 : Int32)))] [(.int (2 : Int32)), (.int (3 : Int32)), (.int (p3 &&& (255 : Int32))), (.int (p2 &&& (255 : Int32))), (.int (p1 &&& (255 : Int32))), (.int (p0 &&& (255 : Int32))), (.int (fCE (nar .byte (p0.toInt8.toInt32)) (nar .byte (p1.toInt8.toInt32)) (nar .byte (p2.toInt8.toInt32)) (0 : Int32) (2 : Int32) (5 : Int32)))]))
      obtain ⟨_, _, ⟨T109, L109, k109, n109⟩, -, X109, ⟨Lc109, hQ109, l109, y109, z109⟩, st109⟩ := Jvm.LawKit.callS X108 hx (y := (⟨"com/example/apportis/apportis/Utf8CharacterEndPinLaw", "expected", "(IIIIII)I"⟩ : MethodName)) hown (mvT hZ (hw _ (List.mem_of_getElem? (i := 5) rfl))) (mvT hZ (hw _ (List.mem_of_getElem? (i := 6) rfl))) (mvT hZ (hw _ (List.mem_of_getElem? (i := 7) rfl))) (mvT hZ (hw _ (List.mem_of_getElem? (i := 8) rfl))) (by decide) (backOf (W := 1) (rm2 l Z aZ hw [] (p0 &&& (255 : Int32)) (p1 &&& (255 : Int32)) (p2 &&& (255 : Int32)) (p3 &&& (255 : Int32)) (3 : Int32) (2 : Int32) h107 n0 ) hZ (hw _ (List.mem_of_getElem? (i := 8) rfl)) (hw _ (List.mem_of_getElem? (i := 7) rfl)) (by decide) (by decide)) (g := (mkF m 152 #[.val (.int p0), .val (.int p1), .val (.int p2), .val (.int p3), .val (.int p4), .val (.int p5), .val (.int (2 : Int32)), .val (.int (3 : Int32)), .val (.ref b97), .val (.int (p5.toInt8.toInt32)), .val (.int (fCE (nar .byte (p0.toInt8.toInt32)) (nar .byte (p1.toInt8.toInt32)) (nar .byte (p2.toInt8.toInt32)) (0 : Int32) (2 : Int32) (5 : Int32)))] [(.int (2 : Int32)), (.int (3 : Int32)), (.int (p3 &&& (255 : Int32))), (.int (p2 &&& (255 : Int32))), (.int (p1 &&& (255 : Int32))), (.int (p0 &&& (255 : Int32))), (.int (fCE (nar .byte (p0.toInt8.toInt32)) (nar .byte (p1.toInt8.toInt32)) (nar .byte (p2.toInt8.toInt32)) (0 : Int32) (2 : Int32) (5 : Int32)))])) rfl (by rw [hml]; rfl) (argsL := [(.int (p0 &&& (255 : Int32))), (.int (p1 &&& (255 : Int32))), (.int (p2 &&& (255 : Int32))), (.int (p3 &&& (255 : Int32))), (.int (3 : Int32)), (.int (2 : Int32))]) (rest := [(.int (fCE (nar .byte (p0.toInt8.toInt32)) (nar .byte (p1.toInt8.toInt32)) (nar .byte (p2.toInt8.toInt32)) (0 : Int32) (2 : Int32) (5 : Int32)))]) (lenOf pd41a2ea18 rfl) rfl (by show 2 * 0 + _ ≤ _; exact Nat.le_of_eq rfl) (hb hby at_152) (fun _ _ => ⟨rfl, e108, (by decide : 1 + 0 ≤ _), (by decide : 5 + 0 ≤ _)⟩)
      dsimp only [Pt.U, Pt.locs, Pt.cells, Pt.slots] at X109 l109 y109 z109 st109 hQ109
      subst l109 y109 z109
      obtain ⟨rfl, N109q, e109⟩ := hQ109
      have N109 := Fr.app N108 N109q
      refine Go.st (fun _ k => st109 _ k) ?_
      show Go p e below _ (T109.setTop (mkF m 155 #[.val (.int p0), .val (.int p1), .val (.int p2), .val (.int p3), .val (.int p4), .val (.int p5), .val (.int (2 : Int32)), .val (.int (3 : Int32)), .val (.ref b97), .val (.int (p5.toInt8.toInt32)), .val (.int (fCE (nar .byte (p0.toInt8.toInt32)) (nar .byte (p1.toInt8.toInt32)) (nar .byte (p2.toInt8.toInt32)) (0 : Int32) (2 : Int32) (5 : Int32)))] [(.int (fExp (p0 &&& (255 : Int32)) (p1 &&& (255 : Int32)) (p2 &&& (255 : Int32)) (p3 &&& (255 : Int32)) (3 : Int32) (2 : Int32))), (.int (fCE (nar .byte (p0.toInt8.toInt32)) (nar .byte (p1.toInt8.toInt32)) (nar .byte (p2.toInt8.toInt32)) (0 : Int32) (2 : Int32) (5 : Int32)))]))
      refine Go.st (fun _ k => XS.icmpNo X109.here hx rfl (hb hby at_155) rfl (teq (own_main p0 p1 p2 p3 (own_mask p0) (fun _ => own_mask p1) (fun _ => own_mask p2) (fun h => absurd h (by decide)) (by decide))).2 k) ?_
      show Go p e below _ (T109.setTop (mkF m 158 #[.val (.int p0), .val (.int p1), .val (.int p2), .val (.int p3), .val (.int p4), .val (.int p5), .val (.int (2 : Int32)), .val (.int (3 : Int32)), .val (.ref b97), .val (.int (p5.toInt8.toInt32)), .val (.int (fCE (nar .byte (p0.toInt8.toInt32)) (nar .byte (p1.toInt8.toInt32)) (nar .byte (p2.toInt8.toInt32)) (0 : Int32) (2 : Int32) (5 : Int32)))] []))
      refine Go.st (fun _ k => XS.iconst X109.here hx rfl (hb hby at_158) k) ?_
      refine Go.st (fun _ k => XS.goto X109.here hx rfl (pc0 := 159) (pc' := 163) rfl (hb hby at_159) (by decide) (by decide) k) ?_
      show Go p e below _ (T109.setTop (mkF m 163 #[.val (.int p0), .val (.int p1), .val (.int p2), .val (.int p3), .val (.int p4), .val (.int p5), .val (.int (2 : Int32)), .val (.int (3 : Int32)), .val (.ref b97), .val (.int (p5.toInt8.toInt32)), .val (.int (fCE (nar .byte (p0.toInt8.toInt32)) (nar .byte (p1.toInt8.toInt32)) (nar .byte (p2.toInt8.toInt32)) (0 : Int32) (2 : Int32) (5 : Int32)))] [(.int (1 : Int32))]))
      obtain ⟨fs, hr, hrun, hended, hW, hsame⟩ := X109.leave (v := some (.int (1 : Int32))) (fun h => by rw [Bd.returns] at h; cases h)
      refine ⟨_, _, retN X109 hx (t := .boolean) Bd.returns (by simp) (hb hby at_163) hr, hrun, hended, _, _, rfl, ?_, ⟨_, rfl⟩, hW, hsame.mono (by decide) (by decide)⟩
      show Q_rm0 Z p0 p1 p2 p3 p4 p5 h0 n0 _ T109.heap _
      rw [e109]
      exact ⟨rfl, N109⟩
    · rw [hr76]
      show Go p e below _ (s₁.setTop (mkF m 13 #[.val (.int p0), .val (.int p1), .val (.int p2), .val (.int p3), .val (.int p4), .val (.int p5), .val (.int (2 : Int32)), .unset, .unset, .unset, .unset] [(.int (3 : Int32)), (.int (1 : Int32))]))
      refine Go.st (fun _ k => XS.iadd X0.here hx rfl (hb hby at_13) rfl k) ?_
      refine Go.st (fun _ k => XS.istore X0.here hx rfl (hb hby at_14) rfl (l' := #[.val (.int p0), .val (.int p1), .val (.int p2), .val (.int p3), .val (.int p4), .val (.int p5), .val (.int (2 : Int32)), .val (.int (4 : Int32)), .unset, .unset, .unset]) rfl k) ?_
      show Go p e below _ (s₁.setTop (mkF m 16 #[.val (.int p0), .val (.int p1), .val (.int p2), .val (.int p3), .val (.int p4), .val (.int p5), .val (.int (2 : Int32)), .val (.int (4 : Int32)), .unset, .unset, .unset] []))
      refine Go.st (fun _ k => XS.iload X0.here hx rfl (hb hby at_16) rfl k) ?_
      refine Go.st (fun _ k => XS.iload X0.here hx rfl (hb hby at_18) rfl k) ?_
      show Go p e below _ (s₁.setTop (mkF m 20 #[.val (.int p0), .val (.int p1), .val (.int p2), .val (.int p3), .val (.int p4), .val (.int p5), .val (.int (2 : Int32)), .val (.int (4 : Int32)), .unset, .unset, .unset] [(.int (4 : Int32)), (.int (2 : Int32))]))
      refine Go.st (fun _ k => XS.iadd X0.here hx rfl (hb hby at_20) rfl k) ?_
      show Go p e below _ (s₁.setTop (mkF m 21 #[.val (.int p0), .val (.int p1), .val (.int p2), .val (.int p3), .val (.int p4), .val (.int p5), .val (.int (2 : Int32)), .val (.int (4 : Int32)), .unset, .unset, .unset] [(.int (6 : Int32))]))
      obtain ⟨T110, h110, k110, X110, e110, E110, A110, st110⟩ := newP X0 hx hZ (hw _ (List.mem_of_getElem? (i := 0) rfl)) e0 (g := (mkF m 21 #[.val (.int p0), .val (.int p1), .val (.int p2), .val (.int p3), .val (.int p4), .val (.int p5), .val (.int (2 : Int32)), .val (.int (4 : Int32)), .unset, .unset, .unset] [(.int (6 : Int32))])) rfl (hb hby at_21) rfl (by decide) (cap := 6) (by decide) (by decide) (by decide) (by decide)
      obtain ⟨b110, g110⟩ : ∃ z, z = h0.size := ⟨_, rfl⟩
      have gg110 : n0 ≤ b110 := Nat.le_trans Z0 (Nat.le_of_eq g110.symm)
      rw [← g110] at A110 st110
      have Z110 : n0 ≤ h110.size := Nat.le_trans Z0 E110.1
      have V110 : Arv Z h110 b110 k110 .byte (6 : Int32) [(.int (0 : Int32)), (.int (0 : Int32)), (.int (0 : Int32)), (.int (0 : Int32)), (.int (0 : Int32)), (.int (0 : Int32))] (.int (0 : Int32)) := (Arv.new A110 (by decide)).pad (pad_rep [] (.int (0 : Int32)) 6)
      refine Go.st (fun _ k => st110 _ k) ?_
      show Go p e below _ (T110.setTop (mkF m 23 #[.val (.int p0), .val (.int p1), .val (.int p2), .val (.int p3), .val (.int p4), .val (.int p5), .val (.int (2 : Int32)), .val (.int (4 : Int32)), .unset, .unset, .unset] [(.ref b110)]))
      refine Go.st (fun _ k => XS.astore X110.here hx rfl (hb hby at_23) rfl rfl (l' := #[.val (.int p0), .val (.int p1), .val (.int p2), .val (.int p3), .val (.int p4), .val (.int p5), .val (.int (2 : Int32)), .val (.int (4 : Int32)), .val (.ref b110), .unset, .unset]) rfl k) ?_
      show Go p e below _ (T110.setTop (mkF m 25 #[.val (.int p0), .val (.int p1), .val (.int p2), .val (.int p3), .val (.int p4), .val (.int p5), .val (.int (2 : Int32)), .val (.int (4 : Int32)), .val (.ref b110), .unset, .unset] []))
      refine Go.st (fun _ k => XS.iload X110.here hx rfl (hb hby at_25) rfl k) ?_
      refine Go.st (fun _ k => XS.i2b X110.here hx rfl (hb hby at_27) rfl k) ?_
      show Go p e below _ (T110.setTop (mkF m 28 #[.val (.int p0), .val (.int p1), .val (.int p2), .val (.int p3), .val (.int p4), .val (.int p5), .val (.int (2 : Int32)), .val (.int (4 : Int32)), .val (.ref b110), .unset, .unset] [(.int (p5.toInt8.toInt32))]))
      refine Go.st (fun _ k => XS.istore X110.here hx rfl (hb hby at_28) rfl (l' := #[.val (.int p0), .val (.int p1), .val (.int p2), .val (.int p3), .val (.int p4), .val (.int p5), .val (.int (2 : Int32)), .val (.int (4 : Int32)), .val (.ref b110), .val (.int (p5.toInt8.toInt32)), .unset]) rfl k) ?_
      show Go p e below _ (T110.setTop (mkF m 30 #[.val (.int p0), .val (.int p1), .val (.int p2), .val (.int p3), .val (.int p4), .val (.int p5), .val (.int (2 : Int32)), .val (.int (4 : Int32)), .val (.ref b110), .val (.int (p5.toInt8.toInt32)), .unset] []))
      refine Go.st (fun _ k => XS.iload X110.here hx rfl (hb hby at_30) rfl k) ?_
      refine Go.st (fun _ k => XS.ifNo X110.here hx rfl (hb hby at_32) rfl ((if0 _ _).trans (tlt (by decide : ((0 : Int32) < (2 : Int32)))).2.2.2) k) ?_
      show Go p e below _ (T110.setTop (mkF m 35 #[.val (.int p0), .val (.int p1), .val (.int p2), .val (.int p3), .val (.int p4), .val (.int p5), .val (.int (2 : Int32)), .val (.int (4 : Int32)), .val (.ref b110), .val (.int (p5.toInt8.toInt32)), .unset] []))
      refine Go.st (fun _ k => XS.aload X110.here hx rfl (hb hby at_35) rfl rfl k) ?_
      refine Go.st (fun _ k => XS.iconst X110.here hx rfl (hb hby at_37) k) ?_
      show Go p e below _ (T110.setTop (mkF m 38 #[.val (.int p0), .val (.int p1), .val (.int p2), .val (.int p3), .val (.int p4), .val (.int p5), .val (.int (2 : Int32)), .val (.int (4 : Int32)), .val (.ref b110), .val (.int (p5.toInt8.toInt32)), .unset] [(.int (0 : Int32)), (.ref b110)]))
      refine Go.st (fun _ k => XS.iload X110.here hx rfl (hb hby at_38) rfl k) ?_
      show Go p e below _ (T110.setTop (mkF m 40 #[.val (.int p0), .val (.int p1), .val (.int p2), .val (.int p3), .val (.int p4), .val (.int p5), .val (.int (2 : Int32)), .val (.int (4 : Int32)), .val (.ref b110), .val (.int (p5.toInt8.toInt32)), .unset] [(.int (p5.toInt8.toInt32)), (.int (0 : Int32)), (.ref b110)]))
      obtain ⟨cl111, Ar111, ck111, Sz111, Nn111, Hs111, Gs111⟩ := id V110
      have hin111 : ¬ ((0 : Int32) < 0 ∨ cl111.slots.size ≤ ((0 : Int32)).toNatClampNeg) := inb_of Sz111 ⟨by decide, by decide⟩
      obtain ⟨T112, h112, X112, e112, W112, st112⟩ := stB X110 hx hZ e110 Ar111 (j := (0 : Int32)) hin111 (g := (mkF m 40 #[.val (.int p0), .val (.int p1), .val (.int p2), .val (.int p3), .val (.int p4), .val (.int p5), .val (.int (2 : Int32)), .val (.int (4 : Int32)), .val (.ref b110), .val (.int (p5.toInt8.toInt32)), .unset] [(.int (p5.toInt8.toInt32)), (.int (0 : Int32)), (.ref b110)])) rfl rfl (hb hby at_40)
      have V112 : Arv Z h112 b110 k110 .byte (6 : Int32) [(.int (nar .byte (p5.toInt8.toInt32))), (.int (0 : Int32)), (.int (0 : Int32)), (.int (0 : Int32)), (.int (0 : Int32)), (.int (0 : Int32))] (.int (0 : Int32)) := Arv.set Ar111 ck111 Sz111 Nn111 Hs111 Gs111 (fits_nar_byte _) W112 0 rfl (Nat.le_of_ble_eq_true rfl)
      have N112 := Fr.snoc X112 N0 gg110
      have Z112 : n0 ≤ h112.size := by rw [W112.size]; exact Z110
      refine Go.st (fun _ k => st112 _ k) ?_
      show Go p e below _ (T112.setTop (mkF m 41 #[.val (.int p0), .val (.int p1), .val (.int p2), .val (.int p3), .val (.int p4), .val (.int p5), .val (.int (2 : Int32)), .val (.int (4 : Int32)), .val (.ref b110), .val (.int (p5.toInt8.toInt32)), .unset] []))
      refine Go.st (fun _ k => XS.iload X112.here hx rfl (hb hby at_41) rfl k) ?_
      refine Go.st (fun _ k => XS.iconst X112.here hx rfl (hb hby at_43) k) ?_
      show Go p e below _ (T112.setTop (mkF m 44 #[.val (.int p0), .val (.int p1), .val (.int p2), .val (.int p3), .val (.int p4), .val (.int p5), .val (.int (2 : Int32)), .val (.int (4 : Int32)), .val (.ref b110), .val (.int (p5.toInt8.toInt32)), .unset] [(.int (1 : Int32)), (.int (2 : Int32))]))
      refine Go.st (fun _ k => XS.icmpNo X112.here hx rfl (hb hby at_44) rfl (tlt (by decide : ((1 : Int32) < (2 : Int32)))).2.2.2 k) ?_
      show Go p e below _ (T112.setTop (mkF m 47 #[.val (.int p0), .val (.int p1), .val (.int p2), .val (.int p3), .val (.int p4), .val (.int p5), .val (.int (2 : Int32)), .val (.int (4 : Int32)), .val (.ref b110), .val (.int (p5.toInt8.toInt32)), .unset] []))
      refine Go.st (fun _ k => XS.aload X112.here hx rfl (hb hby at_47) rfl rfl k) ?_
      refine Go.st (fun _ k => XS.iconst X112.here hx rfl (hb hby at_49) k) ?_
      show Go p e below _ (T112.setTop (mkF m 50 #[.val (.int p0), .val (.int p1), .val (.int p2), .val (.int p3), .val (.int p4), .val (.int p5), .val (.int (2 : Int32)), .val (.int (4 : Int32)), .val (.ref b110), .val (.int (p5.toInt8.toInt32)), .unset] [(.int (1 : Int32)), (.ref b110)]))
      refine Go.st (fun _ k => XS.iload X112.here hx rfl (hb hby at_50) rfl k) ?_
      show Go p e below _ (T112.setTop (mkF m 52 #[.val (.int p0), .val (.int p1), .val (.int p2), .val (.int p3), .val (.int p4), .val (.int p5), .val (.int (2 : Int32)), .val (.int (4 : Int32)), .val (.ref b110), .val (.int (p5.toInt8.toInt32)), .unset] [(.int (p5.toInt8.toInt32)), (.int (1 : Int32)), (.ref b110)]))
      obtain ⟨cl113, Ar113, ck113, Sz113, Nn113, Hs113, Gs113⟩ := id V112
      have hin113 : ¬ ((1 : Int32) < 0 ∨ cl113.slots.size ≤ ((1 : Int32)).toNatClampNeg) := inb_of Sz113 ⟨by decide, by decide⟩
      obtain ⟨T114, h114, X114, e114, W114, st114⟩ := stB X112 hx hZ e112 Ar113 (j := (1 : Int32)) hin113 (g := (mkF m 52 #[.val (.int p0), .val (.int p1), .val (.int p2), .val (.int p3), .val (.int p4), .val (.int p5), .val (.int (2 : Int32)), .val (.int (4 : Int32)), .val (.ref b110), .val (.int (p5.toInt8.toInt32)), .unset] [(.int (p5.toInt8.toInt32)), (.int (1 : Int32)), (.ref b110)])) rfl rfl (hb hby at_52)
      have V114 : Arv Z h114 b110 k110 .byte (6 : Int32) [(.int (nar .byte (p5.toInt8.toInt32))), (.int (nar .byte (p5.toInt8.toInt32))), (.int (0 : Int32)), (.int (0 : Int32)), (.int (0 : Int32)), (.int (0 : Int32))] (.int (0 : Int32)) := Arv.set Ar113 ck113 Sz113 Nn113 Hs113 Gs113 (fits_nar_byte _) W114 1 rfl (Nat.le_of_ble_eq_true rfl)
      have N114 := Fr.snoc X114 N112 gg110
      have Z114 : n0 ≤ h114.size := by rw [W114.size]; exact Z112
      refine Go.st (fun _ k => st114 _ k) ?_
      show Go p e below _ (T114.setTop (mkF m 53 #[.val (.int p0), .val (.int p1), .val (.int p2), .val (.int p3), .val (.int p4), .val (.int p5), .val (.int (2 : Int32)), .val (.int (4 : Int32)), .val (.ref b110), .val (.int (p5.toInt8.toInt32)), .unset] []))
      refine Go.st (fun _ k => XS.iload X114.here hx rfl (hb hby at_53) rfl k) ?_
      refine Go.st (fun _ k => XS.iconst X114.here hx rfl (hb hby at_55) k) ?_
      show Go p e below _ (T114.setTop (mkF m 56 #[.val (.int p0), .val (.int p1), .val (.int p2), .val (.int p3), .val (.int p4), .val (.int p5), .val (.int (2 : Int32)), .val (.int (4 : Int32)), .val (.ref b110), .val (.int (p5.toInt8.toInt32)), .unset] [(.int (2 : Int32)), (.int (2 : Int32))]))
      refine Go.st (fun _ k => XS.icmpYes X114.here hx rfl (pc0 := 56) (pc' := 65) rfl (hb hby at_56) rfl (flt (by decide : ¬ ((2 : Int32) < (2 : Int32)))).2.2.2 (by decide) (by decide) k) ?_
      show Go p e below _ (T114.setTop (mkF m 65 #[.val (.int p0), .val (.int p1), .val (.int p2), .val (.int p3), .val (.int p4), .val (.int p5), .val (.int (2 : Int32)), .val (.int (4 : Int32)), .val (.ref b110), .val (.int (p5.toInt8.toInt32)), .unset] []))
      refine Go.st (fun _ k => XS.aload X114.here hx rfl (hb hby at_65) rfl rfl k) ?_
      refine Go.st (fun _ k => XS.iload X114.here hx rfl (hb hby at_67) rfl k) ?_
      show Go p e below _ (T114.setTop (mkF m 69 #[.val (.int p0), .val (.int p1), .val (.int p2), .val (.int p3), .val (.int p4), .val (.int p5), .val (.int (2 : Int32)), .val (.int (4 : Int32)), .val (.ref b110), .val (.int (p5.toInt8.toInt32)), .unset] [(.int (2 : Int32)), (.ref b110)]))
      refine Go.st (fun _ k => XS.iloadN X114.here hx rfl (hb hby at_69) rfl k) ?_
      refine Go.st (fun _ k => XS.i2b X114.here hx rfl (hb hby at_70) rfl k) ?_
      show Go p e below _ (T114.setTop (mkF m 71 #[.val (.int p0), .val (.int p1), .val (.int p2), .val (.int p3), .val (.int p4), .val (.int p5), .val (.int (2 : Int32)), .val (.int (4 : Int32)), .val (.ref b110), .val (.int (p5.toInt8.toInt32)), .unset] [(.int (p0.toInt8.toInt32)), (.int (2 : Int32)), (.ref b110)]))
      obtain ⟨cl115, Ar115, ck115, Sz115, Nn115, Hs115, Gs115⟩ := id V114
      have hin115 : ¬ ((2 : Int32) < 0 ∨ cl115.slots.size ≤ ((2 : Int32)).toNatClampNeg) := inb_of Sz115 ⟨by decide, by decide⟩
      obtain ⟨T116, h116, X116, e116, W116, st116⟩ := stB X114 hx hZ e114 Ar115 (j := (2 : Int32)) hin115 (g := (mkF m 71 #[.val (.int p0), .val (.int p1), .val (.int p2), .val (.int p3), .val (.int p4), .val (.int p5), .val (.int (2 : Int32)), .val (.int (4 : Int32)), .val (.ref b110), .val (.int (p5.toInt8.toInt32)), .unset] [(.int (p0.toInt8.toInt32)), (.int (2 : Int32)), (.ref b110)])) rfl rfl (hb hby at_71)
      have V116 : Arv Z h116 b110 k110 .byte (6 : Int32) [(.int (nar .byte (p5.toInt8.toInt32))), (.int (nar .byte (p5.toInt8.toInt32))), (.int (nar .byte (p0.toInt8.toInt32))), (.int (0 : Int32)), (.int (0 : Int32)), (.int (0 : Int32))] (.int (0 : Int32)) := Arv.set Ar115 ck115 Sz115 Nn115 Hs115 Gs115 (fits_nar_byte _) W116 2 rfl (Nat.le_of_ble_eq_true rfl)
      have N116 := Fr.snoc X116 N114 gg110
      have Z116 : n0 ≤ h116.size := by rw [W116.size]; exact Z114
      refine Go.st (fun _ k => st116 _ k) ?_
      show Go p e below _ (T116.setTop (mkF m 72 #[.val (.int p0), .val (.int p1), .val (.int p2), .val (.int p3), .val (.int p4), .val (.int p5), .val (.int (2 : Int32)), .val (.int (4 : Int32)), .val (.ref b110), .val (.int (p5.toInt8.toInt32)), .unset] []))
      refine Go.st (fun _ k => XS.iload X116.here hx rfl (hb hby at_72) rfl k) ?_
      refine Go.st (fun _ k => XS.iconst X116.here hx rfl (hb hby at_74) k) ?_
      show Go p e below _ (T116.setTop (mkF m 75 #[.val (.int p0), .val (.int p1), .val (.int p2), .val (.int p3), .val (.int p4), .val (.int p5), .val (.int (2 : Int32)), .val (.int (4 : Int32)), .val (.ref b110), .val (.int (p5.toInt8.toInt32)), .unset] [(.int (1 : Int32)), (.int (4 : Int32))]))
      refine Go.st (fun _ k => XS.icmpNo X116.here hx rfl (hb hby at_75) rfl (tlt (by decide : ((1 : Int32) < (4 : Int32)))).2.2.2 k) ?_
      show Go p e below _ (T116.setTop (mkF m 78 #[.val (.int p0), .val (.int p1), .val (.int p2), .val (.int p3), .val (.int p4), .val (.int p5), .val (.int (2 : Int32)), .val (.int (4 : Int32)), .val (.ref b110), .val (.int (p5.toInt8.toInt32)), .unset] []))
      refine Go.st (fun _ k => XS.aload X116.here hx rfl (hb hby at_78) rfl rfl k) ?_
      refine Go.st (fun _ k => XS.iload X116.here hx rfl (hb hby at_80) rfl k) ?_
      show Go p e below _ (T116.setTop (mkF m 82 #[.val (.int p0), .val (.int p1), .val (.int p2), .val (.int p3), .val (.int p4), .val (.int p5), .val (.int (2 : Int32)), .val (.int (4 : Int32)), .val (.ref b110), .val (.int (p5.toInt8.toInt32)), .unset] [(.int (2 : Int32)), (.ref b110)]))
      refine Go.st (fun _ k => XS.iconst X116.here hx rfl (hb hby at_82) k) ?_
      refine Go.st (fun _ k => XS.iadd X116.here hx rfl (hb hby at_83) rfl k) ?_
      show Go p e below _ (T116.setTop (mkF m 84 #[.val (.int p0), .val (.int p1), .val (.int p2), .val (.int p3), .val (.int p4), .val (.int p5), .val (.int (2 : Int32)), .val (.int (4 : Int32)), .val (.ref b110), .val (.int (p5.toInt8.toInt32)), .unset] [(.int (3 : Int32)), (.ref b110)]))
      refine Go.st (fun _ k => XS.iloadN X116.here hx rfl (hb hby at_84) rfl k) ?_
      refine Go.st (fun _ k => XS.i2b X116.here hx rfl (hb hby at_85) rfl k) ?_
      show Go p e below _ (T116.setTop (mkF m 86 #[.val (.int p0), .val (.int p1), .val (.int p2), .val (.int p3), .val (.int p4), .val (.int p5), .val (.int (2 : Int32)), .val (.int (4 : Int32)), .val (.ref b110), .val (.int (p5.toInt8.toInt32)), .unset] [(.int (p1.toInt8.toInt32)), (.int (3 : Int32)), (.ref b110)]))
      obtain ⟨cl117, Ar117, ck117, Sz117, Nn117, Hs117, Gs117⟩ := id V116
      have hin117 : ¬ ((3 : Int32) < 0 ∨ cl117.slots.size ≤ ((3 : Int32)).toNatClampNeg) := inb_of Sz117 ⟨by decide, by decide⟩
      obtain ⟨T118, h118, X118, e118, W118, st118⟩ := stB X116 hx hZ e116 Ar117 (j := (3 : Int32)) hin117 (g := (mkF m 86 #[.val (.int p0), .val (.int p1), .val (.int p2), .val (.int p3), .val (.int p4), .val (.int p5), .val (.int (2 : Int32)), .val (.int (4 : Int32)), .val (.ref b110), .val (.int (p5.toInt8.toInt32)), .unset] [(.int (p1.toInt8.toInt32)), (.int (3 : Int32)), (.ref b110)])) rfl rfl (hb hby at_86)
      have V118 : Arv Z h118 b110 k110 .byte (6 : Int32) [(.int (nar .byte (p5.toInt8.toInt32))), (.int (nar .byte (p5.toInt8.toInt32))), (.int (nar .byte (p0.toInt8.toInt32))), (.int (nar .byte (p1.toInt8.toInt32))), (.int (0 : Int32)), (.int (0 : Int32))] (.int (0 : Int32)) := Arv.set Ar117 ck117 Sz117 Nn117 Hs117 Gs117 (fits_nar_byte _) W118 3 rfl (Nat.le_of_ble_eq_true rfl)
      have N118 := Fr.snoc X118 N116 gg110
      have Z118 : n0 ≤ h118.size := by rw [W118.size]; exact Z116
      refine Go.st (fun _ k => st118 _ k) ?_
      show Go p e below _ (T118.setTop (mkF m 87 #[.val (.int p0), .val (.int p1), .val (.int p2), .val (.int p3), .val (.int p4), .val (.int p5), .val (.int (2 : Int32)), .val (.int (4 : Int32)), .val (.ref b110), .val (.int (p5.toInt8.toInt32)), .unset] []))
      refine Go.st (fun _ k => XS.iload X118.here hx rfl (hb hby at_87) rfl k) ?_
      refine Go.st (fun _ k => XS.iconst X118.here hx rfl (hb hby at_89) k) ?_
      show Go p e below _ (T118.setTop (mkF m 90 #[.val (.int p0), .val (.int p1), .val (.int p2), .val (.int p3), .val (.int p4), .val (.int p5), .val (.int (2 : Int32)), .val (.int (4 : Int32)), .val (.ref b110), .val (.int (p5.toInt8.toInt32)), .unset] [(.int (2 : Int32)), (.int (4 : Int32))]))
      refine Go.st (fun _ k => XS.icmpNo X118.here hx rfl (hb hby at_90) rfl (tlt (by decide : ((2 : Int32) < (4 : Int32)))).2.2.2 k) ?_
      show Go p e below _ (T118.setTop (mkF m 93 #[.val (.int p0), .val (.int p1), .val (.int p2), .val (.int p3), .val (.int p4), .val (.int p5), .val (.int (2 : Int32)), .val (.int (4 : Int32)), .val (.ref b110), .val (.int (p5.toInt8.toInt32)), .unset] []))
      refine Go.st (fun _ k => XS.aload X118.here hx rfl (hb hby at_93) rfl rfl k) ?_
      refine Go.st (fun _ k => XS.iload X118.here hx rfl (hb hby at_95) rfl k) ?_
      show Go p e below _ (T118.setTop (mkF m 97 #[.val (.int p0), .val (.int p1), .val (.int p2), .val (.int p3), .val (.int p4), .val (.int p5), .val (.int (2 : Int32)), .val (.int (4 : Int32)), .val (.ref b110), .val (.int (p5.toInt8.toInt32)), .unset] [(.int (2 : Int32)), (.ref b110)]))
      refine Go.st (fun _ k => XS.iconst X118.here hx rfl (hb hby at_97) k) ?_
      refine Go.st (fun _ k => XS.iadd X118.here hx rfl (hb hby at_98) rfl k) ?_
      show Go p e below _ (T118.setTop (mkF m 99 #[.val (.int p0), .val (.int p1), .val (.int p2), .val (.int p3), .val (.int p4), .val (.int p5), .val (.int (2 : Int32)), .val (.int (4 : Int32)), .val (.ref b110), .val (.int (p5.toInt8.toInt32)), .unset] [(.int (4 : Int32)), (.ref b110)]))
      refine Go.st (fun _ k => XS.iloadN X118.here hx rfl (hb hby at_99) rfl k) ?_
      refine Go.st (fun _ k => XS.i2b X118.here hx rfl (hb hby at_100) rfl k) ?_
      show Go p e below _ (T118.setTop (mkF m 101 #[.val (.int p0), .val (.int p1), .val (.int p2), .val (.int p3), .val (.int p4), .val (.int p5), .val (.int (2 : Int32)), .val (.int (4 : Int32)), .val (.ref b110), .val (.int (p5.toInt8.toInt32)), .unset] [(.int (p2.toInt8.toInt32)), (.int (4 : Int32)), (.ref b110)]))
      obtain ⟨cl119, Ar119, ck119, Sz119, Nn119, Hs119, Gs119⟩ := id V118
      have hin119 : ¬ ((4 : Int32) < 0 ∨ cl119.slots.size ≤ ((4 : Int32)).toNatClampNeg) := inb_of Sz119 ⟨by decide, by decide⟩
      obtain ⟨T120, h120, X120, e120, W120, st120⟩ := stB X118 hx hZ e118 Ar119 (j := (4 : Int32)) hin119 (g := (mkF m 101 #[.val (.int p0), .val (.int p1), .val (.int p2), .val (.int p3), .val (.int p4), .val (.int p5), .val (.int (2 : Int32)), .val (.int (4 : Int32)), .val (.ref b110), .val (.int (p5.toInt8.toInt32)), .unset] [(.int (p2.toInt8.toInt32)), (.int (4 : Int32)), (.ref b110)])) rfl rfl (hb hby at_101)
      have V120 : Arv Z h120 b110 k110 .byte (6 : Int32) [(.int (nar .byte (p5.toInt8.toInt32))), (.int (nar .byte (p5.toInt8.toInt32))), (.int (nar .byte (p0.toInt8.toInt32))), (.int (nar .byte (p1.toInt8.toInt32))), (.int (nar .byte (p2.toInt8.toInt32))), (.int (0 : Int32))] (.int (0 : Int32)) := Arv.set Ar119 ck119 Sz119 Nn119 Hs119 Gs119 (fits_nar_byte _) W120 4 rfl (Nat.le_of_ble_eq_true rfl)
      have N120 := Fr.snoc X120 N118 gg110
      have Z120 : n0 ≤ h120.size := by rw [W120.size]; exact Z118
      refine Go.st (fun _ k => st120 _ k) ?_
      show Go p e below _ (T120.setTop (mkF m 102 #[.val (.int p0), .val (.int p1), .val (.int p2), .val (.int p3), .val (.int p4), .val (.int p5), .val (.int (2 : Int32)), .val (.int (4 : Int32)), .val (.ref b110), .val (.int (p5.toInt8.toInt32)), .unset] []))
      refine Go.st (fun _ k => XS.iload X120.here hx rfl (hb hby at_102) rfl k) ?_
      refine Go.st (fun _ k => XS.iconst X120.here hx rfl (hb hby at_104) k) ?_
      show Go p e below _ (T120.setTop (mkF m 105 #[.val (.int p0), .val (.int p1), .val (.int p2), .val (.int p3), .val (.int p4), .val (.int p5), .val (.int (2 : Int32)), .val (.int (4 : Int32)), .val (.ref b110), .val (.int (p5.toInt8.toInt32)), .unset] [(.int (3 : Int32)), (.int (4 : Int32))]))
      refine Go.st (fun _ k => XS.icmpNo X120.here hx rfl (hb hby at_105) rfl (tlt (by decide : ((3 : Int32) < (4 : Int32)))).2.2.2 k) ?_
      show Go p e below _ (T120.setTop (mkF m 108 #[.val (.int p0), .val (.int p1), .val (.int p2), .val (.int p3), .val (.int p4), .val (.int p5), .val (.int (2 : Int32)), .val (.int (4 : Int32)), .val (.ref b110), .val (.int (p5.toInt8.toInt32)), .unset] []))
      refine Go.st (fun _ k => XS.aload X120.here hx rfl (hb hby at_108) rfl rfl k) ?_
      refine Go.st (fun _ k => XS.iload X120.here hx rfl (hb hby at_110) rfl k) ?_
      show Go p e below _ (T120.setTop (mkF m 112 #[.val (.int p0), .val (.int p1), .val (.int p2), .val (.int p3), .val (.int p4), .val (.int p5), .val (.int (2 : Int32)), .val (.int (4 : Int32)), .val (.ref b110), .val (.int (p5.toInt8.toInt32)), .unset] [(.int (2 : Int32)), (.ref b110)]))
      refine Go.st (fun _ k => XS.iconst X120.here hx rfl (hb hby at_112) k) ?_
      refine Go.st (fun _ k => XS.iadd X120.here hx rfl (hb hby at_113) rfl k) ?_
      show Go p e below _ (T120.setTop (mkF m 114 #[.val (.int p0), .val (.int p1), .val (.int p2), .val (.int p3), .val (.int p4), .val (.int p5), .val (.int (2 : Int32)), .val (.int (4 : Int32)), .val (.ref b110), .val (.int (p5.toInt8.toInt32)), .unset] [(.int (5 : Int32)), (.ref b110)]))
      refine Go.st (fun _ k => XS.iloadN X120.here hx rfl (hb hby at_114) rfl k) ?_
      refine Go.st (fun _ k => XS.i2b X120.here hx rfl (hb hby at_115) rfl k) ?_
      show Go p e below _ (T120.setTop (mkF m 116 #[.val (.int p0), .val (.int p1), .val (.int p2), .val (.int p3), .val (.int p4), .val (.int p5), .val (.int (2 : Int32)), .val (.int (4 : Int32)), .val (.ref b110), .val (.int (p5.toInt8.toInt32)), .unset] [(.int (p3.toInt8.toInt32)), (.int (5 : Int32)), (.ref b110)]))
      obtain ⟨cl121, Ar121, ck121, Sz121, Nn121, Hs121, Gs121⟩ := id V120
      have hin121 : ¬ ((5 : Int32) < 0 ∨ cl121.slots.size ≤ ((5 : Int32)).toNatClampNeg) := inb_of Sz121 ⟨by decide, by decide⟩
      obtain ⟨T122, h122, X122, e122, W122, st122⟩ := stB X120 hx hZ e120 Ar121 (j := (5 : Int32)) hin121 (g := (mkF m 116 #[.val (.int p0), .val (.int p1), .val (.int p2), .val (.int p3), .val (.int p4), .val (.int p5), .val (.int (2 : Int32)), .val (.int (4 : Int32)), .val (.ref b110), .val (.int (p5.toInt8.toInt32)), .unset] [(.int (p3.toInt8.toInt32)), (.int (5 : Int32)), (.ref b110)])) rfl rfl (hb hby at_116)
      have V122 : Arv Z h122 b110 k110 .byte (6 : Int32) [(.int (nar .byte (p5.toInt8.toInt32))), (.int (nar .byte (p5.toInt8.toInt32))), (.int (nar .byte (p0.toInt8.toInt32))), (.int (nar .byte (p1.toInt8.toInt32))), (.int (nar .byte (p2.toInt8.toInt32))), (.int (nar .byte (p3.toInt8.toInt32)))] (.int (0 : Int32)) := Arv.set Ar121 ck121 Sz121 Nn121 Hs121 Gs121 (fits_nar_byte _) W122 5 rfl (Nat.le_of_ble_eq_true rfl)
      have N122 := Fr.snoc X122 N120 gg110
      have Z122 : n0 ≤ h122.size := by rw [W122.size]; exact Z120
      refine Go.st (fun _ k => st122 _ k) ?_
      show Go p e below _ (T122.setTop (mkF m 117 #[.val (.int p0), .val (.int p1), .val (.int p2), .val (.int p3), .val (.int p4), .val (.int p5), .val (.int (2 : Int32)), .val (.int (4 : Int32)), .val (.ref b110), .val (.int (p5.toInt8.toInt32)), .unset] []))
      refine Go.st (fun _ k => XS.aload X122.here hx rfl (hb hby at_117) rfl rfl k) ?_
      refine Go.st (fun _ k => XS.iload X122.here hx rfl (hb hby at_119) rfl k) ?_
      show Go p e below _ (T122.setTop (mkF m 121 #[.val (.int p0), .val (.int p1), .val (.int p2), .val (.int p3), .val (.int p4), .val (.int p5), .val (.int (2 : Int32)), .val (.int (4 : Int32)), .val (.ref b110), .val (.int (p5.toInt8.toInt32)), .unset] [(.int (2 : Int32)), (.ref b110)]))
      obtain ⟨_, _, ⟨T123, L123, k123, n123⟩, -, X123, ⟨Lc123, hQ123, l123, y123, z123⟩, st123⟩ := Jvm.LawKit.callS X122 hx (y := (⟨"com/example/apportis/apportis/Utf8", "characterEnd", "([BI)I"⟩ : MethodName)) hown (mvT hZ (hw _ (List.mem_of_getElem? (i := 1) rfl))) (mvT hZ (hw _ (List.mem_of_getElem? (i := 2) rfl))) (mvT hZ (hw _ (List.mem_of_getElem? (i := 3) rfl))) (mvT hZ (hw _ (List.mem_of_getElem? (i := 4) rfl))) (by decide) (backOf (W := 0) (rmCE l Z aZ hw [] (nar .byte (p0.toInt8.toInt32)) (nar .byte (p1.toInt8.toInt32)) (nar .byte (p2.toInt8.toInt32)) (nar .byte (p3.toInt8.toInt32)) b110 (2 : Int32) k110 (6 : Int32) [(.int (nar .byte (p5.toInt8.toInt32))), (.int (nar .byte (p5.toInt8.toInt32))), (.int (nar .byte (p0.toInt8.toInt32))), (.int (nar .byte (p1.toInt8.toInt32))), (.int (nar .byte (p2.toInt8.toInt32))), (.int (nar .byte (p3.toInt8.toInt32)))] h122 n0 (by decide) (by decide) (by decide) rfl (fun _ => rfl) (fun _ => rfl) (fun _ => rfl) V122) hZ (hw _ (List.mem_of_getElem? (i := 4) rfl)) (hw _ (List.mem_of_getElem? (i := 3) rfl)) (by decide) (by decide)) (g := (mkF m 121 #[.val (.int p0), .val (.int p1), .val (.int p2), .val (.int p3), .val (.int p4), .val (.int p5), .val (.int (2 : Int32)), .val (.int (4 : Int32)), .val (.ref b110), .val (.int (p5.toInt8.toInt32)), .unset] [(.int (2 : Int32)), (.ref b110)])) rfl (by rw [hml]; rfl) (argsL := [(.ref b110), (.int (2 : Int32))]) (rest := []) (lenOf pd92f6cd8e rfl) rfl (by show 2 * 0 + _ ≤ _; exact Nat.le_of_eq rfl) (hb hby at_121) (fun _ _ => ⟨rfl, e122, (by decide : 1 + 0 ≤ _), (by decide : 6 + 0 ≤ _)⟩)
      dsimp only [Pt.U, Pt.locs, Pt.cells, Pt.slots] at X123 l123 y123 z123 st123 hQ123
      subst l123 y123 z123
      obtain ⟨rfl, N123q, e123⟩ := hQ123
      have N123 := Fr.app N122 N123q
      refine Go.st (fun _ k => st123 _ k) ?_
      show Go p e below _ (T123.setTop (mkF m 124 #[.val (.int p0), .val (.int p1), .val (.int p2), .val (.int p3), .val (.int p4), .val (.int p5), .val (.int (2 : Int32)), .val (.int (4 : Int32)), .val (.ref b110), .val (.int (p5.toInt8.toInt32)), .unset] [(.int (fCE (nar .byte (p0.toInt8.toInt32)) (nar .byte (p1.toInt8.toInt32)) (nar .byte (p2.toInt8.toInt32)) (nar .byte (p3.toInt8.toInt32)) (2 : Int32) (6 : Int32)))]))
      refine Go.st (fun _ k => XS.istore X123.here hx rfl (hb hby at_124) rfl (l' := #[.val (.int p0), .val (.int p1), .val (.int p2), .val (.int p3), .val (.int p4), .val (.int p5), .val (.int (2 : Int32)), .val (.int (4 : Int32)), .val (.ref b110), .val (.int (p5.toInt8.toInt32)), .val (.int (fCE (nar .byte (p0.toInt8.toInt32)) (nar .byte (p1.toInt8.toInt32)) (nar .byte (p2.toInt8.toInt32)) (nar .byte (p3.toInt8.toInt32)) (2 : Int32) (6 : Int32)))]) rfl k) ?_
      show Go p e below _ (T123.setTop (mkF m 126 #[.val (.int p0), .val (.int p1), .val (.int p2), .val (.int p3), .val (.int p4), .val (.int p5), .val (.int (2 : Int32)), .val (.int (4 : Int32)), .val (.ref b110), .val (.int (p5.toInt8.toInt32)), .val (.int (fCE (nar .byte (p0.toInt8.toInt32)) (nar .byte (p1.toInt8.toInt32)) (nar .byte (p2.toInt8.toInt32)) (nar .byte (p3.toInt8.toInt32)) (2 : Int32) (6 : Int32)))] []))
      refine Go.st (fun _ k => XS.iload X123.here hx rfl (hb hby at_126) rfl k) ?_
      refine Go.st (fun _ k => XS.iloadN X123.here hx rfl (hb hby at_128) rfl k) ?_
      show Go p e below _ (T123.setTop (mkF m 129 #[.val (.int p0), .val (.int p1), .val (.int p2), .val (.int p3), .val (.int p4), .val (.int p5), .val (.int (2 : Int32)), .val (.int (4 : Int32)), .val (.ref b110), .val (.int (p5.toInt8.toInt32)), .val (.int (fCE (nar .byte (p0.toInt8.toInt32)) (nar .byte (p1.toInt8.toInt32)) (nar .byte (p2.toInt8.toInt32)) (nar .byte (p3.toInt8.toInt32)) (2 : Int32) (6 : Int32)))] [(.int p0), (.int (fCE (nar .byte (p0.toInt8.toInt32)) (nar .byte (p1.toInt8.toInt32)) (nar .byte (p2.toInt8.toInt32)) (nar .byte (p3.toInt8.toInt32)) (2 : Int32) (6 : Int32)))]))
      refine Go.st (fun _ k => XS.sipush X123.here hx rfl (hb hby at_129) k) ?_
      refine Go.st (fun _ k => XS.iand X123.here hx rfl (hb hby at_132) rfl k) ?_
      show Go p e below _ (T123.setTop (mkF m 133 #[.val (.int p0), .val (.int p1), .val (.int p2), .val (.int p3), .val (.int p4), .val (.int p5), .val (.int (2 : Int32)), .val (.int (4 : Int32)), .val (.ref b110), .val (.int (p5.toInt8.toInt32)), .val (.int (fCE (nar .byte (p0.toInt8.toInt32)) (nar .byte (p1.toInt8.toInt32)) (nar .byte (p2.toInt8.toInt32)) (nar .byte (p3.toInt8.toInt32)) (2 : Int32) (6 : Int32)))] [(.int (p0 &&& (255 : Int32))), (.int (fCE (nar .byte (p0.toInt8.toInt32)) (nar .byte (p1.toInt8.toInt32)) (nar .byte (p2.toInt8.toInt32)) (nar .byte (p3.toInt8.toInt32)) (2 : Int32) (6 : Int32)))]))
      refine Go.st (fun _ k => XS.iloadN X123.here hx rfl (hb hby at_133) rfl k) ?_
      refine Go.st (fun _ k => XS.sipush X123.here hx rfl (hb hby at_134) k) ?_
      show Go p e below _ (T123.setTop (mkF m 137 #[.val (.int p0), .val (.int p1), .val (.int p2), .val (.int p3), .val (.int p4), .val (.int p5), .val (.int (2 : Int32)), .val (.int (4 : Int32)), .val (.ref b110), .val (.int (p5.toInt8.toInt32)), .val (.int (fCE (nar .byte (p0.toInt8.toInt32)) (nar .byte (p1.toInt8.toInt32)) (nar .byte (p2.toInt8.toInt32)) (nar .byte (p3.toInt8.toInt32)) (2 : Int32) (6 : Int32)))] [(.int (255 : Int32)), (.int p1), (.int (p0 &&& (255 : Int32))), (.int (fCE (nar .byte (p0.toInt8.toInt32)) (nar .byte (p1.toInt8.toInt32)) (nar .byte (p2.toInt8.toInt32)) (nar .byte (p3.toInt8.toInt32)) (2 : Int32) (6 : Int32)))]))
      refine Go.st (fun _ k => XS.iand X123.here hx rfl (hb hby at_137) rfl k) ?_
      refine Go.st (fun _ k => XS.iloadN X123.here hx rfl (hb hby at_138) rfl k) ?_
      show Go p e below _ (T123.setTop (mkF m 139 #[.val (.int p0), .val (.int p1), .val (.int p2), .val (.int p3), .val (.int p4), .val (.int p5), .val (.int (2 : Int32)), .val (.int (4 : Int32)), .val (.ref b110), .val (.int (p5.toInt8.toInt32)), .val (.int (fCE (nar .byte (p0.toInt8.toInt32)) (nar .byte (p1.toInt8.toInt32)) (nar .byte (p2.toInt8.toInt32)) (nar .byte (p3.toInt8.toInt32)) (2 : Int32) (6 : Int32)))] [(.int p2), (.int (p1 &&& (255 : Int32))), (.int (p0 &&& (255 : Int32))), (.int (fCE (nar .byte (p0.toInt8.toInt32)) (nar .byte (p1.toInt8.toInt32)) (nar .byte (p2.toInt8.toInt32)) (nar .byte (p3.toInt8.toInt32)) (2 : Int32) (6 : Int32)))]))
      refine Go.st (fun _ k => XS.sipush X123.here hx rfl (hb hby at_139) k) ?_
      refine Go.st (fun _ k => XS.iand X123.here hx rfl (hb hby at_142) rfl k) ?_
      show Go p e below _ (T123.setTop (mkF m 143 #[.val (.int p0), .val (.int p1), .val (.int p2), .val (.int p3), .val (.int p4), .val (.int p5), .val (.int (2 : Int32)), .val (.int (4 : Int32)), .val (.ref b110), .val (.int (p5.toInt8.toInt32)), .val (.int (fCE (nar .byte (p0.toInt8.toInt32)) (nar .byte (p1.toInt8.toInt32)) (nar .byte (p2.toInt8.toInt32)) (nar .byte (p3.toInt8.toInt32)) (2 : Int32) (6 : Int32)))] [(.int (p2 &&& (255 : Int32))), (.int (p1 &&& (255 : Int32))), (.int (p0 &&& (255 : Int32))), (.int (fCE (nar .byte (p0.toInt8.toInt32)) (nar .byte (p1.toInt8.toInt32)) (nar .byte (p2.toInt8.toInt32)) (nar .byte (p3.toInt8.toInt32)) (2 : Int32) (6 : Int32)))]))
      refine Go.st (fun _ k => XS.iloadN X123.here hx rfl (hb hby at_143) rfl k) ?_
      refine Go.st (fun _ k => XS.sipush X123.here hx rfl (hb hby at_144) k) ?_
      show Go p e below _ (T123.setTop (mkF m 147 #[.val (.int p0), .val (.int p1), .val (.int p2), .val (.int p3), .val (.int p4), .val (.int p5), .val (.int (2 : Int32)), .val (.int (4 : Int32)), .val (.ref b110), .val (.int (p5.toInt8.toInt32)), .val (.int (fCE (nar .byte (p0.toInt8.toInt32)) (nar .byte (p1.toInt8.toInt32)) (nar .byte (p2.toInt8.toInt32)) (nar .byte (p3.toInt8.toInt32)) (2 : Int32) (6 : Int32)))] [(.int (255 : Int32)), (.int p3), (.int (p2 &&& (255 : Int32))), (.int (p1 &&& (255 : Int32))), (.int (p0 &&& (255 : Int32))), (.int (fCE (nar .byte (p0.toInt8.toInt32)) (nar .byte (p1.toInt8.toInt32)) (nar .byte (p2.toInt8.toInt32)) (nar .byte (p3.toInt8.toInt32)) (2 : Int32) (6 : Int32)))]))
      refine Go.st (fun _ k => XS.iand X123.here hx rfl (hb hby at_147) rfl k) ?_
      refine Go.st (fun _ k => XS.iload X123.here hx rfl (hb hby at_148) rfl k) ?_
      show Go p e below _ (T123.setTop (mkF m 150 #[.val (.int p0), .val (.int p1), .val (.int p2), .val (.int p3), .val (.int p4), .val (.int p5), .val (.int (2 : Int32)), .val (.int (4 : Int32)), .val (.ref b110), .val (.int (p5.toInt8.toInt32)), .val (.int (fCE (nar .byte (p0.toInt8.toInt32)) (nar .byte (p1.toInt8.toInt32)) (nar .byte (p2.toInt8.toInt32)) (nar .byte (p3.toInt8.toInt32)) (2 : Int32) (6 : Int32)))] [(.int (4 : Int32)), (.int (p3 &&& (255 : Int32))), (.int (p2 &&& (255 : Int32))), (.int (p1 &&& (255 : Int32))), (.int (p0 &&& (255 : Int32))), (.int (fCE (nar .byte (p0.toInt8.toInt32)) (nar .byte (p1.toInt8.toInt32)) (nar .byte (p2.toInt8.toInt32)) (nar .byte (p3.toInt8.toInt32)) (2 : Int32) (6 : Int32)))]))
      refine Go.st (fun _ k => XS.iload X123.here hx rfl (hb hby at_150) rfl k) ?_
      show Go p e below _ (T123.setTop (mkF m 152 #[.val (.int p0), .val (.int p1), .val (.int p2), .val (.int p3), .val (.int p4), .val (.int p5), .val (.int (2 : Int32)), .val (.int (4 : Int32)), .val (.ref b110), .val (.int (p5.toInt8.toInt32)), .val (.int (fCE (nar .byte (p0.toInt8.toInt32)) (nar .byte (p1.toInt8.toInt32)) (nar .byte (p2.toInt8.toInt32)) (nar .byte (p3.toInt8.toInt32)) (2 : Int32) (6 : Int32)))] [(.int (2 : Int32)), (.int (4 : Int32)), (.int (p3 &&& (255 : Int32))), (.int (p2 &&& (255 : Int32))), (.int (p1 &&& (255 : Int32))), (.int (p0 &&& (255 : Int32))), (.int (fCE (nar .byte (p0.toInt8.toInt32)) (nar .byte (p1.toInt8.toInt32)) (nar .byte (p2.toInt8.toInt32)) (nar .byte (p3.toInt8.toInt32)) (2 : Int32) (6 : Int32)))]))
      obtain ⟨_, _, ⟨T124, L124, k124, n124⟩, -, X124, ⟨Lc124, hQ124, l124, y124, z124⟩, st124⟩ := Jvm.LawKit.callS X123 hx (y := (⟨"com/example/apportis/apportis/Utf8CharacterEndPinLaw", "expected", "(IIIIII)I"⟩ : MethodName)) hown (mvT hZ (hw _ (List.mem_of_getElem? (i := 5) rfl))) (mvT hZ (hw _ (List.mem_of_getElem? (i := 6) rfl))) (mvT hZ (hw _ (List.mem_of_getElem? (i := 7) rfl))) (mvT hZ (hw _ (List.mem_of_getElem? (i := 8) rfl))) (by decide) (backOf (W := 1) (rm2 l Z aZ hw [] (p0 &&& (255 : Int32)) (p1 &&& (255 : Int32)) (p2 &&& (255 : Int32)) (p3 &&& (255 : Int32)) (4 : Int32) (2 : Int32) h122 n0 ) hZ (hw _ (List.mem_of_getElem? (i := 8) rfl)) (hw _ (List.mem_of_getElem? (i := 7) rfl)) (by decide) (by decide)) (g := (mkF m 152 #[.val (.int p0), .val (.int p1), .val (.int p2), .val (.int p3), .val (.int p4), .val (.int p5), .val (.int (2 : Int32)), .val (.int (4 : Int32)), .val (.ref b110), .val (.int (p5.toInt8.toInt32)), .val (.int (fCE (nar .byte (p0.toInt8.toInt32)) (nar .byte (p1.toInt8.toInt32)) (nar .byte (p2.toInt8.toInt32)) (nar .byte (p3.toInt8.toInt32)) (2 : Int32) (6 : Int32)))] [(.int (2 : Int32)), (.int (4 : Int32)), (.int (p3 &&& (255 : Int32))), (.int (p2 &&& (255 : Int32))), (.int (p1 &&& (255 : Int32))), (.int (p0 &&& (255 : Int32))), (.int (fCE (nar .byte (p0.toInt8.toInt32)) (nar .byte (p1.toInt8.toInt32)) (nar .byte (p2.toInt8.toInt32)) (nar .byte (p3.toInt8.toInt32)) (2 : Int32) (6 : Int32)))])) rfl (by rw [hml]; rfl) (argsL := [(.int (p0 &&& (255 : Int32))), (.int (p1 &&& (255 : Int32))), (.int (p2 &&& (255 : Int32))), (.int (p3 &&& (255 : Int32))), (.int (4 : Int32)), (.int (2 : Int32))]) (rest := [(.int (fCE (nar .byte (p0.toInt8.toInt32)) (nar .byte (p1.toInt8.toInt32)) (nar .byte (p2.toInt8.toInt32)) (nar .byte (p3.toInt8.toInt32)) (2 : Int32) (6 : Int32)))]) (lenOf pd41a2ea18 rfl) rfl (by show 2 * 0 + _ ≤ _; exact Nat.le_of_eq rfl) (hb hby at_152) (fun _ _ => ⟨rfl, e123, (by decide : 1 + 0 ≤ _), (by decide : 6 + 0 ≤ _)⟩)
      dsimp only [Pt.U, Pt.locs, Pt.cells, Pt.slots] at X124 l124 y124 z124 st124 hQ124
      subst l124 y124 z124
      obtain ⟨rfl, N124q, e124⟩ := hQ124
      have N124 := Fr.app N123 N124q
      refine Go.st (fun _ k => st124 _ k) ?_
      show Go p e below _ (T124.setTop (mkF m 155 #[.val (.int p0), .val (.int p1), .val (.int p2), .val (.int p3), .val (.int p4), .val (.int p5), .val (.int (2 : Int32)), .val (.int (4 : Int32)), .val (.ref b110), .val (.int (p5.toInt8.toInt32)), .val (.int (fCE (nar .byte (p0.toInt8.toInt32)) (nar .byte (p1.toInt8.toInt32)) (nar .byte (p2.toInt8.toInt32)) (nar .byte (p3.toInt8.toInt32)) (2 : Int32) (6 : Int32)))] [(.int (fExp (p0 &&& (255 : Int32)) (p1 &&& (255 : Int32)) (p2 &&& (255 : Int32)) (p3 &&& (255 : Int32)) (4 : Int32) (2 : Int32))), (.int (fCE (nar .byte (p0.toInt8.toInt32)) (nar .byte (p1.toInt8.toInt32)) (nar .byte (p2.toInt8.toInt32)) (nar .byte (p3.toInt8.toInt32)) (2 : Int32) (6 : Int32)))]))
      refine Go.st (fun _ k => XS.icmpNo X124.here hx rfl (hb hby at_155) rfl (teq (own_main p0 p1 p2 p3 (own_mask p0) (fun _ => own_mask p1) (fun _ => own_mask p2) (fun _ => own_mask p3) (by decide))).2 k) ?_
      show Go p e below _ (T124.setTop (mkF m 158 #[.val (.int p0), .val (.int p1), .val (.int p2), .val (.int p3), .val (.int p4), .val (.int p5), .val (.int (2 : Int32)), .val (.int (4 : Int32)), .val (.ref b110), .val (.int (p5.toInt8.toInt32)), .val (.int (fCE (nar .byte (p0.toInt8.toInt32)) (nar .byte (p1.toInt8.toInt32)) (nar .byte (p2.toInt8.toInt32)) (nar .byte (p3.toInt8.toInt32)) (2 : Int32) (6 : Int32)))] []))
      refine Go.st (fun _ k => XS.iconst X124.here hx rfl (hb hby at_158) k) ?_
      refine Go.st (fun _ k => XS.goto X124.here hx rfl (pc0 := 159) (pc' := 163) rfl (hb hby at_159) (by decide) (by decide) k) ?_
      show Go p e below _ (T124.setTop (mkF m 163 #[.val (.int p0), .val (.int p1), .val (.int p2), .val (.int p3), .val (.int p4), .val (.int p5), .val (.int (2 : Int32)), .val (.int (4 : Int32)), .val (.ref b110), .val (.int (p5.toInt8.toInt32)), .val (.int (fCE (nar .byte (p0.toInt8.toInt32)) (nar .byte (p1.toInt8.toInt32)) (nar .byte (p2.toInt8.toInt32)) (nar .byte (p3.toInt8.toInt32)) (2 : Int32) (6 : Int32)))] [(.int (1 : Int32))]))
      obtain ⟨fs, hr, hrun, hended, hW, hsame⟩ := X124.leave (v := some (.int (1 : Int32))) (fun h => by rw [Bd.returns] at h; cases h)
      refine ⟨_, _, retN X124 hx (t := .boolean) Bd.returns (by simp) (hb hby at_163) hr, hrun, hended, _, _, rfl, ?_, ⟨_, rfl⟩, hW, hsame.mono (by decide) (by decide)⟩
      show Q_rm0 Z p0 p1 p2 p3 p4 p5 h0 n0 _ T124.heap _
      rw [e124]
      exact ⟨rfl, N124⟩
  · rw [hr1]
    show Go p e below _ (s₁.setTop (mkF m 4 #[.val (.int p0), .val (.int p1), .val (.int p2), .val (.int p3), .val (.int p4), .val (.int p5), .unset, .unset, .unset, .unset, .unset] [(.int (3 : Int32))]))
    refine Go.st (fun _ k => XS.istore X0.here hx rfl (hb hby at_4) rfl (l' := #[.val (.int p0), .val (.int p1), .val (.int p2), .val (.int p3), .val (.int p4), .val (.int p5), .val (.int (3 : Int32)), .unset, .unset, .unset, .unset]) rfl k) ?_
    show Go p e below _ (s₁.setTop (mkF m 6 #[.val (.int p0), .val (.int p1), .val (.int p2), .val (.int p3), .val (.int p4), .val (.int p5), .val (.int (3 : Int32)), .unset, .unset, .unset, .unset] []))
    refine Go.st (fun _ k => XS.iconst X0.here hx rfl (hb hby at_6) k) ?_
    refine Go.st (fun _ k => XS.iload X0.here hx rfl (hb hby at_7) rfl k) ?_
    show Go p e below _ (s₁.setTop (mkF m 9 #[.val (.int p0), .val (.int p1), .val (.int p2), .val (.int p3), .val (.int p4), .val (.int p5), .val (.int (3 : Int32)), .unset, .unset, .unset, .unset] [(.int p4), (.int (1 : Int32))]))
    refine Go.st (fun _ k => XS.iconst X0.here hx rfl (hb hby at_9) k) ?_
    refine Go.st (fun _ k => XS.iushr X0.here hx rfl (hb hby at_10) rfl k) ?_
    show Go p e below _ (s₁.setTop (mkF m 11 #[.val (.int p0), .val (.int p1), .val (.int p2), .val (.int p3), .val (.int p4), .val (.int p5), .val (.int (3 : Int32)), .unset, .unset, .unset, .unset] [(.int ((p4.toUInt32 >>> ((2 : Int32) &&& 31).toUInt32).toInt32)), (.int (1 : Int32))]))
    refine Go.st (fun _ k => XS.iconst X0.here hx rfl (hb hby at_11) k) ?_
    refine Go.st (fun _ k => XS.iand X0.here hx rfl (hb hby at_12) rfl k) ?_
    show Go p e below _ (s₁.setTop (mkF m 13 #[.val (.int p0), .val (.int p1), .val (.int p2), .val (.int p3), .val (.int p4), .val (.int p5), .val (.int (3 : Int32)), .unset, .unset, .unset, .unset] [(.int (((p4.toUInt32 >>> ((2 : Int32) &&& 31).toUInt32).toInt32) &&& (3 : Int32))), (.int (1 : Int32))]))
    rcases own_and3 _ with hr125 | hr125 | hr125 | hr125
    · rw [hr125]
      show Go p e below _ (s₁.setTop (mkF m 13 #[.val (.int p0), .val (.int p1), .val (.int p2), .val (.int p3), .val (.int p4), .val (.int p5), .val (.int (3 : Int32)), .unset, .unset, .unset, .unset] [(.int (0 : Int32)), (.int (1 : Int32))]))
      refine Go.st (fun _ k => XS.iadd X0.here hx rfl (hb hby at_13) rfl k) ?_
      refine Go.st (fun _ k => XS.istore X0.here hx rfl (hb hby at_14) rfl (l' := #[.val (.int p0), .val (.int p1), .val (.int p2), .val (.int p3), .val (.int p4), .val (.int p5), .val (.int (3 : Int32)), .val (.int (1 : Int32)), .unset, .unset, .unset]) rfl k) ?_
      show Go p e below _ (s₁.setTop (mkF m 16 #[.val (.int p0), .val (.int p1), .val (.int p2), .val (.int p3), .val (.int p4), .val (.int p5), .val (.int (3 : Int32)), .val (.int (1 : Int32)), .unset, .unset, .unset] []))
      refine Go.st (fun _ k => XS.iload X0.here hx rfl (hb hby at_16) rfl k) ?_
      refine Go.st (fun _ k => XS.iload X0.here hx rfl (hb hby at_18) rfl k) ?_
      show Go p e below _ (s₁.setTop (mkF m 20 #[.val (.int p0), .val (.int p1), .val (.int p2), .val (.int p3), .val (.int p4), .val (.int p5), .val (.int (3 : Int32)), .val (.int (1 : Int32)), .unset, .unset, .unset] [(.int (1 : Int32)), (.int (3 : Int32))]))
      refine Go.st (fun _ k => XS.iadd X0.here hx rfl (hb hby at_20) rfl k) ?_
      show Go p e below _ (s₁.setTop (mkF m 21 #[.val (.int p0), .val (.int p1), .val (.int p2), .val (.int p3), .val (.int p4), .val (.int p5), .val (.int (3 : Int32)), .val (.int (1 : Int32)), .unset, .unset, .unset] [(.int (4 : Int32))]))
      obtain ⟨T126, h126, k126, X126, e126, E126, A126, st126⟩ := newP X0 hx hZ (hw _ (List.mem_of_getElem? (i := 0) rfl)) e0 (g := (mkF m 21 #[.val (.int p0), .val (.int p1), .val (.int p2), .val (.int p3), .val (.int p4), .val (.int p5), .val (.int (3 : Int32)), .val (.int (1 : Int32)), .unset, .unset, .unset] [(.int (4 : Int32))])) rfl (hb hby at_21) rfl (by decide) (cap := 4) (by decide) (by decide) (by decide) (by decide)
      obtain ⟨b126, g126⟩ : ∃ z, z = h0.size := ⟨_, rfl⟩
      have gg126 : n0 ≤ b126 := Nat.le_trans Z0 (Nat.le_of_eq g126.symm)
      rw [← g126] at A126 st126
      have Z126 : n0 ≤ h126.size := Nat.le_trans Z0 E126.1
      have V126 : Arv Z h126 b126 k126 .byte (4 : Int32) [(.int (0 : Int32)), (.int (0 : Int32)), (.int (0 : Int32)), (.int (0 : Int32))] (.int (0 : Int32)) := (Arv.new A126 (by decide)).pad (pad_rep [] (.int (0 : Int32)) 4)
      refine Go.st (fun _ k => st126 _ k) ?_
      show Go p e below _ (T126.setTop (mkF m 23 #[.val (.int p0), .val (.int p1), .val (.int p2), .val (.int p3), .val (.int p4), .val (.int p5), .val (.int (3 : Int32)), .val (.int (1 : Int32)), .unset, .unset, .unset] [(.ref b126)]))
      refine Go.st (fun _ k => XS.astore X126.here hx rfl (hb hby at_23) rfl rfl (l' := #[.val (.int p0), .val (.int p1), .val (.int p2), .val (.int p3), .val (.int p4), .val (.int p5), .val (.int (3 : Int32)), .val (.int (1 : Int32)), .val (.ref b126), .unset, .unset]) rfl k) ?_
      show Go p e below _ (T126.setTop (mkF m 25 #[.val (.int p0), .val (.int p1), .val (.int p2), .val (.int p3), .val (.int p4), .val (.int p5), .val (.int (3 : Int32)), .val (.int (1 : Int32)), .val (.ref b126), .unset, .unset] []))
      refine Go.st (fun _ k => XS.iload X126.here hx rfl (hb hby at_25) rfl k) ?_
      refine Go.st (fun _ k => XS.i2b X126.here hx rfl (hb hby at_27) rfl k) ?_
      show Go p e below _ (T126.setTop (mkF m 28 #[.val (.int p0), .val (.int p1), .val (.int p2), .val (.int p3), .val (.int p4), .val (.int p5), .val (.int (3 : Int32)), .val (.int (1 : Int32)), .val (.ref b126), .unset, .unset] [(.int (p5.toInt8.toInt32))]))
      refine Go.st (fun _ k => XS.istore X126.here hx rfl (hb hby at_28) rfl (l' := #[.val (.int p0), .val (.int p1), .val (.int p2), .val (.int p3), .val (.int p4), .val (.int p5), .val (.int (3 : Int32)), .val (.int (1 : Int32)), .val (.ref b126), .val (.int (p5.toInt8.toInt32)), .unset]) rfl k) ?_
      show Go p e below _ (T126.setTop (mkF m 30 #[.val (.int p0), .val (.int p1), .val (.int p2), .val (.int p3), .val (.int p4), .val (.int p5), .val (.int (3 : Int32)), .val (.int (1 : Int32)), .val (.ref b126), .val (.int (p5.toInt8.toInt32)), .unset] []))
      refine Go.st (fun _ k => XS.iload X126.here hx rfl (hb hby at_30) rfl k) ?_
      refine Go.st (fun _ k => XS.ifNo X126.here hx rfl (hb hby at_32) rfl ((if0 _ _).trans (tlt (by decide : ((0 : Int32) < (3 : Int32)))).2.2.2) k) ?_
      show Go p e below _ (T126.setTop (mkF m 35 #[.val (.int p0), .val (.int p1), .val (.int p2), .val (.int p3), .val (.int p4), .val (.int p5), .val (.int (3 : Int32)), .val (.int (1 : Int32)), .val (.ref b126), .val (.int (p5.toInt8.toInt32)), .unset] []))
      refine Go.st (fun _ k => XS.aload X126.here hx rfl (hb hby at_35) rfl rfl k) ?_
      refine Go.st (fun _ k => XS.iconst X126.here hx rfl (hb hby at_37) k) ?_
      show Go p e below _ (T126.setTop (mkF m 38 #[.val (.int p0), .val (.int p1), .val (.int p2), .val (.int p3), .val (.int p4), .val (.int p5), .val (.int (3 : Int32)), .val (.int (1 : Int32)), .val (.ref b126), .val (.int (p5.toInt8.toInt32)), .unset] [(.int (0 : Int32)), (.ref b126)]))
      refine Go.st (fun _ k => XS.iload X126.here hx rfl (hb hby at_38) rfl k) ?_
      show Go p e below _ (T126.setTop (mkF m 40 #[.val (.int p0), .val (.int p1), .val (.int p2), .val (.int p3), .val (.int p4), .val (.int p5), .val (.int (3 : Int32)), .val (.int (1 : Int32)), .val (.ref b126), .val (.int (p5.toInt8.toInt32)), .unset] [(.int (p5.toInt8.toInt32)), (.int (0 : Int32)), (.ref b126)]))
      obtain ⟨cl127, Ar127, ck127, Sz127, Nn127, Hs127, Gs127⟩ := id V126
      have hin127 : ¬ ((0 : Int32) < 0 ∨ cl127.slots.size ≤ ((0 : Int32)).toNatClampNeg) := inb_of Sz127 ⟨by decide, by decide⟩
      obtain ⟨T128, h128, X128, e128, W128, st128⟩ := stB X126 hx hZ e126 Ar127 (j := (0 : Int32)) hin127 (g := (mkF m 40 #[.val (.int p0), .val (.int p1), .val (.int p2), .val (.int p3), .val (.int p4), .val (.int p5), .val (.int (3 : Int32)), .val (.int (1 : Int32)), .val (.ref b126), .val (.int (p5.toInt8.toInt32)), .unset] [(.int (p5.toInt8.toInt32)), (.int (0 : Int32)), (.ref b126)])) rfl rfl (hb hby at_40)
      have V128 : Arv Z h128 b126 k126 .byte (4 : Int32) [(.int (nar .byte (p5.toInt8.toInt32))), (.int (0 : Int32)), (.int (0 : Int32)), (.int (0 : Int32))] (.int (0 : Int32)) := Arv.set Ar127 ck127 Sz127 Nn127 Hs127 Gs127 (fits_nar_byte _) W128 0 rfl (Nat.le_of_ble_eq_true rfl)
      have N128 := Fr.snoc X128 N0 gg126
      have Z128 : n0 ≤ h128.size := by rw [W128.size]; exact Z126
      refine Go.st (fun _ k => st128 _ k) ?_
      show Go p e below _ (T128.setTop (mkF m 41 #[.val (.int p0), .val (.int p1), .val (.int p2), .val (.int p3), .val (.int p4), .val (.int p5), .val (.int (3 : Int32)), .val (.int (1 : Int32)), .val (.ref b126), .val (.int (p5.toInt8.toInt32)), .unset] []))
      refine Go.st (fun _ k => XS.iload X128.here hx rfl (hb hby at_41) rfl k) ?_
      refine Go.st (fun _ k => XS.iconst X128.here hx rfl (hb hby at_43) k) ?_
      show Go p e below _ (T128.setTop (mkF m 44 #[.val (.int p0), .val (.int p1), .val (.int p2), .val (.int p3), .val (.int p4), .val (.int p5), .val (.int (3 : Int32)), .val (.int (1 : Int32)), .val (.ref b126), .val (.int (p5.toInt8.toInt32)), .unset] [(.int (1 : Int32)), (.int (3 : Int32))]))
      refine Go.st (fun _ k => XS.icmpNo X128.here hx rfl (hb hby at_44) rfl (tlt (by decide : ((1 : Int32) < (3 : Int32)))).2.2.2 k) ?_
      show Go p e below _ (T128.setTop (mkF m 47 #[.val (.int p0), .val (.int p1), .val (.int p2), .val (.int p3), .val (.int p4), .val (.int p5), .val (.int (3 : Int32)), .val (.int (1 : Int32)), .val (.ref b126), .val (.int (p5.toInt8.toInt32)), .unset] []))
      refine Go.st (fun _ k => XS.aload X128.here hx rfl (hb hby at_47) rfl rfl k) ?_
      refine Go.st (fun _ k => XS.iconst X128.here hx rfl (hb hby at_49) k) ?_
      show Go p e below _ (T128.setTop (mkF m 50 #[.val (.int p0), .val (.int p1), .val (.int p2), .val (.int p3), .val (.int p4), .val (.int p5), .val (.int (3 : Int32)), .val (.int (1 : Int32)), .val (.ref b126), .val (.int (p5.toInt8.toInt32)), .unset] [(.int (1 : Int32)), (.ref b126)]))
      refine Go.st (fun _ k => XS.iload X128.here hx rfl (hb hby at_50) rfl k) ?_
      show Go p e below _ (T128.setTop (mkF m 52 #[.val (.int p0), .val (.int p1), .val (.int p2), .val (.int p3), .val (.int p4), .val (.int p5), .val (.int (3 : Int32)), .val (.int (1 : Int32)), .val (.ref b126), .val (.int (p5.toInt8.toInt32)), .unset] [(.int (p5.toInt8.toInt32)), (.int (1 : Int32)), (.ref b126)]))
      obtain ⟨cl129, Ar129, ck129, Sz129, Nn129, Hs129, Gs129⟩ := id V128
      have hin129 : ¬ ((1 : Int32) < 0 ∨ cl129.slots.size ≤ ((1 : Int32)).toNatClampNeg) := inb_of Sz129 ⟨by decide, by decide⟩
      obtain ⟨T130, h130, X130, e130, W130, st130⟩ := stB X128 hx hZ e128 Ar129 (j := (1 : Int32)) hin129 (g := (mkF m 52 #[.val (.int p0), .val (.int p1), .val (.int p2), .val (.int p3), .val (.int p4), .val (.int p5), .val (.int (3 : Int32)), .val (.int (1 : Int32)), .val (.ref b126), .val (.int (p5.toInt8.toInt32)), .unset] [(.int (p5.toInt8.toInt32)), (.int (1 : Int32)), (.ref b126)])) rfl rfl (hb hby at_52)
      have V130 : Arv Z h130 b126 k126 .byte (4 : Int32) [(.int (nar .byte (p5.toInt8.toInt32))), (.int (nar .byte (p5.toInt8.toInt32))), (.int (0 : Int32)), (.int (0 : Int32))] (.int (0 : Int32)) := Arv.set Ar129 ck129 Sz129 Nn129 Hs129 Gs129 (fits_nar_byte _) W130 1 rfl (Nat.le_of_ble_eq_true rfl)
      have N130 := Fr.snoc X130 N128 gg126
      have Z130 : n0 ≤ h130.size := by rw [W130.size]; exact Z128
      refine Go.st (fun _ k => st130 _ k) ?_
      show Go p e below _ (T130.setTop (mkF m 53 #[.val (.int p0), .val (.int p1), .val (.int p2), .val (.int p3), .val (.int p4), .val (.int p5), .val (.int (3 : Int32)), .val (.int (1 : Int32)), .val (.ref b126), .val (.int (p5.toInt8.toInt32)), .unset] []))
      refine Go.st (fun _ k => XS.iload X130.here hx rfl (hb hby at_53) rfl k) ?_
      refine Go.st (fun _ k => XS.iconst X130.here hx rfl (hb hby at_55) k) ?_
      show Go p e below _ (T130.setTop (mkF m 56 #[.val (.int p0), .val (.int p1), .val (.int p2), .val (.int p3), .val (.int p4), .val (.int p5), .val (.int (3 : Int32)), .val (.int (1 : Int32)), .val (.ref b126), .val (.int (p5.toInt8.toInt32)), .unset] [(.int (2 : Int32)), (.int (3 : Int32))]))
      refine Go.st (fun _ k => XS.icmpNo X130.here hx rfl (hb hby at_56) rfl (tlt (by decide : ((2 : Int32) < (3 : Int32)))).2.2.2 k) ?_
      show Go p e below _ (T130.setTop (mkF m 59 #[.val (.int p0), .val (.int p1), .val (.int p2), .val (.int p3), .val (.int p4), .val (.int p5), .val (.int (3 : Int32)), .val (.int (1 : Int32)), .val (.ref b126), .val (.int (p5.toInt8.toInt32)), .unset] []))
      refine Go.st (fun _ k => XS.aload X130.here hx rfl (hb hby at_59) rfl rfl k) ?_
      refine Go.st (fun _ k => XS.iconst X130.here hx rfl (hb hby at_61) k) ?_
      show Go p e below _ (T130.setTop (mkF m 62 #[.val (.int p0), .val (.int p1), .val (.int p2), .val (.int p3), .val (.int p4), .val (.int p5), .val (.int (3 : Int32)), .val (.int (1 : Int32)), .val (.ref b126), .val (.int (p5.toInt8.toInt32)), .unset] [(.int (2 : Int32)), (.ref b126)]))
      refine Go.st (fun _ k => XS.iload X130.here hx rfl (hb hby at_62) rfl k) ?_
      show Go p e below _ (T130.setTop (mkF m 64 #[.val (.int p0), .val (.int p1), .val (.int p2), .val (.int p3), .val (.int p4), .val (.int p5), .val (.int (3 : Int32)), .val (.int (1 : Int32)), .val (.ref b126), .val (.int (p5.toInt8.toInt32)), .unset] [(.int (p5.toInt8.toInt32)), (.int (2 : Int32)), (.ref b126)]))
      obtain ⟨cl131, Ar131, ck131, Sz131, Nn131, Hs131, Gs131⟩ := id V130
      have hin131 : ¬ ((2 : Int32) < 0 ∨ cl131.slots.size ≤ ((2 : Int32)).toNatClampNeg) := inb_of Sz131 ⟨by decide, by decide⟩
      obtain ⟨T132, h132, X132, e132, W132, st132⟩ := stB X130 hx hZ e130 Ar131 (j := (2 : Int32)) hin131 (g := (mkF m 64 #[.val (.int p0), .val (.int p1), .val (.int p2), .val (.int p3), .val (.int p4), .val (.int p5), .val (.int (3 : Int32)), .val (.int (1 : Int32)), .val (.ref b126), .val (.int (p5.toInt8.toInt32)), .unset] [(.int (p5.toInt8.toInt32)), (.int (2 : Int32)), (.ref b126)])) rfl rfl (hb hby at_64)
      have V132 : Arv Z h132 b126 k126 .byte (4 : Int32) [(.int (nar .byte (p5.toInt8.toInt32))), (.int (nar .byte (p5.toInt8.toInt32))), (.int (nar .byte (p5.toInt8.toInt32))), (.int (0 : Int32))] (.int (0 : Int32)) := Arv.set Ar131 ck131 Sz131 Nn131 Hs131 Gs131 (fits_nar_byte _) W132 2 rfl (Nat.le_of_ble_eq_true rfl)
      have N132 := Fr.snoc X132 N130 gg126
      have Z132 : n0 ≤ h132.size := by rw [W132.size]; exact Z130
      refine Go.st (fun _ k => st132 _ k) ?_
      show Go p e below _ (T132.setTop (mkF m 65 #[.val (.int p0), .val (.int p1), .val (.int p2), .val (.int p3), .val (.int p4), .val (.int p5), .val (.int (3 : Int32)), .val (.int (1 : Int32)), .val (.ref b126), .val (.int (p5.toInt8.toInt32)), .unset] []))
      refine Go.st (fun _ k => XS.aload X132.here hx rfl (hb hby at_65) rfl rfl k) ?_
      refine Go.st (fun _ k => XS.iload X132.here hx rfl (hb hby at_67) rfl k) ?_
      show Go p e below _ (T132.setTop (mkF m 69 #[.val (.int p0), .val (.int p1), .val (.int p2), .val (.int p3), .val (.int p4), .val (.int p5), .val (.int (3 : Int32)), .val (.int (1 : Int32)), .val (.ref b126), .val (.int (p5.toInt8.toInt32)), .unset] [(.int (3 : Int32)), (.ref b126)]))
      refine Go.st (fun _ k => XS.iloadN X132.here hx rfl (hb hby at_69) rfl k) ?_
      refine Go.st (fun _ k => XS.i2b X132.here hx rfl (hb hby at_70) rfl k) ?_
      show Go p e below _ (T132.setTop (mkF m 71 #[.val (.int p0), .val (.int p1), .val (.int p2), .val (.int p3), .val (.int p4), .val (.int p5), .val (.int (3 : Int32)), .val (.int (1 : Int32)), .val (.ref b126), .val (.int (p5.toInt8.toInt32)), .unset] [(.int (p0.toInt8.toInt32)), (.int (3 : Int32)), (.ref b126)]))
      obtain ⟨cl133, Ar133, ck133, Sz133, Nn133, Hs133, Gs133⟩ := id V132
      have hin133 : ¬ ((3 : Int32) < 0 ∨ cl133.slots.size ≤ ((3 : Int32)).toNatClampNeg) := inb_of Sz133 ⟨by decide, by decide⟩
      obtain ⟨T134, h134, X134, e134, W134, st134⟩ := stB X132 hx hZ e132 Ar133 (j := (3 : Int32)) hin133 (g := (mkF m 71 #[.val (.int p0), .val (.int p1), .val (.int p2), .val (.int p3), .val (.int p4), .val (.int p5), .val (.int (3 : Int32)), .val (.int (1 : Int32)), .val (.ref b126), .val (.int (p5.toInt8.toInt32)), .unset] [(.int (p0.toInt8.toInt32)), (.int (3 : Int32)), (.ref b126)])) rfl rfl (hb hby at_71)
      have V134 : Arv Z h134 b126 k126 .byte (4 : Int32) [(.int (nar .byte (p5.toInt8.toInt32))), (.int (nar .byte (p5.toInt8.toInt32))), (.int (nar .byte (p5.toInt8.toInt32))), (.int (nar .byte (p0.toInt8.toInt32)))] (.int (0 : Int32)) := Arv.set Ar133 ck133 Sz133 Nn133 Hs133 Gs133 (fits_nar_byte _) W134 3 rfl (Nat.le_of_ble_eq_true rfl)
      have N134 := Fr.snoc X134 N132 gg126
      have Z134 : n0 ≤ h134.size := by rw [W134.size]; exact Z132
      refine Go.st (fun _ k => st134 _ k) ?_
      show Go p e below _ (T134.setTop (mkF m 72 #[.val (.int p0), .val (.int p1), .val (.int p2), .val (.int p3), .val (.int p4), .val (.int p5), .val (.int (3 : Int32)), .val (.int (1 : Int32)), .val (.ref b126), .val (.int (p5.toInt8.toInt32)), .unset] []))
      refine Go.st (fun _ k => XS.iload X134.here hx rfl (hb hby at_72) rfl k) ?_
      refine Go.st (fun _ k => XS.iconst X134.here hx rfl (hb hby at_74) k) ?_
      show Go p e below _ (T134.setTop (mkF m 75 #[.val (.int p0), .val (.int p1), .val (.int p2), .val (.int p3), .val (.int p4), .val (.int p5), .val (.int (3 : Int32)), .val (.int (1 : Int32)), .val (.ref b126), .val (.int (p5.toInt8.toInt32)), .unset] [(.int (1 : Int32)), (.int (1 : Int32))]))
      refine Go.st (fun _ k => XS.icmpYes X134.here hx rfl (pc0 := 75) (pc' := 87) rfl (hb hby at_75) rfl (flt (by decide : ¬ ((1 : Int32) < (1 : Int32)))).2.2.2 (by decide) (by decide) k) ?_
      show Go p e below _ (T134.setTop (mkF m 87 #[.val (.int p0), .val (.int p1), .val (.int p2), .val (.int p3), .val (.int p4), .val (.int p5), .val (.int (3 : Int32)), .val (.int (1 : Int32)), .val (.ref b126), .val (.int (p5.toInt8.toInt32)), .unset] []))
      refine Go.st (fun _ k => XS.iload X134.here hx rfl (hb hby at_87) rfl k) ?_
      refine Go.st (fun _ k => XS.iconst X134.here hx rfl (hb hby at_89) k) ?_
      show Go p e below _ (T134.setTop (mkF m 90 #[.val (.int p0), .val (.int p1), .val (.int p2), .val (.int p3), .val (.int p4), .val (.int p5), .val (.int (3 : Int32)), .val (.int (1 : Int32)), .val (.ref b126), .val (.int (p5.toInt8.toInt32)), .unset] [(.int (2 : Int32)), (.int (1 : Int32))]))
      refine Go.st (fun _ k => XS.icmpYes X134.here hx rfl (pc0 := 90) (pc' := 102) rfl (hb hby at_90) rfl (flt (by decide : ¬ ((2 : Int32) < (1 : Int32)))).2.2.2 (by decide) (by decide) k) ?_
      show Go p e below _ (T134.setTop (mkF m 102 #[.val (.int p0), .val (.int p1), .val (.int p2), .val (.int p3), .val (.int p4), .val (.int p5), .val (.int (3 : Int32)), .val (.int (1 : Int32)), .val (.ref b126), .val (.int (p5.toInt8.toInt32)), .unset] []))
      refine Go.st (fun _ k => XS.iload X134.here hx rfl (hb hby at_102) rfl k) ?_
      refine Go.st (fun _ k => XS.iconst X134.here hx rfl (hb hby at_104) k) ?_
      show Go p e below _ (T134.setTop (mkF m 105 #[.val (.int p0), .val (.int p1), .val (.int p2), .val (.int p3), .val (.int p4), .val (.int p5), .val (.int (3 : Int32)), .val (.int (1 : Int32)), .val (.ref b126), .val (.int (p5.toInt8.toInt32)), .unset] [(.int (3 : Int32)), (.int (1 : Int32))]))
      refine Go.st (fun _ k => XS.icmpYes X134.here hx rfl (pc0 := 105) (pc' := 117) rfl (hb hby at_105) rfl (flt (by decide : ¬ ((3 : Int32) < (1 : Int32)))).2.2.2 (by decide) (by decide) k) ?_
      show Go p e below _ (T134.setTop (mkF m 117 #[.val (.int p0), .val (.int p1), .val (.int p2), .val (.int p3), .val (.int p4), .val (.int p5), .val (.int (3 : Int32)), .val (.int (1 : Int32)), .val (.ref b126), .val (.int (p5.toInt8.toInt32)), .unset] []))
      refine Go.st (fun _ k => XS.aload X134.here hx rfl (hb hby at_117) rfl rfl k) ?_
      refine Go.st (fun _ k => XS.iload X134.here hx rfl (hb hby at_119) rfl k) ?_
      show Go p e below _ (T134.setTop (mkF m 121 #[.val (.int p0), .val (.int p1), .val (.int p2), .val (.int p3), .val (.int p4), .val (.int p5), .val (.int (3 : Int32)), .val (.int (1 : Int32)), .val (.ref b126), .val (.int (p5.toInt8.toInt32)), .unset] [(.int (3 : Int32)), (.ref b126)]))
      obtain ⟨_, _, ⟨T135, L135, k135, n135⟩, -, X135, ⟨Lc135, hQ135, l135, y135, z135⟩, st135⟩ := Jvm.LawKit.callS X134 hx (y := (⟨"com/example/apportis/apportis/Utf8", "characterEnd", "([BI)I"⟩ : MethodName)) hown (mvT hZ (hw _ (List.mem_of_getElem? (i := 1) rfl))) (mvT hZ (hw _ (List.mem_of_getElem? (i := 2) rfl))) (mvT hZ (hw _ (List.mem_of_getElem? (i := 3) rfl))) (mvT hZ (hw _ (List.mem_of_getElem? (i := 4) rfl))) (by decide) (backOf (W := 0) (rmCE l Z aZ hw [] (nar .byte (p0.toInt8.toInt32)) (0 : Int32) (0 : Int32) (0 : Int32) b126 (3 : Int32) k126 (4 : Int32) [(.int (nar .byte (p5.toInt8.toInt32))), (.int (nar .byte (p5.toInt8.toInt32))), (.int (nar .byte (p5.toInt8.toInt32))), (.int (nar .byte (p0.toInt8.toInt32)))] h134 n0 (by decide) (by decide) (by decide) rfl (fun h => absurd h (by decide)) (fun h => absurd h (by decide)) (fun h => absurd h (by decide)) V134) hZ (hw _ (List.mem_of_getElem? (i := 4) rfl)) (hw _ (List.mem_of_getElem? (i := 3) rfl)) (by decide) (by decide)) (g := (mkF m 121 #[.val (.int p0), .val (.int p1), .val (.int p2), .val (.int p3), .val (.int p4), .val (.int p5), .val (.int (3 : Int32)), .val (.int (1 : Int32)), .val (.ref b126), .val (.int (p5.toInt8.toInt32)), .unset] [(.int (3 : Int32)), (.ref b126)])) rfl (by rw [hml]; rfl) (argsL := [(.ref b126), (.int (3 : Int32))]) (rest := []) (lenOf pd92f6cd8e rfl) rfl (by show 2 * 0 + _ ≤ _; exact Nat.le_of_eq rfl) (hb hby at_121) (fun _ _ => ⟨rfl, e134, (by decide : 1 + 0 ≤ _), (by decide : 4 + 0 ≤ _)⟩)
      dsimp only [Pt.U, Pt.locs, Pt.cells, Pt.slots] at X135 l135 y135 z135 st135 hQ135
      subst l135 y135 z135
      obtain ⟨rfl, N135q, e135⟩ := hQ135
      have N135 := Fr.app N134 N135q
      refine Go.st (fun _ k => st135 _ k) ?_
      show Go p e below _ (T135.setTop (mkF m 124 #[.val (.int p0), .val (.int p1), .val (.int p2), .val (.int p3), .val (.int p4), .val (.int p5), .val (.int (3 : Int32)), .val (.int (1 : Int32)), .val (.ref b126), .val (.int (p5.toInt8.toInt32)), .unset] [(.int (fCE (nar .byte (p0.toInt8.toInt32)) (0 : Int32) (0 : Int32) (0 : Int32) (3 : Int32) (4 : Int32)))]))
      refine Go.st (fun _ k => XS.istore X135.here hx rfl (hb hby at_124) rfl (l' := #[.val (.int p0), .val (.int p1), .val (.int p2), .val (.int p3), .val (.int p4), .val (.int p5), .val (.int (3 : Int32)), .val (.int (1 : Int32)), .val (.ref b126), .val (.int (p5.toInt8.toInt32)), .val (.int (fCE (nar .byte (p0.toInt8.toInt32)) (0 : Int32) (0 : Int32) (0 : Int32) (3 : Int32) (4 : Int32)))]) rfl k) ?_
      show Go p e below _ (T135.setTop (mkF m 126 #[.val (.int p0), .val (.int p1), .val (.int p2), .val (.int p3), .val (.int p4), .val (.int p5), .val (.int (3 : Int32)), .val (.int (1 : Int32)), .val (.ref b126), .val (.int (p5.toInt8.toInt32)), .val (.int (fCE (nar .byte (p0.toInt8.toInt32)) (0 : Int32) (0 : Int32) (0 : Int32) (3 : Int32) (4 : Int32)))] []))
      refine Go.st (fun _ k => XS.iload X135.here hx rfl (hb hby at_126) rfl k) ?_
      refine Go.st (fun _ k => XS.iloadN X135.here hx rfl (hb hby at_128) rfl k) ?_
      show Go p e below _ (T135.setTop (mkF m 129 #[.val (.int p0), .val (.int p1), .val (.int p2), .val (.int p3), .val (.int p4), .val (.int p5), .val (.int (3 : Int32)), .val (.int (1 : Int32)), .val (.ref b126), .val (.int (p5.toInt8.toInt32)), .val (.int (fCE (nar .byte (p0.toInt8.toInt32)) (0 : Int32) (0 : Int32) (0 : Int32) (3 : Int32) (4 : Int32)))] [(.int p0), (.int (fCE (nar .byte (p0.toInt8.toInt32)) (0 : Int32) (0 : Int32) (0 : Int32) (3 : Int32) (4 : Int32)))]))
      refine Go.st (fun _ k => XS.sipush X135.here hx rfl (hb hby at_129) k) ?_
      refine Go.st (fun _ k => XS.iand X135.here hx rfl (hb hby at_132) rfl k) ?_
      show Go p e below _ (T135.setTop (mkF m 133 #[.val (.int p0), .val (.int p1), .val (.int p2), .val (.int p3), .val (.int p4), .val (.int p5), .val (.int (3 : Int32)), .val (.int (1 : Int32)), .val (.ref b126), .val (.int (p5.toInt8.toInt32)), .val (.int (fCE (nar .byte (p0.toInt8.toInt32)) (0 : Int32) (0 : Int32) (0 : Int32) (3 : Int32) (4 : Int32)))] [(.int (p0 &&& (255 : Int32))), (.int (fCE (nar .byte (p0.toInt8.toInt32)) (0 : Int32) (0 : Int32) (0 : Int32) (3 : Int32) (4 : Int32)))]))
      refine Go.st (fun _ k => XS.iloadN X135.here hx rfl (hb hby at_133) rfl k) ?_
      refine Go.st (fun _ k => XS.sipush X135.here hx rfl (hb hby at_134) k) ?_
      show Go p e below _ (T135.setTop (mkF m 137 #[.val (.int p0), .val (.int p1), .val (.int p2), .val (.int p3), .val (.int p4), .val (.int p5), .val (.int (3 : Int32)), .val (.int (1 : Int32)), .val (.ref b126), .val (.int (p5.toInt8.toInt32)), .val (.int (fCE (nar .byte (p0.toInt8.toInt32)) (0 : Int32) (0 : Int32) (0 : Int32) (3 : Int32) (4 : Int32)))] [(.int (255 : Int32)), (.int p1), (.int (p0 &&& (255 : Int32))), (.int (fCE (nar .byte (p0.toInt8.toInt32)) (0 : Int32) (0 : Int32) (0 : Int32) (3 : Int32) (4 : Int32)))]))
      refine Go.st (fun _ k => XS.iand X135.here hx rfl (hb hby at_137) rfl k) ?_
      refine Go.st (fun _ k => XS.iloadN X135.here hx rfl (hb hby at_138) rfl k) ?_
      show Go p e below _ (T135.setTop (mkF m 139 #[.val (.int p0), .val (.int p1), .val (.int p2), .val (.int p3), .val (.int p4), .val (.int p5), .val (.int (3 : Int32)), .val (.int (1 : Int32)), .val (.ref b126), .val (.int (p5.toInt8.toInt32)), .val (.int (fCE (nar .byte (p0.toInt8.toInt32)) (0 : Int32) (0 : Int32) (0 : Int32) (3 : Int32) (4 : Int32)))] [(.int p2), (.int (p1 &&& (255 : Int32))), (.int (p0 &&& (255 : Int32))), (.int (fCE (nar .byte (p0.toInt8.toInt32)) (0 : Int32) (0 : Int32) (0 : Int32) (3 : Int32) (4 : Int32)))]))
      refine Go.st (fun _ k => XS.sipush X135.here hx rfl (hb hby at_139) k) ?_
      refine Go.st (fun _ k => XS.iand X135.here hx rfl (hb hby at_142) rfl k) ?_
      show Go p e below _ (T135.setTop (mkF m 143 #[.val (.int p0), .val (.int p1), .val (.int p2), .val (.int p3), .val (.int p4), .val (.int p5), .val (.int (3 : Int32)), .val (.int (1 : Int32)), .val (.ref b126), .val (.int (p5.toInt8.toInt32)), .val (.int (fCE (nar .byte (p0.toInt8.toInt32)) (0 : Int32) (0 : Int32) (0 : Int32) (3 : Int32) (4 : Int32)))] [(.int (p2 &&& (255 : Int32))), (.int (p1 &&& (255 : Int32))), (.int (p0 &&& (255 : Int32))), (.int (fCE (nar .byte (p0.toInt8.toInt32)) (0 : Int32) (0 : Int32) (0 : Int32) (3 : Int32) (4 : Int32)))]))
      refine Go.st (fun _ k => XS.iloadN X135.here hx rfl (hb hby at_143) rfl k) ?_
      refine Go.st (fun _ k => XS.sipush X135.here hx rfl (hb hby at_144) k) ?_
      show Go p e below _ (T135.setTop (mkF m 147 #[.val (.int p0), .val (.int p1), .val (.int p2), .val (.int p3), .val (.int p4), .val (.int p5), .val (.int (3 : Int32)), .val (.int (1 : Int32)), .val (.ref b126), .val (.int (p5.toInt8.toInt32)), .val (.int (fCE (nar .byte (p0.toInt8.toInt32)) (0 : Int32) (0 : Int32) (0 : Int32) (3 : Int32) (4 : Int32)))] [(.int (255 : Int32)), (.int p3), (.int (p2 &&& (255 : Int32))), (.int (p1 &&& (255 : Int32))), (.int (p0 &&& (255 : Int32))), (.int (fCE (nar .byte (p0.toInt8.toInt32)) (0 : Int32) (0 : Int32) (0 : Int32) (3 : Int32) (4 : Int32)))]))
      refine Go.st (fun _ k => XS.iand X135.here hx rfl (hb hby at_147) rfl k) ?_
      refine Go.st (fun _ k => XS.iload X135.here hx rfl (hb hby at_148) rfl k) ?_
      show Go p e below _ (T135.setTop (mkF m 150 #[.val (.int p0), .val (.int p1), .val (.int p2), .val (.int p3), .val (.int p4), .val (.int p5), .val (.int (3 : Int32)), .val (.int (1 : Int32)), .val (.ref b126), .val (.int (p5.toInt8.toInt32)), .val (.int (fCE (nar .byte (p0.toInt8.toInt32)) (0 : Int32) (0 : Int32) (0 : Int32) (3 : Int32) (4 : Int32)))] [(.int (1 : Int32)), (.int (p3 &&& (255 : Int32))), (.int (p2 &&& (255 : Int32))), (.int (p1 &&& (255 : Int32))), (.int (p0 &&& (255 : Int32))), (.int (fCE (nar .byte (p0.toInt8.toInt32)) (0 : Int32) (0 : Int32) (0 : Int32) (3 : Int32) (4 : Int32)))]))
      refine Go.st (fun _ k => XS.iload X135.here hx rfl (hb hby at_150) rfl k) ?_
      show Go p e below _ (T135.setTop (mkF m 152 #[.val (.int p0), .val (.int p1), .val (.int p2), .val (.int p3), .val (.int p4), .val (.int p5), .val (.int (3 : Int32)), .val (.int (1 : Int32)), .val (.ref b126), .val (.int (p5.toInt8.toInt32)), .val (.int (fCE (nar .byte (p0.toInt8.toInt32)) (0 : Int32) (0 : Int32) (0 : Int32) (3 : Int32) (4 : Int32)))] [(.int (3 : Int32)), (.int (1 : Int32)), (.int (p3 &&& (255 : Int32))), (.int (p2 &&& (255 : Int32))), (.int (p1 &&& (255 : Int32))), (.int (p0 &&& (255 : Int32))), (.int (fCE (nar .byte (p0.toInt8.toInt32)) (0 : Int32) (0 : Int32) (0 : Int32) (3 : Int32) (4 : Int32)))]))
      obtain ⟨_, _, ⟨T136, L136, k136, n136⟩, -, X136, ⟨Lc136, hQ136, l136, y136, z136⟩, st136⟩ := Jvm.LawKit.callS X135 hx (y := (⟨"com/example/apportis/apportis/Utf8CharacterEndPinLaw", "expected", "(IIIIII)I"⟩ : MethodName)) hown (mvT hZ (hw _ (List.mem_of_getElem? (i := 5) rfl))) (mvT hZ (hw _ (List.mem_of_getElem? (i := 6) rfl))) (mvT hZ (hw _ (List.mem_of_getElem? (i := 7) rfl))) (mvT hZ (hw _ (List.mem_of_getElem? (i := 8) rfl))) (by decide) (backOf (W := 1) (rm2 l Z aZ hw [] (p0 &&& (255 : Int32)) (p1 &&& (255 : Int32)) (p2 &&& (255 : Int32)) (p3 &&& (255 : Int32)) (1 : Int32) (3 : Int32) h134 n0 ) hZ (hw _ (List.mem_of_getElem? (i := 8) rfl)) (hw _ (List.mem_of_getElem? (i := 7) rfl)) (by decide) (by decide)) (g := (mkF m 152 #[.val (.int p0), .val (.int p1), .val (.int p2), .val (.int p3), .val (.int p4), .val (.int p5), .val (.int (3 : Int32)), .val (.int (1 : Int32)), .val (.ref b126), .val (.int (p5.toInt8.toInt32)), .val (.int (fCE (nar .byte (p0.toInt8.toInt32)) (0 : Int32) (0 : Int32) (0 : Int32) (3 : Int32) (4 : Int32)))] [(.int (3 : Int32)), (.int (1 : Int32)), (.int (p3 &&& (255 : Int32))), (.int (p2 &&& (255 : Int32))), (.int (p1 &&& (255 : Int32))), (.int (p0 &&& (255 : Int32))), (.int (fCE (nar .byte (p0.toInt8.toInt32)) (0 : Int32) (0 : Int32) (0 : Int32) (3 : Int32) (4 : Int32)))])) rfl (by rw [hml]; rfl) (argsL := [(.int (p0 &&& (255 : Int32))), (.int (p1 &&& (255 : Int32))), (.int (p2 &&& (255 : Int32))), (.int (p3 &&& (255 : Int32))), (.int (1 : Int32)), (.int (3 : Int32))]) (rest := [(.int (fCE (nar .byte (p0.toInt8.toInt32)) (0 : Int32) (0 : Int32) (0 : Int32) (3 : Int32) (4 : Int32)))]) (lenOf pd41a2ea18 rfl) rfl (by show 2 * 0 + _ ≤ _; exact Nat.le_of_eq rfl) (hb hby at_152) (fun _ _ => ⟨rfl, e135, (by decide : 1 + 0 ≤ _), (by decide : 4 + 0 ≤ _)⟩)
      dsimp only [Pt.U, Pt.locs, Pt.cells, Pt.slots] at X136 l136 y136 z136 st136 hQ136
      subst l136 y136 z136
      obtain ⟨rfl, N136q, e136⟩ := hQ136
      have N136 := Fr.app N135 N136q
      refine Go.st (fun _ k => st136 _ k) ?_
      show Go p e below _ (T136.setTop (mkF m 155 #[.val (.int p0), .val (.int p1), .val (.int p2), .val (.int p3), .val (.int p4), .val (.int p5), .val (.int (3 : Int32)), .val (.int (1 : Int32)), .val (.ref b126), .val (.int (p5.toInt8.toInt32)), .val (.int (fCE (nar .byte (p0.toInt8.toInt32)) (0 : Int32) (0 : Int32) (0 : Int32) (3 : Int32) (4 : Int32)))] [(.int (fExp (p0 &&& (255 : Int32)) (p1 &&& (255 : Int32)) (p2 &&& (255 : Int32)) (p3 &&& (255 : Int32)) (1 : Int32) (3 : Int32))), (.int (fCE (nar .byte (p0.toInt8.toInt32)) (0 : Int32) (0 : Int32) (0 : Int32) (3 : Int32) (4 : Int32)))]))
      refine Go.st (fun _ k => XS.icmpNo X136.here hx rfl (hb hby at_155) rfl (teq (own_main p0 p1 p2 p3 (own_mask p0) (fun h => absurd h (by decide)) (fun h => absurd h (by decide)) (fun h => absurd h (by decide)) (by decide))).2 k) ?_
      show Go p e below _ (T136.setTop (mkF m 158 #[.val (.int p0), .val (.int p1), .val (.int p2), .val (.int p3), .val (.int p4), .val (.int p5), .val (.int (3 : Int32)), .val (.int (1 : Int32)), .val (.ref b126), .val (.int (p5.toInt8.toInt32)), .val (.int (fCE (nar .byte (p0.toInt8.toInt32)) (0 : Int32) (0 : Int32) (0 : Int32) (3 : Int32) (4 : Int32)))] []))
      refine Go.st (fun _ k => XS.iconst X136.here hx rfl (hb hby at_158) k) ?_
      refine Go.st (fun _ k => XS.goto X136.here hx rfl (pc0 := 159) (pc' := 163) rfl (hb hby at_159) (by decide) (by decide) k) ?_
      show Go p e below _ (T136.setTop (mkF m 163 #[.val (.int p0), .val (.int p1), .val (.int p2), .val (.int p3), .val (.int p4), .val (.int p5), .val (.int (3 : Int32)), .val (.int (1 : Int32)), .val (.ref b126), .val (.int (p5.toInt8.toInt32)), .val (.int (fCE (nar .byte (p0.toInt8.toInt32)) (0 : Int32) (0 : Int32) (0 : Int32) (3 : Int32) (4 : Int32)))] [(.int (1 : Int32))]))
      obtain ⟨fs, hr, hrun, hended, hW, hsame⟩ := X136.leave (v := some (.int (1 : Int32))) (fun h => by rw [Bd.returns] at h; cases h)
      refine ⟨_, _, retN X136 hx (t := .boolean) Bd.returns (by simp) (hb hby at_163) hr, hrun, hended, _, _, rfl, ?_, ⟨_, rfl⟩, hW, hsame.mono (by decide) (by decide)⟩
      show Q_rm0 Z p0 p1 p2 p3 p4 p5 h0 n0 _ T136.heap _
      rw [e136]
      exact ⟨rfl, N136⟩
    · rw [hr125]
      show Go p e below _ (s₁.setTop (mkF m 13 #[.val (.int p0), .val (.int p1), .val (.int p2), .val (.int p3), .val (.int p4), .val (.int p5), .val (.int (3 : Int32)), .unset, .unset, .unset, .unset] [(.int (1 : Int32)), (.int (1 : Int32))]))
      refine Go.st (fun _ k => XS.iadd X0.here hx rfl (hb hby at_13) rfl k) ?_
      refine Go.st (fun _ k => XS.istore X0.here hx rfl (hb hby at_14) rfl (l' := #[.val (.int p0), .val (.int p1), .val (.int p2), .val (.int p3), .val (.int p4), .val (.int p5), .val (.int (3 : Int32)), .val (.int (2 : Int32)), .unset, .unset, .unset]) rfl k) ?_
      show Go p e below _ (s₁.setTop (mkF m 16 #[.val (.int p0), .val (.int p1), .val (.int p2), .val (.int p3), .val (.int p4), .val (.int p5), .val (.int (3 : Int32)), .val (.int (2 : Int32)), .unset, .unset, .unset] []))
      refine Go.st (fun _ k => XS.iload X0.here hx rfl (hb hby at_16) rfl k) ?_
      refine Go.st (fun _ k => XS.iload X0.here hx rfl (hb hby at_18) rfl k) ?_
      show Go p e below _ (s₁.setTop (mkF m 20 #[.val (.int p0), .val (.int p1), .val (.int p2), .val (.int p3), .val (.int p4), .val (.int p5), .val (.int (3 : Int32)), .val (.int (2 : Int32)), .unset, .unset, .unset] [(.int (2 : Int32)), (.int (3 : Int32))]))
      refine Go.st (fun _ k => XS.iadd X0.here hx rfl (hb hby at_20) rfl k) ?_
      show Go p e below _ (s₁.setTop (mkF m 21 #[.val (.int p0), .val (.int p1), .val (.int p2), .val (.int p3), .val (.int p4), .val (.int p5), .val (.int (3 : Int32)), .val (.int (2 : Int32)), .unset, .unset, .unset] [(.int (5 : Int32))]))
      obtain ⟨T137, h137, k137, X137, e137, E137, A137, st137⟩ := newP X0 hx hZ (hw _ (List.mem_of_getElem? (i := 0) rfl)) e0 (g := (mkF m 21 #[.val (.int p0), .val (.int p1), .val (.int p2), .val (.int p3), .val (.int p4), .val (.int p5), .val (.int (3 : Int32)), .val (.int (2 : Int32)), .unset, .unset, .unset] [(.int (5 : Int32))])) rfl (hb hby at_21) rfl (by decide) (cap := 5) (by decide) (by decide) (by decide) (by decide)
      obtain ⟨b137, g137⟩ : ∃ z, z = h0.size := ⟨_, rfl⟩
      have gg137 : n0 ≤ b137 := Nat.le_trans Z0 (Nat.le_of_eq g137.symm)
      rw [← g137] at A137 st137
      have Z137 : n0 ≤ h137.size := Nat.le_trans Z0 E137.1
      have V137 : Arv Z h137 b137 k137 .byte (5 : Int32) [(.int (0 : Int32)), (.int (0 : Int32)), (.int (0 : Int32)), (.int (0 : Int32)), (.int (0 : Int32))] (.int (0 : Int32)) := (Arv.new A137 (by decide)).pad (pad_rep [] (.int (0 : Int32)) 5)
      refine Go.st (fun _ k => st137 _ k) ?_
      show Go p e below _ (T137.setTop (mkF m 23 #[.val (.int p0), .val (.int p1), .val (.int p2), .val (.int p3), .val (.int p4), .val (.int p5), .val (.int (3 : Int32)), .val (.int (2 : Int32)), .unset, .unset, .unset] [(.ref b137)]))
      refine Go.st (fun _ k => XS.astore X137.here hx rfl (hb hby at_23) rfl rfl (l' := #[.val (.int p0), .val (.int p1), .val (.int p2), .val (.int p3), .val (.int p4), .val (.int p5), .val (.int (3 : Int32)), .val (.int (2 : Int32)), .val (.ref b137), .unset, .unset]) rfl k) ?_
      show Go p e below _ (T137.setTop (mkF m 25 #[.val (.int p0), .val (.int p1), .val (.int p2), .val (.int p3), .val (.int p4), .val (.int p5), .val (.int (3 : Int32)), .val (.int (2 : Int32)), .val (.ref b137), .unset, .unset] []))
      refine Go.st (fun _ k => XS.iload X137.here hx rfl (hb hby at_25) rfl k) ?_
      refine Go.st (fun _ k => XS.i2b X137.here hx rfl (hb hby at_27) rfl k) ?_
      show Go p e below _ (T137.setTop (mkF m 28 #[.val (.int p0), .val (.int p1), .val (.int p2), .val (.int p3), .val (.int p4), .val (.int p5), .val (.int (3 : Int32)), .val (.int (2 : Int32)), .val (.ref b137), .unset, .unset] [(.int (p5.toInt8.toInt32))]))
      refine Go.st (fun _ k => XS.istore X137.here hx rfl (hb hby at_28) rfl (l' := #[.val (.int p0), .val (.int p1), .val (.int p2), .val (.int p3), .val (.int p4), .val (.int p5), .val (.int (3 : Int32)), .val (.int (2 : Int32)), .val (.ref b137), .val (.int (p5.toInt8.toInt32)), .unset]) rfl k) ?_
      show Go p e below _ (T137.setTop (mkF m 30 #[.val (.int p0), .val (.int p1), .val (.int p2), .val (.int p3), .val (.int p4), .val (.int p5), .val (.int (3 : Int32)), .val (.int (2 : Int32)), .val (.ref b137), .val (.int (p5.toInt8.toInt32)), .unset] []))
      refine Go.st (fun _ k => XS.iload X137.here hx rfl (hb hby at_30) rfl k) ?_
      refine Go.st (fun _ k => XS.ifNo X137.here hx rfl (hb hby at_32) rfl ((if0 _ _).trans (tlt (by decide : ((0 : Int32) < (3 : Int32)))).2.2.2) k) ?_
      show Go p e below _ (T137.setTop (mkF m 35 #[.val (.int p0), .val (.int p1), .val (.int p2), .val (.int p3), .val (.int p4), .val (.int p5), .val (.int (3 : Int32)), .val (.int (2 : Int32)), .val (.ref b137), .val (.int (p5.toInt8.toInt32)), .unset] []))
      refine Go.st (fun _ k => XS.aload X137.here hx rfl (hb hby at_35) rfl rfl k) ?_
      refine Go.st (fun _ k => XS.iconst X137.here hx rfl (hb hby at_37) k) ?_
      show Go p e below _ (T137.setTop (mkF m 38 #[.val (.int p0), .val (.int p1), .val (.int p2), .val (.int p3), .val (.int p4), .val (.int p5), .val (.int (3 : Int32)), .val (.int (2 : Int32)), .val (.ref b137), .val (.int (p5.toInt8.toInt32)), .unset] [(.int (0 : Int32)), (.ref b137)]))
      refine Go.st (fun _ k => XS.iload X137.here hx rfl (hb hby at_38) rfl k) ?_
      show Go p e below _ (T137.setTop (mkF m 40 #[.val (.int p0), .val (.int p1), .val (.int p2), .val (.int p3), .val (.int p4), .val (.int p5), .val (.int (3 : Int32)), .val (.int (2 : Int32)), .val (.ref b137), .val (.int (p5.toInt8.toInt32)), .unset] [(.int (p5.toInt8.toInt32)), (.int (0 : Int32)), (.ref b137)]))
      obtain ⟨cl138, Ar138, ck138, Sz138, Nn138, Hs138, Gs138⟩ := id V137
      have hin138 : ¬ ((0 : Int32) < 0 ∨ cl138.slots.size ≤ ((0 : Int32)).toNatClampNeg) := inb_of Sz138 ⟨by decide, by decide⟩
      obtain ⟨T139, h139, X139, e139, W139, st139⟩ := stB X137 hx hZ e137 Ar138 (j := (0 : Int32)) hin138 (g := (mkF m 40 #[.val (.int p0), .val (.int p1), .val (.int p2), .val (.int p3), .val (.int p4), .val (.int p5), .val (.int (3 : Int32)), .val (.int (2 : Int32)), .val (.ref b137), .val (.int (p5.toInt8.toInt32)), .unset] [(.int (p5.toInt8.toInt32)), (.int (0 : Int32)), (.ref b137)])) rfl rfl (hb hby at_40)
      have V139 : Arv Z h139 b137 k137 .byte (5 : Int32) [(.int (nar .byte (p5.toInt8.toInt32))), (.int (0 : Int32)), (.int (0 : Int32)), (.int (0 : Int32)), (.int (0 : Int32))] (.int (0 : Int32)) := Arv.set Ar138 ck138 Sz138 Nn138 Hs138 Gs138 (fits_nar_byte _) W139 0 rfl (Nat.le_of_ble_eq_true rfl)
      have N139 := Fr.snoc X139 N0 gg137
      have Z139 : n0 ≤ h139.size := by rw [W139.size]; exact Z137
      refine Go.st (fun _ k => st139 _ k) ?_
      show Go p e below _ (T139.setTop (mkF m 41 #[.val (.int p0), .val (.int p1), .val (.int p2), .val (.int p3), .val (.int p4), .val (.int p5), .val (.int (3 : Int32)), .val (.int (2 : Int32)), .val (.ref b137), .val (.int (p5.toInt8.toInt32)), .unset] []))
      refine Go.st (fun _ k => XS.iload X139.here hx rfl (hb hby at_41) rfl k) ?_
      refine Go.st (fun _ k => XS.iconst X139.here hx rfl (hb hby at_43) k) ?_
      show Go p e below _ (T139.setTop (mkF m 44 #[.val (.int p0), .val (.int p1), .val (.int p2), .val (.int p3), .val (.int p4), .val (.int p5), .val (.int (3 : Int32)), .val (.int (2 : Int32)), .val (.ref b137), .val (.int (p5.toInt8.toInt32)), .unset] [(.int (1 : Int32)), (.int (3 : Int32))]))
      refine Go.st (fun _ k => XS.icmpNo X139.here hx rfl (hb hby at_44) rfl (tlt (by decide : ((1 : Int32) < (3 : Int32)))).2.2.2 k) ?_
      show Go p e below _ (T139.setTop (mkF m 47 #[.val (.int p0), .val (.int p1), .val (.int p2), .val (.int p3), .val (.int p4), .val (.int p5), .val (.int (3 : Int32)), .val (.int (2 : Int32)), .val (.ref b137), .val (.int (p5.toInt8.toInt32)), .unset] []))
      refine Go.st (fun _ k => XS.aload X139.here hx rfl (hb hby at_47) rfl rfl k) ?_
      refine Go.st (fun _ k => XS.iconst X139.here hx rfl (hb hby at_49) k) ?_
      show Go p e below _ (T139.setTop (mkF m 50 #[.val (.int p0), .val (.int p1), .val (.int p2), .val (.int p3), .val (.int p4), .val (.int p5), .val (.int (3 : Int32)), .val (.int (2 : Int32)), .val (.ref b137), .val (.int (p5.toInt8.toInt32)), .unset] [(.int (1 : Int32)), (.ref b137)]))
      refine Go.st (fun _ k => XS.iload X139.here hx rfl (hb hby at_50) rfl k) ?_
      show Go p e below _ (T139.setTop (mkF m 52 #[.val (.int p0), .val (.int p1), .val (.int p2), .val (.int p3), .val (.int p4), .val (.int p5), .val (.int (3 : Int32)), .val (.int (2 : Int32)), .val (.ref b137), .val (.int (p5.toInt8.toInt32)), .unset] [(.int (p5.toInt8.toInt32)), (.int (1 : Int32)), (.ref b137)]))
      obtain ⟨cl140, Ar140, ck140, Sz140, Nn140, Hs140, Gs140⟩ := id V139
      have hin140 : ¬ ((1 : Int32) < 0 ∨ cl140.slots.size ≤ ((1 : Int32)).toNatClampNeg) := inb_of Sz140 ⟨by decide, by decide⟩
      obtain ⟨T141, h141, X141, e141, W141, st141⟩ := stB X139 hx hZ e139 Ar140 (j := (1 : Int32)) hin140 (g := (mkF m 52 #[.val (.int p0), .val (.int p1), .val (.int p2), .val (.int p3), .val (.int p4), .val (.int p5), .val (.int (3 : Int32)), .val (.int (2 : Int32)), .val (.ref b137), .val (.int (p5.toInt8.toInt32)), .unset] [(.int (p5.toInt8.toInt32)), (.int (1 : Int32)), (.ref b137)])) rfl rfl (hb hby at_52)
      have V141 : Arv Z h141 b137 k137 .byte (5 : Int32) [(.int (nar .byte (p5.toInt8.toInt32))), (.int (nar .byte (p5.toInt8.toInt32))), (.int (0 : Int32)), (.int (0 : Int32)), (.int (0 : Int32))] (.int (0 : Int32)) := Arv.set Ar140 ck140 Sz140 Nn140 Hs140 Gs140 (fits_nar_byte _) W141 1 rfl (Nat.le_of_ble_eq_true rfl)
      have N141 := Fr.snoc X141 N139 gg137
      have Z141 : n0 ≤ h141.size := by rw [W141.size]; exact Z139
      refine Go.st (fun _ k => st141 _ k) ?_
      show Go p e below _ (T141.setTop (mkF m 53 #[.val (.int p0), .val (.int p1), .val (.int p2), .val (.int p3), .val (.int p4), .val (.int p5), .val (.int (3 : Int32)), .val (.int (2 : Int32)), .val (.ref b137), .val (.int (p5.toInt8.toInt32)), .unset] []))
      refine Go.st (fun _ k => XS.iload X141.here hx rfl (hb hby at_53) rfl k) ?_
      refine Go.st (fun _ k => XS.iconst X141.here hx rfl (hb hby at_55) k) ?_
      show Go p e below _ (T141.setTop (mkF m 56 #[.val (.int p0), .val (.int p1), .val (.int p2), .val (.int p3), .val (.int p4), .val (.int p5), .val (.int (3 : Int32)), .val (.int (2 : Int32)), .val (.ref b137), .val (.int (p5.toInt8.toInt32)), .unset] [(.int (2 : Int32)), (.int (3 : Int32))]))
      refine Go.st (fun _ k => XS.icmpNo X141.here hx rfl (hb hby at_56) rfl (tlt (by decide : ((2 : Int32) < (3 : Int32)))).2.2.2 k) ?_
      show Go p e below _ (T141.setTop (mkF m 59 #[.val (.int p0), .val (.int p1), .val (.int p2), .val (.int p3), .val (.int p4), .val (.int p5), .val (.int (3 : Int32)), .val (.int (2 : Int32)), .val (.ref b137), .val (.int (p5.toInt8.toInt32)), .unset] []))
      refine Go.st (fun _ k => XS.aload X141.here hx rfl (hb hby at_59) rfl rfl k) ?_
      refine Go.st (fun _ k => XS.iconst X141.here hx rfl (hb hby at_61) k) ?_
      show Go p e below _ (T141.setTop (mkF m 62 #[.val (.int p0), .val (.int p1), .val (.int p2), .val (.int p3), .val (.int p4), .val (.int p5), .val (.int (3 : Int32)), .val (.int (2 : Int32)), .val (.ref b137), .val (.int (p5.toInt8.toInt32)), .unset] [(.int (2 : Int32)), (.ref b137)]))
      refine Go.st (fun _ k => XS.iload X141.here hx rfl (hb hby at_62) rfl k) ?_
      show Go p e below _ (T141.setTop (mkF m 64 #[.val (.int p0), .val (.int p1), .val (.int p2), .val (.int p3), .val (.int p4), .val (.int p5), .val (.int (3 : Int32)), .val (.int (2 : Int32)), .val (.ref b137), .val (.int (p5.toInt8.toInt32)), .unset] [(.int (p5.toInt8.toInt32)), (.int (2 : Int32)), (.ref b137)]))
      obtain ⟨cl142, Ar142, ck142, Sz142, Nn142, Hs142, Gs142⟩ := id V141
      have hin142 : ¬ ((2 : Int32) < 0 ∨ cl142.slots.size ≤ ((2 : Int32)).toNatClampNeg) := inb_of Sz142 ⟨by decide, by decide⟩
      obtain ⟨T143, h143, X143, e143, W143, st143⟩ := stB X141 hx hZ e141 Ar142 (j := (2 : Int32)) hin142 (g := (mkF m 64 #[.val (.int p0), .val (.int p1), .val (.int p2), .val (.int p3), .val (.int p4), .val (.int p5), .val (.int (3 : Int32)), .val (.int (2 : Int32)), .val (.ref b137), .val (.int (p5.toInt8.toInt32)), .unset] [(.int (p5.toInt8.toInt32)), (.int (2 : Int32)), (.ref b137)])) rfl rfl (hb hby at_64)
      have V143 : Arv Z h143 b137 k137 .byte (5 : Int32) [(.int (nar .byte (p5.toInt8.toInt32))), (.int (nar .byte (p5.toInt8.toInt32))), (.int (nar .byte (p5.toInt8.toInt32))), (.int (0 : Int32)), (.int (0 : Int32))] (.int (0 : Int32)) := Arv.set Ar142 ck142 Sz142 Nn142 Hs142 Gs142 (fits_nar_byte _) W143 2 rfl (Nat.le_of_ble_eq_true rfl)
      have N143 := Fr.snoc X143 N141 gg137
      have Z143 : n0 ≤ h143.size := by rw [W143.size]; exact Z141
      refine Go.st (fun _ k => st143 _ k) ?_
      show Go p e below _ (T143.setTop (mkF m 65 #[.val (.int p0), .val (.int p1), .val (.int p2), .val (.int p3), .val (.int p4), .val (.int p5), .val (.int (3 : Int32)), .val (.int (2 : Int32)), .val (.ref b137), .val (.int (p5.toInt8.toInt32)), .unset] []))
      refine Go.st (fun _ k => XS.aload X143.here hx rfl (hb hby at_65) rfl rfl k) ?_
      refine Go.st (fun _ k => XS.iload X143.here hx rfl (hb hby at_67) rfl k) ?_
      show Go p e below _ (T143.setTop (mkF m 69 #[.val (.int p0), .val (.int p1), .val (.int p2), .val (.int p3), .val (.int p4), .val (.int p5), .val (.int (3 : Int32)), .val (.int (2 : Int32)), .val (.ref b137), .val (.int (p5.toInt8.toInt32)), .unset] [(.int (3 : Int32)), (.ref b137)]))
      refine Go.st (fun _ k => XS.iloadN X143.here hx rfl (hb hby at_69) rfl k) ?_
      refine Go.st (fun _ k => XS.i2b X143.here hx rfl (hb hby at_70) rfl k) ?_
      show Go p e below _ (T143.setTop (mkF m 71 #[.val (.int p0), .val (.int p1), .val (.int p2), .val (.int p3), .val (.int p4), .val (.int p5), .val (.int (3 : Int32)), .val (.int (2 : Int32)), .val (.ref b137), .val (.int (p5.toInt8.toInt32)), .unset] [(.int (p0.toInt8.toInt32)), (.int (3 : Int32)), (.ref b137)]))
      obtain ⟨cl144, Ar144, ck144, Sz144, Nn144, Hs144, Gs144⟩ := id V143
      have hin144 : ¬ ((3 : Int32) < 0 ∨ cl144.slots.size ≤ ((3 : Int32)).toNatClampNeg) := inb_of Sz144 ⟨by decide, by decide⟩
      obtain ⟨T145, h145, X145, e145, W145, st145⟩ := stB X143 hx hZ e143 Ar144 (j := (3 : Int32)) hin144 (g := (mkF m 71 #[.val (.int p0), .val (.int p1), .val (.int p2), .val (.int p3), .val (.int p4), .val (.int p5), .val (.int (3 : Int32)), .val (.int (2 : Int32)), .val (.ref b137), .val (.int (p5.toInt8.toInt32)), .unset] [(.int (p0.toInt8.toInt32)), (.int (3 : Int32)), (.ref b137)])) rfl rfl (hb hby at_71)
      have V145 : Arv Z h145 b137 k137 .byte (5 : Int32) [(.int (nar .byte (p5.toInt8.toInt32))), (.int (nar .byte (p5.toInt8.toInt32))), (.int (nar .byte (p5.toInt8.toInt32))), (.int (nar .byte (p0.toInt8.toInt32))), (.int (0 : Int32))] (.int (0 : Int32)) := Arv.set Ar144 ck144 Sz144 Nn144 Hs144 Gs144 (fits_nar_byte _) W145 3 rfl (Nat.le_of_ble_eq_true rfl)
      have N145 := Fr.snoc X145 N143 gg137
      have Z145 : n0 ≤ h145.size := by rw [W145.size]; exact Z143
      refine Go.st (fun _ k => st145 _ k) ?_
      show Go p e below _ (T145.setTop (mkF m 72 #[.val (.int p0), .val (.int p1), .val (.int p2), .val (.int p3), .val (.int p4), .val (.int p5), .val (.int (3 : Int32)), .val (.int (2 : Int32)), .val (.ref b137), .val (.int (p5.toInt8.toInt32)), .unset] []))
      refine Go.st (fun _ k => XS.iload X145.here hx rfl (hb hby at_72) rfl k) ?_
      refine Go.st (fun _ k => XS.iconst X145.here hx rfl (hb hby at_74) k) ?_
      show Go p e below _ (T145.setTop (mkF m 75 #[.val (.int p0), .val (.int p1), .val (.int p2), .val (.int p3), .val (.int p4), .val (.int p5), .val (.int (3 : Int32)), .val (.int (2 : Int32)), .val (.ref b137), .val (.int (p5.toInt8.toInt32)), .unset] [(.int (1 : Int32)), (.int (2 : Int32))]))
      refine Go.st (fun _ k => XS.icmpNo X145.here hx rfl (hb hby at_75) rfl (tlt (by decide : ((1 : Int32) < (2 : Int32)))).2.2.2 k) ?_
      show Go p e below _ (T145.setTop (mkF m 78 #[.val (.int p0), .val (.int p1), .val (.int p2), .val (.int p3), .val (.int p4), .val (.int p5), .val (.int (3 : Int32)), .val (.int (2 : Int32)), .val (.ref b137), .val (.int (p5.toInt8.toInt32)), .unset] []))
      refine Go.st (fun _ k => XS.aload X145.here hx rfl (hb hby at_78) rfl rfl k) ?_
      refine Go.st (fun _ k => XS.iload X145.here hx rfl (hb hby at_80) rfl k) ?_
      show Go p e below _ (T145.setTop (mkF m 82 #[.val (.int p0), .val (.int p1), .val (.int p2), .val (.int p3), .val (.int p4), .val (.int p5), .val (.int (3 : Int32)), .val (.int (2 : Int32)), .val (.ref b137), .val (.int (p5.toInt8.toInt32)), .unset] [(.int (3 : Int32)), (.ref b137)]))
      refine Go.st (fun _ k => XS.iconst X145.here hx rfl (hb hby at_82) k) ?_
      refine Go.st (fun _ k => XS.iadd X145.here hx rfl (hb hby at_83) rfl k) ?_
      show Go p e below _ (T145.setTop (mkF m 84 #[.val (.int p0), .val (.int p1), .val (.int p2), .val (.int p3), .val (.int p4), .val (.int p5), .val (.int (3 : Int32)), .val (.int (2 : Int32)), .val (.ref b137), .val (.int (p5.toInt8.toInt32)), .unset] [(.int (4 : Int32)), (.ref b137)]))
      refine Go.st (fun _ k => XS.iloadN X145.here hx rfl (hb hby at_84) rfl k) ?_
      refine Go.st (fun _ k => XS.i2b X145.here hx rfl (hb hby at_85) rfl k) ?_
      show Go p e below _ (T145.setTop (mkF m 86 #[.val (.int p0), .val (.int p1), .val (.int p2), .val (.int p3), .val (.int p4), .val (.int p5), .val (.int (3 : Int32)), .val (.int (2 : Int32)), .val (.ref b137), .val (.int (p5.toInt8.toInt32)), .unset] [(.int (p1.toInt8.toInt32)), (.int (4 : Int32)), (.ref b137)]))
      obtain ⟨cl146, Ar146, ck146, Sz146, Nn146, Hs146, Gs146⟩ := id V145
      have hin146 : ¬ ((4 : Int32) < 0 ∨ cl146.slots.size ≤ ((4 : Int32)).toNatClampNeg) := inb_of Sz146 ⟨by decide, by decide⟩
      obtain ⟨T147, h147, X147, e147, W147, st147⟩ := stB X145 hx hZ e145 Ar146 (j := (4 : Int32)) hin146 (g := (mkF m 86 #[.val (.int p0), .val (.int p1), .val (.int p2), .val (.int p3), .val (.int p4), .val (.int p5), .val (.int (3 : Int32)), .val (.int (2 : Int32)), .val (.ref b137), .val (.int (p5.toInt8.toInt32)), .unset] [(.int (p1.toInt8.toInt32)), (.int (4 : Int32)), (.ref b137)])) rfl rfl (hb hby at_86)
      have V147 : Arv Z h147 b137 k137 .byte (5 : Int32) [(.int (nar .byte (p5.toInt8.toInt32))), (.int (nar .byte (p5.toInt8.toInt32))), (.int (nar .byte (p5.toInt8.toInt32))), (.int (nar .byte (p0.toInt8.toInt32))), (.int (nar .byte (p1.toInt8.toInt32)))] (.int (0 : Int32)) := Arv.set Ar146 ck146 Sz146 Nn146 Hs146 Gs146 (fits_nar_byte _) W147 4 rfl (Nat.le_of_ble_eq_true rfl)
      have N147 := Fr.snoc X147 N145 gg137
      have Z147 : n0 ≤ h147.size := by rw [W147.size]; exact Z145
      refine Go.st (fun _ k => st147 _ k) ?_
      show Go p e below _ (T147.setTop (mkF m 87 #[.val (.int p0), .val (.int p1), .val (.int p2), .val (.int p3), .val (.int p4), .val (.int p5), .val (.int (3 : Int32)), .val (.int (2 : Int32)), .val (.ref b137), .val (.int (p5.toInt8.toInt32)), .unset] []))
      refine Go.st (fun _ k => XS.iload X147.here hx rfl (hb hby at_87) rfl k) ?_
      refine Go.st (fun _ k => XS.iconst X147.here hx rfl (hb hby at_89) k) ?_
      show Go p e below _ (T147.setTop (mkF m 90 #[.val (.int p0), .val (.int p1), .val (.int p2), .val (.int p3), .val (.int p4), .val (.int p5), .val (.int (3 : Int32)), .val (.int (2 : Int32)), .val (.ref b137), .val (.int (p5.toInt8.toInt32)), .unset] [(.int (2 : Int32)), (.int (2 : Int32))]))
      refine Go.st (fun _ k => XS.icmpYes X147.here hx rfl (pc0 := 90) (pc' := 102) rfl (hb hby at_90) rfl (flt (by decide : ¬ ((2 : Int32) < (2 : Int32)))).2.2.2 (by decide) (by decide) k) ?_
      show Go p e below _ (T147.setTop (mkF m 102 #[.val (.int p0), .val (.int p1), .val (.int p2), .val (.int p3), .val (.int p4), .val (.int p5), .val (.int (3 : Int32)), .val (.int (2 : Int32)), .val (.ref b137), .val (.int (p5.toInt8.toInt32)), .unset] []))
      refine Go.st (fun _ k => XS.iload X147.here hx rfl (hb hby at_102) rfl k) ?_
      refine Go.st (fun _ k => XS.iconst X147.here hx rfl (hb hby at_104) k) ?_
      show Go p e below _ (T147.setTop (mkF m 105 #[.val (.int p0), .val (.int p1), .val (.int p2), .val (.int p3), .val (.int p4), .val (.int p5), .val (.int (3 : Int32)), .val (.int (2 : Int32)), .val (.ref b137), .val (.int (p5.toInt8.toInt32)), .unset] [(.int (3 : Int32)), (.int (2 : Int32))]))
      refine Go.st (fun _ k => XS.icmpYes X147.here hx rfl (pc0 := 105) (pc' := 117) rfl (hb hby at_105) rfl (flt (by decide : ¬ ((3 : Int32) < (2 : Int32)))).2.2.2 (by decide) (by decide) k) ?_
      show Go p e below _ (T147.setTop (mkF m 117 #[.val (.int p0), .val (.int p1), .val (.int p2), .val (.int p3), .val (.int p4), .val (.int p5), .val (.int (3 : Int32)), .val (.int (2 : Int32)), .val (.ref b137), .val (.int (p5.toInt8.toInt32)), .unset] []))
      refine Go.st (fun _ k => XS.aload X147.here hx rfl (hb hby at_117) rfl rfl k) ?_
      refine Go.st (fun _ k => XS.iload X147.here hx rfl (hb hby at_119) rfl k) ?_
      show Go p e below _ (T147.setTop (mkF m 121 #[.val (.int p0), .val (.int p1), .val (.int p2), .val (.int p3), .val (.int p4), .val (.int p5), .val (.int (3 : Int32)), .val (.int (2 : Int32)), .val (.ref b137), .val (.int (p5.toInt8.toInt32)), .unset] [(.int (3 : Int32)), (.ref b137)]))
      obtain ⟨_, _, ⟨T148, L148, k148, n148⟩, -, X148, ⟨Lc148, hQ148, l148, y148, z148⟩, st148⟩ := Jvm.LawKit.callS X147 hx (y := (⟨"com/example/apportis/apportis/Utf8", "characterEnd", "([BI)I"⟩ : MethodName)) hown (mvT hZ (hw _ (List.mem_of_getElem? (i := 1) rfl))) (mvT hZ (hw _ (List.mem_of_getElem? (i := 2) rfl))) (mvT hZ (hw _ (List.mem_of_getElem? (i := 3) rfl))) (mvT hZ (hw _ (List.mem_of_getElem? (i := 4) rfl))) (by decide) (backOf (W := 0) (rmCE l Z aZ hw [] (nar .byte (p0.toInt8.toInt32)) (nar .byte (p1.toInt8.toInt32)) (0 : Int32) (0 : Int32) b137 (3 : Int32) k137 (5 : Int32) [(.int (nar .byte (p5.toInt8.toInt32))), (.int (nar .byte (p5.toInt8.toInt32))), (.int (nar .byte (p5.toInt8.toInt32))), (.int (nar .byte (p0.toInt8.toInt32))), (.int (nar .byte (p1.toInt8.toInt32)))] h147 n0 (by decide) (by decide) (by decide) rfl (fun _ => rfl) (fun h => absurd h (by decide)) (fun h => absurd h (by decide)) V147) hZ (hw _ (List.mem_of_getElem? (i := 4) rfl)) (hw _ (List.mem_of_getElem? (i := 3) rfl)) (by decide) (by decide)) (g := (mkF m 121 #[.val (.int p0), .val (.int p1), .val (.int p2), .val (.int p3), .val (.int p4), .val (.int p5), .val (.int (3 : Int32)), .val (.int (2 : Int32)), .val (.ref b137), .val (.int (p5.toInt8.toInt32)), .unset] [(.int (3 : Int32)), (.ref b137)])) rfl (by rw [hml]; rfl) (argsL := [(.ref b137), (.int (3 : Int32))]) (rest := []) (lenOf pd92f6cd8e rfl) rfl (by show 2 * 0 + _ ≤ _; exact Nat.le_of_eq rfl) (hb hby at_121) (fun _ _ => ⟨rfl, e147, (by decide : 1 + 0 ≤ _), (by decide : 5 + 0 ≤ _)⟩)
      dsimp only [Pt.U, Pt.locs, Pt.cells, Pt.slots] at X148 l148 y148 z148 st148 hQ148
      subst l148 y148 z148
      obtain ⟨rfl, N148q, e148⟩ := hQ148
      have N148 := Fr.app N147 N148q
      refine Go.st (fun _ k => st148 _ k) ?_
      show Go p e below _ (T148.setTop (mkF m 124 #[.val (.int p0), .val (.int p1), .val (.int p2), .val (.int p3), .val (.int p4), .val (.int p5), .val (.int (3 : Int32)), .val (.int (2 : Int32)), .val (.ref b137), .val (.int (p5.toInt8.toInt32)), .unset] [(.int (fCE (nar .byte (p0.toInt8.toInt32)) (nar .byte (p1.toInt8.toInt32)) (0 : Int32) (0 : Int32) (3 : Int32) (5 : Int32)))]))
      refine Go.st (fun _ k => XS.istore X148.here hx rfl (hb hby at_124) rfl (l' := #[.val (.int p0), .val (.int p1), .val (.int p2), .val (.int p3), .val (.int p4), .val (.int p5), .val (.int (3 : Int32)), .val (.int (2 : Int32)), .val (.ref b137), .val (.int (p5.toInt8.toInt32)), .val (.int (fCE (nar .byte (p0.toInt8.toInt32)) (nar .byte (p1.toInt8.toInt32)) (0 : Int32) (0 : Int32) (3 : Int32) (5 : Int32)))]) rfl k) ?_
      show Go p e below _ (T148.setTop (mkF m 126 #[.val (.int p0), .val (.int p1), .val (.int p2), .val (.int p3), .val (.int p4), .val (.int p5), .val (.int (3 : Int32)), .val (.int (2 : Int32)), .val (.ref b137), .val (.int (p5.toInt8.toInt32)), .val (.int (fCE (nar .byte (p0.toInt8.toInt32)) (nar .byte (p1.toInt8.toInt32)) (0 : Int32) (0 : Int32) (3 : Int32) (5 : Int32)))] []))
      refine Go.st (fun _ k => XS.iload X148.here hx rfl (hb hby at_126) rfl k) ?_
      refine Go.st (fun _ k => XS.iloadN X148.here hx rfl (hb hby at_128) rfl k) ?_
      show Go p e below _ (T148.setTop (mkF m 129 #[.val (.int p0), .val (.int p1), .val (.int p2), .val (.int p3), .val (.int p4), .val (.int p5), .val (.int (3 : Int32)), .val (.int (2 : Int32)), .val (.ref b137), .val (.int (p5.toInt8.toInt32)), .val (.int (fCE (nar .byte (p0.toInt8.toInt32)) (nar .byte (p1.toInt8.toInt32)) (0 : Int32) (0 : Int32) (3 : Int32) (5 : Int32)))] [(.int p0), (.int (fCE (nar .byte (p0.toInt8.toInt32)) (nar .byte (p1.toInt8.toInt32)) (0 : Int32) (0 : Int32) (3 : Int32) (5 : Int32)))]))
      refine Go.st (fun _ k => XS.sipush X148.here hx rfl (hb hby at_129) k) ?_
      refine Go.st (fun _ k => XS.iand X148.here hx rfl (hb hby at_132) rfl k) ?_
      show Go p e below _ (T148.setTop (mkF m 133 #[.val (.int p0), .val (.int p1), .val (.int p2), .val (.int p3), .val (.int p4), .val (.int p5), .val (.int (3 : Int32)), .val (.int (2 : Int32)), .val (.ref b137), .val (.int (p5.toInt8.toInt32)), .val (.int (fCE (nar .byte (p0.toInt8.toInt32)) (nar .byte (p1.toInt8.toInt32)) (0 : Int32) (0 : Int32) (3 : Int32) (5 : Int32)))] [(.int (p0 &&& (255 : Int32))), (.int (fCE (nar .byte (p0.toInt8.toInt32)) (nar .byte (p1.toInt8.toInt32)) (0 : Int32) (0 : Int32) (3 : Int32) (5 : Int32)))]))
      refine Go.st (fun _ k => XS.iloadN X148.here hx rfl (hb hby at_133) rfl k) ?_
      refine Go.st (fun _ k => XS.sipush X148.here hx rfl (hb hby at_134) k) ?_
      show Go p e below _ (T148.setTop (mkF m 137 #[.val (.int p0), .val (.int p1), .val (.int p2), .val (.int p3), .val (.int p4), .val (.int p5), .val (.int (3 : Int32)), .val (.int (2 : Int32)), .val (.ref b137), .val (.int (p5.toInt8.toInt32)), .val (.int (fCE (nar .byte (p0.toInt8.toInt32)) (nar .byte (p1.toInt8.toInt32)) (0 : Int32) (0 : Int32) (3 : Int32) (5 : Int32)))] [(.int (255 : Int32)), (.int p1), (.int (p0 &&& (255 : Int32))), (.int (fCE (nar .byte (p0.toInt8.toInt32)) (nar .byte (p1.toInt8.toInt32)) (0 : Int32) (0 : Int32) (3 : Int32) (5 : Int32)))]))
      refine Go.st (fun _ k => XS.iand X148.here hx rfl (hb hby at_137) rfl k) ?_
      refine Go.st (fun _ k => XS.iloadN X148.here hx rfl (hb hby at_138) rfl k) ?_
      show Go p e below _ (T148.setTop (mkF m 139 #[.val (.int p0), .val (.int p1), .val (.int p2), .val (.int p3), .val (.int p4), .val (.int p5), .val (.int (3 : Int32)), .val (.int (2 : Int32)), .val (.ref b137), .val (.int (p5.toInt8.toInt32)), .val (.int (fCE (nar .byte (p0.toInt8.toInt32)) (nar .byte (p1.toInt8.toInt32)) (0 : Int32) (0 : Int32) (3 : Int32) (5 : Int32)))] [(.int p2), (.int (p1 &&& (255 : Int32))), (.int (p0 &&& (255 : Int32))), (.int (fCE (nar .byte (p0.toInt8.toInt32)) (nar .byte (p1.toInt8.toInt32)) (0 : Int32) (0 : Int32) (3 : Int32) (5 : Int32)))]))
      refine Go.st (fun _ k => XS.sipush X148.here hx rfl (hb hby at_139) k) ?_
      refine Go.st (fun _ k => XS.iand X148.here hx rfl (hb hby at_142) rfl k) ?_
      show Go p e below _ (T148.setTop (mkF m 143 #[.val (.int p0), .val (.int p1), .val (.int p2), .val (.int p3), .val (.int p4), .val (.int p5), .val (.int (3 : Int32)), .val (.int (2 : Int32)), .val (.ref b137), .val (.int (p5.toInt8.toInt32)), .val (.int (fCE (nar .byte (p0.toInt8.toInt32)) (nar .byte (p1.toInt8.toInt32)) (0 : Int32) (0 : Int32) (3 : Int32) (5 : Int32)))] [(.int (p2 &&& (255 : Int32))), (.int (p1 &&& (255 : Int32))), (.int (p0 &&& (255 : Int32))), (.int (fCE (nar .byte (p0.toInt8.toInt32)) (nar .byte (p1.toInt8.toInt32)) (0 : Int32) (0 : Int32) (3 : Int32) (5 : Int32)))]))
      refine Go.st (fun _ k => XS.iloadN X148.here hx rfl (hb hby at_143) rfl k) ?_
      refine Go.st (fun _ k => XS.sipush X148.here hx rfl (hb hby at_144) k) ?_
      show Go p e below _ (T148.setTop (mkF m 147 #[.val (.int p0), .val (.int p1), .val (.int p2), .val (.int p3), .val (.int p4), .val (.int p5), .val (.int (3 : Int32)), .val (.int (2 : Int32)), .val (.ref b137), .val (.int (p5.toInt8.toInt32)), .val (.int (fCE (nar .byte (p0.toInt8.toInt32)) (nar .byte (p1.toInt8.toInt32)) (0 : Int32) (0 : Int32) (3 : Int32) (5 : Int32)))] [(.int (255 : Int32)), (.int p3), (.int (p2 &&& (255 : Int32))), (.int (p1 &&& (255 : Int32))), (.int (p0 &&& (255 : Int32))), (.int (fCE (nar .byte (p0.toInt8.toInt32)) (nar .byte (p1.toInt8.toInt32)) (0 : Int32) (0 : Int32) (3 : Int32) (5 : Int32)))]))
      refine Go.st (fun _ k => XS.iand X148.here hx rfl (hb hby at_147) rfl k) ?_
      refine Go.st (fun _ k => XS.iload X148.here hx rfl (hb hby at_148) rfl k) ?_
      show Go p e below _ (T148.setTop (mkF m 150 #[.val (.int p0), .val (.int p1), .val (.int p2), .val (.int p3), .val (.int p4), .val (.int p5), .val (.int (3 : Int32)), .val (.int (2 : Int32)), .val (.ref b137), .val (.int (p5.toInt8.toInt32)), .val (.int (fCE (nar .byte (p0.toInt8.toInt32)) (nar .byte (p1.toInt8.toInt32)) (0 : Int32) (0 : Int32) (3 : Int32) (5 : Int32)))] [(.int (2 : Int32)), (.int (p3 &&& (255 : Int32))), (.int (p2 &&& (255 : Int32))), (.int (p1 &&& (255 : Int32))), (.int (p0 &&& (255 : Int32))), (.int (fCE (nar .byte (p0.toInt8.toInt32)) (nar .byte (p1.toInt8.toInt32)) (0 : Int32) (0 : Int32) (3 : Int32) (5 : Int32)))]))
      refine Go.st (fun _ k => XS.iload X148.here hx rfl (hb hby at_150) rfl k) ?_
      show Go p e below _ (T148.setTop (mkF m 152 #[.val (.int p0), .val (.int p1), .val (.int p2), .val (.int p3), .val (.int p4), .val (.int p5), .val (.int (3 : Int32)), .val (.int (2 : Int32)), .val (.ref b137), .val (.int (p5.toInt8.toInt32)), .val (.int (fCE (nar .byte (p0.toInt8.toInt32)) (nar .byte (p1.toInt8.toInt32)) (0 : Int32) (0 : Int32) (3 : Int32) (5 : Int32)))] [(.int (3 : Int32)), (.int (2 : Int32)), (.int (p3 &&& (255 : Int32))), (.int (p2 &&& (255 : Int32))), (.int (p1 &&& (255 : Int32))), (.int (p0 &&& (255 : Int32))), (.int (fCE (nar .byte (p0.toInt8.toInt32)) (nar .byte (p1.toInt8.toInt32)) (0 : Int32) (0 : Int32) (3 : Int32) (5 : Int32)))]))
      obtain ⟨_, _, ⟨T149, L149, k149, n149⟩, -, X149, ⟨Lc149, hQ149, l149, y149, z149⟩, st149⟩ := Jvm.LawKit.callS X148 hx (y := (⟨"com/example/apportis/apportis/Utf8CharacterEndPinLaw", "expected", "(IIIIII)I"⟩ : MethodName)) hown (mvT hZ (hw _ (List.mem_of_getElem? (i := 5) rfl))) (mvT hZ (hw _ (List.mem_of_getElem? (i := 6) rfl))) (mvT hZ (hw _ (List.mem_of_getElem? (i := 7) rfl))) (mvT hZ (hw _ (List.mem_of_getElem? (i := 8) rfl))) (by decide) (backOf (W := 1) (rm2 l Z aZ hw [] (p0 &&& (255 : Int32)) (p1 &&& (255 : Int32)) (p2 &&& (255 : Int32)) (p3 &&& (255 : Int32)) (2 : Int32) (3 : Int32) h147 n0 ) hZ (hw _ (List.mem_of_getElem? (i := 8) rfl)) (hw _ (List.mem_of_getElem? (i := 7) rfl)) (by decide) (by decide)) (g := (mkF m 152 #[.val (.int p0), .val (.int p1), .val (.int p2), .val (.int p3), .val (.int p4), .val (.int p5), .val (.int (3 : Int32)), .val (.int (2 : Int32)), .val (.ref b137), .val (.int (p5.toInt8.toInt32)), .val (.int (fCE (nar .byte (p0.toInt8.toInt32)) (nar .byte (p1.toInt8.toInt32)) (0 : Int32) (0 : Int32) (3 : Int32) (5 : Int32)))] [(.int (3 : Int32)), (.int (2 : Int32)), (.int (p3 &&& (255 : Int32))), (.int (p2 &&& (255 : Int32))), (.int (p1 &&& (255 : Int32))), (.int (p0 &&& (255 : Int32))), (.int (fCE (nar .byte (p0.toInt8.toInt32)) (nar .byte (p1.toInt8.toInt32)) (0 : Int32) (0 : Int32) (3 : Int32) (5 : Int32)))])) rfl (by rw [hml]; rfl) (argsL := [(.int (p0 &&& (255 : Int32))), (.int (p1 &&& (255 : Int32))), (.int (p2 &&& (255 : Int32))), (.int (p3 &&& (255 : Int32))), (.int (2 : Int32)), (.int (3 : Int32))]) (rest := [(.int (fCE (nar .byte (p0.toInt8.toInt32)) (nar .byte (p1.toInt8.toInt32)) (0 : Int32) (0 : Int32) (3 : Int32) (5 : Int32)))]) (lenOf pd41a2ea18 rfl) rfl (by show 2 * 0 + _ ≤ _; exact Nat.le_of_eq rfl) (hb hby at_152) (fun _ _ => ⟨rfl, e148, (by decide : 1 + 0 ≤ _), (by decide : 5 + 0 ≤ _)⟩)
      dsimp only [Pt.U, Pt.locs, Pt.cells, Pt.slots] at X149 l149 y149 z149 st149 hQ149
      subst l149 y149 z149
      obtain ⟨rfl, N149q, e149⟩ := hQ149
      have N149 := Fr.app N148 N149q
      refine Go.st (fun _ k => st149 _ k) ?_
      show Go p e below _ (T149.setTop (mkF m 155 #[.val (.int p0), .val (.int p1), .val (.int p2), .val (.int p3), .val (.int p4), .val (.int p5), .val (.int (3 : Int32)), .val (.int (2 : Int32)), .val (.ref b137), .val (.int (p5.toInt8.toInt32)), .val (.int (fCE (nar .byte (p0.toInt8.toInt32)) (nar .byte (p1.toInt8.toInt32)) (0 : Int32) (0 : Int32) (3 : Int32) (5 : Int32)))] [(.int (fExp (p0 &&& (255 : Int32)) (p1 &&& (255 : Int32)) (p2 &&& (255 : Int32)) (p3 &&& (255 : Int32)) (2 : Int32) (3 : Int32))), (.int (fCE (nar .byte (p0.toInt8.toInt32)) (nar .byte (p1.toInt8.toInt32)) (0 : Int32) (0 : Int32) (3 : Int32) (5 : Int32)))]))
      refine Go.st (fun _ k => XS.icmpNo X149.here hx rfl (hb hby at_155) rfl (teq (own_main p0 p1 p2 p3 (own_mask p0) (fun _ => own_mask p1) (fun h => absurd h (by decide)) (fun h => absurd h (by decide)) (by decide))).2 k) ?_
      show Go p e below _ (T149.setTop (mkF m 158 #[.val (.int p0), .val (.int p1), .val (.int p2), .val (.int p3), .val (.int p4), .val (.int p5), .val (.int (3 : Int32)), .val (.int (2 : Int32)), .val (.ref b137), .val (.int (p5.toInt8.toInt32)), .val (.int (fCE (nar .byte (p0.toInt8.toInt32)) (nar .byte (p1.toInt8.toInt32)) (0 : Int32) (0 : Int32) (3 : Int32) (5 : Int32)))] []))
      refine Go.st (fun _ k => XS.iconst X149.here hx rfl (hb hby at_158) k) ?_
      refine Go.st (fun _ k => XS.goto X149.here hx rfl (pc0 := 159) (pc' := 163) rfl (hb hby at_159) (by decide) (by decide) k) ?_
      show Go p e below _ (T149.setTop (mkF m 163 #[.val (.int p0), .val (.int p1), .val (.int p2), .val (.int p3), .val (.int p4), .val (.int p5), .val (.int (3 : Int32)), .val (.int (2 : Int32)), .val (.ref b137), .val (.int (p5.toInt8.toInt32)), .val (.int (fCE (nar .byte (p0.toInt8.toInt32)) (nar .byte (p1.toInt8.toInt32)) (0 : Int32) (0 : Int32) (3 : Int32) (5 : Int32)))] [(.int (1 : Int32))]))
      obtain ⟨fs, hr, hrun, hended, hW, hsame⟩ := X149.leave (v := some (.int (1 : Int32))) (fun h => by rw [Bd.returns] at h; cases h)
      refine ⟨_, _, retN X149 hx (t := .boolean) Bd.returns (by simp) (hb hby at_163) hr, hrun, hended, _, _, rfl, ?_, ⟨_, rfl⟩, hW, hsame.mono (by decide) (by decide)⟩
      show Q_rm0 Z p0 p1 p2 p3 p4 p5 h0 n0 _ T149.heap _
      rw [e149]
      exact ⟨rfl, N149⟩
    · rw [hr125]
      show Go p e below _ (s₁.setTop (mkF m 13 #[.val (.int p0), .val (.int p1), .val (.int p2), .val (.int p3), .val (.int p4), .val (.int p5), .val (.int (3 : Int32)), .unset, .unset, .unset, .unset] [(.int (2 : Int32)), (.int (1 : Int32))]))
      refine Go.st (fun _ k => XS.iadd X0.here hx rfl (hb hby at_13) rfl k) ?_
      refine Go.st (fun _ k => XS.istore X0.here hx rfl (hb hby at_14) rfl (l' := #[.val (.int p0), .val (.int p1), .val (.int p2), .val (.int p3), .val (.int p4), .val (.int p5), .val (.int (3 : Int32)), .val (.int (3 : Int32)), .unset, .unset, .unset]) rfl k) ?_
      show Go p e below _ (s₁.setTop (mkF m 16 #[.val (.int p0), .val (.int p1), .val (.int p2), .val (.int p3), .val (.int p4), .val (.int p5), .val (.int (3 : Int32)), .val (.int (3 : Int32)), .unset, .unset, .unset] []))
      refine Go.st (fun _ k => XS.iload X0.here hx rfl (hb hby at_16) rfl k) ?_
      refine Go.st (fun _ k => XS.iload X0.here hx rfl (hb hby at_18) rfl k) ?_
      show Go p e below _ (s₁.setTop (mkF m 20 #[.val (.int p0), .val (.int p1), .val (.int p2), .val (.int p3), .val (.int p4), .val (.int p5), .val (.int (3 : Int32)), .val (.int (3 : Int32)), .unset, .unset, .unset] [(.int (3 : Int32)), (.int (3 : Int32))]))
      refine Go.st (fun _ k => XS.iadd X0.here hx rfl (hb hby at_20) rfl k) ?_
      show Go p e below _ (s₁.setTop (mkF m 21 #[.val (.int p0), .val (.int p1), .val (.int p2), .val (.int p3), .val (.int p4), .val (.int p5), .val (.int (3 : Int32)), .val (.int (3 : Int32)), .unset, .unset, .unset] [(.int (6 : Int32))]))
      obtain ⟨T150, h150, k150, X150, e150, E150, A150, st150⟩ := newP X0 hx hZ (hw _ (List.mem_of_getElem? (i := 0) rfl)) e0 (g := (mkF m 21 #[.val (.int p0), .val (.int p1), .val (.int p2), .val (.int p3), .val (.int p4), .val (.int p5), .val (.int (3 : Int32)), .val (.int (3 : Int32)), .unset, .unset, .unset] [(.int (6 : Int32))])) rfl (hb hby at_21) rfl (by decide) (cap := 6) (by decide) (by decide) (by decide) (by decide)
      obtain ⟨b150, g150⟩ : ∃ z, z = h0.size := ⟨_, rfl⟩
      have gg150 : n0 ≤ b150 := Nat.le_trans Z0 (Nat.le_of_eq g150.symm)
      rw [← g150] at A150 st150
      have Z150 : n0 ≤ h150.size := Nat.le_trans Z0 E150.1
      have V150 : Arv Z h150 b150 k150 .byte (6 : Int32) [(.int (0 : Int32)), (.int (0 : Int32)), (.int (0 : Int32)), (.int (0 : Int32)), (.int (0 : Int32)), (.int (0 : Int32))] (.int (0 : Int32)) := (Arv.new A150 (by decide)).pad (pad_rep [] (.int (0 : Int32)) 6)
      refine Go.st (fun _ k => st150 _ k) ?_
      show Go p e below _ (T150.setTop (mkF m 23 #[.val (.int p0), .val (.int p1), .val (.int p2), .val (.int p3), .val (.int p4), .val (.int p5), .val (.int (3 : Int32)), .val (.int (3 : Int32)), .unset, .unset, .unset] [(.ref b150)]))
      refine Go.st (fun _ k => XS.astore X150.here hx rfl (hb hby at_23) rfl rfl (l' := #[.val (.int p0), .val (.int p1), .val (.int p2), .val (.int p3), .val (.int p4), .val (.int p5), .val (.int (3 : Int32)), .val (.int (3 : Int32)), .val (.ref b150), .unset, .unset]) rfl k) ?_
      show Go p e below _ (T150.setTop (mkF m 25 #[.val (.int p0), .val (.int p1), .val (.int p2), .val (.int p3), .val (.int p4), .val (.int p5), .val (.int (3 : Int32)), .val (.int (3 : Int32)), .val (.ref b150), .unset, .unset] []))
      refine Go.st (fun _ k => XS.iload X150.here hx rfl (hb hby at_25) rfl k) ?_
      refine Go.st (fun _ k => XS.i2b X150.here hx rfl (hb hby at_27) rfl k) ?_
      show Go p e below _ (T150.setTop (mkF m 28 #[.val (.int p0), .val (.int p1), .val (.int p2), .val (.int p3), .val (.int p4), .val (.int p5), .val (.int (3 : Int32)), .val (.int (3 : Int32)), .val (.ref b150), .unset, .unset] [(.int (p5.toInt8.toInt32))]))
      refine Go.st (fun _ k => XS.istore X150.here hx rfl (hb hby at_28) rfl (l' := #[.val (.int p0), .val (.int p1), .val (.int p2), .val (.int p3), .val (.int p4), .val (.int p5), .val (.int (3 : Int32)), .val (.int (3 : Int32)), .val (.ref b150), .val (.int (p5.toInt8.toInt32)), .unset]) rfl k) ?_
      show Go p e below _ (T150.setTop (mkF m 30 #[.val (.int p0), .val (.int p1), .val (.int p2), .val (.int p3), .val (.int p4), .val (.int p5), .val (.int (3 : Int32)), .val (.int (3 : Int32)), .val (.ref b150), .val (.int (p5.toInt8.toInt32)), .unset] []))
      refine Go.st (fun _ k => XS.iload X150.here hx rfl (hb hby at_30) rfl k) ?_
      refine Go.st (fun _ k => XS.ifNo X150.here hx rfl (hb hby at_32) rfl ((if0 _ _).trans (tlt (by decide : ((0 : Int32) < (3 : Int32)))).2.2.2) k) ?_
      show Go p e below _ (T150.setTop (mkF m 35 #[.val (.int p0), .val (.int p1), .val (.int p2), .val (.int p3), .val (.int p4), .val (.int p5), .val (.int (3 : Int32)), .val (.int (3 : Int32)), .val (.ref b150), .val (.int (p5.toInt8.toInt32)), .unset] []))
      refine Go.st (fun _ k => XS.aload X150.here hx rfl (hb hby at_35) rfl rfl k) ?_
      refine Go.st (fun _ k => XS.iconst X150.here hx rfl (hb hby at_37) k) ?_
      show Go p e below _ (T150.setTop (mkF m 38 #[.val (.int p0), .val (.int p1), .val (.int p2), .val (.int p3), .val (.int p4), .val (.int p5), .val (.int (3 : Int32)), .val (.int (3 : Int32)), .val (.ref b150), .val (.int (p5.toInt8.toInt32)), .unset] [(.int (0 : Int32)), (.ref b150)]))
      refine Go.st (fun _ k => XS.iload X150.here hx rfl (hb hby at_38) rfl k) ?_
      show Go p e below _ (T150.setTop (mkF m 40 #[.val (.int p0), .val (.int p1), .val (.int p2), .val (.int p3), .val (.int p4), .val (.int p5), .val (.int (3 : Int32)), .val (.int (3 : Int32)), .val (.ref b150), .val (.int (p5.toInt8.toInt32)), .unset] [(.int (p5.toInt8.toInt32)), (.int (0 : Int32)), (.ref b150)]))
      obtain ⟨cl151, Ar151, ck151, Sz151, Nn151, Hs151, Gs151⟩ := id V150
      have hin151 : ¬ ((0 : Int32) < 0 ∨ cl151.slots.size ≤ ((0 : Int32)).toNatClampNeg) := inb_of Sz151 ⟨by decide, by decide⟩
      obtain ⟨T152, h152, X152, e152, W152, st152⟩ := stB X150 hx hZ e150 Ar151 (j := (0 : Int32)) hin151 (g := (mkF m 40 #[.val (.int p0), .val (.int p1), .val (.int p2), .val (.int p3), .val (.int p4), .val (.int p5), .val (.int (3 : Int32)), .val (.int (3 : Int32)), .val (.ref b150), .val (.int (p5.toInt8.toInt32)), .unset] [(.int (p5.toInt8.toInt32)), (.int (0 : Int32)), (.ref b150)])) rfl rfl (hb hby at_40)
      have V152 : Arv Z h152 b150 k150 .byte (6 : Int32) [(.int (nar .byte (p5.toInt8.toInt32))), (.int (0 : Int32)), (.int (0 : Int32)), (.int (0 : Int32)), (.int (0 : Int32)), (.int (0 : Int32))] (.int (0 : Int32)) := Arv.set Ar151 ck151 Sz151 Nn151 Hs151 Gs151 (fits_nar_byte _) W152 0 rfl (Nat.le_of_ble_eq_true rfl)
      have N152 := Fr.snoc X152 N0 gg150
      have Z152 : n0 ≤ h152.size := by rw [W152.size]; exact Z150
      refine Go.st (fun _ k => st152 _ k) ?_
      show Go p e below _ (T152.setTop (mkF m 41 #[.val (.int p0), .val (.int p1), .val (.int p2), .val (.int p3), .val (.int p4), .val (.int p5), .val (.int (3 : Int32)), .val (.int (3 : Int32)), .val (.ref b150), .val (.int (p5.toInt8.toInt32)), .unset] []))
      refine Go.st (fun _ k => XS.iload X152.here hx rfl (hb hby at_41) rfl k) ?_
      refine Go.st (fun _ k => XS.iconst X152.here hx rfl (hb hby at_43) k) ?_
      show Go p e below _ (T152.setTop (mkF m 44 #[.val (.int p0), .val (.int p1), .val (.int p2), .val (.int p3), .val (.int p4), .val (.int p5), .val (.int (3 : Int32)), .val (.int (3 : Int32)), .val (.ref b150), .val (.int (p5.toInt8.toInt32)), .unset] [(.int (1 : Int32)), (.int (3 : Int32))]))
      refine Go.st (fun _ k => XS.icmpNo X152.here hx rfl (hb hby at_44) rfl (tlt (by decide : ((1 : Int32) < (3 : Int32)))).2.2.2 k) ?_
      show Go p e below _ (T152.setTop (mkF m 47 #[.val (.int p0), .val (.int p1), .val (.int p2), .val (.int p3), .val (.int p4), .val (.int p5), .val (.int (3 : Int32)), .val (.int (3 : Int32)), .val (.ref b150), .val (.int (p5.toInt8.toInt32)), .unset] []))
      refine Go.st (fun _ k => XS.aload X152.here hx rfl (hb hby at_47) rfl rfl k) ?_
      refine Go.st (fun _ k => XS.iconst X152.here hx rfl (hb hby at_49) k) ?_
      show Go p e below _ (T152.setTop (mkF m 50 #[.val (.int p0), .val (.int p1), .val (.int p2), .val (.int p3), .val (.int p4), .val (.int p5), .val (.int (3 : Int32)), .val (.int (3 : Int32)), .val (.ref b150), .val (.int (p5.toInt8.toInt32)), .unset] [(.int (1 : Int32)), (.ref b150)]))
      refine Go.st (fun _ k => XS.iload X152.here hx rfl (hb hby at_50) rfl k) ?_
      show Go p e below _ (T152.setTop (mkF m 52 #[.val (.int p0), .val (.int p1), .val (.int p2), .val (.int p3), .val (.int p4), .val (.int p5), .val (.int (3 : Int32)), .val (.int (3 : Int32)), .val (.ref b150), .val (.int (p5.toInt8.toInt32)), .unset] [(.int (p5.toInt8.toInt32)), (.int (1 : Int32)), (.ref b150)]))
      obtain ⟨cl153, Ar153, ck153, Sz153, Nn153, Hs153, Gs153⟩ := id V152
      have hin153 : ¬ ((1 : Int32) < 0 ∨ cl153.slots.size ≤ ((1 : Int32)).toNatClampNeg) := inb_of Sz153 ⟨by decide, by decide⟩
      obtain ⟨T154, h154, X154, e154, W154, st154⟩ := stB X152 hx hZ e152 Ar153 (j := (1 : Int32)) hin153 (g := (mkF m 52 #[.val (.int p0), .val (.int p1), .val (.int p2), .val (.int p3), .val (.int p4), .val (.int p5), .val (.int (3 : Int32)), .val (.int (3 : Int32)), .val (.ref b150), .val (.int (p5.toInt8.toInt32)), .unset] [(.int (p5.toInt8.toInt32)), (.int (1 : Int32)), (.ref b150)])) rfl rfl (hb hby at_52)
      have V154 : Arv Z h154 b150 k150 .byte (6 : Int32) [(.int (nar .byte (p5.toInt8.toInt32))), (.int (nar .byte (p5.toInt8.toInt32))), (.int (0 : Int32)), (.int (0 : Int32)), (.int (0 : Int32)), (.int (0 : Int32))] (.int (0 : Int32)) := Arv.set Ar153 ck153 Sz153 Nn153 Hs153 Gs153 (fits_nar_byte _) W154 1 rfl (Nat.le_of_ble_eq_true rfl)
      have N154 := Fr.snoc X154 N152 gg150
      have Z154 : n0 ≤ h154.size := by rw [W154.size]; exact Z152
      refine Go.st (fun _ k => st154 _ k) ?_
      show Go p e below _ (T154.setTop (mkF m 53 #[.val (.int p0), .val (.int p1), .val (.int p2), .val (.int p3), .val (.int p4), .val (.int p5), .val (.int (3 : Int32)), .val (.int (3 : Int32)), .val (.ref b150), .val (.int (p5.toInt8.toInt32)), .unset] []))
      refine Go.st (fun _ k => XS.iload X154.here hx rfl (hb hby at_53) rfl k) ?_
      refine Go.st (fun _ k => XS.iconst X154.here hx rfl (hb hby at_55) k) ?_
      show Go p e below _ (T154.setTop (mkF m 56 #[.val (.int p0), .val (.int p1), .val (.int p2), .val (.int p3), .val (.int p4), .val (.int p5), .val (.int (3 : Int32)), .val (.int (3 : Int32)), .val (.ref b150), .val (.int (p5.toInt8.toInt32)), .unset] [(.int (2 : Int32)), (.int (3 : Int32))]))
      refine Go.st (fun _ k => XS.icmpNo X154.here hx rfl (hb hby at_56) rfl (tlt (by decide : ((2 : Int32) < (3 : Int32)))).2.2.2 k) ?_
      show Go p e below _ (T154.setTop (mkF m 59 #[.val (.int p0), .val (.int p1), .val (.int p2), .val (.int p3), .val (.int p4), .val (.int p5), .val (.int (3 : Int32)), .val (.int (3 : Int32)), .val (.ref b150), .val (.int (p5.toInt8.toInt32)), .unset] []))
      refine Go.st (fun _ k => XS.aload X154.here hx rfl (hb hby at_59) rfl rfl k) ?_
      refine Go.st (fun _ k => XS.iconst X154.here hx rfl (hb hby at_61) k) ?_
      show Go p e below _ (T154.setTop (mkF m 62 #[.val (.int p0), .val (.int p1), .val (.int p2), .val (.int p3), .val (.int p4), .val (.int p5), .val (.int (3 : Int32)), .val (.int (3 : Int32)), .val (.ref b150), .val (.int (p5.toInt8.toInt32)), .unset] [(.int (2 : Int32)), (.ref b150)]))
      refine Go.st (fun _ k => XS.iload X154.here hx rfl (hb hby at_62) rfl k) ?_
      show Go p e below _ (T154.setTop (mkF m 64 #[.val (.int p0), .val (.int p1), .val (.int p2), .val (.int p3), .val (.int p4), .val (.int p5), .val (.int (3 : Int32)), .val (.int (3 : Int32)), .val (.ref b150), .val (.int (p5.toInt8.toInt32)), .unset] [(.int (p5.toInt8.toInt32)), (.int (2 : Int32)), (.ref b150)]))
      obtain ⟨cl155, Ar155, ck155, Sz155, Nn155, Hs155, Gs155⟩ := id V154
      have hin155 : ¬ ((2 : Int32) < 0 ∨ cl155.slots.size ≤ ((2 : Int32)).toNatClampNeg) := inb_of Sz155 ⟨by decide, by decide⟩
      obtain ⟨T156, h156, X156, e156, W156, st156⟩ := stB X154 hx hZ e154 Ar155 (j := (2 : Int32)) hin155 (g := (mkF m 64 #[.val (.int p0), .val (.int p1), .val (.int p2), .val (.int p3), .val (.int p4), .val (.int p5), .val (.int (3 : Int32)), .val (.int (3 : Int32)), .val (.ref b150), .val (.int (p5.toInt8.toInt32)), .unset] [(.int (p5.toInt8.toInt32)), (.int (2 : Int32)), (.ref b150)])) rfl rfl (hb hby at_64)
      have V156 : Arv Z h156 b150 k150 .byte (6 : Int32) [(.int (nar .byte (p5.toInt8.toInt32))), (.int (nar .byte (p5.toInt8.toInt32))), (.int (nar .byte (p5.toInt8.toInt32))), (.int (0 : Int32)), (.int (0 : Int32)), (.int (0 : Int32))] (.int (0 : Int32)) := Arv.set Ar155 ck155 Sz155 Nn155 Hs155 Gs155 (fits_nar_byte _) W156 2 rfl (Nat.le_of_ble_eq_true rfl)
      have N156 := Fr.snoc X156 N154 gg150
      have Z156 : n0 ≤ h156.size := by rw [W156.size]; exact Z154
      refine Go.st (fun _ k => st156 _ k) ?_
      show Go p e below _ (T156.setTop (mkF m 65 #[.val (.int p0), .val (.int p1), .val (.int p2), .val (.int p3), .val (.int p4), .val (.int p5), .val (.int (3 : Int32)), .val (.int (3 : Int32)), .val (.ref b150), .val (.int (p5.toInt8.toInt32)), .unset] []))
      refine Go.st (fun _ k => XS.aload X156.here hx rfl (hb hby at_65) rfl rfl k) ?_
      refine Go.st (fun _ k => XS.iload X156.here hx rfl (hb hby at_67) rfl k) ?_
      show Go p e below _ (T156.setTop (mkF m 69 #[.val (.int p0), .val (.int p1), .val (.int p2), .val (.int p3), .val (.int p4), .val (.int p5), .val (.int (3 : Int32)), .val (.int (3 : Int32)), .val (.ref b150), .val (.int (p5.toInt8.toInt32)), .unset] [(.int (3 : Int32)), (.ref b150)]))
      refine Go.st (fun _ k => XS.iloadN X156.here hx rfl (hb hby at_69) rfl k) ?_
      refine Go.st (fun _ k => XS.i2b X156.here hx rfl (hb hby at_70) rfl k) ?_
      show Go p e below _ (T156.setTop (mkF m 71 #[.val (.int p0), .val (.int p1), .val (.int p2), .val (.int p3), .val (.int p4), .val (.int p5), .val (.int (3 : Int32)), .val (.int (3 : Int32)), .val (.ref b150), .val (.int (p5.toInt8.toInt32)), .unset] [(.int (p0.toInt8.toInt32)), (.int (3 : Int32)), (.ref b150)]))
      obtain ⟨cl157, Ar157, ck157, Sz157, Nn157, Hs157, Gs157⟩ := id V156
      have hin157 : ¬ ((3 : Int32) < 0 ∨ cl157.slots.size ≤ ((3 : Int32)).toNatClampNeg) := inb_of Sz157 ⟨by decide, by decide⟩
      obtain ⟨T158, h158, X158, e158, W158, st158⟩ := stB X156 hx hZ e156 Ar157 (j := (3 : Int32)) hin157 (g := (mkF m 71 #[.val (.int p0), .val (.int p1), .val (.int p2), .val (.int p3), .val (.int p4), .val (.int p5), .val (.int (3 : Int32)), .val (.int (3 : Int32)), .val (.ref b150), .val (.int (p5.toInt8.toInt32)), .unset] [(.int (p0.toInt8.toInt32)), (.int (3 : Int32)), (.ref b150)])) rfl rfl (hb hby at_71)
      have V158 : Arv Z h158 b150 k150 .byte (6 : Int32) [(.int (nar .byte (p5.toInt8.toInt32))), (.int (nar .byte (p5.toInt8.toInt32))), (.int (nar .byte (p5.toInt8.toInt32))), (.int (nar .byte (p0.toInt8.toInt32))), (.int (0 : Int32)), (.int (0 : Int32))] (.int (0 : Int32)) := Arv.set Ar157 ck157 Sz157 Nn157 Hs157 Gs157 (fits_nar_byte _) W158 3 rfl (Nat.le_of_ble_eq_true rfl)
      have N158 := Fr.snoc X158 N156 gg150
      have Z158 : n0 ≤ h158.size := by rw [W158.size]; exact Z156
      refine Go.st (fun _ k => st158 _ k) ?_
      show Go p e below _ (T158.setTop (mkF m 72 #[.val (.int p0), .val (.int p1), .val (.int p2), .val (.int p3), .val (.int p4), .val (.int p5), .val (.int (3 : Int32)), .val (.int (3 : Int32)), .val (.ref b150), .val (.int (p5.toInt8.toInt32)), .unset] []))
      refine Go.st (fun _ k => XS.iload X158.here hx rfl (hb hby at_72) rfl k) ?_
      refine Go.st (fun _ k => XS.iconst X158.here hx rfl (hb hby at_74) k) ?_
      show Go p e below _ (T158.setTop (mkF m 75 #[.val (.int p0), .val (.int p1), .val (.int p2), .val (.int p3), .val (.int p4), .val (.int p5), .val (.int (3 : Int32)), .val (.int (3 : Int32)), .val (.ref b150), .val (.int (p5.toInt8.toInt32)), .unset] [(.int (1 : Int32)), (.int (3 : Int32))]))
      refine Go.st (fun _ k => XS.icmpNo X158.here hx rfl (hb hby at_75) rfl (tlt (by decide : ((1 : Int32) < (3 : Int32)))).2.2.2 k) ?_
      show Go p e below _ (T158.setTop (mkF m 78 #[.val (.int p0), .val (.int p1), .val (.int p2), .val (.int p3), .val (.int p4), .val (.int p5), .val (.int (3 : Int32)), .val (.int (3 : Int32)), .val (.ref b150), .val (.int (p5.toInt8.toInt32)), .unset] []))
      refine Go.st (fun _ k => XS.aload X158.here hx rfl (hb hby at_78) rfl rfl k) ?_
      refine Go.st (fun _ k => XS.iload X158.here hx rfl (hb hby at_80) rfl k) ?_
      show Go p e below _ (T158.setTop (mkF m 82 #[.val (.int p0), .val (.int p1), .val (.int p2), .val (.int p3), .val (.int p4), .val (.int p5), .val (.int (3 : Int32)), .val (.int (3 : Int32)), .val (.ref b150), .val (.int (p5.toInt8.toInt32)), .unset] [(.int (3 : Int32)), (.ref b150)]))
      refine Go.st (fun _ k => XS.iconst X158.here hx rfl (hb hby at_82) k) ?_
      refine Go.st (fun _ k => XS.iadd X158.here hx rfl (hb hby at_83) rfl k) ?_
      show Go p e below _ (T158.setTop (mkF m 84 #[.val (.int p0), .val (.int p1), .val (.int p2), .val (.int p3), .val (.int p4), .val (.int p5), .val (.int (3 : Int32)), .val (.int (3 : Int32)), .val (.ref b150), .val (.int (p5.toInt8.toInt32)), .unset] [(.int (4 : Int32)), (.ref b150)]))
      refine Go.st (fun _ k => XS.iloadN X158.here hx rfl (hb hby at_84) rfl k) ?_
      refine Go.st (fun _ k => XS.i2b X158.here hx rfl (hb hby at_85) rfl k) ?_
      show Go p e below _ (T158.setTop (mkF m 86 #[.val (.int p0), .val (.int p1), .val (.int p2), .val (.int p3), .val (.int p4), .val (.int p5), .val (.int (3 : Int32)), .val (.int (3 : Int32)), .val (.ref b150), .val (.int (p5.toInt8.toInt32)), .unset] [(.int (p1.toInt8.toInt32)), (.int (4 : Int32)), (.ref b150)]))
      obtain ⟨cl159, Ar159, ck159, Sz159, Nn159, Hs159, Gs159⟩ := id V158
      have hin159 : ¬ ((4 : Int32) < 0 ∨ cl159.slots.size ≤ ((4 : Int32)).toNatClampNeg) := inb_of Sz159 ⟨by decide, by decide⟩
      obtain ⟨T160, h160, X160, e160, W160, st160⟩ := stB X158 hx hZ e158 Ar159 (j := (4 : Int32)) hin159 (g := (mkF m 86 #[.val (.int p0), .val (.int p1), .val (.int p2), .val (.int p3), .val (.int p4), .val (.int p5), .val (.int (3 : Int32)), .val (.int (3 : Int32)), .val (.ref b150), .val (.int (p5.toInt8.toInt32)), .unset] [(.int (p1.toInt8.toInt32)), (.int (4 : Int32)), (.ref b150)])) rfl rfl (hb hby at_86)
      have V160 : Arv Z h160 b150 k150 .byte (6 : Int32) [(.int (nar .byte (p5.toInt8.toInt32))), (.int (nar .byte (p5.toInt8.toInt32))), (.int (nar .byte (p5.toInt8.toInt32))), (.int (nar .byte (p0.toInt8.toInt32))), (.int (nar .byte (p1.toInt8.toInt32))), (.int (0 : Int32))] (.int (0 : Int32)) := Arv.set Ar159 ck159 Sz159 Nn159 Hs159 Gs159 (fits_nar_byte _) W160 4 rfl (Nat.le_of_ble_eq_true rfl)
      have N160 := Fr.snoc X160 N158 gg150
      have Z160 : n0 ≤ h160.size := by rw [W160.size]; exact Z158
      refine Go.st (fun _ k => st160 _ k) ?_
      show Go p e below _ (T160.setTop (mkF m 87 #[.val (.int p0), .val (.int p1), .val (.int p2), .val (.int p3), .val (.int p4), .val (.int p5), .val (.int (3 : Int32)), .val (.int (3 : Int32)), .val (.ref b150), .val (.int (p5.toInt8.toInt32)), .unset] []))
      refine Go.st (fun _ k => XS.iload X160.here hx rfl (hb hby at_87) rfl k) ?_
      refine Go.st (fun _ k => XS.iconst X160.here hx rfl (hb hby at_89) k) ?_
      show Go p e below _ (T160.setTop (mkF m 90 #[.val (.int p0), .val (.int p1), .val (.int p2), .val (.int p3), .val (.int p4), .val (.int p5), .val (.int (3 : Int32)), .val (.int (3 : Int32)), .val (.ref b150), .val (.int (p5.toInt8.toInt32)), .unset] [(.int (2 : Int32)), (.int (3 : Int32))]))
      refine Go.st (fun _ k => XS.icmpNo X160.here hx rfl (hb hby at_90) rfl (tlt (by decide : ((2 : Int32) < (3 : Int32)))).2.2.2 k) ?_
      show Go p e below _ (T160.setTop (mkF m 93 #[.val (.int p0), .val (.int p1), .val (.int p2), .val (.int p3), .val (.int p4), .val (.int p5), .val (.int (3 : Int32)), .val (.int (3 : Int32)), .val (.ref b150), .val (.int (p5.toInt8.toInt32)), .unset] []))
      refine Go.st (fun _ k => XS.aload X160.here hx rfl (hb hby at_93) rfl rfl k) ?_
      refine Go.st (fun _ k => XS.iload X160.here hx rfl (hb hby at_95) rfl k) ?_
      show Go p e below _ (T160.setTop (mkF m 97 #[.val (.int p0), .val (.int p1), .val (.int p2), .val (.int p3), .val (.int p4), .val (.int p5), .val (.int (3 : Int32)), .val (.int (3 : Int32)), .val (.ref b150), .val (.int (p5.toInt8.toInt32)), .unset] [(.int (3 : Int32)), (.ref b150)]))
      refine Go.st (fun _ k => XS.iconst X160.here hx rfl (hb hby at_97) k) ?_
      refine Go.st (fun _ k => XS.iadd X160.here hx rfl (hb hby at_98) rfl k) ?_
      show Go p e below _ (T160.setTop (mkF m 99 #[.val (.int p0), .val (.int p1), .val (.int p2), .val (.int p3), .val (.int p4), .val (.int p5), .val (.int (3 : Int32)), .val (.int (3 : Int32)), .val (.ref b150), .val (.int (p5.toInt8.toInt32)), .unset] [(.int (5 : Int32)), (.ref b150)]))
      refine Go.st (fun _ k => XS.iloadN X160.here hx rfl (hb hby at_99) rfl k) ?_
      refine Go.st (fun _ k => XS.i2b X160.here hx rfl (hb hby at_100) rfl k) ?_
      show Go p e below _ (T160.setTop (mkF m 101 #[.val (.int p0), .val (.int p1), .val (.int p2), .val (.int p3), .val (.int p4), .val (.int p5), .val (.int (3 : Int32)), .val (.int (3 : Int32)), .val (.ref b150), .val (.int (p5.toInt8.toInt32)), .unset] [(.int (p2.toInt8.toInt32)), (.int (5 : Int32)), (.ref b150)]))
      obtain ⟨cl161, Ar161, ck161, Sz161, Nn161, Hs161, Gs161⟩ := id V160
      have hin161 : ¬ ((5 : Int32) < 0 ∨ cl161.slots.size ≤ ((5 : Int32)).toNatClampNeg) := inb_of Sz161 ⟨by decide, by decide⟩
      obtain ⟨T162, h162, X162, e162, W162, st162⟩ := stB X160 hx hZ e160 Ar161 (j := (5 : Int32)) hin161 (g := (mkF m 101 #[.val (.int p0), .val (.int p1), .val (.int p2), .val (.int p3), .val (.int p4), .val (.int p5), .val (.int (3 : Int32)), .val (.int (3 : Int32)), .val (.ref b150), .val (.int (p5.toInt8.toInt32)), .unset] [(.int (p2.toInt8.toInt32)), (.int (5 : Int32)), (.ref b150)])) rfl rfl (hb hby at_101)
      have V162 : Arv Z h162 b150 k150 .byte (6 : Int32) [(.int (nar .byte (p5.toInt8.toInt32))), (.int (nar .byte (p5.toInt8.toInt32))), (.int (nar .byte (p5.toInt8.toInt32))), (.int (nar .byte (p0.toInt8.toInt32))), (.int (nar .byte (p1.toInt8.toInt32))), (.int (nar .byte (p2.toInt8.toInt32)))] (.int (0 : Int32)) := Arv.set Ar161 ck161 Sz161 Nn161 Hs161 Gs161 (fits_nar_byte _) W162 5 rfl (Nat.le_of_ble_eq_true rfl)
      have N162 := Fr.snoc X162 N160 gg150
      have Z162 : n0 ≤ h162.size := by rw [W162.size]; exact Z160
      refine Go.st (fun _ k => st162 _ k) ?_
      show Go p e below _ (T162.setTop (mkF m 102 #[.val (.int p0), .val (.int p1), .val (.int p2), .val (.int p3), .val (.int p4), .val (.int p5), .val (.int (3 : Int32)), .val (.int (3 : Int32)), .val (.ref b150), .val (.int (p5.toInt8.toInt32)), .unset] []))
      refine Go.st (fun _ k => XS.iload X162.here hx rfl (hb hby at_102) rfl k) ?_
      refine Go.st (fun _ k => XS.iconst X162.here hx rfl (hb hby at_104) k) ?_
      show Go p e below _ (T162.setTop (mkF m 105 #[.val (.int p0), .val (.int p1), .val (.int p2), .val (.int p3), .val (.int p4), .val (.int p5), .val (.int (3 : Int32)), .val (.int (3 : Int32)), .val (.ref b150), .val (.int (p5.toInt8.toInt32)), .unset] [(.int (3 : Int32)), (.int (3 : Int32))]))
      refine Go.st (fun _ k => XS.icmpYes X162.here hx rfl (pc0 := 105) (pc' := 117) rfl (hb hby at_105) rfl (flt (by decide : ¬ ((3 : Int32) < (3 : Int32)))).2.2.2 (by decide) (by decide) k) ?_
      show Go p e below _ (T162.setTop (mkF m 117 #[.val (.int p0), .val (.int p1), .val (.int p2), .val (.int p3), .val (.int p4), .val (.int p5), .val (.int (3 : Int32)), .val (.int (3 : Int32)), .val (.ref b150), .val (.int (p5.toInt8.toInt32)), .unset] []))
      refine Go.st (fun _ k => XS.aload X162.here hx rfl (hb hby at_117) rfl rfl k) ?_
      refine Go.st (fun _ k => XS.iload X162.here hx rfl (hb hby at_119) rfl k) ?_
      show Go p e below _ (T162.setTop (mkF m 121 #[.val (.int p0), .val (.int p1), .val (.int p2), .val (.int p3), .val (.int p4), .val (.int p5), .val (.int (3 : Int32)), .val (.int (3 : Int32)), .val (.ref b150), .val (.int (p5.toInt8.toInt32)), .unset] [(.int (3 : Int32)), (.ref b150)]))
      obtain ⟨_, _, ⟨T163, L163, k163, n163⟩, -, X163, ⟨Lc163, hQ163, l163, y163, z163⟩, st163⟩ := Jvm.LawKit.callS X162 hx (y := (⟨"com/example/apportis/apportis/Utf8", "characterEnd", "([BI)I"⟩ : MethodName)) hown (mvT hZ (hw _ (List.mem_of_getElem? (i := 1) rfl))) (mvT hZ (hw _ (List.mem_of_getElem? (i := 2) rfl))) (mvT hZ (hw _ (List.mem_of_getElem? (i := 3) rfl))) (mvT hZ (hw _ (List.mem_of_getElem? (i := 4) rfl))) (by decide) (backOf (W := 0) (rmCE l Z aZ hw [] (nar .byte (p0.toInt8.toInt32)) (nar .byte (p1.toInt8.toInt32)) (nar .byte (p2.toInt8.toInt32)) (0 : Int32) b150 (3 : Int32) k150 (6 : Int32) [(.int (nar .byte (p5.toInt8.toInt32))), (.int (nar .byte (p5.toInt8.toInt32))), (.int (nar .byte (p5.toInt8.toInt32))), (.int (nar .byte (p0.toInt8.toInt32))), (.int (nar .byte (p1.toInt8.toInt32))), (.int (nar .byte (p2.toInt8.toInt32)))] h162 n0 (by decide) (by decide) (by decide) rfl (fun _ => rfl) (fun _ => rfl) (fun h => absurd h (by decide)) V162) hZ (hw _ (List.mem_of_getElem? (i := 4) rfl)) (hw _ (List.mem_of_getElem? (i := 3) rfl)) (by decide) (by decide)) (g := (mkF m 121 #[.val (.int p0), .val (.int p1), .val (.int p2), .val (.int p3), .val (.int p4), .val (.int p5), .val (.int (3 : Int32)), .val (.int (3 : Int32)), .val (.ref b150), .val (.int (p5.toInt8.toInt32)), .unset] [(.int (3 : Int32)), (.ref b150)])) rfl (by rw [hml]; rfl) (argsL := [(.ref b150), (.int (3 : Int32))]) (rest := []) (lenOf pd92f6cd8e rfl) rfl (by show 2 * 0 + _ ≤ _; exact Nat.le_of_eq rfl) (hb hby at_121) (fun _ _ => ⟨rfl, e162, (by decide : 1 + 0 ≤ _), (by decide : 6 + 0 ≤ _)⟩)
      dsimp only [Pt.U, Pt.locs, Pt.cells, Pt.slots] at X163 l163 y163 z163 st163 hQ163
      subst l163 y163 z163
      obtain ⟨rfl, N163q, e163⟩ := hQ163
      have N163 := Fr.app N162 N163q
      refine Go.st (fun _ k => st163 _ k) ?_
      show Go p e below _ (T163.setTop (mkF m 124 #[.val (.int p0), .val (.int p1), .val (.int p2), .val (.int p3), .val (.int p4), .val (.int p5), .val (.int (3 : Int32)), .val (.int (3 : Int32)), .val (.ref b150), .val (.int (p5.toInt8.toInt32)), .unset] [(.int (fCE (nar .byte (p0.toInt8.toInt32)) (nar .byte (p1.toInt8.toInt32)) (nar .byte (p2.toInt8.toInt32)) (0 : Int32) (3 : Int32) (6 : Int32)))]))
      refine Go.st (fun _ k => XS.istore X163.here hx rfl (hb hby at_124) rfl (l' := #[.val (.int p0), .val (.int p1), .val (.int p2), .val (.int p3), .val (.int p4), .val (.int p5), .val (.int (3 : Int32)), .val (.int (3 : Int32)), .val (.ref b150), .val (.int (p5.toInt8.toInt32)), .val (.int (fCE (nar .byte (p0.toInt8.toInt32)) (nar .byte (p1.toInt8.toInt32)) (nar .byte (p2.toInt8.toInt32)) (0 : Int32) (3 : Int32) (6 : Int32)))]) rfl k) ?_
      show Go p e below _ (T163.setTop (mkF m 126 #[.val (.int p0), .val (.int p1), .val (.int p2), .val (.int p3), .val (.int p4), .val (.int p5), .val (.int (3 : Int32)), .val (.int (3 : Int32)), .val (.ref b150), .val (.int (p5.toInt8.toInt32)), .val (.int (fCE (nar .byte (p0.toInt8.toInt32)) (nar .byte (p1.toInt8.toInt32)) (nar .byte (p2.toInt8.toInt32)) (0 : Int32) (3 : Int32) (6 : Int32)))] []))
      refine Go.st (fun _ k => XS.iload X163.here hx rfl (hb hby at_126) rfl k) ?_
      refine Go.st (fun _ k => XS.iloadN X163.here hx rfl (hb hby at_128) rfl k) ?_
      show Go p e below _ (T163.setTop (mkF m 129 #[.val (.int p0), .val (.int p1), .val (.int p2), .val (.int p3), .val (.int p4), .val (.int p5), .val (.int (3 : Int32)), .val (.int (3 : Int32)), .val (.ref b150), .val (.int (p5.toInt8.toInt32)), .val (.int (fCE (nar .byte (p0.toInt8.toInt32)) (nar .byte (p1.toInt8.toInt32)) (nar .byte (p2.toInt8.toInt32)) (0 : Int32) (3 : Int32) (6 : Int32)))] [(.int p0), (.int (fCE (nar .byte (p0.toInt8.toInt32)) (nar .byte (p1.toInt8.toInt32)) (nar .byte (p2.toInt8.toInt32)) (0 : Int32) (3 : Int32) (6 : Int32)))]))
      refine Go.st (fun _ k => XS.sipush X163.here hx rfl (hb hby at_129) k) ?_
      refine Go.st (fun _ k => XS.iand X163.here hx rfl (hb hby at_132) rfl k) ?_
      show Go p e below _ (T163.setTop (mkF m 133 #[.val (.int p0), .val (.int p1), .val (.int p2), .val (.int p3), .val (.int p4), .val (.int p5), .val (.int (3 : Int32)), .val (.int (3 : Int32)), .val (.ref b150), .val (.int (p5.toInt8.toInt32)), .val (.int (fCE (nar .byte (p0.toInt8.toInt32)) (nar .byte (p1.toInt8.toInt32)) (nar .byte (p2.toInt8.toInt32)) (0 : Int32) (3 : Int32) (6 : Int32)))] [(.int (p0 &&& (255 : Int32))), (.int (fCE (nar .byte (p0.toInt8.toInt32)) (nar .byte (p1.toInt8.toInt32)) (nar .byte (p2.toInt8.toInt32)) (0 : Int32) (3 : Int32) (6 : Int32)))]))
      refine Go.st (fun _ k => XS.iloadN X163.here hx rfl (hb hby at_133) rfl k) ?_
      refine Go.st (fun _ k => XS.sipush X163.here hx rfl (hb hby at_134) k) ?_
      show Go p e below _ (T163.setTop (mkF m 137 #[.val (.int p0), .val (.int p1), .val (.int p2), .val (.int p3), .val (.int p4), .val (.int p5), .val (.int (3 : Int32)), .val (.int (3 : Int32)), .val (.ref b150), .val (.int (p5.toInt8.toInt32)), .val (.int (fCE (nar .byte (p0.toInt8.toInt32)) (nar .byte (p1.toInt8.toInt32)) (nar .byte (p2.toInt8.toInt32)) (0 : Int32) (3 : Int32) (6 : Int32)))] [(.int (255 : Int32)), (.int p1), (.int (p0 &&& (255 : Int32))), (.int (fCE (nar .byte (p0.toInt8.toInt32)) (nar .byte (p1.toInt8.toInt32)) (nar .byte (p2.toInt8.toInt32)) (0 : Int32) (3 : Int32) (6 : Int32)))]))
      refine Go.st (fun _ k => XS.iand X163.here hx rfl (hb hby at_137) rfl k) ?_
      refine Go.st (fun _ k => XS.iloadN X163.here hx rfl (hb hby at_138) rfl k) ?_
      show Go p e below _ (T163.setTop (mkF m 139 #[.val (.int p0), .val (.int p1), .val (.int p2), .val (.int p3), .val (.int p4), .val (.int p5), .val (.int (3 : Int32)), .val (.int (3 : Int32)), .val (.ref b150), .val (.int (p5.toInt8.toInt32)), .val (.int (fCE (nar .byte (p0.toInt8.toInt32)) (nar .byte (p1.toInt8.toInt32)) (nar .byte (p2.toInt8.toInt32)) (0 : Int32) (3 : Int32) (6 : Int32)))] [(.int p2), (.int (p1 &&& (255 : Int32))), (.int (p0 &&& (255 : Int32))), (.int (fCE (nar .byte (p0.toInt8.toInt32)) (nar .byte (p1.toInt8.toInt32)) (nar .byte (p2.toInt8.toInt32)) (0 : Int32) (3 : Int32) (6 : Int32)))]))
      refine Go.st (fun _ k => XS.sipush X163.here hx rfl (hb hby at_139) k) ?_
      refine Go.st (fun _ k => XS.iand X163.here hx rfl (hb hby at_142) rfl k) ?_
      show Go p e below _ (T163.setTop (mkF m 143 #[.val (.int p0), .val (.int p1), .val (.int p2), .val (.int p3), .val (.int p4), .val (.int p5), .val (.int (3 : Int32)), .val (.int (3 : Int32)), .val (.ref b150), .val (.int (p5.toInt8.toInt32)), .val (.int (fCE (nar .byte (p0.toInt8.toInt32)) (nar .byte (p1.toInt8.toInt32)) (nar .byte (p2.toInt8.toInt32)) (0 : Int32) (3 : Int32) (6 : Int32)))] [(.int (p2 &&& (255 : Int32))), (.int (p1 &&& (255 : Int32))), (.int (p0 &&& (255 : Int32))), (.int (fCE (nar .byte (p0.toInt8.toInt32)) (nar .byte (p1.toInt8.toInt32)) (nar .byte (p2.toInt8.toInt32)) (0 : Int32) (3 : Int32) (6 : Int32)))]))
      refine Go.st (fun _ k => XS.iloadN X163.here hx rfl (hb hby at_143) rfl k) ?_
      refine Go.st (fun _ k => XS.sipush X163.here hx rfl (hb hby at_144) k) ?_
      show Go p e below _ (T163.setTop (mkF m 147 #[.val (.int p0), .val (.int p1), .val (.int p2), .val (.int p3), .val (.int p4), .val (.int p5), .val (.int (3 : Int32)), .val (.int (3 : Int32)), .val (.ref b150), .val (.int (p5.toInt8.toInt32)), .val (.int (fCE (nar .byte (p0.toInt8.toInt32)) (nar .byte (p1.toInt8.toInt32)) (nar .byte (p2.toInt8.toInt32)) (0 : Int32) (3 : Int32) (6 : Int32)))] [(.int (255 : Int32)), (.int p3), (.int (p2 &&& (255 : Int32))), (.int (p1 &&& (255 : Int32))), (.int (p0 &&& (255 : Int32))), (.int (fCE (nar .byte (p0.toInt8.toInt32)) (nar .byte (p1.toInt8.toInt32)) (nar .byte (p2.toInt8.toInt32)) (0 : Int32) (3 : Int32) (6 : Int32)))]))
      refine Go.st (fun _ k => XS.iand X163.here hx rfl (hb hby at_147) rfl k) ?_
      refine Go.st (fun _ k => XS.iload X163.here hx rfl (hb hby at_148) rfl k) ?_
      show Go p e below _ (T163.setTop (mkF m 150 #[.val (.int p0), .val (.int p1), .val (.int p2), .val (.int p3), .val (.int p4), .val (.int p5), .val (.int (3 : Int32)), .val (.int (3 : Int32)), .val (.ref b150), .val (.int (p5.toInt8.toInt32)), .val (.int (fCE (nar .byte (p0.toInt8.toInt32)) (nar .byte (p1.toInt8.toInt32)) (nar .byte (p2.toInt8.toInt32)) (0 : Int32) (3 : Int32) (6 : Int32)))] [(.int (3 : Int32)), (.int (p3 &&& (255 : Int32))), (.int (p2 &&& (255 : Int32))), (.int (p1 &&& (255 : Int32))), (.int (p0 &&& (255 : Int32))), (.int (fCE (nar .byte (p0.toInt8.toInt32)) (nar .byte (p1.toInt8.toInt32)) (nar .byte (p2.toInt8.toInt32)) (0 : Int32) (3 : Int32) (6 : Int32)))]))
      refine Go.st (fun _ k => XS.iload X163.here hx rfl (hb hby at_150) rfl k) ?_
      show Go p e below _ (T163.setTop (mkF m 152 #[.val (.int p0), .val (.int p1), .val (.int p2), .val (.int p3), .val (.int p4), .val (.int p5), .val (.int (3 : Int32)), .val (.int (3 : Int32)), .val (.ref b150), .val (.int (p5.toInt8.toInt32)), .val (.int (fCE (nar .byte (p0.toInt8.toInt32)) (nar .byte (p1.toInt8.toInt32)) (nar .byte (p2.toInt8.toInt32)) (0 : Int32) (3 : Int32) (6 : Int32)))] [(.int (3 : Int32)), (.int (3 : Int32)), (.int (p3 &&& (255 : Int32))), (.int (p2 &&& (255 : Int32))), (.int (p1 &&& (255 : Int32))), (.int (p0 &&& (255 : Int32))), (.int (fCE (nar .byte (p0.toInt8.toInt32)) (nar .byte (p1.toInt8.toInt32)) (nar .byte (p2.toInt8.toInt32)) (0 : Int32) (3 : Int32) (6 : Int32)))]))
      obtain ⟨_, _, ⟨T164, L164, k164, n164⟩, -, X164, ⟨Lc164, hQ164, l164, y164, z164⟩, st164⟩ := Jvm.LawKit.callS X163 hx (y := (⟨"com/example/apportis/apportis/Utf8CharacterEndPinLaw", "expected", "(IIIIII)I"⟩ : MethodName)) hown (mvT hZ (hw _ (List.mem_of_getElem? (i := 5) rfl))) (mvT hZ (hw _ (List.mem_of_getElem? (i := 6) rfl))) (mvT hZ (hw _ (List.mem_of_getElem? (i := 7) rfl))) (mvT hZ (hw _ (List.mem_of_getElem? (i := 8) rfl))) (by decide) (backOf (W := 1) (rm2 l Z aZ hw [] (p0 &&& (255 : Int32)) (p1 &&& (255 : Int32)) (p2 &&& (255 : Int32)) (p3 &&& (255 : Int32)) (3 : Int32) (3 : Int32) h162 n0 ) hZ (hw _ (List.mem_of_getElem? (i := 8) rfl)) (hw _ (List.mem_of_getElem? (i := 7) rfl)) (by decide) (by decide)) (g := (mkF m 152 #[.val (.int p0), .val (.int p1), .val (.int p2), .val (.int p3), .val (.int p4), .val (.int p5), .val (.int (3 : Int32)), .val (.int (3 : Int32)), .val (.ref b150), .val (.int (p5.toInt8.toInt32)), .val (.int (fCE (nar .byte (p0.toInt8.toInt32)) (nar .byte (p1.toInt8.toInt32)) (nar .byte (p2.toInt8.toInt32)) (0 : Int32) (3 : Int32) (6 : Int32)))] [(.int (3 : Int32)), (.int (3 : Int32)), (.int (p3 &&& (255 : Int32))), (.int (p2 &&& (255 : Int32))), (.int (p1 &&& (255 : Int32))), (.int (p0 &&& (255 : Int32))), (.int (fCE (nar .byte (p0.toInt8.toInt32)) (nar .byte (p1.toInt8.toInt32)) (nar .byte (p2.toInt8.toInt32)) (0 : Int32) (3 : Int32) (6 : Int32)))])) rfl (by rw [hml]; rfl) (argsL := [(.int (p0 &&& (255 : Int32))), (.int (p1 &&& (255 : Int32))), (.int (p2 &&& (255 : Int32))), (.int (p3 &&& (255 : Int32))), (.int (3 : Int32)), (.int (3 : Int32))]) (rest := [(.int (fCE (nar .byte (p0.toInt8.toInt32)) (nar .byte (p1.toInt8.toInt32)) (nar .byte (p2.toInt8.toInt32)) (0 : Int32) (3 : Int32) (6 : Int32)))]) (lenOf pd41a2ea18 rfl) rfl (by show 2 * 0 + _ ≤ _; exact Nat.le_of_eq rfl) (hb hby at_152) (fun _ _ => ⟨rfl, e163, (by decide : 1 + 0 ≤ _), (by decide : 6 + 0 ≤ _)⟩)
      dsimp only [Pt.U, Pt.locs, Pt.cells, Pt.slots] at X164 l164 y164 z164 st164 hQ164
      subst l164 y164 z164
      obtain ⟨rfl, N164q, e164⟩ := hQ164
      have N164 := Fr.app N163 N164q
      refine Go.st (fun _ k => st164 _ k) ?_
      show Go p e below _ (T164.setTop (mkF m 155 #[.val (.int p0), .val (.int p1), .val (.int p2), .val (.int p3), .val (.int p4), .val (.int p5), .val (.int (3 : Int32)), .val (.int (3 : Int32)), .val (.ref b150), .val (.int (p5.toInt8.toInt32)), .val (.int (fCE (nar .byte (p0.toInt8.toInt32)) (nar .byte (p1.toInt8.toInt32)) (nar .byte (p2.toInt8.toInt32)) (0 : Int32) (3 : Int32) (6 : Int32)))] [(.int (fExp (p0 &&& (255 : Int32)) (p1 &&& (255 : Int32)) (p2 &&& (255 : Int32)) (p3 &&& (255 : Int32)) (3 : Int32) (3 : Int32))), (.int (fCE (nar .byte (p0.toInt8.toInt32)) (nar .byte (p1.toInt8.toInt32)) (nar .byte (p2.toInt8.toInt32)) (0 : Int32) (3 : Int32) (6 : Int32)))]))
      refine Go.st (fun _ k => XS.icmpNo X164.here hx rfl (hb hby at_155) rfl (teq (own_main p0 p1 p2 p3 (own_mask p0) (fun _ => own_mask p1) (fun _ => own_mask p2) (fun h => absurd h (by decide)) (by decide))).2 k) ?_
      show Go p e below _ (T164.setTop (mkF m 158 #[.val (.int p0), .val (.int p1), .val (.int p2), .val (.int p3), .val (.int p4), .val (.int p5), .val (.int (3 : Int32)), .val (.int (3 : Int32)), .val (.ref b150), .val (.int (p5.toInt8.toInt32)), .val (.int (fCE (nar .byte (p0.toInt8.toInt32)) (nar .byte (p1.toInt8.toInt32)) (nar .byte (p2.toInt8.toInt32)) (0 : Int32) (3 : Int32) (6 : Int32)))] []))
      refine Go.st (fun _ k => XS.iconst X164.here hx rfl (hb hby at_158) k) ?_
      refine Go.st (fun _ k => XS.goto X164.here hx rfl (pc0 := 159) (pc' := 163) rfl (hb hby at_159) (by decide) (by decide) k) ?_
      show Go p e below _ (T164.setTop (mkF m 163 #[.val (.int p0), .val (.int p1), .val (.int p2), .val (.int p3), .val (.int p4), .val (.int p5), .val (.int (3 : Int32)), .val (.int (3 : Int32)), .val (.ref b150), .val (.int (p5.toInt8.toInt32)), .val (.int (fCE (nar .byte (p0.toInt8.toInt32)) (nar .byte (p1.toInt8.toInt32)) (nar .byte (p2.toInt8.toInt32)) (0 : Int32) (3 : Int32) (6 : Int32)))] [(.int (1 : Int32))]))
      obtain ⟨fs, hr, hrun, hended, hW, hsame⟩ := X164.leave (v := some (.int (1 : Int32))) (fun h => by rw [Bd.returns] at h; cases h)
      refine ⟨_, _, retN X164 hx (t := .boolean) Bd.returns (by simp) (hb hby at_163) hr, hrun, hended, _, _, rfl, ?_, ⟨_, rfl⟩, hW, hsame.mono (by decide) (by decide)⟩
      show Q_rm0 Z p0 p1 p2 p3 p4 p5 h0 n0 _ T164.heap _
      rw [e164]
      exact ⟨rfl, N164⟩
    · rw [hr125]
      show Go p e below _ (s₁.setTop (mkF m 13 #[.val (.int p0), .val (.int p1), .val (.int p2), .val (.int p3), .val (.int p4), .val (.int p5), .val (.int (3 : Int32)), .unset, .unset, .unset, .unset] [(.int (3 : Int32)), (.int (1 : Int32))]))
      refine Go.st (fun _ k => XS.iadd X0.here hx rfl (hb hby at_13) rfl k) ?_
      refine Go.st (fun _ k => XS.istore X0.here hx rfl (hb hby at_14) rfl (l' := #[.val (.int p0), .val (.int p1), .val (.int p2), .val (.int p3), .val (.int p4), .val (.int p5), .val (.int (3 : Int32)), .val (.int (4 : Int32)), .unset, .unset, .unset]) rfl k) ?_
      show Go p e below _ (s₁.setTop (mkF m 16 #[.val (.int p0), .val (.int p1), .val (.int p2), .val (.int p3), .val (.int p4), .val (.int p5), .val (.int (3 : Int32)), .val (.int (4 : Int32)), .unset, .unset, .unset] []))
      refine Go.st (fun _ k => XS.iload X0.here hx rfl (hb hby at_16) rfl k) ?_
      refine Go.st (fun _ k => XS.iload X0.here hx rfl (hb hby at_18) rfl k) ?_
      show Go p e below _ (s₁.setTop (mkF m 20 #[.val (.int p0), .val (.int p1), .val (.int p2), .val (.int p3), .val (.int p4), .val (.int p5), .val (.int (3 : Int32)), .val (.int (4 : Int32)), .unset, .unset, .unset] [(.int (4 : Int32)), (.int (3 : Int32))]))
      refine Go.st (fun _ k => XS.iadd X0.here hx rfl (hb hby at_20) rfl k) ?_
      show Go p e below _ (s₁.setTop (mkF m 21 #[.val (.int p0), .val (.int p1), .val (.int p2), .val (.int p3), .val (.int p4), .val (.int p5), .val (.int (3 : Int32)), .val (.int (4 : Int32)), .unset, .unset, .unset] [(.int (7 : Int32))]))
      obtain ⟨T165, h165, k165, X165, e165, E165, A165, st165⟩ := newP X0 hx hZ (hw _ (List.mem_of_getElem? (i := 0) rfl)) e0 (g := (mkF m 21 #[.val (.int p0), .val (.int p1), .val (.int p2), .val (.int p3), .val (.int p4), .val (.int p5), .val (.int (3 : Int32)), .val (.int (4 : Int32)), .unset, .unset, .unset] [(.int (7 : Int32))])) rfl (hb hby at_21) rfl (by decide) (cap := 7) (by decide) (by decide) (by decide) (by decide)
      obtain ⟨b165, g165⟩ : ∃ z, z = h0.size := ⟨_, rfl⟩
      have gg165 : n0 ≤ b165 := Nat.le_trans Z0 (Nat.le_of_eq g165.symm)
      rw [← g165] at A165 st165
      have Z165 : n0 ≤ h165.size := Nat.le_trans Z0 E165.1
      have V165 : Arv Z h165 b165 k165 .byte (7 : Int32) [(.int (0 : Int32)), (.int (0 : Int32)), (.int (0 : Int32)), (.int (0 : Int32)), (.int (0 : Int32)), (.int (0 : Int32)), (.int (0 : Int32))] (.int (0 : Int32)) := (Arv.new A165 (by decide)).pad (pad_rep [] (.int (0 : Int32)) 7)
      refine Go.st (fun _ k => st165 _ k) ?_
      show Go p e below _ (T165.setTop (mkF m 23 #[.val (.int p0), .val (.int p1), .val (.int p2), .val (.int p3), .val (.int p4), .val (.int p5), .val (.int (3 : Int32)), .val (.int (4 : Int32)), .unset, .unset, .unset] [(.ref b165)]))
      refine Go.st (fun _ k => XS.astore X165.here hx rfl (hb hby at_23) rfl rfl (l' := #[.val (.int p0), .val (.int p1), .val (.int p2), .val (.int p3), .val (.int p4), .val (.int p5), .val (.int (3 : Int32)), .val (.int (4 : Int32)), .val (.ref b165), .unset, .unset]) rfl k) ?_
      show Go p e below _ (T165.setTop (mkF m 25 #[.val (.int p0), .val (.int p1), .val (.int p2), .val (.int p3), .val (.int p4), .val (.int p5), .val (.int (3 : Int32)), .val (.int (4 : Int32)), .val (.ref b165), .unset, .unset] []))
      refine Go.st (fun _ k => XS.iload X165.here hx rfl (hb hby at_25) rfl k) ?_
      refine Go.st (fun _ k => XS.i2b X165.here hx rfl (hb hby at_27) rfl k) ?_
      show Go p e below _ (T165.setTop (mkF m 28 #[.val (.int p0), .val (.int p1), .val (.int p2), .val (.int p3), .val (.int p4), .val (.int p5), .val (.int (3 : Int32)), .val (.int (4 : Int32)), .val (.ref b165), .unset, .unset] [(.int (p5.toInt8.toInt32))]))
      refine Go.st (fun _ k => XS.istore X165.here hx rfl (hb hby at_28) rfl (l' := #[.val (.int p0), .val (.int p1), .val (.int p2), .val (.int p3), .val (.int p4), .val (.int p5), .val (.int (3 : Int32)), .val (.int (4 : Int32)), .val (.ref b165), .val (.int (p5.toInt8.toInt32)), .unset]) rfl k) ?_
      show Go p e below _ (T165.setTop (mkF m 30 #[.val (.int p0), .val (.int p1), .val (.int p2), .val (.int p3), .val (.int p4), .val (.int p5), .val (.int (3 : Int32)), .val (.int (4 : Int32)), .val (.ref b165), .val (.int (p5.toInt8.toInt32)), .unset] []))
      refine Go.st (fun _ k => XS.iload X165.here hx rfl (hb hby at_30) rfl k) ?_
      refine Go.st (fun _ k => XS.ifNo X165.here hx rfl (hb hby at_32) rfl ((if0 _ _).trans (tlt (by decide : ((0 : Int32) < (3 : Int32)))).2.2.2) k) ?_
      show Go p e below _ (T165.setTop (mkF m 35 #[.val (.int p0), .val (.int p1), .val (.int p2), .val (.int p3), .val (.int p4), .val (.int p5), .val (.int (3 : Int32)), .val (.int (4 : Int32)), .val (.ref b165), .val (.int (p5.toInt8.toInt32)), .unset] []))
      refine Go.st (fun _ k => XS.aload X165.here hx rfl (hb hby at_35) rfl rfl k) ?_
      refine Go.st (fun _ k => XS.iconst X165.here hx rfl (hb hby at_37) k) ?_
      show Go p e below _ (T165.setTop (mkF m 38 #[.val (.int p0), .val (.int p1), .val (.int p2), .val (.int p3), .val (.int p4), .val (.int p5), .val (.int (3 : Int32)), .val (.int (4 : Int32)), .val (.ref b165), .val (.int (p5.toInt8.toInt32)), .unset] [(.int (0 : Int32)), (.ref b165)]))
      refine Go.st (fun _ k => XS.iload X165.here hx rfl (hb hby at_38) rfl k) ?_
      show Go p e below _ (T165.setTop (mkF m 40 #[.val (.int p0), .val (.int p1), .val (.int p2), .val (.int p3), .val (.int p4), .val (.int p5), .val (.int (3 : Int32)), .val (.int (4 : Int32)), .val (.ref b165), .val (.int (p5.toInt8.toInt32)), .unset] [(.int (p5.toInt8.toInt32)), (.int (0 : Int32)), (.ref b165)]))
      obtain ⟨cl166, Ar166, ck166, Sz166, Nn166, Hs166, Gs166⟩ := id V165
      have hin166 : ¬ ((0 : Int32) < 0 ∨ cl166.slots.size ≤ ((0 : Int32)).toNatClampNeg) := inb_of Sz166 ⟨by decide, by decide⟩
      obtain ⟨T167, h167, X167, e167, W167, st167⟩ := stB X165 hx hZ e165 Ar166 (j := (0 : Int32)) hin166 (g := (mkF m 40 #[.val (.int p0), .val (.int p1), .val (.int p2), .val (.int p3), .val (.int p4), .val (.int p5), .val (.int (3 : Int32)), .val (.int (4 : Int32)), .val (.ref b165), .val (.int (p5.toInt8.toInt32)), .unset] [(.int (p5.toInt8.toInt32)), (.int (0 : Int32)), (.ref b165)])) rfl rfl (hb hby at_40)
      have V167 : Arv Z h167 b165 k165 .byte (7 : Int32) [(.int (nar .byte (p5.toInt8.toInt32))), (.int (0 : Int32)), (.int (0 : Int32)), (.int (0 : Int32)), (.int (0 : Int32)), (.int (0 : Int32)), (.int (0 : Int32))] (.int (0 : Int32)) := Arv.set Ar166 ck166 Sz166 Nn166 Hs166 Gs166 (fits_nar_byte _) W167 0 rfl (Nat.le_of_ble_eq_true rfl)
      have N167 := Fr.snoc X167 N0 gg165
      have Z167 : n0 ≤ h167.size := by rw [W167.size]; exact Z165
      refine Go.st (fun _ k => st167 _ k) ?_
      show Go p e below _ (T167.setTop (mkF m 41 #[.val (.int p0), .val (.int p1), .val (.int p2), .val (.int p3), .val (.int p4), .val (.int p5), .val (.int (3 : Int32)), .val (.int (4 : Int32)), .val (.ref b165), .val (.int (p5.toInt8.toInt32)), .unset] []))
      refine Go.st (fun _ k => XS.iload X167.here hx rfl (hb hby at_41) rfl k) ?_
      refine Go.st (fun _ k => XS.iconst X167.here hx rfl (hb hby at_43) k) ?_
      show Go p e below _ (T167.setTop (mkF m 44 #[.val (.int p0), .val (.int p1), .val (.int p2), .val (.int p3), .val (.int p4), .val (.int p5), .val (.int (3 : Int32)), .val (.int (4 : Int32)), .val (.ref b165), .val (.int (p5.toInt8.toInt32)), .unset] [(.int (1 : Int32)), (.int (3 : Int32))]))
      refine Go.st (fun _ k => XS.icmpNo X167.here hx rfl (hb hby at_44) rfl (tlt (by decide : ((1 : Int32) < (3 : Int32)))).2.2.2 k) ?_
      show Go p e below _ (T167.setTop (mkF m 47 #[.val (.int p0), .val (.int p1), .val (.int p2), .val (.int p3), .val (.int p4), .val (.int p5), .val (.int (3 : Int32)), .val (.int (4 : Int32)), .val (.ref b165), .val (.int (p5.toInt8.toInt32)), .unset] []))
      refine Go.st (fun _ k => XS.aload X167.here hx rfl (hb hby at_47) rfl rfl k) ?_
      refine Go.st (fun _ k => XS.iconst X167.here hx rfl (hb hby at_49) k) ?_
      show Go p e below _ (T167.setTop (mkF m 50 #[.val (.int p0), .val (.int p1), .val (.int p2), .val (.int p3), .val (.int p4), .val (.int p5), .val (.int (3 : Int32)), .val (.int (4 : Int32)), .val (.ref b165), .val (.int (p5.toInt8.toInt32)), .unset] [(.int (1 : Int32)), (.ref b165)]))
      refine Go.st (fun _ k => XS.iload X167.here hx rfl (hb hby at_50) rfl k) ?_
      show Go p e below _ (T167.setTop (mkF m 52 #[.val (.int p0), .val (.int p1), .val (.int p2), .val (.int p3), .val (.int p4), .val (.int p5), .val (.int (3 : Int32)), .val (.int (4 : Int32)), .val (.ref b165), .val (.int (p5.toInt8.toInt32)), .unset] [(.int (p5.toInt8.toInt32)), (.int (1 : Int32)), (.ref b165)]))
      obtain ⟨cl168, Ar168, ck168, Sz168, Nn168, Hs168, Gs168⟩ := id V167
      have hin168 : ¬ ((1 : Int32) < 0 ∨ cl168.slots.size ≤ ((1 : Int32)).toNatClampNeg) := inb_of Sz168 ⟨by decide, by decide⟩
      obtain ⟨T169, h169, X169, e169, W169, st169⟩ := stB X167 hx hZ e167 Ar168 (j := (1 : Int32)) hin168 (g := (mkF m 52 #[.val (.int p0), .val (.int p1), .val (.int p2), .val (.int p3), .val (.int p4), .val (.int p5), .val (.int (3 : Int32)), .val (.int (4 : Int32)), .val (.ref b165), .val (.int (p5.toInt8.toInt32)), .unset] [(.int (p5.toInt8.toInt32)), (.int (1 : Int32)), (.ref b165)])) rfl rfl (hb hby at_52)
      have V169 : Arv Z h169 b165 k165 .byte (7 : Int32) [(.int (nar .byte (p5.toInt8.toInt32))), (.int (nar .byte (p5.toInt8.toInt32))), (.int (0 : Int32)), (.int (0 : Int32)), (.int (0 : Int32)), (.int (0 : Int32)), (.int (0 : Int32))] (.int (0 : Int32)) := Arv.set Ar168 ck168 Sz168 Nn168 Hs168 Gs168 (fits_nar_byte _) W169 1 rfl (Nat.le_of_ble_eq_true rfl)
      have N169 := Fr.snoc X169 N167 gg165
      have Z169 : n0 ≤ h169.size := by rw [W169.size]; exact Z167
      refine Go.st (fun _ k => st169 _ k) ?_
      show Go p e below _ (T169.setTop (mkF m 53 #[.val (.int p0), .val (.int p1), .val (.int p2), .val (.int p3), .val (.int p4), .val (.int p5), .val (.int (3 : Int32)), .val (.int (4 : Int32)), .val (.ref b165), .val (.int (p5.toInt8.toInt32)), .unset] []))
      refine Go.st (fun _ k => XS.iload X169.here hx rfl (hb hby at_53) rfl k) ?_
      refine Go.st (fun _ k => XS.iconst X169.here hx rfl (hb hby at_55) k) ?_
      show Go p e below _ (T169.setTop (mkF m 56 #[.val (.int p0), .val (.int p1), .val (.int p2), .val (.int p3), .val (.int p4), .val (.int p5), .val (.int (3 : Int32)), .val (.int (4 : Int32)), .val (.ref b165), .val (.int (p5.toInt8.toInt32)), .unset] [(.int (2 : Int32)), (.int (3 : Int32))]))
      refine Go.st (fun _ k => XS.icmpNo X169.here hx rfl (hb hby at_56) rfl (tlt (by decide : ((2 : Int32) < (3 : Int32)))).2.2.2 k) ?_
      show Go p e below _ (T169.setTop (mkF m 59 #[.val (.int p0), .val (.int p1), .val (.int p2), .val (.int p3), .val (.int p4), .val (.int p5), .val (.int (3 : Int32)), .val (.int (4 : Int32)), .val (.ref b165), .val (.int (p5.toInt8.toInt32)), .unset] []))
      refine Go.st (fun _ k => XS.aload X169.here hx rfl (hb hby at_59) rfl rfl k) ?_
      refine Go.st (fun _ k => XS.iconst X169.here hx rfl (hb hby at_61) k) ?_
      show Go p e below _ (T169.setTop (mkF m 62 #[.val (.int p0), .val (.int p1), .val (.int p2), .val (.int p3), .val (.int p4), .val (.int p5), .val (.int (3 : Int32)), .val (.int (4 : Int32)), .val (.ref b165), .val (.int (p5.toInt8.toInt32)), .unset] [(.int (2 : Int32)), (.ref b165)]))
      refine Go.st (fun _ k => XS.iload X169.here hx rfl (hb hby at_62) rfl k) ?_
      show Go p e below _ (T169.setTop (mkF m 64 #[.val (.int p0), .val (.int p1), .val (.int p2), .val (.int p3), .val (.int p4), .val (.int p5), .val (.int (3 : Int32)), .val (.int (4 : Int32)), .val (.ref b165), .val (.int (p5.toInt8.toInt32)), .unset] [(.int (p5.toInt8.toInt32)), (.int (2 : Int32)), (.ref b165)]))
      obtain ⟨cl170, Ar170, ck170, Sz170, Nn170, Hs170, Gs170⟩ := id V169
      have hin170 : ¬ ((2 : Int32) < 0 ∨ cl170.slots.size ≤ ((2 : Int32)).toNatClampNeg) := inb_of Sz170 ⟨by decide, by decide⟩
      obtain ⟨T171, h171, X171, e171, W171, st171⟩ := stB X169 hx hZ e169 Ar170 (j := (2 : Int32)) hin170 (g := (mkF m 64 #[.val (.int p0), .val (.int p1), .val (.int p2), .val (.int p3), .val (.int p4), .val (.int p5), .val (.int (3 : Int32)), .val (.int (4 : Int32)), .val (.ref b165), .val (.int (p5.toInt8.toInt32)), .unset] [(.int (p5.toInt8.toInt32)), (.int (2 : Int32)), (.ref b165)])) rfl rfl (hb hby at_64)
      have V171 : Arv Z h171 b165 k165 .byte (7 : Int32) [(.int (nar .byte (p5.toInt8.toInt32))), (.int (nar .byte (p5.toInt8.toInt32))), (.int (nar .byte (p5.toInt8.toInt32))), (.int (0 : Int32)), (.int (0 : Int32)), (.int (0 : Int32)), (.int (0 : Int32))] (.int (0 : Int32)) := Arv.set Ar170 ck170 Sz170 Nn170 Hs170 Gs170 (fits_nar_byte _) W171 2 rfl (Nat.le_of_ble_eq_true rfl)
      have N171 := Fr.snoc X171 N169 gg165
      have Z171 : n0 ≤ h171.size := by rw [W171.size]; exact Z169
      refine Go.st (fun _ k => st171 _ k) ?_
      show Go p e below _ (T171.setTop (mkF m 65 #[.val (.int p0), .val (.int p1), .val (.int p2), .val (.int p3), .val (.int p4), .val (.int p5), .val (.int (3 : Int32)), .val (.int (4 : Int32)), .val (.ref b165), .val (.int (p5.toInt8.toInt32)), .unset] []))
      refine Go.st (fun _ k => XS.aload X171.here hx rfl (hb hby at_65) rfl rfl k) ?_
      refine Go.st (fun _ k => XS.iload X171.here hx rfl (hb hby at_67) rfl k) ?_
      show Go p e below _ (T171.setTop (mkF m 69 #[.val (.int p0), .val (.int p1), .val (.int p2), .val (.int p3), .val (.int p4), .val (.int p5), .val (.int (3 : Int32)), .val (.int (4 : Int32)), .val (.ref b165), .val (.int (p5.toInt8.toInt32)), .unset] [(.int (3 : Int32)), (.ref b165)]))
      refine Go.st (fun _ k => XS.iloadN X171.here hx rfl (hb hby at_69) rfl k) ?_
      refine Go.st (fun _ k => XS.i2b X171.here hx rfl (hb hby at_70) rfl k) ?_
      show Go p e below _ (T171.setTop (mkF m 71 #[.val (.int p0), .val (.int p1), .val (.int p2), .val (.int p3), .val (.int p4), .val (.int p5), .val (.int (3 : Int32)), .val (.int (4 : Int32)), .val (.ref b165), .val (.int (p5.toInt8.toInt32)), .unset] [(.int (p0.toInt8.toInt32)), (.int (3 : Int32)), (.ref b165)]))
      obtain ⟨cl172, Ar172, ck172, Sz172, Nn172, Hs172, Gs172⟩ := id V171
      have hin172 : ¬ ((3 : Int32) < 0 ∨ cl172.slots.size ≤ ((3 : Int32)).toNatClampNeg) := inb_of Sz172 ⟨by decide, by decide⟩
      obtain ⟨T173, h173, X173, e173, W173, st173⟩ := stB X171 hx hZ e171 Ar172 (j := (3 : Int32)) hin172 (g := (mkF m 71 #[.val (.int p0), .val (.int p1), .val (.int p2), .val (.int p3), .val (.int p4), .val (.int p5), .val (.int (3 : Int32)), .val (.int (4 : Int32)), .val (.ref b165), .val (.int (p5.toInt8.toInt32)), .unset] [(.int (p0.toInt8.toInt32)), (.int (3 : Int32)), (.ref b165)])) rfl rfl (hb hby at_71)
      have V173 : Arv Z h173 b165 k165 .byte (7 : Int32) [(.int (nar .byte (p5.toInt8.toInt32))), (.int (nar .byte (p5.toInt8.toInt32))), (.int (nar .byte (p5.toInt8.toInt32))), (.int (nar .byte (p0.toInt8.toInt32))), (.int (0 : Int32)), (.int (0 : Int32)), (.int (0 : Int32))] (.int (0 : Int32)) := Arv.set Ar172 ck172 Sz172 Nn172 Hs172 Gs172 (fits_nar_byte _) W173 3 rfl (Nat.le_of_ble_eq_true rfl)
      have N173 := Fr.snoc X173 N171 gg165
      have Z173 : n0 ≤ h173.size := by rw [W173.size]; exact Z171
      refine Go.st (fun _ k => st173 _ k) ?_
      show Go p e below _ (T173.setTop (mkF m 72 #[.val (.int p0), .val (.int p1), .val (.int p2), .val (.int p3), .val (.int p4), .val (.int p5), .val (.int (3 : Int32)), .val (.int (4 : Int32)), .val (.ref b165), .val (.int (p5.toInt8.toInt32)), .unset] []))
      refine Go.st (fun _ k => XS.iload X173.here hx rfl (hb hby at_72) rfl k) ?_
      refine Go.st (fun _ k => XS.iconst X173.here hx rfl (hb hby at_74) k) ?_
      show Go p e below _ (T173.setTop (mkF m 75 #[.val (.int p0), .val (.int p1), .val (.int p2), .val (.int p3), .val (.int p4), .val (.int p5), .val (.int (3 : Int32)), .val (.int (4 : Int32)), .val (.ref b165), .val (.int (p5.toInt8.toInt32)), .unset] [(.int (1 : Int32)), (.int (4 : Int32))]))
      refine Go.st (fun _ k => XS.icmpNo X173.here hx rfl (hb hby at_75) rfl (tlt (by decide : ((1 : Int32) < (4 : Int32)))).2.2.2 k) ?_
      show Go p e below _ (T173.setTop (mkF m 78 #[.val (.int p0), .val (.int p1), .val (.int p2), .val (.int p3), .val (.int p4), .val (.int p5), .val (.int (3 : Int32)), .val (.int (4 : Int32)), .val (.ref b165), .val (.int (p5.toInt8.toInt32)), .unset] []))
      refine Go.st (fun _ k => XS.aload X173.here hx rfl (hb hby at_78) rfl rfl k) ?_
      refine Go.st (fun _ k => XS.iload X173.here hx rfl (hb hby at_80) rfl k) ?_
      show Go p e below _ (T173.setTop (mkF m 82 #[.val (.int p0), .val (.int p1), .val (.int p2), .val (.int p3), .val (.int p4), .val (.int p5), .val (.int (3 : Int32)), .val (.int (4 : Int32)), .val (.ref b165), .val (.int (p5.toInt8.toInt32)), .unset] [(.int (3 : Int32)), (.ref b165)]))
      refine Go.st (fun _ k => XS.iconst X173.here hx rfl (hb hby at_82) k) ?_
      refine Go.st (fun _ k => XS.iadd X173.here hx rfl (hb hby at_83) rfl k) ?_
      show Go p e below _ (T173.setTop (mkF m 84 #[.val (.int p0), .val (.int p1), .val (.int p2), .val (.int p3), .val (.int p4), .val (.int p5), .val (.int (3 : Int32)), .val (.int (4 : Int32)), .val (.ref b165), .val (.int (p5.toInt8.toInt32)), .unset] [(.int (4 : Int32)), (.ref b165)]))
      refine Go.st (fun _ k => XS.iloadN X173.here hx rfl (hb hby at_84) rfl k) ?_
      refine Go.st (fun _ k => XS.i2b X173.here hx rfl (hb hby at_85) rfl k) ?_
      show Go p e below _ (T173.setTop (mkF m 86 #[.val (.int p0), .val (.int p1), .val (.int p2), .val (.int p3), .val (.int p4), .val (.int p5), .val (.int (3 : Int32)), .val (.int (4 : Int32)), .val (.ref b165), .val (.int (p5.toInt8.toInt32)), .unset] [(.int (p1.toInt8.toInt32)), (.int (4 : Int32)), (.ref b165)]))
      obtain ⟨cl174, Ar174, ck174, Sz174, Nn174, Hs174, Gs174⟩ := id V173
      have hin174 : ¬ ((4 : Int32) < 0 ∨ cl174.slots.size ≤ ((4 : Int32)).toNatClampNeg) := inb_of Sz174 ⟨by decide, by decide⟩
      obtain ⟨T175, h175, X175, e175, W175, st175⟩ := stB X173 hx hZ e173 Ar174 (j := (4 : Int32)) hin174 (g := (mkF m 86 #[.val (.int p0), .val (.int p1), .val (.int p2), .val (.int p3), .val (.int p4), .val (.int p5), .val (.int (3 : Int32)), .val (.int (4 : Int32)), .val (.ref b165), .val (.int (p5.toInt8.toInt32)), .unset] [(.int (p1.toInt8.toInt32)), (.int (4 : Int32)), (.ref b165)])) rfl rfl (hb hby at_86)
      have V175 : Arv Z h175 b165 k165 .byte (7 : Int32) [(.int (nar .byte (p5.toInt8.toInt32))), (.int (nar .byte (p5.toInt8.toInt32))), (.int (nar .byte (p5.toInt8.toInt32))), (.int (nar .byte (p0.toInt8.toInt32))), (.int (nar .byte (p1.toInt8.toInt32))), (.int (0 : Int32)), (.int (0 : Int32))] (.int (0 : Int32)) := Arv.set Ar174 ck174 Sz174 Nn174 Hs174 Gs174 (fits_nar_byte _) W175 4 rfl (Nat.le_of_ble_eq_true rfl)
      have N175 := Fr.snoc X175 N173 gg165
      have Z175 : n0 ≤ h175.size := by rw [W175.size]; exact Z173
      refine Go.st (fun _ k => st175 _ k) ?_
      show Go p e below _ (T175.setTop (mkF m 87 #[.val (.int p0), .val (.int p1), .val (.int p2), .val (.int p3), .val (.int p4), .val (.int p5), .val (.int (3 : Int32)), .val (.int (4 : Int32)), .val (.ref b165), .val (.int (p5.toInt8.toInt32)), .unset] []))
      refine Go.st (fun _ k => XS.iload X175.here hx rfl (hb hby at_87) rfl k) ?_
      refine Go.st (fun _ k => XS.iconst X175.here hx rfl (hb hby at_89) k) ?_
      show Go p e below _ (T175.setTop (mkF m 90 #[.val (.int p0), .val (.int p1), .val (.int p2), .val (.int p3), .val (.int p4), .val (.int p5), .val (.int (3 : Int32)), .val (.int (4 : Int32)), .val (.ref b165), .val (.int (p5.toInt8.toInt32)), .unset] [(.int (2 : Int32)), (.int (4 : Int32))]))
      refine Go.st (fun _ k => XS.icmpNo X175.here hx rfl (hb hby at_90) rfl (tlt (by decide : ((2 : Int32) < (4 : Int32)))).2.2.2 k) ?_
      show Go p e below _ (T175.setTop (mkF m 93 #[.val (.int p0), .val (.int p1), .val (.int p2), .val (.int p3), .val (.int p4), .val (.int p5), .val (.int (3 : Int32)), .val (.int (4 : Int32)), .val (.ref b165), .val (.int (p5.toInt8.toInt32)), .unset] []))
      refine Go.st (fun _ k => XS.aload X175.here hx rfl (hb hby at_93) rfl rfl k) ?_
      refine Go.st (fun _ k => XS.iload X175.here hx rfl (hb hby at_95) rfl k) ?_
      show Go p e below _ (T175.setTop (mkF m 97 #[.val (.int p0), .val (.int p1), .val (.int p2), .val (.int p3), .val (.int p4), .val (.int p5), .val (.int (3 : Int32)), .val (.int (4 : Int32)), .val (.ref b165), .val (.int (p5.toInt8.toInt32)), .unset] [(.int (3 : Int32)), (.ref b165)]))
      refine Go.st (fun _ k => XS.iconst X175.here hx rfl (hb hby at_97) k) ?_
      refine Go.st (fun _ k => XS.iadd X175.here hx rfl (hb hby at_98) rfl k) ?_
      show Go p e below _ (T175.setTop (mkF m 99 #[.val (.int p0), .val (.int p1), .val (.int p2), .val (.int p3), .val (.int p4), .val (.int p5), .val (.int (3 : Int32)), .val (.int (4 : Int32)), .val (.ref b165), .val (.int (p5.toInt8.toInt32)), .unset] [(.int (5 : Int32)), (.ref b165)]))
      refine Go.st (fun _ k => XS.iloadN X175.here hx rfl (hb hby at_99) rfl k) ?_
      refine Go.st (fun _ k => XS.i2b X175.here hx rfl (hb hby at_100) rfl k) ?_
      show Go p e below _ (T175.setTop (mkF m 101 #[.val (.int p0), .val (.int p1), .val (.int p2), .val (.int p3), .val (.int p4), .val (.int p5), .val (.int (3 : Int32)), .val (.int (4 : Int32)), .val (.ref b165), .val (.int (p5.toInt8.toInt32)), .unset] [(.int (p2.toInt8.toInt32)), (.int (5 : Int32)), (.ref b165)]))
      obtain ⟨cl176, Ar176, ck176, Sz176, Nn176, Hs176, Gs176⟩ := id V175
      have hin176 : ¬ ((5 : Int32) < 0 ∨ cl176.slots.size ≤ ((5 : Int32)).toNatClampNeg) := inb_of Sz176 ⟨by decide, by decide⟩
      obtain ⟨T177, h177, X177, e177, W177, st177⟩ := stB X175 hx hZ e175 Ar176 (j := (5 : Int32)) hin176 (g := (mkF m 101 #[.val (.int p0), .val (.int p1), .val (.int p2), .val (.int p3), .val (.int p4), .val (.int p5), .val (.int (3 : Int32)), .val (.int (4 : Int32)), .val (.ref b165), .val (.int (p5.toInt8.toInt32)), .unset] [(.int (p2.toInt8.toInt32)), (.int (5 : Int32)), (.ref b165)])) rfl rfl (hb hby at_101)
      have V177 : Arv Z h177 b165 k165 .byte (7 : Int32) [(.int (nar .byte (p5.toInt8.toInt32))), (.int (nar .byte (p5.toInt8.toInt32))), (.int (nar .byte (p5.toInt8.toInt32))), (.int (nar .byte (p0.toInt8.toInt32))), (.int (nar .byte (p1.toInt8.toInt32))), (.int (nar .byte (p2.toInt8.toInt32))), (.int (0 : Int32))] (.int (0 : Int32)) := Arv.set Ar176 ck176 Sz176 Nn176 Hs176 Gs176 (fits_nar_byte _) W177 5 rfl (Nat.le_of_ble_eq_true rfl)
      have N177 := Fr.snoc X177 N175 gg165
      have Z177 : n0 ≤ h177.size := by rw [W177.size]; exact Z175
      refine Go.st (fun _ k => st177 _ k) ?_
      show Go p e below _ (T177.setTop (mkF m 102 #[.val (.int p0), .val (.int p1), .val (.int p2), .val (.int p3), .val (.int p4), .val (.int p5), .val (.int (3 : Int32)), .val (.int (4 : Int32)), .val (.ref b165), .val (.int (p5.toInt8.toInt32)), .unset] []))
      refine Go.st (fun _ k => XS.iload X177.here hx rfl (hb hby at_102) rfl k) ?_
      refine Go.st (fun _ k => XS.iconst X177.here hx rfl (hb hby at_104) k) ?_
      show Go p e below _ (T177.setTop (mkF m 105 #[.val (.int p0), .val (.int p1), .val (.int p2), .val (.int p3), .val (.int p4), .val (.int p5), .val (.int (3 : Int32)), .val (.int (4 : Int32)), .val (.ref b165), .val (.int (p5.toInt8.toInt32)), .unset] [(.int (3 : Int32)), (.int (4 : Int32))]))
      refine Go.st (fun _ k => XS.icmpNo X177.here hx rfl (hb hby at_105) rfl (tlt (by decide : ((3 : Int32) < (4 : Int32)))).2.2.2 k) ?_
      show Go p e below _ (T177.setTop (mkF m 108 #[.val (.int p0), .val (.int p1), .val (.int p2), .val (.int p3), .val (.int p4), .val (.int p5), .val (.int (3 : Int32)), .val (.int (4 : Int32)), .val (.ref b165), .val (.int (p5.toInt8.toInt32)), .unset] []))
      refine Go.st (fun _ k => XS.aload X177.here hx rfl (hb hby at_108) rfl rfl k) ?_
      refine Go.st (fun _ k => XS.iload X177.here hx rfl (hb hby at_110) rfl k) ?_
      show Go p e below _ (T177.setTop (mkF m 112 #[.val (.int p0), .val (.int p1), .val (.int p2), .val (.int p3), .val (.int p4), .val (.int p5), .val (.int (3 : Int32)), .val (.int (4 : Int32)), .val (.ref b165), .val (.int (p5.toInt8.toInt32)), .unset] [(.int (3 : Int32)), (.ref b165)]))
      refine Go.st (fun _ k => XS.iconst X177.here hx rfl (hb hby at_112) k) ?_
      refine Go.st (fun _ k => XS.iadd X177.here hx rfl (hb hby at_113) rfl k) ?_
      show Go p e below _ (T177.setTop (mkF m 114 #[.val (.int p0), .val (.int p1), .val (.int p2), .val (.int p3), .val (.int p4), .val (.int p5), .val (.int (3 : Int32)), .val (.int (4 : Int32)), .val (.ref b165), .val (.int (p5.toInt8.toInt32)), .unset] [(.int (6 : Int32)), (.ref b165)]))
      refine Go.st (fun _ k => XS.iloadN X177.here hx rfl (hb hby at_114) rfl k) ?_
      refine Go.st (fun _ k => XS.i2b X177.here hx rfl (hb hby at_115) rfl k) ?_
      show Go p e below _ (T177.setTop (mkF m 116 #[.val (.int p0), .val (.int p1), .val (.int p2), .val (.int p3), .val (.int p4), .val (.int p5), .val (.int (3 : Int32)), .val (.int (4 : Int32)), .val (.ref b165), .val (.int (p5.toInt8.toInt32)), .unset] [(.int (p3.toInt8.toInt32)), (.int (6 : Int32)), (.ref b165)]))
      obtain ⟨cl178, Ar178, ck178, Sz178, Nn178, Hs178, Gs178⟩ := id V177
      have hin178 : ¬ ((6 : Int32) < 0 ∨ cl178.slots.size ≤ ((6 : Int32)).toNatClampNeg) := inb_of Sz178 ⟨by decide, by decide⟩
      obtain ⟨T179, h179, X179, e179, W179, st179⟩ := stB X177 hx hZ e177 Ar178 (j := (6 : Int32)) hin178 (g := (mkF m 116 #[.val (.int p0), .val (.int p1), .val (.int p2), .val (.int p3), .val (.int p4), .val (.int p5), .val (.int (3 : Int32)), .val (.int (4 : Int32)), .val (.ref b165), .val (.int (p5.toInt8.toInt32)), .unset] [(.int (p3.toInt8.toInt32)), (.int (6 : Int32)), (.ref b165)])) rfl rfl (hb hby at_116)
      have V179 : Arv Z h179 b165 k165 .byte (7 : Int32) [(.int (nar .byte (p5.toInt8.toInt32))), (.int (nar .byte (p5.toInt8.toInt32))), (.int (nar .byte (p5.toInt8.toInt32))), (.int (nar .byte (p0.toInt8.toInt32))), (.int (nar .byte (p1.toInt8.toInt32))), (.int (nar .byte (p2.toInt8.toInt32))), (.int (nar .byte (p3.toInt8.toInt32)))] (.int (0 : Int32)) := Arv.set Ar178 ck178 Sz178 Nn178 Hs178 Gs178 (fits_nar_byte _) W179 6 rfl (Nat.le_of_ble_eq_true rfl)
      have N179 := Fr.snoc X179 N177 gg165
      have Z179 : n0 ≤ h179.size := by rw [W179.size]; exact Z177
      refine Go.st (fun _ k => st179 _ k) ?_
      show Go p e below _ (T179.setTop (mkF m 117 #[.val (.int p0), .val (.int p1), .val (.int p2), .val (.int p3), .val (.int p4), .val (.int p5), .val (.int (3 : Int32)), .val (.int (4 : Int32)), .val (.ref b165), .val (.int (p5.toInt8.toInt32)), .unset] []))
      refine Go.st (fun _ k => XS.aload X179.here hx rfl (hb hby at_117) rfl rfl k) ?_
      refine Go.st (fun _ k => XS.iload X179.here hx rfl (hb hby at_119) rfl k) ?_
      show Go p e below _ (T179.setTop (mkF m 121 #[.val (.int p0), .val (.int p1), .val (.int p2), .val (.int p3), .val (.int p4), .val (.int p5), .val (.int (3 : Int32)), .val (.int (4 : Int32)), .val (.ref b165), .val (.int (p5.toInt8.toInt32)), .unset] [(.int (3 : Int32)), (.ref b165)]))
      obtain ⟨_, _, ⟨T180, L180, k180, n180⟩, -, X180, ⟨Lc180, hQ180, l180, y180, z180⟩, st180⟩ := Jvm.LawKit.callS X179 hx (y := (⟨"com/example/apportis/apportis/Utf8", "characterEnd", "([BI)I"⟩ : MethodName)) hown (mvT hZ (hw _ (List.mem_of_getElem? (i := 1) rfl))) (mvT hZ (hw _ (List.mem_of_getElem? (i := 2) rfl))) (mvT hZ (hw _ (List.mem_of_getElem? (i := 3) rfl))) (mvT hZ (hw _ (List.mem_of_getElem? (i := 4) rfl))) (by decide) (backOf (W := 0) (rmCE l Z aZ hw [] (nar .byte (p0.toInt8.toInt32)) (nar .byte (p1.toInt8.toInt32)) (nar .byte (p2.toInt8.toInt32)) (nar .byte (p3.toInt8.toInt32)) b165 (3 : Int32) k165 (7 : Int32) [(.int (nar .byte (p5.toInt8.toInt32))), (.int (nar .byte (p5.toInt8.toInt32))), (.int (nar .byte (p5.toInt8.toInt32))), (.int (nar .byte (p0.toInt8.toInt32))), (.int (nar .byte (p1.toInt8.toInt32))), (.int (nar .byte (p2.toInt8.toInt32))), (.int (nar .byte (p3.toInt8.toInt32)))] h179 n0 (by decide) (by decide) (by decide) rfl (fun _ => rfl) (fun _ => rfl) (fun _ => rfl) V179) hZ (hw _ (List.mem_of_getElem? (i := 4) rfl)) (hw _ (List.mem_of_getElem? (i := 3) rfl)) (by decide) (by decide)) (g := (mkF m 121 #[.val (.int p0), .val (.int p1), .val (.int p2), .val (.int p3), .val (.int p4), .val (.int p5), .val (.int (3 : Int32)), .val (.int (4 : Int32)), .val (.ref b165), .val (.int (p5.toInt8.toInt32)), .unset] [(.int (3 : Int32)), (.ref b165)])) rfl (by rw [hml]; rfl) (argsL := [(.ref b165), (.int (3 : Int32))]) (rest := []) (lenOf pd92f6cd8e rfl) rfl (by show 2 * 0 + _ ≤ _; exact Nat.le_of_eq rfl) (hb hby at_121) (fun _ _ => ⟨rfl, e179, (by decide : 1 + 0 ≤ _), (by decide : 7 + 0 ≤ _)⟩)
      dsimp only [Pt.U, Pt.locs, Pt.cells, Pt.slots] at X180 l180 y180 z180 st180 hQ180
      subst l180 y180 z180
      obtain ⟨rfl, N180q, e180⟩ := hQ180
      have N180 := Fr.app N179 N180q
      refine Go.st (fun _ k => st180 _ k) ?_
      show Go p e below _ (T180.setTop (mkF m 124 #[.val (.int p0), .val (.int p1), .val (.int p2), .val (.int p3), .val (.int p4), .val (.int p5), .val (.int (3 : Int32)), .val (.int (4 : Int32)), .val (.ref b165), .val (.int (p5.toInt8.toInt32)), .unset] [(.int (fCE (nar .byte (p0.toInt8.toInt32)) (nar .byte (p1.toInt8.toInt32)) (nar .byte (p2.toInt8.toInt32)) (nar .byte (p3.toInt8.toInt32)) (3 : Int32) (7 : Int32)))]))
      refine Go.st (fun _ k => XS.istore X180.here hx rfl (hb hby at_124) rfl (l' := #[.val (.int p0), .val (.int p1), .val (.int p2), .val (.int p3), .val (.int p4), .val (.int p5), .val (.int (3 : Int32)), .val (.int (4 : Int32)), .val (.ref b165), .val (.int (p5.toInt8.toInt32)), .val (.int (fCE (nar .byte (p0.toInt8.toInt32)) (nar .byte (p1.toInt8.toInt32)) (nar .byte (p2.toInt8.toInt32)) (nar .byte (p3.toInt8.toInt32)) (3 : Int32) (7 : Int32)))]) rfl k) ?_
      show Go p e below _ (T180.setTop (mkF m 126 #[.val (.int p0), .val (.int p1), .val (.int p2), .val (.int p3), .val (.int p4), .val (.int p5), .val (.int (3 : Int32)), .val (.int (4 : Int32)), .val (.ref b165), .val (.int (p5.toInt8.toInt32)), .val (.int (fCE (nar .byte (p0.toInt8.toInt32)) (nar .byte (p1.toInt8.toInt32)) (nar .byte (p2.toInt8.toInt32)) (nar .byte (p3.toInt8.toInt32)) (3 : Int32) (7 : Int32)))] []))
      refine Go.st (fun _ k => XS.iload X180.here hx rfl (hb hby at_126) rfl k) ?_
      refine Go.st (fun _ k => XS.iloadN X180.here hx rfl (hb hby at_128) rfl k) ?_
      show Go p e below _ (T180.setTop (mkF m 129 #[.val (.int p0), .val (.int p1), .val (.int p2), .val (.int p3), .val (.int p4), .val (.int p5), .val (.int (3 : Int32)), .val (.int (4 : Int32)), .val (.ref b165), .val (.int (p5.toInt8.toInt32)), .val (.int (fCE (nar .byte (p0.toInt8.toInt32)) (nar .byte (p1.toInt8.toInt32)) (nar .byte (p2.toInt8.toInt32)) (nar .byte (p3.toInt8.toInt32)) (3 : Int32) (7 : Int32)))] [(.int p0), (.int (fCE (nar .byte (p0.toInt8.toInt32)) (nar .byte (p1.toInt8.toInt32)) (nar .byte (p2.toInt8.toInt32)) (nar .byte (p3.toInt8.toInt32)) (3 : Int32) (7 : Int32)))]))
      refine Go.st (fun _ k => XS.sipush X180.here hx rfl (hb hby at_129) k) ?_
      refine Go.st (fun _ k => XS.iand X180.here hx rfl (hb hby at_132) rfl k) ?_
      show Go p e below _ (T180.setTop (mkF m 133 #[.val (.int p0), .val (.int p1), .val (.int p2), .val (.int p3), .val (.int p4), .val (.int p5), .val (.int (3 : Int32)), .val (.int (4 : Int32)), .val (.ref b165), .val (.int (p5.toInt8.toInt32)), .val (.int (fCE (nar .byte (p0.toInt8.toInt32)) (nar .byte (p1.toInt8.toInt32)) (nar .byte (p2.toInt8.toInt32)) (nar .byte (p3.toInt8.toInt32)) (3 : Int32) (7 : Int32)))] [(.int (p0 &&& (255 : Int32))), (.int (fCE (nar .byte (p0.toInt8.toInt32)) (nar .byte (p1.toInt8.toInt32)) (nar .byte (p2.toInt8.toInt32)) (nar .byte (p3.toInt8.toInt32)) (3 : Int32) (7 : Int32)))]))
      refine Go.st (fun _ k => XS.iloadN X180.here hx rfl (hb hby at_133) rfl k) ?_
      refine Go.st (fun _ k => XS.sipush X180.here hx rfl (hb hby at_134) k) ?_
      show Go p e below _ (T180.setTop (mkF m 137 #[.val (.int p0), .val (.int p1), .val (.int p2), .val (.int p3), .val (.int p4), .val (.int p5), .val (.int (3 : Int32)), .val (.int (4 : Int32)), .val (.ref b165), .val (.int (p5.toInt8.toInt32)), .val (.int (fCE (nar .byte (p0.toInt8.toInt32)) (nar .byte (p1.toInt8.toInt32)) (nar .byte (p2.toInt8.toInt32)) (nar .byte (p3.toInt8.toInt32)) (3 : Int32) (7 : Int32)))] [(.int (255 : Int32)), (.int p1), (.int (p0 &&& (255 : Int32))), (.int (fCE (nar .byte (p0.toInt8.toInt32)) (nar .byte (p1.toInt8.toInt32)) (nar .byte (p2.toInt8.toInt32)) (nar .byte (p3.toInt8.toInt32)) (3 : Int32) (7 : Int32)))]))
      refine Go.st (fun _ k => XS.iand X180.here hx rfl (hb hby at_137) rfl k) ?_
      refine Go.st (fun _ k => XS.iloadN X180.here hx rfl (hb hby at_138) rfl k) ?_
      show Go p e below _ (T180.setTop (mkF m 139 #[.val (.int p0), .val (.int p1), .val (.int p2), .val (.int p3), .val (.int p4), .val (.int p5), .val (.int (3 : Int32)), .val (.int (4 : Int32)), .val (.ref b165), .val (.int (p5.toInt8.toInt32)), .val (.int (fCE (nar .byte (p0.toInt8.toInt32)) (nar .byte (p1.toInt8.toInt32)) (nar .byte (p2.toInt8.toInt32)) (nar .byte (p3.toInt8.toInt32)) (3 : Int32) (7 : Int32)))] [(.int p2), (.int (p1 &&& (255 : Int32))), (.int (p0 &&& (255 : Int32))), (.int (fCE (nar .byte (p0.toInt8.toInt32)) (nar .byte (p1.toInt8.toInt32)) (nar .byte (p2.toInt8.toInt32)) (nar .byte (p3.toInt8.toInt32)) (3 : Int32) (7 : Int32)))]))
      refine Go.st (fun _ k => XS.sipush X180.here hx rfl (hb hby at_139) k) ?_
      refine Go.st (fun _ k => XS.iand X180.here hx rfl (hb hby at_142) rfl k) ?_
      show Go p e below _ (T180.setTop (mkF m 143 #[.val (.int p0), .val (.int p1), .val (.int p2), .val (.int p3), .val (.int p4), .val (.int p5), .val (.int (3 : Int32)), .val (.int (4 : Int32)), .val (.ref b165), .val (.int (p5.toInt8.toInt32)), .val (.int (fCE (nar .byte (p0.toInt8.toInt32)) (nar .byte (p1.toInt8.toInt32)) (nar .byte (p2.toInt8.toInt32)) (nar .byte (p3.toInt8.toInt32)) (3 : Int32) (7 : Int32)))] [(.int (p2 &&& (255 : Int32))), (.int (p1 &&& (255 : Int32))), (.int (p0 &&& (255 : Int32))), (.int (fCE (nar .byte (p0.toInt8.toInt32)) (nar .byte (p1.toInt8.toInt32)) (nar .byte (p2.toInt8.toInt32)) (nar .byte (p3.toInt8.toInt32)) (3 : Int32) (7 : Int32)))]))
      refine Go.st (fun _ k => XS.iloadN X180.here hx rfl (hb hby at_143) rfl k) ?_
      refine Go.st (fun _ k => XS.sipush X180.here hx rfl (hb hby at_144) k) ?_
      show Go p e below _ (T180.setTop (mkF m 147 #[.val (.int p0), .val (.int p1), .val (.int p2), .val (.int p3), .val (.int p4), .val (.int p5), .val (.int (3 : Int32)), .val (.int (4 : Int32)), .val (.ref b165), .val (.int (p5.toInt8.toInt32)), .val (.int (fCE (nar .byte (p0.toInt8.toInt32)) (nar .byte (p1.toInt8.toInt32)) (nar .byte (p2.toInt8.toInt32)) (nar .byte (p3.toInt8.toInt32)) (3 : Int32) (7 : Int32)))] [(.int (255 : Int32)), (.int p3), (.int (p2 &&& (255 : Int32))), (.int (p1 &&& (255 : Int32))), (.int (p0 &&& (255 : Int32))), (.int (fCE (nar .byte (p0.toInt8.toInt32)) (nar .byte (p1.toInt8.toInt32)) (nar .byte (p2.toInt8.toInt32)) (nar .byte (p3.toInt8.toInt32)) (3 : Int32) (7 : Int32)))]))
      refine Go.st (fun _ k => XS.iand X180.here hx rfl (hb hby at_147) rfl k) ?_
      refine Go.st (fun _ k => XS.iload X180.here hx rfl (hb hby at_148) rfl k) ?_
      show Go p e below _ (T180.setTop (mkF m 150 #[.val (.int p0), .val (.int p1), .val (.int p2), .val (.int p3), .val (.int p4), .val (.int p5), .val (.int (3 : Int32)), .val (.int (4 : Int32)), .val (.ref b165), .val (.int (p5.toInt8.toInt32)), .val (.int (fCE (nar .byte (p0.toInt8.toInt32)) (nar .byte (p1.toInt8.toInt32)) (nar .byte (p2.toInt8.toInt32)) (nar .byte (p3.toInt8.toInt32)) (3 : Int32) (7 : Int32)))] [(.int (4 : Int32)), (.int (p3 &&& (255 : Int32))), (.int (p2 &&& (255 : Int32))), (.int (p1 &&& (255 : Int32))), (.int (p0 &&& (255 : Int32))), (.int (fCE (nar .byte (p0.toInt8.toInt32)) (nar .byte (p1.toInt8.toInt32)) (nar .byte (p2.toInt8.toInt32)) (nar .byte (p3.toInt8.toInt32)) (3 : Int32) (7 : Int32)))]))
      refine Go.st (fun _ k => XS.iload X180.here hx rfl (hb hby at_150) rfl k) ?_
      show Go p e below _ (T180.setTop (mkF m 152 #[.val (.int p0), .val (.int p1), .val (.int p2), .val (.int p3), .val (.int p4), .val (.int p5), .val (.int (3 : Int32)), .val (.int (4 : Int32)), .val (.ref b165), .val (.int (p5.toInt8.toInt32)), .val (.int (fCE (nar .byte (p0.toInt8.toInt32)) (nar .byte (p1.toInt8.toInt32)) (nar .byte (p2.toInt8.toInt32)) (nar .byte (p3.toInt8.toInt32)) (3 : Int32) (7 : Int32)))] [(.int (3 : Int32)), (.int (4 : Int32)), (.int (p3 &&& (255 : Int32))), (.int (p2 &&& (255 : Int32))), (.int (p1 &&& (255 : Int32))), (.int (p0 &&& (255 : Int32))), (.int (fCE (nar .byte (p0.toInt8.toInt32)) (nar .byte (p1.toInt8.toInt32)) (nar .byte (p2.toInt8.toInt32)) (nar .byte (p3.toInt8.toInt32)) (3 : Int32) (7 : Int32)))]))
      obtain ⟨_, _, ⟨T181, L181, k181, n181⟩, -, X181, ⟨Lc181, hQ181, l181, y181, z181⟩, st181⟩ := Jvm.LawKit.callS X180 hx (y := (⟨"com/example/apportis/apportis/Utf8CharacterEndPinLaw", "expected", "(IIIIII)I"⟩ : MethodName)) hown (mvT hZ (hw _ (List.mem_of_getElem? (i := 5) rfl))) (mvT hZ (hw _ (List.mem_of_getElem? (i := 6) rfl))) (mvT hZ (hw _ (List.mem_of_getElem? (i := 7) rfl))) (mvT hZ (hw _ (List.mem_of_getElem? (i := 8) rfl))) (by decide) (backOf (W := 1) (rm2 l Z aZ hw [] (p0 &&& (255 : Int32)) (p1 &&& (255 : Int32)) (p2 &&& (255 : Int32)) (p3 &&& (255 : Int32)) (4 : Int32) (3 : Int32) h179 n0 ) hZ (hw _ (List.mem_of_getElem? (i := 8) rfl)) (hw _ (List.mem_of_getElem? (i := 7) rfl)) (by decide) (by decide)) (g := (mkF m 152 #[.val (.int p0), .val (.int p1), .val (.int p2), .val (.int p3), .val (.int p4), .val (.int p5), .val (.int (3 : Int32)), .val (.int (4 : Int32)), .val (.ref b165), .val (.int (p5.toInt8.toInt32)), .val (.int (fCE (nar .byte (p0.toInt8.toInt32)) (nar .byte (p1.toInt8.toInt32)) (nar .byte (p2.toInt8.toInt32)) (nar .byte (p3.toInt8.toInt32)) (3 : Int32) (7 : Int32)))] [(.int (3 : Int32)), (.int (4 : Int32)), (.int (p3 &&& (255 : Int32))), (.int (p2 &&& (255 : Int32))), (.int (p1 &&& (255 : Int32))), (.int (p0 &&& (255 : Int32))), (.int (fCE (nar .byte (p0.toInt8.toInt32)) (nar .byte (p1.toInt8.toInt32)) (nar .byte (p2.toInt8.toInt32)) (nar .byte (p3.toInt8.toInt32)) (3 : Int32) (7 : Int32)))])) rfl (by rw [hml]; rfl) (argsL := [(.int (p0 &&& (255 : Int32))), (.int (p1 &&& (255 : Int32))), (.int (p2 &&& (255 : Int32))), (.int (p3 &&& (255 : Int32))), (.int (4 : Int32)), (.int (3 : Int32))]) (rest := [(.int (fCE (nar .byte (p0.toInt8.toInt32)) (nar .byte (p1.toInt8.toInt32)) (nar .byte (p2.toInt8.toInt32)) (nar .byte (p3.toInt8.toInt32)) (3 : Int32) (7 : Int32)))]) (lenOf pd41a2ea18 rfl) rfl (by show 2 * 0 + _ ≤ _; exact Nat.le_of_eq rfl) (hb hby at_152) (fun _ _ => ⟨rfl, e180, (by decide : 1 + 0 ≤ _), (by decide : 7 + 0 ≤ _)⟩)
      dsimp only [Pt.U, Pt.locs, Pt.cells, Pt.slots] at X181 l181 y181 z181 st181 hQ181
      subst l181 y181 z181
      obtain ⟨rfl, N181q, e181⟩ := hQ181
      have N181 := Fr.app N180 N181q
      refine Go.st (fun _ k => st181 _ k) ?_
      show Go p e below _ (T181.setTop (mkF m 155 #[.val (.int p0), .val (.int p1), .val (.int p2), .val (.int p3), .val (.int p4), .val (.int p5), .val (.int (3 : Int32)), .val (.int (4 : Int32)), .val (.ref b165), .val (.int (p5.toInt8.toInt32)), .val (.int (fCE (nar .byte (p0.toInt8.toInt32)) (nar .byte (p1.toInt8.toInt32)) (nar .byte (p2.toInt8.toInt32)) (nar .byte (p3.toInt8.toInt32)) (3 : Int32) (7 : Int32)))] [(.int (fExp (p0 &&& (255 : Int32)) (p1 &&& (255 : Int32)) (p2 &&& (255 : Int32)) (p3 &&& (255 : Int32)) (4 : Int32) (3 : Int32))), (.int (fCE (nar .byte (p0.toInt8.toInt32)) (nar .byte (p1.toInt8.toInt32)) (nar .byte (p2.toInt8.toInt32)) (nar .byte (p3.toInt8.toInt32)) (3 : Int32) (7 : Int32)))]))
      refine Go.st (fun _ k => XS.icmpNo X181.here hx rfl (hb hby at_155) rfl (teq (own_main p0 p1 p2 p3 (own_mask p0) (fun _ => own_mask p1) (fun _ => own_mask p2) (fun _ => own_mask p3) (by decide))).2 k) ?_
      show Go p e below _ (T181.setTop (mkF m 158 #[.val (.int p0), .val (.int p1), .val (.int p2), .val (.int p3), .val (.int p4), .val (.int p5), .val (.int (3 : Int32)), .val (.int (4 : Int32)), .val (.ref b165), .val (.int (p5.toInt8.toInt32)), .val (.int (fCE (nar .byte (p0.toInt8.toInt32)) (nar .byte (p1.toInt8.toInt32)) (nar .byte (p2.toInt8.toInt32)) (nar .byte (p3.toInt8.toInt32)) (3 : Int32) (7 : Int32)))] []))
      refine Go.st (fun _ k => XS.iconst X181.here hx rfl (hb hby at_158) k) ?_
      refine Go.st (fun _ k => XS.goto X181.here hx rfl (pc0 := 159) (pc' := 163) rfl (hb hby at_159) (by decide) (by decide) k) ?_
      show Go p e below _ (T181.setTop (mkF m 163 #[.val (.int p0), .val (.int p1), .val (.int p2), .val (.int p3), .val (.int p4), .val (.int p5), .val (.int (3 : Int32)), .val (.int (4 : Int32)), .val (.ref b165), .val (.int (p5.toInt8.toInt32)), .val (.int (fCE (nar .byte (p0.toInt8.toInt32)) (nar .byte (p1.toInt8.toInt32)) (nar .byte (p2.toInt8.toInt32)) (nar .byte (p3.toInt8.toInt32)) (3 : Int32) (7 : Int32)))] [(.int (1 : Int32))]))
      obtain ⟨fs, hr, hrun, hended, hW, hsame⟩ := X181.leave (v := some (.int (1 : Int32))) (fun h => by rw [Bd.returns] at h; cases h)
      refine ⟨_, _, retN X181 hx (t := .boolean) Bd.returns (by simp) (hb hby at_163) hr, hrun, hended, _, _, rfl, ?_, ⟨_, rfl⟩, hW, hsame.mono (by decide) (by decide)⟩
      show Q_rm0 Z p0 p1 p2 p3 p4 p5 h0 n0 _ T181.heap _
      rw [e181]
      exact ⟨rfl, N181⟩
set_option maxRecDepth 65536 in
set_option maxHeartbeats 40000000 in
theorem comes_1 {Post : Tables → Env → Array Value → State → Outcome → State → Prop} (hpost : ∀ tb e args s v u, (limb_1_1.after args s (.returned v) u = true ∧ limb_1_2.after args s (.returned v) u = true ∧ True) → FrameEnd s (.returned v) u (Jvm.fieldLocs frame_1_writes args s ++ Jvm.arrayLocs frame_1_arrays args s ++ Jvm.staticLocs frame_1_statics s) 16 128 → Post tb e args s (.returned v) u) :
    ArmFor flags0 classFile x code maxLocals ret World_1 tables_1 room_1 Calls_1 rest_1 Pre_1 Post := by
  intro l hfl _ _ p e ha hc hk s m args below hf hA hF happ hP
  obtain ⟨hcalls, hrest, hpre⟩ := hP
  obtain ⟨-, -, -, hnamed, -, -, -, hat⟩ := (Spec.applies_iff hf).mp happ
  obtain ⟨hg, hn⟩ := and_e (Cond.before_iff.mp (show (Jvm.Cond.and given_1 narrow_1).before args s = true from hpre))
  obtain ⟨g0, gr0⟩ := and_e hg
  obtain ⟨gi0, gr1⟩ := and_e gr0
  obtain ⟨gi1, gr2⟩ := and_e gr1
  obtain ⟨gi2, gr3⟩ := and_e gr2
  obtain ⟨gi3, gr4⟩ := and_e gr3
  obtain ⟨gi4, gr5⟩ := and_e gr4
  have gi5 := gr5
  obtain ⟨w0, w1, w2, w3, w4, w5, rfl⟩ : ∃ w0 w1 w2 w3 w4 w5 : Value, args = #[w0, w1, w2, w3, w4, w5] := by
    have hs : args.size = 6 := by simpa [Cond.value, given_1] using g0
    obtain ⟨L⟩ := args
    match L, hs with
    | [w0, w1, w2, w3, w4, w5], _ => exact ⟨w0, w1, w2, w3, w4, w5, rfl⟩
  have hw := fun d (hd : d ∈ tables_1) => atoms_spec (ws := Jvm.Cond.code x code maxLocals ret :: tables_1) hat d (List.mem_cons_of_mem _ hd)
  obtain ⟨i0, ei0⟩ := is_v gi0
  obtain rfl : w0 = (.int i0) := Option.some.inj ei0
  obtain ⟨i1, ei1⟩ := is_v gi1
  obtain rfl : w1 = (.int i1) := Option.some.inj ei1
  obtain ⟨i2, ei2⟩ := is_v gi2
  obtain rfl : w2 = (.int i2) := Option.some.inj ei2
  obtain ⟨i3, ei3⟩ := is_v gi3
  obtain rfl : w3 = (.int i3) := Option.some.inj ei3
  obtain ⟨i4, ei4⟩ := is_v gi4
  obtain rfl : w4 = (.int i4) := Option.some.inj ei4
  obtain ⟨i5, ei5⟩ := is_v gi5
  obtain rfl : w5 = (.int i5) := Option.some.inj ei5
  obtain ⟨n, o, h1, h2, h3, _, L, rfl, ⟨rfl, N⟩, hq⟩ := rm0 l s _ hw tables_1 i0 i1 i2 i3 i4 i5  s.heap s.heap.size (Nat.le_refl _) p e ha hc hk s m _ below hf ((Spec.applies_iff_loose hf).mp happ).1 ⟨rfl, State.Warmed39.refl s, rfl⟩ trivial
  refine ⟨n, _, h1, h2, h3, hpost _ _ _ _ _ _ ⟨Cond.after_iff.mpr rfl, Cond.after_iff.mpr (eq_i res_at (Term.int_eval (1)) rfl), trivial⟩ ⟨hq.1, hq.2.1, (hq.2.2.sift fun y hy => Or.inr (N y hy)).mono (by decide) (by decide)⟩⟩
theorem main_1_1 : Claimed_1_1 := comes_1 fun _ _ _ _ _ _ h hF => ⟨h.1, hF⟩
theorem main_1_2 : Claimed_1_2 := comes_1 fun _ _ _ _ _ _ h hF => ⟨h.2.1, hF⟩
end Jvm.Pilot.@@N@@
namespace Jvm.Pilot.@@N@@
open Jvm Jvm.ClassFile Sem Op Lib Jvm.Free Jvm.Stand Jvm.Pilot.@@N@@.Jvm.D
/-! MADE BY PROGRAM (witnessworld.py) out of the Statement's table words and the real class files: 9 classes; the members and pool entries that the words name. The judged class is class 1, her method 1. -/
namespace start1
open Jvm.ClassFile
def u (s : String) : CpInfo := .utf8 (stringToUtf16 s)
/-- a pool by its gaps: so many unusable entries, then the entry; so many at the end -/
def gap : Nat → List CpInfo → List CpInfo
  | 0, r => r
  | n + 1, r => .unusable :: gap n r
def poolList (es : List (Nat × CpInfo)) (last : Nat) : List CpInfo := es.foldr (fun e r => gap e.1 (e.2 :: r)) (gap last [])
def pool (es : List (Nat × CpInfo)) (last : Nat) : Array CpInfo := ⟨poolList es last⟩
def fileOf (pool : Array CpInfo) (this : Nat) (attrs : Array Attribute := #[]) (ms : Array MethodInfo := #[]) (fl : Nat := 33) (sup : Nat := 0) (ifs : Array Nat := #[]) (fds : Array FieldInfo := #[]) : ClassFile where
  minorVersion := 0
  majorVersion := 65
  constantPool := pool
  accessFlags := fl
  thisClass := this
  superClass := sup
  interfaces := ifs
  fields := fds
  methods := ms
  attributes := attrs
def plain (name : String) (sup : Option ClassId) : Class where
  name := name
  kind := .ordinary
  loader := none
  accessFlags := 33
  super := sup
  interfaces := #[]
  cf := none
  fields := #[]
  methods := #[]
  instanceTypes := #[]
  staticTypes := #[]
  resolved := #[]
  callSites := []
  init := .initialized
  statics := none
  mirror := none

def pool0 : Array CpInfo := pool [(5, u "<init>"), (0, u "()V"), (1, .class_ 10), (1, u "java/lang/Object")] 113

def k0m0 : Method := { name := "<init>", desc := "()V", sig := { parameters := [], returnType := none }, accessFlags := 1, code := none }
/-- java/lang/Object -/
def k0 : Class := { plain "java/lang/Object" none with
  accessFlags := 33
  interfaces := #[]
  cf := some (fileOf pool0 8 #[] #[{ accessFlags := 1, nameIndex := 5, descriptorIndex := 6, attributes := #[] }] 33 0 #[] #[])
  fields := #[]
  methods := #[k0m0]
  instanceTypes := #[]
  staticTypes := #[]
  resolved := Array.replicate 124 none
  statics := none }

def pool1 : Array CpInfo := pool [(2, .class_ 4), (1, u "java/lang/Object"), (0, u "<init>"), (0, u "()V"), (0, .methodref 8 9), (0, .class_ 10), (0, .nameAndType 11 12), (0, u "com/example/apportis/apportis/Utf8"), (0, u "characterEnd"), (0, u "([BI)I"), (0, .methodref 14 15), (0, .class_ 16), (0, .nameAndType 17 18), (0, u "com/example/apportis/apportis/Utf8CharacterEndPinLaw"), (0, u "expected"), (0, u "(IIIIII)I"), (0, .methodref 14 20), (0, .nameAndType 21 22), (0, u "cont"), (0, u "(I)Z"), (0, .integer 65536), (0, .integer 1114111), (0, .integer 55296), (0, .integer 57343), (2, u "law"), (0, u "(IIIIII)Z")] 5

def k1m0 : Method := { name := "<init>", desc := "()V", sig := { parameters := [], returnType := none }, accessFlags := 1, code := none }
def k1c1 : Code := { maxStack := 7, maxLocals := 11, code := code, exceptionTable := #[], attributes := #[] }
def k1m1 : Method := { name := "law", desc := "(IIIIII)Z", sig := { parameters := [.int, .int, .int, .int, .int, .int], returnType := some .boolean }, accessFlags := 9, code := some k1c1 }
def k1c2 : Code := { maxStack := 2, maxLocals := 1, code := method_3_code, exceptionTable := #[], attributes := #[] }
def k1m2 : Method := { name := "cont", desc := "(I)Z", sig := { parameters := [.int], returnType := some .boolean }, accessFlags := 10, code := some k1c2 }
def k1c3 : Code := { maxStack := 3, maxLocals := 9, code := method_4_code, exceptionTable := #[], attributes := #[] }
def k1m3 : Method := { name := "expected", desc := "(IIIIII)I", sig := { parameters := [.int, .int, .int, .int, .int, .int], returnType := some .int }, accessFlags := 10, code := some k1c3 }
/-- com/example/apportis/apportis/Utf8CharacterEndPinLaw -/
def k1 : Class := { plain "com/example/apportis/apportis/Utf8CharacterEndPinLaw" (some 0) with
  accessFlags := 49
  interfaces := #[]
  cf := some (fileOf pool1 14 #[] #[{ accessFlags := 1, nameIndex := 5, descriptorIndex := 6, attributes := #[] }, { accessFlags := 9, nameIndex := 29, descriptorIndex := 30, attributes := #[] }, { accessFlags := 10, nameIndex := 21, descriptorIndex := 22, attributes := #[] }, { accessFlags := 10, nameIndex := 17, descriptorIndex := 18, attributes := #[] }] 49 2 #[] #[])
  fields := #[]
  methods := #[k1m0, k1m1, k1m2, k1m3]
  instanceTypes := #[]
  staticTypes := #[]
  resolved := Array.replicate 36 none
  statics := none }

def pool2 : Array CpInfo := pool [(2, .class_ 4), (1, u "java/lang/Object"), (0, u "<init>"), (0, u "()V"), (0, .class_ 8), (0, u "com/example/apportis/apportis/Utf8"), (2, u "characterEnd"), (0, u "([BI)I"), (0, u "NOT_UTF_8"), (0, u "Ljava/lang/String;"), (3, u "NO_CHARACTER"), (0, u "I")] 10

def k2m0 : Method := { name := "<init>", desc := "()V", sig := { parameters := [], returnType := none }, accessFlags := 2, code := none }
def k2c1 : Code := { maxStack := 3, maxLocals := 10, code := prog_85_method_2_code, exceptionTable := #[], attributes := #[] }
def k2m1 : Method := { name := "characterEnd", desc := "([BI)I", sig := { parameters := [(.array .byte), .int], returnType := some .int }, accessFlags := 8, code := some k2c1 }
/-- com/example/apportis/apportis/Utf8 -/
def k2 : Class := { plain "com/example/apportis/apportis/Utf8" (some 0) with
  accessFlags := 32
  interfaces := #[]
  cf := some (fileOf pool2 7 #[] #[{ accessFlags := 2, nameIndex := 5, descriptorIndex := 6, attributes := #[] }, { accessFlags := 8, nameIndex := 11, descriptorIndex := 12, attributes := #[] }] 32 2 #[] #[{ accessFlags := 24, nameIndex := 13, descriptorIndex := 14, attributes := #[] }, { accessFlags := 24, nameIndex := 18, descriptorIndex := 19, attributes := #[] }])
  fields := #[{ name := "NOT_UTF_8", type := (.object "java/lang/String"), accessFlags := 24, slot := 0, constantValue := 0 }, { name := "NO_CHARACTER", type := .int, accessFlags := 24, slot := 1, constantValue := 0 }]
  methods := #[k2m0, k2m1]
  instanceTypes := #[]
  staticTypes := #[(.object "java/lang/String"), .int]
  resolved := Array.replicate 30 none
  statics := none }

def pool3 : Array CpInfo := pool [(1, u "java/lang/Cloneable"), (0, .class_ 1), (0, u "java/lang/Object"), (0, .class_ 3)] 3

/-- java/lang/Cloneable -/
def k3 : Class := { plain "java/lang/Cloneable" (some 0) with
  accessFlags := 1537
  interfaces := #[]
  cf := some (fileOf pool3 2 #[] #[] 1537 4 #[] #[])
  fields := #[]
  methods := #[]
  instanceTypes := #[]
  staticTypes := #[]
  resolved := Array.replicate 8 none
  statics := none }

def pool4 : Array CpInfo := pool [(1, u "java/io/Serializable"), (0, .class_ 1), (0, u "java/lang/Object"), (0, .class_ 3)] 3

/-- java/io/Serializable -/
def k4 : Class := { plain "java/io/Serializable" (some 0) with
  accessFlags := 1537
  interfaces := #[]
  cf := some (fileOf pool4 2 #[] #[] 1537 4 #[] #[])
  fields := #[]
  methods := #[]
  instanceTypes := #[]
  staticTypes := #[]
  resolved := Array.replicate 8 none
  statics := none }

/-- the primitive byte -/
def k5 : Class := { plain "byte" none with kind := .primitive 'B', accessFlags := 0x411 }
/-- [B -/
def k6 : Class := { plain "[B" (some 0) with kind := .array 5 .byte, interfaces := #[3, 4], accessFlags := 1041 }

/-- the primitive int -/
def k7 : Class := { plain "int" none with kind := .primitive 'I', accessFlags := 0x411 }
/-- [I -/
def k8 : Class := { plain "[I" (some 0) with kind := .array 7 .int, interfaces := #[3, 4], accessFlags := 1041 }

def heap : Heap := #[]
def classes : Array Class := #[k0, k1, k2, k3, k4, k5, k6, k7, k8]
def interned : List (Array UInt16 × Addr) := []
def slotsUsed : Nat := 0
def theMethod : MethodId := ⟨1, 1⟩
def args0 : Array Value := #[.int 5, .int 6, .int 7, .int 8, .int 9, .int 10]
def aboutOver (below : List Frame) : State where
  vm := { classes := classes, interned := interned.toArray }
  heap := heap
  slotsUsed := slotsUsed
  threads := #[{ frames := .invoking theMethod args0 :: below }]
def below0 : List Frame := [.native { method := ⟨0, 0⟩, args := #[] }]
def about1 : State := aboutOver below0
def p0 : Program := .bare "" "" ""
def e0 : Env := launch0.env 0 0 0
theorem w_frames : about1.frames = Frame.invoking theMethod args0 :: below0 := rfl
set_option maxRecDepth 65536 in
theorem w_args : argsFit about1.vm theMethod args0 = true := by decide +kernel
set_option maxRecDepth 65536 in
theorem w_heap : heapFits about1 = true := by decide +kernel
set_option maxRecDepth 65536 in
theorem w_runnable : about1.curStatus? = some .runnable := by decide +kernel
set_option maxRecDepth 65536 in
theorem w_alone : about1.alone = true := by decide +kernel
set_option maxRecDepth 65536 in
theorem w_named : about1.methodNamed? x = some theMethod := by decide +kernel
set_option maxRecDepth 65536 in
theorem w_hears : about1.hears theMethod below0 = true := by decide +kernel
set_option maxRecDepth 65536 in
theorem w_ripe : about1.ripe theMethod args0 below0 = true := by decide +kernel
theorem w_running : about1.status = .running := rfl
set_option maxRecDepth 65536 in
theorem w_room : about1.hasRoom e0.platform room_1 = true :=
  launch0.hasRoom_least _ room_1 (by decide +kernel) (by decide +kernel) (by decide +kernel) (by decide +kernel) (by decide +kernel) (by decide +kernel)
theorem allAtoms_all (ts : List Jvm.Cond) (a : Array Jvm.Value) (st : Jvm.State) : (allAtoms ts).before a st = ts.all (fun c => c.before a st) := by
  induction ts with
  | nil => rfl
  | cons c t ih =>
    show (Jvm.Cond.and c (allAtoms t)).before a st = _
    rw [Jvm.Cond.before_and, ih, List.all_cons]
def words1 : List Jvm.Cond := Jvm.Cond.code x code maxLocals ret :: tables_1
/-- a 'code' word, met by the world's own term for the bytes: nothing is compared byte by byte -/
theorem code_word {y : MethodName} {bytes : ByteArray} {mx : Nat} {rt : Option FieldType} {a : Array Value} {s : State} {m : MethodId} {meth : Method} {c : Code} (h1 : s.methodNamed? y = some m) (h2 : s.vm.method? m = some meth) (h3 : meth.code = some c) (h4 : c.code = bytes)
    (h5 : (c.maxLocals == mx && c.exceptionTable.isEmpty && decide (c.maxStack ≤ mostOperands) && decide (meth.sig.returnType = rt) && !meth.locks && decide (parseMethodDescriptor y.desc = some meth.sig)) = true) : (Jvm.Cond.code y bytes mx rt).before a s = true := by
  simp only [Bool.and_eq_true, beq_iff_eq, Bool.not_eq_true', decide_eq_true_eq] at h5
  obtain ⟨⟨⟨⟨⟨g1, g2⟩, g3⟩, g4⟩, g5⟩, g6⟩ := h5
  simp [Cond.before, Cond.holds, Cond.value, h1, h2, h3, h4, g1, g2, g3, g4, g5, g6]
def isCode : Jvm.Cond → Bool
  | .code _ _ _ _ => true
  | _ => false
theorem all_split {L : List Jvm.Cond} {P : Jvm.Cond → Bool} (h1 : L.all (fun c => isCode c || P c) = true) (h2 : ∀ c ∈ L.filter isCode, P c = true) : L.all P = true := by
  refine List.all_eq_true.mpr fun c hc => ?_
  have h := List.all_eq_true.mp h1 c hc
  rcases Bool.eq_false_or_eq_true (isCode c) with hi | hi
  · exact h2 c (List.mem_filter.mpr ⟨hc, hi⟩)
  · simpa [hi] using h
set_option maxRecDepth 65536 in
theorem w_c0 : (Jvm.Cond.code x code maxLocals ret).before args0 about1 = true := code_word (m := ⟨1, 1⟩) (meth := k1m1) (c := k1c1) (by decide +kernel) rfl rfl rfl (by decide +kernel)
set_option maxRecDepth 65536 in
theorem w_c1 : (Jvm.Cond.code ({ cls := "com/example/apportis/apportis/Utf8", name := "characterEnd", desc := "([BI)I" } : Jvm.MethodName) prog_85_method_2_code (10 : Nat) (Option.some Jvm.ClassFile.FieldType.int)).before args0 about1 = true := code_word (m := ⟨2, 1⟩) (meth := k2m1) (c := k2c1) (by decide +kernel) rfl rfl rfl (by decide +kernel)
set_option maxRecDepth 65536 in
theorem w_c2 : (Jvm.Cond.code ({ cls := "com/example/apportis/apportis/Utf8CharacterEndPinLaw", name := "expected", desc := "(IIIIII)I" } : Jvm.MethodName) method_4_code (9 : Nat) (Option.some Jvm.ClassFile.FieldType.int)).before args0 about1 = true := code_word (m := ⟨1, 3⟩) (meth := k1m3) (c := k1c3) (by decide +kernel) rfl rfl rfl (by decide +kernel)
set_option maxRecDepth 65536 in
theorem w_c3 : (Jvm.Cond.code ({ cls := "com/example/apportis/apportis/Utf8CharacterEndPinLaw", name := "cont", desc := "(I)Z" } : Jvm.MethodName) method_3_code (1 : Nat) (Option.some Jvm.ClassFile.FieldType.boolean)).before args0 about1 = true := code_word (m := ⟨1, 2⟩) (meth := k1m2) (c := k1c2) (by decide +kernel) rfl rfl rfl (by decide +kernel)
def codes1 : List Jvm.Cond := [Jvm.Cond.code x code maxLocals ret, Jvm.Cond.code ({ cls := "com/example/apportis/apportis/Utf8", name := "characterEnd", desc := "([BI)I" } : Jvm.MethodName) prog_85_method_2_code (10 : Nat) (Option.some Jvm.ClassFile.FieldType.int), Jvm.Cond.code ({ cls := "com/example/apportis/apportis/Utf8CharacterEndPinLaw", name := "expected", desc := "(IIIIII)I" } : Jvm.MethodName) method_4_code (9 : Nat) (Option.some Jvm.ClassFile.FieldType.int), Jvm.Cond.code ({ cls := "com/example/apportis/apportis/Utf8CharacterEndPinLaw", name := "cont", desc := "(I)Z" } : Jvm.MethodName) method_3_code (1 : Nat) (Option.some Jvm.ClassFile.FieldType.boolean)]
set_option maxRecDepth 65536 in
theorem codes_eq : words1.filter isCode = codes1 := rfl
theorem w_codes : ∀ c ∈ words1.filter isCode, c.before args0 about1 = true := by
  rw [codes_eq]
  intro c hc
  simp only [codes1, List.mem_cons, List.not_mem_nil, or_false] at hc
  rcases hc with rfl | rfl | rfl | rfl
  · exact w_c0
  · exact w_c1
  · exact w_c2
  · exact w_c3
set_option maxRecDepth 65536 in
theorem w_t1 : words1.all (fun c => isCode c || c.before args0 about1) = true := by decide +kernel
theorem w_tables : (allAtoms (Jvm.Cond.code x code maxLocals ret :: tables_1)).before args0 about1 = true := by
  rw [allAtoms_all]
  show words1.all (fun c => c.before args0 about1) = true
  refine all_split ?_ w_codes
  rw [w_t1]
set_option maxRecDepth 65536 in
theorem w_case : (Jvm.Cond.and given_1 narrow_1).before args0 about1 = true := by decide +kernel
theorem w_applies : (headSpec (Jvm.Cond.code x code maxLocals ret :: tables_1) room_1).applies x e0.platform about1 = true :=
  (Spec.applies_iff w_frames).mpr ⟨w_running, w_runnable, w_alone, w_named, w_hears, w_ripe, w_room, w_tables⟩
theorem atStart : AtStart classFile x code maxLocals ret World_1 tables_1 room_1 Calls_1 rest_1 Pre_1 launch0 p0 e0 about1 theMethod args0 below0 :=
  ⟨lists_1, trivial, launch0.admits_env _ _ _, launch0.least_env, fairChoices_fair.cas, fairChoices_fair.clock, w_frames, w_args, w_heap, w_applies, trivial, trivial, w_case⟩
end start1
theorem witness_1 : WitnessClaimed_1 := ⟨start1.p0, start1.e0, start1.about1, start1.theMethod, start1.args0, start1.below0, start1.atStart⟩
end Jvm.Pilot.@@N@@
