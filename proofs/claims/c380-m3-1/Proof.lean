import JvmDerived
import JvmDerived.Pilot.@@N@@Statement
import JvmDerived.Pilot.@@N@@Code
set_option linter.unusedVariables false
set_option linter.unusedSimpArgs false
namespace Jvm.RoadKit
open Sem ClassFile Op Lib Jvm.Stand Jvm.Free Jvm.LawKit
section New
variable {p : Program} {l : Launch} {e : Env} {R : Room} {s : State} {m : MethodId} {args : Array Value} {below : List Frame} {meth : Method} {c : Code} {T : State} {locs : List Loc} {cells slots : Nat}
theorem retI (X : Stand p l e R s m args below meth c T locs cells slots) (hx : p.tables.exec = Jvm.exec) {pc : Nat} {Ls : Array Slot} {z : Int32} {rest : List Value} (hret : meth.sig.returnType = some .int) (hd : decode c.code pc = .ok (.ireturn, 1)) {fs : List Frame}
    (hl : ∀ (f : JFrame) (acts : List Action), f.method = m → f.locked = none → f.entered = [] → (doReturn e (T.setTop f) acts (some (.int z))).1 = T.setFrames fs) : Steps p.tables e below (T.setTop (mkF m pc Ls (.int z :: rest))) (T.setFrames fs) := by
  have hm' : T.vm.method? m = some meth := X.method'
  have hn : narrow .int (.int z) = .int z := rfl
  show Steps p.tables e below (T.setTop { method := m, pc := pc, locals := Ls, stack := _ :: rest, locked := none }) _
  jvm_step X.here [X.here.top, hx, hd, hm', hret, hn]
  first | (intro acts; rw [hl _ acts rfl rfl rfl]) | rw [hl _ _ rfl rfl rfl]
  exact Steps.refl _
theorem retJ (X : Stand p l e R s m args below meth c T locs cells slots) (hx : p.tables.exec = Jvm.exec) {pc : Nat} {Ls : Array Slot} {z : Int64} {rest : List Value} (hret : meth.sig.returnType = some .long) (hd : decode c.code pc = .ok (.lreturn, 1)) {fs : List Frame}
    (hl : ∀ (f : JFrame) (acts : List Action), f.method = m → f.locked = none → f.entered = [] → (doReturn e (T.setTop f) acts (some (.long z))).1 = T.setFrames fs) : Steps p.tables e below (T.setTop (mkF m pc Ls (.long z :: rest))) (T.setFrames fs) := by
  have hm' : T.vm.method? m = some meth := X.method'
  have hn : narrow .long (.long z) = .long z := rfl
  show Steps p.tables e below (T.setTop { method := m, pc := pc, locals := Ls, stack := _ :: rest, locked := none }) _
  jvm_step X.here [X.here.top, hx, hd, hm', hret, hn]
  first | (intro acts; rw [hl _ acts rfl rfl rfl]) | rw [hl _ _ rfl rfl rfl]
  exact Steps.refl _
theorem retA (X : Stand p l e R s m args below meth c T locs cells slots) (hx : p.tables.exec = Jvm.exec) {pc : Nat} {Ls : Array Slot} {z : Value} {t : FieldType} {rest : List Value} (hret : meth.sig.returnType = some t) (ht : t.isReference = true) (hz : z.isRef = true) (hd : decode c.code pc = .ok (.areturn, 1)) {fs : List Frame}
    (hl : ∀ (f : JFrame) (acts : List Action), f.method = m → f.locked = none → f.entered = [] → (doReturn e (T.setTop f) acts (some z)).1 = T.setFrames fs) : Steps p.tables e below (T.setTop (mkF m pc Ls (z :: rest))) (T.setFrames fs) := by
  have hm' : T.vm.method? m = some meth := X.method'
  show Steps p.tables e below (T.setTop { method := m, pc := pc, locals := Ls, stack := _ :: rest, locked := none }) _
  jvm_step X.here [X.here.top, hx, hd, hm', hret, ht, hz]
  first | (intro acts; rw [hl _ acts rfl rfl rfl]) | rw [hl _ _ rfl rfl rfl]
  exact Steps.refl _
end New
end Jvm.RoadKit
@@BLOCK:NumsL.lean.txt@@
@@BLOCK:Masks.lean.txt@@
namespace Jvm.Pilot.@@N@@
open Jvm Jvm.ClassFile Sem Op Lib Jvm.Free Jvm.Stand Jvm.LawKit Jvm.RoadKit Bundle Jvm.Pilot.@@N@@.Jvm.D
/-- the run comes from st to an end of which F holds -/
abbrev Go (p : Program) (e : Env) (below : List Frame) (F : Outcome → State → Prop) (st : State) : Prop := ∃ t o, Steps p.tables e below st t ∧ t.status = .running ∧ Ended t below o ∧ F o t
theorem Go.st {p : Program} {e : Env} {below : List Frame} {F : Outcome → State → Prop} {a b : State} (h : ∀ t, Steps p.tables e below b t → Steps p.tables e below a t) (k : Go p e below F b) : Go p e below F a := by
  obtain ⟨t, o, h1, h2⟩ := k
  exact ⟨t, o, h t h1, h2⟩
/-- Java's x % y -/
abbrev jrem (x y : Int32) : Int32 := x - (x / y) * y
abbrev jremL (x y : Int64) : Int64 := x - (x / y) * y
theorem Go.cast {p : Program} {e : Env} {below : List Frame} {F : Outcome → State → Prop} {a b : State} (h : a = b) (k : Go p e below F b) : Go p e below F a := h ▸ k
theorem own_natL {x : Int64} (h : 0 ≤ x.toInt) : x.toInt = (x.toBitVec.toNat : Int) := by
  have e : x.toInt = x.toBitVec.toInt := rfl
  have hb := x.toBitVec.isLt
  rw [e, BitVec.toInt_eq_toNat_cond] at h ⊢
  split
  · rfl
  · rename_i hc
    rw [if_neg hc] at h
    omega
theorem own_natI {x : Int32} (h : 0 ≤ x.toInt) : x.toInt = (x.toBitVec.toNat : Int) := by
  have e : x.toInt = x.toBitVec.toInt := rfl
  have hb := x.toBitVec.isLt
  rw [e, BitVec.toInt_eq_toNat_cond] at h ⊢
  split
  · rfl
  · rename_i hc
    rw [if_neg hc] at h
    omega
theorem own_orN {a b k : Nat} (hm : a % 2 ^ k = 0) (hb : b < 2 ^ k) : a ||| b = a + b := by
  have e : a = 2 ^ k * (a / 2 ^ k) := by
    have := Nat.div_add_mod a (2 ^ k)
    omega
  rw [e]
  exact (Nat.two_pow_add_eq_or_of_lt hb _).symm
theorem own_orL {a b : Int64} (k : Nat) (ha : 0 ≤ a.toInt) (hm : a.toInt % ((2 ^ k : Nat) : Int) = 0) (hb : 0 ≤ b.toInt) (hb2 : b.toInt < ((2 ^ k : Nat) : Int)) (hs : a.toInt + b.toInt < 2 ^ 63) : (a ||| b).toInt = a.toInt + b.toInt := by
  have ea := own_natL ha
  have eb := own_natL hb
  rw [ea] at hm hs ⊢
  rw [eb] at hb2 hs ⊢
  have e1 : (a ||| b).toBitVec.toNat = a.toBitVec.toNat + b.toBitVec.toNat := by
    rw [Int64.toBitVec_or, BitVec.toNat_or]
    exact own_orN (k := k) (by omega) (by omega)
  have e2 : (a ||| b).toInt = (a ||| b).toBitVec.toInt := rfl
  rw [e2, BitVec.toInt_eq_toNat_cond, e1, if_pos (by omega)]
  omega
theorem own_orI {a b : Int32} (k : Nat) (ha : 0 ≤ a.toInt) (hm : a.toInt % ((2 ^ k : Nat) : Int) = 0) (hb : 0 ≤ b.toInt) (hb2 : b.toInt < ((2 ^ k : Nat) : Int)) (hs : a.toInt + b.toInt < 2 ^ 31) : (a ||| b).toInt = a.toInt + b.toInt := by
  have ea := own_natI ha
  have eb := own_natI hb
  rw [ea] at hm hs ⊢
  rw [eb] at hb2 hs ⊢
  have e1 : (a ||| b).toBitVec.toNat = a.toBitVec.toNat + b.toBitVec.toNat := by
    rw [Int32.toBitVec_or, BitVec.toNat_or]
    exact own_orN (k := k) (by omega) (by omega)
  have e2 : (a ||| b).toInt = (a ||| b).toBitVec.toInt := rfl
  rw [e2, BitVec.toInt_eq_toNat_cond, e1, if_pos (by omega)]
  omega
theorem own_div {x y : Int32} (hx : 0 ≤ x.toInt) (hy : 0 < y.toInt) : (x / y).toInt = x.toInt / y.toInt := by
  rw [Jvm.Kit.i32_div (by omega), Int.tdiv_eq_ediv_of_nonneg hx]
theorem own_jrem {x y : Int32} (hx : 0 ≤ x.toInt) (hy : 0 < y.toInt) : (jrem x y).toInt = x.toInt % y.toInt := by
  have hd := own_div hx hy
  have hm := Int.emod_add_ediv_mul x.toInt y.toInt
  have h0 := Int.emod_nonneg x.toInt (b := y.toInt) (by omega)
  have h1 := Int.emod_lt_of_pos x.toInt hy
  have hq : 0 ≤ x.toInt / y.toInt * y.toInt := Int.mul_nonneg (Int.ediv_nonneg hx (by omega)) (by omega)
  have hl := x.toInt_lt
  have e1 : (x / y * y).toInt = x.toInt / y.toInt * y.toInt := by
    rw [Jvm.Kit.i32_mul (by rw [hd]; omega) (by rw [hd]; omega), hd]
  have e2 : (jrem x y).toInt = x.toInt - (x / y * y).toInt := Jvm.Kit.i32_sub (by rw [e1]; omega) (by rw [e1]; omega)
  rw [e2, e1]
  omega

/-- a byte[] of 16 places, place i holds f i -/
def own_arr (Z : State) (h : Heap) (a : Addr) (f : Nat → Int32) : Prop := ∃ c : Cell, Arr Z h a c .byte ∧ c.slots.size = 16 ∧ ∀ i, i < 16 → c.slots[i]? = some (.int (f i))
theorem own_arr_ext {Z : State} {h h' : Heap} {a : Addr} {f : Nat → Int32} (E : Ext h h') (A : own_arr Z h a f) : own_arr Z h' a f := by
  obtain ⟨c, A, r⟩ := A
  exact ⟨c, A.ext E, r⟩
theorem own_arr_other {Z : State} {h h' : Heap} {a b : Addr} {sl : Nat} {v : Value} {f : Nat → Int32} (W : Wr h h' b sl v) (A : own_arr Z h a f) (q : a ≠ b) : own_arr Z h' a f := by
  obtain ⟨c, A, r⟩ := A
  exact ⟨c, A.other W q, r⟩
theorem own_arr_keep {Z : State} {h h' : Heap} {a : Addr} {ws : List Addr} {f : Nat → Int32} (K : Keep h h' ws) (A : own_arr Z h a f) (q : a ∉ ws) : own_arr Z h' a f := by
  obtain ⟨c, A, r⟩ := A
  exact ⟨c, ⟨K.2.1 a c A.1 q, A.2⟩, r⟩
theorem own_arr_lt {Z : State} {h : Heap} {a : Addr} {f : Nat → Int32} (A : own_arr Z h a f) : a < h.size := by
  obtain ⟨c, A, r⟩ := A
  exact A.lt
theorem own_arr_congr {Z : State} {h : Heap} {a : Addr} {f g : Nat → Int32} (A : own_arr Z h a f) (q : ∀ i, f i = g i) : own_arr Z h a g := by
  have : f = g := funext q
  exact this ▸ A
theorem own_arr_new {Z : State} {h : Heap} {a : Addr} {k : ClassId} (A : Arr Z h a (newA k .byte (16 : Int32)) .byte) : own_arr Z h a (fun _ => 0) := by
  refine ⟨_, A, by rw [sz_new]; decide, fun i hi => ?_⟩
  simp only [newA]
  rw [Array.getElem?_replicate, if_pos (by exact hi)]
  rfl
theorem own_arr_set {Z : State} {h h' : Heap} {a : Addr} {c : Cell} {j x : Int32} {f : Nat → Int32} (A : Arr Z h a c .byte) (S : c.slots.size = 16) (H : ∀ i, i < 16 → c.slots[i]? = some (.int (f i))) (W : Wr h h' a j.toNatClampNeg (.int x)) : own_arr Z h' a (fun i => if i = j.toNatClampNeg then x else f i) := by
  refine ⟨_, A.same W, by rw [sz_set]; exact S, fun i hi => ?_⟩
  simp only [Cell.setSlot]
  rw [Array.getElem?_setIfInBounds]
  by_cases hij : j.toNatClampNeg = i
  · subst hij
    rw [if_pos rfl, if_pos (by rw [S]; exact hi), if_pos rfl]
  · rw [if_neg hij, if_neg (fun e => hij e.symm)]
    exact H i hi
theorem own_hin {j : Int32} (h0 : ¬ j < 0) (h1 : j.toNatClampNeg < 16) {n : Nat} (hn : n = 16) : ¬ (j < 0 ∨ n ≤ j.toNatClampNeg) := by
  rintro (h | h)
  · exact h0 h
  · omega

theorem d1_0 : decode method_4_code 0 = .ok (.aload_n 0, 1) := by decide +kernel
theorem d1_1 : decode method_4_code 1 = .ok (.iload_n 3, 1) := by decide +kernel
theorem d1_2 : decode method_4_code 2 = .ok (.lload_n 1, 1) := by decide +kernel
theorem d1_3 : decode method_4_code 3 = .ok (.iconst 4, 1) := by decide +kernel
theorem d1_4 : decode method_4_code 4 = .ok (.iload_n 3, 1) := by decide +kernel
theorem d1_5 : decode method_4_code 5 = .ok (.imul, 1) := by decide +kernel
theorem d1_6 : decode method_4_code 6 = .ok (.lshr, 1) := by decide +kernel
theorem d1_7 : decode method_4_code 7 = .ok (.l2i, 1) := by decide +kernel
theorem d1_8 : decode method_4_code 8 = .ok (.i2b, 1) := by decide +kernel
theorem d1_9 : decode method_4_code 9 = .ok (.bastore, 1) := by decide +kernel
theorem d1_10 : decode method_4_code 10 = .ok (.return_, 1) := by decide +kernel
theorem pn_1 : plainName "terselink/tlk/TermRecordsReadNumberPinLaw" = true := by first | (simp [plainName, overriddenIn]; done) | decide +kernel
theorem ef_rmJunk (m : MethodId) (a0 : Addr) (q1 : Int64) (p2 : Int32) : entryFrame m #[(.ref a0), (.long q1), (.int p2)] 4 = mkF m 0 #[.val (.ref a0), .val (.long q1), .second, .val (.int p2)] [] := by first | (simp [entryFrame, mkF, argsToLocals, Value.category]; done) | rfl
def Q_rmJunk (Z : State) (a0 : Addr) (q1 : Int64) (p2 : Int32) (f : Nat → Int32) (h0 : Heap) (n0 : Nat) (v : Option Value) (h : Heap) (L : List Loc) : Prop := v = none ∧ Fr n0 L ∧ Keep h0 h [a0] ∧ ∃ f', own_arr Z h a0 f'
abbrev F_rmJunk (Z : State) (a0 : Addr) (q1 : Int64) (p2 : Int32) (f : Nat → Int32) (h0 : Heap) (n0 : Nat) (s : State) (o : Outcome) (U : State) : Prop := ∃ v L, o = .returned v ∧ Q_rmJunk Z a0 q1 p2 f h0 n0 v U.heap L ∧ FrameEnd s o U L 0 0
set_option maxRecDepth 65536 in
set_option maxHeartbeats 40000000 in
theorem rmJunk (l : Launch) (Z : State) (aZ : Array Value) (hw : ∀ d ∈ tables_1, d.before aZ Z = true) (ws : List Jvm.Cond) (a0 : Addr) (q1 : Int64) (p2 : Int32) (f : Nat → Int32) (h0 : Heap) (n0 : Nat) (gA : n0 ≤ a0) (A : own_arr Z h0 a0 f) (hk0 : ¬ p2 < 0) (hk1 : p2.toNatClampNeg < 16) :
    MetFree l (⟨"terselink/tlk/TermRecordsReadNumberPinLaw", "junk", "([BJI)V"⟩ : MethodName) (head1 (Jvm.Cond.code (⟨"terselink/tlk/TermRecordsReadNumberPinLaw", "junk", "([BJI)V"⟩ : MethodName) method_4_code 4 none :: ws) ({ frames := 0, cells := 0, slots := 0, locals := 0 } : Room)) (fun a U => a = #[(.ref a0), (.long q1), (.int p2)] ∧ Z.Warmed39 U.vm ∧ U.heap = h0) (fun _ _ _ _ _ => True) (fun _ U o U' => ∃ v L, o = .returned v ∧ Q_rmJunk Z a0 q1 p2 f h0 n0 v U'.heap L ∧ FrameEnd U o U' L 0 0) := by
  refine MetFree.of_bodySF (plainFor_of_name pn_1) hisR ?_
  intro p e s m args below meth c s₁ Bd hml0 hP hK
  obtain ⟨rfl, hZ, hh⟩ := hP
  have hx := Bd.exec
  have hby := Bd.bytes
  have hml : c.maxLocals = 4 := hml0
  have hown : s.vm.findClass "terselink/tlk/TermRecordsReadNumberPinLaw" = some m.cls := findClass_of_methodNamed Bd.named
  have hnm := (name_of_methodNamed Bd.named Bd.method).1
  have X0 : Stand p l e ({ frames := 0, cells := 0, slots := 0, locals := 0 } : Room) s m #[(.ref a0), (.long q1), (.int p2)] below meth c s₁ [] 0 0 := Stand.of_body Bd
  have e0 : s₁.heap = h0 := by rw [← hh, Bd.state]; rfl
  have N0 := Fr.nil n0
  refine Go.st (fun _ k => castTop (ef_rmJunk m a0 q1 p2) k) ?_
  have K0 : Keep h0 h0 [a0] := Keep.refl h0 _
  show Go p e below _ (s₁.setTop (mkF m 0 #[.val (.ref a0), .val (.long q1), .second, .val (.int p2)] []))
  refine Go.st (fun _ k => XS.aloadN X0.here hx rfl (hb hby d1_0) rfl rfl k) ?_
  refine Go.st (fun _ k => XS.iloadN X0.here hx rfl (hb hby d1_1) rfl k) ?_
  show Go p e below _ (s₁.setTop (mkF m 2 #[.val (.ref a0), .val (.long q1), .second, .val (.int p2)] [(.int p2), (.ref a0)]))
  refine Go.st (fun _ k => XS.lloadN X0.here hx rfl (hb hby d1_2) rfl k) ?_
  refine Go.st (fun _ k => XS.iconst X0.here hx rfl (hb hby d1_3) k) ?_
  show Go p e below _ (s₁.setTop (mkF m 4 #[.val (.ref a0), .val (.long q1), .second, .val (.int p2)] [(.int (4 : Int32)), (.long q1), (.int p2), (.ref a0)]))
  refine Go.st (fun _ k => XS.iloadN X0.here hx rfl (hb hby d1_4) rfl k) ?_
  refine Go.st (fun _ k => XS.imul X0.here hx rfl (hb hby d1_5) rfl k) ?_
  show Go p e below _ (s₁.setTop (mkF m 6 #[.val (.ref a0), .val (.long q1), .second, .val (.int p2)] [(.int ((4 : Int32) * p2)), (.long q1), (.int p2), (.ref a0)]))
  refine Go.st (fun _ k => XS.lshr X0.here hx rfl (hb hby d1_6) rfl k) ?_
  show Go p e below _ (s₁.setTop (mkF m 7 #[.val (.ref a0), .val (.long q1), .second, .val (.int p2)] [(.long (q1 >>> (((4 : Int32) * p2) &&& 0x3f).toInt64)), (.int p2), (.ref a0)]))
  refine Go.st (fun _ k => XS.l2i X0.here hx rfl (hb hby d1_7) rfl k) ?_
  show Go p e below _ (s₁.setTop (mkF m 8 #[.val (.ref a0), .val (.long q1), .second, .val (.int p2)] [(.int ((q1 >>> (((4 : Int32) * p2) &&& 0x3f).toInt64).toInt32)), (.int p2), (.ref a0)]))
  refine Go.st (fun _ k => XS.i2b X0.here hx rfl (hb hby d1_8) rfl k) ?_
  show Go p e below _ (s₁.setTop (mkF m 9 #[.val (.ref a0), .val (.long q1), .second, .val (.int p2)] [(.int (((q1 >>> (((4 : Int32) * p2) &&& 0x3f).toInt64).toInt32).toInt8.toInt32)), (.int p2), (.ref a0)]))
  obtain ⟨cl1, Ar1, Sz1, Hs1⟩ := id A
  have hin1 : ¬ (p2 < 0 ∨ cl1.slots.size ≤ (p2).toNatClampNeg) := own_hin hk0 hk1 Sz1
  obtain ⟨T2, h2, X2, e2, W2, st2⟩ := stB X0 hx hZ e0 Ar1 (j := p2) hin1 (g := (mkF m 9 #[.val (.ref a0), .val (.long q1), .second, .val (.int p2)] [(.int (((q1 >>> (((4 : Int32) * p2) &&& 0x3f).toInt64).toInt32).toInt8.toInt32)), (.int p2), (.ref a0)])) rfl rfl (hb hby d1_9)
  have A2 := own_arr_set Ar1 Sz1 Hs1 W2
  have N2 := Fr.snoc X2 N0 gA
  have K2 : Keep h0 h2 [a0] := K0.wr W2 (Or.inl (List.mem_of_getElem? (i := 0) rfl))
  refine Go.st (fun _ k => st2 _ k) ?_
  show Go p e below _ (T2.setTop (mkF m 10 #[.val (.ref a0), .val (.long q1), .second, .val (.int p2)] []))
  obtain ⟨fs, hr, hrun, hended, hW, hsame⟩ := X2.leave (v := none) (fun _ => rfl)
  refine ⟨_, _, X2.returnOut hx Bd.returns (hb hby d1_10) hr, hrun, hended, _, _, rfl, ?_, ⟨_, rfl⟩, hW, hsame.mono (by decide) (by decide)⟩
  show Q_rmJunk Z a0 q1 p2 f h0 n0 _ T2.heap _
  rw [e2]
  exact ⟨rfl, N2, K2, _, A2⟩
theorem d3_0 : decode method_2_code 0 = .ok (.lload_n 0, 1) := by decide +kernel
theorem d3_1 : decode method_2_code 1 = .ok (.bipush 7, 2) := by decide +kernel
theorem d3_3 : decode method_2_code 3 = .ok (.iload_n 2, 1) := by decide +kernel
theorem d3_4 : decode method_2_code 4 = .ok (.imul, 1) := by decide +kernel
theorem d3_5 : decode method_2_code 5 = .ok (.lushr, 1) := by decide +kernel
theorem d3_6 : decode method_2_code 6 = .ok (.ldc2_w 7, 3) := by decide +kernel
theorem d3_9 : decode method_2_code 9 = .ok (.land, 1) := by decide +kernel
theorem d3_10 : decode method_2_code 10 = .ok (.lstore 4, 2) := by decide +kernel
theorem d3_12 : decode method_2_code 12 = .ok (.iload_n 2, 1) := by decide +kernel
theorem d3_13 : decode method_2_code 13 = .ok (.iload_n 3, 1) := by decide +kernel
theorem d3_14 : decode method_2_code 14 = .ok (.iconst 1, 1) := by decide +kernel
theorem d3_15 : decode method_2_code 15 = .ok (.isub, 1) := by decide +kernel
theorem d3_16 : decode method_2_code 16 = .ok (.if_icmp .ge 11, 3) := by decide +kernel
theorem d3_19 : decode method_2_code 19 = .ok (.lload 4, 2) := by decide +kernel
theorem d3_21 : decode method_2_code 21 = .ok (.ldc2_w 9, 3) := by decide +kernel
theorem d3_24 : decode method_2_code 24 = .ok (.lor, 1) := by decide +kernel
theorem d3_25 : decode method_2_code 25 = .ok (.lstore 4, 2) := by decide +kernel
theorem d3_27 : decode method_2_code 27 = .ok (.lload 4, 2) := by decide +kernel
theorem d3_29 : decode method_2_code 29 = .ok (.l2i, 1) := by decide +kernel
theorem d3_30 : decode method_2_code 30 = .ok (.i2b, 1) := by decide +kernel
theorem d3_31 : decode method_2_code 31 = .ok (.ireturn, 1) := by decide +kernel
theorem pn_3 : plainName "terselink/tlk/TermRecordsReadNumberPinLaw" = true := by first | (simp [plainName, overriddenIn]; done) | decide +kernel
theorem ef_rm3 (m : MethodId) (q0 : Int64) (p1 : Int32) (p2 : Int32) : entryFrame m #[(.long q0), (.int p1), (.int p2)] 6 = mkF m 0 #[.val (.long q0), .second, .val (.int p1), .val (.int p2), .unset, .unset] [] := by first | (simp [entryFrame, mkF, argsToLocals, Value.category]; done) | rfl
def fEnc (q0 : Int64) (p1 : Int32) (p2 : Int32) : Int32 := if p1 < (p2 - (1 : Int32)) then (nar .byte ((((((q0.toUInt64 >>> (((7 : Int32) * p1) &&& 0x3f).toInt64.toUInt64).toInt64) &&& (127 : Int64)) ||| (128 : Int64)).toInt32).toInt8.toInt32)) else (nar .byte (((((q0.toUInt64 >>> (((7 : Int32) * p1) &&& 0x3f).toInt64.toUInt64).toInt64) &&& (127 : Int64)).toInt32).toInt8.toInt32))
def Q_rm3 (Z : State) (q0 : Int64) (p1 : Int32) (p2 : Int32) (h0 : Heap) (n0 : Nat) (v : Option Value) (h : Heap) (L : List Loc) : Prop := v = some (.int (fEnc q0 p1 p2)) ∧ Fr n0 L ∧ h = h0
abbrev F_rm3 (Z : State) (q0 : Int64) (p1 : Int32) (p2 : Int32) (h0 : Heap) (n0 : Nat) (s : State) (o : Outcome) (U : State) : Prop := ∃ v L, o = .returned v ∧ Q_rm3 Z q0 p1 p2 h0 n0 v U.heap L ∧ FrameEnd s o U L 0 0
set_option maxRecDepth 65536 in
set_option maxHeartbeats 40000000 in
theorem rm3 (l : Launch) (Z : State) (aZ : Array Value) (hw : ∀ d ∈ tables_1, d.before aZ Z = true) (ws : List Jvm.Cond) (q0 : Int64) (p1 : Int32) (p2 : Int32) (h0 : Heap) (n0 : Nat) :
    MetFree l (⟨"terselink/tlk/TermRecordsReadNumberPinLaw", "enc", "(JII)B"⟩ : MethodName) (head1 (Jvm.Cond.code (⟨"terselink/tlk/TermRecordsReadNumberPinLaw", "enc", "(JII)B"⟩ : MethodName) method_2_code 6 (some .byte) :: ws) ({ frames := 0, cells := 0, slots := 0, locals := 0 } : Room)) (fun a U => a = #[(.long q0), (.int p1), (.int p2)] ∧ Z.Warmed39 U.vm ∧ U.heap = h0) (fun _ _ _ _ _ => True) (fun _ U o U' => ∃ v L, o = .returned v ∧ Q_rm3 Z q0 p1 p2 h0 n0 v U'.heap L ∧ FrameEnd U o U' L 0 0) := by
  refine MetFree.of_bodySF (plainFor_of_name pn_3) hisR ?_
  intro p e s m args below meth c s₁ Bd hml0 hP hK
  obtain ⟨rfl, hZ, hh⟩ := hP
  have hx := Bd.exec
  have hby := Bd.bytes
  have hml : c.maxLocals = 6 := hml0
  have hown : s.vm.findClass "terselink/tlk/TermRecordsReadNumberPinLaw" = some m.cls := findClass_of_methodNamed Bd.named
  have hnm := (name_of_methodNamed Bd.named Bd.method).1
  have X0 : Stand p l e ({ frames := 0, cells := 0, slots := 0, locals := 0 } : Room) s m #[(.long q0), (.int p1), (.int p2)] below meth c s₁ [] 0 0 := Stand.of_body Bd
  have e0 : s₁.heap = h0 := by rw [← hh, Bd.state]; rfl
  have N0 := Fr.nil n0
  refine Go.st (fun _ k => castTop (ef_rm3 m q0 p1 p2) k) ?_
  show Go p e below _ (s₁.setTop (mkF m 0 #[.val (.long q0), .second, .val (.int p1), .val (.int p2), .unset, .unset] []))
  refine Go.st (fun _ k => XS.lloadN X0.here hx rfl (hb hby d3_0) rfl k) ?_
  refine Go.st (fun _ k => XS.bipush X0.here hx rfl (hb hby d3_1) k) ?_
  show Go p e below _ (s₁.setTop (mkF m 3 #[.val (.long q0), .second, .val (.int p1), .val (.int p2), .unset, .unset] [(.int (7 : Int32)), (.long q0)]))
  refine Go.st (fun _ k => XS.iloadN X0.here hx rfl (hb hby d3_3) rfl k) ?_
  refine Go.st (fun _ k => XS.imul X0.here hx rfl (hb hby d3_4) rfl k) ?_
  show Go p e below _ (s₁.setTop (mkF m 5 #[.val (.long q0), .second, .val (.int p1), .val (.int p2), .unset, .unset] [(.int ((7 : Int32) * p1)), (.long q0)]))
  refine Go.st (fun _ k => XS.lushr X0.here hx rfl (hb hby d3_5) rfl k) ?_
  show Go p e below _ (s₁.setTop (mkF m 6 #[.val (.long q0), .second, .val (.int p1), .val (.int p2), .unset, .unset] [(.long ((q0.toUInt64 >>> (((7 : Int32) * p1) &&& 0x3f).toInt64.toUInt64).toInt64))]))
  refine Go.st (fun _ k => X0.ldc2Long hx hown (mvT hZ (hw _ (List.mem_of_getElem? (i := 12) rfl))) (g := (mkF m 6 #[.val (.long q0), .second, .val (.int p1), .val (.int p2), .unset, .unset] [(.long ((q0.toUInt64 >>> (((7 : Int32) * p1) &&& 0x3f).toInt64.toUInt64).toInt64))])) rfl (hb hby d3_6) _ k) ?_
  show Go p e below _ (s₁.setTop (mkF m 9 #[.val (.long q0), .second, .val (.int p1), .val (.int p2), .unset, .unset] [(.long (127 : Int64)), (.long ((q0.toUInt64 >>> (((7 : Int32) * p1) &&& 0x3f).toInt64.toUInt64).toInt64))]))
  refine Go.st (fun _ k => XS.land X0.here hx rfl (hb hby d3_9) rfl k) ?_
  refine Go.st (fun _ k => XS.lstore X0.here hx rfl (hb hby d3_10) rfl (l' := #[.val (.long q0), .second, .val (.int p1), .val (.int p2), .val (.long (((q0.toUInt64 >>> (((7 : Int32) * p1) &&& 0x3f).toInt64.toUInt64).toInt64) &&& (127 : Int64))), .second]) rfl k) ?_
  show Go p e below _ (s₁.setTop (mkF m 12 #[.val (.long q0), .second, .val (.int p1), .val (.int p2), .val (.long (((q0.toUInt64 >>> (((7 : Int32) * p1) &&& 0x3f).toInt64.toUInt64).toInt64) &&& (127 : Int64))), .second] []))
  refine Go.st (fun _ k => XS.iloadN X0.here hx rfl (hb hby d3_12) rfl k) ?_
  refine Go.st (fun _ k => XS.iloadN X0.here hx rfl (hb hby d3_13) rfl k) ?_
  show Go p e below _ (s₁.setTop (mkF m 14 #[.val (.long q0), .second, .val (.int p1), .val (.int p2), .val (.long (((q0.toUInt64 >>> (((7 : Int32) * p1) &&& 0x3f).toInt64.toUInt64).toInt64) &&& (127 : Int64))), .second] [(.int p2), (.int p1)]))
  refine Go.st (fun _ k => XS.iconst X0.here hx rfl (hb hby d3_14) k) ?_
  refine Go.st (fun _ k => XS.isub X0.here hx rfl (hb hby d3_15) rfl k) ?_
  show Go p e below _ (s₁.setTop (mkF m 16 #[.val (.long q0), .second, .val (.int p1), .val (.int p2), .val (.long (((q0.toUInt64 >>> (((7 : Int32) * p1) &&& 0x3f).toInt64.toUInt64).toInt64) &&& (127 : Int64))), .second] [(.int (p2 - (1 : Int32))), (.int p1)]))
  by_cases hc1 : p1 < (p2 - (1 : Int32))
  · show Go p e below _ (s₁.setTop (mkF m 16 #[.val (.long q0), .second, .val (.int p1), .val (.int p2), .val (.long (((q0.toUInt64 >>> (((7 : Int32) * p1) &&& 0x3f).toInt64.toUInt64).toInt64) &&& (127 : Int64))), .second] [(.int (p2 - (1 : Int32))), (.int p1)]))
    refine Go.st (fun _ k => XS.icmpNo X0.here hx rfl (hb hby d3_16) rfl (tlt hc1).2.1 k) ?_
    show Go p e below _ (s₁.setTop (mkF m 19 #[.val (.long q0), .second, .val (.int p1), .val (.int p2), .val (.long (((q0.toUInt64 >>> (((7 : Int32) * p1) &&& 0x3f).toInt64.toUInt64).toInt64) &&& (127 : Int64))), .second] []))
    refine Go.st (fun _ k => XS.lload X0.here hx rfl (hb hby d3_19) rfl k) ?_
    show Go p e below _ (s₁.setTop (mkF m 21 #[.val (.long q0), .second, .val (.int p1), .val (.int p2), .val (.long (((q0.toUInt64 >>> (((7 : Int32) * p1) &&& 0x3f).toInt64.toUInt64).toInt64) &&& (127 : Int64))), .second] [(.long (((q0.toUInt64 >>> (((7 : Int32) * p1) &&& 0x3f).toInt64.toUInt64).toInt64) &&& (127 : Int64)))]))
    refine Go.st (fun _ k => X0.ldc2Long hx hown (mvT hZ (hw _ (List.mem_of_getElem? (i := 13) rfl))) (g := (mkF m 21 #[.val (.long q0), .second, .val (.int p1), .val (.int p2), .val (.long (((q0.toUInt64 >>> (((7 : Int32) * p1) &&& 0x3f).toInt64.toUInt64).toInt64) &&& (127 : Int64))), .second] [(.long (((q0.toUInt64 >>> (((7 : Int32) * p1) &&& 0x3f).toInt64.toUInt64).toInt64) &&& (127 : Int64)))])) rfl (hb hby d3_21) _ k) ?_
    show Go p e below _ (s₁.setTop (mkF m 24 #[.val (.long q0), .second, .val (.int p1), .val (.int p2), .val (.long (((q0.toUInt64 >>> (((7 : Int32) * p1) &&& 0x3f).toInt64.toUInt64).toInt64) &&& (127 : Int64))), .second] [(.long (128 : Int64)), (.long (((q0.toUInt64 >>> (((7 : Int32) * p1) &&& 0x3f).toInt64.toUInt64).toInt64) &&& (127 : Int64)))]))
    refine Go.st (fun _ k => XS.lor X0.here hx rfl (hb hby d3_24) rfl k) ?_
    refine Go.st (fun _ k => XS.lstore X0.here hx rfl (hb hby d3_25) rfl (l' := #[.val (.long q0), .second, .val (.int p1), .val (.int p2), .val (.long ((((q0.toUInt64 >>> (((7 : Int32) * p1) &&& 0x3f).toInt64.toUInt64).toInt64) &&& (127 : Int64)) ||| (128 : Int64))), .second]) rfl k) ?_
    show Go p e below _ (s₁.setTop (mkF m 27 #[.val (.long q0), .second, .val (.int p1), .val (.int p2), .val (.long ((((q0.toUInt64 >>> (((7 : Int32) * p1) &&& 0x3f).toInt64.toUInt64).toInt64) &&& (127 : Int64)) ||| (128 : Int64))), .second] []))
    refine Go.st (fun _ k => XS.lload X0.here hx rfl (hb hby d3_27) rfl k) ?_
    refine Go.st (fun _ k => XS.l2i X0.here hx rfl (hb hby d3_29) rfl k) ?_
    show Go p e below _ (s₁.setTop (mkF m 30 #[.val (.long q0), .second, .val (.int p1), .val (.int p2), .val (.long ((((q0.toUInt64 >>> (((7 : Int32) * p1) &&& 0x3f).toInt64.toUInt64).toInt64) &&& (127 : Int64)) ||| (128 : Int64))), .second] [(.int (((((q0.toUInt64 >>> (((7 : Int32) * p1) &&& 0x3f).toInt64.toUInt64).toInt64) &&& (127 : Int64)) ||| (128 : Int64)).toInt32))]))
    refine Go.st (fun _ k => XS.i2b X0.here hx rfl (hb hby d3_30) rfl k) ?_
    show Go p e below _ (s₁.setTop (mkF m 31 #[.val (.long q0), .second, .val (.int p1), .val (.int p2), .val (.long ((((q0.toUInt64 >>> (((7 : Int32) * p1) &&& 0x3f).toInt64.toUInt64).toInt64) &&& (127 : Int64)) ||| (128 : Int64))), .second] [(.int ((((((q0.toUInt64 >>> (((7 : Int32) * p1) &&& 0x3f).toInt64.toUInt64).toInt64) &&& (127 : Int64)) ||| (128 : Int64)).toInt32).toInt8.toInt32))]))
    obtain ⟨fs, hr, hrun, hended, hW, hsame⟩ := X0.leave (v := some (.int (nar .byte ((((((q0.toUInt64 >>> (((7 : Int32) * p1) &&& 0x3f).toInt64.toUInt64).toInt64) &&& (127 : Int64)) ||| (128 : Int64)).toInt32).toInt8.toInt32)))) (fun h => by rw [Bd.returns] at h; cases h)
    refine ⟨_, _, retN X0 hx (t := .byte) Bd.returns (by simp) (hb hby d3_31) hr, hrun, hended, _, _, rfl, ?_, ⟨_, rfl⟩, hW, hsame.mono (by decide) (by decide)⟩
    show Q_rm3 Z q0 p1 p2 h0 n0 _ s₁.heap _
    rw [e0]
    refine ⟨?_, N0, rfl⟩
    unfold fEnc
    rw [if_pos hc1]
  · show Go p e below _ (s₁.setTop (mkF m 16 #[.val (.long q0), .second, .val (.int p1), .val (.int p2), .val (.long (((q0.toUInt64 >>> (((7 : Int32) * p1) &&& 0x3f).toInt64.toUInt64).toInt64) &&& (127 : Int64))), .second] [(.int (p2 - (1 : Int32))), (.int p1)]))
    refine Go.st (fun _ k => XS.icmpYes X0.here hx rfl (pc0 := 16) (pc' := 27) rfl (hb hby d3_16) rfl (flt hc1).2.1 (by decide) (by decide) k) ?_
    show Go p e below _ (s₁.setTop (mkF m 27 #[.val (.long q0), .second, .val (.int p1), .val (.int p2), .val (.long (((q0.toUInt64 >>> (((7 : Int32) * p1) &&& 0x3f).toInt64.toUInt64).toInt64) &&& (127 : Int64))), .second] []))
    refine Go.st (fun _ k => XS.lload X0.here hx rfl (hb hby d3_27) rfl k) ?_
    refine Go.st (fun _ k => XS.l2i X0.here hx rfl (hb hby d3_29) rfl k) ?_
    show Go p e below _ (s₁.setTop (mkF m 30 #[.val (.long q0), .second, .val (.int p1), .val (.int p2), .val (.long (((q0.toUInt64 >>> (((7 : Int32) * p1) &&& 0x3f).toInt64.toUInt64).toInt64) &&& (127 : Int64))), .second] [(.int ((((q0.toUInt64 >>> (((7 : Int32) * p1) &&& 0x3f).toInt64.toUInt64).toInt64) &&& (127 : Int64)).toInt32))]))
    refine Go.st (fun _ k => XS.i2b X0.here hx rfl (hb hby d3_30) rfl k) ?_
    show Go p e below _ (s₁.setTop (mkF m 31 #[.val (.long q0), .second, .val (.int p1), .val (.int p2), .val (.long (((q0.toUInt64 >>> (((7 : Int32) * p1) &&& 0x3f).toInt64.toUInt64).toInt64) &&& (127 : Int64))), .second] [(.int (((((q0.toUInt64 >>> (((7 : Int32) * p1) &&& 0x3f).toInt64.toUInt64).toInt64) &&& (127 : Int64)).toInt32).toInt8.toInt32))]))
    obtain ⟨fs, hr, hrun, hended, hW, hsame⟩ := X0.leave (v := some (.int (nar .byte (((((q0.toUInt64 >>> (((7 : Int32) * p1) &&& 0x3f).toInt64.toUInt64).toInt64) &&& (127 : Int64)).toInt32).toInt8.toInt32)))) (fun h => by rw [Bd.returns] at h; cases h)
    refine ⟨_, _, retN X0 hx (t := .byte) Bd.returns (by simp) (hb hby d3_31) hr, hrun, hended, _, _, rfl, ?_, ⟨_, rfl⟩, hW, hsame.mono (by decide) (by decide)⟩
    show Q_rm3 Z q0 p1 p2 h0 n0 _ s₁.heap _
    rw [e0]
    refine ⟨?_, N0, rfl⟩
    unfold fEnc
    rw [if_neg hc1]
def own_put (f : Nat → Int32) (p1 : Int32) (q2 : Int64) (p3 p4 : Int32) : Nat → Int32 := fun m => if p3 < p4 then (if m = (p1 + p3).toNatClampNeg then nar .byte (fEnc q2 p3 p4) else f m) else f m
theorem d2_0 : decode method_3_code 0 = .ok (.iload 4, 2) := by decide +kernel
theorem d2_2 : decode method_3_code 2 = .ok (.iload 5, 2) := by decide +kernel
theorem d2_4 : decode method_3_code 4 = .ok (.if_icmp .ge 17, 3) := by decide +kernel
theorem d2_7 : decode method_3_code 7 = .ok (.aload_n 0, 1) := by decide +kernel
theorem d2_8 : decode method_3_code 8 = .ok (.iload_n 1, 1) := by decide +kernel
theorem d2_9 : decode method_3_code 9 = .ok (.iload 4, 2) := by decide +kernel
theorem d2_11 : decode method_3_code 11 = .ok (.iadd, 1) := by decide +kernel
theorem d2_12 : decode method_3_code 12 = .ok (.lload_n 2, 1) := by decide +kernel
theorem d2_13 : decode method_3_code 13 = .ok (.iload 4, 2) := by decide +kernel
theorem d2_15 : decode method_3_code 15 = .ok (.iload 5, 2) := by decide +kernel
theorem d2_17 : decode method_3_code 17 = .ok (.invokestatic 11, 3) := by decide +kernel
theorem d2_20 : decode method_3_code 20 = .ok (.bastore, 1) := by decide +kernel
theorem d2_21 : decode method_3_code 21 = .ok (.return_, 1) := by decide +kernel
theorem pn_2 : plainName "terselink/tlk/TermRecordsReadNumberPinLaw" = true := by first | (simp [plainName, overriddenIn]; done) | decide +kernel
theorem pd697dd163 : parseMethodDescriptor "(JII)B" = some ⟨[.long, .int, .int], some .byte⟩ := by decide +kernel
theorem ef_rmPut (m : MethodId) (a0 : Addr) (p1 : Int32) (q2 : Int64) (p3 : Int32) (p4 : Int32) : entryFrame m #[(.ref a0), (.int p1), (.long q2), (.int p3), (.int p4)] 6 = mkF m 0 #[.val (.ref a0), .val (.int p1), .val (.long q2), .second, .val (.int p3), .val (.int p4)] [] := by first | (simp [entryFrame, mkF, argsToLocals, Value.category]; done) | rfl
def Q_rmPut (Z : State) (a0 : Addr) (p1 : Int32) (q2 : Int64) (p3 : Int32) (p4 : Int32) (f : Nat → Int32) (h0 : Heap) (n0 : Nat) (v : Option Value) (h : Heap) (L : List Loc) : Prop := v = none ∧ Fr n0 L ∧ Keep h0 h [a0] ∧ own_arr Z h a0 (own_put f p1 q2 p3 p4)
abbrev F_rmPut (Z : State) (a0 : Addr) (p1 : Int32) (q2 : Int64) (p3 : Int32) (p4 : Int32) (f : Nat → Int32) (h0 : Heap) (n0 : Nat) (s : State) (o : Outcome) (U : State) : Prop := ∃ v L, o = .returned v ∧ Q_rmPut Z a0 p1 q2 p3 p4 f h0 n0 v U.heap L ∧ FrameEnd s o U L 0 0
set_option maxRecDepth 65536 in
set_option maxHeartbeats 40000000 in
theorem rmPut (l : Launch) (Z : State) (aZ : Array Value) (hw : ∀ d ∈ tables_1, d.before aZ Z = true) (ws : List Jvm.Cond) (a0 : Addr) (p1 : Int32) (q2 : Int64) (p3 : Int32) (p4 : Int32) (f : Nat → Int32) (h0 : Heap) (n0 : Nat) (gA : n0 ≤ a0) (A : own_arr Z h0 a0 f) (hp : p3 < p4 → ¬ (p1 + p3) < 0 ∧ (p1 + p3).toNatClampNeg < 16) :
    MetFree l (⟨"terselink/tlk/TermRecordsReadNumberPinLaw", "put", "([BIJII)V"⟩ : MethodName) (head1 (Jvm.Cond.code (⟨"terselink/tlk/TermRecordsReadNumberPinLaw", "put", "([BIJII)V"⟩ : MethodName) method_3_code 6 none :: ws) ({ frames := 1, cells := 0, slots := 0, locals := 19 } : Room)) (fun a U => a = #[(.ref a0), (.int p1), (.long q2), (.int p3), (.int p4)] ∧ Z.Warmed39 U.vm ∧ U.heap = h0) (fun _ _ _ _ _ => True) (fun _ U o U' => ∃ v L, o = .returned v ∧ Q_rmPut Z a0 p1 q2 p3 p4 f h0 n0 v U'.heap L ∧ FrameEnd U o U' L 0 0) := by
  refine MetFree.of_bodySF (plainFor_of_name pn_2) hisR ?_
  intro p e s m args below meth c s₁ Bd hml0 hP hK
  obtain ⟨rfl, hZ, hh⟩ := hP
  have hx := Bd.exec
  have hby := Bd.bytes
  have hml : c.maxLocals = 6 := hml0
  have hown : s.vm.findClass "terselink/tlk/TermRecordsReadNumberPinLaw" = some m.cls := findClass_of_methodNamed Bd.named
  have hnm := (name_of_methodNamed Bd.named Bd.method).1
  have X0 : Stand p l e ({ frames := 1, cells := 0, slots := 0, locals := 19 } : Room) s m #[(.ref a0), (.int p1), (.long q2), (.int p3), (.int p4)] below meth c s₁ [] 0 0 := Stand.of_body Bd
  have e0 : s₁.heap = h0 := by rw [← hh, Bd.state]; rfl
  have N0 := Fr.nil n0
  refine Go.st (fun _ k => castTop (ef_rmPut m a0 p1 q2 p3 p4) k) ?_
  have K0 : Keep h0 h0 [a0] := Keep.refl h0 _
  show Go p e below _ (s₁.setTop (mkF m 0 #[.val (.ref a0), .val (.int p1), .val (.long q2), .second, .val (.int p3), .val (.int p4)] []))
  refine Go.st (fun _ k => XS.iload X0.here hx rfl (hb hby d2_0) rfl k) ?_
  refine Go.st (fun _ k => XS.iload X0.here hx rfl (hb hby d2_2) rfl k) ?_
  show Go p e below _ (s₁.setTop (mkF m 4 #[.val (.ref a0), .val (.int p1), .val (.long q2), .second, .val (.int p3), .val (.int p4)] [(.int p4), (.int p3)]))
  by_cases hc1 : p3 < p4
  · show Go p e below _ (s₁.setTop (mkF m 4 #[.val (.ref a0), .val (.int p1), .val (.long q2), .second, .val (.int p3), .val (.int p4)] [(.int p4), (.int p3)]))
    refine Go.st (fun _ k => XS.icmpNo X0.here hx rfl (hb hby d2_4) rfl (tlt hc1).2.1 k) ?_
    show Go p e below _ (s₁.setTop (mkF m 7 #[.val (.ref a0), .val (.int p1), .val (.long q2), .second, .val (.int p3), .val (.int p4)] []))
    refine Go.st (fun _ k => XS.aloadN X0.here hx rfl (hb hby d2_7) rfl rfl k) ?_
    refine Go.st (fun _ k => XS.iloadN X0.here hx rfl (hb hby d2_8) rfl k) ?_
    show Go p e below _ (s₁.setTop (mkF m 9 #[.val (.ref a0), .val (.int p1), .val (.long q2), .second, .val (.int p3), .val (.int p4)] [(.int p1), (.ref a0)]))
    refine Go.st (fun _ k => XS.iload X0.here hx rfl (hb hby d2_9) rfl k) ?_
    refine Go.st (fun _ k => XS.iadd X0.here hx rfl (hb hby d2_11) rfl k) ?_
    show Go p e below _ (s₁.setTop (mkF m 12 #[.val (.ref a0), .val (.int p1), .val (.long q2), .second, .val (.int p3), .val (.int p4)] [(.int (p1 + p3)), (.ref a0)]))
    refine Go.st (fun _ k => XS.lloadN X0.here hx rfl (hb hby d2_12) rfl k) ?_
    refine Go.st (fun _ k => XS.iload X0.here hx rfl (hb hby d2_13) rfl k) ?_
    show Go p e below _ (s₁.setTop (mkF m 15 #[.val (.ref a0), .val (.int p1), .val (.long q2), .second, .val (.int p3), .val (.int p4)] [(.int p3), (.long q2), (.int (p1 + p3)), (.ref a0)]))
    refine Go.st (fun _ k => XS.iload X0.here hx rfl (hb hby d2_15) rfl k) ?_
    show Go p e below _ (s₁.setTop (mkF m 17 #[.val (.ref a0), .val (.int p1), .val (.long q2), .second, .val (.int p3), .val (.int p4)] [(.int p4), (.int p3), (.long q2), (.int (p1 + p3)), (.ref a0)]))
    obtain ⟨_, _, ⟨T2, L2, k2, n2⟩, -, X2, ⟨Lc2, hQ2, l2, y2, z2⟩, st2⟩ := Jvm.LawKit.callS X0 hx (y := (⟨"terselink/tlk/TermRecordsReadNumberPinLaw", "enc", "(JII)B"⟩ : MethodName)) hown (mvT hZ (hw _ (List.mem_of_getElem? (i := 9) rfl))) (mvT hZ (hw _ (List.mem_of_getElem? (i := 10) rfl))) (mvT hZ (hw _ (List.mem_of_getElem? (i := 4) rfl))) (mvT hZ (hw _ (List.mem_of_getElem? (i := 11) rfl))) (by decide) (backOf (W := 2) (rm3 l Z aZ hw [] q2 p3 p4 h0 n0 ) hZ (hw _ (List.mem_of_getElem? (i := 11) rfl)) (hw _ (List.mem_of_getElem? (i := 4) rfl)) (by decide) (by decide)) (g := (mkF m 17 #[.val (.ref a0), .val (.int p1), .val (.long q2), .second, .val (.int p3), .val (.int p4)] [(.int p4), (.int p3), (.long q2), (.int (p1 + p3)), (.ref a0)])) rfl (by rw [hml]; rfl) (argsL := [(.long q2), (.int p3), (.int p4)]) (rest := [(.int (p1 + p3)), (.ref a0)]) (lenOf pd697dd163 rfl) rfl (by show 2 * 0 + _ ≤ _; exact Nat.le_of_eq rfl) (hb hby d2_17) (fun _ _ => ⟨rfl, e0, (by decide : 0 + 0 ≤ _), (by decide : 0 + 0 ≤ _)⟩)
    dsimp only [Pt.U, Pt.locs, Pt.cells, Pt.slots] at X2 l2 y2 z2 st2 hQ2
    subst l2 y2 z2
    obtain ⟨rfl, N2q, e2⟩ := hQ2
    have N2 := Fr.app N0 N2q
    refine Go.st (fun _ k => st2 _ k) ?_
    show Go p e below _ (T2.setTop (mkF m 20 #[.val (.ref a0), .val (.int p1), .val (.long q2), .second, .val (.int p3), .val (.int p4)] [(.int (fEnc q2 p3 p4)), (.int (p1 + p3)), (.ref a0)]))
    obtain ⟨cl3, Ar3, Sz3, Hs3⟩ := id A
    have hin3 : ¬ ((p1 + p3) < 0 ∨ cl3.slots.size ≤ ((p1 + p3)).toNatClampNeg) := own_hin (hp hc1).1 (hp hc1).2 Sz3
    obtain ⟨T4, h4, X4, e4, W4, st4⟩ := stB X2 hx hZ e2 Ar3 (j := (p1 + p3)) hin3 (g := (mkF m 20 #[.val (.ref a0), .val (.int p1), .val (.long q2), .second, .val (.int p3), .val (.int p4)] [(.int (fEnc q2 p3 p4)), (.int (p1 + p3)), (.ref a0)])) rfl rfl (hb hby d2_20)
    have A4 := own_arr_set Ar3 Sz3 Hs3 W4
    have N4 := Fr.snoc X4 N2 gA
    have K4 : Keep h0 h4 [a0] := K0.wr W4 (Or.inl (List.mem_of_getElem? (i := 0) rfl))
    refine Go.st (fun _ k => st4 _ k) ?_
    show Go p e below _ (T4.setTop (mkF m 21 #[.val (.ref a0), .val (.int p1), .val (.long q2), .second, .val (.int p3), .val (.int p4)] []))
    obtain ⟨fs, hr, hrun, hended, hW, hsame⟩ := X4.leave (v := none) (fun _ => rfl)
    refine ⟨_, _, X4.returnOut hx Bd.returns (hb hby d2_21) hr, hrun, hended, _, _, rfl, ?_, ⟨_, rfl⟩, hW, hsame.mono (by decide) (by decide)⟩
    show Q_rmPut Z a0 p1 q2 p3 p4 f h0 n0 _ T4.heap _
    rw [e4]
    exact ⟨rfl, N4, K4, own_arr_congr A4 (fun m => by show _ = (if p3 < p4 then _ else _); rw [if_pos hc1])⟩
  · show Go p e below _ (s₁.setTop (mkF m 4 #[.val (.ref a0), .val (.int p1), .val (.long q2), .second, .val (.int p3), .val (.int p4)] [(.int p4), (.int p3)]))
    refine Go.st (fun _ k => XS.icmpYes X0.here hx rfl (pc0 := 4) (pc' := 21) rfl (hb hby d2_4) rfl (flt hc1).2.1 (by decide) (by decide) k) ?_
    show Go p e below _ (s₁.setTop (mkF m 21 #[.val (.ref a0), .val (.int p1), .val (.long q2), .second, .val (.int p3), .val (.int p4)] []))
    obtain ⟨fs, hr, hrun, hended, hW, hsame⟩ := X0.leave (v := none) (fun _ => rfl)
    refine ⟨_, _, X0.returnOut hx Bd.returns (hb hby d2_21) hr, hrun, hended, _, _, rfl, ?_, ⟨_, rfl⟩, hW, hsame.mono (by decide) (by decide)⟩
    show Q_rmPut Z a0 p1 q2 p3 p4 f h0 n0 _ s₁.heap _
    rw [e0]
    exact ⟨rfl, N0, K0, own_arr_congr A (fun m => by show _ = (if p3 < p4 then _ else _); rw [if_neg hc1])⟩
theorem d4_0 : decode prog_68_method_1_code 0 = .ok (.aload_n 0, 1) := by decide +kernel
theorem d4_1 : decode prog_68_method_1_code 1 = .ok (.invokespecial 1, 3) := by decide +kernel
theorem d4_4 : decode prog_68_method_1_code 4 = .ok (.return_, 1) := by decide +kernel
theorem pn_4 : plainName "terselink/tlk/TermRecords" = true := by first | (simp [plainName, overriddenIn]; done) | decide +kernel
theorem ef_rmInit (m : MethodId) (a0 : Addr) : entryFrame m #[(.ref a0)] 1 = mkF m 0 #[.val (.ref a0)] [] := by first | (simp [entryFrame, mkF, argsToLocals, Value.category]; done) | rfl
def Q_rmInit (Z : State) (a0 : Addr) (h0 : Heap) (n0 : Nat) (v : Option Value) (h : Heap) (L : List Loc) : Prop := v = none ∧ Fr n0 L ∧ h = h0
abbrev F_rmInit (Z : State) (a0 : Addr) (h0 : Heap) (n0 : Nat) (s : State) (o : Outcome) (U : State) : Prop := ∃ v L, o = .returned v ∧ Q_rmInit Z a0 h0 n0 v U.heap L ∧ FrameEnd s o U L 0 0
set_option maxRecDepth 65536 in
set_option maxHeartbeats 40000000 in
theorem rmInit (l : Launch) (Z : State) (aZ : Array Value) (hw : ∀ d ∈ tables_1, d.before aZ Z = true) (ws : List Jvm.Cond) (a0 : Addr) (h0 : Heap) (n0 : Nat) :
    MetFree l (⟨"terselink/tlk/TermRecords", "<init>", "()V"⟩ : MethodName) (head1 (Jvm.Cond.code (⟨"terselink/tlk/TermRecords", "<init>", "()V"⟩ : MethodName) prog_68_method_1_code 1 none :: ws) ({ frames := 1, cells := 0, slots := 0, locals := 12 } : Room)) (fun a U => a = #[(.ref a0)] ∧ Z.Warmed39 U.vm ∧ U.heap = h0) (fun _ _ _ _ _ => True) (fun _ U o U' => ∃ v L, o = .returned v ∧ Q_rmInit Z a0 h0 n0 v U'.heap L ∧ FrameEnd U o U' L 0 0) := by
  refine MetFree.of_bodySF (plainFor_of_name pn_4) hisR ?_
  intro p e s m args below meth c s₁ Bd hml0 hP hK
  obtain ⟨rfl, hZ, hh⟩ := hP
  have hx := Bd.exec
  have hby := Bd.bytes
  have hml : c.maxLocals = 1 := hml0
  have hown : s.vm.findClass "terselink/tlk/TermRecords" = some m.cls := findClass_of_methodNamed Bd.named
  have hnm := (name_of_methodNamed Bd.named Bd.method).1
  have X0 : Stand p l e ({ frames := 1, cells := 0, slots := 0, locals := 12 } : Room) s m #[(.ref a0)] below meth c s₁ [] 0 0 := Stand.of_body Bd
  have e0 : s₁.heap = h0 := by rw [← hh, Bd.state]; rfl
  have N0 := Fr.nil n0
  refine Go.st (fun _ k => castTop (ef_rmInit m a0) k) ?_
  show Go p e below _ (s₁.setTop (mkF m 0 #[.val (.ref a0)] []))
  refine Go.st (fun _ k => XS.aloadN X0.here hx rfl (hb hby d4_0) rfl rfl k) ?_
  show Go p e below _ (s₁.setTop (mkF m 1 #[.val (.ref a0)] [(.ref a0)]))
  obtain ⟨T1, X1, e1, st1⟩ := initO X0 hx hZ hown (hw _ (List.mem_of_getElem? (i := 20) rfl)) (hw _ (List.mem_of_getElem? (i := 21) rfl)) (hw _ (List.mem_of_getElem? (i := 22) rfl)) e0 (g := (mkF m 1 #[.val (.ref a0)] [(.ref a0)])) rfl (by rw [hml]; rfl) rfl (hb hby d4_1) (by decide) (W := 0) (by show 2 * 0 + _ ≤ _; exact Nat.le_of_eq rfl) (by decide)
  refine Go.st (fun _ k => st1 _ k) ?_
  show Go p e below _ (T1.setTop (mkF m 4 #[.val (.ref a0)] []))
  obtain ⟨fs, hr, hrun, hended, hW, hsame⟩ := X1.leave (v := none) (fun _ => rfl)
  refine ⟨_, _, X1.returnOut hx Bd.returns (hb hby d4_4) hr, hrun, hended, _, _, rfl, ?_, ⟨_, rfl⟩, hW, hsame.mono (by decide) (by decide)⟩
  show Q_rmInit Z a0 h0 n0 _ T1.heap _
  rw [e1]
  refine ⟨?_, N0, rfl⟩
  rfl
theorem d6_0 : decode prog_68_method_3_code 0 = .ok (.aload_n 0, 1) := by decide +kernel
theorem d6_1 : decode prog_68_method_3_code 1 = .ok (.aload_n 1, 1) := by decide +kernel
theorem d6_2 : decode prog_68_method_3_code 2 = .ok (.putfield 25, 3) := by decide +kernel
theorem d6_5 : decode prog_68_method_3_code 5 = .ok (.aload_n 0, 1) := by decide +kernel
theorem d6_6 : decode prog_68_method_3_code 6 = .ok (.iload_n 2, 1) := by decide +kernel
theorem d6_7 : decode prog_68_method_3_code 7 = .ok (.putfield 29, 3) := by decide +kernel
theorem d6_10 : decode prog_68_method_3_code 10 = .ok (.return_, 1) := by decide +kernel
theorem pn_6 : plainName "terselink/tlk/TermRecords" = true := by first | (simp [plainName, overriddenIn]; done) | decide +kernel
theorem ef_rmMove (m : MethodId) (a0 : Addr) (a1 : Addr) (p2 : Int32) : entryFrame m #[(.ref a0), (.ref a1), (.int p2)] 3 = mkF m 0 #[.val (.ref a0), .val (.ref a1), .val (.int p2)] [] := by first | (simp [entryFrame, mkF, argsToLocals, Value.category]; done) | rfl
def Q_rmMove (Z : State) (a0 : Addr) (a1 : Addr) (p2 : Int32) (h0 : Heap) (n0 : Nat) (v : Option Value) (h : Heap) (L : List Loc) : Prop := v = none ∧ Fr n0 L ∧ Keep h0 h [a0] ∧ Exa Z h a0 "terselink/tlk/TermRecords" ∧ Fld Z h a0 "terselink/tlk/TermRecords" "array" "[B" (.ref a1) ∧ Fld Z h a0 "terselink/tlk/TermRecords" "at" "I" (.int p2)
abbrev F_rmMove (Z : State) (a0 : Addr) (a1 : Addr) (p2 : Int32) (h0 : Heap) (n0 : Nat) (s : State) (o : Outcome) (U : State) : Prop := ∃ v L, o = .returned v ∧ Q_rmMove Z a0 a1 p2 h0 n0 v U.heap L ∧ FrameEnd s o U L 0 0
set_option maxRecDepth 65536 in
set_option maxHeartbeats 40000000 in
theorem rmMove (l : Launch) (Z : State) (aZ : Array Value) (hw : ∀ d ∈ tables_1, d.before aZ Z = true) (ws : List Jvm.Cond) (a0 : Addr) (a1 : Addr) (p2 : Int32) (h0 : Heap) (n0 : Nat) (Z0 : n0 ≤ h0.size) (gA : n0 ≤ a0) (EA : Exa Z h0 a0 "terselink/tlk/TermRecords") (FA0 : Fld Z h0 a0 "terselink/tlk/TermRecords" "array" "[B" .null) (FA1 : Fld Z h0 a0 "terselink/tlk/TermRecords" "at" "I" (.int (0 : Int32))) :
    MetFree l (⟨"terselink/tlk/TermRecords", "moveTo", "([BI)V"⟩ : MethodName) (head1 (Jvm.Cond.code (⟨"terselink/tlk/TermRecords", "moveTo", "([BI)V"⟩ : MethodName) prog_68_method_3_code 3 none :: ws) ({ frames := 0, cells := 0, slots := 0, locals := 0 } : Room)) (fun a U => a = #[(.ref a0), (.ref a1), (.int p2)] ∧ Z.Warmed39 U.vm ∧ U.heap = h0) (fun _ _ _ _ _ => True) (fun _ U o U' => ∃ v L, o = .returned v ∧ Q_rmMove Z a0 a1 p2 h0 n0 v U'.heap L ∧ FrameEnd U o U' L 0 0) := by
  refine MetFree.of_bodySF (plainFor_of_name pn_6) hisR ?_
  intro p e s m args below meth c s₁ Bd hml0 hP hK
  obtain ⟨rfl, hZ, hh⟩ := hP
  have hx := Bd.exec
  have hby := Bd.bytes
  have hml : c.maxLocals = 3 := hml0
  have hown : s.vm.findClass "terselink/tlk/TermRecords" = some m.cls := findClass_of_methodNamed Bd.named
  have hnm := (name_of_methodNamed Bd.named Bd.method).1
  have X0 : Stand p l e ({ frames := 0, cells := 0, slots := 0, locals := 0 } : Room) s m #[(.ref a0), (.ref a1), (.int p2)] below meth c s₁ [] 0 0 := Stand.of_body Bd
  have e0 : s₁.heap = h0 := by rw [← hh, Bd.state]; rfl
  have N0 := Fr.nil n0
  refine Go.st (fun _ k => castTop (ef_rmMove m a0 a1 p2) k) ?_
  have K0 : Keep h0 h0 [a0] := Keep.refl h0 _
  show Go p e below _ (s₁.setTop (mkF m 0 #[.val (.ref a0), .val (.ref a1), .val (.int p2)] []))
  refine Go.st (fun _ k => XS.aloadN X0.here hx rfl (hb hby d6_0) rfl rfl k) ?_
  refine Go.st (fun _ k => XS.aloadN X0.here hx rfl (hb hby d6_1) rfl rfl k) ?_
  show Go p e below _ (s₁.setTop (mkF m 2 #[.val (.ref a0), .val (.ref a1), .val (.int p2)] [(.ref a1), (.ref a0)]))
  obtain ⟨T1, h1, X1, e1, W1, st1⟩ := putF X0 hx hZ hown (host := "") (Or.inl (hw _ (List.mem_of_getElem? (i := 28) rfl))) Via.refl e0 FA0 EA (Or.inl (hw _ (List.mem_of_getElem? (i := 29) rfl))) (hw _ (List.mem_of_getElem? (i := 15) rfl)) (ty := (.array .byte)) (by decide) rfl rfl (g := (mkF m 2 #[.val (.ref a0), .val (.ref a1), .val (.int p2)] [(.ref a1), (.ref a0)])) rfl rfl (hb hby d6_2)
  have F1_E_a0 := EA.wr W1
  have F1_F_a0_at := FA1.other W1 (Or.inr (slot_ne (Or.inl (hw _ (List.mem_of_getElem? (i := 31) rfl))) (Or.inl (hw _ (List.mem_of_getElem? (i := 29) rfl))) (by decide) (t := .int) (t' := (.array .byte)) (by decide) (by decide)))
  have Fw1 := FA0.same W1
  have N1 := Fr.snoc X1 N0 gA
  have K1 : Keep h0 h1 [a0] := K0.wr W1 (Or.inl (List.mem_of_getElem? (i := 0) rfl))
  have Z1 : n0 ≤ h1.size := by rw [W1.size]; exact Z0
  refine Go.st (fun _ k => st1 _ k) ?_
  show Go p e below _ (T1.setTop (mkF m 5 #[.val (.ref a0), .val (.ref a1), .val (.int p2)] []))
  refine Go.st (fun _ k => XS.aloadN X1.here hx rfl (hb hby d6_5) rfl rfl k) ?_
  refine Go.st (fun _ k => XS.iloadN X1.here hx rfl (hb hby d6_6) rfl k) ?_
  show Go p e below _ (T1.setTop (mkF m 7 #[.val (.ref a0), .val (.ref a1), .val (.int p2)] [(.int p2), (.ref a0)]))
  obtain ⟨T2, h2, X2, e2, W2, st2⟩ := putF X1 hx hZ hown (host := "") (Or.inl (hw _ (List.mem_of_getElem? (i := 30) rfl))) Via.refl e1 F1_F_a0_at F1_E_a0 (Or.inl (hw _ (List.mem_of_getElem? (i := 31) rfl))) (hw _ (List.mem_of_getElem? (i := 15) rfl)) (ty := .int) (by decide) rfl rfl (g := (mkF m 7 #[.val (.ref a0), .val (.ref a1), .val (.int p2)] [(.int p2), (.ref a0)])) rfl rfl (hb hby d6_7)
  have F2_E_a0 := F1_E_a0.wr W2
  have F2_F_a0_array := Fw1.other W2 (Or.inr (slot_ne (Or.inl (hw _ (List.mem_of_getElem? (i := 29) rfl))) (Or.inl (hw _ (List.mem_of_getElem? (i := 31) rfl))) (by decide) (t := (.array .byte)) (t' := .int) (by decide) (by decide)))
  have Fw2 := F1_F_a0_at.same W2
  have N2 := Fr.snoc X2 N1 gA
  have K2 : Keep h0 h2 [a0] := K1.wr W2 (Or.inl (List.mem_of_getElem? (i := 0) rfl))
  have Z2 : n0 ≤ h2.size := by rw [W2.size]; exact Z1
  refine Go.st (fun _ k => st2 _ k) ?_
  show Go p e below _ (T2.setTop (mkF m 10 #[.val (.ref a0), .val (.ref a1), .val (.int p2)] []))
  obtain ⟨fs, hr, hrun, hended, hW, hsame⟩ := X2.leave (v := none) (fun _ => rfl)
  refine ⟨_, _, X2.returnOut hx Bd.returns (hb hby d6_10) hr, hrun, hended, _, _, rfl, ?_, ⟨_, rfl⟩, hW, hsame.mono (by decide) (by decide)⟩
  show Q_rmMove Z a0 a1 p2 h0 n0 _ T2.heap _
  rw [e2]
  exact ⟨rfl, N2, K2, F2_E_a0, F2_F_a0_array, Fw2⟩
theorem d8_0 : decode prog_68_method_4_code 0 = .ok (.aload_n 0, 1) := by decide +kernel
theorem d8_1 : decode prog_68_method_4_code 1 = .ok (.getfield 29, 3) := by decide +kernel
theorem d8_4 : decode prog_68_method_4_code 4 = .ok (.ireturn, 1) := by decide +kernel
theorem pn_8 : plainName "terselink/tlk/TermRecords" = true := by first | (simp [plainName, overriddenIn]; done) | decide +kernel
theorem ef_rmPos (m : MethodId) (a0 : Addr) : entryFrame m #[(.ref a0)] 1 = mkF m 0 #[.val (.ref a0)] [] := by first | (simp [entryFrame, mkF, argsToLocals, Value.category]; done) | rfl
def fPos (u0 : Int32) : Int32 := u0
def Q_rmPos (Z : State) (a0 : Addr) (u0 : Int32) (h0 : Heap) (n0 : Nat) (v : Option Value) (h : Heap) (L : List Loc) : Prop := v = some (.int (fPos u0)) ∧ Fr n0 L ∧ h = h0
abbrev F_rmPos (Z : State) (a0 : Addr) (u0 : Int32) (h0 : Heap) (n0 : Nat) (s : State) (o : Outcome) (U : State) : Prop := ∃ v L, o = .returned v ∧ Q_rmPos Z a0 u0 h0 n0 v U.heap L ∧ FrameEnd s o U L 0 0
set_option maxRecDepth 65536 in
set_option maxHeartbeats 40000000 in
theorem rmPos (l : Launch) (Z : State) (aZ : Array Value) (hw : ∀ d ∈ tables_1, d.before aZ Z = true) (ws : List Jvm.Cond) (a0 : Addr) (u0 : Int32) (h0 : Heap) (n0 : Nat) (F_u0 : Fld Z h0 a0 "terselink/tlk/TermRecords" "at" "I" (.int u0)) :
    MetFree l (⟨"terselink/tlk/TermRecords", "position", "()I"⟩ : MethodName) (head1 (Jvm.Cond.code (⟨"terselink/tlk/TermRecords", "position", "()I"⟩ : MethodName) prog_68_method_4_code 1 (some .int) :: ws) ({ frames := 0, cells := 0, slots := 0, locals := 0 } : Room)) (fun a U => a = #[(.ref a0)] ∧ Z.Warmed39 U.vm ∧ U.heap = h0) (fun _ _ _ _ _ => True) (fun _ U o U' => ∃ v L, o = .returned v ∧ Q_rmPos Z a0 u0 h0 n0 v U'.heap L ∧ FrameEnd U o U' L 0 0) := by
  refine MetFree.of_bodySF (plainFor_of_name pn_8) hisR ?_
  intro p e s m args below meth c s₁ Bd hml0 hP hK
  obtain ⟨rfl, hZ, hh⟩ := hP
  have hx := Bd.exec
  have hby := Bd.bytes
  have hml : c.maxLocals = 1 := hml0
  have hown : s.vm.findClass "terselink/tlk/TermRecords" = some m.cls := findClass_of_methodNamed Bd.named
  have hnm := (name_of_methodNamed Bd.named Bd.method).1
  have X0 : Stand p l e ({ frames := 0, cells := 0, slots := 0, locals := 0 } : Room) s m #[(.ref a0)] below meth c s₁ [] 0 0 := Stand.of_body Bd
  have e0 : s₁.heap = h0 := by rw [← hh, Bd.state]; rfl
  have N0 := Fr.nil n0
  refine Go.st (fun _ k => castTop (ef_rmPos m a0) k) ?_
  show Go p e below _ (s₁.setTop (mkF m 0 #[.val (.ref a0)] []))
  refine Go.st (fun _ k => XS.aloadN X0.here hx rfl (hb hby d8_0) rfl rfl k) ?_
  show Go p e below _ (s₁.setTop (mkF m 1 #[.val (.ref a0)] [(.ref a0)]))
  obtain ⟨T1, X1, e1, st1⟩ := getF X0 hx hZ hown (host := "") (Or.inl (hw _ (List.mem_of_getElem? (i := 30) rfl))) Via.refl e0 F_u0 (g := (mkF m 1 #[.val (.ref a0)] [(.ref a0)])) rfl rfl (hb hby d8_1)
  refine Go.st (fun _ k => st1 _ k) ?_
  show Go p e below _ (T1.setTop (mkF m 4 #[.val (.ref a0)] [(.int u0)]))
  obtain ⟨fs, hr, hrun, hended, hW, hsame⟩ := X1.leave (v := some (.int u0)) (fun h => by rw [Bd.returns] at h; cases h)
  refine ⟨_, _, retI X1 hx Bd.returns (hb hby d8_4) hr, hrun, hended, _, _, rfl, ?_, ⟨_, rfl⟩, hW, hsame.mono (by decide) (by decide)⟩
  show Q_rmPos Z a0 u0 h0 n0 _ T1.heap _
  rw [e1]
  refine ⟨?_, N0, rfl⟩
  unfold fPos
  rfl
def own_acc (f : Nat → Int32) (p : Nat) : Nat → Int64
  | 0 => 0
  | i + 1 => own_acc f p i ||| ((((f (p + i)) &&& (127 : Int32)).toInt64) <<< ((Int32.ofNat (7 * i)) &&& 0x3f).toInt64)
theorem own_lt {f : Nat → Int32} {m0 i : Nat} {t at0 : Int32} (hpos : ¬ f (at0.toNatClampNeg + (m0 - 1)) < 0) (hpn : t.toNatClampNeg = at0.toNatClampNeg + i) (hi : i < m0) (h : f t.toNatClampNeg < 0) : i + 1 < m0 := by
  rcases Nat.lt_or_eq_of_le hi with h1 | h1
  · exact h1
  · exfalso
    apply hpos
    have e : m0 - 1 = i := by omega
    rw [e, ← hpn]
    exact h
theorem own_last {f : Nat → Int32} {m0 i : Nat} {t at0 : Int32} (hneg : ∀ i, i + 1 < m0 → f (at0.toNatClampNeg + i) < 0) (hpn : t.toNatClampNeg = at0.toNatClampNeg + i) (hi : i < m0) (h : ¬ f t.toNatClampNeg < 0) : i + 1 = m0 := by
  rcases Nat.lt_or_eq_of_le hi with h1 | h1
  · exact absurd (hpn ▸ hneg i h1) h
  · exact h1
theorem own_t1 {at0 t : Int32} {m0 i : Nat} (h0at : 0 ≤ at0.toInt) (hm2 : at0.toInt + m0 ≤ 16) (hi : i < m0) (ht : t.toInt = at0.toInt + i) : (t + (1 : Int32)).toInt = at0.toInt + ((i + 1 : Nat) : Int) := by
  have c : (1 : Int32).toInt = 1 := by decide
  rw [Jvm.Kit.i32_add (by omega) (by omega), c]
  omega
theorem own_t2 {sh : Int32} {i : Nat} (hsh : sh = Int32.ofNat (7 * i)) : sh + (7 : Int32) = Int32.ofNat (7 * (i + 1)) := by
  rw [hsh, Nat.mul_add, Int32.ofNat_add]
  rfl
theorem own_t3 {f : Nat → Int32} {acc : Int64} {sh t at0 : Int32} {i : Nat} (hacc : acc = own_acc f at0.toNatClampNeg i) (hsh : sh = Int32.ofNat (7 * i)) (hpn : t.toNatClampNeg = at0.toNatClampNeg + i) :
    (acc ||| ((((f t.toNatClampNeg) &&& (127 : Int32)).toInt64) <<< (sh &&& 0x3f).toInt64)) = own_acc f at0.toNatClampNeg (i + 1) := by
  rw [hacc, hsh, hpn]
  rfl
theorem own_tn {at0 t : Int32} {m0 i : Nat} (h0at : 0 ≤ at0.toInt) (hm2 : at0.toInt + m0 ≤ 16) (hi : i < m0) (ht : t.toInt = at0.toInt + i) : t.toNatClampNeg = at0.toNatClampNeg + i := by
  show t.toInt.toNat = at0.toInt.toNat + i
  omega
theorem own_tp {at0 t : Int32} {i : Nat} (h0at : 0 ≤ at0.toInt) (ht : t.toInt = at0.toInt + i) : ¬ t < 0 := by
  have c : (0 : Int32).toInt = 0 := by decide
  rw [Int32.lt_iff_toInt_lt, c]
  omega
theorem own_tl {at0 t : Int32} {m0 i : Nat} (h0at : 0 ≤ at0.toInt) (hm2 : at0.toInt + m0 ≤ 16) (hi : i < m0) (ht : t.toInt = at0.toInt + i) : t.toNatClampNeg < 16 := by
  show t.toInt.toNat < 16
  omega
theorem own_r1 {f : Nat → Int32} {acc : Int64} {sh t at0 : Int32} {i m0 : Nat} (hacc : acc = own_acc f at0.toNatClampNeg i) (hsh : sh = Int32.ofNat (7 * i)) (hpn : t.toNatClampNeg = at0.toNatClampNeg + i) (him : i + 1 = m0) :
    some (Value.long (acc ||| ((((f t.toNatClampNeg) &&& (127 : Int32)).toInt64) <<< (sh &&& 0x3f).toInt64))) = some (Value.long (own_acc f at0.toNatClampNeg m0)) := by
  rw [own_t3 hacc hsh hpn, him]
theorem own_ofNat {n : Nat} (h : n ≤ 100) : (Int32.ofNat n).toInt = n := Int32.toInt_ofNat_of_lt (by omega)
theorem own_r2 {Z : State} {h : Heap} {a0 : Addr} {at0 t : Int32} {i m0 : Nat} (F : Fld Z h a0 "terselink/tlk/TermRecords" "at" "I" (.int (t + (1 : Int32)))) (ht : t.toInt = at0.toInt + i) (him : i + 1 = m0) (hm2 : at0.toInt + m0 ≤ 16) (h0at : 0 ≤ at0.toInt) : Fld Z h a0 "terselink/tlk/TermRecords" "at" "I" (.int (at0 + Int32.ofNat m0)) := by
  have c : (1 : Int32).toInt = 1 := by decide
  have e : t + (1 : Int32) = at0 + Int32.ofNat m0 := by
    apply Int32.toInt_inj.mp
    rw [Jvm.Kit.i32_add (by omega) (by omega), Jvm.Kit.i32_add (by rw [own_ofNat (by omega)]; omega) (by rw [own_ofNat (by omega)]; omega), own_ofNat (by omega), c]
    omega
  rw [← e]
  exact F

theorem own_os7_20 {z0 : Value} {z1 : Value} {z3 : Value} {s4 : Slot} {v : Int32} (h : One s4) : storeLocals #[.val z0, .val z1, .second, .val z3, s4] 4 (.int v) = some #[.val z0, .val z1, .second, .val z3, .val (.int v)] := by
  rcases h with rfl | ⟨w, rfl, hw⟩
  · rfl
  · cases w <;> first | rfl | (simp [Value.category] at hw)
theorem d7_0 : decode prog_68_method_9_code 0 = .ok (.lconst 0, 1) := by decide +kernel
theorem d7_1 : decode prog_68_method_9_code 1 = .ok (.lstore_n 1, 1) := by decide +kernel
theorem d7_2 : decode prog_68_method_9_code 2 = .ok (.iconst 0, 1) := by decide +kernel
theorem d7_3 : decode prog_68_method_9_code 3 = .ok (.istore_n 3, 1) := by decide +kernel
theorem d7_4 : decode prog_68_method_9_code 4 = .ok (.aload_n 0, 1) := by decide +kernel
theorem d7_5 : decode prog_68_method_9_code 5 = .ok (.getfield 25, 3) := by decide +kernel
theorem d7_8 : decode prog_68_method_9_code 8 = .ok (.aload_n 0, 1) := by decide +kernel
theorem d7_9 : decode prog_68_method_9_code 9 = .ok (.dup, 1) := by decide +kernel
theorem d7_10 : decode prog_68_method_9_code 10 = .ok (.getfield 29, 3) := by decide +kernel
theorem d7_13 : decode prog_68_method_9_code 13 = .ok (.dup_x1, 1) := by decide +kernel
theorem d7_14 : decode prog_68_method_9_code 14 = .ok (.iconst 1, 1) := by decide +kernel
theorem d7_15 : decode prog_68_method_9_code 15 = .ok (.iadd, 1) := by decide +kernel
theorem d7_16 : decode prog_68_method_9_code 16 = .ok (.putfield 29, 3) := by decide +kernel
theorem d7_19 : decode prog_68_method_9_code 19 = .ok (.baload, 1) := by decide +kernel
theorem d7_20 : decode prog_68_method_9_code 20 = .ok (.istore 4, 2) := by decide +kernel
theorem d7_22 : decode prog_68_method_9_code 22 = .ok (.lload_n 1, 1) := by decide +kernel
theorem d7_23 : decode prog_68_method_9_code 23 = .ok (.iload 4, 2) := by decide +kernel
theorem d7_25 : decode prog_68_method_9_code 25 = .ok (.bipush 127, 2) := by decide +kernel
theorem d7_27 : decode prog_68_method_9_code 27 = .ok (.iand, 1) := by decide +kernel
theorem d7_28 : decode prog_68_method_9_code 28 = .ok (.i2l, 1) := by decide +kernel
theorem d7_29 : decode prog_68_method_9_code 29 = .ok (.iload_n 3, 1) := by decide +kernel
theorem d7_30 : decode prog_68_method_9_code 30 = .ok (.lshl, 1) := by decide +kernel
theorem d7_31 : decode prog_68_method_9_code 31 = .ok (.lor, 1) := by decide +kernel
theorem d7_32 : decode prog_68_method_9_code 32 = .ok (.lstore_n 1, 1) := by decide +kernel
theorem d7_33 : decode prog_68_method_9_code 33 = .ok (.iinc 3 7, 3) := by decide +kernel
theorem d7_36 : decode prog_68_method_9_code 36 = .ok (.iload 4, 2) := by decide +kernel
theorem d7_38 : decode prog_68_method_9_code 38 = .ok (.ifCond .lt (-34), 3) := by decide +kernel
theorem d7_41 : decode prog_68_method_9_code 41 = .ok (.lload_n 1, 1) := by decide +kernel
theorem d7_42 : decode prog_68_method_9_code 42 = .ok (.lreturn, 1) := by decide +kernel
theorem pn_7 : plainName "terselink/tlk/TermRecords" = true := by first | (simp [plainName, overriddenIn]; done) | decide +kernel
theorem ef_rmRead (m : MethodId) (a0 : Addr) : entryFrame m #[(.ref a0)] 5 = mkF m 0 #[.val (.ref a0), .unset, .unset, .unset, .unset] [] := by first | (simp [entryFrame, mkF, argsToLocals, Value.category]; done) | rfl
def Q_rmRead (Z : State) (a0 : Addr) (ar : Addr) (at0 : Int32) (f : Nat → Int32) (m0 : Nat) (h0 : Heap) (n0 : Nat) (v : Option Value) (h : Heap) (L : List Loc) : Prop := v = some (.long (own_acc f at0.toNatClampNeg m0)) ∧ Fr n0 L ∧ Keep h0 h [a0] ∧ Exa Z h a0 "terselink/tlk/TermRecords" ∧ Fld Z h a0 "terselink/tlk/TermRecords" "at" "I" (.int (at0 + Int32.ofNat m0))
abbrev F_rmRead (Z : State) (a0 : Addr) (ar : Addr) (at0 : Int32) (f : Nat → Int32) (m0 : Nat) (h0 : Heap) (n0 : Nat) (s : State) (o : Outcome) (U : State) : Prop := ∃ v L, o = .returned v ∧ Q_rmRead Z a0 ar at0 f m0 h0 n0 v U.heap L ∧ FrameEnd s o U L 0 0
set_option maxRecDepth 65536 in
set_option maxHeartbeats 40000000 in
theorem rmRead (l : Launch) (Z : State) (aZ : Array Value) (hw : ∀ d ∈ tables_1, d.before aZ Z = true) (ws : List Jvm.Cond) (a0 : Addr) (ar : Addr) (at0 : Int32) (f : Nat → Int32) (m0 : Nat) (h0 : Heap) (n0 : Nat) (gA : n0 ≤ a0) (EA : Exa Z h0 a0 "terselink/tlk/TermRecords") (FA0 : Fld Z h0 a0 "terselink/tlk/TermRecords" "array" "[B" (.ref ar)) (FA1 : Fld Z h0 a0 "terselink/tlk/TermRecords" "at" "I" (.int at0)) (A : own_arr Z h0 ar f) (hne : ar ≠ a0) (h0at : 0 ≤ at0.toInt) (hm1 : 1 ≤ m0) (hm2 : at0.toInt + m0 ≤ 16) (hneg : ∀ i, i + 1 < m0 → f (at0.toNatClampNeg + i) < 0) (hpos : ¬ f (at0.toNatClampNeg + (m0 - 1)) < 0) :
    MetFree l (⟨"terselink/tlk/TermRecords", "readNumber", "()J"⟩ : MethodName) (head1 (Jvm.Cond.code (⟨"terselink/tlk/TermRecords", "readNumber", "()J"⟩ : MethodName) prog_68_method_9_code 5 (some .long) :: ws) ({ frames := 0, cells := 0, slots := 0, locals := 0 } : Room)) (fun a U => a = #[(.ref a0)] ∧ Z.Warmed39 U.vm ∧ U.heap = h0) (fun _ _ _ _ _ => True) (fun _ U o U' => ∃ v L, o = .returned v ∧ Q_rmRead Z a0 ar at0 f m0 h0 n0 v U'.heap L ∧ FrameEnd U o U' L 0 0) := by
  refine MetFree.of_bodySF (plainFor_of_name pn_7) hisR ?_
  intro p e s m args below meth c s₁ Bd hml0 hP hK
  obtain ⟨rfl, hZ, hh⟩ := hP
  have hx := Bd.exec
  have hby := Bd.bytes
  have hml : c.maxLocals = 5 := hml0
  have hown : s.vm.findClass "terselink/tlk/TermRecords" = some m.cls := findClass_of_methodNamed Bd.named
  have hnm := (name_of_methodNamed Bd.named Bd.method).1
  have X0 : Stand p l e ({ frames := 0, cells := 0, slots := 0, locals := 0 } : Room) s m #[(.ref a0)] below meth c s₁ [] 0 0 := Stand.of_body Bd
  have e0 : s₁.heap = h0 := by rw [← hh, Bd.state]; rfl
  have N0 := Fr.nil n0
  refine Go.st (fun _ k => castTop (ef_rmRead m a0) k) ?_
  have K0 : Keep h0 h0 [a0] := Keep.refl h0 _
  show Go p e below _ (s₁.setTop (mkF m 0 #[.val (.ref a0), .unset, .unset, .unset, .unset] []))
  refine Go.st (fun _ k => XS.lconst X0.here hx rfl (hb hby d7_0) k) ?_
  refine Go.st (fun _ k => XS.lstoreN X0.here hx rfl (hb hby d7_1) rfl (l' := #[.val (.ref a0), .val (.long (0 : Int64)), .second, .unset, .unset]) rfl k) ?_
  show Go p e below _ (s₁.setTop (mkF m 2 #[.val (.ref a0), .val (.long (0 : Int64)), .second, .unset, .unset] []))
  refine Go.st (fun _ k => XS.iconst X0.here hx rfl (hb hby d7_2) k) ?_
  refine Go.st (fun _ k => XS.istoreN X0.here hx rfl (hb hby d7_3) rfl (l' := #[.val (.ref a0), .val (.long (0 : Int64)), .second, .val (.int (0 : Int32)), .unset]) rfl k) ?_
  show Go p e below _ (s₁.setTop (mkF m 4 #[.val (.ref a0), .val (.long (0 : Int64)), .second, .val (.int (0 : Int32)), .unset] []))
  have lp : ∀ (fu : Nat) (Tlp : State) (llp : List Loc) (hk : Heap) (acc : Int64) (sh : Int32) (t : Int32) (s4 : Slot) (i : Nat), (Stand p l e ({ frames := 0, cells := 0, slots := 0, locals := 0 } : Room) s m #[(.ref a0)] below meth c Tlp llp 0 0) → (Tlp.heap = hk) → (Fr n0 llp) → (Keep h0 hk [a0]) → (Exa Z hk a0 "terselink/tlk/TermRecords") → (Fld Z hk a0 "terselink/tlk/TermRecords" "array" "[B" (.ref ar)) → (Fld Z hk a0 "terselink/tlk/TermRecords" "at" "I" (.int t)) → (own_arr Z hk ar f) → (One s4) → (i < m0) → (t.toInt = at0.toInt + i) → (sh = Int32.ofNat (7 * i)) → (acc = own_acc f at0.toNatClampNeg i) → (m0 - i < fu) → Go p e below (F_rmRead Z a0 ar at0 f m0 h0 n0 s) (Tlp.setTop (mkF m 4 #[.val (.ref a0), .val (.long acc), .second, .val (.int sh), s4] [])) := by
    intro fu
    induction fu with
    | zero => intro Tlp llp hk acc sh t s4 i Xlp elp Nlp Kk Ek Fk0 Fk1 Ak h_s4 hi ht hsh hacc hmlp; exact absurd hmlp (by omega)
    | succ fu ih =>
      intro Tlp llp hk acc sh t s4 i Xlp elp Nlp Kk Ek Fk0 Fk1 Ak h_s4 hi ht hsh hacc hmlp
      show Go p e below _ (Tlp.setTop (mkF m 4 #[.val (.ref a0), .val (.long acc), .second, .val (.int sh), s4] []))
      refine Go.st (fun _ k => XS.aloadN Xlp.here hx rfl (hb hby d7_4) rfl rfl k) ?_
      show Go p e below _ (Tlp.setTop (mkF m 5 #[.val (.ref a0), .val (.long acc), .second, .val (.int sh), s4] [(.ref a0)]))
      obtain ⟨T1, X1, e1, st1⟩ := getF Xlp hx hZ hown (host := "") (Or.inl (hw _ (List.mem_of_getElem? (i := 28) rfl))) Via.refl elp Fk0 (g := (mkF m 5 #[.val (.ref a0), .val (.long acc), .second, .val (.int sh), s4] [(.ref a0)])) rfl rfl (hb hby d7_5)
      refine Go.st (fun _ k => st1 _ k) ?_
      show Go p e below _ (T1.setTop (mkF m 8 #[.val (.ref a0), .val (.long acc), .second, .val (.int sh), s4] [(.ref ar)]))
      refine Go.st (fun _ k => XS.aloadN X1.here hx rfl (hb hby d7_8) rfl rfl k) ?_
      refine Go.st (fun _ k => XS.dup X1.here hx rfl (hb hby d7_9) rfl rfl k) ?_
      show Go p e below _ (T1.setTop (mkF m 10 #[.val (.ref a0), .val (.long acc), .second, .val (.int sh), s4] [(.ref a0), (.ref a0), (.ref ar)]))
      obtain ⟨T2, X2, e2, st2⟩ := getF X1 hx hZ hown (host := "") (Or.inl (hw _ (List.mem_of_getElem? (i := 30) rfl))) Via.refl e1 Fk1 (g := (mkF m 10 #[.val (.ref a0), .val (.long acc), .second, .val (.int sh), s4] [(.ref a0), (.ref a0), (.ref ar)])) rfl rfl (hb hby d7_10)
      refine Go.st (fun _ k => st2 _ k) ?_
      show Go p e below _ (T2.setTop (mkF m 13 #[.val (.ref a0), .val (.long acc), .second, .val (.int sh), s4] [(.int t), (.ref a0), (.ref ar)]))
      refine Go.st (fun _ k => XS.dupX1 X2.here hx rfl (hb hby d7_13) rfl rfl rfl k) ?_
      show Go p e below _ (T2.setTop (mkF m 14 #[.val (.ref a0), .val (.long acc), .second, .val (.int sh), s4] [(.int t), (.ref a0), (.int t), (.ref ar)]))
      refine Go.st (fun _ k => XS.iconst X2.here hx rfl (hb hby d7_14) k) ?_
      refine Go.st (fun _ k => XS.iadd X2.here hx rfl (hb hby d7_15) rfl k) ?_
      show Go p e below _ (T2.setTop (mkF m 16 #[.val (.ref a0), .val (.long acc), .second, .val (.int sh), s4] [(.int (t + (1 : Int32))), (.ref a0), (.int t), (.ref ar)]))
      obtain ⟨T3, h3, X3, e3, W3, st3⟩ := putF X2 hx hZ hown (host := "") (Or.inl (hw _ (List.mem_of_getElem? (i := 30) rfl))) Via.refl e2 Fk1 Ek (Or.inl (hw _ (List.mem_of_getElem? (i := 31) rfl))) (hw _ (List.mem_of_getElem? (i := 15) rfl)) (ty := .int) (by decide) rfl rfl (g := (mkF m 16 #[.val (.ref a0), .val (.long acc), .second, .val (.int sh), s4] [(.int (t + (1 : Int32))), (.ref a0), (.int t), (.ref ar)])) rfl rfl (hb hby d7_16)
      have F3_E_a0 := Ek.wr W3
      have F3_F_a0_array := Fk0.other W3 (Or.inr (slot_ne (Or.inl (hw _ (List.mem_of_getElem? (i := 29) rfl))) (Or.inl (hw _ (List.mem_of_getElem? (i := 31) rfl))) (by decide) (t := (.array .byte)) (t' := .int) (by decide) (by decide)))
      have F3_A_ar := own_arr_other W3 Ak hne
      have Fw3 := Fk1.same W3
      have N3 := Fr.snoc X3 Nlp gA
      have K3 : Keep h0 h3 [a0] := Kk.wr W3 (Or.inl (List.mem_of_getElem? (i := 0) rfl))
      refine Go.st (fun _ k => st3 _ k) ?_
      show Go p e below _ (T3.setTop (mkF m 19 #[.val (.ref a0), .val (.long acc), .second, .val (.int sh), s4] [(.int t), (.ref ar)]))
      obtain ⟨cl4, Ar4, Sz4, Hs4⟩ := id F3_A_ar
      have hpn : t.toNatClampNeg = at0.toNatClampNeg + i := own_tn h0at hm2 hi ht
      have hin4 : ¬ (t < 0 ∨ cl4.slots.size ≤ t.toNatClampNeg) := own_hin (own_tp h0at ht) (own_tl h0at hm2 hi ht) Sz4
      have hat4 : cl4.slots[t.toNatClampNeg]? = some (.int (f t.toNatClampNeg)) := Hs4 _ (own_tl h0at hm2 hi ht)
      refine Go.st (fun _ k => X3.baloadBytes hx (j := t) (v := (.int (f t.toNatClampNeg))) (by rw [e3]; exact Ar4.1) (State.isArrayOf_alike hZ.alike Ar4.2.1) Ar4.2.2 hin4 hat4 (g := (mkF m 19 #[.val (.ref a0), .val (.long acc), .second, .val (.int sh), s4] [(.int t), (.ref ar)])) rfl rfl (hb hby d7_19) _ k) ?_
      show Go p e below _ (T3.setTop (mkF m 20 #[.val (.ref a0), .val (.long acc), .second, .val (.int sh), s4] [(.int (f t.toNatClampNeg))]))
      refine Go.st (fun _ k => XS.istore X3.here hx rfl (hb hby d7_20) rfl (l' := #[.val (.ref a0), .val (.long acc), .second, .val (.int sh), .val (.int (f t.toNatClampNeg))]) (own_os7_20 h_s4) k) ?_
      show Go p e below _ (T3.setTop (mkF m 22 #[.val (.ref a0), .val (.long acc), .second, .val (.int sh), .val (.int (f t.toNatClampNeg))] []))
      refine Go.st (fun _ k => XS.lloadN X3.here hx rfl (hb hby d7_22) rfl k) ?_
      refine Go.st (fun _ k => XS.iload X3.here hx rfl (hb hby d7_23) rfl k) ?_
      show Go p e below _ (T3.setTop (mkF m 25 #[.val (.ref a0), .val (.long acc), .second, .val (.int sh), .val (.int (f t.toNatClampNeg))] [(.int (f t.toNatClampNeg)), (.long acc)]))
      refine Go.st (fun _ k => XS.bipush X3.here hx rfl (hb hby d7_25) k) ?_
      refine Go.st (fun _ k => XS.iand X3.here hx rfl (hb hby d7_27) rfl k) ?_
      show Go p e below _ (T3.setTop (mkF m 28 #[.val (.ref a0), .val (.long acc), .second, .val (.int sh), .val (.int (f t.toNatClampNeg))] [(.int ((f t.toNatClampNeg) &&& (127 : Int32))), (.long acc)]))
      refine Go.st (fun _ k => XS.i2l X3.here hx rfl (hb hby d7_28) rfl k) ?_
      show Go p e below _ (T3.setTop (mkF m 29 #[.val (.ref a0), .val (.long acc), .second, .val (.int sh), .val (.int (f t.toNatClampNeg))] [(.long (((f t.toNatClampNeg) &&& (127 : Int32)).toInt64)), (.long acc)]))
      refine Go.st (fun _ k => XS.iloadN X3.here hx rfl (hb hby d7_29) rfl k) ?_
      refine Go.st (fun _ k => XS.lshl X3.here hx rfl (hb hby d7_30) rfl k) ?_
      show Go p e below _ (T3.setTop (mkF m 31 #[.val (.ref a0), .val (.long acc), .second, .val (.int sh), .val (.int (f t.toNatClampNeg))] [(.long ((((f t.toNatClampNeg) &&& (127 : Int32)).toInt64) <<< (sh &&& 0x3f).toInt64)), (.long acc)]))
      refine Go.st (fun _ k => XS.lor X3.here hx rfl (hb hby d7_31) rfl k) ?_
      refine Go.st (fun _ k => XS.lstoreN X3.here hx rfl (hb hby d7_32) rfl (l' := #[.val (.ref a0), .val (.long (acc ||| ((((f t.toNatClampNeg) &&& (127 : Int32)).toInt64) <<< (sh &&& 0x3f).toInt64))), .second, .val (.int sh), .val (.int (f t.toNatClampNeg))]) rfl k) ?_
      show Go p e below _ (T3.setTop (mkF m 33 #[.val (.ref a0), .val (.long (acc ||| ((((f t.toNatClampNeg) &&& (127 : Int32)).toInt64) <<< (sh &&& 0x3f).toInt64))), .second, .val (.int sh), .val (.int (f t.toNatClampNeg))] []))
      refine Go.st (fun _ k => XS.iinc X3.here hx rfl (hb hby d7_33) rfl (l' := #[.val (.ref a0), .val (.long (acc ||| ((((f t.toNatClampNeg) &&& (127 : Int32)).toInt64) <<< (sh &&& 0x3f).toInt64))), .second, .val (.int (sh + (7 : Int32))), .val (.int (f t.toNatClampNeg))]) rfl k) ?_
      show Go p e below _ (T3.setTop (mkF m 36 #[.val (.ref a0), .val (.long (acc ||| ((((f t.toNatClampNeg) &&& (127 : Int32)).toInt64) <<< (sh &&& 0x3f).toInt64))), .second, .val (.int (sh + (7 : Int32))), .val (.int (f t.toNatClampNeg))] []))
      refine Go.st (fun _ k => XS.iload X3.here hx rfl (hb hby d7_36) rfl k) ?_
      by_cases hc5 : (f t.toNatClampNeg) < (0 : Int32)
      · show Go p e below _ (T3.setTop (mkF m 38 #[.val (.ref a0), .val (.long (acc ||| ((((f t.toNatClampNeg) &&& (127 : Int32)).toInt64) <<< (sh &&& 0x3f).toInt64))), .second, .val (.int (sh + (7 : Int32))), .val (.int (f t.toNatClampNeg))] [(.int (f t.toNatClampNeg))]))
        refine Go.st (fun _ k => XS.ifYes X3.here hx rfl (pc0 := 38) (pc' := 4) rfl (hb hby d7_38) rfl ((if0 _ _).trans (tlt hc5).1) (by decide) (by decide) k) ?_
        show Go p e below _ (T3.setTop (mkF m 4 #[.val (.ref a0), .val (.long (acc ||| ((((f t.toNatClampNeg) &&& (127 : Int32)).toInt64) <<< (sh &&& 0x3f).toInt64))), .second, .val (.int (sh + (7 : Int32))), .val (.int (f t.toNatClampNeg))] []))
        exact ih _ _ _ _ _ _ _ _ X3 e3 N3 K3 F3_E_a0 F3_F_a0_array Fw3 F3_A_ar (One.val rfl) (own_lt hpos hpn hi hc5) (own_t1 h0at hm2 hi ht) (own_t2 hsh) (own_t3 hacc hsh hpn) (by omega)
      · show Go p e below _ (T3.setTop (mkF m 38 #[.val (.ref a0), .val (.long (acc ||| ((((f t.toNatClampNeg) &&& (127 : Int32)).toInt64) <<< (sh &&& 0x3f).toInt64))), .second, .val (.int (sh + (7 : Int32))), .val (.int (f t.toNatClampNeg))] [(.int (f t.toNatClampNeg))]))
        refine Go.st (fun _ k => XS.ifNo X3.here hx rfl (hb hby d7_38) rfl ((if0 _ _).trans (flt hc5).1) k) ?_
        show Go p e below _ (T3.setTop (mkF m 41 #[.val (.ref a0), .val (.long (acc ||| ((((f t.toNatClampNeg) &&& (127 : Int32)).toInt64) <<< (sh &&& 0x3f).toInt64))), .second, .val (.int (sh + (7 : Int32))), .val (.int (f t.toNatClampNeg))] []))
        refine Go.st (fun _ k => XS.lloadN X3.here hx rfl (hb hby d7_41) rfl k) ?_
        obtain ⟨fs, hr, hrun, hended, hW, hsame⟩ := X3.leave (v := some (.long (acc ||| ((((f t.toNatClampNeg) &&& (127 : Int32)).toInt64) <<< (sh &&& 0x3f).toInt64)))) (fun h => by rw [Bd.returns] at h; cases h)
        refine ⟨_, _, retJ X3 hx Bd.returns (hb hby d7_42) hr, hrun, hended, _, _, rfl, ?_, ⟨_, rfl⟩, hW, hsame.mono (by decide) (by decide)⟩
        show Q_rmRead Z a0 ar at0 f m0 h0 n0 _ T3.heap _
        rw [e3]
        have him : i + 1 = m0 := own_last hneg hpn hi hc5
        exact ⟨own_r1 hacc hsh hpn him, N3, K3, F3_E_a0, own_r2 Fw3 ht him hm2 h0at⟩
  exact lp (m0 + 1) _ _ _ _ _ _ _ 0 X0 e0 N0 K0 EA FA0 FA1 A One.u (by omega) (by simp) rfl rfl (by omega)
theorem own_n {p v : Int32} (h : ((1 : Int32) + (jrem (p &&& (2147483647 : Int32)) (10 : Int32))) = v) : 1 ≤ v.toInt ∧ v.toInt ≤ 10 := by
  have e := Jvm.Kit.i32_mask p 2147483647 (k := 31) (by decide) (by decide)
  have e2 := own_jrem (x := p &&& (2147483647 : Int32)) (y := (10 : Int32)) (by omega) (by decide)
  have c : (10 : Int32).toInt = 10 := by decide
  have c1 : (1 : Int32).toInt = 1 := by decide
  rw [c] at e2
  have e3 : ((1 : Int32) + (jrem (p &&& (2147483647 : Int32)) (10 : Int32))).toInt = (1 : Int32).toInt + (jrem (p &&& (2147483647 : Int32)) (10 : Int32)).toInt := Jvm.Kit.i32_add (by omega) (by omega)
  rw [h] at e3
  omega
theorem own_from {p v : Int32} (h : (p &&& (3 : Int32)) = v) : 0 ≤ v.toInt ∧ v.toInt ≤ 3 := by
  have e := Jvm.Kit.i32_mask p 3 (k := 2) (by decide) (by decide)
  rw [h] at e
  omega
theorem own_sum {fr k : Int32} (hf : 0 ≤ fr.toInt ∧ fr.toInt ≤ 3) (a : 0 ≤ k.toInt) (b : k.toInt ≤ 9) : (fr + k).toInt = fr.toInt + k.toInt := Jvm.Kit.i32_add (by omega) (by omega)
theorem own_idx {fr n k : Int32} (hf : 0 ≤ fr.toInt ∧ fr.toInt ≤ 3) (hn : 1 ≤ n.toInt ∧ n.toInt ≤ 10) (a : 0 ≤ k.toInt) (b : k.toInt ≤ 9) : k < n → ¬ (fr + k) < 0 ∧ (fr + k).toNatClampNeg < 16 := fun _ => by
  have e := own_sum hf a b
  have c : (0 : Int32).toInt = 0 := by decide
  refine ⟨by rw [Int32.lt_iff_toInt_lt, e, c]; omega, ?_⟩
  show (fr + k).toInt.toNat < 16
  omega
def own_ok (q0 : Int64) (fr n : Int32) (f : Nat → Int32) (j : Nat) : Prop := ∀ i, i < j → i < n.toInt.toNat → f (fr.toNatClampNeg + i) = nar .byte (fEnc q0 (Int32.ofNat i) n)
theorem own_ok_step {q0 : Int64} {fr n : Int32} {f g : Nat → Int32} (j : Nat) (hf : 0 ≤ fr.toInt ∧ fr.toInt ≤ 3) (hj : j ≤ 9) (h : own_ok q0 fr n f j) (e : g = own_put f fr q0 (Int32.ofNat j) n) : own_ok q0 fr n g (j + 1) := by
  intro i hi hin
  subst e
  have ej := own_ofNat (n := j) (by omega)
  have ei := own_ofNat (n := i) (by omega)
  have es := own_sum (k := Int32.ofNat j) hf (by omega) (by omega)
  have eN : (fr + Int32.ofNat j).toNatClampNeg = fr.toNatClampNeg + j := by
    show (fr + Int32.ofNat j).toInt.toNat = fr.toInt.toNat + j
    omega
  show (if Int32.ofNat j < n then (if fr.toNatClampNeg + i = (fr + Int32.ofNat j).toNatClampNeg then _ else _) else _) = _
  by_cases hij : i = j
  · subst hij
    rw [if_pos (by rw [Int32.lt_iff_toInt_lt, ei]; omega), if_pos eN.symm]
  · have : f (fr.toNatClampNeg + i) = nar .byte (fEnc q0 (Int32.ofNat i) n) := h i (by omega) hin
    split
    · rw [if_neg (by rw [eN]; omega)]
      exact this
    · exact this
theorem own_all {q0 : Int64} {fr n : Int32} {f f0 f1 f2 f3 f4 f5 f6 f7 f8 f9 : Nat → Int32} (hf : 0 ≤ fr.toInt ∧ fr.toInt ≤ 3) (h0 : f0 = own_put f fr q0 (0 : Int32) n) (h1 : f1 = own_put f0 fr q0 (1 : Int32) n) (h2 : f2 = own_put f1 fr q0 (2 : Int32) n) (h3 : f3 = own_put f2 fr q0 (3 : Int32) n) (h4 : f4 = own_put f3 fr q0 (4 : Int32) n) (h5 : f5 = own_put f4 fr q0 (5 : Int32) n) (h6 : f6 = own_put f5 fr q0 (6 : Int32) n) (h7 : f7 = own_put f6 fr q0 (7 : Int32) n) (h8 : f8 = own_put f7 fr q0 (8 : Int32) n) (h9 : f9 = own_put f8 fr q0 (9 : Int32) n) : own_ok q0 fr n f9 10 := by
  have o0 := own_ok_step 0 hf (by decide) (fun i hi _ => absurd hi (Nat.not_lt_zero _)) h0
  have o1 := own_ok_step 1 hf (by decide) o0 h1
  have o2 := own_ok_step 2 hf (by decide) o1 h2
  have o3 := own_ok_step 3 hf (by decide) o2 h3
  have o4 := own_ok_step 4 hf (by decide) o3 h4
  have o5 := own_ok_step 5 hf (by decide) o4 h5
  have o6 := own_ok_step 6 hf (by decide) o5 h6
  have o7 := own_ok_step 7 hf (by decide) o6 h7
  have o8 := own_ok_step 8 hf (by decide) o7 h8
  exact own_ok_step 9 hf (by decide) o8 h9
theorem own_127 (k : Nat) : (127 : Int32).toBitVec.getLsbD k = decide (k < 7) := by
  by_cases h : k < 32
  · have : ∀ k : Fin 32, (127 : Int32).toBitVec.getLsbD k.val = decide (k.val < 7) := by decide +kernel
    exact this ⟨k, h⟩
  · rw [BitVec.getLsbD_of_ge _ _ (by omega)]
    simp
    omega
theorem own_127L (k : Nat) : (127 : Int64).toBitVec.getLsbD k = decide (k < 7) := by
  by_cases h : k < 64
  · have : ∀ k : Fin 64, (127 : Int64).toBitVec.getLsbD k.val = decide (k.val < 7) := by decide +kernel
    exact this ⟨k, h⟩
  · rw [BitVec.getLsbD_of_ge _ _ (by omega)]
    simp
    omega
theorem own_128L (k : Nat) : (128 : Int64).toBitVec.getLsbD k = decide (k = 7) := by
  by_cases h : k < 64
  · have : ∀ k : Fin 64, (128 : Int64).toBitVec.getLsbD k.val = decide (k.val = 7) := by decide +kernel
    exact this ⟨k, h⟩
  · rw [BitVec.getLsbD_of_ge _ _ (by omega)]
    simp
    omega
/-- the low bits of a long go through the casts -/
theorem own_cast (x : Int64) {t : Nat} (ht : t < 8) : (nar .byte (x.toInt32.toInt8.toInt32)).toBitVec.getLsbD t = x.toBitVec.getLsbD t := by
  show ((x.toInt32.toInt8.toInt32).toInt8.toInt32).toBitVec.getLsbD t = _
  simp only [Int8.toBitVec_toInt32, Int32.toBitVec_toInt8, Int64.toBitVec_toInt32, BitVec.getLsbD_signExtend]
  simp [ht, show t < 32 by omega, show t < 64 by omega]
theorem own_narnar (x : Int32) : nar .byte (nar .byte x) = nar .byte x := by
  apply Int32.toInt_inj.mp
  show ((x.toInt8.toInt32).toInt8.toInt32).toInt = (x.toInt8.toInt32).toInt
  rw [Int8.toInt_toInt32, Int32.toInt_toInt8, Int8.toInt_toInt32, Int32.toInt_toInt8, Int.bmod_bmod]
theorem own_ush (x : Int64) (k : Int32) {j : Nat} (hj : j < 64) (hk : (k &&& 0x3f).toInt64.toUInt64.toNat = j) : ((x.toUInt64 >>> (k &&& 0x3f).toInt64.toUInt64).toInt64).toBitVec = x.toBitVec >>> j := by
  rw [UInt64.toBitVec_toInt64, UInt64.toBitVec_shiftRight]
  have e : ((k &&& 0x3f).toInt64.toUInt64.toBitVec % 64).toNat = j := by
    rw [BitVec.toNat_umod, UInt64.toNat_toBitVec, hk]
    exact Nat.mod_eq_of_lt hj
  rw [BitVec.ushiftRight_eq', e]
  rfl
theorem own_sh7 {i : Nat} (hi : i ≤ 9) : (((7 : Int32) * Int32.ofNat i) &&& 0x3f).toInt64.toUInt64.toNat = 7 * i := by
  have : ∀ i : Fin 10, (((7 : Int32) * Int32.ofNat i.val) &&& 0x3f).toInt64.toUInt64.toNat = 7 * i.val := by decide +kernel
  exact this ⟨i, by omega⟩
theorem own_part (q : Int64) {i : Nat} (hi : i ≤ 9) (t : Nat) : (((q.toUInt64 >>> (((7 : Int32) * Int32.ofNat i) &&& 0x3f).toInt64.toUInt64).toInt64) &&& (127 : Int64)).toBitVec.getLsbD t = (decide (t < 7) && q.toBitVec.getLsbD (7 * i + t)) := by
  rw [Int64.toBitVec_and, BitVec.getLsbD_and, own_127L, own_ush q _ (by omega) (own_sh7 hi), BitVec.getLsbD_ushiftRight, Bool.and_comm]
theorem own_neg8 (x : Int32) : (nar .byte x < 0) ↔ x.toBitVec.getLsbD 7 = true := by
  have c : (0 : Int32).toInt = 0 := by decide
  show (x.toInt8.toInt32 < 0) ↔ _
  rw [Int32.lt_iff_toInt_lt, Int8.toInt_toInt32, c]
  have e : x.toInt8.toBitVec.msb = decide (x.toInt8.toBitVec.toInt < 0) := BitVec.msb_eq_toInt
  have e2 : x.toInt8.toBitVec.msb = x.toBitVec.getLsbD 7 := by
    rw [BitVec.msb_eq_getLsbD_last, Int32.toBitVec_toInt8, BitVec.getLsbD_signExtend]
    simp
  rw [← e2, e, decide_eq_true_eq]
  rfl
theorem own_encbit (q : Int64) (n : Int32) {i t : Nat} (hi : i ≤ 9) (ht : t < 7) : (nar .byte (fEnc q (Int32.ofNat i) n)).toBitVec.getLsbD t = q.toBitVec.getLsbD (7 * i + t) := by
  unfold fEnc
  split
  · rw [own_narnar, own_cast _ (by omega), Int64.toBitVec_or, BitVec.getLsbD_or, own_part q hi, own_128L]
    simp [ht, show ¬ t = 7 by omega]
  · rw [own_narnar, own_cast _ (by omega), own_part q hi]
    simp [ht]
theorem own_bit7 (x : Int64) : (x.toInt32.toInt8.toInt32).toBitVec.getLsbD 7 = x.toBitVec.getLsbD 7 := by
  simp only [Int8.toBitVec_toInt32, Int32.toBitVec_toInt8, Int64.toBitVec_toInt32, BitVec.getLsbD_signExtend]
  simp
theorem own_encneg (q : Int64) {n : Int32} {i : Nat} (hi : i ≤ 9) (hn : Int32.ofNat i < n - (1 : Int32)) : nar .byte (fEnc q (Int32.ofNat i) n) < 0 := by
  unfold fEnc
  rw [if_pos hn, own_narnar, own_neg8, own_bit7, Int64.toBitVec_or, BitVec.getLsbD_or, own_128L]
  simp
theorem own_encpos (q : Int64) {n : Int32} {i : Nat} (hi : i ≤ 9) (hn : ¬ Int32.ofNat i < n - (1 : Int32)) : ¬ nar .byte (fEnc q (Int32.ofNat i) n) < 0 := by
  unfold fEnc
  rw [if_neg hn, own_narnar, own_neg8, own_bit7, own_part q hi]
  simp
theorem own_and127 (x : Int32) (k : Nat) : ((x &&& (127 : Int32)).toInt64).toBitVec.getLsbD k = (decide (k < 7) && x.toBitVec.getLsbD k) := by
  rw [Int32.toBitVec_toInt64, BitVec.getLsbD_signExtend, BitVec.msb_eq_getLsbD_last, Int32.toBitVec_and, BitVec.getLsbD_and, BitVec.getLsbD_and, own_127, own_127]
  by_cases h : k < 7
  · simp [h, show k < 64 by omega, show k < 32 by omega]
  · simp [h]
theorem own_shl {m : Nat} (hm : m ≤ 9) : (((Int32.ofNat (7 * m)) &&& 0x3f).toInt64.toBitVec.smod 64).toNat = 7 * m := by
  have : ∀ m : Fin 10, (((Int32.ofNat (7 * m.val)) &&& 0x3f).toInt64.toBitVec.smod 64).toNat = 7 * m.val := by decide +kernel
  exact this ⟨m, by omega⟩
theorem own_accbits {f : Nat → Int32} {p : Nat} {q : Int64} : ∀ m, m ≤ 10 → (∀ i, i < m → ∀ t, t < 7 → (f (p + i)).toBitVec.getLsbD t = q.toBitVec.getLsbD (7 * i + t)) → ∀ j, (own_acc f p m).toBitVec.getLsbD j = (decide (j < 7 * m) && q.toBitVec.getLsbD j)
  | 0, _, _, j => by
    show (0 : Int64).toBitVec.getLsbD j = _
    simp
  | m + 1, hm, h, j => by
    have ih := own_accbits m (by omega) (fun i hi => h i (by omega)) j
    show ((own_acc f p m) ||| ((((f (p + m)) &&& (127 : Int32)).toInt64) <<< ((Int32.ofNat (7 * m)) &&& 0x3f).toInt64)).toBitVec.getLsbD j = _
    rw [Int64.toBitVec_or, BitVec.getLsbD_or, ih, Int64.toBitVec_shiftLeft, BitVec.shiftLeft_eq', own_shl (by omega), BitVec.getLsbD_shiftLeft, own_and127]
    by_cases h1 : j < 7 * m
    · simp [h1, show j < 7 * (m + 1) by omega]
    · by_cases h64 : j < 64
      · by_cases h2 : j - 7 * m < 7
        · have e := h m (by omega) (j - 7 * m) h2
          rw [show 7 * m + (j - 7 * m) = j by omega] at e
          simp [h1, h2, h64, e, show j < 7 * (m + 1) by omega]
        · simp [h1, h2, show ¬ j < 7 * (m + 1) by omega]
      · rw [BitVec.getLsbD_of_ge q.toBitVec j (by omega)]
        simp [h1, h64]
theorem own_maskbits {n j : Nat} (hn : n ≤ 9) (hj : j < 64) : (((1 : Int64) <<< (((7 : Int32) * Int32.ofNat n) &&& 0x3f).toInt64) - (1 : Int64)).toBitVec.getLsbD j = decide (j < 7 * n) := by
  have : ∀ n : Fin 10, ∀ j : Fin 64, (((1 : Int64) <<< (((7 : Int32) * Int32.ofNat n.val) &&& 0x3f).toInt64) - (1 : Int64)).toBitVec.getLsbD j.val = decide (j.val < 7 * n.val) := by decide +kernel
  exact this ⟨n, by omega⟩ ⟨j, hj⟩
theorem own_self {n : Int32} (hn : 1 ≤ n.toInt ∧ n.toInt ≤ 10) : Int32.ofNat n.toInt.toNat = n := by
  apply Int32.toInt_inj.mp
  rw [own_ofNat (by omega)]
  omega
theorem own_less {n : Int32} {i : Nat} (hn : 1 ≤ n.toInt ∧ n.toInt ≤ 10) (hi : i ≤ 9) : (Int32.ofNat i < n - (1 : Int32)) ↔ i + 1 < n.toInt.toNat := by
  have c : (1 : Int32).toInt = 1 := by decide
  rw [Int32.lt_iff_toInt_lt, own_ofNat (by omega), Jvm.Kit.i32_sub (by omega) (by omega), c]
  omega
theorem own_okbits {q0 : Int64} {fr n : Int32} {f : Nat → Int32} (hn : 1 ≤ n.toInt ∧ n.toInt ≤ 10) (h : own_ok q0 fr n f 10) : ∀ i, i < n.toInt.toNat → ∀ t, t < 7 → (f (fr.toNatClampNeg + i)).toBitVec.getLsbD t = q0.toBitVec.getLsbD (7 * i + t) := fun i hi t ht => by
  rw [h i (by omega) hi]
  exact own_encbit q0 n (by omega) ht

theorem own_p0 {fr : Int32} (hf : 0 ≤ fr.toInt ∧ fr.toInt ≤ 3) : 0 ≤ fr.toInt := hf.1
theorem own_p1 {n : Int32} (hn : 1 ≤ n.toInt ∧ n.toInt ≤ 10) : 1 ≤ n.toInt.toNat := by omega
theorem own_p2 {fr n : Int32} (hf : 0 ≤ fr.toInt ∧ fr.toInt ≤ 3) (hn : 1 ≤ n.toInt ∧ n.toInt ≤ 10) : fr.toInt + n.toInt.toNat ≤ 16 := by omega
theorem own_p3 {q0 : Int64} {fr n : Int32} {f f0 f1 f2 f3 f4 f5 f6 f7 f8 f9 : Nat → Int32} (hf : 0 ≤ fr.toInt ∧ fr.toInt ≤ 3) (hn : 1 ≤ n.toInt ∧ n.toInt ≤ 10) (h0 : f0 = own_put f fr q0 (0 : Int32) n) (h1 : f1 = own_put f0 fr q0 (1 : Int32) n) (h2 : f2 = own_put f1 fr q0 (2 : Int32) n) (h3 : f3 = own_put f2 fr q0 (3 : Int32) n) (h4 : f4 = own_put f3 fr q0 (4 : Int32) n) (h5 : f5 = own_put f4 fr q0 (5 : Int32) n) (h6 : f6 = own_put f5 fr q0 (6 : Int32) n) (h7 : f7 = own_put f6 fr q0 (7 : Int32) n) (h8 : f8 = own_put f7 fr q0 (8 : Int32) n) (h9 : f9 = own_put f8 fr q0 (9 : Int32) n) :
    ∀ i, i + 1 < n.toInt.toNat → f9 (fr.toNatClampNeg + i) < 0 := by
  have ok := own_all hf h0 h1 h2 h3 h4 h5 h6 h7 h8 h9
  intro i hi
  rw [ok i (by omega) (by omega)]
  exact own_encneg q0 (by omega) ((own_less hn (by omega)).mpr hi)
theorem own_p4 {q0 : Int64} {fr n : Int32} {f f0 f1 f2 f3 f4 f5 f6 f7 f8 f9 : Nat → Int32} (hf : 0 ≤ fr.toInt ∧ fr.toInt ≤ 3) (hn : 1 ≤ n.toInt ∧ n.toInt ≤ 10) (h0 : f0 = own_put f fr q0 (0 : Int32) n) (h1 : f1 = own_put f0 fr q0 (1 : Int32) n) (h2 : f2 = own_put f1 fr q0 (2 : Int32) n) (h3 : f3 = own_put f2 fr q0 (3 : Int32) n) (h4 : f4 = own_put f3 fr q0 (4 : Int32) n) (h5 : f5 = own_put f4 fr q0 (5 : Int32) n) (h6 : f6 = own_put f5 fr q0 (6 : Int32) n) (h7 : f7 = own_put f6 fr q0 (7 : Int32) n) (h8 : f8 = own_put f7 fr q0 (8 : Int32) n) (h9 : f9 = own_put f8 fr q0 (9 : Int32) n) :
    ¬ f9 (fr.toNatClampNeg + (n.toInt.toNat - 1)) < 0 := by
  have ok := own_all hf h0 h1 h2 h3 h4 h5 h6 h7 h8 h9
  rw [ok _ (by omega) (by omega)]
  exact own_encpos q0 (by omega) (fun z => by have := (own_less hn (by omega)).mp z; omega)
theorem own_got10 {q0 : Int64} {fr n : Int32} {f f0 f1 f2 f3 f4 f5 f6 f7 f8 f9 : Nat → Int32} (e : n = (10 : Int32)) (hf : 0 ≤ fr.toInt ∧ fr.toInt ≤ 3) (hn : 1 ≤ n.toInt ∧ n.toInt ≤ 10) (h0 : f0 = own_put f fr q0 (0 : Int32) n) (h1 : f1 = own_put f0 fr q0 (1 : Int32) n) (h2 : f2 = own_put f1 fr q0 (2 : Int32) n) (h3 : f3 = own_put f2 fr q0 (3 : Int32) n) (h4 : f4 = own_put f3 fr q0 (4 : Int32) n) (h5 : f5 = own_put f4 fr q0 (5 : Int32) n) (h6 : f6 = own_put f5 fr q0 (6 : Int32) n) (h7 : f7 = own_put f6 fr q0 (7 : Int32) n) (h8 : f8 = own_put f7 fr q0 (8 : Int32) n) (h9 : f9 = own_put f8 fr q0 (9 : Int32) n) :
    own_acc f9 (fr).toNatClampNeg (n).toInt.toNat = q0 := by
  have ok := own_all hf h0 h1 h2 h3 h4 h5 h6 h7 h8 h9
  have hb := own_accbits n.toInt.toNat (by omega) (own_okbits hn ok)
  apply Int64.toBitVec_inj.mp
  apply BitVec.eq_of_getLsbD_eq
  intro j hj
  have c : (10 : Int32).toInt = 10 := by decide
  rw [hb j, e, c]
  simp
  omega
theorem own_got {q0 : Int64} {fr n : Int32} {f f0 f1 f2 f3 f4 f5 f6 f7 f8 f9 : Nat → Int32} (e : ¬ n = (10 : Int32)) (hf : 0 ≤ fr.toInt ∧ fr.toInt ≤ 3) (hn : 1 ≤ n.toInt ∧ n.toInt ≤ 10) (h0 : f0 = own_put f fr q0 (0 : Int32) n) (h1 : f1 = own_put f0 fr q0 (1 : Int32) n) (h2 : f2 = own_put f1 fr q0 (2 : Int32) n) (h3 : f3 = own_put f2 fr q0 (3 : Int32) n) (h4 : f4 = own_put f3 fr q0 (4 : Int32) n) (h5 : f5 = own_put f4 fr q0 (5 : Int32) n) (h6 : f6 = own_put f5 fr q0 (6 : Int32) n) (h7 : f7 = own_put f6 fr q0 (7 : Int32) n) (h8 : f8 = own_put f7 fr q0 (8 : Int32) n) (h9 : f9 = own_put f8 fr q0 (9 : Int32) n) :
    own_acc f9 (fr).toNatClampNeg (n).toInt.toNat = (q0 &&& (((1 : Int64) <<< (((7 : Int32) * n) &&& 0x3f).toInt64) - (1 : Int64))) := by
  have ok := own_all hf h0 h1 h2 h3 h4 h5 h6 h7 h8 h9
  have hb := own_accbits n.toInt.toNat (by omega) (own_okbits hn ok)
  have n9 : n.toInt.toNat ≤ 9 := by
    have c : (10 : Int32).toInt = 10 := by decide
    have : n.toInt ≠ 10 := fun z => e (Int32.toInt_inj.mp (by rw [z, c]))
    omega
  apply Int64.toBitVec_inj.mp
  apply BitVec.eq_of_getLsbD_eq
  intro j hj
  have mb := own_maskbits n9 hj
  rw [own_self hn] at mb
  rw [hb j, Int64.toBitVec_and, BitVec.getLsbD_and, mb, Bool.and_comm]
theorem own_pos {fr n : Int32} (hf : 0 ≤ fr.toInt ∧ fr.toInt ≤ 3) (hn : 1 ≤ n.toInt ∧ n.toInt ≤ 10) : fPos (fr + Int32.ofNat (n).toInt.toNat) = (fr + n) := by
  unfold fPos
  have : Int32.ofNat n.toInt.toNat = n := by
    apply Int32.toInt_inj.mp
    rw [own_ofNat (by omega)]
    omega
  rw [this]

theorem pn_0 : plainName "terselink/tlk/TermRecordsReadNumberPinLaw" = true := by first | (simp [plainName, overriddenIn]; done) | decide +kernel
theorem pda8eb9 : parseMethodDescriptor "()V" = some ⟨[], none⟩ := by decide +kernel
theorem pd92f6cd9b : parseMethodDescriptor "([BI)V" = some ⟨[(.array .byte), .int], none⟩ := by decide +kernel
theorem pda8ead : parseMethodDescriptor "()J" = some ⟨[], some .long⟩ := by decide +kernel
theorem pda8eac : parseMethodDescriptor "()I" = some ⟨[], some .int⟩ := by decide +kernel
theorem pdc775de4d : parseMethodDescriptor "([BIJII)V" = some ⟨[(.array .byte), .int, .long, .int, .int], none⟩ := by decide +kernel
theorem pd3475ce5b : parseMethodDescriptor "([BJI)V" = some ⟨[(.array .byte), .long, .int], none⟩ := by decide +kernel
theorem ef_rm0 (m : MethodId) (q0 : Int64) (p1 : Int32) (p2 : Int32) (q3 : Int64) : entryFrame m #[(.long q0), (.int p1), (.int p2), (.long q3)] maxLocals = mkF m 0 #[.val (.long q0), .second, .val (.int p1), .val (.int p2), .val (.long q3), .second, .unset, .unset, .unset, .unset, .unset, .unset, .unset, .unset] [] := by first | (simp [entryFrame, mkF, argsToLocals, Value.category, maxLocals]; done) | rfl
def Q_rm0 (Z : State) (q0 : Int64) (p1 : Int32) (p2 : Int32) (q3 : Int64) (h0 : Heap) (n0 : Nat) (v : Option Value) (h : Heap) (L : List Loc) : Prop := v = some (.int 1) ∧ Fr n0 L
abbrev F_rm0 (Z : State) (q0 : Int64) (p1 : Int32) (p2 : Int32) (q3 : Int64) (h0 : Heap) (n0 : Nat) (s : State) (o : Outcome) (U : State) : Prop := ∃ v L, o = .returned v ∧ Q_rm0 Z q0 p1 p2 q3 h0 n0 v U.heap L ∧ FrameEnd s o U L room_1.cells room_1.slots
set_option maxRecDepth 65536 in
set_option maxHeartbeats 40000000 in
theorem rm0 (l : Launch) (Z : State) (aZ : Array Value) (hw : ∀ d ∈ tables_1, d.before aZ Z = true) (ws : List Jvm.Cond) (q0 : Int64) (p1 : Int32) (p2 : Int32) (q3 : Int64) (h0 : Heap) (n0 : Nat) (Z0 : n0 ≤ h0.size) :
    MetFree l x (head1 (Jvm.Cond.code x code maxLocals ret :: ws) room_1) (fun a U => a = #[(.long q0), (.int p1), (.int p2), (.long q3)] ∧ Z.Warmed39 U.vm ∧ U.heap = h0) (fun _ _ _ _ _ => True) (fun _ U o U' => ∃ v L, o = .returned v ∧ Q_rm0 Z q0 p1 p2 q3 h0 n0 v U'.heap L ∧ FrameEnd U o U' L room_1.cells room_1.slots) := by
  refine MetFree.of_bodySF (plainFor_of_name pn_0) hisR ?_
  intro p e s m args below meth c s₁ Bd hml0 hP hK
  obtain ⟨rfl, hZ, hh⟩ := hP
  have hx := Bd.exec
  have hby := Bd.bytes
  have hml : c.maxLocals = 14 := hml0
  have hown : s.vm.findClass "terselink/tlk/TermRecordsReadNumberPinLaw" = some m.cls := findClass_of_methodNamed Bd.named
  have hnm := (name_of_methodNamed Bd.named Bd.method).1
  have X0 : Stand p l e room_1 s m #[(.long q0), (.int p1), (.int p2), (.long q3)] below meth c s₁ [] 0 0 := Stand.of_body Bd
  have e0 : s₁.heap = h0 := by rw [← hh, Bd.state]; rfl
  have N0 := Fr.nil n0
  refine Go.st (fun _ k => castTop (ef_rm0 m q0 p1 p2 q3) k) ?_
  show Go p e below _ (s₁.setTop (mkF m 0 #[.val (.long q0), .second, .val (.int p1), .val (.int p2), .val (.long q3), .second, .unset, .unset, .unset, .unset, .unset, .unset, .unset, .unset] []))
  refine Go.st (fun _ k => XS.iconst X0.here hx rfl (hb hby at_0) k) ?_
  refine Go.st (fun _ k => XS.iloadN X0.here hx rfl (hb hby at_1) rfl k) ?_
  show Go p e below _ (s₁.setTop (mkF m 2 #[.val (.long q0), .second, .val (.int p1), .val (.int p2), .val (.long q3), .second, .unset, .unset, .unset, .unset, .unset, .unset, .unset, .unset] [(.int p1), (.int (1 : Int32))]))
  refine Go.st (fun _ k => X0.ldcInt hx hown (mvT hZ (hw _ (List.mem_of_getElem? (i := 0) rfl))) (g := (mkF m 2 #[.val (.long q0), .second, .val (.int p1), .val (.int p2), .val (.long q3), .second, .unset, .unset, .unset, .unset, .unset, .unset, .unset, .unset] [(.int p1), (.int (1 : Int32))])) rfl (hb hby at_2) _ k) ?_
  show Go p e below _ (s₁.setTop (mkF m 4 #[.val (.long q0), .second, .val (.int p1), .val (.int p2), .val (.long q3), .second, .unset, .unset, .unset, .unset, .unset, .unset, .unset, .unset] [(.int (2147483647 : Int32)), (.int p1), (.int (1 : Int32))]))
  refine Go.st (fun _ k => XS.iand X0.here hx rfl (hb hby at_4) rfl k) ?_
  refine Go.st (fun _ k => XS.bipush X0.here hx rfl (hb hby at_5) k) ?_
  show Go p e below _ (s₁.setTop (mkF m 7 #[.val (.long q0), .second, .val (.int p1), .val (.int p2), .val (.long q3), .second, .unset, .unset, .unset, .unset, .unset, .unset, .unset, .unset] [(.int (10 : Int32)), (.int (p1 &&& (2147483647 : Int32))), (.int (1 : Int32))]))
  refine Go.st (fun _ k => XS.irem X0.here hx rfl (hb hby at_7) rfl (by decide) k) ?_
  show Go p e below _ (s₁.setTop (mkF m 8 #[.val (.long q0), .second, .val (.int p1), .val (.int p2), .val (.long q3), .second, .unset, .unset, .unset, .unset, .unset, .unset, .unset, .unset] [(.int (jrem (p1 &&& (2147483647 : Int32)) (10 : Int32))), (.int (1 : Int32))]))
  refine Go.st (fun _ k => XS.iadd X0.here hx rfl (hb hby at_8) rfl k) ?_
  show Go p e below _ (s₁.setTop (mkF m 9 #[.val (.long q0), .second, .val (.int p1), .val (.int p2), .val (.long q3), .second, .unset, .unset, .unset, .unset, .unset, .unset, .unset, .unset] [(.int ((1 : Int32) + (jrem (p1 &&& (2147483647 : Int32)) (10 : Int32))))]))
  generalize hv1 : ((1 : Int32) + (jrem (p1 &&& (2147483647 : Int32)) (10 : Int32))) = v1
  refine Go.st (fun _ k => XS.istore X0.here hx rfl (hb hby at_9) rfl (l' := #[.val (.long q0), .second, .val (.int p1), .val (.int p2), .val (.long q3), .second, .val (.int v1), .unset, .unset, .unset, .unset, .unset, .unset, .unset]) rfl k) ?_
  show Go p e below _ (s₁.setTop (mkF m 11 #[.val (.long q0), .second, .val (.int p1), .val (.int p2), .val (.long q3), .second, .val (.int v1), .unset, .unset, .unset, .unset, .unset, .unset, .unset] []))
  refine Go.st (fun _ k => XS.iloadN X0.here hx rfl (hb hby at_11) rfl k) ?_
  refine Go.st (fun _ k => XS.iconst X0.here hx rfl (hb hby at_12) k) ?_
  show Go p e below _ (s₁.setTop (mkF m 13 #[.val (.long q0), .second, .val (.int p1), .val (.int p2), .val (.long q3), .second, .val (.int v1), .unset, .unset, .unset, .unset, .unset, .unset, .unset] [(.int (3 : Int32)), (.int p2)]))
  refine Go.st (fun _ k => XS.iand X0.here hx rfl (hb hby at_13) rfl k) ?_
  show Go p e below _ (s₁.setTop (mkF m 14 #[.val (.long q0), .second, .val (.int p1), .val (.int p2), .val (.long q3), .second, .val (.int v1), .unset, .unset, .unset, .unset, .unset, .unset, .unset] [(.int (p2 &&& (3 : Int32)))]))
  generalize hv2 : (p2 &&& (3 : Int32)) = v2
  refine Go.st (fun _ k => XS.istore X0.here hx rfl (hb hby at_14) rfl (l' := #[.val (.long q0), .second, .val (.int p1), .val (.int p2), .val (.long q3), .second, .val (.int v1), .val (.int v2), .unset, .unset, .unset, .unset, .unset, .unset]) rfl k) ?_
  show Go p e below _ (s₁.setTop (mkF m 16 #[.val (.long q0), .second, .val (.int p1), .val (.int p2), .val (.long q3), .second, .val (.int v1), .val (.int v2), .unset, .unset, .unset, .unset, .unset, .unset] []))
  refine Go.st (fun _ k => XS.bipush X0.here hx rfl (hb hby at_16) k) ?_
  show Go p e below _ (s₁.setTop (mkF m 18 #[.val (.long q0), .second, .val (.int p1), .val (.int p2), .val (.long q3), .second, .val (.int v1), .val (.int v2), .unset, .unset, .unset, .unset, .unset, .unset] [(.int (16 : Int32))]))
  obtain ⟨T3, h3, k3, X3, e3, E3, A3, st3⟩ := newP X0 hx hZ (hw _ (List.mem_of_getElem? (i := 1) rfl)) e0 (g := (mkF m 18 #[.val (.long q0), .second, .val (.int p1), .val (.int p2), .val (.long q3), .second, .val (.int v1), .val (.int v2), .unset, .unset, .unset, .unset, .unset, .unset] [(.int (16 : Int32))])) rfl (hb hby at_18) rfl (by decide) (cap := 16) (by decide) (by decide) (by decide) (by decide)
  obtain ⟨b3, g3⟩ : ∃ z, z = h0.size := ⟨_, rfl⟩
  have gg3 : n0 ≤ b3 := Nat.le_trans Z0 (Nat.le_of_eq g3.symm)
  rw [← g3] at A3 st3
  have Z3 : n0 ≤ h3.size := Nat.le_trans Z0 E3.1
  have V3 : own_arr Z h3 b3 (fun _ => 0) := own_arr_new A3
  refine Go.st (fun _ k => st3 _ k) ?_
  show Go p e below _ (T3.setTop (mkF m 20 #[.val (.long q0), .second, .val (.int p1), .val (.int p2), .val (.long q3), .second, .val (.int v1), .val (.int v2), .unset, .unset, .unset, .unset, .unset, .unset] [(.ref b3)]))
  have hn0 := own_n hv1
  have hf0 := own_from hv2
  refine Go.st (fun _ k => XS.astore X3.here hx rfl (hb hby at_20) rfl rfl (l' := #[.val (.long q0), .second, .val (.int p1), .val (.int p2), .val (.long q3), .second, .val (.int v1), .val (.int v2), .val (.ref b3), .unset, .unset, .unset, .unset, .unset]) rfl k) ?_
  show Go p e below _ (T3.setTop (mkF m 22 #[.val (.long q0), .second, .val (.int p1), .val (.int p2), .val (.long q3), .second, .val (.int v1), .val (.int v2), .val (.ref b3), .unset, .unset, .unset, .unset, .unset] []))
  have kk274 : ∀ (Tkk274 : State) (lkk274 : List Loc) (hkk274 : Heap) (u0 : Nat → Int32) (u1 : Nat → Int32) (u2 : Nat → Int32) (u3 : Nat → Int32) (u4 : Nat → Int32) (u5 : Nat → Int32) (u6 : Nat → Int32) (u7 : Nat → Int32) (u8 : Nat → Int32) (u9 : Nat → Int32) (u10 : Nat → Int32), (Stand p l e room_1 s m #[(.long q0), (.int p1), (.int p2), (.long q3)] below meth c Tkk274 lkk274 1 16) → (Tkk274.heap = hkk274) → (Fr n0 lkk274) → (n0 ≤ hkk274.size) → (own_arr Z hkk274 b3 u10) → (u1 = own_put u0 v2 q0 (0 : Int32) v1) → (u2 = own_put u1 v2 q0 (1 : Int32) v1) → (u3 = own_put u2 v2 q0 (2 : Int32) v1) → (u4 = own_put u3 v2 q0 (3 : Int32) v1) → (u5 = own_put u4 v2 q0 (4 : Int32) v1) → (u6 = own_put u5 v2 q0 (5 : Int32) v1) → (u7 = own_put u6 v2 q0 (6 : Int32) v1) → (u8 = own_put u7 v2 q0 (7 : Int32) v1) → (u9 = own_put u8 v2 q0 (8 : Int32) v1) → (u10 = own_put u9 v2 q0 (9 : Int32) v1) → Go p e below (F_rm0 Z q0 p1 p2 q3 h0 n0 s) (Tkk274.setTop (mkF m 274 #[.val (.long q0), .second, .val (.int p1), .val (.int p2), .val (.long q3), .second, .val (.int v1), .val (.int v2), .val (.ref b3), .unset, .unset, .unset, .unset, .unset] [])) := by
    intro Tkk274 lkk274 hkk274 u0 u1 u2 u3 u4 u5 u6 u7 u8 u9 u10 Xkk274 ekk274 Nkk274 Zkk274 Akk274 hu1 hu2 hu3 hu4 hu5 hu6 hu7 hu8 hu9 hu10
    show Go p e below _ (Tkk274.setTop (mkF m 274 #[.val (.long q0), .second, .val (.int p1), .val (.int p2), .val (.long q3), .second, .val (.int v1), .val (.int v2), .val (.ref b3), .unset, .unset, .unset, .unset, .unset] []))
    refine Go.st (fun _ k => XS.iload Xkk274.here hx rfl (hb hby at_274) rfl k) ?_
    refine Go.st (fun _ k => XS.bipush Xkk274.here hx rfl (hb hby at_276) k) ?_
    show Go p e below _ (Tkk274.setTop (mkF m 278 #[.val (.long q0), .second, .val (.int p1), .val (.int p2), .val (.long q3), .second, .val (.int v1), .val (.int v2), .val (.ref b3), .unset, .unset, .unset, .unset, .unset] [(.int (10 : Int32)), (.int v1)]))
    by_cases hc4 : v1 = (10 : Int32)
    · show Go p e below _ (Tkk274.setTop (mkF m 278 #[.val (.long q0), .second, .val (.int p1), .val (.int p2), .val (.long q3), .second, .val (.int v1), .val (.int v2), .val (.ref b3), .unset, .unset, .unset, .unset, .unset] [(.int (10 : Int32)), (.int v1)]))
      refine Go.st (fun _ k => XS.icmpNo Xkk274.here hx rfl (hb hby at_278) rfl (teq hc4).2 k) ?_
      show Go p e below _ (Tkk274.setTop (mkF m 281 #[.val (.long q0), .second, .val (.int p1), .val (.int p2), .val (.long q3), .second, .val (.int v1), .val (.int v2), .val (.ref b3), .unset, .unset, .unset, .unset, .unset] []))
      refine Go.st (fun _ k => XS.lloadN Xkk274.here hx rfl (hb hby at_281) rfl k) ?_
      refine Go.st (fun _ k => XS.goto Xkk274.here hx rfl (pc0 := 282) (pc' := 296) rfl (hb hby at_282) (by decide) (by decide) k) ?_
      show Go p e below _ (Tkk274.setTop (mkF m 296 #[.val (.long q0), .second, .val (.int p1), .val (.int p2), .val (.long q3), .second, .val (.int v1), .val (.int v2), .val (.ref b3), .unset, .unset, .unset, .unset, .unset] [(.long q0)]))
      refine Go.st (fun _ k => XS.lstore Xkk274.here hx rfl (hb hby at_296) rfl (l' := #[.val (.long q0), .second, .val (.int p1), .val (.int p2), .val (.long q3), .second, .val (.int v1), .val (.int v2), .val (.ref b3), .val (.long q0), .second, .unset, .unset, .unset]) rfl k) ?_
      show Go p e below _ (Tkk274.setTop (mkF m 298 #[.val (.long q0), .second, .val (.int p1), .val (.int p2), .val (.long q3), .second, .val (.int v1), .val (.int v2), .val (.ref b3), .val (.long q0), .second, .unset, .unset, .unset] []))
      obtain ⟨T5, h5, X5, e5, E5, A5, D5, -, st5⟩ := newO Xkk274 hx hZ hown (hw _ (List.mem_of_getElem? (i := 14) rfl)) (hw _ (List.mem_of_getElem? (i := 15) rfl)) (hw _ (List.mem_of_getElem? (i := 16) rfl)) ekk274 (g := (mkF m 298 #[.val (.long q0), .second, .val (.int p1), .val (.int p2), .val (.long q3), .second, .val (.int v1), .val (.int v2), .val (.ref b3), .val (.long q0), .second, .unset, .unset, .unset] [])) rfl (hb hby at_298) (by decide) (by decide)
      obtain ⟨b5, g5⟩ : ∃ z, z = hkk274.size := ⟨_, rfl⟩
      have ne5_b3 : b3 ≠ b5 := Nat.ne_of_lt (Nat.lt_of_lt_of_le (own_arr_lt Akk274) (Nat.le_of_eq g5.symm))
      have gg5 : n0 ≤ b5 := Nat.le_trans Zkk274 (Nat.le_of_eq g5.symm)
      rw [← g5] at A5 D5 st5
      have F5_A_b3 := own_arr_ext E5 Akk274
      have Z5 : n0 ≤ h5.size := Nat.le_trans Zkk274 E5.1
      have F5_new_array : Fld Z h5 b5 "terselink/tlk/TermRecords" "array" "[B" .null := D5 (Or.inl (hw _ (List.mem_of_getElem? (i := 29) rfl))) (ty := (.array .byte)) (by decide)
      have F5_new_at : Fld Z h5 b5 "terselink/tlk/TermRecords" "at" "I" (.int (0 : Int32)) := D5 (Or.inl (hw _ (List.mem_of_getElem? (i := 31) rfl))) (ty := .int) (by decide)
      refine Go.st (fun _ k => st5 _ k) ?_
      show Go p e below _ (T5.setTop (mkF m 301 #[.val (.long q0), .second, .val (.int p1), .val (.int p2), .val (.long q3), .second, .val (.int v1), .val (.int v2), .val (.ref b3), .val (.long q0), .second, .unset, .unset, .unset] [(.ref b5)]))
      refine Go.st (fun _ k => XS.dup X5.here hx rfl (hb hby at_301) rfl rfl k) ?_
      show Go p e below _ (T5.setTop (mkF m 302 #[.val (.long q0), .second, .val (.int p1), .val (.int p2), .val (.long q3), .second, .val (.int v1), .val (.int v2), .val (.ref b3), .val (.long q0), .second, .unset, .unset, .unset] [(.ref b5), (.ref b5)]))
      obtain ⟨_, _, ⟨T6, L6, k6, n6⟩, -, X6, ⟨Lc6, hQ6, l6, y6, z6⟩, st6⟩ := X5.specialBack hx (y := (⟨"terselink/tlk/TermRecords", "<init>", "()V"⟩ : MethodName)) rfl hown (mvT hZ (hw _ (List.mem_of_getElem? (i := 17) rfl))) (mvT hZ (hw _ (List.mem_of_getElem? (i := 18) rfl))) (mvT hZ (hw _ (List.mem_of_getElem? (i := 19) rfl))) (by decide) (backOf (W := 1) (rmInit l Z aZ hw [] b5 h5 n0 ) hZ (hw _ (List.mem_of_getElem? (i := 19) rfl)) (hw _ (List.mem_of_getElem? (i := 16) rfl)) (by decide) (by decide)) (g := (mkF m 302 #[.val (.long q0), .second, .val (.int p1), .val (.int p2), .val (.long q3), .second, .val (.int v1), .val (.int v2), .val (.ref b3), .val (.long q0), .second, .unset, .unset, .unset] [(.ref b5), (.ref b5)])) rfl (by rw [hml]; rfl) (Steps.refl _) (a := b5) (argsL := []) (rest := [(.ref b5)]) (lenOf pda8eb9 rfl) rfl (by show 2 * 0 + _ ≤ _; exact Nat.le_of_eq rfl) (hb hby at_302) (fun _ _ => ⟨rfl, e5, (by decide : 2 + 0 ≤ _), (by decide : 18 + 0 ≤ _)⟩)
      dsimp only [Pt.U, Pt.locs, Pt.cells, Pt.slots] at X6 l6 y6 z6 st6 hQ6
      subst l6 y6 z6
      obtain ⟨rfl, N6q, e6⟩ := hQ6
      have N6 := Fr.app Nkk274 N6q
      refine Go.st (fun _ k => st6.trans k) ?_
      show Go p e below _ (T6.setTop (mkF m 305 #[.val (.long q0), .second, .val (.int p1), .val (.int p2), .val (.long q3), .second, .val (.int v1), .val (.int v2), .val (.ref b3), .val (.long q0), .second, .unset, .unset, .unset] [(.ref b5)]))
      refine Go.st (fun _ k => XS.astore X6.here hx rfl (hb hby at_305) rfl rfl (l' := #[.val (.long q0), .second, .val (.int p1), .val (.int p2), .val (.long q3), .second, .val (.int v1), .val (.int v2), .val (.ref b3), .val (.long q0), .second, .val (.ref b5), .unset, .unset]) rfl k) ?_
      show Go p e below _ (T6.setTop (mkF m 307 #[.val (.long q0), .second, .val (.int p1), .val (.int p2), .val (.long q3), .second, .val (.int v1), .val (.int v2), .val (.ref b3), .val (.long q0), .second, .val (.ref b5), .unset, .unset] []))
      refine Go.st (fun _ k => XS.aload X6.here hx rfl (hb hby at_307) rfl rfl k) ?_
      refine Go.st (fun _ k => XS.aload X6.here hx rfl (hb hby at_309) rfl rfl k) ?_
      show Go p e below _ (T6.setTop (mkF m 311 #[.val (.long q0), .second, .val (.int p1), .val (.int p2), .val (.long q3), .second, .val (.int v1), .val (.int v2), .val (.ref b3), .val (.long q0), .second, .val (.ref b5), .unset, .unset] [(.ref b3), (.ref b5)]))
      refine Go.st (fun _ k => XS.iload X6.here hx rfl (hb hby at_311) rfl k) ?_
      show Go p e below _ (T6.setTop (mkF m 313 #[.val (.long q0), .second, .val (.int p1), .val (.int p2), .val (.long q3), .second, .val (.int v1), .val (.int v2), .val (.ref b3), .val (.long q0), .second, .val (.ref b5), .unset, .unset] [(.int v2), (.ref b3), (.ref b5)]))
      obtain ⟨cq7, kq7, q7a, q7b, q7c⟩ := isOf hZ e6 A5
      obtain ⟨_, _, ⟨T7, L7, k7, n7⟩, -, X7, ⟨Lc7, hQ7, l7, y7, z7⟩, st7⟩ := X6.virtualBack hx (y := (⟨"terselink/tlk/TermRecords", "moveTo", "([BI)V"⟩ : MethodName)) (z := (⟨"terselink/tlk/TermRecords", "moveTo", "([BI)V"⟩ : MethodName)) hown (mvT hZ (hw _ (List.mem_of_getElem? (i := 23) rfl))) (mvT hZ (hw _ (List.mem_of_getElem? (i := 24) rfl))) (notFace_of_selects (args := #[]) (mvT hZ (hw _ (List.mem_of_getElem? (i := 26) rfl)))) (mvT hZ (hw _ (List.mem_of_getElem? (i := 26) rfl))) (mvT hZ (hw _ (List.mem_of_getElem? (i := 25) rfl))) (by decide) (backOf (W := 0) (rmMove l Z aZ hw []  b5 b3 v2 h5 n0 Z5 gg5 A5  F5_new_array F5_new_at) hZ (hw _ (List.mem_of_getElem? (i := 27) rfl)) (hw _ (List.mem_of_getElem? (i := 16) rfl)) (by decide) (by decide)) q7a q7c (g := (mkF m 313 #[.val (.long q0), .second, .val (.int p1), .val (.int p2), .val (.long q3), .second, .val (.int v1), .val (.int v2), .val (.ref b3), .val (.long q0), .second, .val (.ref b5), .unset, .unset] [(.int v2), (.ref b3), (.ref b5)])) rfl (by rw [hml]; rfl) (Steps.refl _) (argsL := [(.ref b3), (.int v2)]) (rest := []) (lenOf pd92f6cd9b rfl) rfl (by show 2 * 0 + _ ≤ _; exact Nat.le_of_eq rfl) (hb hby at_313) (fun _ _ => ⟨rfl, e6, (by decide : 2 + 0 ≤ _), (by decide : 18 + 0 ≤ _)⟩)
      dsimp only [Pt.U, Pt.locs, Pt.cells, Pt.slots] at X7 l7 y7 z7 st7 hQ7
      subst l7 y7 z7
      obtain ⟨rfl, N7q, K7q, E7q, Fc7_0, Fc7_1⟩ := hQ7
      have N7 := Fr.app N6 N7q
      have F7_A_b3 := own_arr_keep K7q F5_A_b3 (ninS ne5_b3 nin0)
      have F7_E_b5 := A5.keep K7q
      have Zc7 : n0 ≤ T7.heap.size := Nat.le_trans Z5 K7q.1
      refine Go.st (fun _ k => st7.trans k) ?_
      show Go p e below _ (T7.setTop (mkF m 316 #[.val (.long q0), .second, .val (.int p1), .val (.int p2), .val (.long q3), .second, .val (.int v1), .val (.int v2), .val (.ref b3), .val (.long q0), .second, .val (.ref b5), .unset, .unset] []))
      refine Go.st (fun _ k => XS.aload X7.here hx rfl (hb hby at_316) rfl rfl k) ?_
      show Go p e below _ (T7.setTop (mkF m 318 #[.val (.long q0), .second, .val (.int p1), .val (.int p2), .val (.long q3), .second, .val (.int v1), .val (.int v2), .val (.ref b3), .val (.long q0), .second, .val (.ref b5), .unset, .unset] [(.ref b5)]))
      obtain ⟨cq8, kq8, q8a, q8b, q8c⟩ := isOf hZ rfl F7_E_b5
      obtain ⟨_, _, ⟨T8, L8, k8, n8⟩, -, X8, ⟨Lc8, hQ8, l8, y8, z8⟩, st8⟩ := X7.virtualBack hx (y := (⟨"terselink/tlk/TermRecords", "readNumber", "()J"⟩ : MethodName)) (z := (⟨"terselink/tlk/TermRecords", "readNumber", "()J"⟩ : MethodName)) hown (mvT hZ (hw _ (List.mem_of_getElem? (i := 32) rfl))) (mvT hZ (hw _ (List.mem_of_getElem? (i := 33) rfl))) (notFace_of_selects (args := #[]) (mvT hZ (hw _ (List.mem_of_getElem? (i := 35) rfl)))) (mvT hZ (hw _ (List.mem_of_getElem? (i := 35) rfl))) (mvT hZ (hw _ (List.mem_of_getElem? (i := 34) rfl))) (by decide) (backOf (W := 0) (rmRead l Z aZ hw [] b5 b3 v2 u10 (v1).toInt.toNat T7.heap n0 gg5 F7_E_b5 Fc7_0 Fc7_1 F7_A_b3 ne5_b3 (own_p0 hf0) (own_p1 hn0) (own_p2 hf0 hn0) (own_p3 hf0 hn0 hu1 hu2 hu3 hu4 hu5 hu6 hu7 hu8 hu9 hu10) (own_p4 hf0 hn0 hu1 hu2 hu3 hu4 hu5 hu6 hu7 hu8 hu9 hu10)) hZ (hw _ (List.mem_of_getElem? (i := 36) rfl)) (hw _ (List.mem_of_getElem? (i := 16) rfl)) (by decide) (by decide)) q8a q8c (g := (mkF m 318 #[.val (.long q0), .second, .val (.int p1), .val (.int p2), .val (.long q3), .second, .val (.int v1), .val (.int v2), .val (.ref b3), .val (.long q0), .second, .val (.ref b5), .unset, .unset] [(.ref b5)])) rfl (by rw [hml]; rfl) (Steps.refl _) (argsL := []) (rest := []) (lenOf pda8ead rfl) rfl (by show 2 * 0 + _ ≤ _; exact Nat.le_of_eq rfl) (hb hby at_318) (fun _ _ => ⟨rfl, rfl, (by decide : 2 + 0 ≤ _), (by decide : 18 + 0 ≤ _)⟩)
      dsimp only [Pt.U, Pt.locs, Pt.cells, Pt.slots] at X8 l8 y8 z8 st8 hQ8
      subst l8 y8 z8
      obtain ⟨rfl, N8q, K8q, E8q, Ft8⟩ := hQ8
      have N8 := Fr.app N7 N8q
      have F8_A_b3 := own_arr_keep K8q F7_A_b3 (ninS ne5_b3 nin0)
      have F8_E_b5 := F7_E_b5.keep K8q
      have Zc8 : n0 ≤ T8.heap.size := Nat.le_trans Zc7 K8q.1
      refine Go.st (fun _ k => st8.trans k) ?_
      show Go p e below _ (T8.setTop (mkF m 321 #[.val (.long q0), .second, .val (.int p1), .val (.int p2), .val (.long q3), .second, .val (.int v1), .val (.int v2), .val (.ref b3), .val (.long q0), .second, .val (.ref b5), .unset, .unset] [(.long (own_acc u10 (v2).toNatClampNeg (v1).toInt.toNat))]))
      generalize hv9 : (own_acc u10 (v2).toNatClampNeg (v1).toInt.toNat) = v9
      refine Go.st (fun _ k => XS.lstore X8.here hx rfl (hb hby at_321) rfl (l' := #[.val (.long q0), .second, .val (.int p1), .val (.int p2), .val (.long q3), .second, .val (.int v1), .val (.int v2), .val (.ref b3), .val (.long q0), .second, .val (.ref b5), .val (.long v9), .second]) rfl k) ?_
      show Go p e below _ (T8.setTop (mkF m 323 #[.val (.long q0), .second, .val (.int p1), .val (.int p2), .val (.long q3), .second, .val (.int v1), .val (.int v2), .val (.ref b3), .val (.long q0), .second, .val (.ref b5), .val (.long v9), .second] []))
      refine Go.st (fun _ k => XS.lload X8.here hx rfl (hb hby at_323) rfl k) ?_
      refine Go.st (fun _ k => XS.lload X8.here hx rfl (hb hby at_325) rfl k) ?_
      show Go p e below _ (T8.setTop (mkF m 327 #[.val (.long q0), .second, .val (.int p1), .val (.int p2), .val (.long q3), .second, .val (.int v1), .val (.int v2), .val (.ref b3), .val (.long q0), .second, .val (.ref b5), .val (.long v9), .second] [(.long q0), (.long v9)]))
      refine Go.st (fun _ k => XS.lcmp X8.here hx rfl (hb hby at_327) rfl k) ?_
      show Go p e below _ (T8.setTop (mkF m 328 #[.val (.long q0), .second, .val (.int p1), .val (.int p2), .val (.long q3), .second, .val (.int v1), .val (.int v2), .val (.ref b3), .val (.long q0), .second, .val (.ref b5), .val (.long v9), .second] [(.int (lcmpW v9 q0))]))
      refine Go.st (fun _ k => XS.ifNo X8.here hx rfl (hb hby at_328) rfl ((if0 _ _).trans (teq ((lw_eq _ _).mpr (hv9.symm.trans (own_got10 hc4 hf0 hn0 hu1 hu2 hu3 hu4 hu5 hu6 hu7 hu8 hu9 hu10)))).2) k) ?_
      show Go p e below _ (T8.setTop (mkF m 331 #[.val (.long q0), .second, .val (.int p1), .val (.int p2), .val (.long q3), .second, .val (.int v1), .val (.int v2), .val (.ref b3), .val (.long q0), .second, .val (.ref b5), .val (.long v9), .second] []))
      refine Go.st (fun _ k => XS.aload X8.here hx rfl (hb hby at_331) rfl rfl k) ?_
      show Go p e below _ (T8.setTop (mkF m 333 #[.val (.long q0), .second, .val (.int p1), .val (.int p2), .val (.long q3), .second, .val (.int v1), .val (.int v2), .val (.ref b3), .val (.long q0), .second, .val (.ref b5), .val (.long v9), .second] [(.ref b5)]))
      obtain ⟨cq10, kq10, q10a, q10b, q10c⟩ := isOf hZ rfl F8_E_b5
      obtain ⟨_, _, ⟨T10, L10, k10, n10⟩, -, X10, ⟨Lc10, hQ10, l10, y10, z10⟩, st10⟩ := X8.virtualBack hx (y := (⟨"terselink/tlk/TermRecords", "position", "()I"⟩ : MethodName)) (z := (⟨"terselink/tlk/TermRecords", "position", "()I"⟩ : MethodName)) hown (mvT hZ (hw _ (List.mem_of_getElem? (i := 37) rfl))) (mvT hZ (hw _ (List.mem_of_getElem? (i := 38) rfl))) (notFace_of_selects (args := #[]) (mvT hZ (hw _ (List.mem_of_getElem? (i := 40) rfl)))) (mvT hZ (hw _ (List.mem_of_getElem? (i := 40) rfl))) (mvT hZ (hw _ (List.mem_of_getElem? (i := 39) rfl))) (by decide) (backOf (W := 0) (rmPos l Z aZ hw [] b5 (v2 + Int32.ofNat (v1).toInt.toNat) T8.heap n0 Ft8) hZ (hw _ (List.mem_of_getElem? (i := 41) rfl)) (hw _ (List.mem_of_getElem? (i := 16) rfl)) (by decide) (by decide)) q10a q10c (g := (mkF m 333 #[.val (.long q0), .second, .val (.int p1), .val (.int p2), .val (.long q3), .second, .val (.int v1), .val (.int v2), .val (.ref b3), .val (.long q0), .second, .val (.ref b5), .val (.long v9), .second] [(.ref b5)])) rfl (by rw [hml]; rfl) (Steps.refl _) (argsL := []) (rest := []) (lenOf pda8eac rfl) rfl (by show 2 * 0 + _ ≤ _; exact Nat.le_of_eq rfl) (hb hby at_333) (fun _ _ => ⟨rfl, rfl, (by decide : 2 + 0 ≤ _), (by decide : 18 + 0 ≤ _)⟩)
      dsimp only [Pt.U, Pt.locs, Pt.cells, Pt.slots] at X10 l10 y10 z10 st10 hQ10
      subst l10 y10 z10
      obtain ⟨rfl, N10q, e10⟩ := hQ10
      have N10 := Fr.app N8 N10q
      refine Go.st (fun _ k => st10.trans k) ?_
      show Go p e below _ (T10.setTop (mkF m 336 #[.val (.long q0), .second, .val (.int p1), .val (.int p2), .val (.long q3), .second, .val (.int v1), .val (.int v2), .val (.ref b3), .val (.long q0), .second, .val (.ref b5), .val (.long v9), .second] [(.int (fPos (v2 + Int32.ofNat (v1).toInt.toNat)))]))
      refine Go.st (fun _ k => XS.iload X10.here hx rfl (hb hby at_336) rfl k) ?_
      refine Go.st (fun _ k => XS.iload X10.here hx rfl (hb hby at_338) rfl k) ?_
      show Go p e below _ (T10.setTop (mkF m 340 #[.val (.long q0), .second, .val (.int p1), .val (.int p2), .val (.long q3), .second, .val (.int v1), .val (.int v2), .val (.ref b3), .val (.long q0), .second, .val (.ref b5), .val (.long v9), .second] [(.int v1), (.int v2), (.int (fPos (v2 + Int32.ofNat (v1).toInt.toNat)))]))
      refine Go.st (fun _ k => XS.iadd X10.here hx rfl (hb hby at_340) rfl k) ?_
      refine Go.st (fun _ k => XS.icmpNo X10.here hx rfl (hb hby at_341) rfl (teq (own_pos hf0 hn0)).2 k) ?_
      show Go p e below _ (T10.setTop (mkF m 344 #[.val (.long q0), .second, .val (.int p1), .val (.int p2), .val (.long q3), .second, .val (.int v1), .val (.int v2), .val (.ref b3), .val (.long q0), .second, .val (.ref b5), .val (.long v9), .second] []))
      refine Go.st (fun _ k => XS.iconst X10.here hx rfl (hb hby at_344) k) ?_
      refine Go.st (fun _ k => XS.goto X10.here hx rfl (pc0 := 345) (pc' := 349) rfl (hb hby at_345) (by decide) (by decide) k) ?_
      show Go p e below _ (T10.setTop (mkF m 349 #[.val (.long q0), .second, .val (.int p1), .val (.int p2), .val (.long q3), .second, .val (.int v1), .val (.int v2), .val (.ref b3), .val (.long q0), .second, .val (.ref b5), .val (.long v9), .second] [(.int (1 : Int32))]))
      obtain ⟨fs, hr, hrun, hended, hW, hsame⟩ := X10.leave (v := some (.int (1 : Int32))) (fun h => by rw [Bd.returns] at h; cases h)
      refine ⟨_, _, retN X10 hx (t := .boolean) Bd.returns (by simp) (hb hby at_349) hr, hrun, hended, _, _, rfl, ?_, ⟨_, rfl⟩, hW, hsame.mono (by decide) (by decide)⟩
      show Q_rm0 Z q0 p1 p2 q3 h0 n0 _ T10.heap _
      rw [e10]
      exact ⟨rfl, N10⟩
    · show Go p e below _ (Tkk274.setTop (mkF m 278 #[.val (.long q0), .second, .val (.int p1), .val (.int p2), .val (.long q3), .second, .val (.int v1), .val (.int v2), .val (.ref b3), .unset, .unset, .unset, .unset, .unset] [(.int (10 : Int32)), (.int v1)]))
      refine Go.st (fun _ k => XS.icmpYes Xkk274.here hx rfl (pc0 := 278) (pc' := 285) rfl (hb hby at_278) rfl (feq hc4).2 (by decide) (by decide) k) ?_
      show Go p e below _ (Tkk274.setTop (mkF m 285 #[.val (.long q0), .second, .val (.int p1), .val (.int p2), .val (.long q3), .second, .val (.int v1), .val (.int v2), .val (.ref b3), .unset, .unset, .unset, .unset, .unset] []))
      refine Go.st (fun _ k => XS.lloadN Xkk274.here hx rfl (hb hby at_285) rfl k) ?_
      refine Go.st (fun _ k => XS.lconst Xkk274.here hx rfl (hb hby at_286) k) ?_
      show Go p e below _ (Tkk274.setTop (mkF m 287 #[.val (.long q0), .second, .val (.int p1), .val (.int p2), .val (.long q3), .second, .val (.int v1), .val (.int v2), .val (.ref b3), .unset, .unset, .unset, .unset, .unset] [(.long (1 : Int64)), (.long q0)]))
      refine Go.st (fun _ k => XS.bipush Xkk274.here hx rfl (hb hby at_287) k) ?_
      refine Go.st (fun _ k => XS.iload Xkk274.here hx rfl (hb hby at_289) rfl k) ?_
      show Go p e below _ (Tkk274.setTop (mkF m 291 #[.val (.long q0), .second, .val (.int p1), .val (.int p2), .val (.long q3), .second, .val (.int v1), .val (.int v2), .val (.ref b3), .unset, .unset, .unset, .unset, .unset] [(.int v1), (.int (7 : Int32)), (.long (1 : Int64)), (.long q0)]))
      refine Go.st (fun _ k => XS.imul Xkk274.here hx rfl (hb hby at_291) rfl k) ?_
      refine Go.st (fun _ k => XS.lshl Xkk274.here hx rfl (hb hby at_292) rfl k) ?_
      show Go p e below _ (Tkk274.setTop (mkF m 293 #[.val (.long q0), .second, .val (.int p1), .val (.int p2), .val (.long q3), .second, .val (.int v1), .val (.int v2), .val (.ref b3), .unset, .unset, .unset, .unset, .unset] [(.long ((1 : Int64) <<< (((7 : Int32) * v1) &&& 0x3f).toInt64)), (.long q0)]))
      refine Go.st (fun _ k => XS.lconst Xkk274.here hx rfl (hb hby at_293) k) ?_
      refine Go.st (fun _ k => XS.lsub Xkk274.here hx rfl (hb hby at_294) rfl k) ?_
      show Go p e below _ (Tkk274.setTop (mkF m 295 #[.val (.long q0), .second, .val (.int p1), .val (.int p2), .val (.long q3), .second, .val (.int v1), .val (.int v2), .val (.ref b3), .unset, .unset, .unset, .unset, .unset] [(.long (((1 : Int64) <<< (((7 : Int32) * v1) &&& 0x3f).toInt64) - (1 : Int64))), (.long q0)]))
      refine Go.st (fun _ k => XS.land Xkk274.here hx rfl (hb hby at_295) rfl k) ?_
      show Go p e below _ (Tkk274.setTop (mkF m 296 #[.val (.long q0), .second, .val (.int p1), .val (.int p2), .val (.long q3), .second, .val (.int v1), .val (.int v2), .val (.ref b3), .unset, .unset, .unset, .unset, .unset] [(.long (q0 &&& (((1 : Int64) <<< (((7 : Int32) * v1) &&& 0x3f).toInt64) - (1 : Int64))))]))
      generalize hv11 : (q0 &&& (((1 : Int64) <<< (((7 : Int32) * v1) &&& 0x3f).toInt64) - (1 : Int64))) = v11
      refine Go.st (fun _ k => XS.lstore Xkk274.here hx rfl (hb hby at_296) rfl (l' := #[.val (.long q0), .second, .val (.int p1), .val (.int p2), .val (.long q3), .second, .val (.int v1), .val (.int v2), .val (.ref b3), .val (.long v11), .second, .unset, .unset, .unset]) rfl k) ?_
      show Go p e below _ (Tkk274.setTop (mkF m 298 #[.val (.long q0), .second, .val (.int p1), .val (.int p2), .val (.long q3), .second, .val (.int v1), .val (.int v2), .val (.ref b3), .val (.long v11), .second, .unset, .unset, .unset] []))
      obtain ⟨T12, h12, X12, e12, E12, A12, D12, -, st12⟩ := newO Xkk274 hx hZ hown (hw _ (List.mem_of_getElem? (i := 14) rfl)) (hw _ (List.mem_of_getElem? (i := 15) rfl)) (hw _ (List.mem_of_getElem? (i := 16) rfl)) ekk274 (g := (mkF m 298 #[.val (.long q0), .second, .val (.int p1), .val (.int p2), .val (.long q3), .second, .val (.int v1), .val (.int v2), .val (.ref b3), .val (.long v11), .second, .unset, .unset, .unset] [])) rfl (hb hby at_298) (by decide) (by decide)
      obtain ⟨b12, g12⟩ : ∃ z, z = hkk274.size := ⟨_, rfl⟩
      have ne12_b3 : b3 ≠ b12 := Nat.ne_of_lt (Nat.lt_of_lt_of_le (own_arr_lt Akk274) (Nat.le_of_eq g12.symm))
      have gg12 : n0 ≤ b12 := Nat.le_trans Zkk274 (Nat.le_of_eq g12.symm)
      rw [← g12] at A12 D12 st12
      have F12_A_b3 := own_arr_ext E12 Akk274
      have Z12 : n0 ≤ h12.size := Nat.le_trans Zkk274 E12.1
      have F12_new_array : Fld Z h12 b12 "terselink/tlk/TermRecords" "array" "[B" .null := D12 (Or.inl (hw _ (List.mem_of_getElem? (i := 29) rfl))) (ty := (.array .byte)) (by decide)
      have F12_new_at : Fld Z h12 b12 "terselink/tlk/TermRecords" "at" "I" (.int (0 : Int32)) := D12 (Or.inl (hw _ (List.mem_of_getElem? (i := 31) rfl))) (ty := .int) (by decide)
      refine Go.st (fun _ k => st12 _ k) ?_
      show Go p e below _ (T12.setTop (mkF m 301 #[.val (.long q0), .second, .val (.int p1), .val (.int p2), .val (.long q3), .second, .val (.int v1), .val (.int v2), .val (.ref b3), .val (.long v11), .second, .unset, .unset, .unset] [(.ref b12)]))
      refine Go.st (fun _ k => XS.dup X12.here hx rfl (hb hby at_301) rfl rfl k) ?_
      show Go p e below _ (T12.setTop (mkF m 302 #[.val (.long q0), .second, .val (.int p1), .val (.int p2), .val (.long q3), .second, .val (.int v1), .val (.int v2), .val (.ref b3), .val (.long v11), .second, .unset, .unset, .unset] [(.ref b12), (.ref b12)]))
      obtain ⟨_, _, ⟨T13, L13, k13, n13⟩, -, X13, ⟨Lc13, hQ13, l13, y13, z13⟩, st13⟩ := X12.specialBack hx (y := (⟨"terselink/tlk/TermRecords", "<init>", "()V"⟩ : MethodName)) rfl hown (mvT hZ (hw _ (List.mem_of_getElem? (i := 17) rfl))) (mvT hZ (hw _ (List.mem_of_getElem? (i := 18) rfl))) (mvT hZ (hw _ (List.mem_of_getElem? (i := 19) rfl))) (by decide) (backOf (W := 1) (rmInit l Z aZ hw [] b12 h12 n0 ) hZ (hw _ (List.mem_of_getElem? (i := 19) rfl)) (hw _ (List.mem_of_getElem? (i := 16) rfl)) (by decide) (by decide)) (g := (mkF m 302 #[.val (.long q0), .second, .val (.int p1), .val (.int p2), .val (.long q3), .second, .val (.int v1), .val (.int v2), .val (.ref b3), .val (.long v11), .second, .unset, .unset, .unset] [(.ref b12), (.ref b12)])) rfl (by rw [hml]; rfl) (Steps.refl _) (a := b12) (argsL := []) (rest := [(.ref b12)]) (lenOf pda8eb9 rfl) rfl (by show 2 * 0 + _ ≤ _; exact Nat.le_of_eq rfl) (hb hby at_302) (fun _ _ => ⟨rfl, e12, (by decide : 2 + 0 ≤ _), (by decide : 18 + 0 ≤ _)⟩)
      dsimp only [Pt.U, Pt.locs, Pt.cells, Pt.slots] at X13 l13 y13 z13 st13 hQ13
      subst l13 y13 z13
      obtain ⟨rfl, N13q, e13⟩ := hQ13
      have N13 := Fr.app Nkk274 N13q
      refine Go.st (fun _ k => st13.trans k) ?_
      show Go p e below _ (T13.setTop (mkF m 305 #[.val (.long q0), .second, .val (.int p1), .val (.int p2), .val (.long q3), .second, .val (.int v1), .val (.int v2), .val (.ref b3), .val (.long v11), .second, .unset, .unset, .unset] [(.ref b12)]))
      refine Go.st (fun _ k => XS.astore X13.here hx rfl (hb hby at_305) rfl rfl (l' := #[.val (.long q0), .second, .val (.int p1), .val (.int p2), .val (.long q3), .second, .val (.int v1), .val (.int v2), .val (.ref b3), .val (.long v11), .second, .val (.ref b12), .unset, .unset]) rfl k) ?_
      show Go p e below _ (T13.setTop (mkF m 307 #[.val (.long q0), .second, .val (.int p1), .val (.int p2), .val (.long q3), .second, .val (.int v1), .val (.int v2), .val (.ref b3), .val (.long v11), .second, .val (.ref b12), .unset, .unset] []))
      refine Go.st (fun _ k => XS.aload X13.here hx rfl (hb hby at_307) rfl rfl k) ?_
      refine Go.st (fun _ k => XS.aload X13.here hx rfl (hb hby at_309) rfl rfl k) ?_
      show Go p e below _ (T13.setTop (mkF m 311 #[.val (.long q0), .second, .val (.int p1), .val (.int p2), .val (.long q3), .second, .val (.int v1), .val (.int v2), .val (.ref b3), .val (.long v11), .second, .val (.ref b12), .unset, .unset] [(.ref b3), (.ref b12)]))
      refine Go.st (fun _ k => XS.iload X13.here hx rfl (hb hby at_311) rfl k) ?_
      show Go p e below _ (T13.setTop (mkF m 313 #[.val (.long q0), .second, .val (.int p1), .val (.int p2), .val (.long q3), .second, .val (.int v1), .val (.int v2), .val (.ref b3), .val (.long v11), .second, .val (.ref b12), .unset, .unset] [(.int v2), (.ref b3), (.ref b12)]))
      obtain ⟨cq14, kq14, q14a, q14b, q14c⟩ := isOf hZ e13 A12
      obtain ⟨_, _, ⟨T14, L14, k14, n14⟩, -, X14, ⟨Lc14, hQ14, l14, y14, z14⟩, st14⟩ := X13.virtualBack hx (y := (⟨"terselink/tlk/TermRecords", "moveTo", "([BI)V"⟩ : MethodName)) (z := (⟨"terselink/tlk/TermRecords", "moveTo", "([BI)V"⟩ : MethodName)) hown (mvT hZ (hw _ (List.mem_of_getElem? (i := 23) rfl))) (mvT hZ (hw _ (List.mem_of_getElem? (i := 24) rfl))) (notFace_of_selects (args := #[]) (mvT hZ (hw _ (List.mem_of_getElem? (i := 26) rfl)))) (mvT hZ (hw _ (List.mem_of_getElem? (i := 26) rfl))) (mvT hZ (hw _ (List.mem_of_getElem? (i := 25) rfl))) (by decide) (backOf (W := 0) (rmMove l Z aZ hw []  b12 b3 v2 h12 n0 Z12 gg12 A12  F12_new_array F12_new_at) hZ (hw _ (List.mem_of_getElem? (i := 27) rfl)) (hw _ (List.mem_of_getElem? (i := 16) rfl)) (by decide) (by decide)) q14a q14c (g := (mkF m 313 #[.val (.long q0), .second, .val (.int p1), .val (.int p2), .val (.long q3), .second, .val (.int v1), .val (.int v2), .val (.ref b3), .val (.long v11), .second, .val (.ref b12), .unset, .unset] [(.int v2), (.ref b3), (.ref b12)])) rfl (by rw [hml]; rfl) (Steps.refl _) (argsL := [(.ref b3), (.int v2)]) (rest := []) (lenOf pd92f6cd9b rfl) rfl (by show 2 * 0 + _ ≤ _; exact Nat.le_of_eq rfl) (hb hby at_313) (fun _ _ => ⟨rfl, e13, (by decide : 2 + 0 ≤ _), (by decide : 18 + 0 ≤ _)⟩)
      dsimp only [Pt.U, Pt.locs, Pt.cells, Pt.slots] at X14 l14 y14 z14 st14 hQ14
      subst l14 y14 z14
      obtain ⟨rfl, N14q, K14q, E14q, Fc14_0, Fc14_1⟩ := hQ14
      have N14 := Fr.app N13 N14q
      have F14_A_b3 := own_arr_keep K14q F12_A_b3 (ninS ne12_b3 nin0)
      have F14_E_b12 := A12.keep K14q
      have Zc14 : n0 ≤ T14.heap.size := Nat.le_trans Z12 K14q.1
      refine Go.st (fun _ k => st14.trans k) ?_
      show Go p e below _ (T14.setTop (mkF m 316 #[.val (.long q0), .second, .val (.int p1), .val (.int p2), .val (.long q3), .second, .val (.int v1), .val (.int v2), .val (.ref b3), .val (.long v11), .second, .val (.ref b12), .unset, .unset] []))
      refine Go.st (fun _ k => XS.aload X14.here hx rfl (hb hby at_316) rfl rfl k) ?_
      show Go p e below _ (T14.setTop (mkF m 318 #[.val (.long q0), .second, .val (.int p1), .val (.int p2), .val (.long q3), .second, .val (.int v1), .val (.int v2), .val (.ref b3), .val (.long v11), .second, .val (.ref b12), .unset, .unset] [(.ref b12)]))
      obtain ⟨cq15, kq15, q15a, q15b, q15c⟩ := isOf hZ rfl F14_E_b12
      obtain ⟨_, _, ⟨T15, L15, k15, n15⟩, -, X15, ⟨Lc15, hQ15, l15, y15, z15⟩, st15⟩ := X14.virtualBack hx (y := (⟨"terselink/tlk/TermRecords", "readNumber", "()J"⟩ : MethodName)) (z := (⟨"terselink/tlk/TermRecords", "readNumber", "()J"⟩ : MethodName)) hown (mvT hZ (hw _ (List.mem_of_getElem? (i := 32) rfl))) (mvT hZ (hw _ (List.mem_of_getElem? (i := 33) rfl))) (notFace_of_selects (args := #[]) (mvT hZ (hw _ (List.mem_of_getElem? (i := 35) rfl)))) (mvT hZ (hw _ (List.mem_of_getElem? (i := 35) rfl))) (mvT hZ (hw _ (List.mem_of_getElem? (i := 34) rfl))) (by decide) (backOf (W := 0) (rmRead l Z aZ hw [] b12 b3 v2 u10 (v1).toInt.toNat T14.heap n0 gg12 F14_E_b12 Fc14_0 Fc14_1 F14_A_b3 ne12_b3 (own_p0 hf0) (own_p1 hn0) (own_p2 hf0 hn0) (own_p3 hf0 hn0 hu1 hu2 hu3 hu4 hu5 hu6 hu7 hu8 hu9 hu10) (own_p4 hf0 hn0 hu1 hu2 hu3 hu4 hu5 hu6 hu7 hu8 hu9 hu10)) hZ (hw _ (List.mem_of_getElem? (i := 36) rfl)) (hw _ (List.mem_of_getElem? (i := 16) rfl)) (by decide) (by decide)) q15a q15c (g := (mkF m 318 #[.val (.long q0), .second, .val (.int p1), .val (.int p2), .val (.long q3), .second, .val (.int v1), .val (.int v2), .val (.ref b3), .val (.long v11), .second, .val (.ref b12), .unset, .unset] [(.ref b12)])) rfl (by rw [hml]; rfl) (Steps.refl _) (argsL := []) (rest := []) (lenOf pda8ead rfl) rfl (by show 2 * 0 + _ ≤ _; exact Nat.le_of_eq rfl) (hb hby at_318) (fun _ _ => ⟨rfl, rfl, (by decide : 2 + 0 ≤ _), (by decide : 18 + 0 ≤ _)⟩)
      dsimp only [Pt.U, Pt.locs, Pt.cells, Pt.slots] at X15 l15 y15 z15 st15 hQ15
      subst l15 y15 z15
      obtain ⟨rfl, N15q, K15q, E15q, Ft15⟩ := hQ15
      have N15 := Fr.app N14 N15q
      have F15_A_b3 := own_arr_keep K15q F14_A_b3 (ninS ne12_b3 nin0)
      have F15_E_b12 := F14_E_b12.keep K15q
      have Zc15 : n0 ≤ T15.heap.size := Nat.le_trans Zc14 K15q.1
      refine Go.st (fun _ k => st15.trans k) ?_
      show Go p e below _ (T15.setTop (mkF m 321 #[.val (.long q0), .second, .val (.int p1), .val (.int p2), .val (.long q3), .second, .val (.int v1), .val (.int v2), .val (.ref b3), .val (.long v11), .second, .val (.ref b12), .unset, .unset] [(.long (own_acc u10 (v2).toNatClampNeg (v1).toInt.toNat))]))
      generalize hv16 : (own_acc u10 (v2).toNatClampNeg (v1).toInt.toNat) = v16
      refine Go.st (fun _ k => XS.lstore X15.here hx rfl (hb hby at_321) rfl (l' := #[.val (.long q0), .second, .val (.int p1), .val (.int p2), .val (.long q3), .second, .val (.int v1), .val (.int v2), .val (.ref b3), .val (.long v11), .second, .val (.ref b12), .val (.long v16), .second]) rfl k) ?_
      show Go p e below _ (T15.setTop (mkF m 323 #[.val (.long q0), .second, .val (.int p1), .val (.int p2), .val (.long q3), .second, .val (.int v1), .val (.int v2), .val (.ref b3), .val (.long v11), .second, .val (.ref b12), .val (.long v16), .second] []))
      refine Go.st (fun _ k => XS.lload X15.here hx rfl (hb hby at_323) rfl k) ?_
      refine Go.st (fun _ k => XS.lload X15.here hx rfl (hb hby at_325) rfl k) ?_
      show Go p e below _ (T15.setTop (mkF m 327 #[.val (.long q0), .second, .val (.int p1), .val (.int p2), .val (.long q3), .second, .val (.int v1), .val (.int v2), .val (.ref b3), .val (.long v11), .second, .val (.ref b12), .val (.long v16), .second] [(.long v11), (.long v16)]))
      refine Go.st (fun _ k => XS.lcmp X15.here hx rfl (hb hby at_327) rfl k) ?_
      show Go p e below _ (T15.setTop (mkF m 328 #[.val (.long q0), .second, .val (.int p1), .val (.int p2), .val (.long q3), .second, .val (.int v1), .val (.int v2), .val (.ref b3), .val (.long v11), .second, .val (.ref b12), .val (.long v16), .second] [(.int (lcmpW v16 v11))]))
      refine Go.st (fun _ k => XS.ifNo X15.here hx rfl (hb hby at_328) rfl ((if0 _ _).trans (teq ((lw_eq _ _).mpr (Eq.trans (hv16.symm.trans (own_got hc4 hf0 hn0 hu1 hu2 hu3 hu4 hu5 hu6 hu7 hu8 hu9 hu10)) hv11))).2) k) ?_
      show Go p e below _ (T15.setTop (mkF m 331 #[.val (.long q0), .second, .val (.int p1), .val (.int p2), .val (.long q3), .second, .val (.int v1), .val (.int v2), .val (.ref b3), .val (.long v11), .second, .val (.ref b12), .val (.long v16), .second] []))
      refine Go.st (fun _ k => XS.aload X15.here hx rfl (hb hby at_331) rfl rfl k) ?_
      show Go p e below _ (T15.setTop (mkF m 333 #[.val (.long q0), .second, .val (.int p1), .val (.int p2), .val (.long q3), .second, .val (.int v1), .val (.int v2), .val (.ref b3), .val (.long v11), .second, .val (.ref b12), .val (.long v16), .second] [(.ref b12)]))
      obtain ⟨cq17, kq17, q17a, q17b, q17c⟩ := isOf hZ rfl F15_E_b12
      obtain ⟨_, _, ⟨T17, L17, k17, n17⟩, -, X17, ⟨Lc17, hQ17, l17, y17, z17⟩, st17⟩ := X15.virtualBack hx (y := (⟨"terselink/tlk/TermRecords", "position", "()I"⟩ : MethodName)) (z := (⟨"terselink/tlk/TermRecords", "position", "()I"⟩ : MethodName)) hown (mvT hZ (hw _ (List.mem_of_getElem? (i := 37) rfl))) (mvT hZ (hw _ (List.mem_of_getElem? (i := 38) rfl))) (notFace_of_selects (args := #[]) (mvT hZ (hw _ (List.mem_of_getElem? (i := 40) rfl)))) (mvT hZ (hw _ (List.mem_of_getElem? (i := 40) rfl))) (mvT hZ (hw _ (List.mem_of_getElem? (i := 39) rfl))) (by decide) (backOf (W := 0) (rmPos l Z aZ hw [] b12 (v2 + Int32.ofNat (v1).toInt.toNat) T15.heap n0 Ft15) hZ (hw _ (List.mem_of_getElem? (i := 41) rfl)) (hw _ (List.mem_of_getElem? (i := 16) rfl)) (by decide) (by decide)) q17a q17c (g := (mkF m 333 #[.val (.long q0), .second, .val (.int p1), .val (.int p2), .val (.long q3), .second, .val (.int v1), .val (.int v2), .val (.ref b3), .val (.long v11), .second, .val (.ref b12), .val (.long v16), .second] [(.ref b12)])) rfl (by rw [hml]; rfl) (Steps.refl _) (argsL := []) (rest := []) (lenOf pda8eac rfl) rfl (by show 2 * 0 + _ ≤ _; exact Nat.le_of_eq rfl) (hb hby at_333) (fun _ _ => ⟨rfl, rfl, (by decide : 2 + 0 ≤ _), (by decide : 18 + 0 ≤ _)⟩)
      dsimp only [Pt.U, Pt.locs, Pt.cells, Pt.slots] at X17 l17 y17 z17 st17 hQ17
      subst l17 y17 z17
      obtain ⟨rfl, N17q, e17⟩ := hQ17
      have N17 := Fr.app N15 N17q
      refine Go.st (fun _ k => st17.trans k) ?_
      show Go p e below _ (T17.setTop (mkF m 336 #[.val (.long q0), .second, .val (.int p1), .val (.int p2), .val (.long q3), .second, .val (.int v1), .val (.int v2), .val (.ref b3), .val (.long v11), .second, .val (.ref b12), .val (.long v16), .second] [(.int (fPos (v2 + Int32.ofNat (v1).toInt.toNat)))]))
      refine Go.st (fun _ k => XS.iload X17.here hx rfl (hb hby at_336) rfl k) ?_
      refine Go.st (fun _ k => XS.iload X17.here hx rfl (hb hby at_338) rfl k) ?_
      show Go p e below _ (T17.setTop (mkF m 340 #[.val (.long q0), .second, .val (.int p1), .val (.int p2), .val (.long q3), .second, .val (.int v1), .val (.int v2), .val (.ref b3), .val (.long v11), .second, .val (.ref b12), .val (.long v16), .second] [(.int v1), (.int v2), (.int (fPos (v2 + Int32.ofNat (v1).toInt.toNat)))]))
      refine Go.st (fun _ k => XS.iadd X17.here hx rfl (hb hby at_340) rfl k) ?_
      refine Go.st (fun _ k => XS.icmpNo X17.here hx rfl (hb hby at_341) rfl (teq (own_pos hf0 hn0)).2 k) ?_
      show Go p e below _ (T17.setTop (mkF m 344 #[.val (.long q0), .second, .val (.int p1), .val (.int p2), .val (.long q3), .second, .val (.int v1), .val (.int v2), .val (.ref b3), .val (.long v11), .second, .val (.ref b12), .val (.long v16), .second] []))
      refine Go.st (fun _ k => XS.iconst X17.here hx rfl (hb hby at_344) k) ?_
      refine Go.st (fun _ k => XS.goto X17.here hx rfl (pc0 := 345) (pc' := 349) rfl (hb hby at_345) (by decide) (by decide) k) ?_
      show Go p e below _ (T17.setTop (mkF m 349 #[.val (.long q0), .second, .val (.int p1), .val (.int p2), .val (.long q3), .second, .val (.int v1), .val (.int v2), .val (.ref b3), .val (.long v11), .second, .val (.ref b12), .val (.long v16), .second] [(.int (1 : Int32))]))
      obtain ⟨fs, hr, hrun, hended, hW, hsame⟩ := X17.leave (v := some (.int (1 : Int32))) (fun h => by rw [Bd.returns] at h; cases h)
      refine ⟨_, _, retN X17 hx (t := .boolean) Bd.returns (by simp) (hb hby at_349) hr, hrun, hended, _, _, rfl, ?_, ⟨_, rfl⟩, hW, hsame.mono (by decide) (by decide)⟩
      show Q_rm0 Z q0 p1 p2 q3 h0 n0 _ T17.heap _
      rw [e17]
      exact ⟨rfl, N17⟩
  have kk226 : ∀ (Tkk226 : State) (lkk226 : List Loc) (hkk226 : Heap) (u0 : Nat → Int32) (u1 : Nat → Int32) (u2 : Nat → Int32) (u3 : Nat → Int32) (u4 : Nat → Int32) (u5 : Nat → Int32) (u6 : Nat → Int32), (Stand p l e room_1 s m #[(.long q0), (.int p1), (.int p2), (.long q3)] below meth c Tkk226 lkk226 1 16) → (Tkk226.heap = hkk226) → (Fr n0 lkk226) → (n0 ≤ hkk226.size) → (own_arr Z hkk226 b3 u6) → (u1 = own_put u0 v2 q0 (0 : Int32) v1) → (u2 = own_put u1 v2 q0 (1 : Int32) v1) → (u3 = own_put u2 v2 q0 (2 : Int32) v1) → (u4 = own_put u3 v2 q0 (3 : Int32) v1) → (u5 = own_put u4 v2 q0 (4 : Int32) v1) → (u6 = own_put u5 v2 q0 (5 : Int32) v1) → Go p e below (F_rm0 Z q0 p1 p2 q3 h0 n0 s) (Tkk226.setTop (mkF m 226 #[.val (.long q0), .second, .val (.int p1), .val (.int p2), .val (.long q3), .second, .val (.int v1), .val (.int v2), .val (.ref b3), .unset, .unset, .unset, .unset, .unset] [])) := by
    intro Tkk226 lkk226 hkk226 u0 u1 u2 u3 u4 u5 u6 Xkk226 ekk226 Nkk226 Zkk226 Akk226 hu1 hu2 hu3 hu4 hu5 hu6
    show Go p e below _ (Tkk226.setTop (mkF m 226 #[.val (.long q0), .second, .val (.int p1), .val (.int p2), .val (.long q3), .second, .val (.int v1), .val (.int v2), .val (.ref b3), .unset, .unset, .unset, .unset, .unset] []))
    refine Go.st (fun _ k => XS.aload Xkk226.here hx rfl (hb hby at_226) rfl rfl k) ?_
    refine Go.st (fun _ k => XS.iload Xkk226.here hx rfl (hb hby at_228) rfl k) ?_
    show Go p e below _ (Tkk226.setTop (mkF m 230 #[.val (.long q0), .second, .val (.int p1), .val (.int p2), .val (.long q3), .second, .val (.int v1), .val (.int v2), .val (.ref b3), .unset, .unset, .unset, .unset, .unset] [(.int v2), (.ref b3)]))
    refine Go.st (fun _ k => XS.lloadN Xkk226.here hx rfl (hb hby at_230) rfl k) ?_
    refine Go.st (fun _ k => XS.bipush Xkk226.here hx rfl (hb hby at_231) k) ?_
    show Go p e below _ (Tkk226.setTop (mkF m 233 #[.val (.long q0), .second, .val (.int p1), .val (.int p2), .val (.long q3), .second, .val (.int v1), .val (.int v2), .val (.ref b3), .unset, .unset, .unset, .unset, .unset] [(.int (6 : Int32)), (.long q0), (.int v2), (.ref b3)]))
    refine Go.st (fun _ k => XS.iload Xkk226.here hx rfl (hb hby at_233) rfl k) ?_
    show Go p e below _ (Tkk226.setTop (mkF m 235 #[.val (.long q0), .second, .val (.int p1), .val (.int p2), .val (.long q3), .second, .val (.int v1), .val (.int v2), .val (.ref b3), .unset, .unset, .unset, .unset, .unset] [(.int v1), (.int (6 : Int32)), (.long q0), (.int v2), (.ref b3)]))
    obtain ⟨_, _, ⟨T18, L18, k18, n18⟩, -, X18, ⟨Lc18, hQ18, l18, y18, z18⟩, st18⟩ := Jvm.LawKit.callS Xkk226 hx (y := (⟨"terselink/tlk/TermRecordsReadNumberPinLaw", "put", "([BIJII)V"⟩ : MethodName)) hown (mvT hZ (hw _ (List.mem_of_getElem? (i := 6) rfl))) (mvT hZ (hw _ (List.mem_of_getElem? (i := 7) rfl))) (mvT hZ (hw _ (List.mem_of_getElem? (i := 4) rfl))) (mvT hZ (hw _ (List.mem_of_getElem? (i := 8) rfl))) (by decide) (backOf (W := 0) (rmPut l Z aZ hw [] b3 v2 q0 (6 : Int32) v1 u6 hkk226 n0 gg3 Akk226 (own_idx hf0 hn0 (by decide) (by decide))) hZ (hw _ (List.mem_of_getElem? (i := 8) rfl)) (hw _ (List.mem_of_getElem? (i := 4) rfl)) (by decide) (by decide)) (g := (mkF m 235 #[.val (.long q0), .second, .val (.int p1), .val (.int p2), .val (.long q3), .second, .val (.int v1), .val (.int v2), .val (.ref b3), .unset, .unset, .unset, .unset, .unset] [(.int v1), (.int (6 : Int32)), (.long q0), (.int v2), (.ref b3)])) rfl (by rw [hml]; rfl) (argsL := [(.ref b3), (.int v2), (.long q0), (.int (6 : Int32)), (.int v1)]) (rest := []) (lenOf pdc775de4d rfl) rfl (by show 2 * 0 + _ ≤ _; exact Nat.le_of_eq rfl) (hb hby at_235) (fun _ _ => ⟨rfl, ekk226, (by decide : 1 + 0 ≤ _), (by decide : 16 + 0 ≤ _)⟩)
    dsimp only [Pt.U, Pt.locs, Pt.cells, Pt.slots] at X18 l18 y18 z18 st18 hQ18
    subst l18 y18 z18
    obtain ⟨rfl, N18q, K18q, A18q⟩ := hQ18
    have N18 := Fr.app Nkk226 N18q
    have Zc18 : n0 ≤ T18.heap.size := Nat.le_trans Zkk226 K18q.1
    obtain ⟨f18, hf18⟩ : ∃ g : Nat → Int32, g = own_put u6 v2 q0 (6 : Int32) v1 := ⟨_, rfl⟩
    rw [← hf18] at A18q
    refine Go.st (fun _ k => st18 _ k) ?_
    show Go p e below _ (T18.setTop (mkF m 238 #[.val (.long q0), .second, .val (.int p1), .val (.int p2), .val (.long q3), .second, .val (.int v1), .val (.int v2), .val (.ref b3), .unset, .unset, .unset, .unset, .unset] []))
    refine Go.st (fun _ k => XS.aload X18.here hx rfl (hb hby at_238) rfl rfl k) ?_
    refine Go.st (fun _ k => XS.iload X18.here hx rfl (hb hby at_240) rfl k) ?_
    show Go p e below _ (T18.setTop (mkF m 242 #[.val (.long q0), .second, .val (.int p1), .val (.int p2), .val (.long q3), .second, .val (.int v1), .val (.int v2), .val (.ref b3), .unset, .unset, .unset, .unset, .unset] [(.int v2), (.ref b3)]))
    refine Go.st (fun _ k => XS.lloadN X18.here hx rfl (hb hby at_242) rfl k) ?_
    refine Go.st (fun _ k => XS.bipush X18.here hx rfl (hb hby at_243) k) ?_
    show Go p e below _ (T18.setTop (mkF m 245 #[.val (.long q0), .second, .val (.int p1), .val (.int p2), .val (.long q3), .second, .val (.int v1), .val (.int v2), .val (.ref b3), .unset, .unset, .unset, .unset, .unset] [(.int (7 : Int32)), (.long q0), (.int v2), (.ref b3)]))
    refine Go.st (fun _ k => XS.iload X18.here hx rfl (hb hby at_245) rfl k) ?_
    show Go p e below _ (T18.setTop (mkF m 247 #[.val (.long q0), .second, .val (.int p1), .val (.int p2), .val (.long q3), .second, .val (.int v1), .val (.int v2), .val (.ref b3), .unset, .unset, .unset, .unset, .unset] [(.int v1), (.int (7 : Int32)), (.long q0), (.int v2), (.ref b3)]))
    obtain ⟨_, _, ⟨T19, L19, k19, n19⟩, -, X19, ⟨Lc19, hQ19, l19, y19, z19⟩, st19⟩ := Jvm.LawKit.callS X18 hx (y := (⟨"terselink/tlk/TermRecordsReadNumberPinLaw", "put", "([BIJII)V"⟩ : MethodName)) hown (mvT hZ (hw _ (List.mem_of_getElem? (i := 6) rfl))) (mvT hZ (hw _ (List.mem_of_getElem? (i := 7) rfl))) (mvT hZ (hw _ (List.mem_of_getElem? (i := 4) rfl))) (mvT hZ (hw _ (List.mem_of_getElem? (i := 8) rfl))) (by decide) (backOf (W := 0) (rmPut l Z aZ hw [] b3 v2 q0 (7 : Int32) v1 f18 T18.heap n0 gg3 A18q (own_idx hf0 hn0 (by decide) (by decide))) hZ (hw _ (List.mem_of_getElem? (i := 8) rfl)) (hw _ (List.mem_of_getElem? (i := 4) rfl)) (by decide) (by decide)) (g := (mkF m 247 #[.val (.long q0), .second, .val (.int p1), .val (.int p2), .val (.long q3), .second, .val (.int v1), .val (.int v2), .val (.ref b3), .unset, .unset, .unset, .unset, .unset] [(.int v1), (.int (7 : Int32)), (.long q0), (.int v2), (.ref b3)])) rfl (by rw [hml]; rfl) (argsL := [(.ref b3), (.int v2), (.long q0), (.int (7 : Int32)), (.int v1)]) (rest := []) (lenOf pdc775de4d rfl) rfl (by show 2 * 0 + _ ≤ _; exact Nat.le_of_eq rfl) (hb hby at_247) (fun _ _ => ⟨rfl, rfl, (by decide : 1 + 0 ≤ _), (by decide : 16 + 0 ≤ _)⟩)
    dsimp only [Pt.U, Pt.locs, Pt.cells, Pt.slots] at X19 l19 y19 z19 st19 hQ19
    subst l19 y19 z19
    obtain ⟨rfl, N19q, K19q, A19q⟩ := hQ19
    have N19 := Fr.app N18 N19q
    have Zc19 : n0 ≤ T19.heap.size := Nat.le_trans Zc18 K19q.1
    obtain ⟨f19, hf19⟩ : ∃ g : Nat → Int32, g = own_put f18 v2 q0 (7 : Int32) v1 := ⟨_, rfl⟩
    rw [← hf19] at A19q
    refine Go.st (fun _ k => st19 _ k) ?_
    show Go p e below _ (T19.setTop (mkF m 250 #[.val (.long q0), .second, .val (.int p1), .val (.int p2), .val (.long q3), .second, .val (.int v1), .val (.int v2), .val (.ref b3), .unset, .unset, .unset, .unset, .unset] []))
    refine Go.st (fun _ k => XS.aload X19.here hx rfl (hb hby at_250) rfl rfl k) ?_
    refine Go.st (fun _ k => XS.iload X19.here hx rfl (hb hby at_252) rfl k) ?_
    show Go p e below _ (T19.setTop (mkF m 254 #[.val (.long q0), .second, .val (.int p1), .val (.int p2), .val (.long q3), .second, .val (.int v1), .val (.int v2), .val (.ref b3), .unset, .unset, .unset, .unset, .unset] [(.int v2), (.ref b3)]))
    refine Go.st (fun _ k => XS.lloadN X19.here hx rfl (hb hby at_254) rfl k) ?_
    refine Go.st (fun _ k => XS.bipush X19.here hx rfl (hb hby at_255) k) ?_
    show Go p e below _ (T19.setTop (mkF m 257 #[.val (.long q0), .second, .val (.int p1), .val (.int p2), .val (.long q3), .second, .val (.int v1), .val (.int v2), .val (.ref b3), .unset, .unset, .unset, .unset, .unset] [(.int (8 : Int32)), (.long q0), (.int v2), (.ref b3)]))
    refine Go.st (fun _ k => XS.iload X19.here hx rfl (hb hby at_257) rfl k) ?_
    show Go p e below _ (T19.setTop (mkF m 259 #[.val (.long q0), .second, .val (.int p1), .val (.int p2), .val (.long q3), .second, .val (.int v1), .val (.int v2), .val (.ref b3), .unset, .unset, .unset, .unset, .unset] [(.int v1), (.int (8 : Int32)), (.long q0), (.int v2), (.ref b3)]))
    obtain ⟨_, _, ⟨T20, L20, k20, n20⟩, -, X20, ⟨Lc20, hQ20, l20, y20, z20⟩, st20⟩ := Jvm.LawKit.callS X19 hx (y := (⟨"terselink/tlk/TermRecordsReadNumberPinLaw", "put", "([BIJII)V"⟩ : MethodName)) hown (mvT hZ (hw _ (List.mem_of_getElem? (i := 6) rfl))) (mvT hZ (hw _ (List.mem_of_getElem? (i := 7) rfl))) (mvT hZ (hw _ (List.mem_of_getElem? (i := 4) rfl))) (mvT hZ (hw _ (List.mem_of_getElem? (i := 8) rfl))) (by decide) (backOf (W := 0) (rmPut l Z aZ hw [] b3 v2 q0 (8 : Int32) v1 f19 T19.heap n0 gg3 A19q (own_idx hf0 hn0 (by decide) (by decide))) hZ (hw _ (List.mem_of_getElem? (i := 8) rfl)) (hw _ (List.mem_of_getElem? (i := 4) rfl)) (by decide) (by decide)) (g := (mkF m 259 #[.val (.long q0), .second, .val (.int p1), .val (.int p2), .val (.long q3), .second, .val (.int v1), .val (.int v2), .val (.ref b3), .unset, .unset, .unset, .unset, .unset] [(.int v1), (.int (8 : Int32)), (.long q0), (.int v2), (.ref b3)])) rfl (by rw [hml]; rfl) (argsL := [(.ref b3), (.int v2), (.long q0), (.int (8 : Int32)), (.int v1)]) (rest := []) (lenOf pdc775de4d rfl) rfl (by show 2 * 0 + _ ≤ _; exact Nat.le_of_eq rfl) (hb hby at_259) (fun _ _ => ⟨rfl, rfl, (by decide : 1 + 0 ≤ _), (by decide : 16 + 0 ≤ _)⟩)
    dsimp only [Pt.U, Pt.locs, Pt.cells, Pt.slots] at X20 l20 y20 z20 st20 hQ20
    subst l20 y20 z20
    obtain ⟨rfl, N20q, K20q, A20q⟩ := hQ20
    have N20 := Fr.app N19 N20q
    have Zc20 : n0 ≤ T20.heap.size := Nat.le_trans Zc19 K20q.1
    obtain ⟨f20, hf20⟩ : ∃ g : Nat → Int32, g = own_put f19 v2 q0 (8 : Int32) v1 := ⟨_, rfl⟩
    rw [← hf20] at A20q
    refine Go.st (fun _ k => st20 _ k) ?_
    show Go p e below _ (T20.setTop (mkF m 262 #[.val (.long q0), .second, .val (.int p1), .val (.int p2), .val (.long q3), .second, .val (.int v1), .val (.int v2), .val (.ref b3), .unset, .unset, .unset, .unset, .unset] []))
    refine Go.st (fun _ k => XS.aload X20.here hx rfl (hb hby at_262) rfl rfl k) ?_
    refine Go.st (fun _ k => XS.iload X20.here hx rfl (hb hby at_264) rfl k) ?_
    show Go p e below _ (T20.setTop (mkF m 266 #[.val (.long q0), .second, .val (.int p1), .val (.int p2), .val (.long q3), .second, .val (.int v1), .val (.int v2), .val (.ref b3), .unset, .unset, .unset, .unset, .unset] [(.int v2), (.ref b3)]))
    refine Go.st (fun _ k => XS.lloadN X20.here hx rfl (hb hby at_266) rfl k) ?_
    refine Go.st (fun _ k => XS.bipush X20.here hx rfl (hb hby at_267) k) ?_
    show Go p e below _ (T20.setTop (mkF m 269 #[.val (.long q0), .second, .val (.int p1), .val (.int p2), .val (.long q3), .second, .val (.int v1), .val (.int v2), .val (.ref b3), .unset, .unset, .unset, .unset, .unset] [(.int (9 : Int32)), (.long q0), (.int v2), (.ref b3)]))
    refine Go.st (fun _ k => XS.iload X20.here hx rfl (hb hby at_269) rfl k) ?_
    show Go p e below _ (T20.setTop (mkF m 271 #[.val (.long q0), .second, .val (.int p1), .val (.int p2), .val (.long q3), .second, .val (.int v1), .val (.int v2), .val (.ref b3), .unset, .unset, .unset, .unset, .unset] [(.int v1), (.int (9 : Int32)), (.long q0), (.int v2), (.ref b3)]))
    obtain ⟨_, _, ⟨T21, L21, k21, n21⟩, -, X21, ⟨Lc21, hQ21, l21, y21, z21⟩, st21⟩ := Jvm.LawKit.callS X20 hx (y := (⟨"terselink/tlk/TermRecordsReadNumberPinLaw", "put", "([BIJII)V"⟩ : MethodName)) hown (mvT hZ (hw _ (List.mem_of_getElem? (i := 6) rfl))) (mvT hZ (hw _ (List.mem_of_getElem? (i := 7) rfl))) (mvT hZ (hw _ (List.mem_of_getElem? (i := 4) rfl))) (mvT hZ (hw _ (List.mem_of_getElem? (i := 8) rfl))) (by decide) (backOf (W := 0) (rmPut l Z aZ hw [] b3 v2 q0 (9 : Int32) v1 f20 T20.heap n0 gg3 A20q (own_idx hf0 hn0 (by decide) (by decide))) hZ (hw _ (List.mem_of_getElem? (i := 8) rfl)) (hw _ (List.mem_of_getElem? (i := 4) rfl)) (by decide) (by decide)) (g := (mkF m 271 #[.val (.long q0), .second, .val (.int p1), .val (.int p2), .val (.long q3), .second, .val (.int v1), .val (.int v2), .val (.ref b3), .unset, .unset, .unset, .unset, .unset] [(.int v1), (.int (9 : Int32)), (.long q0), (.int v2), (.ref b3)])) rfl (by rw [hml]; rfl) (argsL := [(.ref b3), (.int v2), (.long q0), (.int (9 : Int32)), (.int v1)]) (rest := []) (lenOf pdc775de4d rfl) rfl (by show 2 * 0 + _ ≤ _; exact Nat.le_of_eq rfl) (hb hby at_271) (fun _ _ => ⟨rfl, rfl, (by decide : 1 + 0 ≤ _), (by decide : 16 + 0 ≤ _)⟩)
    dsimp only [Pt.U, Pt.locs, Pt.cells, Pt.slots] at X21 l21 y21 z21 st21 hQ21
    subst l21 y21 z21
    obtain ⟨rfl, N21q, K21q, A21q⟩ := hQ21
    have N21 := Fr.app N20 N21q
    have Zc21 : n0 ≤ T21.heap.size := Nat.le_trans Zc20 K21q.1
    obtain ⟨f21, hf21⟩ : ∃ g : Nat → Int32, g = own_put f20 v2 q0 (9 : Int32) v1 := ⟨_, rfl⟩
    rw [← hf21] at A21q
    refine Go.st (fun _ k => st21 _ k) ?_
    show Go p e below _ (T21.setTop (mkF m 274 #[.val (.long q0), .second, .val (.int p1), .val (.int p2), .val (.long q3), .second, .val (.int v1), .val (.int v2), .val (.ref b3), .unset, .unset, .unset, .unset, .unset] []))
    exact kk274 _ _ _ u0 u1 u2 u3 u4 u5 u6 f18 f19 f20 f21 X21 rfl N21 Zc21 A21q hu1 hu2 hu3 hu4 hu5 hu6 hf18 hf19 hf20 hf21
  have kk193 : ∀ (Tkk193 : State) (lkk193 : List Loc) (hkk193 : Heap) (u0 : Nat → Int32) (u1 : Nat → Int32) (u2 : Nat → Int32) (u3 : Nat → Int32), (Stand p l e room_1 s m #[(.long q0), (.int p1), (.int p2), (.long q3)] below meth c Tkk193 lkk193 1 16) → (Tkk193.heap = hkk193) → (Fr n0 lkk193) → (n0 ≤ hkk193.size) → (own_arr Z hkk193 b3 u3) → (u1 = own_put u0 v2 q0 (0 : Int32) v1) → (u2 = own_put u1 v2 q0 (1 : Int32) v1) → (u3 = own_put u2 v2 q0 (2 : Int32) v1) → Go p e below (F_rm0 Z q0 p1 p2 q3 h0 n0 s) (Tkk193.setTop (mkF m 193 #[.val (.long q0), .second, .val (.int p1), .val (.int p2), .val (.long q3), .second, .val (.int v1), .val (.int v2), .val (.ref b3), .unset, .unset, .unset, .unset, .unset] [])) := by
    intro Tkk193 lkk193 hkk193 u0 u1 u2 u3 Xkk193 ekk193 Nkk193 Zkk193 Akk193 hu1 hu2 hu3
    show Go p e below _ (Tkk193.setTop (mkF m 193 #[.val (.long q0), .second, .val (.int p1), .val (.int p2), .val (.long q3), .second, .val (.int v1), .val (.int v2), .val (.ref b3), .unset, .unset, .unset, .unset, .unset] []))
    refine Go.st (fun _ k => XS.aload Xkk193.here hx rfl (hb hby at_193) rfl rfl k) ?_
    refine Go.st (fun _ k => XS.iload Xkk193.here hx rfl (hb hby at_195) rfl k) ?_
    show Go p e below _ (Tkk193.setTop (mkF m 197 #[.val (.long q0), .second, .val (.int p1), .val (.int p2), .val (.long q3), .second, .val (.int v1), .val (.int v2), .val (.ref b3), .unset, .unset, .unset, .unset, .unset] [(.int v2), (.ref b3)]))
    refine Go.st (fun _ k => XS.lloadN Xkk193.here hx rfl (hb hby at_197) rfl k) ?_
    refine Go.st (fun _ k => XS.iconst Xkk193.here hx rfl (hb hby at_198) k) ?_
    show Go p e below _ (Tkk193.setTop (mkF m 199 #[.val (.long q0), .second, .val (.int p1), .val (.int p2), .val (.long q3), .second, .val (.int v1), .val (.int v2), .val (.ref b3), .unset, .unset, .unset, .unset, .unset] [(.int (3 : Int32)), (.long q0), (.int v2), (.ref b3)]))
    refine Go.st (fun _ k => XS.iload Xkk193.here hx rfl (hb hby at_199) rfl k) ?_
    show Go p e below _ (Tkk193.setTop (mkF m 201 #[.val (.long q0), .second, .val (.int p1), .val (.int p2), .val (.long q3), .second, .val (.int v1), .val (.int v2), .val (.ref b3), .unset, .unset, .unset, .unset, .unset] [(.int v1), (.int (3 : Int32)), (.long q0), (.int v2), (.ref b3)]))
    obtain ⟨_, _, ⟨T22, L22, k22, n22⟩, -, X22, ⟨Lc22, hQ22, l22, y22, z22⟩, st22⟩ := Jvm.LawKit.callS Xkk193 hx (y := (⟨"terselink/tlk/TermRecordsReadNumberPinLaw", "put", "([BIJII)V"⟩ : MethodName)) hown (mvT hZ (hw _ (List.mem_of_getElem? (i := 6) rfl))) (mvT hZ (hw _ (List.mem_of_getElem? (i := 7) rfl))) (mvT hZ (hw _ (List.mem_of_getElem? (i := 4) rfl))) (mvT hZ (hw _ (List.mem_of_getElem? (i := 8) rfl))) (by decide) (backOf (W := 0) (rmPut l Z aZ hw [] b3 v2 q0 (3 : Int32) v1 u3 hkk193 n0 gg3 Akk193 (own_idx hf0 hn0 (by decide) (by decide))) hZ (hw _ (List.mem_of_getElem? (i := 8) rfl)) (hw _ (List.mem_of_getElem? (i := 4) rfl)) (by decide) (by decide)) (g := (mkF m 201 #[.val (.long q0), .second, .val (.int p1), .val (.int p2), .val (.long q3), .second, .val (.int v1), .val (.int v2), .val (.ref b3), .unset, .unset, .unset, .unset, .unset] [(.int v1), (.int (3 : Int32)), (.long q0), (.int v2), (.ref b3)])) rfl (by rw [hml]; rfl) (argsL := [(.ref b3), (.int v2), (.long q0), (.int (3 : Int32)), (.int v1)]) (rest := []) (lenOf pdc775de4d rfl) rfl (by show 2 * 0 + _ ≤ _; exact Nat.le_of_eq rfl) (hb hby at_201) (fun _ _ => ⟨rfl, ekk193, (by decide : 1 + 0 ≤ _), (by decide : 16 + 0 ≤ _)⟩)
    dsimp only [Pt.U, Pt.locs, Pt.cells, Pt.slots] at X22 l22 y22 z22 st22 hQ22
    subst l22 y22 z22
    obtain ⟨rfl, N22q, K22q, A22q⟩ := hQ22
    have N22 := Fr.app Nkk193 N22q
    have Zc22 : n0 ≤ T22.heap.size := Nat.le_trans Zkk193 K22q.1
    obtain ⟨f22, hf22⟩ : ∃ g : Nat → Int32, g = own_put u3 v2 q0 (3 : Int32) v1 := ⟨_, rfl⟩
    rw [← hf22] at A22q
    refine Go.st (fun _ k => st22 _ k) ?_
    show Go p e below _ (T22.setTop (mkF m 204 #[.val (.long q0), .second, .val (.int p1), .val (.int p2), .val (.long q3), .second, .val (.int v1), .val (.int v2), .val (.ref b3), .unset, .unset, .unset, .unset, .unset] []))
    refine Go.st (fun _ k => XS.aload X22.here hx rfl (hb hby at_204) rfl rfl k) ?_
    refine Go.st (fun _ k => XS.iload X22.here hx rfl (hb hby at_206) rfl k) ?_
    show Go p e below _ (T22.setTop (mkF m 208 #[.val (.long q0), .second, .val (.int p1), .val (.int p2), .val (.long q3), .second, .val (.int v1), .val (.int v2), .val (.ref b3), .unset, .unset, .unset, .unset, .unset] [(.int v2), (.ref b3)]))
    refine Go.st (fun _ k => XS.lloadN X22.here hx rfl (hb hby at_208) rfl k) ?_
    refine Go.st (fun _ k => XS.iconst X22.here hx rfl (hb hby at_209) k) ?_
    show Go p e below _ (T22.setTop (mkF m 210 #[.val (.long q0), .second, .val (.int p1), .val (.int p2), .val (.long q3), .second, .val (.int v1), .val (.int v2), .val (.ref b3), .unset, .unset, .unset, .unset, .unset] [(.int (4 : Int32)), (.long q0), (.int v2), (.ref b3)]))
    refine Go.st (fun _ k => XS.iload X22.here hx rfl (hb hby at_210) rfl k) ?_
    show Go p e below _ (T22.setTop (mkF m 212 #[.val (.long q0), .second, .val (.int p1), .val (.int p2), .val (.long q3), .second, .val (.int v1), .val (.int v2), .val (.ref b3), .unset, .unset, .unset, .unset, .unset] [(.int v1), (.int (4 : Int32)), (.long q0), (.int v2), (.ref b3)]))
    obtain ⟨_, _, ⟨T23, L23, k23, n23⟩, -, X23, ⟨Lc23, hQ23, l23, y23, z23⟩, st23⟩ := Jvm.LawKit.callS X22 hx (y := (⟨"terselink/tlk/TermRecordsReadNumberPinLaw", "put", "([BIJII)V"⟩ : MethodName)) hown (mvT hZ (hw _ (List.mem_of_getElem? (i := 6) rfl))) (mvT hZ (hw _ (List.mem_of_getElem? (i := 7) rfl))) (mvT hZ (hw _ (List.mem_of_getElem? (i := 4) rfl))) (mvT hZ (hw _ (List.mem_of_getElem? (i := 8) rfl))) (by decide) (backOf (W := 0) (rmPut l Z aZ hw [] b3 v2 q0 (4 : Int32) v1 f22 T22.heap n0 gg3 A22q (own_idx hf0 hn0 (by decide) (by decide))) hZ (hw _ (List.mem_of_getElem? (i := 8) rfl)) (hw _ (List.mem_of_getElem? (i := 4) rfl)) (by decide) (by decide)) (g := (mkF m 212 #[.val (.long q0), .second, .val (.int p1), .val (.int p2), .val (.long q3), .second, .val (.int v1), .val (.int v2), .val (.ref b3), .unset, .unset, .unset, .unset, .unset] [(.int v1), (.int (4 : Int32)), (.long q0), (.int v2), (.ref b3)])) rfl (by rw [hml]; rfl) (argsL := [(.ref b3), (.int v2), (.long q0), (.int (4 : Int32)), (.int v1)]) (rest := []) (lenOf pdc775de4d rfl) rfl (by show 2 * 0 + _ ≤ _; exact Nat.le_of_eq rfl) (hb hby at_212) (fun _ _ => ⟨rfl, rfl, (by decide : 1 + 0 ≤ _), (by decide : 16 + 0 ≤ _)⟩)
    dsimp only [Pt.U, Pt.locs, Pt.cells, Pt.slots] at X23 l23 y23 z23 st23 hQ23
    subst l23 y23 z23
    obtain ⟨rfl, N23q, K23q, A23q⟩ := hQ23
    have N23 := Fr.app N22 N23q
    have Zc23 : n0 ≤ T23.heap.size := Nat.le_trans Zc22 K23q.1
    obtain ⟨f23, hf23⟩ : ∃ g : Nat → Int32, g = own_put f22 v2 q0 (4 : Int32) v1 := ⟨_, rfl⟩
    rw [← hf23] at A23q
    refine Go.st (fun _ k => st23 _ k) ?_
    show Go p e below _ (T23.setTop (mkF m 215 #[.val (.long q0), .second, .val (.int p1), .val (.int p2), .val (.long q3), .second, .val (.int v1), .val (.int v2), .val (.ref b3), .unset, .unset, .unset, .unset, .unset] []))
    refine Go.st (fun _ k => XS.aload X23.here hx rfl (hb hby at_215) rfl rfl k) ?_
    refine Go.st (fun _ k => XS.iload X23.here hx rfl (hb hby at_217) rfl k) ?_
    show Go p e below _ (T23.setTop (mkF m 219 #[.val (.long q0), .second, .val (.int p1), .val (.int p2), .val (.long q3), .second, .val (.int v1), .val (.int v2), .val (.ref b3), .unset, .unset, .unset, .unset, .unset] [(.int v2), (.ref b3)]))
    refine Go.st (fun _ k => XS.lloadN X23.here hx rfl (hb hby at_219) rfl k) ?_
    refine Go.st (fun _ k => XS.iconst X23.here hx rfl (hb hby at_220) k) ?_
    show Go p e below _ (T23.setTop (mkF m 221 #[.val (.long q0), .second, .val (.int p1), .val (.int p2), .val (.long q3), .second, .val (.int v1), .val (.int v2), .val (.ref b3), .unset, .unset, .unset, .unset, .unset] [(.int (5 : Int32)), (.long q0), (.int v2), (.ref b3)]))
    refine Go.st (fun _ k => XS.iload X23.here hx rfl (hb hby at_221) rfl k) ?_
    show Go p e below _ (T23.setTop (mkF m 223 #[.val (.long q0), .second, .val (.int p1), .val (.int p2), .val (.long q3), .second, .val (.int v1), .val (.int v2), .val (.ref b3), .unset, .unset, .unset, .unset, .unset] [(.int v1), (.int (5 : Int32)), (.long q0), (.int v2), (.ref b3)]))
    obtain ⟨_, _, ⟨T24, L24, k24, n24⟩, -, X24, ⟨Lc24, hQ24, l24, y24, z24⟩, st24⟩ := Jvm.LawKit.callS X23 hx (y := (⟨"terselink/tlk/TermRecordsReadNumberPinLaw", "put", "([BIJII)V"⟩ : MethodName)) hown (mvT hZ (hw _ (List.mem_of_getElem? (i := 6) rfl))) (mvT hZ (hw _ (List.mem_of_getElem? (i := 7) rfl))) (mvT hZ (hw _ (List.mem_of_getElem? (i := 4) rfl))) (mvT hZ (hw _ (List.mem_of_getElem? (i := 8) rfl))) (by decide) (backOf (W := 0) (rmPut l Z aZ hw [] b3 v2 q0 (5 : Int32) v1 f23 T23.heap n0 gg3 A23q (own_idx hf0 hn0 (by decide) (by decide))) hZ (hw _ (List.mem_of_getElem? (i := 8) rfl)) (hw _ (List.mem_of_getElem? (i := 4) rfl)) (by decide) (by decide)) (g := (mkF m 223 #[.val (.long q0), .second, .val (.int p1), .val (.int p2), .val (.long q3), .second, .val (.int v1), .val (.int v2), .val (.ref b3), .unset, .unset, .unset, .unset, .unset] [(.int v1), (.int (5 : Int32)), (.long q0), (.int v2), (.ref b3)])) rfl (by rw [hml]; rfl) (argsL := [(.ref b3), (.int v2), (.long q0), (.int (5 : Int32)), (.int v1)]) (rest := []) (lenOf pdc775de4d rfl) rfl (by show 2 * 0 + _ ≤ _; exact Nat.le_of_eq rfl) (hb hby at_223) (fun _ _ => ⟨rfl, rfl, (by decide : 1 + 0 ≤ _), (by decide : 16 + 0 ≤ _)⟩)
    dsimp only [Pt.U, Pt.locs, Pt.cells, Pt.slots] at X24 l24 y24 z24 st24 hQ24
    subst l24 y24 z24
    obtain ⟨rfl, N24q, K24q, A24q⟩ := hQ24
    have N24 := Fr.app N23 N24q
    have Zc24 : n0 ≤ T24.heap.size := Nat.le_trans Zc23 K24q.1
    obtain ⟨f24, hf24⟩ : ∃ g : Nat → Int32, g = own_put f23 v2 q0 (5 : Int32) v1 := ⟨_, rfl⟩
    rw [← hf24] at A24q
    refine Go.st (fun _ k => st24 _ k) ?_
    show Go p e below _ (T24.setTop (mkF m 226 #[.val (.long q0), .second, .val (.int p1), .val (.int p2), .val (.long q3), .second, .val (.int v1), .val (.int v2), .val (.ref b3), .unset, .unset, .unset, .unset, .unset] []))
    exact kk226 _ _ _ u0 u1 u2 u3 f22 f23 f24 X24 rfl N24 Zc24 A24q hu1 hu2 hu3 hf22 hf23 hf24
  have kk160 : ∀ (Tkk160 : State) (lkk160 : List Loc) (hkk160 : Heap) (u0 : Nat → Int32), (Stand p l e room_1 s m #[(.long q0), (.int p1), (.int p2), (.long q3)] below meth c Tkk160 lkk160 1 16) → (Tkk160.heap = hkk160) → (Fr n0 lkk160) → (n0 ≤ hkk160.size) → (own_arr Z hkk160 b3 u0) → Go p e below (F_rm0 Z q0 p1 p2 q3 h0 n0 s) (Tkk160.setTop (mkF m 160 #[.val (.long q0), .second, .val (.int p1), .val (.int p2), .val (.long q3), .second, .val (.int v1), .val (.int v2), .val (.ref b3), .unset, .unset, .unset, .unset, .unset] [])) := by
    intro Tkk160 lkk160 hkk160 u0 Xkk160 ekk160 Nkk160 Zkk160 Akk160
    show Go p e below _ (Tkk160.setTop (mkF m 160 #[.val (.long q0), .second, .val (.int p1), .val (.int p2), .val (.long q3), .second, .val (.int v1), .val (.int v2), .val (.ref b3), .unset, .unset, .unset, .unset, .unset] []))
    refine Go.st (fun _ k => XS.aload Xkk160.here hx rfl (hb hby at_160) rfl rfl k) ?_
    refine Go.st (fun _ k => XS.iload Xkk160.here hx rfl (hb hby at_162) rfl k) ?_
    show Go p e below _ (Tkk160.setTop (mkF m 164 #[.val (.long q0), .second, .val (.int p1), .val (.int p2), .val (.long q3), .second, .val (.int v1), .val (.int v2), .val (.ref b3), .unset, .unset, .unset, .unset, .unset] [(.int v2), (.ref b3)]))
    refine Go.st (fun _ k => XS.lloadN Xkk160.here hx rfl (hb hby at_164) rfl k) ?_
    refine Go.st (fun _ k => XS.iconst Xkk160.here hx rfl (hb hby at_165) k) ?_
    show Go p e below _ (Tkk160.setTop (mkF m 166 #[.val (.long q0), .second, .val (.int p1), .val (.int p2), .val (.long q3), .second, .val (.int v1), .val (.int v2), .val (.ref b3), .unset, .unset, .unset, .unset, .unset] [(.int (0 : Int32)), (.long q0), (.int v2), (.ref b3)]))
    refine Go.st (fun _ k => XS.iload Xkk160.here hx rfl (hb hby at_166) rfl k) ?_
    show Go p e below _ (Tkk160.setTop (mkF m 168 #[.val (.long q0), .second, .val (.int p1), .val (.int p2), .val (.long q3), .second, .val (.int v1), .val (.int v2), .val (.ref b3), .unset, .unset, .unset, .unset, .unset] [(.int v1), (.int (0 : Int32)), (.long q0), (.int v2), (.ref b3)]))
    obtain ⟨_, _, ⟨T25, L25, k25, n25⟩, -, X25, ⟨Lc25, hQ25, l25, y25, z25⟩, st25⟩ := Jvm.LawKit.callS Xkk160 hx (y := (⟨"terselink/tlk/TermRecordsReadNumberPinLaw", "put", "([BIJII)V"⟩ : MethodName)) hown (mvT hZ (hw _ (List.mem_of_getElem? (i := 6) rfl))) (mvT hZ (hw _ (List.mem_of_getElem? (i := 7) rfl))) (mvT hZ (hw _ (List.mem_of_getElem? (i := 4) rfl))) (mvT hZ (hw _ (List.mem_of_getElem? (i := 8) rfl))) (by decide) (backOf (W := 0) (rmPut l Z aZ hw [] b3 v2 q0 (0 : Int32) v1 u0 hkk160 n0 gg3 Akk160 (own_idx hf0 hn0 (by decide) (by decide))) hZ (hw _ (List.mem_of_getElem? (i := 8) rfl)) (hw _ (List.mem_of_getElem? (i := 4) rfl)) (by decide) (by decide)) (g := (mkF m 168 #[.val (.long q0), .second, .val (.int p1), .val (.int p2), .val (.long q3), .second, .val (.int v1), .val (.int v2), .val (.ref b3), .unset, .unset, .unset, .unset, .unset] [(.int v1), (.int (0 : Int32)), (.long q0), (.int v2), (.ref b3)])) rfl (by rw [hml]; rfl) (argsL := [(.ref b3), (.int v2), (.long q0), (.int (0 : Int32)), (.int v1)]) (rest := []) (lenOf pdc775de4d rfl) rfl (by show 2 * 0 + _ ≤ _; exact Nat.le_of_eq rfl) (hb hby at_168) (fun _ _ => ⟨rfl, ekk160, (by decide : 1 + 0 ≤ _), (by decide : 16 + 0 ≤ _)⟩)
    dsimp only [Pt.U, Pt.locs, Pt.cells, Pt.slots] at X25 l25 y25 z25 st25 hQ25
    subst l25 y25 z25
    obtain ⟨rfl, N25q, K25q, A25q⟩ := hQ25
    have N25 := Fr.app Nkk160 N25q
    have Zc25 : n0 ≤ T25.heap.size := Nat.le_trans Zkk160 K25q.1
    obtain ⟨f25, hf25⟩ : ∃ g : Nat → Int32, g = own_put u0 v2 q0 (0 : Int32) v1 := ⟨_, rfl⟩
    rw [← hf25] at A25q
    refine Go.st (fun _ k => st25 _ k) ?_
    show Go p e below _ (T25.setTop (mkF m 171 #[.val (.long q0), .second, .val (.int p1), .val (.int p2), .val (.long q3), .second, .val (.int v1), .val (.int v2), .val (.ref b3), .unset, .unset, .unset, .unset, .unset] []))
    refine Go.st (fun _ k => XS.aload X25.here hx rfl (hb hby at_171) rfl rfl k) ?_
    refine Go.st (fun _ k => XS.iload X25.here hx rfl (hb hby at_173) rfl k) ?_
    show Go p e below _ (T25.setTop (mkF m 175 #[.val (.long q0), .second, .val (.int p1), .val (.int p2), .val (.long q3), .second, .val (.int v1), .val (.int v2), .val (.ref b3), .unset, .unset, .unset, .unset, .unset] [(.int v2), (.ref b3)]))
    refine Go.st (fun _ k => XS.lloadN X25.here hx rfl (hb hby at_175) rfl k) ?_
    refine Go.st (fun _ k => XS.iconst X25.here hx rfl (hb hby at_176) k) ?_
    show Go p e below _ (T25.setTop (mkF m 177 #[.val (.long q0), .second, .val (.int p1), .val (.int p2), .val (.long q3), .second, .val (.int v1), .val (.int v2), .val (.ref b3), .unset, .unset, .unset, .unset, .unset] [(.int (1 : Int32)), (.long q0), (.int v2), (.ref b3)]))
    refine Go.st (fun _ k => XS.iload X25.here hx rfl (hb hby at_177) rfl k) ?_
    show Go p e below _ (T25.setTop (mkF m 179 #[.val (.long q0), .second, .val (.int p1), .val (.int p2), .val (.long q3), .second, .val (.int v1), .val (.int v2), .val (.ref b3), .unset, .unset, .unset, .unset, .unset] [(.int v1), (.int (1 : Int32)), (.long q0), (.int v2), (.ref b3)]))
    obtain ⟨_, _, ⟨T26, L26, k26, n26⟩, -, X26, ⟨Lc26, hQ26, l26, y26, z26⟩, st26⟩ := Jvm.LawKit.callS X25 hx (y := (⟨"terselink/tlk/TermRecordsReadNumberPinLaw", "put", "([BIJII)V"⟩ : MethodName)) hown (mvT hZ (hw _ (List.mem_of_getElem? (i := 6) rfl))) (mvT hZ (hw _ (List.mem_of_getElem? (i := 7) rfl))) (mvT hZ (hw _ (List.mem_of_getElem? (i := 4) rfl))) (mvT hZ (hw _ (List.mem_of_getElem? (i := 8) rfl))) (by decide) (backOf (W := 0) (rmPut l Z aZ hw [] b3 v2 q0 (1 : Int32) v1 f25 T25.heap n0 gg3 A25q (own_idx hf0 hn0 (by decide) (by decide))) hZ (hw _ (List.mem_of_getElem? (i := 8) rfl)) (hw _ (List.mem_of_getElem? (i := 4) rfl)) (by decide) (by decide)) (g := (mkF m 179 #[.val (.long q0), .second, .val (.int p1), .val (.int p2), .val (.long q3), .second, .val (.int v1), .val (.int v2), .val (.ref b3), .unset, .unset, .unset, .unset, .unset] [(.int v1), (.int (1 : Int32)), (.long q0), (.int v2), (.ref b3)])) rfl (by rw [hml]; rfl) (argsL := [(.ref b3), (.int v2), (.long q0), (.int (1 : Int32)), (.int v1)]) (rest := []) (lenOf pdc775de4d rfl) rfl (by show 2 * 0 + _ ≤ _; exact Nat.le_of_eq rfl) (hb hby at_179) (fun _ _ => ⟨rfl, rfl, (by decide : 1 + 0 ≤ _), (by decide : 16 + 0 ≤ _)⟩)
    dsimp only [Pt.U, Pt.locs, Pt.cells, Pt.slots] at X26 l26 y26 z26 st26 hQ26
    subst l26 y26 z26
    obtain ⟨rfl, N26q, K26q, A26q⟩ := hQ26
    have N26 := Fr.app N25 N26q
    have Zc26 : n0 ≤ T26.heap.size := Nat.le_trans Zc25 K26q.1
    obtain ⟨f26, hf26⟩ : ∃ g : Nat → Int32, g = own_put f25 v2 q0 (1 : Int32) v1 := ⟨_, rfl⟩
    rw [← hf26] at A26q
    refine Go.st (fun _ k => st26 _ k) ?_
    show Go p e below _ (T26.setTop (mkF m 182 #[.val (.long q0), .second, .val (.int p1), .val (.int p2), .val (.long q3), .second, .val (.int v1), .val (.int v2), .val (.ref b3), .unset, .unset, .unset, .unset, .unset] []))
    refine Go.st (fun _ k => XS.aload X26.here hx rfl (hb hby at_182) rfl rfl k) ?_
    refine Go.st (fun _ k => XS.iload X26.here hx rfl (hb hby at_184) rfl k) ?_
    show Go p e below _ (T26.setTop (mkF m 186 #[.val (.long q0), .second, .val (.int p1), .val (.int p2), .val (.long q3), .second, .val (.int v1), .val (.int v2), .val (.ref b3), .unset, .unset, .unset, .unset, .unset] [(.int v2), (.ref b3)]))
    refine Go.st (fun _ k => XS.lloadN X26.here hx rfl (hb hby at_186) rfl k) ?_
    refine Go.st (fun _ k => XS.iconst X26.here hx rfl (hb hby at_187) k) ?_
    show Go p e below _ (T26.setTop (mkF m 188 #[.val (.long q0), .second, .val (.int p1), .val (.int p2), .val (.long q3), .second, .val (.int v1), .val (.int v2), .val (.ref b3), .unset, .unset, .unset, .unset, .unset] [(.int (2 : Int32)), (.long q0), (.int v2), (.ref b3)]))
    refine Go.st (fun _ k => XS.iload X26.here hx rfl (hb hby at_188) rfl k) ?_
    show Go p e below _ (T26.setTop (mkF m 190 #[.val (.long q0), .second, .val (.int p1), .val (.int p2), .val (.long q3), .second, .val (.int v1), .val (.int v2), .val (.ref b3), .unset, .unset, .unset, .unset, .unset] [(.int v1), (.int (2 : Int32)), (.long q0), (.int v2), (.ref b3)]))
    obtain ⟨_, _, ⟨T27, L27, k27, n27⟩, -, X27, ⟨Lc27, hQ27, l27, y27, z27⟩, st27⟩ := Jvm.LawKit.callS X26 hx (y := (⟨"terselink/tlk/TermRecordsReadNumberPinLaw", "put", "([BIJII)V"⟩ : MethodName)) hown (mvT hZ (hw _ (List.mem_of_getElem? (i := 6) rfl))) (mvT hZ (hw _ (List.mem_of_getElem? (i := 7) rfl))) (mvT hZ (hw _ (List.mem_of_getElem? (i := 4) rfl))) (mvT hZ (hw _ (List.mem_of_getElem? (i := 8) rfl))) (by decide) (backOf (W := 0) (rmPut l Z aZ hw [] b3 v2 q0 (2 : Int32) v1 f26 T26.heap n0 gg3 A26q (own_idx hf0 hn0 (by decide) (by decide))) hZ (hw _ (List.mem_of_getElem? (i := 8) rfl)) (hw _ (List.mem_of_getElem? (i := 4) rfl)) (by decide) (by decide)) (g := (mkF m 190 #[.val (.long q0), .second, .val (.int p1), .val (.int p2), .val (.long q3), .second, .val (.int v1), .val (.int v2), .val (.ref b3), .unset, .unset, .unset, .unset, .unset] [(.int v1), (.int (2 : Int32)), (.long q0), (.int v2), (.ref b3)])) rfl (by rw [hml]; rfl) (argsL := [(.ref b3), (.int v2), (.long q0), (.int (2 : Int32)), (.int v1)]) (rest := []) (lenOf pdc775de4d rfl) rfl (by show 2 * 0 + _ ≤ _; exact Nat.le_of_eq rfl) (hb hby at_190) (fun _ _ => ⟨rfl, rfl, (by decide : 1 + 0 ≤ _), (by decide : 16 + 0 ≤ _)⟩)
    dsimp only [Pt.U, Pt.locs, Pt.cells, Pt.slots] at X27 l27 y27 z27 st27 hQ27
    subst l27 y27 z27
    obtain ⟨rfl, N27q, K27q, A27q⟩ := hQ27
    have N27 := Fr.app N26 N27q
    have Zc27 : n0 ≤ T27.heap.size := Nat.le_trans Zc26 K27q.1
    obtain ⟨f27, hf27⟩ : ∃ g : Nat → Int32, g = own_put f26 v2 q0 (2 : Int32) v1 := ⟨_, rfl⟩
    rw [← hf27] at A27q
    refine Go.st (fun _ k => st27 _ k) ?_
    show Go p e below _ (T27.setTop (mkF m 193 #[.val (.long q0), .second, .val (.int p1), .val (.int p2), .val (.long q3), .second, .val (.int v1), .val (.int v2), .val (.ref b3), .unset, .unset, .unset, .unset, .unset] []))
    exact kk193 _ _ _ u0 f25 f26 f27 X27 rfl N27 Zc27 A27q hf25 hf26 hf27
  have kk124 : ∀ (Tkk124 : State) (lkk124 : List Loc) (hkk124 : Heap) (u0 : Nat → Int32), (Stand p l e room_1 s m #[(.long q0), (.int p1), (.int p2), (.long q3)] below meth c Tkk124 lkk124 1 16) → (Tkk124.heap = hkk124) → (Fr n0 lkk124) → (n0 ≤ hkk124.size) → (own_arr Z hkk124 b3 u0) → Go p e below (F_rm0 Z q0 p1 p2 q3 h0 n0 s) (Tkk124.setTop (mkF m 124 #[.val (.long q0), .second, .val (.int p1), .val (.int p2), .val (.long q3), .second, .val (.int v1), .val (.int v2), .val (.ref b3), .unset, .unset, .unset, .unset, .unset] [])) := by
    intro Tkk124 lkk124 hkk124 u0 Xkk124 ekk124 Nkk124 Zkk124 Akk124
    show Go p e below _ (Tkk124.setTop (mkF m 124 #[.val (.long q0), .second, .val (.int p1), .val (.int p2), .val (.long q3), .second, .val (.int v1), .val (.int v2), .val (.ref b3), .unset, .unset, .unset, .unset, .unset] []))
    refine Go.st (fun _ k => XS.aload Xkk124.here hx rfl (hb hby at_124) rfl rfl k) ?_
    refine Go.st (fun _ k => XS.lload Xkk124.here hx rfl (hb hby at_126) rfl k) ?_
    show Go p e below _ (Tkk124.setTop (mkF m 128 #[.val (.long q0), .second, .val (.int p1), .val (.int p2), .val (.long q3), .second, .val (.int v1), .val (.int v2), .val (.ref b3), .unset, .unset, .unset, .unset, .unset] [(.long q3), (.ref b3)]))
    refine Go.st (fun _ k => XS.bipush Xkk124.here hx rfl (hb hby at_128) k) ?_
    show Go p e below _ (Tkk124.setTop (mkF m 130 #[.val (.long q0), .second, .val (.int p1), .val (.int p2), .val (.long q3), .second, .val (.int v1), .val (.int v2), .val (.ref b3), .unset, .unset, .unset, .unset, .unset] [(.int (12 : Int32)), (.long q3), (.ref b3)]))
    obtain ⟨_, _, ⟨T28, L28, k28, n28⟩, -, X28, ⟨Lc28, hQ28, l28, y28, z28⟩, st28⟩ := Jvm.LawKit.callS Xkk124 hx (y := (⟨"terselink/tlk/TermRecordsReadNumberPinLaw", "junk", "([BJI)V"⟩ : MethodName)) hown (mvT hZ (hw _ (List.mem_of_getElem? (i := 2) rfl))) (mvT hZ (hw _ (List.mem_of_getElem? (i := 3) rfl))) (mvT hZ (hw _ (List.mem_of_getElem? (i := 4) rfl))) (mvT hZ (hw _ (List.mem_of_getElem? (i := 5) rfl))) (by decide) (backOf (W := 0) (rmJunk l Z aZ hw [] b3 q3 (12 : Int32) u0 hkk124 n0 gg3 Akk124 (by decide) (by decide)) hZ (hw _ (List.mem_of_getElem? (i := 5) rfl)) (hw _ (List.mem_of_getElem? (i := 4) rfl)) (by decide) (by decide)) (g := (mkF m 130 #[.val (.long q0), .second, .val (.int p1), .val (.int p2), .val (.long q3), .second, .val (.int v1), .val (.int v2), .val (.ref b3), .unset, .unset, .unset, .unset, .unset] [(.int (12 : Int32)), (.long q3), (.ref b3)])) rfl (by rw [hml]; rfl) (argsL := [(.ref b3), (.long q3), (.int (12 : Int32))]) (rest := []) (lenOf pd3475ce5b rfl) rfl (by show 2 * 0 + _ ≤ _; exact Nat.le_of_eq rfl) (hb hby at_130) (fun _ _ => ⟨rfl, ekk124, (by decide : 1 + 0 ≤ _), (by decide : 16 + 0 ≤ _)⟩)
    dsimp only [Pt.U, Pt.locs, Pt.cells, Pt.slots] at X28 l28 y28 z28 st28 hQ28
    subst l28 y28 z28
    obtain ⟨rfl, N28q, K28q, f28, A28⟩ := hQ28
    have N28 := Fr.app Nkk124 N28q
    have Zc28 : n0 ≤ T28.heap.size := Nat.le_trans Zkk124 K28q.1
    refine Go.st (fun _ k => st28 _ k) ?_
    show Go p e below _ (T28.setTop (mkF m 133 #[.val (.long q0), .second, .val (.int p1), .val (.int p2), .val (.long q3), .second, .val (.int v1), .val (.int v2), .val (.ref b3), .unset, .unset, .unset, .unset, .unset] []))
    refine Go.st (fun _ k => XS.aload X28.here hx rfl (hb hby at_133) rfl rfl k) ?_
    refine Go.st (fun _ k => XS.lload X28.here hx rfl (hb hby at_135) rfl k) ?_
    show Go p e below _ (T28.setTop (mkF m 137 #[.val (.long q0), .second, .val (.int p1), .val (.int p2), .val (.long q3), .second, .val (.int v1), .val (.int v2), .val (.ref b3), .unset, .unset, .unset, .unset, .unset] [(.long q3), (.ref b3)]))
    refine Go.st (fun _ k => XS.bipush X28.here hx rfl (hb hby at_137) k) ?_
    show Go p e below _ (T28.setTop (mkF m 139 #[.val (.long q0), .second, .val (.int p1), .val (.int p2), .val (.long q3), .second, .val (.int v1), .val (.int v2), .val (.ref b3), .unset, .unset, .unset, .unset, .unset] [(.int (13 : Int32)), (.long q3), (.ref b3)]))
    obtain ⟨_, _, ⟨T29, L29, k29, n29⟩, -, X29, ⟨Lc29, hQ29, l29, y29, z29⟩, st29⟩ := Jvm.LawKit.callS X28 hx (y := (⟨"terselink/tlk/TermRecordsReadNumberPinLaw", "junk", "([BJI)V"⟩ : MethodName)) hown (mvT hZ (hw _ (List.mem_of_getElem? (i := 2) rfl))) (mvT hZ (hw _ (List.mem_of_getElem? (i := 3) rfl))) (mvT hZ (hw _ (List.mem_of_getElem? (i := 4) rfl))) (mvT hZ (hw _ (List.mem_of_getElem? (i := 5) rfl))) (by decide) (backOf (W := 0) (rmJunk l Z aZ hw [] b3 q3 (13 : Int32) f28 T28.heap n0 gg3 A28 (by decide) (by decide)) hZ (hw _ (List.mem_of_getElem? (i := 5) rfl)) (hw _ (List.mem_of_getElem? (i := 4) rfl)) (by decide) (by decide)) (g := (mkF m 139 #[.val (.long q0), .second, .val (.int p1), .val (.int p2), .val (.long q3), .second, .val (.int v1), .val (.int v2), .val (.ref b3), .unset, .unset, .unset, .unset, .unset] [(.int (13 : Int32)), (.long q3), (.ref b3)])) rfl (by rw [hml]; rfl) (argsL := [(.ref b3), (.long q3), (.int (13 : Int32))]) (rest := []) (lenOf pd3475ce5b rfl) rfl (by show 2 * 0 + _ ≤ _; exact Nat.le_of_eq rfl) (hb hby at_139) (fun _ _ => ⟨rfl, rfl, (by decide : 1 + 0 ≤ _), (by decide : 16 + 0 ≤ _)⟩)
    dsimp only [Pt.U, Pt.locs, Pt.cells, Pt.slots] at X29 l29 y29 z29 st29 hQ29
    subst l29 y29 z29
    obtain ⟨rfl, N29q, K29q, f29, A29⟩ := hQ29
    have N29 := Fr.app N28 N29q
    have Zc29 : n0 ≤ T29.heap.size := Nat.le_trans Zc28 K29q.1
    refine Go.st (fun _ k => st29 _ k) ?_
    show Go p e below _ (T29.setTop (mkF m 142 #[.val (.long q0), .second, .val (.int p1), .val (.int p2), .val (.long q3), .second, .val (.int v1), .val (.int v2), .val (.ref b3), .unset, .unset, .unset, .unset, .unset] []))
    refine Go.st (fun _ k => XS.aload X29.here hx rfl (hb hby at_142) rfl rfl k) ?_
    refine Go.st (fun _ k => XS.lload X29.here hx rfl (hb hby at_144) rfl k) ?_
    show Go p e below _ (T29.setTop (mkF m 146 #[.val (.long q0), .second, .val (.int p1), .val (.int p2), .val (.long q3), .second, .val (.int v1), .val (.int v2), .val (.ref b3), .unset, .unset, .unset, .unset, .unset] [(.long q3), (.ref b3)]))
    refine Go.st (fun _ k => XS.bipush X29.here hx rfl (hb hby at_146) k) ?_
    show Go p e below _ (T29.setTop (mkF m 148 #[.val (.long q0), .second, .val (.int p1), .val (.int p2), .val (.long q3), .second, .val (.int v1), .val (.int v2), .val (.ref b3), .unset, .unset, .unset, .unset, .unset] [(.int (14 : Int32)), (.long q3), (.ref b3)]))
    obtain ⟨_, _, ⟨T30, L30, k30, n30⟩, -, X30, ⟨Lc30, hQ30, l30, y30, z30⟩, st30⟩ := Jvm.LawKit.callS X29 hx (y := (⟨"terselink/tlk/TermRecordsReadNumberPinLaw", "junk", "([BJI)V"⟩ : MethodName)) hown (mvT hZ (hw _ (List.mem_of_getElem? (i := 2) rfl))) (mvT hZ (hw _ (List.mem_of_getElem? (i := 3) rfl))) (mvT hZ (hw _ (List.mem_of_getElem? (i := 4) rfl))) (mvT hZ (hw _ (List.mem_of_getElem? (i := 5) rfl))) (by decide) (backOf (W := 0) (rmJunk l Z aZ hw [] b3 q3 (14 : Int32) f29 T29.heap n0 gg3 A29 (by decide) (by decide)) hZ (hw _ (List.mem_of_getElem? (i := 5) rfl)) (hw _ (List.mem_of_getElem? (i := 4) rfl)) (by decide) (by decide)) (g := (mkF m 148 #[.val (.long q0), .second, .val (.int p1), .val (.int p2), .val (.long q3), .second, .val (.int v1), .val (.int v2), .val (.ref b3), .unset, .unset, .unset, .unset, .unset] [(.int (14 : Int32)), (.long q3), (.ref b3)])) rfl (by rw [hml]; rfl) (argsL := [(.ref b3), (.long q3), (.int (14 : Int32))]) (rest := []) (lenOf pd3475ce5b rfl) rfl (by show 2 * 0 + _ ≤ _; exact Nat.le_of_eq rfl) (hb hby at_148) (fun _ _ => ⟨rfl, rfl, (by decide : 1 + 0 ≤ _), (by decide : 16 + 0 ≤ _)⟩)
    dsimp only [Pt.U, Pt.locs, Pt.cells, Pt.slots] at X30 l30 y30 z30 st30 hQ30
    subst l30 y30 z30
    obtain ⟨rfl, N30q, K30q, f30, A30⟩ := hQ30
    have N30 := Fr.app N29 N30q
    have Zc30 : n0 ≤ T30.heap.size := Nat.le_trans Zc29 K30q.1
    refine Go.st (fun _ k => st30 _ k) ?_
    show Go p e below _ (T30.setTop (mkF m 151 #[.val (.long q0), .second, .val (.int p1), .val (.int p2), .val (.long q3), .second, .val (.int v1), .val (.int v2), .val (.ref b3), .unset, .unset, .unset, .unset, .unset] []))
    refine Go.st (fun _ k => XS.aload X30.here hx rfl (hb hby at_151) rfl rfl k) ?_
    refine Go.st (fun _ k => XS.lload X30.here hx rfl (hb hby at_153) rfl k) ?_
    show Go p e below _ (T30.setTop (mkF m 155 #[.val (.long q0), .second, .val (.int p1), .val (.int p2), .val (.long q3), .second, .val (.int v1), .val (.int v2), .val (.ref b3), .unset, .unset, .unset, .unset, .unset] [(.long q3), (.ref b3)]))
    refine Go.st (fun _ k => XS.bipush X30.here hx rfl (hb hby at_155) k) ?_
    show Go p e below _ (T30.setTop (mkF m 157 #[.val (.long q0), .second, .val (.int p1), .val (.int p2), .val (.long q3), .second, .val (.int v1), .val (.int v2), .val (.ref b3), .unset, .unset, .unset, .unset, .unset] [(.int (15 : Int32)), (.long q3), (.ref b3)]))
    obtain ⟨_, _, ⟨T31, L31, k31, n31⟩, -, X31, ⟨Lc31, hQ31, l31, y31, z31⟩, st31⟩ := Jvm.LawKit.callS X30 hx (y := (⟨"terselink/tlk/TermRecordsReadNumberPinLaw", "junk", "([BJI)V"⟩ : MethodName)) hown (mvT hZ (hw _ (List.mem_of_getElem? (i := 2) rfl))) (mvT hZ (hw _ (List.mem_of_getElem? (i := 3) rfl))) (mvT hZ (hw _ (List.mem_of_getElem? (i := 4) rfl))) (mvT hZ (hw _ (List.mem_of_getElem? (i := 5) rfl))) (by decide) (backOf (W := 0) (rmJunk l Z aZ hw [] b3 q3 (15 : Int32) f30 T30.heap n0 gg3 A30 (by decide) (by decide)) hZ (hw _ (List.mem_of_getElem? (i := 5) rfl)) (hw _ (List.mem_of_getElem? (i := 4) rfl)) (by decide) (by decide)) (g := (mkF m 157 #[.val (.long q0), .second, .val (.int p1), .val (.int p2), .val (.long q3), .second, .val (.int v1), .val (.int v2), .val (.ref b3), .unset, .unset, .unset, .unset, .unset] [(.int (15 : Int32)), (.long q3), (.ref b3)])) rfl (by rw [hml]; rfl) (argsL := [(.ref b3), (.long q3), (.int (15 : Int32))]) (rest := []) (lenOf pd3475ce5b rfl) rfl (by show 2 * 0 + _ ≤ _; exact Nat.le_of_eq rfl) (hb hby at_157) (fun _ _ => ⟨rfl, rfl, (by decide : 1 + 0 ≤ _), (by decide : 16 + 0 ≤ _)⟩)
    dsimp only [Pt.U, Pt.locs, Pt.cells, Pt.slots] at X31 l31 y31 z31 st31 hQ31
    subst l31 y31 z31
    obtain ⟨rfl, N31q, K31q, f31, A31⟩ := hQ31
    have N31 := Fr.app N30 N31q
    have Zc31 : n0 ≤ T31.heap.size := Nat.le_trans Zc30 K31q.1
    refine Go.st (fun _ k => st31 _ k) ?_
    show Go p e below _ (T31.setTop (mkF m 160 #[.val (.long q0), .second, .val (.int p1), .val (.int p2), .val (.long q3), .second, .val (.int v1), .val (.int v2), .val (.ref b3), .unset, .unset, .unset, .unset, .unset] []))
    exact kk160 _ _ _ f31 X31 rfl N31 Zc31 A31
  have kk88 : ∀ (Tkk88 : State) (lkk88 : List Loc) (hkk88 : Heap) (u0 : Nat → Int32), (Stand p l e room_1 s m #[(.long q0), (.int p1), (.int p2), (.long q3)] below meth c Tkk88 lkk88 1 16) → (Tkk88.heap = hkk88) → (Fr n0 lkk88) → (n0 ≤ hkk88.size) → (own_arr Z hkk88 b3 u0) → Go p e below (F_rm0 Z q0 p1 p2 q3 h0 n0 s) (Tkk88.setTop (mkF m 88 #[.val (.long q0), .second, .val (.int p1), .val (.int p2), .val (.long q3), .second, .val (.int v1), .val (.int v2), .val (.ref b3), .unset, .unset, .unset, .unset, .unset] [])) := by
    intro Tkk88 lkk88 hkk88 u0 Xkk88 ekk88 Nkk88 Zkk88 Akk88
    show Go p e below _ (Tkk88.setTop (mkF m 88 #[.val (.long q0), .second, .val (.int p1), .val (.int p2), .val (.long q3), .second, .val (.int v1), .val (.int v2), .val (.ref b3), .unset, .unset, .unset, .unset, .unset] []))
    refine Go.st (fun _ k => XS.aload Xkk88.here hx rfl (hb hby at_88) rfl rfl k) ?_
    refine Go.st (fun _ k => XS.lload Xkk88.here hx rfl (hb hby at_90) rfl k) ?_
    show Go p e below _ (Tkk88.setTop (mkF m 92 #[.val (.long q0), .second, .val (.int p1), .val (.int p2), .val (.long q3), .second, .val (.int v1), .val (.int v2), .val (.ref b3), .unset, .unset, .unset, .unset, .unset] [(.long q3), (.ref b3)]))
    refine Go.st (fun _ k => XS.bipush Xkk88.here hx rfl (hb hby at_92) k) ?_
    show Go p e below _ (Tkk88.setTop (mkF m 94 #[.val (.long q0), .second, .val (.int p1), .val (.int p2), .val (.long q3), .second, .val (.int v1), .val (.int v2), .val (.ref b3), .unset, .unset, .unset, .unset, .unset] [(.int (8 : Int32)), (.long q3), (.ref b3)]))
    obtain ⟨_, _, ⟨T32, L32, k32, n32⟩, -, X32, ⟨Lc32, hQ32, l32, y32, z32⟩, st32⟩ := Jvm.LawKit.callS Xkk88 hx (y := (⟨"terselink/tlk/TermRecordsReadNumberPinLaw", "junk", "([BJI)V"⟩ : MethodName)) hown (mvT hZ (hw _ (List.mem_of_getElem? (i := 2) rfl))) (mvT hZ (hw _ (List.mem_of_getElem? (i := 3) rfl))) (mvT hZ (hw _ (List.mem_of_getElem? (i := 4) rfl))) (mvT hZ (hw _ (List.mem_of_getElem? (i := 5) rfl))) (by decide) (backOf (W := 0) (rmJunk l Z aZ hw [] b3 q3 (8 : Int32) u0 hkk88 n0 gg3 Akk88 (by decide) (by decide)) hZ (hw _ (List.mem_of_getElem? (i := 5) rfl)) (hw _ (List.mem_of_getElem? (i := 4) rfl)) (by decide) (by decide)) (g := (mkF m 94 #[.val (.long q0), .second, .val (.int p1), .val (.int p2), .val (.long q3), .second, .val (.int v1), .val (.int v2), .val (.ref b3), .unset, .unset, .unset, .unset, .unset] [(.int (8 : Int32)), (.long q3), (.ref b3)])) rfl (by rw [hml]; rfl) (argsL := [(.ref b3), (.long q3), (.int (8 : Int32))]) (rest := []) (lenOf pd3475ce5b rfl) rfl (by show 2 * 0 + _ ≤ _; exact Nat.le_of_eq rfl) (hb hby at_94) (fun _ _ => ⟨rfl, ekk88, (by decide : 1 + 0 ≤ _), (by decide : 16 + 0 ≤ _)⟩)
    dsimp only [Pt.U, Pt.locs, Pt.cells, Pt.slots] at X32 l32 y32 z32 st32 hQ32
    subst l32 y32 z32
    obtain ⟨rfl, N32q, K32q, f32, A32⟩ := hQ32
    have N32 := Fr.app Nkk88 N32q
    have Zc32 : n0 ≤ T32.heap.size := Nat.le_trans Zkk88 K32q.1
    refine Go.st (fun _ k => st32 _ k) ?_
    show Go p e below _ (T32.setTop (mkF m 97 #[.val (.long q0), .second, .val (.int p1), .val (.int p2), .val (.long q3), .second, .val (.int v1), .val (.int v2), .val (.ref b3), .unset, .unset, .unset, .unset, .unset] []))
    refine Go.st (fun _ k => XS.aload X32.here hx rfl (hb hby at_97) rfl rfl k) ?_
    refine Go.st (fun _ k => XS.lload X32.here hx rfl (hb hby at_99) rfl k) ?_
    show Go p e below _ (T32.setTop (mkF m 101 #[.val (.long q0), .second, .val (.int p1), .val (.int p2), .val (.long q3), .second, .val (.int v1), .val (.int v2), .val (.ref b3), .unset, .unset, .unset, .unset, .unset] [(.long q3), (.ref b3)]))
    refine Go.st (fun _ k => XS.bipush X32.here hx rfl (hb hby at_101) k) ?_
    show Go p e below _ (T32.setTop (mkF m 103 #[.val (.long q0), .second, .val (.int p1), .val (.int p2), .val (.long q3), .second, .val (.int v1), .val (.int v2), .val (.ref b3), .unset, .unset, .unset, .unset, .unset] [(.int (9 : Int32)), (.long q3), (.ref b3)]))
    obtain ⟨_, _, ⟨T33, L33, k33, n33⟩, -, X33, ⟨Lc33, hQ33, l33, y33, z33⟩, st33⟩ := Jvm.LawKit.callS X32 hx (y := (⟨"terselink/tlk/TermRecordsReadNumberPinLaw", "junk", "([BJI)V"⟩ : MethodName)) hown (mvT hZ (hw _ (List.mem_of_getElem? (i := 2) rfl))) (mvT hZ (hw _ (List.mem_of_getElem? (i := 3) rfl))) (mvT hZ (hw _ (List.mem_of_getElem? (i := 4) rfl))) (mvT hZ (hw _ (List.mem_of_getElem? (i := 5) rfl))) (by decide) (backOf (W := 0) (rmJunk l Z aZ hw [] b3 q3 (9 : Int32) f32 T32.heap n0 gg3 A32 (by decide) (by decide)) hZ (hw _ (List.mem_of_getElem? (i := 5) rfl)) (hw _ (List.mem_of_getElem? (i := 4) rfl)) (by decide) (by decide)) (g := (mkF m 103 #[.val (.long q0), .second, .val (.int p1), .val (.int p2), .val (.long q3), .second, .val (.int v1), .val (.int v2), .val (.ref b3), .unset, .unset, .unset, .unset, .unset] [(.int (9 : Int32)), (.long q3), (.ref b3)])) rfl (by rw [hml]; rfl) (argsL := [(.ref b3), (.long q3), (.int (9 : Int32))]) (rest := []) (lenOf pd3475ce5b rfl) rfl (by show 2 * 0 + _ ≤ _; exact Nat.le_of_eq rfl) (hb hby at_103) (fun _ _ => ⟨rfl, rfl, (by decide : 1 + 0 ≤ _), (by decide : 16 + 0 ≤ _)⟩)
    dsimp only [Pt.U, Pt.locs, Pt.cells, Pt.slots] at X33 l33 y33 z33 st33 hQ33
    subst l33 y33 z33
    obtain ⟨rfl, N33q, K33q, f33, A33⟩ := hQ33
    have N33 := Fr.app N32 N33q
    have Zc33 : n0 ≤ T33.heap.size := Nat.le_trans Zc32 K33q.1
    refine Go.st (fun _ k => st33 _ k) ?_
    show Go p e below _ (T33.setTop (mkF m 106 #[.val (.long q0), .second, .val (.int p1), .val (.int p2), .val (.long q3), .second, .val (.int v1), .val (.int v2), .val (.ref b3), .unset, .unset, .unset, .unset, .unset] []))
    refine Go.st (fun _ k => XS.aload X33.here hx rfl (hb hby at_106) rfl rfl k) ?_
    refine Go.st (fun _ k => XS.lload X33.here hx rfl (hb hby at_108) rfl k) ?_
    show Go p e below _ (T33.setTop (mkF m 110 #[.val (.long q0), .second, .val (.int p1), .val (.int p2), .val (.long q3), .second, .val (.int v1), .val (.int v2), .val (.ref b3), .unset, .unset, .unset, .unset, .unset] [(.long q3), (.ref b3)]))
    refine Go.st (fun _ k => XS.bipush X33.here hx rfl (hb hby at_110) k) ?_
    show Go p e below _ (T33.setTop (mkF m 112 #[.val (.long q0), .second, .val (.int p1), .val (.int p2), .val (.long q3), .second, .val (.int v1), .val (.int v2), .val (.ref b3), .unset, .unset, .unset, .unset, .unset] [(.int (10 : Int32)), (.long q3), (.ref b3)]))
    obtain ⟨_, _, ⟨T34, L34, k34, n34⟩, -, X34, ⟨Lc34, hQ34, l34, y34, z34⟩, st34⟩ := Jvm.LawKit.callS X33 hx (y := (⟨"terselink/tlk/TermRecordsReadNumberPinLaw", "junk", "([BJI)V"⟩ : MethodName)) hown (mvT hZ (hw _ (List.mem_of_getElem? (i := 2) rfl))) (mvT hZ (hw _ (List.mem_of_getElem? (i := 3) rfl))) (mvT hZ (hw _ (List.mem_of_getElem? (i := 4) rfl))) (mvT hZ (hw _ (List.mem_of_getElem? (i := 5) rfl))) (by decide) (backOf (W := 0) (rmJunk l Z aZ hw [] b3 q3 (10 : Int32) f33 T33.heap n0 gg3 A33 (by decide) (by decide)) hZ (hw _ (List.mem_of_getElem? (i := 5) rfl)) (hw _ (List.mem_of_getElem? (i := 4) rfl)) (by decide) (by decide)) (g := (mkF m 112 #[.val (.long q0), .second, .val (.int p1), .val (.int p2), .val (.long q3), .second, .val (.int v1), .val (.int v2), .val (.ref b3), .unset, .unset, .unset, .unset, .unset] [(.int (10 : Int32)), (.long q3), (.ref b3)])) rfl (by rw [hml]; rfl) (argsL := [(.ref b3), (.long q3), (.int (10 : Int32))]) (rest := []) (lenOf pd3475ce5b rfl) rfl (by show 2 * 0 + _ ≤ _; exact Nat.le_of_eq rfl) (hb hby at_112) (fun _ _ => ⟨rfl, rfl, (by decide : 1 + 0 ≤ _), (by decide : 16 + 0 ≤ _)⟩)
    dsimp only [Pt.U, Pt.locs, Pt.cells, Pt.slots] at X34 l34 y34 z34 st34 hQ34
    subst l34 y34 z34
    obtain ⟨rfl, N34q, K34q, f34, A34⟩ := hQ34
    have N34 := Fr.app N33 N34q
    have Zc34 : n0 ≤ T34.heap.size := Nat.le_trans Zc33 K34q.1
    refine Go.st (fun _ k => st34 _ k) ?_
    show Go p e below _ (T34.setTop (mkF m 115 #[.val (.long q0), .second, .val (.int p1), .val (.int p2), .val (.long q3), .second, .val (.int v1), .val (.int v2), .val (.ref b3), .unset, .unset, .unset, .unset, .unset] []))
    refine Go.st (fun _ k => XS.aload X34.here hx rfl (hb hby at_115) rfl rfl k) ?_
    refine Go.st (fun _ k => XS.lload X34.here hx rfl (hb hby at_117) rfl k) ?_
    show Go p e below _ (T34.setTop (mkF m 119 #[.val (.long q0), .second, .val (.int p1), .val (.int p2), .val (.long q3), .second, .val (.int v1), .val (.int v2), .val (.ref b3), .unset, .unset, .unset, .unset, .unset] [(.long q3), (.ref b3)]))
    refine Go.st (fun _ k => XS.bipush X34.here hx rfl (hb hby at_119) k) ?_
    show Go p e below _ (T34.setTop (mkF m 121 #[.val (.long q0), .second, .val (.int p1), .val (.int p2), .val (.long q3), .second, .val (.int v1), .val (.int v2), .val (.ref b3), .unset, .unset, .unset, .unset, .unset] [(.int (11 : Int32)), (.long q3), (.ref b3)]))
    obtain ⟨_, _, ⟨T35, L35, k35, n35⟩, -, X35, ⟨Lc35, hQ35, l35, y35, z35⟩, st35⟩ := Jvm.LawKit.callS X34 hx (y := (⟨"terselink/tlk/TermRecordsReadNumberPinLaw", "junk", "([BJI)V"⟩ : MethodName)) hown (mvT hZ (hw _ (List.mem_of_getElem? (i := 2) rfl))) (mvT hZ (hw _ (List.mem_of_getElem? (i := 3) rfl))) (mvT hZ (hw _ (List.mem_of_getElem? (i := 4) rfl))) (mvT hZ (hw _ (List.mem_of_getElem? (i := 5) rfl))) (by decide) (backOf (W := 0) (rmJunk l Z aZ hw [] b3 q3 (11 : Int32) f34 T34.heap n0 gg3 A34 (by decide) (by decide)) hZ (hw _ (List.mem_of_getElem? (i := 5) rfl)) (hw _ (List.mem_of_getElem? (i := 4) rfl)) (by decide) (by decide)) (g := (mkF m 121 #[.val (.long q0), .second, .val (.int p1), .val (.int p2), .val (.long q3), .second, .val (.int v1), .val (.int v2), .val (.ref b3), .unset, .unset, .unset, .unset, .unset] [(.int (11 : Int32)), (.long q3), (.ref b3)])) rfl (by rw [hml]; rfl) (argsL := [(.ref b3), (.long q3), (.int (11 : Int32))]) (rest := []) (lenOf pd3475ce5b rfl) rfl (by show 2 * 0 + _ ≤ _; exact Nat.le_of_eq rfl) (hb hby at_121) (fun _ _ => ⟨rfl, rfl, (by decide : 1 + 0 ≤ _), (by decide : 16 + 0 ≤ _)⟩)
    dsimp only [Pt.U, Pt.locs, Pt.cells, Pt.slots] at X35 l35 y35 z35 st35 hQ35
    subst l35 y35 z35
    obtain ⟨rfl, N35q, K35q, f35, A35⟩ := hQ35
    have N35 := Fr.app N34 N35q
    have Zc35 : n0 ≤ T35.heap.size := Nat.le_trans Zc34 K35q.1
    refine Go.st (fun _ k => st35 _ k) ?_
    show Go p e below _ (T35.setTop (mkF m 124 #[.val (.long q0), .second, .val (.int p1), .val (.int p2), .val (.long q3), .second, .val (.int v1), .val (.int v2), .val (.ref b3), .unset, .unset, .unset, .unset, .unset] []))
    exact kk124 _ _ _ f35 X35 rfl N35 Zc35 A35
  have kk54 : ∀ (Tkk54 : State) (lkk54 : List Loc) (hkk54 : Heap) (u0 : Nat → Int32), (Stand p l e room_1 s m #[(.long q0), (.int p1), (.int p2), (.long q3)] below meth c Tkk54 lkk54 1 16) → (Tkk54.heap = hkk54) → (Fr n0 lkk54) → (n0 ≤ hkk54.size) → (own_arr Z hkk54 b3 u0) → Go p e below (F_rm0 Z q0 p1 p2 q3 h0 n0 s) (Tkk54.setTop (mkF m 54 #[.val (.long q0), .second, .val (.int p1), .val (.int p2), .val (.long q3), .second, .val (.int v1), .val (.int v2), .val (.ref b3), .unset, .unset, .unset, .unset, .unset] [])) := by
    intro Tkk54 lkk54 hkk54 u0 Xkk54 ekk54 Nkk54 Zkk54 Akk54
    show Go p e below _ (Tkk54.setTop (mkF m 54 #[.val (.long q0), .second, .val (.int p1), .val (.int p2), .val (.long q3), .second, .val (.int v1), .val (.int v2), .val (.ref b3), .unset, .unset, .unset, .unset, .unset] []))
    refine Go.st (fun _ k => XS.aload Xkk54.here hx rfl (hb hby at_54) rfl rfl k) ?_
    refine Go.st (fun _ k => XS.lload Xkk54.here hx rfl (hb hby at_56) rfl k) ?_
    show Go p e below _ (Tkk54.setTop (mkF m 58 #[.val (.long q0), .second, .val (.int p1), .val (.int p2), .val (.long q3), .second, .val (.int v1), .val (.int v2), .val (.ref b3), .unset, .unset, .unset, .unset, .unset] [(.long q3), (.ref b3)]))
    refine Go.st (fun _ k => XS.iconst Xkk54.here hx rfl (hb hby at_58) k) ?_
    show Go p e below _ (Tkk54.setTop (mkF m 59 #[.val (.long q0), .second, .val (.int p1), .val (.int p2), .val (.long q3), .second, .val (.int v1), .val (.int v2), .val (.ref b3), .unset, .unset, .unset, .unset, .unset] [(.int (4 : Int32)), (.long q3), (.ref b3)]))
    obtain ⟨_, _, ⟨T36, L36, k36, n36⟩, -, X36, ⟨Lc36, hQ36, l36, y36, z36⟩, st36⟩ := Jvm.LawKit.callS Xkk54 hx (y := (⟨"terselink/tlk/TermRecordsReadNumberPinLaw", "junk", "([BJI)V"⟩ : MethodName)) hown (mvT hZ (hw _ (List.mem_of_getElem? (i := 2) rfl))) (mvT hZ (hw _ (List.mem_of_getElem? (i := 3) rfl))) (mvT hZ (hw _ (List.mem_of_getElem? (i := 4) rfl))) (mvT hZ (hw _ (List.mem_of_getElem? (i := 5) rfl))) (by decide) (backOf (W := 0) (rmJunk l Z aZ hw [] b3 q3 (4 : Int32) u0 hkk54 n0 gg3 Akk54 (by decide) (by decide)) hZ (hw _ (List.mem_of_getElem? (i := 5) rfl)) (hw _ (List.mem_of_getElem? (i := 4) rfl)) (by decide) (by decide)) (g := (mkF m 59 #[.val (.long q0), .second, .val (.int p1), .val (.int p2), .val (.long q3), .second, .val (.int v1), .val (.int v2), .val (.ref b3), .unset, .unset, .unset, .unset, .unset] [(.int (4 : Int32)), (.long q3), (.ref b3)])) rfl (by rw [hml]; rfl) (argsL := [(.ref b3), (.long q3), (.int (4 : Int32))]) (rest := []) (lenOf pd3475ce5b rfl) rfl (by show 2 * 0 + _ ≤ _; exact Nat.le_of_eq rfl) (hb hby at_59) (fun _ _ => ⟨rfl, ekk54, (by decide : 1 + 0 ≤ _), (by decide : 16 + 0 ≤ _)⟩)
    dsimp only [Pt.U, Pt.locs, Pt.cells, Pt.slots] at X36 l36 y36 z36 st36 hQ36
    subst l36 y36 z36
    obtain ⟨rfl, N36q, K36q, f36, A36⟩ := hQ36
    have N36 := Fr.app Nkk54 N36q
    have Zc36 : n0 ≤ T36.heap.size := Nat.le_trans Zkk54 K36q.1
    refine Go.st (fun _ k => st36 _ k) ?_
    show Go p e below _ (T36.setTop (mkF m 62 #[.val (.long q0), .second, .val (.int p1), .val (.int p2), .val (.long q3), .second, .val (.int v1), .val (.int v2), .val (.ref b3), .unset, .unset, .unset, .unset, .unset] []))
    refine Go.st (fun _ k => XS.aload X36.here hx rfl (hb hby at_62) rfl rfl k) ?_
    refine Go.st (fun _ k => XS.lload X36.here hx rfl (hb hby at_64) rfl k) ?_
    show Go p e below _ (T36.setTop (mkF m 66 #[.val (.long q0), .second, .val (.int p1), .val (.int p2), .val (.long q3), .second, .val (.int v1), .val (.int v2), .val (.ref b3), .unset, .unset, .unset, .unset, .unset] [(.long q3), (.ref b3)]))
    refine Go.st (fun _ k => XS.iconst X36.here hx rfl (hb hby at_66) k) ?_
    show Go p e below _ (T36.setTop (mkF m 67 #[.val (.long q0), .second, .val (.int p1), .val (.int p2), .val (.long q3), .second, .val (.int v1), .val (.int v2), .val (.ref b3), .unset, .unset, .unset, .unset, .unset] [(.int (5 : Int32)), (.long q3), (.ref b3)]))
    obtain ⟨_, _, ⟨T37, L37, k37, n37⟩, -, X37, ⟨Lc37, hQ37, l37, y37, z37⟩, st37⟩ := Jvm.LawKit.callS X36 hx (y := (⟨"terselink/tlk/TermRecordsReadNumberPinLaw", "junk", "([BJI)V"⟩ : MethodName)) hown (mvT hZ (hw _ (List.mem_of_getElem? (i := 2) rfl))) (mvT hZ (hw _ (List.mem_of_getElem? (i := 3) rfl))) (mvT hZ (hw _ (List.mem_of_getElem? (i := 4) rfl))) (mvT hZ (hw _ (List.mem_of_getElem? (i := 5) rfl))) (by decide) (backOf (W := 0) (rmJunk l Z aZ hw [] b3 q3 (5 : Int32) f36 T36.heap n0 gg3 A36 (by decide) (by decide)) hZ (hw _ (List.mem_of_getElem? (i := 5) rfl)) (hw _ (List.mem_of_getElem? (i := 4) rfl)) (by decide) (by decide)) (g := (mkF m 67 #[.val (.long q0), .second, .val (.int p1), .val (.int p2), .val (.long q3), .second, .val (.int v1), .val (.int v2), .val (.ref b3), .unset, .unset, .unset, .unset, .unset] [(.int (5 : Int32)), (.long q3), (.ref b3)])) rfl (by rw [hml]; rfl) (argsL := [(.ref b3), (.long q3), (.int (5 : Int32))]) (rest := []) (lenOf pd3475ce5b rfl) rfl (by show 2 * 0 + _ ≤ _; exact Nat.le_of_eq rfl) (hb hby at_67) (fun _ _ => ⟨rfl, rfl, (by decide : 1 + 0 ≤ _), (by decide : 16 + 0 ≤ _)⟩)
    dsimp only [Pt.U, Pt.locs, Pt.cells, Pt.slots] at X37 l37 y37 z37 st37 hQ37
    subst l37 y37 z37
    obtain ⟨rfl, N37q, K37q, f37, A37⟩ := hQ37
    have N37 := Fr.app N36 N37q
    have Zc37 : n0 ≤ T37.heap.size := Nat.le_trans Zc36 K37q.1
    refine Go.st (fun _ k => st37 _ k) ?_
    show Go p e below _ (T37.setTop (mkF m 70 #[.val (.long q0), .second, .val (.int p1), .val (.int p2), .val (.long q3), .second, .val (.int v1), .val (.int v2), .val (.ref b3), .unset, .unset, .unset, .unset, .unset] []))
    refine Go.st (fun _ k => XS.aload X37.here hx rfl (hb hby at_70) rfl rfl k) ?_
    refine Go.st (fun _ k => XS.lload X37.here hx rfl (hb hby at_72) rfl k) ?_
    show Go p e below _ (T37.setTop (mkF m 74 #[.val (.long q0), .second, .val (.int p1), .val (.int p2), .val (.long q3), .second, .val (.int v1), .val (.int v2), .val (.ref b3), .unset, .unset, .unset, .unset, .unset] [(.long q3), (.ref b3)]))
    refine Go.st (fun _ k => XS.bipush X37.here hx rfl (hb hby at_74) k) ?_
    show Go p e below _ (T37.setTop (mkF m 76 #[.val (.long q0), .second, .val (.int p1), .val (.int p2), .val (.long q3), .second, .val (.int v1), .val (.int v2), .val (.ref b3), .unset, .unset, .unset, .unset, .unset] [(.int (6 : Int32)), (.long q3), (.ref b3)]))
    obtain ⟨_, _, ⟨T38, L38, k38, n38⟩, -, X38, ⟨Lc38, hQ38, l38, y38, z38⟩, st38⟩ := Jvm.LawKit.callS X37 hx (y := (⟨"terselink/tlk/TermRecordsReadNumberPinLaw", "junk", "([BJI)V"⟩ : MethodName)) hown (mvT hZ (hw _ (List.mem_of_getElem? (i := 2) rfl))) (mvT hZ (hw _ (List.mem_of_getElem? (i := 3) rfl))) (mvT hZ (hw _ (List.mem_of_getElem? (i := 4) rfl))) (mvT hZ (hw _ (List.mem_of_getElem? (i := 5) rfl))) (by decide) (backOf (W := 0) (rmJunk l Z aZ hw [] b3 q3 (6 : Int32) f37 T37.heap n0 gg3 A37 (by decide) (by decide)) hZ (hw _ (List.mem_of_getElem? (i := 5) rfl)) (hw _ (List.mem_of_getElem? (i := 4) rfl)) (by decide) (by decide)) (g := (mkF m 76 #[.val (.long q0), .second, .val (.int p1), .val (.int p2), .val (.long q3), .second, .val (.int v1), .val (.int v2), .val (.ref b3), .unset, .unset, .unset, .unset, .unset] [(.int (6 : Int32)), (.long q3), (.ref b3)])) rfl (by rw [hml]; rfl) (argsL := [(.ref b3), (.long q3), (.int (6 : Int32))]) (rest := []) (lenOf pd3475ce5b rfl) rfl (by show 2 * 0 + _ ≤ _; exact Nat.le_of_eq rfl) (hb hby at_76) (fun _ _ => ⟨rfl, rfl, (by decide : 1 + 0 ≤ _), (by decide : 16 + 0 ≤ _)⟩)
    dsimp only [Pt.U, Pt.locs, Pt.cells, Pt.slots] at X38 l38 y38 z38 st38 hQ38
    subst l38 y38 z38
    obtain ⟨rfl, N38q, K38q, f38, A38⟩ := hQ38
    have N38 := Fr.app N37 N38q
    have Zc38 : n0 ≤ T38.heap.size := Nat.le_trans Zc37 K38q.1
    refine Go.st (fun _ k => st38 _ k) ?_
    show Go p e below _ (T38.setTop (mkF m 79 #[.val (.long q0), .second, .val (.int p1), .val (.int p2), .val (.long q3), .second, .val (.int v1), .val (.int v2), .val (.ref b3), .unset, .unset, .unset, .unset, .unset] []))
    refine Go.st (fun _ k => XS.aload X38.here hx rfl (hb hby at_79) rfl rfl k) ?_
    refine Go.st (fun _ k => XS.lload X38.here hx rfl (hb hby at_81) rfl k) ?_
    show Go p e below _ (T38.setTop (mkF m 83 #[.val (.long q0), .second, .val (.int p1), .val (.int p2), .val (.long q3), .second, .val (.int v1), .val (.int v2), .val (.ref b3), .unset, .unset, .unset, .unset, .unset] [(.long q3), (.ref b3)]))
    refine Go.st (fun _ k => XS.bipush X38.here hx rfl (hb hby at_83) k) ?_
    show Go p e below _ (T38.setTop (mkF m 85 #[.val (.long q0), .second, .val (.int p1), .val (.int p2), .val (.long q3), .second, .val (.int v1), .val (.int v2), .val (.ref b3), .unset, .unset, .unset, .unset, .unset] [(.int (7 : Int32)), (.long q3), (.ref b3)]))
    obtain ⟨_, _, ⟨T39, L39, k39, n39⟩, -, X39, ⟨Lc39, hQ39, l39, y39, z39⟩, st39⟩ := Jvm.LawKit.callS X38 hx (y := (⟨"terselink/tlk/TermRecordsReadNumberPinLaw", "junk", "([BJI)V"⟩ : MethodName)) hown (mvT hZ (hw _ (List.mem_of_getElem? (i := 2) rfl))) (mvT hZ (hw _ (List.mem_of_getElem? (i := 3) rfl))) (mvT hZ (hw _ (List.mem_of_getElem? (i := 4) rfl))) (mvT hZ (hw _ (List.mem_of_getElem? (i := 5) rfl))) (by decide) (backOf (W := 0) (rmJunk l Z aZ hw [] b3 q3 (7 : Int32) f38 T38.heap n0 gg3 A38 (by decide) (by decide)) hZ (hw _ (List.mem_of_getElem? (i := 5) rfl)) (hw _ (List.mem_of_getElem? (i := 4) rfl)) (by decide) (by decide)) (g := (mkF m 85 #[.val (.long q0), .second, .val (.int p1), .val (.int p2), .val (.long q3), .second, .val (.int v1), .val (.int v2), .val (.ref b3), .unset, .unset, .unset, .unset, .unset] [(.int (7 : Int32)), (.long q3), (.ref b3)])) rfl (by rw [hml]; rfl) (argsL := [(.ref b3), (.long q3), (.int (7 : Int32))]) (rest := []) (lenOf pd3475ce5b rfl) rfl (by show 2 * 0 + _ ≤ _; exact Nat.le_of_eq rfl) (hb hby at_85) (fun _ _ => ⟨rfl, rfl, (by decide : 1 + 0 ≤ _), (by decide : 16 + 0 ≤ _)⟩)
    dsimp only [Pt.U, Pt.locs, Pt.cells, Pt.slots] at X39 l39 y39 z39 st39 hQ39
    subst l39 y39 z39
    obtain ⟨rfl, N39q, K39q, f39, A39⟩ := hQ39
    have N39 := Fr.app N38 N39q
    have Zc39 : n0 ≤ T39.heap.size := Nat.le_trans Zc38 K39q.1
    refine Go.st (fun _ k => st39 _ k) ?_
    show Go p e below _ (T39.setTop (mkF m 88 #[.val (.long q0), .second, .val (.int p1), .val (.int p2), .val (.long q3), .second, .val (.int v1), .val (.int v2), .val (.ref b3), .unset, .unset, .unset, .unset, .unset] []))
    exact kk88 _ _ _ f39 X39 rfl N39 Zc39 A39
  refine Go.st (fun _ k => XS.aload X3.here hx rfl (hb hby at_22) rfl rfl k) ?_
  refine Go.st (fun _ k => XS.lload X3.here hx rfl (hb hby at_24) rfl k) ?_
  show Go p e below _ (T3.setTop (mkF m 26 #[.val (.long q0), .second, .val (.int p1), .val (.int p2), .val (.long q3), .second, .val (.int v1), .val (.int v2), .val (.ref b3), .unset, .unset, .unset, .unset, .unset] [(.long q3), (.ref b3)]))
  refine Go.st (fun _ k => XS.iconst X3.here hx rfl (hb hby at_26) k) ?_
  show Go p e below _ (T3.setTop (mkF m 27 #[.val (.long q0), .second, .val (.int p1), .val (.int p2), .val (.long q3), .second, .val (.int v1), .val (.int v2), .val (.ref b3), .unset, .unset, .unset, .unset, .unset] [(.int (0 : Int32)), (.long q3), (.ref b3)]))
  obtain ⟨_, _, ⟨T40, L40, k40, n40⟩, -, X40, ⟨Lc40, hQ40, l40, y40, z40⟩, st40⟩ := Jvm.LawKit.callS X3 hx (y := (⟨"terselink/tlk/TermRecordsReadNumberPinLaw", "junk", "([BJI)V"⟩ : MethodName)) hown (mvT hZ (hw _ (List.mem_of_getElem? (i := 2) rfl))) (mvT hZ (hw _ (List.mem_of_getElem? (i := 3) rfl))) (mvT hZ (hw _ (List.mem_of_getElem? (i := 4) rfl))) (mvT hZ (hw _ (List.mem_of_getElem? (i := 5) rfl))) (by decide) (backOf (W := 0) (rmJunk l Z aZ hw [] b3 q3 (0 : Int32) (fun _ => 0) h3 n0 gg3 V3 (by decide) (by decide)) hZ (hw _ (List.mem_of_getElem? (i := 5) rfl)) (hw _ (List.mem_of_getElem? (i := 4) rfl)) (by decide) (by decide)) (g := (mkF m 27 #[.val (.long q0), .second, .val (.int p1), .val (.int p2), .val (.long q3), .second, .val (.int v1), .val (.int v2), .val (.ref b3), .unset, .unset, .unset, .unset, .unset] [(.int (0 : Int32)), (.long q3), (.ref b3)])) rfl (by rw [hml]; rfl) (argsL := [(.ref b3), (.long q3), (.int (0 : Int32))]) (rest := []) (lenOf pd3475ce5b rfl) rfl (by show 2 * 0 + _ ≤ _; exact Nat.le_of_eq rfl) (hb hby at_27) (fun _ _ => ⟨rfl, e3, (by decide : 1 + 0 ≤ _), (by decide : 16 + 0 ≤ _)⟩)
  dsimp only [Pt.U, Pt.locs, Pt.cells, Pt.slots] at X40 l40 y40 z40 st40 hQ40
  subst l40 y40 z40
  obtain ⟨rfl, N40q, K40q, f40, A40⟩ := hQ40
  have N40 := Fr.app N0 N40q
  have Zc40 : n0 ≤ T40.heap.size := Nat.le_trans Z3 K40q.1
  refine Go.st (fun _ k => st40 _ k) ?_
  show Go p e below _ (T40.setTop (mkF m 30 #[.val (.long q0), .second, .val (.int p1), .val (.int p2), .val (.long q3), .second, .val (.int v1), .val (.int v2), .val (.ref b3), .unset, .unset, .unset, .unset, .unset] []))
  refine Go.st (fun _ k => XS.aload X40.here hx rfl (hb hby at_30) rfl rfl k) ?_
  refine Go.st (fun _ k => XS.lload X40.here hx rfl (hb hby at_32) rfl k) ?_
  show Go p e below _ (T40.setTop (mkF m 34 #[.val (.long q0), .second, .val (.int p1), .val (.int p2), .val (.long q3), .second, .val (.int v1), .val (.int v2), .val (.ref b3), .unset, .unset, .unset, .unset, .unset] [(.long q3), (.ref b3)]))
  refine Go.st (fun _ k => XS.iconst X40.here hx rfl (hb hby at_34) k) ?_
  show Go p e below _ (T40.setTop (mkF m 35 #[.val (.long q0), .second, .val (.int p1), .val (.int p2), .val (.long q3), .second, .val (.int v1), .val (.int v2), .val (.ref b3), .unset, .unset, .unset, .unset, .unset] [(.int (1 : Int32)), (.long q3), (.ref b3)]))
  obtain ⟨_, _, ⟨T41, L41, k41, n41⟩, -, X41, ⟨Lc41, hQ41, l41, y41, z41⟩, st41⟩ := Jvm.LawKit.callS X40 hx (y := (⟨"terselink/tlk/TermRecordsReadNumberPinLaw", "junk", "([BJI)V"⟩ : MethodName)) hown (mvT hZ (hw _ (List.mem_of_getElem? (i := 2) rfl))) (mvT hZ (hw _ (List.mem_of_getElem? (i := 3) rfl))) (mvT hZ (hw _ (List.mem_of_getElem? (i := 4) rfl))) (mvT hZ (hw _ (List.mem_of_getElem? (i := 5) rfl))) (by decide) (backOf (W := 0) (rmJunk l Z aZ hw [] b3 q3 (1 : Int32) f40 T40.heap n0 gg3 A40 (by decide) (by decide)) hZ (hw _ (List.mem_of_getElem? (i := 5) rfl)) (hw _ (List.mem_of_getElem? (i := 4) rfl)) (by decide) (by decide)) (g := (mkF m 35 #[.val (.long q0), .second, .val (.int p1), .val (.int p2), .val (.long q3), .second, .val (.int v1), .val (.int v2), .val (.ref b3), .unset, .unset, .unset, .unset, .unset] [(.int (1 : Int32)), (.long q3), (.ref b3)])) rfl (by rw [hml]; rfl) (argsL := [(.ref b3), (.long q3), (.int (1 : Int32))]) (rest := []) (lenOf pd3475ce5b rfl) rfl (by show 2 * 0 + _ ≤ _; exact Nat.le_of_eq rfl) (hb hby at_35) (fun _ _ => ⟨rfl, rfl, (by decide : 1 + 0 ≤ _), (by decide : 16 + 0 ≤ _)⟩)
  dsimp only [Pt.U, Pt.locs, Pt.cells, Pt.slots] at X41 l41 y41 z41 st41 hQ41
  subst l41 y41 z41
  obtain ⟨rfl, N41q, K41q, f41, A41⟩ := hQ41
  have N41 := Fr.app N40 N41q
  have Zc41 : n0 ≤ T41.heap.size := Nat.le_trans Zc40 K41q.1
  refine Go.st (fun _ k => st41 _ k) ?_
  show Go p e below _ (T41.setTop (mkF m 38 #[.val (.long q0), .second, .val (.int p1), .val (.int p2), .val (.long q3), .second, .val (.int v1), .val (.int v2), .val (.ref b3), .unset, .unset, .unset, .unset, .unset] []))
  refine Go.st (fun _ k => XS.aload X41.here hx rfl (hb hby at_38) rfl rfl k) ?_
  refine Go.st (fun _ k => XS.lload X41.here hx rfl (hb hby at_40) rfl k) ?_
  show Go p e below _ (T41.setTop (mkF m 42 #[.val (.long q0), .second, .val (.int p1), .val (.int p2), .val (.long q3), .second, .val (.int v1), .val (.int v2), .val (.ref b3), .unset, .unset, .unset, .unset, .unset] [(.long q3), (.ref b3)]))
  refine Go.st (fun _ k => XS.iconst X41.here hx rfl (hb hby at_42) k) ?_
  show Go p e below _ (T41.setTop (mkF m 43 #[.val (.long q0), .second, .val (.int p1), .val (.int p2), .val (.long q3), .second, .val (.int v1), .val (.int v2), .val (.ref b3), .unset, .unset, .unset, .unset, .unset] [(.int (2 : Int32)), (.long q3), (.ref b3)]))
  obtain ⟨_, _, ⟨T42, L42, k42, n42⟩, -, X42, ⟨Lc42, hQ42, l42, y42, z42⟩, st42⟩ := Jvm.LawKit.callS X41 hx (y := (⟨"terselink/tlk/TermRecordsReadNumberPinLaw", "junk", "([BJI)V"⟩ : MethodName)) hown (mvT hZ (hw _ (List.mem_of_getElem? (i := 2) rfl))) (mvT hZ (hw _ (List.mem_of_getElem? (i := 3) rfl))) (mvT hZ (hw _ (List.mem_of_getElem? (i := 4) rfl))) (mvT hZ (hw _ (List.mem_of_getElem? (i := 5) rfl))) (by decide) (backOf (W := 0) (rmJunk l Z aZ hw [] b3 q3 (2 : Int32) f41 T41.heap n0 gg3 A41 (by decide) (by decide)) hZ (hw _ (List.mem_of_getElem? (i := 5) rfl)) (hw _ (List.mem_of_getElem? (i := 4) rfl)) (by decide) (by decide)) (g := (mkF m 43 #[.val (.long q0), .second, .val (.int p1), .val (.int p2), .val (.long q3), .second, .val (.int v1), .val (.int v2), .val (.ref b3), .unset, .unset, .unset, .unset, .unset] [(.int (2 : Int32)), (.long q3), (.ref b3)])) rfl (by rw [hml]; rfl) (argsL := [(.ref b3), (.long q3), (.int (2 : Int32))]) (rest := []) (lenOf pd3475ce5b rfl) rfl (by show 2 * 0 + _ ≤ _; exact Nat.le_of_eq rfl) (hb hby at_43) (fun _ _ => ⟨rfl, rfl, (by decide : 1 + 0 ≤ _), (by decide : 16 + 0 ≤ _)⟩)
  dsimp only [Pt.U, Pt.locs, Pt.cells, Pt.slots] at X42 l42 y42 z42 st42 hQ42
  subst l42 y42 z42
  obtain ⟨rfl, N42q, K42q, f42, A42⟩ := hQ42
  have N42 := Fr.app N41 N42q
  have Zc42 : n0 ≤ T42.heap.size := Nat.le_trans Zc41 K42q.1
  refine Go.st (fun _ k => st42 _ k) ?_
  show Go p e below _ (T42.setTop (mkF m 46 #[.val (.long q0), .second, .val (.int p1), .val (.int p2), .val (.long q3), .second, .val (.int v1), .val (.int v2), .val (.ref b3), .unset, .unset, .unset, .unset, .unset] []))
  refine Go.st (fun _ k => XS.aload X42.here hx rfl (hb hby at_46) rfl rfl k) ?_
  refine Go.st (fun _ k => XS.lload X42.here hx rfl (hb hby at_48) rfl k) ?_
  show Go p e below _ (T42.setTop (mkF m 50 #[.val (.long q0), .second, .val (.int p1), .val (.int p2), .val (.long q3), .second, .val (.int v1), .val (.int v2), .val (.ref b3), .unset, .unset, .unset, .unset, .unset] [(.long q3), (.ref b3)]))
  refine Go.st (fun _ k => XS.iconst X42.here hx rfl (hb hby at_50) k) ?_
  show Go p e below _ (T42.setTop (mkF m 51 #[.val (.long q0), .second, .val (.int p1), .val (.int p2), .val (.long q3), .second, .val (.int v1), .val (.int v2), .val (.ref b3), .unset, .unset, .unset, .unset, .unset] [(.int (3 : Int32)), (.long q3), (.ref b3)]))
  obtain ⟨_, _, ⟨T43, L43, k43, n43⟩, -, X43, ⟨Lc43, hQ43, l43, y43, z43⟩, st43⟩ := Jvm.LawKit.callS X42 hx (y := (⟨"terselink/tlk/TermRecordsReadNumberPinLaw", "junk", "([BJI)V"⟩ : MethodName)) hown (mvT hZ (hw _ (List.mem_of_getElem? (i := 2) rfl))) (mvT hZ (hw _ (List.mem_of_getElem? (i := 3) rfl))) (mvT hZ (hw _ (List.mem_of_getElem? (i := 4) rfl))) (mvT hZ (hw _ (List.mem_of_getElem? (i := 5) rfl))) (by decide) (backOf (W := 0) (rmJunk l Z aZ hw [] b3 q3 (3 : Int32) f42 T42.heap n0 gg3 A42 (by decide) (by decide)) hZ (hw _ (List.mem_of_getElem? (i := 5) rfl)) (hw _ (List.mem_of_getElem? (i := 4) rfl)) (by decide) (by decide)) (g := (mkF m 51 #[.val (.long q0), .second, .val (.int p1), .val (.int p2), .val (.long q3), .second, .val (.int v1), .val (.int v2), .val (.ref b3), .unset, .unset, .unset, .unset, .unset] [(.int (3 : Int32)), (.long q3), (.ref b3)])) rfl (by rw [hml]; rfl) (argsL := [(.ref b3), (.long q3), (.int (3 : Int32))]) (rest := []) (lenOf pd3475ce5b rfl) rfl (by show 2 * 0 + _ ≤ _; exact Nat.le_of_eq rfl) (hb hby at_51) (fun _ _ => ⟨rfl, rfl, (by decide : 1 + 0 ≤ _), (by decide : 16 + 0 ≤ _)⟩)
  dsimp only [Pt.U, Pt.locs, Pt.cells, Pt.slots] at X43 l43 y43 z43 st43 hQ43
  subst l43 y43 z43
  obtain ⟨rfl, N43q, K43q, f43, A43⟩ := hQ43
  have N43 := Fr.app N42 N43q
  have Zc43 : n0 ≤ T43.heap.size := Nat.le_trans Zc42 K43q.1
  refine Go.st (fun _ k => st43 _ k) ?_
  show Go p e below _ (T43.setTop (mkF m 54 #[.val (.long q0), .second, .val (.int p1), .val (.int p2), .val (.long q3), .second, .val (.int v1), .val (.int v2), .val (.ref b3), .unset, .unset, .unset, .unset, .unset] []))
  exact kk54 _ _ _ f43 X43 rfl N43 Zc43 A43
set_option maxRecDepth 65536 in
set_option maxHeartbeats 40000000 in
theorem comes_1 {Post : Tables → Env → Array Value → State → Outcome → State → Prop} (hpost : ∀ tb e args s v u, (limb_1_1.after args s (.returned v) u = true ∧ limb_1_2.after args s (.returned v) u = true ∧ True) → FrameEnd s (.returned v) u (Jvm.fieldLocs frame_1_writes args s ++ Jvm.arrayLocs frame_1_arrays args s ++ Jvm.staticLocs frame_1_statics s) 16 128 → Post tb e args s (.returned v) u) :
    ArmFor flags0 classFile x code maxLocals ret World_1 tables_1 room_1 Calls_1 rest_1 Pre_1 Post := by
  intro l hfl _ _ p e ha hc hk s m args below hf hA hF happ hP
  obtain ⟨hcalls, hrest, hpre⟩ := hP
  obtain ⟨-, -, -, hnamed, -, -, -, hat⟩ := (Spec.applies_iff hf).mp happ
  obtain ⟨hg, hn⟩ := and_e (Cond.before_iff.mp (show (Jvm.Cond.and given_1 narrow_1).before args s = true from hpre))
  obtain ⟨g0, gr0⟩ := and_e hg
  obtain ⟨gi0, gr1⟩ := and_e gr0
  obtain ⟨gi1, gr2⟩ := and_e gr1
  obtain ⟨gi2, gr3⟩ := and_e gr2
  have gi3 := gr3
  obtain ⟨w0, w1, w2, w3, rfl⟩ : ∃ w0 w1 w2 w3 : Value, args = #[w0, w1, w2, w3] := by
    have hs : args.size = 4 := by simpa [Cond.value, given_1] using g0
    obtain ⟨L⟩ := args
    match L, hs with
    | [w0, w1, w2, w3], _ => exact ⟨w0, w1, w2, w3, rfl⟩
  have hw := fun d (hd : d ∈ tables_1) => atoms_spec (ws := Jvm.Cond.code x code maxLocals ret :: tables_1) hat d (List.mem_cons_of_mem _ hd)
  obtain ⟨i0, ei0⟩ := isL_v gi0
  obtain rfl : w0 = (.long i0) := Option.some.inj ei0
  obtain ⟨i1, ei1⟩ := is_v gi1
  obtain rfl : w1 = (.int i1) := Option.some.inj ei1
  obtain ⟨i2, ei2⟩ := is_v gi2
  obtain rfl : w2 = (.int i2) := Option.some.inj ei2
  obtain ⟨i3, ei3⟩ := isL_v gi3
  obtain rfl : w3 = (.long i3) := Option.some.inj ei3
  obtain ⟨n, o, h1, h2, h3, _, L, rfl, ⟨rfl, N⟩, hq⟩ := rm0 l s _ hw tables_1 i0 i1 i2 i3  s.heap s.heap.size (Nat.le_refl _) p e ha hc hk s m _ below hf ((Spec.applies_iff_loose hf).mp happ).1 ⟨rfl, State.Warmed39.refl s, rfl⟩ trivial
  refine ⟨n, _, h1, h2, h3, hpost _ _ _ _ _ _ ⟨Cond.after_iff.mpr rfl, Cond.after_iff.mpr (eq_i res_at (Term.int_eval (1)) rfl), trivial⟩ ⟨hq.1, hq.2.1, (hq.2.2.sift fun y hy => Or.inr (N y hy)).mono (by decide) (by decide)⟩⟩
theorem main_1_1 : Claimed_1_1 := comes_1 fun _ _ _ _ _ _ h hF => ⟨h.1, hF⟩
theorem main_1_2 : Claimed_1_2 := comes_1 fun _ _ _ _ _ _ h hF => ⟨h.2.1, hF⟩
end Jvm.Pilot.@@N@@
namespace Jvm.Pilot.@@N@@
open Jvm Jvm.ClassFile Sem Op Lib Jvm.Free Jvm.Stand Jvm.Pilot.@@N@@.Jvm.D
/-! MADE BY PROGRAM (witnessworld.py) out of the Statement's table words and the real class files: 9 classes; the members and pool entries that the words name. The judged class is class 1, her method 4. -/
namespace start1
open Jvm.ClassFile
def u (s : String) : CpInfo := .utf8 (stringToUtf16 s)
/-- a pool by its gaps: so many unusable entries, then the entry; so many at the end -/
def gap : Nat → List CpInfo → List CpInfo
  | 0, r => r
  | n + 1, r => .unusable :: gap n r
def poolList (es : List (Nat × CpInfo)) (last : Nat) : List CpInfo := es.foldr (fun e r => gap e.1 (e.2 :: r)) (gap last [])
def pool (es : List (Nat × CpInfo)) (last : Nat) : Array CpInfo := ⟨poolList es last⟩
def fileOf (pool : Array CpInfo) (this : Nat) (attrs : Array Attribute := #[]) (ms : Array MethodInfo := #[]) (fl : Nat := 33) (sup : Nat := 0) (ifs : Array Nat := #[]) (fds : Array FieldInfo := #[]) : ClassFile where
  minorVersion := 0
  majorVersion := 65
  constantPool := pool
  accessFlags := fl
  thisClass := this
  superClass := sup
  interfaces := ifs
  fields := fds
  methods := ms
  attributes := attrs
def plain (name : String) (sup : Option ClassId) : Class where
  name := name
  kind := .ordinary
  loader := none
  accessFlags := 33
  super := sup
  interfaces := #[]
  cf := none
  fields := #[]
  methods := #[]
  instanceTypes := #[]
  staticTypes := #[]
  resolved := #[]
  callSites := []
  init := .initialized
  statics := none
  mirror := none

def pool0 : Array CpInfo := pool [(5, u "<init>"), (0, u "()V"), (1, .class_ 10), (1, u "java/lang/Object")] 113

def k0c0 : Code := { maxStack := 0, maxLocals := 1, code := object_method_1_code, exceptionTable := #[], attributes := #[] }
def k0m0 : Method := { name := "<init>", desc := "()V", sig := { parameters := [], returnType := none }, accessFlags := 1, code := some k0c0 }
/-- java/lang/Object -/
def k0 : Class := { plain "java/lang/Object" none with
  accessFlags := 33
  interfaces := #[]
  cf := some (fileOf pool0 8 #[] #[{ accessFlags := 1, nameIndex := 5, descriptorIndex := 6, attributes := #[] }] 33 0 #[] #[])
  fields := #[]
  methods := #[k0m0]
  instanceTypes := #[]
  staticTypes := #[]
  resolved := Array.replicate 124 none
  statics := none }

def pool1 : Array CpInfo := pool [(2, .class_ 4), (0, .nameAndType 5 6), (0, u "java/lang/Object"), (0, u "<init>"), (0, u "()V"), (0, .long 127), (1, .long 128), (1, .methodref 12 13), (0, .class_ 14), (0, .nameAndType 15 16), (0, u "terselink/tlk/TermRecordsReadNumberPinLaw"), (0, u "enc"), (0, u "(JII)B"), (0, .integer 2147483647), (0, .methodref 12 19), (0, .nameAndType 20 21), (0, u "junk"), (0, u "([BJI)V"), (0, .methodref 12 23), (0, .nameAndType 24 25), (0, u "put"), (0, u "([BIJII)V"), (0, .class_ 27), (0, u "terselink/tlk/TermRecords"), (0, .methodref 26 3), (0, .methodref 26 30), (0, .nameAndType 31 32), (0, u "moveTo"), (0, u "([BI)V"), (0, .methodref 26 34), (0, .nameAndType 35 36), (0, u "readNumber"), (0, u "()J"), (0, .methodref 26 38), (0, .nameAndType 39 40), (0, u "position"), (0, u "()I"), (3, u "law"), (0, u "(JIIJ)Z")] 4

def k1m0 : Method := { name := "<init>", desc := "()V", sig := { parameters := [], returnType := none }, accessFlags := 1, code := none }
def k1c1 : Code := { maxStack := 4, maxLocals := 6, code := method_2_code, exceptionTable := #[], attributes := #[] }
def k1m1 : Method := { name := "enc", desc := "(JII)B", sig := { parameters := [.long, .int, .int], returnType := some .byte }, accessFlags := 10, code := some k1c1 }
def k1c2 : Code := { maxStack := 6, maxLocals := 6, code := method_3_code, exceptionTable := #[], attributes := #[] }
def k1m2 : Method := { name := "put", desc := "([BIJII)V", sig := { parameters := [(.array .byte), .int, .long, .int, .int], returnType := none }, accessFlags := 10, code := some k1c2 }
def k1c3 : Code := { maxStack := 6, maxLocals := 4, code := method_4_code, exceptionTable := #[], attributes := #[] }
def k1m3 : Method := { name := "junk", desc := "([BJI)V", sig := { parameters := [(.array .byte), .long, .int], returnType := none }, accessFlags := 10, code := some k1c3 }
def k1c4 : Code := { maxStack := 6, maxLocals := 14, code := code, exceptionTable := #[], attributes := #[] }
def k1m4 : Method := { name := "law", desc := "(JIIJ)Z", sig := { parameters := [.long, .int, .int, .long], returnType := some .boolean }, accessFlags := 9, code := some k1c4 }
/-- terselink/tlk/TermRecordsReadNumberPinLaw -/
def k1 : Class := { plain "terselink/tlk/TermRecordsReadNumberPinLaw" (some 0) with
  accessFlags := 49
  interfaces := #[]
  cf := some (fileOf pool1 12 #[] #[{ accessFlags := 1, nameIndex := 5, descriptorIndex := 6, attributes := #[] }, { accessFlags := 10, nameIndex := 15, descriptorIndex := 16, attributes := #[] }, { accessFlags := 10, nameIndex := 24, descriptorIndex := 25, attributes := #[] }, { accessFlags := 10, nameIndex := 20, descriptorIndex := 21, attributes := #[] }, { accessFlags := 9, nameIndex := 44, descriptorIndex := 45, attributes := #[] }] 49 2 #[] #[])
  fields := #[]
  methods := #[k1m0, k1m1, k1m2, k1m3, k1m4]
  instanceTypes := #[]
  staticTypes := #[]
  resolved := Array.replicate 50 none
  statics := none }

def pool2 : Array CpInfo := pool [(1, .methodref 2 3), (0, .class_ 4), (0, .nameAndType 5 6), (0, u "java/lang/Object"), (0, u "<init>"), (0, u "()V"), (7, .class_ 16), (1, u "terselink/tlk/TermRecords"), (8, .fieldref 14 26), (0, .nameAndType 27 28), (0, u "array"), (0, u "[B"), (0, .fieldref 14 30), (0, .nameAndType 31 32), (0, u "at"), (0, u "I"), (2, u "readNumber"), (0, u "()J"), (9, u "()I"), (17, u "moveTo"), (0, u "([BI)V"), (0, u "position")] 5

def k2c0 : Code := { maxStack := 1, maxLocals := 1, code := prog_68_method_1_code, exceptionTable := #[], attributes := #[] }
def k2m0 : Method := { name := "<init>", desc := "()V", sig := { parameters := [], returnType := none }, accessFlags := 0, code := some k2c0 }
def k2c1 : Code := { maxStack := 2, maxLocals := 3, code := prog_68_method_3_code, exceptionTable := #[], attributes := #[] }
def k2m1 : Method := { name := "moveTo", desc := "([BI)V", sig := { parameters := [(.array .byte), .int], returnType := none }, accessFlags := 0, code := some k2c1 }
def k2c2 : Code := { maxStack := 1, maxLocals := 1, code := prog_68_method_4_code, exceptionTable := #[], attributes := #[] }
def k2m2 : Method := { name := "position", desc := "()I", sig := { parameters := [], returnType := some .int }, accessFlags := 0, code := some k2c2 }
def k2c3 : Code := { maxStack := 5, maxLocals := 5, code := prog_68_method_9_code, exceptionTable := #[], attributes := #[] }
def k2m3 : Method := { name := "readNumber", desc := "()J", sig := { parameters := [], returnType := some .long }, accessFlags := 0, code := some k2c3 }
/-- terselink/tlk/TermRecords -/
def k2 : Class := { plain "terselink/tlk/TermRecords" (some 0) with
  accessFlags := 48
  interfaces := #[]
  cf := some (fileOf pool2 14 #[] #[{ accessFlags := 0, nameIndex := 5, descriptorIndex := 6, attributes := #[] }, { accessFlags := 0, nameIndex := 64, descriptorIndex := 65, attributes := #[] }, { accessFlags := 0, nameIndex := 66, descriptorIndex := 46, attributes := #[] }, { accessFlags := 0, nameIndex := 35, descriptorIndex := 36, attributes := #[] }] 48 2 #[] #[{ accessFlags := 2, nameIndex := 27, descriptorIndex := 28, attributes := #[] }, { accessFlags := 2, nameIndex := 31, descriptorIndex := 32, attributes := #[] }])
  fields := #[{ name := "array", type := (.array .byte), accessFlags := 2, slot := 0, constantValue := 0 }, { name := "at", type := .int, accessFlags := 2, slot := 1, constantValue := 0 }]
  methods := #[k2m0, k2m1, k2m2, k2m3]
  instanceTypes := #[(.array .byte), .int]
  staticTypes := #[]
  resolved := Array.replicate 72 none
  statics := none }

def pool3 : Array CpInfo := pool [(1, u "java/lang/Cloneable"), (0, .class_ 1), (0, u "java/lang/Object"), (0, .class_ 3)] 3

/-- java/lang/Cloneable -/
def k3 : Class := { plain "java/lang/Cloneable" (some 0) with
  accessFlags := 1537
  interfaces := #[]
  cf := some (fileOf pool3 2 #[] #[] 1537 4 #[] #[])
  fields := #[]
  methods := #[]
  instanceTypes := #[]
  staticTypes := #[]
  resolved := Array.replicate 8 none
  statics := none }

def pool4 : Array CpInfo := pool [(1, u "java/io/Serializable"), (0, .class_ 1), (0, u "java/lang/Object"), (0, .class_ 3)] 3

/-- java/io/Serializable -/
def k4 : Class := { plain "java/io/Serializable" (some 0) with
  accessFlags := 1537
  interfaces := #[]
  cf := some (fileOf pool4 2 #[] #[] 1537 4 #[] #[])
  fields := #[]
  methods := #[]
  instanceTypes := #[]
  staticTypes := #[]
  resolved := Array.replicate 8 none
  statics := none }

/-- the primitive byte -/
def k5 : Class := { plain "byte" none with kind := .primitive 'B', accessFlags := 0x411 }
/-- [B -/
def k6 : Class := { plain "[B" (some 0) with kind := .array 5 .byte, interfaces := #[3, 4], accessFlags := 1041 }

/-- the primitive int -/
def k7 : Class := { plain "int" none with kind := .primitive 'I', accessFlags := 0x411 }
/-- [I -/
def k8 : Class := { plain "[I" (some 0) with kind := .array 7 .int, interfaces := #[3, 4], accessFlags := 1041 }

def heap : Heap := #[]
def classes : Array Class := #[k0, k1, k2, k3, k4, k5, k6, k7, k8]
def interned : List (Array UInt16 × Addr) := []
def slotsUsed : Nat := 0
def theMethod : MethodId := ⟨1, 4⟩
def args0 : Array Value := #[.long 5, .int 6, .int 7, .long 8]
def aboutOver (below : List Frame) : State where
  vm := { classes := classes, interned := interned.toArray }
  heap := heap
  slotsUsed := slotsUsed
  threads := #[{ frames := .invoking theMethod args0 :: below }]
def below0 : List Frame := [.native { method := ⟨0, 0⟩, args := #[] }]
def about1 : State := aboutOver below0
def p0 : Program := .bare "" "" ""
def e0 : Env := launch0.env 0 0 0
theorem w_frames : about1.frames = Frame.invoking theMethod args0 :: below0 := rfl
set_option maxRecDepth 65536 in
theorem w_args : argsFit about1.vm theMethod args0 = true := by decide +kernel
set_option maxRecDepth 65536 in
theorem w_heap : heapFits about1 = true := by decide +kernel
set_option maxRecDepth 65536 in
theorem w_runnable : about1.curStatus? = some .runnable := by decide +kernel
set_option maxRecDepth 65536 in
theorem w_alone : about1.alone = true := by decide +kernel
set_option maxRecDepth 65536 in
theorem w_named : about1.methodNamed? x = some theMethod := by decide +kernel
set_option maxRecDepth 65536 in
theorem w_hears : about1.hears theMethod below0 = true := by decide +kernel
set_option maxRecDepth 65536 in
theorem w_ripe : about1.ripe theMethod args0 below0 = true := by decide +kernel
theorem w_running : about1.status = .running := rfl
set_option maxRecDepth 65536 in
theorem w_room : about1.hasRoom e0.platform room_1 = true :=
  launch0.hasRoom_least _ room_1 (by decide +kernel) (by decide +kernel) (by decide +kernel) (by decide +kernel) (by decide +kernel) (by decide +kernel)
theorem allAtoms_all (ts : List Jvm.Cond) (a : Array Jvm.Value) (st : Jvm.State) : (allAtoms ts).before a st = ts.all (fun c => c.before a st) := by
  induction ts with
  | nil => rfl
  | cons c t ih =>
    show (Jvm.Cond.and c (allAtoms t)).before a st = _
    rw [Jvm.Cond.before_and, ih, List.all_cons]
def words1 : List Jvm.Cond := Jvm.Cond.code x code maxLocals ret :: tables_1
/-- a 'code' word, met by the world's own term for the bytes: nothing is compared byte by byte -/
theorem code_word {y : MethodName} {bytes : ByteArray} {mx : Nat} {rt : Option FieldType} {a : Array Value} {s : State} {m : MethodId} {meth : Method} {c : Code} (h1 : s.methodNamed? y = some m) (h2 : s.vm.method? m = some meth) (h3 : meth.code = some c) (h4 : c.code = bytes)
    (h5 : (c.maxLocals == mx && c.exceptionTable.isEmpty && decide (c.maxStack ≤ mostOperands) && decide (meth.sig.returnType = rt) && !meth.locks && decide (parseMethodDescriptor y.desc = some meth.sig)) = true) : (Jvm.Cond.code y bytes mx rt).before a s = true := by
  simp only [Bool.and_eq_true, beq_iff_eq, Bool.not_eq_true', decide_eq_true_eq] at h5
  obtain ⟨⟨⟨⟨⟨g1, g2⟩, g3⟩, g4⟩, g5⟩, g6⟩ := h5
  simp [Cond.before, Cond.holds, Cond.value, h1, h2, h3, h4, g1, g2, g3, g4, g5, g6]
def isCode : Jvm.Cond → Bool
  | .code _ _ _ _ => true
  | _ => false
theorem all_split {L : List Jvm.Cond} {P : Jvm.Cond → Bool} (h1 : L.all (fun c => isCode c || P c) = true) (h2 : ∀ c ∈ L.filter isCode, P c = true) : L.all P = true := by
  refine List.all_eq_true.mpr fun c hc => ?_
  have h := List.all_eq_true.mp h1 c hc
  rcases Bool.eq_false_or_eq_true (isCode c) with hi | hi
  · exact h2 c (List.mem_filter.mpr ⟨hc, hi⟩)
  · simpa [hi] using h
set_option maxRecDepth 65536 in
theorem w_c0 : (Jvm.Cond.code x code maxLocals ret).before args0 about1 = true := code_word (m := ⟨1, 4⟩) (meth := k1m4) (c := k1c4) (by decide +kernel) rfl rfl rfl (by decide +kernel)
set_option maxRecDepth 65536 in
theorem w_c1 : (Jvm.Cond.code ({ cls := "terselink/tlk/TermRecordsReadNumberPinLaw", name := "junk", desc := "([BJI)V" } : Jvm.MethodName) method_4_code (4 : Nat) (Option.none : Option Jvm.ClassFile.FieldType)).before args0 about1 = true := code_word (m := ⟨1, 3⟩) (meth := k1m3) (c := k1c3) (by decide +kernel) rfl rfl rfl (by decide +kernel)
set_option maxRecDepth 65536 in
theorem w_c2 : (Jvm.Cond.code ({ cls := "terselink/tlk/TermRecordsReadNumberPinLaw", name := "put", desc := "([BIJII)V" } : Jvm.MethodName) method_3_code (6 : Nat) (Option.none : Option Jvm.ClassFile.FieldType)).before args0 about1 = true := code_word (m := ⟨1, 2⟩) (meth := k1m2) (c := k1c2) (by decide +kernel) rfl rfl rfl (by decide +kernel)
set_option maxRecDepth 65536 in
theorem w_c3 : (Jvm.Cond.code ({ cls := "terselink/tlk/TermRecordsReadNumberPinLaw", name := "enc", desc := "(JII)B" } : Jvm.MethodName) method_2_code (6 : Nat) (Option.some Jvm.ClassFile.FieldType.byte)).before args0 about1 = true := code_word (m := ⟨1, 1⟩) (meth := k1m1) (c := k1c1) (by decide +kernel) rfl rfl rfl (by decide +kernel)
set_option maxRecDepth 65536 in
theorem w_c4 : (Jvm.Cond.code ({ cls := "terselink/tlk/TermRecords", name := "<init>", desc := "()V" } : Jvm.MethodName) prog_68_method_1_code (1 : Nat) (Option.none : Option Jvm.ClassFile.FieldType)).before args0 about1 = true := code_word (m := ⟨2, 0⟩) (meth := k2m0) (c := k2c0) (by decide +kernel) rfl rfl rfl (by decide +kernel)
set_option maxRecDepth 65536 in
theorem w_c5 : (Jvm.Cond.code ({ cls := "java/lang/Object", name := "<init>", desc := "()V" } : Jvm.MethodName) object_method_1_code (1 : Nat) (Option.none : Option Jvm.ClassFile.FieldType)).before args0 about1 = true := code_word (m := ⟨0, 0⟩) (meth := k0m0) (c := k0c0) (by decide +kernel) rfl rfl rfl (by decide +kernel)
set_option maxRecDepth 65536 in
theorem w_c6 : (Jvm.Cond.code ({ cls := "terselink/tlk/TermRecords", name := "moveTo", desc := "([BI)V" } : Jvm.MethodName) prog_68_method_3_code (3 : Nat) (Option.none : Option Jvm.ClassFile.FieldType)).before args0 about1 = true := code_word (m := ⟨2, 1⟩) (meth := k2m1) (c := k2c1) (by decide +kernel) rfl rfl rfl (by decide +kernel)
set_option maxRecDepth 65536 in
theorem w_c7 : (Jvm.Cond.code ({ cls := "terselink/tlk/TermRecords", name := "readNumber", desc := "()J" } : Jvm.MethodName) prog_68_method_9_code (5 : Nat) (Option.some Jvm.ClassFile.FieldType.long)).before args0 about1 = true := code_word (m := ⟨2, 3⟩) (meth := k2m3) (c := k2c3) (by decide +kernel) rfl rfl rfl (by decide +kernel)
set_option maxRecDepth 65536 in
theorem w_c8 : (Jvm.Cond.code ({ cls := "terselink/tlk/TermRecords", name := "position", desc := "()I" } : Jvm.MethodName) prog_68_method_4_code (1 : Nat) (Option.some Jvm.ClassFile.FieldType.int)).before args0 about1 = true := code_word (m := ⟨2, 2⟩) (meth := k2m2) (c := k2c2) (by decide +kernel) rfl rfl rfl (by decide +kernel)
def codes1 : List Jvm.Cond := [Jvm.Cond.code x code maxLocals ret, Jvm.Cond.code ({ cls := "terselink/tlk/TermRecordsReadNumberPinLaw", name := "junk", desc := "([BJI)V" } : Jvm.MethodName) method_4_code (4 : Nat) (Option.none : Option Jvm.ClassFile.FieldType), Jvm.Cond.code ({ cls := "terselink/tlk/TermRecordsReadNumberPinLaw", name := "put", desc := "([BIJII)V" } : Jvm.MethodName) method_3_code (6 : Nat) (Option.none : Option Jvm.ClassFile.FieldType), Jvm.Cond.code ({ cls := "terselink/tlk/TermRecordsReadNumberPinLaw", name := "enc", desc := "(JII)B" } : Jvm.MethodName) method_2_code (6 : Nat) (Option.some Jvm.ClassFile.FieldType.byte), Jvm.Cond.code ({ cls := "terselink/tlk/TermRecords", name := "<init>", desc := "()V" } : Jvm.MethodName) prog_68_method_1_code (1 : Nat) (Option.none : Option Jvm.ClassFile.FieldType), Jvm.Cond.code ({ cls := "java/lang/Object", name := "<init>", desc := "()V" } : Jvm.MethodName) object_method_1_code (1 : Nat) (Option.none : Option Jvm.ClassFile.FieldType), Jvm.Cond.code ({ cls := "terselink/tlk/TermRecords", name := "moveTo", desc := "([BI)V" } : Jvm.MethodName) prog_68_method_3_code (3 : Nat) (Option.none : Option Jvm.ClassFile.FieldType), Jvm.Cond.code ({ cls := "terselink/tlk/TermRecords", name := "readNumber", desc := "()J" } : Jvm.MethodName) prog_68_method_9_code (5 : Nat) (Option.some Jvm.ClassFile.FieldType.long), Jvm.Cond.code ({ cls := "terselink/tlk/TermRecords", name := "position", desc := "()I" } : Jvm.MethodName) prog_68_method_4_code (1 : Nat) (Option.some Jvm.ClassFile.FieldType.int)]
set_option maxRecDepth 65536 in
theorem codes_eq : words1.filter isCode = codes1 := rfl
theorem w_codes : ∀ c ∈ words1.filter isCode, c.before args0 about1 = true := by
  rw [codes_eq]
  intro c hc
  simp only [codes1, List.mem_cons, List.not_mem_nil, or_false] at hc
  rcases hc with rfl | rfl | rfl | rfl | rfl | rfl | rfl | rfl | rfl
  · exact w_c0
  · exact w_c1
  · exact w_c2
  · exact w_c3
  · exact w_c4
  · exact w_c5
  · exact w_c6
  · exact w_c7
  · exact w_c8
set_option maxRecDepth 65536 in
theorem w_t1 : (words1.take 24).all (fun c => isCode c || c.before args0 about1) = true := by decide +kernel
set_option maxRecDepth 65536 in
theorem w_t2 : (words1.drop 24).all (fun c => isCode c || c.before args0 about1) = true := by decide +kernel
theorem w_tables : (allAtoms (Jvm.Cond.code x code maxLocals ret :: tables_1)).before args0 about1 = true := by
  rw [allAtoms_all]
  show words1.all (fun c => c.before args0 about1) = true
  refine all_split ?_ w_codes
  rw [← List.take_append_drop 24 words1, List.all_append, w_t1, w_t2]
  rfl
set_option maxRecDepth 65536 in
theorem w_case : (Jvm.Cond.and given_1 narrow_1).before args0 about1 = true := by decide +kernel
theorem w_applies : (headSpec (Jvm.Cond.code x code maxLocals ret :: tables_1) room_1).applies x e0.platform about1 = true :=
  (Spec.applies_iff w_frames).mpr ⟨w_running, w_runnable, w_alone, w_named, w_hears, w_ripe, w_room, w_tables⟩
theorem atStart : AtStart classFile x code maxLocals ret World_1 tables_1 room_1 Calls_1 rest_1 Pre_1 launch0 p0 e0 about1 theMethod args0 below0 :=
  ⟨lists_1, trivial, launch0.admits_env _ _ _, launch0.least_env, fairChoices_fair.cas, fairChoices_fair.clock, w_frames, w_args, w_heap, w_applies, trivial, trivial, w_case⟩
end start1
theorem witness_1 : WitnessClaimed_1 := ⟨start1.p0, start1.e0, start1.about1, start1.theMethod, start1.args0, start1.below0, start1.atStart⟩
end Jvm.Pilot.@@N@@
