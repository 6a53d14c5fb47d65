import JvmDerived
import JvmDerived.Pilot.@@N@@Statement
import JvmDerived.Pilot.@@N@@Code
set_option linter.unusedVariables false
set_option linter.unusedSimpArgs false
namespace Jvm.RoadKit
open Sem ClassFile Op Lib Jvm.Stand Jvm.Free Jvm.LawKit
section New
variable {p : Program} {l : Launch} {e : Env} {R : Room} {s : State} {m : MethodId} {args : Array Value} {below : List Frame} {meth : Method} {c : Code} {T : State} {locs : List Loc} {cells slots : Nat}
theorem retI (X : Stand p l e R s m args below meth c T locs cells slots) (hx : p.tables.exec = Jvm.exec) {pc : Nat} {Ls : Array Slot} {z : Int32} {rest : List Value} (hret : meth.sig.returnType = some .int) (hd : decode c.code pc = .ok (.ireturn, 1)) {fs : List Frame}
    (hl : ∀ (f : JFrame) (acts : List Action), f.method = m → f.locked = none → f.entered = [] → (doReturn e (T.setTop f) acts (some (.int z))).1 = T.setFrames fs) : Steps p.tables e below (T.setTop (mkF m pc Ls (.int z :: rest))) (T.setFrames fs) := by
  have hm' : T.vm.method? m = some meth := X.method'
  have hn : narrow .int (.int z) = .int z := rfl
  show Steps p.tables e below (T.setTop { method := m, pc := pc, locals := Ls, stack := _ :: rest, locked := none }) _
  jvm_step X.here [X.here.top, hx, hd, hm', hret, hn]
  first | (intro acts; rw [hl _ acts rfl rfl rfl]) | rw [hl _ _ rfl rfl rfl]
  exact Steps.refl _
theorem retJ (X : Stand p l e R s m args below meth c T locs cells slots) (hx : p.tables.exec = Jvm.exec) {pc : Nat} {Ls : Array Slot} {z : Int64} {rest : List Value} (hret : meth.sig.returnType = some .long) (hd : decode c.code pc = .ok (.lreturn, 1)) {fs : List Frame}
    (hl : ∀ (f : JFrame) (acts : List Action), f.method = m → f.locked = none → f.entered = [] → (doReturn e (T.setTop f) acts (some (.long z))).1 = T.setFrames fs) : Steps p.tables e below (T.setTop (mkF m pc Ls (.long z :: rest))) (T.setFrames fs) := by
  have hm' : T.vm.method? m = some meth := X.method'
  have hn : narrow .long (.long z) = .long z := rfl
  show Steps p.tables e below (T.setTop { method := m, pc := pc, locals := Ls, stack := _ :: rest, locked := none }) _
  jvm_step X.here [X.here.top, hx, hd, hm', hret, hn]
  first | (intro acts; rw [hl _ acts rfl rfl rfl]) | rw [hl _ _ rfl rfl rfl]
  exact Steps.refl _
theorem retA (X : Stand p l e R s m args below meth c T locs cells slots) (hx : p.tables.exec = Jvm.exec) {pc : Nat} {Ls : Array Slot} {z : Value} {t : FieldType} {rest : List Value} (hret : meth.sig.returnType = some t) (ht : t.isReference = true) (hz : z.isRef = true) (hd : decode c.code pc = .ok (.areturn, 1)) {fs : List Frame}
    (hl : ∀ (f : JFrame) (acts : List Action), f.method = m → f.locked = none → f.entered = [] → (doReturn e (T.setTop f) acts (some z)).1 = T.setFrames fs) : Steps p.tables e below (T.setTop (mkF m pc Ls (z :: rest))) (T.setFrames fs) := by
  have hm' : T.vm.method? m = some meth := X.method'
  show Steps p.tables e below (T.setTop { method := m, pc := pc, locals := Ls, stack := _ :: rest, locked := none }) _
  jvm_step X.here [X.here.top, hx, hd, hm', hret, ht, hz]
  first | (intro acts; rw [hl _ acts rfl rfl rfl]) | rw [hl _ _ rfl rfl rfl]
  exact Steps.refl _
end New
end Jvm.RoadKit
@@BLOCK:NumsL.lean.txt@@
@@BLOCK:Masks.lean.txt@@
namespace Jvm.Pilot.@@N@@
open Jvm Jvm.ClassFile Sem Op Lib Jvm.Free Jvm.Stand Jvm.LawKit Jvm.RoadKit Bundle Jvm.Pilot.@@N@@.Jvm.D
/-- the run comes from st to an end of which F holds -/
abbrev Go (p : Program) (e : Env) (below : List Frame) (F : Outcome → State → Prop) (st : State) : Prop := ∃ t o, Steps p.tables e below st t ∧ t.status = .running ∧ Ended t below o ∧ F o t
theorem Go.st {p : Program} {e : Env} {below : List Frame} {F : Outcome → State → Prop} {a b : State} (h : ∀ t, Steps p.tables e below b t → Steps p.tables e below a t) (k : Go p e below F b) : Go p e below F a := by
  obtain ⟨t, o, h1, h2⟩ := k
  exact ⟨t, o, h t h1, h2⟩
/-- Java's x % y -/
abbrev jrem (x y : Int32) : Int32 := x - (x / y) * y
abbrev jremL (x y : Int64) : Int64 := x - (x / y) * y
theorem Go.cast {p : Program} {e : Env} {below : List Frame} {F : Outcome → State → Prop} {a b : State} (h : a = b) (k : Go p e below F b) : Go p e below F a := h ▸ k
theorem d1_0 : decode jdk_29_method_69_code 0 = .ok (.iload_n 0, 1) := by decide +kernel
theorem d1_1 : decode jdk_29_method_69_code 1 = .ok (.iload_n 1, 1) := by decide +kernel
theorem d1_2 : decode jdk_29_method_69_code 2 = .ok (.if_icmp .gt 7, 3) := by decide +kernel
theorem d1_5 : decode jdk_29_method_69_code 5 = .ok (.iload_n 0, 1) := by decide +kernel
theorem d1_6 : decode jdk_29_method_69_code 6 = .ok (.goto 4, 3) := by decide +kernel
theorem d1_9 : decode jdk_29_method_69_code 9 = .ok (.iload_n 1, 1) := by decide +kernel
theorem d1_10 : decode jdk_29_method_69_code 10 = .ok (.ireturn, 1) := by decide +kernel
theorem ef_rm1 (m : MethodId) (p0 : Int32) (p1 : Int32) : entryFrame m #[(.int p0), (.int p1)] 2 = mkF m 0 #[.val (.int p0), .val (.int p1)] [] := by first | (simp [entryFrame, mkF, argsToLocals, Value.category]; done) | rfl
def fMin (p0 : Int32) (p1 : Int32) : Int32 := if p1 < p0 then p1 else p0
def Q_rm1 (Z : State) (p0 : Int32) (p1 : Int32) (h0 : Heap) (n0 : Nat) (v : Option Value) (h : Heap) (L : List Loc) : Prop := v = some (.int (fMin p0 p1)) ∧ Fr n0 L ∧ h = h0
abbrev F_rm1 (Z : State) (p0 : Int32) (p1 : Int32) (h0 : Heap) (n0 : Nat) (s : State) (o : Outcome) (U : State) : Prop := ∃ v L, o = .returned v ∧ Q_rm1 Z p0 p1 h0 n0 v U.heap L ∧ FrameEnd s o U L 0 0
set_option maxRecDepth 65536 in
set_option maxHeartbeats 40000000 in
theorem rm1 (l : Launch) (Z : State) (aZ : Array Value) (hw : ∀ d ∈ tables_1, d.before aZ Z = true) (ws : List Jvm.Cond) (p0 : Int32) (p1 : Int32) (h0 : Heap) (n0 : Nat) :
    MetFree l (⟨"java/lang/Math", "min", "(II)I"⟩ : MethodName) (head1 (Jvm.Cond.code (⟨"java/lang/Math", "min", "(II)I"⟩ : MethodName) jdk_29_method_69_code 2 (some .int) :: ws) ({ frames := 0, cells := 0, slots := 0, locals := 0 } : Room)) (fun a U => a = #[(.int p0), (.int p1)] ∧ Z.Warmed39 U.vm ∧ U.heap = h0) (fun _ _ _ _ _ => True) (fun _ U o U' => ∃ v L, o = .returned v ∧ Q_rm1 Z p0 p1 h0 n0 v U'.heap L ∧ FrameEnd U o U' L 0 0) := by
  refine MetFree.of_bodySF (Jvm.Free.JP.mathPlain rfl (by decide +kernel)) hisR ?_
  intro p e s m args below meth c s₁ Bd hml0 hP hK
  obtain ⟨rfl, hZ, hh⟩ := hP
  have hx := Bd.exec
  have hby := Bd.bytes
  have hml : c.maxLocals = 2 := hml0
  have hown : s.vm.findClass "java/lang/Math" = some m.cls := findClass_of_methodNamed Bd.named
  have hnm := (name_of_methodNamed Bd.named Bd.method).1
  have X0 : Stand p l e ({ frames := 0, cells := 0, slots := 0, locals := 0 } : Room) s m #[(.int p0), (.int p1)] below meth c s₁ [] 0 0 := Stand.of_body Bd
  have e0 : s₁.heap = h0 := by rw [← hh, Bd.state]; rfl
  have N0 := Fr.nil n0
  refine Go.st (fun _ k => castTop (ef_rm1 m p0 p1) k) ?_
  show Go p e below _ (s₁.setTop (mkF m 0 #[.val (.int p0), .val (.int p1)] []))
  refine Go.st (fun _ k => XS.iloadN X0.here hx rfl (hb hby d1_0) rfl k) ?_
  show Go p e below _ (s₁.setTop (mkF m 1 #[.val (.int p0), .val (.int p1)] [(.int p0)]))
  refine Go.st (fun _ k => XS.iloadN X0.here hx rfl (hb hby d1_1) rfl k) ?_
  show Go p e below _ (s₁.setTop (mkF m 2 #[.val (.int p0), .val (.int p1)] [(.int p1), (.int p0)]))
  by_cases hc1 : p1 < p0
  · show Go p e below _ (s₁.setTop (mkF m 2 #[.val (.int p0), .val (.int p1)] [(.int p1), (.int p0)]))
    refine Go.st (fun _ k => XS.icmpYes X0.here hx rfl (pc0 := 2) (pc' := 9) rfl (hb hby d1_2) rfl (tlt hc1).2.2.1 (by decide) (by decide) k) ?_
    show Go p e below _ (s₁.setTop (mkF m 9 #[.val (.int p0), .val (.int p1)] []))
    refine Go.st (fun _ k => XS.iloadN X0.here hx rfl (hb hby d1_9) rfl k) ?_
    show Go p e below _ (s₁.setTop (mkF m 10 #[.val (.int p0), .val (.int p1)] [(.int p1)]))
    obtain ⟨fs, hr, hrun, hended, hW, hsame⟩ := X0.leave (v := some (.int p1)) (fun h => by rw [Bd.returns] at h; cases h)
    refine ⟨_, _, retI X0 hx Bd.returns (hb hby d1_10) hr, hrun, hended, _, _, rfl, ?_, ⟨_, rfl⟩, hW, hsame.mono (by decide) (by decide)⟩
    show Q_rm1 Z p0 p1 h0 n0 _ s₁.heap _
    rw [e0]
    refine ⟨?_, N0, rfl⟩
    unfold fMin
    rw [if_pos hc1]
  · show Go p e below _ (s₁.setTop (mkF m 2 #[.val (.int p0), .val (.int p1)] [(.int p1), (.int p0)]))
    refine Go.st (fun _ k => XS.icmpNo X0.here hx rfl (hb hby d1_2) rfl (flt hc1).2.2.1 k) ?_
    show Go p e below _ (s₁.setTop (mkF m 5 #[.val (.int p0), .val (.int p1)] []))
    refine Go.st (fun _ k => XS.iloadN X0.here hx rfl (hb hby d1_5) rfl k) ?_
    show Go p e below _ (s₁.setTop (mkF m 6 #[.val (.int p0), .val (.int p1)] [(.int p0)]))
    refine Go.st (fun _ k => XS.goto X0.here hx rfl (pc0 := 6) (pc' := 10) rfl (hb hby d1_6) (by decide) (by decide) k) ?_
    show Go p e below _ (s₁.setTop (mkF m 10 #[.val (.int p0), .val (.int p1)] [(.int p0)]))
    obtain ⟨fs, hr, hrun, hended, hW, hsame⟩ := X0.leave (v := some (.int p0)) (fun h => by rw [Bd.returns] at h; cases h)
    refine ⟨_, _, retI X0 hx Bd.returns (hb hby d1_10) hr, hrun, hended, _, _, rfl, ?_, ⟨_, rfl⟩, hW, hsame.mono (by decide) (by decide)⟩
    show Q_rm1 Z p0 p1 h0 n0 _ s₁.heap _
    rw [e0]
    refine ⟨?_, N0, rfl⟩
    unfold fMin
    rw [if_neg hc1]
theorem d2_0 : decode prog_49_method_13_code 0 = .ok (.iconst 0, 1) := by decide +kernel
theorem d2_1 : decode prog_49_method_13_code 1 = .ok (.istore_n 2, 1) := by decide +kernel
theorem d2_2 : decode prog_49_method_13_code 2 = .ok (.iload_n 2, 1) := by decide +kernel
theorem d2_3 : decode prog_49_method_13_code 3 = .ok (.aload_n 0, 1) := by decide +kernel
theorem d2_4 : decode prog_49_method_13_code 4 = .ok (.arraylength, 1) := by decide +kernel
theorem d2_5 : decode prog_49_method_13_code 5 = .ok (.if_icmp .ge 27, 3) := by decide +kernel
theorem d2_32 : decode prog_49_method_13_code 32 = .ok (.iconst 0, 1) := by decide +kernel
theorem d2_33 : decode prog_49_method_13_code 33 = .ok (.ireturn, 1) := by decide +kernel
theorem pn_2 : plainName "com/example/weir/weir/route/ValueRegions" = true := by first | (simp [plainName, overriddenIn]; done) | decide +kernel
theorem ef_rmC0 (m : MethodId) (a0 : Addr) (p1 : Int32) : entryFrame m #[(.ref a0), (.int p1)] 3 = mkF m 0 #[.val (.ref a0), .val (.int p1), .unset] [] := by first | (simp [entryFrame, mkF, argsToLocals, Value.category]; done) | rfl
def fC0 (p1 : Int32) : Int32 := (0 : Int32)
def Q_rmC0 (Z : State) (a0 : Addr) (p1 : Int32) (kk : ClassId) (h0 : Heap) (n0 : Nat) (v : Option Value) (h : Heap) (L : List Loc) : Prop := v = some (.int (fC0 p1)) ∧ Fr n0 L ∧ h = h0
abbrev F_rmC0 (Z : State) (a0 : Addr) (p1 : Int32) (kk : ClassId) (h0 : Heap) (n0 : Nat) (s : State) (o : Outcome) (U : State) : Prop := ∃ v L, o = .returned v ∧ Q_rmC0 Z a0 p1 kk h0 n0 v U.heap L ∧ FrameEnd s o U L 0 0
set_option maxRecDepth 65536 in
set_option maxHeartbeats 40000000 in
theorem rmC0 (l : Launch) (Z : State) (aZ : Array Value) (hw : ∀ d ∈ tables_1, d.before aZ Z = true) (ws : List Jvm.Cond) (a0 : Addr) (p1 : Int32) (kk : ClassId) (h0 : Heap) (n0 : Nat) (V_kk : Arv Z h0 a0 kk .int (0 : Int32) [] (.int (0 : Int32))) :
    MetFree l (⟨"com/example/weir/weir/route/ValueRegions", "contains", "([II)Z"⟩ : MethodName) (head1 (Jvm.Cond.code (⟨"com/example/weir/weir/route/ValueRegions", "contains", "([II)Z"⟩ : MethodName) prog_49_method_13_code 3 (some .boolean) :: ws) ({ frames := 0, cells := 0, slots := 0, locals := 0 } : Room)) (fun a U => a = #[(.ref a0), (.int p1)] ∧ Z.Warmed39 U.vm ∧ U.heap = h0) (fun _ _ _ _ _ => True) (fun _ U o U' => ∃ v L, o = .returned v ∧ Q_rmC0 Z a0 p1 kk h0 n0 v U'.heap L ∧ FrameEnd U o U' L 0 0) := by
  refine MetFree.of_bodySF (plainFor_of_name pn_2) hisR ?_
  intro p e s m args below meth c s₁ Bd hml0 hP hK
  obtain ⟨rfl, hZ, hh⟩ := hP
  have hx := Bd.exec
  have hby := Bd.bytes
  have hml : c.maxLocals = 3 := hml0
  have hown : s.vm.findClass "com/example/weir/weir/route/ValueRegions" = some m.cls := findClass_of_methodNamed Bd.named
  have hnm := (name_of_methodNamed Bd.named Bd.method).1
  have X0 : Stand p l e ({ frames := 0, cells := 0, slots := 0, locals := 0 } : Room) s m #[(.ref a0), (.int p1)] below meth c s₁ [] 0 0 := Stand.of_body Bd
  have e0 : s₁.heap = h0 := by rw [← hh, Bd.state]; rfl
  have N0 := Fr.nil n0
  refine Go.st (fun _ k => castTop (ef_rmC0 m a0 p1) k) ?_
  show Go p e below _ (s₁.setTop (mkF m 0 #[.val (.ref a0), .val (.int p1), .unset] []))
  refine Go.st (fun _ k => XS.iconst X0.here hx rfl (hb hby d2_0) k) ?_
  show Go p e below _ (s₁.setTop (mkF m 1 #[.val (.ref a0), .val (.int p1), .unset] [(.int (0 : Int32))]))
  refine Go.st (fun _ k => XS.istoreN X0.here hx rfl (hb hby d2_1) rfl (l' := #[.val (.ref a0), .val (.int p1), .val (.int (0 : Int32))]) rfl k) ?_
  show Go p e below _ (s₁.setTop (mkF m 2 #[.val (.ref a0), .val (.int p1), .val (.int (0 : Int32))] []))
  refine Go.st (fun _ k => XS.iloadN X0.here hx rfl (hb hby d2_2) rfl k) ?_
  show Go p e below _ (s₁.setTop (mkF m 3 #[.val (.ref a0), .val (.int p1), .val (.int (0 : Int32))] [(.int (0 : Int32))]))
  refine Go.st (fun _ k => XS.aloadN X0.here hx rfl (hb hby d2_3) rfl rfl k) ?_
  show Go p e below _ (s₁.setTop (mkF m 4 #[.val (.ref a0), .val (.int p1), .val (.int (0 : Int32))] [(.ref a0), (.int (0 : Int32))]))
  obtain ⟨cl1, Ar1, ck1, Sz1, Nn1, Hs1, Gs1⟩ := id V_kk
  refine Go.st (fun _ k => X0.arraylength hx (by rw [e0]; exact Ar1.1) (State.isArrayOf_alike hZ.alike Ar1.2.1) (g := (mkF m 4 #[.val (.ref a0), .val (.int p1), .val (.int (0 : Int32))] [(.ref a0), (.int (0 : Int32))])) rfl rfl (hb hby d2_4) _ k) ?_
  rw [len_of Sz1 Nn1]
  show Go p e below _ (s₁.setTop (mkF m 5 #[.val (.ref a0), .val (.int p1), .val (.int (0 : Int32))] [(.int (0 : Int32)), (.int (0 : Int32))]))
  refine Go.st (fun _ k => XS.icmpYes X0.here hx rfl (pc0 := 5) (pc' := 32) rfl (hb hby d2_5) rfl (flt (by decide : ¬ ((0 : Int32) < (0 : Int32)))).2.1 (by decide) (by decide) k) ?_
  show Go p e below _ (s₁.setTop (mkF m 32 #[.val (.ref a0), .val (.int p1), .val (.int (0 : Int32))] []))
  refine Go.st (fun _ k => XS.iconst X0.here hx rfl (hb hby d2_32) k) ?_
  show Go p e below _ (s₁.setTop (mkF m 33 #[.val (.ref a0), .val (.int p1), .val (.int (0 : Int32))] [(.int (0 : Int32))]))
  obtain ⟨fs, hr, hrun, hended, hW, hsame⟩ := X0.leave (v := some (.int (0 : Int32))) (fun h => by rw [Bd.returns] at h; cases h)
  refine ⟨_, _, retN X0 hx (t := .boolean) Bd.returns (by simp) (hb hby d2_33) hr, hrun, hended, _, _, rfl, ?_, ⟨_, rfl⟩, hW, hsame.mono (by decide) (by decide)⟩
  show Q_rmC0 Z a0 p1 kk h0 n0 _ s₁.heap _
  rw [e0]
  refine ⟨?_, N0, rfl⟩
  unfold fC0
  rfl
theorem d2_8 : decode prog_49_method_13_code 8 = .ok (.aload_n 0, 1) := by decide +kernel
theorem d2_9 : decode prog_49_method_13_code 9 = .ok (.iload_n 2, 1) := by decide +kernel
theorem d2_10 : decode prog_49_method_13_code 10 = .ok (.iaload, 1) := by decide +kernel
theorem d2_11 : decode prog_49_method_13_code 11 = .ok (.iload_n 1, 1) := by decide +kernel
theorem d2_12 : decode prog_49_method_13_code 12 = .ok (.if_icmp .gt 20, 3) := by decide +kernel
theorem d2_15 : decode prog_49_method_13_code 15 = .ok (.iload_n 1, 1) := by decide +kernel
theorem d2_16 : decode prog_49_method_13_code 16 = .ok (.aload_n 0, 1) := by decide +kernel
theorem d2_17 : decode prog_49_method_13_code 17 = .ok (.iload_n 2, 1) := by decide +kernel
theorem d2_18 : decode prog_49_method_13_code 18 = .ok (.iconst 1, 1) := by decide +kernel
theorem d2_19 : decode prog_49_method_13_code 19 = .ok (.iadd, 1) := by decide +kernel
theorem d2_20 : decode prog_49_method_13_code 20 = .ok (.iaload, 1) := by decide +kernel
theorem d2_21 : decode prog_49_method_13_code 21 = .ok (.if_icmp .gt 5, 3) := by decide +kernel
theorem d2_24 : decode prog_49_method_13_code 24 = .ok (.iconst 1, 1) := by decide +kernel
theorem d2_25 : decode prog_49_method_13_code 25 = .ok (.ireturn, 1) := by decide +kernel
theorem d2_26 : decode prog_49_method_13_code 26 = .ok (.iinc 2 2, 3) := by decide +kernel
theorem d2_29 : decode prog_49_method_13_code 29 = .ok (.goto (-27), 3) := by decide +kernel
theorem ef_rmC2 (m : MethodId) (a0 : Addr) (p1 : Int32) : entryFrame m #[(.ref a0), (.int p1)] 3 = mkF m 0 #[.val (.ref a0), .val (.int p1), .unset] [] := by first | (simp [entryFrame, mkF, argsToLocals, Value.category]; done) | rfl
def fC2 (p1 : Int32) (x0 : Int32) (x1 : Int32) : Int32 := if p1 < x0 then (0 : Int32) else (if x1 < p1 then (0 : Int32) else (1 : Int32))
def Q_rmC2 (Z : State) (a0 : Addr) (p1 : Int32) (kk : ClassId) (x0 : Int32) (x1 : Int32) (h0 : Heap) (n0 : Nat) (v : Option Value) (h : Heap) (L : List Loc) : Prop := v = some (.int (fC2 p1 x0 x1)) ∧ Fr n0 L ∧ h = h0
abbrev F_rmC2 (Z : State) (a0 : Addr) (p1 : Int32) (kk : ClassId) (x0 : Int32) (x1 : Int32) (h0 : Heap) (n0 : Nat) (s : State) (o : Outcome) (U : State) : Prop := ∃ v L, o = .returned v ∧ Q_rmC2 Z a0 p1 kk x0 x1 h0 n0 v U.heap L ∧ FrameEnd s o U L 0 0
set_option maxRecDepth 65536 in
set_option maxHeartbeats 40000000 in
theorem rmC2 (l : Launch) (Z : State) (aZ : Array Value) (hw : ∀ d ∈ tables_1, d.before aZ Z = true) (ws : List Jvm.Cond) (a0 : Addr) (p1 : Int32) (kk : ClassId) (x0 : Int32) (x1 : Int32) (h0 : Heap) (n0 : Nat) (V_kk : Arv Z h0 a0 kk .int (2 : Int32) [(.int x0), (.int x1)] (.int (0 : Int32))) :
    MetFree l (⟨"com/example/weir/weir/route/ValueRegions", "contains", "([II)Z"⟩ : MethodName) (head1 (Jvm.Cond.code (⟨"com/example/weir/weir/route/ValueRegions", "contains", "([II)Z"⟩ : MethodName) prog_49_method_13_code 3 (some .boolean) :: ws) ({ frames := 0, cells := 0, slots := 0, locals := 0 } : Room)) (fun a U => a = #[(.ref a0), (.int p1)] ∧ Z.Warmed39 U.vm ∧ U.heap = h0) (fun _ _ _ _ _ => True) (fun _ U o U' => ∃ v L, o = .returned v ∧ Q_rmC2 Z a0 p1 kk x0 x1 h0 n0 v U'.heap L ∧ FrameEnd U o U' L 0 0) := by
  refine MetFree.of_bodySF (plainFor_of_name pn_2) hisR ?_
  intro p e s m args below meth c s₁ Bd hml0 hP hK
  obtain ⟨rfl, hZ, hh⟩ := hP
  have hx := Bd.exec
  have hby := Bd.bytes
  have hml : c.maxLocals = 3 := hml0
  have hown : s.vm.findClass "com/example/weir/weir/route/ValueRegions" = some m.cls := findClass_of_methodNamed Bd.named
  have hnm := (name_of_methodNamed Bd.named Bd.method).1
  have X0 : Stand p l e ({ frames := 0, cells := 0, slots := 0, locals := 0 } : Room) s m #[(.ref a0), (.int p1)] below meth c s₁ [] 0 0 := Stand.of_body Bd
  have e0 : s₁.heap = h0 := by rw [← hh, Bd.state]; rfl
  have N0 := Fr.nil n0
  refine Go.st (fun _ k => castTop (ef_rmC2 m a0 p1) k) ?_
  show Go p e below _ (s₁.setTop (mkF m 0 #[.val (.ref a0), .val (.int p1), .unset] []))
  refine Go.st (fun _ k => XS.iconst X0.here hx rfl (hb hby d2_0) k) ?_
  show Go p e below _ (s₁.setTop (mkF m 1 #[.val (.ref a0), .val (.int p1), .unset] [(.int (0 : Int32))]))
  refine Go.st (fun _ k => XS.istoreN X0.here hx rfl (hb hby d2_1) rfl (l' := #[.val (.ref a0), .val (.int p1), .val (.int (0 : Int32))]) rfl k) ?_
  show Go p e below _ (s₁.setTop (mkF m 2 #[.val (.ref a0), .val (.int p1), .val (.int (0 : Int32))] []))
  refine Go.st (fun _ k => XS.iloadN X0.here hx rfl (hb hby d2_2) rfl k) ?_
  show Go p e below _ (s₁.setTop (mkF m 3 #[.val (.ref a0), .val (.int p1), .val (.int (0 : Int32))] [(.int (0 : Int32))]))
  refine Go.st (fun _ k => XS.aloadN X0.here hx rfl (hb hby d2_3) rfl rfl k) ?_
  show Go p e below _ (s₁.setTop (mkF m 4 #[.val (.ref a0), .val (.int p1), .val (.int (0 : Int32))] [(.ref a0), (.int (0 : Int32))]))
  obtain ⟨cl1, Ar1, ck1, Sz1, Nn1, Hs1, Gs1⟩ := id V_kk
  refine Go.st (fun _ k => X0.arraylength hx (by rw [e0]; exact Ar1.1) (State.isArrayOf_alike hZ.alike Ar1.2.1) (g := (mkF m 4 #[.val (.ref a0), .val (.int p1), .val (.int (0 : Int32))] [(.ref a0), (.int (0 : Int32))])) rfl rfl (hb hby d2_4) _ k) ?_
  rw [len_of Sz1 Nn1]
  show Go p e below _ (s₁.setTop (mkF m 5 #[.val (.ref a0), .val (.int p1), .val (.int (0 : Int32))] [(.int (2 : Int32)), (.int (0 : Int32))]))
  refine Go.st (fun _ k => XS.icmpNo X0.here hx rfl (hb hby d2_5) rfl (tlt (by decide : ((0 : Int32) < (2 : Int32)))).2.1 k) ?_
  show Go p e below _ (s₁.setTop (mkF m 8 #[.val (.ref a0), .val (.int p1), .val (.int (0 : Int32))] []))
  refine Go.st (fun _ k => XS.aloadN X0.here hx rfl (hb hby d2_8) rfl rfl k) ?_
  show Go p e below _ (s₁.setTop (mkF m 9 #[.val (.ref a0), .val (.int p1), .val (.int (0 : Int32))] [(.ref a0)]))
  refine Go.st (fun _ k => XS.iloadN X0.here hx rfl (hb hby d2_9) rfl k) ?_
  show Go p e below _ (s₁.setTop (mkF m 10 #[.val (.ref a0), .val (.int p1), .val (.int (0 : Int32))] [(.int (0 : Int32)), (.ref a0)]))
  obtain ⟨cl2, Ar2, ck2, Sz2, Nn2, Hs2, Gs2⟩ := id V_kk
  have hin2 : ¬ ((0 : Int32) < 0 ∨ cl2.slots.size ≤ ((0 : Int32)).toNatClampNeg) := inb_of Sz2 ⟨by decide, by decide⟩
  have hat2 : cl2.slots[((0 : Int32)).toNatClampNeg]? = some (.int x0) := Hs2.at hin2 rfl
  refine Go.st (fun _ k => X0.iaload hx (j := (0 : Int32)) (v := (.int x0)) (by rw [e0]; exact Ar2.1) (State.isArrayOf_alike hZ.alike Ar2.2.1) Ar2.2.2 hin2 hat2 (g := (mkF m 10 #[.val (.ref a0), .val (.int p1), .val (.int (0 : Int32))] [(.int (0 : Int32)), (.ref a0)])) rfl rfl (hb hby d2_10) _ k) ?_
  show Go p e below _ (s₁.setTop (mkF m 11 #[.val (.ref a0), .val (.int p1), .val (.int (0 : Int32))] [(.int x0)]))
  refine Go.st (fun _ k => XS.iloadN X0.here hx rfl (hb hby d2_11) rfl k) ?_
  show Go p e below _ (s₁.setTop (mkF m 12 #[.val (.ref a0), .val (.int p1), .val (.int (0 : Int32))] [(.int p1), (.int x0)]))
  by_cases hc3 : p1 < x0
  · show Go p e below _ (s₁.setTop (mkF m 12 #[.val (.ref a0), .val (.int p1), .val (.int (0 : Int32))] [(.int p1), (.int x0)]))
    refine Go.st (fun _ k => XS.icmpYes X0.here hx rfl (pc0 := 12) (pc' := 32) rfl (hb hby d2_12) rfl (tlt hc3).2.2.1 (by decide) (by decide) k) ?_
    show Go p e below _ (s₁.setTop (mkF m 32 #[.val (.ref a0), .val (.int p1), .val (.int (0 : Int32))] []))
    refine Go.st (fun _ k => XS.iconst X0.here hx rfl (hb hby d2_32) k) ?_
    show Go p e below _ (s₁.setTop (mkF m 33 #[.val (.ref a0), .val (.int p1), .val (.int (0 : Int32))] [(.int (0 : Int32))]))
    obtain ⟨fs, hr, hrun, hended, hW, hsame⟩ := X0.leave (v := some (.int (0 : Int32))) (fun h => by rw [Bd.returns] at h; cases h)
    refine ⟨_, _, retN X0 hx (t := .boolean) Bd.returns (by simp) (hb hby d2_33) hr, hrun, hended, _, _, rfl, ?_, ⟨_, rfl⟩, hW, hsame.mono (by decide) (by decide)⟩
    show Q_rmC2 Z a0 p1 kk x0 x1 h0 n0 _ s₁.heap _
    rw [e0]
    refine ⟨?_, N0, rfl⟩
    unfold fC2
    rw [if_pos hc3]
  · show Go p e below _ (s₁.setTop (mkF m 12 #[.val (.ref a0), .val (.int p1), .val (.int (0 : Int32))] [(.int p1), (.int x0)]))
    refine Go.st (fun _ k => XS.icmpNo X0.here hx rfl (hb hby d2_12) rfl (flt hc3).2.2.1 k) ?_
    show Go p e below _ (s₁.setTop (mkF m 15 #[.val (.ref a0), .val (.int p1), .val (.int (0 : Int32))] []))
    refine Go.st (fun _ k => XS.iloadN X0.here hx rfl (hb hby d2_15) rfl k) ?_
    show Go p e below _ (s₁.setTop (mkF m 16 #[.val (.ref a0), .val (.int p1), .val (.int (0 : Int32))] [(.int p1)]))
    refine Go.st (fun _ k => XS.aloadN X0.here hx rfl (hb hby d2_16) rfl rfl k) ?_
    show Go p e below _ (s₁.setTop (mkF m 17 #[.val (.ref a0), .val (.int p1), .val (.int (0 : Int32))] [(.ref a0), (.int p1)]))
    refine Go.st (fun _ k => XS.iloadN X0.here hx rfl (hb hby d2_17) rfl k) ?_
    show Go p e below _ (s₁.setTop (mkF m 18 #[.val (.ref a0), .val (.int p1), .val (.int (0 : Int32))] [(.int (0 : Int32)), (.ref a0), (.int p1)]))
    refine Go.st (fun _ k => XS.iconst X0.here hx rfl (hb hby d2_18) k) ?_
    show Go p e below _ (s₁.setTop (mkF m 19 #[.val (.ref a0), .val (.int p1), .val (.int (0 : Int32))] [(.int (1 : Int32)), (.int (0 : Int32)), (.ref a0), (.int p1)]))
    refine Go.st (fun _ k => XS.iadd X0.here hx rfl (hb hby d2_19) rfl k) ?_
    show Go p e below _ (s₁.setTop (mkF m 20 #[.val (.ref a0), .val (.int p1), .val (.int (0 : Int32))] [(.int (1 : Int32)), (.ref a0), (.int p1)]))
    obtain ⟨cl4, Ar4, ck4, Sz4, Nn4, Hs4, Gs4⟩ := id V_kk
    have hin4 : ¬ ((1 : Int32) < 0 ∨ cl4.slots.size ≤ ((1 : Int32)).toNatClampNeg) := inb_of Sz4 ⟨by decide, by decide⟩
    have hat4 : cl4.slots[((1 : Int32)).toNatClampNeg]? = some (.int x1) := Hs4.at hin4 rfl
    refine Go.st (fun _ k => X0.iaload hx (j := (1 : Int32)) (v := (.int x1)) (by rw [e0]; exact Ar4.1) (State.isArrayOf_alike hZ.alike Ar4.2.1) Ar4.2.2 hin4 hat4 (g := (mkF m 20 #[.val (.ref a0), .val (.int p1), .val (.int (0 : Int32))] [(.int (1 : Int32)), (.ref a0), (.int p1)])) rfl rfl (hb hby d2_20) _ k) ?_
    show Go p e below _ (s₁.setTop (mkF m 21 #[.val (.ref a0), .val (.int p1), .val (.int (0 : Int32))] [(.int x1), (.int p1)]))
    by_cases hc5 : x1 < p1
    · show Go p e below _ (s₁.setTop (mkF m 21 #[.val (.ref a0), .val (.int p1), .val (.int (0 : Int32))] [(.int x1), (.int p1)]))
      refine Go.st (fun _ k => XS.icmpYes X0.here hx rfl (pc0 := 21) (pc' := 26) rfl (hb hby d2_21) rfl (tlt hc5).2.2.1 (by decide) (by decide) k) ?_
      show Go p e below _ (s₁.setTop (mkF m 26 #[.val (.ref a0), .val (.int p1), .val (.int (0 : Int32))] []))
      refine Go.st (fun _ k => XS.iinc X0.here hx rfl (hb hby d2_26) rfl (l' := #[.val (.ref a0), .val (.int p1), .val (.int (2 : Int32))]) rfl k) ?_
      show Go p e below _ (s₁.setTop (mkF m 29 #[.val (.ref a0), .val (.int p1), .val (.int (2 : Int32))] []))
      refine Go.st (fun _ k => XS.goto X0.here hx rfl (pc0 := 29) (pc' := 2) rfl (hb hby d2_29) (by decide) (by decide) k) ?_
      show Go p e below _ (s₁.setTop (mkF m 2 #[.val (.ref a0), .val (.int p1), .val (.int (2 : Int32))] []))
      refine Go.st (fun _ k => XS.iloadN X0.here hx rfl (hb hby d2_2) rfl k) ?_
      show Go p e below _ (s₁.setTop (mkF m 3 #[.val (.ref a0), .val (.int p1), .val (.int (2 : Int32))] [(.int (2 : Int32))]))
      refine Go.st (fun _ k => XS.aloadN X0.here hx rfl (hb hby d2_3) rfl rfl k) ?_
      show Go p e below _ (s₁.setTop (mkF m 4 #[.val (.ref a0), .val (.int p1), .val (.int (2 : Int32))] [(.ref a0), (.int (2 : Int32))]))
      obtain ⟨cl6, Ar6, ck6, Sz6, Nn6, Hs6, Gs6⟩ := id V_kk
      refine Go.st (fun _ k => X0.arraylength hx (by rw [e0]; exact Ar6.1) (State.isArrayOf_alike hZ.alike Ar6.2.1) (g := (mkF m 4 #[.val (.ref a0), .val (.int p1), .val (.int (2 : Int32))] [(.ref a0), (.int (2 : Int32))])) rfl rfl (hb hby d2_4) _ k) ?_
      rw [len_of Sz6 Nn6]
      show Go p e below _ (s₁.setTop (mkF m 5 #[.val (.ref a0), .val (.int p1), .val (.int (2 : Int32))] [(.int (2 : Int32)), (.int (2 : Int32))]))
      refine Go.st (fun _ k => XS.icmpYes X0.here hx rfl (pc0 := 5) (pc' := 32) rfl (hb hby d2_5) rfl (flt (by decide : ¬ ((2 : Int32) < (2 : Int32)))).2.1 (by decide) (by decide) k) ?_
      show Go p e below _ (s₁.setTop (mkF m 32 #[.val (.ref a0), .val (.int p1), .val (.int (2 : Int32))] []))
      refine Go.st (fun _ k => XS.iconst X0.here hx rfl (hb hby d2_32) k) ?_
      show Go p e below _ (s₁.setTop (mkF m 33 #[.val (.ref a0), .val (.int p1), .val (.int (2 : Int32))] [(.int (0 : Int32))]))
      obtain ⟨fs, hr, hrun, hended, hW, hsame⟩ := X0.leave (v := some (.int (0 : Int32))) (fun h => by rw [Bd.returns] at h; cases h)
      refine ⟨_, _, retN X0 hx (t := .boolean) Bd.returns (by simp) (hb hby d2_33) hr, hrun, hended, _, _, rfl, ?_, ⟨_, rfl⟩, hW, hsame.mono (by decide) (by decide)⟩
      show Q_rmC2 Z a0 p1 kk x0 x1 h0 n0 _ s₁.heap _
      rw [e0]
      refine ⟨?_, N0, rfl⟩
      unfold fC2
      rw [if_neg hc3, if_pos hc5]
    · show Go p e below _ (s₁.setTop (mkF m 21 #[.val (.ref a0), .val (.int p1), .val (.int (0 : Int32))] [(.int x1), (.int p1)]))
      refine Go.st (fun _ k => XS.icmpNo X0.here hx rfl (hb hby d2_21) rfl (flt hc5).2.2.1 k) ?_
      show Go p e below _ (s₁.setTop (mkF m 24 #[.val (.ref a0), .val (.int p1), .val (.int (0 : Int32))] []))
      refine Go.st (fun _ k => XS.iconst X0.here hx rfl (hb hby d2_24) k) ?_
      show Go p e below _ (s₁.setTop (mkF m 25 #[.val (.ref a0), .val (.int p1), .val (.int (0 : Int32))] [(.int (1 : Int32))]))
      obtain ⟨fs, hr, hrun, hended, hW, hsame⟩ := X0.leave (v := some (.int (1 : Int32))) (fun h => by rw [Bd.returns] at h; cases h)
      refine ⟨_, _, retN X0 hx (t := .boolean) Bd.returns (by simp) (hb hby d2_25) hr, hrun, hended, _, _, rfl, ?_, ⟨_, rfl⟩, hW, hsame.mono (by decide) (by decide)⟩
      show Q_rmC2 Z a0 p1 kk x0 x1 h0 n0 _ s₁.heap _
      rw [e0]
      refine ⟨?_, N0, rfl⟩
      unfold fC2
      rw [if_neg hc3, if_neg hc5]
theorem ef_rmC4 (m : MethodId) (a0 : Addr) (p1 : Int32) : entryFrame m #[(.ref a0), (.int p1)] 3 = mkF m 0 #[.val (.ref a0), .val (.int p1), .unset] [] := by first | (simp [entryFrame, mkF, argsToLocals, Value.category]; done) | rfl
def fC4 (p1 : Int32) (x0 : Int32) (x1 : Int32) (x2 : Int32) (x3 : Int32) : Int32 := if p1 < x0 then (0 : Int32) else (if x1 < p1 then (if p1 < x2 then (0 : Int32) else (if x3 < p1 then (0 : Int32) else (1 : Int32))) else (1 : Int32))
def Q_rmC4 (Z : State) (a0 : Addr) (p1 : Int32) (kk : ClassId) (x0 : Int32) (x1 : Int32) (x2 : Int32) (x3 : Int32) (h0 : Heap) (n0 : Nat) (v : Option Value) (h : Heap) (L : List Loc) : Prop := v = some (.int (fC4 p1 x0 x1 x2 x3)) ∧ Fr n0 L ∧ h = h0
abbrev F_rmC4 (Z : State) (a0 : Addr) (p1 : Int32) (kk : ClassId) (x0 : Int32) (x1 : Int32) (x2 : Int32) (x3 : Int32) (h0 : Heap) (n0 : Nat) (s : State) (o : Outcome) (U : State) : Prop := ∃ v L, o = .returned v ∧ Q_rmC4 Z a0 p1 kk x0 x1 x2 x3 h0 n0 v U.heap L ∧ FrameEnd s o U L 0 0
set_option maxRecDepth 65536 in
set_option maxHeartbeats 40000000 in
theorem rmC4 (l : Launch) (Z : State) (aZ : Array Value) (hw : ∀ d ∈ tables_1, d.before aZ Z = true) (ws : List Jvm.Cond) (a0 : Addr) (p1 : Int32) (kk : ClassId) (x0 : Int32) (x1 : Int32) (x2 : Int32) (x3 : Int32) (h0 : Heap) (n0 : Nat) (V_kk : Arv Z h0 a0 kk .int (4 : Int32) [(.int x0), (.int x1), (.int x2), (.int x3)] (.int (0 : Int32))) :
    MetFree l (⟨"com/example/weir/weir/route/ValueRegions", "contains", "([II)Z"⟩ : MethodName) (head1 (Jvm.Cond.code (⟨"com/example/weir/weir/route/ValueRegions", "contains", "([II)Z"⟩ : MethodName) prog_49_method_13_code 3 (some .boolean) :: ws) ({ frames := 0, cells := 0, slots := 0, locals := 0 } : Room)) (fun a U => a = #[(.ref a0), (.int p1)] ∧ Z.Warmed39 U.vm ∧ U.heap = h0) (fun _ _ _ _ _ => True) (fun _ U o U' => ∃ v L, o = .returned v ∧ Q_rmC4 Z a0 p1 kk x0 x1 x2 x3 h0 n0 v U'.heap L ∧ FrameEnd U o U' L 0 0) := by
  refine MetFree.of_bodySF (plainFor_of_name pn_2) hisR ?_
  intro p e s m args below meth c s₁ Bd hml0 hP hK
  obtain ⟨rfl, hZ, hh⟩ := hP
  have hx := Bd.exec
  have hby := Bd.bytes
  have hml : c.maxLocals = 3 := hml0
  have hown : s.vm.findClass "com/example/weir/weir/route/ValueRegions" = some m.cls := findClass_of_methodNamed Bd.named
  have hnm := (name_of_methodNamed Bd.named Bd.method).1
  have X0 : Stand p l e ({ frames := 0, cells := 0, slots := 0, locals := 0 } : Room) s m #[(.ref a0), (.int p1)] below meth c s₁ [] 0 0 := Stand.of_body Bd
  have e0 : s₁.heap = h0 := by rw [← hh, Bd.state]; rfl
  have N0 := Fr.nil n0
  refine Go.st (fun _ k => castTop (ef_rmC4 m a0 p1) k) ?_
  show Go p e below _ (s₁.setTop (mkF m 0 #[.val (.ref a0), .val (.int p1), .unset] []))
  refine Go.st (fun _ k => XS.iconst X0.here hx rfl (hb hby d2_0) k) ?_
  show Go p e below _ (s₁.setTop (mkF m 1 #[.val (.ref a0), .val (.int p1), .unset] [(.int (0 : Int32))]))
  refine Go.st (fun _ k => XS.istoreN X0.here hx rfl (hb hby d2_1) rfl (l' := #[.val (.ref a0), .val (.int p1), .val (.int (0 : Int32))]) rfl k) ?_
  show Go p e below _ (s₁.setTop (mkF m 2 #[.val (.ref a0), .val (.int p1), .val (.int (0 : Int32))] []))
  refine Go.st (fun _ k => XS.iloadN X0.here hx rfl (hb hby d2_2) rfl k) ?_
  show Go p e below _ (s₁.setTop (mkF m 3 #[.val (.ref a0), .val (.int p1), .val (.int (0 : Int32))] [(.int (0 : Int32))]))
  refine Go.st (fun _ k => XS.aloadN X0.here hx rfl (hb hby d2_3) rfl rfl k) ?_
  show Go p e below _ (s₁.setTop (mkF m 4 #[.val (.ref a0), .val (.int p1), .val (.int (0 : Int32))] [(.ref a0), (.int (0 : Int32))]))
  obtain ⟨cl1, Ar1, ck1, Sz1, Nn1, Hs1, Gs1⟩ := id V_kk
  refine Go.st (fun _ k => X0.arraylength hx (by rw [e0]; exact Ar1.1) (State.isArrayOf_alike hZ.alike Ar1.2.1) (g := (mkF m 4 #[.val (.ref a0), .val (.int p1), .val (.int (0 : Int32))] [(.ref a0), (.int (0 : Int32))])) rfl rfl (hb hby d2_4) _ k) ?_
  rw [len_of Sz1 Nn1]
  show Go p e below _ (s₁.setTop (mkF m 5 #[.val (.ref a0), .val (.int p1), .val (.int (0 : Int32))] [(.int (4 : Int32)), (.int (0 : Int32))]))
  refine Go.st (fun _ k => XS.icmpNo X0.here hx rfl (hb hby d2_5) rfl (tlt (by decide : ((0 : Int32) < (4 : Int32)))).2.1 k) ?_
  show Go p e below _ (s₁.setTop (mkF m 8 #[.val (.ref a0), .val (.int p1), .val (.int (0 : Int32))] []))
  refine Go.st (fun _ k => XS.aloadN X0.here hx rfl (hb hby d2_8) rfl rfl k) ?_
  show Go p e below _ (s₁.setTop (mkF m 9 #[.val (.ref a0), .val (.int p1), .val (.int (0 : Int32))] [(.ref a0)]))
  refine Go.st (fun _ k => XS.iloadN X0.here hx rfl (hb hby d2_9) rfl k) ?_
  show Go p e below _ (s₁.setTop (mkF m 10 #[.val (.ref a0), .val (.int p1), .val (.int (0 : Int32))] [(.int (0 : Int32)), (.ref a0)]))
  obtain ⟨cl2, Ar2, ck2, Sz2, Nn2, Hs2, Gs2⟩ := id V_kk
  have hin2 : ¬ ((0 : Int32) < 0 ∨ cl2.slots.size ≤ ((0 : Int32)).toNatClampNeg) := inb_of Sz2 ⟨by decide, by decide⟩
  have hat2 : cl2.slots[((0 : Int32)).toNatClampNeg]? = some (.int x0) := Hs2.at hin2 rfl
  refine Go.st (fun _ k => X0.iaload hx (j := (0 : Int32)) (v := (.int x0)) (by rw [e0]; exact Ar2.1) (State.isArrayOf_alike hZ.alike Ar2.2.1) Ar2.2.2 hin2 hat2 (g := (mkF m 10 #[.val (.ref a0), .val (.int p1), .val (.int (0 : Int32))] [(.int (0 : Int32)), (.ref a0)])) rfl rfl (hb hby d2_10) _ k) ?_
  show Go p e below _ (s₁.setTop (mkF m 11 #[.val (.ref a0), .val (.int p1), .val (.int (0 : Int32))] [(.int x0)]))
  refine Go.st (fun _ k => XS.iloadN X0.here hx rfl (hb hby d2_11) rfl k) ?_
  show Go p e below _ (s₁.setTop (mkF m 12 #[.val (.ref a0), .val (.int p1), .val (.int (0 : Int32))] [(.int p1), (.int x0)]))
  by_cases hc3 : p1 < x0
  · show Go p e below _ (s₁.setTop (mkF m 12 #[.val (.ref a0), .val (.int p1), .val (.int (0 : Int32))] [(.int p1), (.int x0)]))
    refine Go.st (fun _ k => XS.icmpYes X0.here hx rfl (pc0 := 12) (pc' := 32) rfl (hb hby d2_12) rfl (tlt hc3).2.2.1 (by decide) (by decide) k) ?_
    show Go p e below _ (s₁.setTop (mkF m 32 #[.val (.ref a0), .val (.int p1), .val (.int (0 : Int32))] []))
    refine Go.st (fun _ k => XS.iconst X0.here hx rfl (hb hby d2_32) k) ?_
    show Go p e below _ (s₁.setTop (mkF m 33 #[.val (.ref a0), .val (.int p1), .val (.int (0 : Int32))] [(.int (0 : Int32))]))
    obtain ⟨fs, hr, hrun, hended, hW, hsame⟩ := X0.leave (v := some (.int (0 : Int32))) (fun h => by rw [Bd.returns] at h; cases h)
    refine ⟨_, _, retN X0 hx (t := .boolean) Bd.returns (by simp) (hb hby d2_33) hr, hrun, hended, _, _, rfl, ?_, ⟨_, rfl⟩, hW, hsame.mono (by decide) (by decide)⟩
    show Q_rmC4 Z a0 p1 kk x0 x1 x2 x3 h0 n0 _ s₁.heap _
    rw [e0]
    refine ⟨?_, N0, rfl⟩
    unfold fC4
    rw [if_pos hc3]
  · show Go p e below _ (s₁.setTop (mkF m 12 #[.val (.ref a0), .val (.int p1), .val (.int (0 : Int32))] [(.int p1), (.int x0)]))
    refine Go.st (fun _ k => XS.icmpNo X0.here hx rfl (hb hby d2_12) rfl (flt hc3).2.2.1 k) ?_
    show Go p e below _ (s₁.setTop (mkF m 15 #[.val (.ref a0), .val (.int p1), .val (.int (0 : Int32))] []))
    refine Go.st (fun _ k => XS.iloadN X0.here hx rfl (hb hby d2_15) rfl k) ?_
    show Go p e below _ (s₁.setTop (mkF m 16 #[.val (.ref a0), .val (.int p1), .val (.int (0 : Int32))] [(.int p1)]))
    refine Go.st (fun _ k => XS.aloadN X0.here hx rfl (hb hby d2_16) rfl rfl k) ?_
    show Go p e below _ (s₁.setTop (mkF m 17 #[.val (.ref a0), .val (.int p1), .val (.int (0 : Int32))] [(.ref a0), (.int p1)]))
    refine Go.st (fun _ k => XS.iloadN X0.here hx rfl (hb hby d2_17) rfl k) ?_
    show Go p e below _ (s₁.setTop (mkF m 18 #[.val (.ref a0), .val (.int p1), .val (.int (0 : Int32))] [(.int (0 : Int32)), (.ref a0), (.int p1)]))
    refine Go.st (fun _ k => XS.iconst X0.here hx rfl (hb hby d2_18) k) ?_
    show Go p e below _ (s₁.setTop (mkF m 19 #[.val (.ref a0), .val (.int p1), .val (.int (0 : Int32))] [(.int (1 : Int32)), (.int (0 : Int32)), (.ref a0), (.int p1)]))
    refine Go.st (fun _ k => XS.iadd X0.here hx rfl (hb hby d2_19) rfl k) ?_
    show Go p e below _ (s₁.setTop (mkF m 20 #[.val (.ref a0), .val (.int p1), .val (.int (0 : Int32))] [(.int (1 : Int32)), (.ref a0), (.int p1)]))
    obtain ⟨cl4, Ar4, ck4, Sz4, Nn4, Hs4, Gs4⟩ := id V_kk
    have hin4 : ¬ ((1 : Int32) < 0 ∨ cl4.slots.size ≤ ((1 : Int32)).toNatClampNeg) := inb_of Sz4 ⟨by decide, by decide⟩
    have hat4 : cl4.slots[((1 : Int32)).toNatClampNeg]? = some (.int x1) := Hs4.at hin4 rfl
    refine Go.st (fun _ k => X0.iaload hx (j := (1 : Int32)) (v := (.int x1)) (by rw [e0]; exact Ar4.1) (State.isArrayOf_alike hZ.alike Ar4.2.1) Ar4.2.2 hin4 hat4 (g := (mkF m 20 #[.val (.ref a0), .val (.int p1), .val (.int (0 : Int32))] [(.int (1 : Int32)), (.ref a0), (.int p1)])) rfl rfl (hb hby d2_20) _ k) ?_
    show Go p e below _ (s₁.setTop (mkF m 21 #[.val (.ref a0), .val (.int p1), .val (.int (0 : Int32))] [(.int x1), (.int p1)]))
    by_cases hc5 : x1 < p1
    · show Go p e below _ (s₁.setTop (mkF m 21 #[.val (.ref a0), .val (.int p1), .val (.int (0 : Int32))] [(.int x1), (.int p1)]))
      refine Go.st (fun _ k => XS.icmpYes X0.here hx rfl (pc0 := 21) (pc' := 26) rfl (hb hby d2_21) rfl (tlt hc5).2.2.1 (by decide) (by decide) k) ?_
      show Go p e below _ (s₁.setTop (mkF m 26 #[.val (.ref a0), .val (.int p1), .val (.int (0 : Int32))] []))
      refine Go.st (fun _ k => XS.iinc X0.here hx rfl (hb hby d2_26) rfl (l' := #[.val (.ref a0), .val (.int p1), .val (.int (2 : Int32))]) rfl k) ?_
      show Go p e below _ (s₁.setTop (mkF m 29 #[.val (.ref a0), .val (.int p1), .val (.int (2 : Int32))] []))
      refine Go.st (fun _ k => XS.goto X0.here hx rfl (pc0 := 29) (pc' := 2) rfl (hb hby d2_29) (by decide) (by decide) k) ?_
      show Go p e below _ (s₁.setTop (mkF m 2 #[.val (.ref a0), .val (.int p1), .val (.int (2 : Int32))] []))
      refine Go.st (fun _ k => XS.iloadN X0.here hx rfl (hb hby d2_2) rfl k) ?_
      show Go p e below _ (s₁.setTop (mkF m 3 #[.val (.ref a0), .val (.int p1), .val (.int (2 : Int32))] [(.int (2 : Int32))]))
      refine Go.st (fun _ k => XS.aloadN X0.here hx rfl (hb hby d2_3) rfl rfl k) ?_
      show Go p e below _ (s₁.setTop (mkF m 4 #[.val (.ref a0), .val (.int p1), .val (.int (2 : Int32))] [(.ref a0), (.int (2 : Int32))]))
      obtain ⟨cl6, Ar6, ck6, Sz6, Nn6, Hs6, Gs6⟩ := id V_kk
      refine Go.st (fun _ k => X0.arraylength hx (by rw [e0]; exact Ar6.1) (State.isArrayOf_alike hZ.alike Ar6.2.1) (g := (mkF m 4 #[.val (.ref a0), .val (.int p1), .val (.int (2 : Int32))] [(.ref a0), (.int (2 : Int32))])) rfl rfl (hb hby d2_4) _ k) ?_
      rw [len_of Sz6 Nn6]
      show Go p e below _ (s₁.setTop (mkF m 5 #[.val (.ref a0), .val (.int p1), .val (.int (2 : Int32))] [(.int (4 : Int32)), (.int (2 : Int32))]))
      refine Go.st (fun _ k => XS.icmpNo X0.here hx rfl (hb hby d2_5) rfl (tlt (by decide : ((2 : Int32) < (4 : Int32)))).2.1 k) ?_
      show Go p e below _ (s₁.setTop (mkF m 8 #[.val (.ref a0), .val (.int p1), .val (.int (2 : Int32))] []))
      refine Go.st (fun _ k => XS.aloadN X0.here hx rfl (hb hby d2_8) rfl rfl k) ?_
      show Go p e below _ (s₁.setTop (mkF m 9 #[.val (.ref a0), .val (.int p1), .val (.int (2 : Int32))] [(.ref a0)]))
      refine Go.st (fun _ k => XS.iloadN X0.here hx rfl (hb hby d2_9) rfl k) ?_
      show Go p e below _ (s₁.setTop (mkF m 10 #[.val (.ref a0), .val (.int p1), .val (.int (2 : Int32))] [(.int (2 : Int32)), (.ref a0)]))
      obtain ⟨cl7, Ar7, ck7, Sz7, Nn7, Hs7, Gs7⟩ := id V_kk
      have hin7 : ¬ ((2 : Int32) < 0 ∨ cl7.slots.size ≤ ((2 : Int32)).toNatClampNeg) := inb_of Sz7 ⟨by decide, by decide⟩
      have hat7 : cl7.slots[((2 : Int32)).toNatClampNeg]? = some (.int x2) := Hs7.at hin7 rfl
      refine Go.st (fun _ k => X0.iaload hx (j := (2 : Int32)) (v := (.int x2)) (by rw [e0]; exact Ar7.1) (State.isArrayOf_alike hZ.alike Ar7.2.1) Ar7.2.2 hin7 hat7 (g := (mkF m 10 #[.val (.ref a0), .val (.int p1), .val (.int (2 : Int32))] [(.int (2 : Int32)), (.ref a0)])) rfl rfl (hb hby d2_10) _ k) ?_
      show Go p e below _ (s₁.setTop (mkF m 11 #[.val (.ref a0), .val (.int p1), .val (.int (2 : Int32))] [(.int x2)]))
      refine Go.st (fun _ k => XS.iloadN X0.here hx rfl (hb hby d2_11) rfl k) ?_
      show Go p e below _ (s₁.setTop (mkF m 12 #[.val (.ref a0), .val (.int p1), .val (.int (2 : Int32))] [(.int p1), (.int x2)]))
      by_cases hc8 : p1 < x2
      · show Go p e below _ (s₁.setTop (mkF m 12 #[.val (.ref a0), .val (.int p1), .val (.int (2 : Int32))] [(.int p1), (.int x2)]))
        refine Go.st (fun _ k => XS.icmpYes X0.here hx rfl (pc0 := 12) (pc' := 32) rfl (hb hby d2_12) rfl (tlt hc8).2.2.1 (by decide) (by decide) k) ?_
        show Go p e below _ (s₁.setTop (mkF m 32 #[.val (.ref a0), .val (.int p1), .val (.int (2 : Int32))] []))
        refine Go.st (fun _ k => XS.iconst X0.here hx rfl (hb hby d2_32) k) ?_
        show Go p e below _ (s₁.setTop (mkF m 33 #[.val (.ref a0), .val (.int p1), .val (.int (2 : Int32))] [(.int (0 : Int32))]))
        obtain ⟨fs, hr, hrun, hended, hW, hsame⟩ := X0.leave (v := some (.int (0 : Int32))) (fun h => by rw [Bd.returns] at h; cases h)
        refine ⟨_, _, retN X0 hx (t := .boolean) Bd.returns (by simp) (hb hby d2_33) hr, hrun, hended, _, _, rfl, ?_, ⟨_, rfl⟩, hW, hsame.mono (by decide) (by decide)⟩
        show Q_rmC4 Z a0 p1 kk x0 x1 x2 x3 h0 n0 _ s₁.heap _
        rw [e0]
        refine ⟨?_, N0, rfl⟩
        unfold fC4
        rw [if_neg hc3, if_pos hc5, if_pos hc8]
      · show Go p e below _ (s₁.setTop (mkF m 12 #[.val (.ref a0), .val (.int p1), .val (.int (2 : Int32))] [(.int p1), (.int x2)]))
        refine Go.st (fun _ k => XS.icmpNo X0.here hx rfl (hb hby d2_12) rfl (flt hc8).2.2.1 k) ?_
        show Go p e below _ (s₁.setTop (mkF m 15 #[.val (.ref a0), .val (.int p1), .val (.int (2 : Int32))] []))
        refine Go.st (fun _ k => XS.iloadN X0.here hx rfl (hb hby d2_15) rfl k) ?_
        show Go p e below _ (s₁.setTop (mkF m 16 #[.val (.ref a0), .val (.int p1), .val (.int (2 : Int32))] [(.int p1)]))
        refine Go.st (fun _ k => XS.aloadN X0.here hx rfl (hb hby d2_16) rfl rfl k) ?_
        show Go p e below _ (s₁.setTop (mkF m 17 #[.val (.ref a0), .val (.int p1), .val (.int (2 : Int32))] [(.ref a0), (.int p1)]))
        refine Go.st (fun _ k => XS.iloadN X0.here hx rfl (hb hby d2_17) rfl k) ?_
        show Go p e below _ (s₁.setTop (mkF m 18 #[.val (.ref a0), .val (.int p1), .val (.int (2 : Int32))] [(.int (2 : Int32)), (.ref a0), (.int p1)]))
        refine Go.st (fun _ k => XS.iconst X0.here hx rfl (hb hby d2_18) k) ?_
        show Go p e below _ (s₁.setTop (mkF m 19 #[.val (.ref a0), .val (.int p1), .val (.int (2 : Int32))] [(.int (1 : Int32)), (.int (2 : Int32)), (.ref a0), (.int p1)]))
        refine Go.st (fun _ k => XS.iadd X0.here hx rfl (hb hby d2_19) rfl k) ?_
        show Go p e below _ (s₁.setTop (mkF m 20 #[.val (.ref a0), .val (.int p1), .val (.int (2 : Int32))] [(.int (3 : Int32)), (.ref a0), (.int p1)]))
        obtain ⟨cl9, Ar9, ck9, Sz9, Nn9, Hs9, Gs9⟩ := id V_kk
        have hin9 : ¬ ((3 : Int32) < 0 ∨ cl9.slots.size ≤ ((3 : Int32)).toNatClampNeg) := inb_of Sz9 ⟨by decide, by decide⟩
        have hat9 : cl9.slots[((3 : Int32)).toNatClampNeg]? = some (.int x3) := Hs9.at hin9 rfl
        refine Go.st (fun _ k => X0.iaload hx (j := (3 : Int32)) (v := (.int x3)) (by rw [e0]; exact Ar9.1) (State.isArrayOf_alike hZ.alike Ar9.2.1) Ar9.2.2 hin9 hat9 (g := (mkF m 20 #[.val (.ref a0), .val (.int p1), .val (.int (2 : Int32))] [(.int (3 : Int32)), (.ref a0), (.int p1)])) rfl rfl (hb hby d2_20) _ k) ?_
        show Go p e below _ (s₁.setTop (mkF m 21 #[.val (.ref a0), .val (.int p1), .val (.int (2 : Int32))] [(.int x3), (.int p1)]))
        by_cases hc10 : x3 < p1
        · show Go p e below _ (s₁.setTop (mkF m 21 #[.val (.ref a0), .val (.int p1), .val (.int (2 : Int32))] [(.int x3), (.int p1)]))
          refine Go.st (fun _ k => XS.icmpYes X0.here hx rfl (pc0 := 21) (pc' := 26) rfl (hb hby d2_21) rfl (tlt hc10).2.2.1 (by decide) (by decide) k) ?_
          show Go p e below _ (s₁.setTop (mkF m 26 #[.val (.ref a0), .val (.int p1), .val (.int (2 : Int32))] []))
          refine Go.st (fun _ k => XS.iinc X0.here hx rfl (hb hby d2_26) rfl (l' := #[.val (.ref a0), .val (.int p1), .val (.int (4 : Int32))]) rfl k) ?_
          show Go p e below _ (s₁.setTop (mkF m 29 #[.val (.ref a0), .val (.int p1), .val (.int (4 : Int32))] []))
          refine Go.st (fun _ k => XS.goto X0.here hx rfl (pc0 := 29) (pc' := 2) rfl (hb hby d2_29) (by decide) (by decide) k) ?_
          show Go p e below _ (s₁.setTop (mkF m 2 #[.val (.ref a0), .val (.int p1), .val (.int (4 : Int32))] []))
          refine Go.st (fun _ k => XS.iloadN X0.here hx rfl (hb hby d2_2) rfl k) ?_
          show Go p e below _ (s₁.setTop (mkF m 3 #[.val (.ref a0), .val (.int p1), .val (.int (4 : Int32))] [(.int (4 : Int32))]))
          refine Go.st (fun _ k => XS.aloadN X0.here hx rfl (hb hby d2_3) rfl rfl k) ?_
          show Go p e below _ (s₁.setTop (mkF m 4 #[.val (.ref a0), .val (.int p1), .val (.int (4 : Int32))] [(.ref a0), (.int (4 : Int32))]))
          obtain ⟨cl11, Ar11, ck11, Sz11, Nn11, Hs11, Gs11⟩ := id V_kk
          refine Go.st (fun _ k => X0.arraylength hx (by rw [e0]; exact Ar11.1) (State.isArrayOf_alike hZ.alike Ar11.2.1) (g := (mkF m 4 #[.val (.ref a0), .val (.int p1), .val (.int (4 : Int32))] [(.ref a0), (.int (4 : Int32))])) rfl rfl (hb hby d2_4) _ k) ?_
          rw [len_of Sz11 Nn11]
          show Go p e below _ (s₁.setTop (mkF m 5 #[.val (.ref a0), .val (.int p1), .val (.int (4 : Int32))] [(.int (4 : Int32)), (.int (4 : Int32))]))
          refine Go.st (fun _ k => XS.icmpYes X0.here hx rfl (pc0 := 5) (pc' := 32) rfl (hb hby d2_5) rfl (flt (by decide : ¬ ((4 : Int32) < (4 : Int32)))).2.1 (by decide) (by decide) k) ?_
          show Go p e below _ (s₁.setTop (mkF m 32 #[.val (.ref a0), .val (.int p1), .val (.int (4 : Int32))] []))
          refine Go.st (fun _ k => XS.iconst X0.here hx rfl (hb hby d2_32) k) ?_
          show Go p e below _ (s₁.setTop (mkF m 33 #[.val (.ref a0), .val (.int p1), .val (.int (4 : Int32))] [(.int (0 : Int32))]))
          obtain ⟨fs, hr, hrun, hended, hW, hsame⟩ := X0.leave (v := some (.int (0 : Int32))) (fun h => by rw [Bd.returns] at h; cases h)
          refine ⟨_, _, retN X0 hx (t := .boolean) Bd.returns (by simp) (hb hby d2_33) hr, hrun, hended, _, _, rfl, ?_, ⟨_, rfl⟩, hW, hsame.mono (by decide) (by decide)⟩
          show Q_rmC4 Z a0 p1 kk x0 x1 x2 x3 h0 n0 _ s₁.heap _
          rw [e0]
          refine ⟨?_, N0, rfl⟩
          unfold fC4
          rw [if_neg hc3, if_pos hc5, if_neg hc8, if_pos hc10]
        · show Go p e below _ (s₁.setTop (mkF m 21 #[.val (.ref a0), .val (.int p1), .val (.int (2 : Int32))] [(.int x3), (.int p1)]))
          refine Go.st (fun _ k => XS.icmpNo X0.here hx rfl (hb hby d2_21) rfl (flt hc10).2.2.1 k) ?_
          show Go p e below _ (s₁.setTop (mkF m 24 #[.val (.ref a0), .val (.int p1), .val (.int (2 : Int32))] []))
          refine Go.st (fun _ k => XS.iconst X0.here hx rfl (hb hby d2_24) k) ?_
          show Go p e below _ (s₁.setTop (mkF m 25 #[.val (.ref a0), .val (.int p1), .val (.int (2 : Int32))] [(.int (1 : Int32))]))
          obtain ⟨fs, hr, hrun, hended, hW, hsame⟩ := X0.leave (v := some (.int (1 : Int32))) (fun h => by rw [Bd.returns] at h; cases h)
          refine ⟨_, _, retN X0 hx (t := .boolean) Bd.returns (by simp) (hb hby d2_25) hr, hrun, hended, _, _, rfl, ?_, ⟨_, rfl⟩, hW, hsame.mono (by decide) (by decide)⟩
          show Q_rmC4 Z a0 p1 kk x0 x1 x2 x3 h0 n0 _ s₁.heap _
          rw [e0]
          refine ⟨?_, N0, rfl⟩
          unfold fC4
          rw [if_neg hc3, if_pos hc5, if_neg hc8, if_neg hc10]
    · show Go p e below _ (s₁.setTop (mkF m 21 #[.val (.ref a0), .val (.int p1), .val (.int (0 : Int32))] [(.int x1), (.int p1)]))
      refine Go.st (fun _ k => XS.icmpNo X0.here hx rfl (hb hby d2_21) rfl (flt hc5).2.2.1 k) ?_
      show Go p e below _ (s₁.setTop (mkF m 24 #[.val (.ref a0), .val (.int p1), .val (.int (0 : Int32))] []))
      refine Go.st (fun _ k => XS.iconst X0.here hx rfl (hb hby d2_24) k) ?_
      show Go p e below _ (s₁.setTop (mkF m 25 #[.val (.ref a0), .val (.int p1), .val (.int (0 : Int32))] [(.int (1 : Int32))]))
      obtain ⟨fs, hr, hrun, hended, hW, hsame⟩ := X0.leave (v := some (.int (1 : Int32))) (fun h => by rw [Bd.returns] at h; cases h)
      refine ⟨_, _, retN X0 hx (t := .boolean) Bd.returns (by simp) (hb hby d2_25) hr, hrun, hended, _, _, rfl, ?_, ⟨_, rfl⟩, hW, hsame.mono (by decide) (by decide)⟩
      show Q_rmC4 Z a0 p1 kk x0 x1 x2 x3 h0 n0 _ s₁.heap _
      rw [e0]
      refine ⟨?_, N0, rfl⟩
      unfold fC4
      rw [if_neg hc3, if_neg hc5]
theorem ef_rmC6 (m : MethodId) (a0 : Addr) (p1 : Int32) : entryFrame m #[(.ref a0), (.int p1)] 3 = mkF m 0 #[.val (.ref a0), .val (.int p1), .unset] [] := by first | (simp [entryFrame, mkF, argsToLocals, Value.category]; done) | rfl
def fC6 (p1 : Int32) (x0 : Int32) (x1 : Int32) (x2 : Int32) (x3 : Int32) (x4 : Int32) (x5 : Int32) : Int32 := if p1 < x0 then (0 : Int32) else (if x1 < p1 then (if p1 < x2 then (0 : Int32) else (if x3 < p1 then (if p1 < x4 then (0 : Int32) else (if x5 < p1 then (0 : Int32) else (1 : Int32))) else (1 : Int32))) else (1 : Int32))
def Q_rmC6 (Z : State) (a0 : Addr) (p1 : Int32) (kk : ClassId) (x0 : Int32) (x1 : Int32) (x2 : Int32) (x3 : Int32) (x4 : Int32) (x5 : Int32) (h0 : Heap) (n0 : Nat) (v : Option Value) (h : Heap) (L : List Loc) : Prop := v = some (.int (fC6 p1 x0 x1 x2 x3 x4 x5)) ∧ Fr n0 L ∧ h = h0
abbrev F_rmC6 (Z : State) (a0 : Addr) (p1 : Int32) (kk : ClassId) (x0 : Int32) (x1 : Int32) (x2 : Int32) (x3 : Int32) (x4 : Int32) (x5 : Int32) (h0 : Heap) (n0 : Nat) (s : State) (o : Outcome) (U : State) : Prop := ∃ v L, o = .returned v ∧ Q_rmC6 Z a0 p1 kk x0 x1 x2 x3 x4 x5 h0 n0 v U.heap L ∧ FrameEnd s o U L 0 0
set_option maxRecDepth 65536 in
set_option maxHeartbeats 40000000 in
theorem rmC6 (l : Launch) (Z : State) (aZ : Array Value) (hw : ∀ d ∈ tables_1, d.before aZ Z = true) (ws : List Jvm.Cond) (a0 : Addr) (p1 : Int32) (kk : ClassId) (x0 : Int32) (x1 : Int32) (x2 : Int32) (x3 : Int32) (x4 : Int32) (x5 : Int32) (h0 : Heap) (n0 : Nat) (V_kk : Arv Z h0 a0 kk .int (6 : Int32) [(.int x0), (.int x1), (.int x2), (.int x3), (.int x4), (.int x5)] (.int (0 : Int32))) :
    MetFree l (⟨"com/example/weir/weir/route/ValueRegions", "contains", "([II)Z"⟩ : MethodName) (head1 (Jvm.Cond.code (⟨"com/example/weir/weir/route/ValueRegions", "contains", "([II)Z"⟩ : MethodName) prog_49_method_13_code 3 (some .boolean) :: ws) ({ frames := 0, cells := 0, slots := 0, locals := 0 } : Room)) (fun a U => a = #[(.ref a0), (.int p1)] ∧ Z.Warmed39 U.vm ∧ U.heap = h0) (fun _ _ _ _ _ => True) (fun _ U o U' => ∃ v L, o = .returned v ∧ Q_rmC6 Z a0 p1 kk x0 x1 x2 x3 x4 x5 h0 n0 v U'.heap L ∧ FrameEnd U o U' L 0 0) := by
  refine MetFree.of_bodySF (plainFor_of_name pn_2) hisR ?_
  intro p e s m args below meth c s₁ Bd hml0 hP hK
  obtain ⟨rfl, hZ, hh⟩ := hP
  have hx := Bd.exec
  have hby := Bd.bytes
  have hml : c.maxLocals = 3 := hml0
  have hown : s.vm.findClass "com/example/weir/weir/route/ValueRegions" = some m.cls := findClass_of_methodNamed Bd.named
  have hnm := (name_of_methodNamed Bd.named Bd.method).1
  have X0 : Stand p l e ({ frames := 0, cells := 0, slots := 0, locals := 0 } : Room) s m #[(.ref a0), (.int p1)] below meth c s₁ [] 0 0 := Stand.of_body Bd
  have e0 : s₁.heap = h0 := by rw [← hh, Bd.state]; rfl
  have N0 := Fr.nil n0
  refine Go.st (fun _ k => castTop (ef_rmC6 m a0 p1) k) ?_
  show Go p e below _ (s₁.setTop (mkF m 0 #[.val (.ref a0), .val (.int p1), .unset] []))
  refine Go.st (fun _ k => XS.iconst X0.here hx rfl (hb hby d2_0) k) ?_
  show Go p e below _ (s₁.setTop (mkF m 1 #[.val (.ref a0), .val (.int p1), .unset] [(.int (0 : Int32))]))
  refine Go.st (fun _ k => XS.istoreN X0.here hx rfl (hb hby d2_1) rfl (l' := #[.val (.ref a0), .val (.int p1), .val (.int (0 : Int32))]) rfl k) ?_
  show Go p e below _ (s₁.setTop (mkF m 2 #[.val (.ref a0), .val (.int p1), .val (.int (0 : Int32))] []))
  refine Go.st (fun _ k => XS.iloadN X0.here hx rfl (hb hby d2_2) rfl k) ?_
  show Go p e below _ (s₁.setTop (mkF m 3 #[.val (.ref a0), .val (.int p1), .val (.int (0 : Int32))] [(.int (0 : Int32))]))
  refine Go.st (fun _ k => XS.aloadN X0.here hx rfl (hb hby d2_3) rfl rfl k) ?_
  show Go p e below _ (s₁.setTop (mkF m 4 #[.val (.ref a0), .val (.int p1), .val (.int (0 : Int32))] [(.ref a0), (.int (0 : Int32))]))
  obtain ⟨cl1, Ar1, ck1, Sz1, Nn1, Hs1, Gs1⟩ := id V_kk
  refine Go.st (fun _ k => X0.arraylength hx (by rw [e0]; exact Ar1.1) (State.isArrayOf_alike hZ.alike Ar1.2.1) (g := (mkF m 4 #[.val (.ref a0), .val (.int p1), .val (.int (0 : Int32))] [(.ref a0), (.int (0 : Int32))])) rfl rfl (hb hby d2_4) _ k) ?_
  rw [len_of Sz1 Nn1]
  show Go p e below _ (s₁.setTop (mkF m 5 #[.val (.ref a0), .val (.int p1), .val (.int (0 : Int32))] [(.int (6 : Int32)), (.int (0 : Int32))]))
  refine Go.st (fun _ k => XS.icmpNo X0.here hx rfl (hb hby d2_5) rfl (tlt (by decide : ((0 : Int32) < (6 : Int32)))).2.1 k) ?_
  show Go p e below _ (s₁.setTop (mkF m 8 #[.val (.ref a0), .val (.int p1), .val (.int (0 : Int32))] []))
  refine Go.st (fun _ k => XS.aloadN X0.here hx rfl (hb hby d2_8) rfl rfl k) ?_
  show Go p e below _ (s₁.setTop (mkF m 9 #[.val (.ref a0), .val (.int p1), .val (.int (0 : Int32))] [(.ref a0)]))
  refine Go.st (fun _ k => XS.iloadN X0.here hx rfl (hb hby d2_9) rfl k) ?_
  show Go p e below _ (s₁.setTop (mkF m 10 #[.val (.ref a0), .val (.int p1), .val (.int (0 : Int32))] [(.int (0 : Int32)), (.ref a0)]))
  obtain ⟨cl2, Ar2, ck2, Sz2, Nn2, Hs2, Gs2⟩ := id V_kk
  have hin2 : ¬ ((0 : Int32) < 0 ∨ cl2.slots.size ≤ ((0 : Int32)).toNatClampNeg) := inb_of Sz2 ⟨by decide, by decide⟩
  have hat2 : cl2.slots[((0 : Int32)).toNatClampNeg]? = some (.int x0) := Hs2.at hin2 rfl
  refine Go.st (fun _ k => X0.iaload hx (j := (0 : Int32)) (v := (.int x0)) (by rw [e0]; exact Ar2.1) (State.isArrayOf_alike hZ.alike Ar2.2.1) Ar2.2.2 hin2 hat2 (g := (mkF m 10 #[.val (.ref a0), .val (.int p1), .val (.int (0 : Int32))] [(.int (0 : Int32)), (.ref a0)])) rfl rfl (hb hby d2_10) _ k) ?_
  show Go p e below _ (s₁.setTop (mkF m 11 #[.val (.ref a0), .val (.int p1), .val (.int (0 : Int32))] [(.int x0)]))
  refine Go.st (fun _ k => XS.iloadN X0.here hx rfl (hb hby d2_11) rfl k) ?_
  show Go p e below _ (s₁.setTop (mkF m 12 #[.val (.ref a0), .val (.int p1), .val (.int (0 : Int32))] [(.int p1), (.int x0)]))
  by_cases hc3 : p1 < x0
  · show Go p e below _ (s₁.setTop (mkF m 12 #[.val (.ref a0), .val (.int p1), .val (.int (0 : Int32))] [(.int p1), (.int x0)]))
    refine Go.st (fun _ k => XS.icmpYes X0.here hx rfl (pc0 := 12) (pc' := 32) rfl (hb hby d2_12) rfl (tlt hc3).2.2.1 (by decide) (by decide) k) ?_
    show Go p e below _ (s₁.setTop (mkF m 32 #[.val (.ref a0), .val (.int p1), .val (.int (0 : Int32))] []))
    refine Go.st (fun _ k => XS.iconst X0.here hx rfl (hb hby d2_32) k) ?_
    show Go p e below _ (s₁.setTop (mkF m 33 #[.val (.ref a0), .val (.int p1), .val (.int (0 : Int32))] [(.int (0 : Int32))]))
    obtain ⟨fs, hr, hrun, hended, hW, hsame⟩ := X0.leave (v := some (.int (0 : Int32))) (fun h => by rw [Bd.returns] at h; cases h)
    refine ⟨_, _, retN X0 hx (t := .boolean) Bd.returns (by simp) (hb hby d2_33) hr, hrun, hended, _, _, rfl, ?_, ⟨_, rfl⟩, hW, hsame.mono (by decide) (by decide)⟩
    show Q_rmC6 Z a0 p1 kk x0 x1 x2 x3 x4 x5 h0 n0 _ s₁.heap _
    rw [e0]
    refine ⟨?_, N0, rfl⟩
    unfold fC6
    rw [if_pos hc3]
  · show Go p e below _ (s₁.setTop (mkF m 12 #[.val (.ref a0), .val (.int p1), .val (.int (0 : Int32))] [(.int p1), (.int x0)]))
    refine Go.st (fun _ k => XS.icmpNo X0.here hx rfl (hb hby d2_12) rfl (flt hc3).2.2.1 k) ?_
    show Go p e below _ (s₁.setTop (mkF m 15 #[.val (.ref a0), .val (.int p1), .val (.int (0 : Int32))] []))
    refine Go.st (fun _ k => XS.iloadN X0.here hx rfl (hb hby d2_15) rfl k) ?_
    show Go p e below _ (s₁.setTop (mkF m 16 #[.val (.ref a0), .val (.int p1), .val (.int (0 : Int32))] [(.int p1)]))
    refine Go.st (fun _ k => XS.aloadN X0.here hx rfl (hb hby d2_16) rfl rfl k) ?_
    show Go p e below _ (s₁.setTop (mkF m 17 #[.val (.ref a0), .val (.int p1), .val (.int (0 : Int32))] [(.ref a0), (.int p1)]))
    refine Go.st (fun _ k => XS.iloadN X0.here hx rfl (hb hby d2_17) rfl k) ?_
    show Go p e below _ (s₁.setTop (mkF m 18 #[.val (.ref a0), .val (.int p1), .val (.int (0 : Int32))] [(.int (0 : Int32)), (.ref a0), (.int p1)]))
    refine Go.st (fun _ k => XS.iconst X0.here hx rfl (hb hby d2_18) k) ?_
    show Go p e below _ (s₁.setTop (mkF m 19 #[.val (.ref a0), .val (.int p1), .val (.int (0 : Int32))] [(.int (1 : Int32)), (.int (0 : Int32)), (.ref a0), (.int p1)]))
    refine Go.st (fun _ k => XS.iadd X0.here hx rfl (hb hby d2_19) rfl k) ?_
    show Go p e below _ (s₁.setTop (mkF m 20 #[.val (.ref a0), .val (.int p1), .val (.int (0 : Int32))] [(.int (1 : Int32)), (.ref a0), (.int p1)]))
    obtain ⟨cl4, Ar4, ck4, Sz4, Nn4, Hs4, Gs4⟩ := id V_kk
    have hin4 : ¬ ((1 : Int32) < 0 ∨ cl4.slots.size ≤ ((1 : Int32)).toNatClampNeg) := inb_of Sz4 ⟨by decide, by decide⟩
    have hat4 : cl4.slots[((1 : Int32)).toNatClampNeg]? = some (.int x1) := Hs4.at hin4 rfl
    refine Go.st (fun _ k => X0.iaload hx (j := (1 : Int32)) (v := (.int x1)) (by rw [e0]; exact Ar4.1) (State.isArrayOf_alike hZ.alike Ar4.2.1) Ar4.2.2 hin4 hat4 (g := (mkF m 20 #[.val (.ref a0), .val (.int p1), .val (.int (0 : Int32))] [(.int (1 : Int32)), (.ref a0), (.int p1)])) rfl rfl (hb hby d2_20) _ k) ?_
    show Go p e below _ (s₁.setTop (mkF m 21 #[.val (.ref a0), .val (.int p1), .val (.int (0 : Int32))] [(.int x1), (.int p1)]))
    by_cases hc5 : x1 < p1
    · show Go p e below _ (s₁.setTop (mkF m 21 #[.val (.ref a0), .val (.int p1), .val (.int (0 : Int32))] [(.int x1), (.int p1)]))
      refine Go.st (fun _ k => XS.icmpYes X0.here hx rfl (pc0 := 21) (pc' := 26) rfl (hb hby d2_21) rfl (tlt hc5).2.2.1 (by decide) (by decide) k) ?_
      show Go p e below _ (s₁.setTop (mkF m 26 #[.val (.ref a0), .val (.int p1), .val (.int (0 : Int32))] []))
      refine Go.st (fun _ k => XS.iinc X0.here hx rfl (hb hby d2_26) rfl (l' := #[.val (.ref a0), .val (.int p1), .val (.int (2 : Int32))]) rfl k) ?_
      show Go p e below _ (s₁.setTop (mkF m 29 #[.val (.ref a0), .val (.int p1), .val (.int (2 : Int32))] []))
      refine Go.st (fun _ k => XS.goto X0.here hx rfl (pc0 := 29) (pc' := 2) rfl (hb hby d2_29) (by decide) (by decide) k) ?_
      show Go p e below _ (s₁.setTop (mkF m 2 #[.val (.ref a0), .val (.int p1), .val (.int (2 : Int32))] []))
      refine Go.st (fun _ k => XS.iloadN X0.here hx rfl (hb hby d2_2) rfl k) ?_
      show Go p e below _ (s₁.setTop (mkF m 3 #[.val (.ref a0), .val (.int p1), .val (.int (2 : Int32))] [(.int (2 : Int32))]))
      refine Go.st (fun _ k => XS.aloadN X0.here hx rfl (hb hby d2_3) rfl rfl k) ?_
      show Go p e below _ (s₁.setTop (mkF m 4 #[.val (.ref a0), .val (.int p1), .val (.int (2 : Int32))] [(.ref a0), (.int (2 : Int32))]))
      obtain ⟨cl6, Ar6, ck6, Sz6, Nn6, Hs6, Gs6⟩ := id V_kk
      refine Go.st (fun _ k => X0.arraylength hx (by rw [e0]; exact Ar6.1) (State.isArrayOf_alike hZ.alike Ar6.2.1) (g := (mkF m 4 #[.val (.ref a0), .val (.int p1), .val (.int (2 : Int32))] [(.ref a0), (.int (2 : Int32))])) rfl rfl (hb hby d2_4) _ k) ?_
      rw [len_of Sz6 Nn6]
      show Go p e below _ (s₁.setTop (mkF m 5 #[.val (.ref a0), .val (.int p1), .val (.int (2 : Int32))] [(.int (6 : Int32)), (.int (2 : Int32))]))
      refine Go.st (fun _ k => XS.icmpNo X0.here hx rfl (hb hby d2_5) rfl (tlt (by decide : ((2 : Int32) < (6 : Int32)))).2.1 k) ?_
      show Go p e below _ (s₁.setTop (mkF m 8 #[.val (.ref a0), .val (.int p1), .val (.int (2 : Int32))] []))
      refine Go.st (fun _ k => XS.aloadN X0.here hx rfl (hb hby d2_8) rfl rfl k) ?_
      show Go p e below _ (s₁.setTop (mkF m 9 #[.val (.ref a0), .val (.int p1), .val (.int (2 : Int32))] [(.ref a0)]))
      refine Go.st (fun _ k => XS.iloadN X0.here hx rfl (hb hby d2_9) rfl k) ?_
      show Go p e below _ (s₁.setTop (mkF m 10 #[.val (.ref a0), .val (.int p1), .val (.int (2 : Int32))] [(.int (2 : Int32)), (.ref a0)]))
      obtain ⟨cl7, Ar7, ck7, Sz7, Nn7, Hs7, Gs7⟩ := id V_kk
      have hin7 : ¬ ((2 : Int32) < 0 ∨ cl7.slots.size ≤ ((2 : Int32)).toNatClampNeg) := inb_of Sz7 ⟨by decide, by decide⟩
      have hat7 : cl7.slots[((2 : Int32)).toNatClampNeg]? = some (.int x2) := Hs7.at hin7 rfl
      refine Go.st (fun _ k => X0.iaload hx (j := (2 : Int32)) (v := (.int x2)) (by rw [e0]; exact Ar7.1) (State.isArrayOf_alike hZ.alike Ar7.2.1) Ar7.2.2 hin7 hat7 (g := (mkF m 10 #[.val (.ref a0), .val (.int p1), .val (.int (2 : Int32))] [(.int (2 : Int32)), (.ref a0)])) rfl rfl (hb hby d2_10) _ k) ?_
      show Go p e below _ (s₁.setTop (mkF m 11 #[.val (.ref a0), .val (.int p1), .val (.int (2 : Int32))] [(.int x2)]))
      refine Go.st (fun _ k => XS.iloadN X0.here hx rfl (hb hby d2_11) rfl k) ?_
      show Go p e below _ (s₁.setTop (mkF m 12 #[.val (.ref a0), .val (.int p1), .val (.int (2 : Int32))] [(.int p1), (.int x2)]))
      by_cases hc8 : p1 < x2
      · show Go p e below _ (s₁.setTop (mkF m 12 #[.val (.ref a0), .val (.int p1), .val (.int (2 : Int32))] [(.int p1), (.int x2)]))
        refine Go.st (fun _ k => XS.icmpYes X0.here hx rfl (pc0 := 12) (pc' := 32) rfl (hb hby d2_12) rfl (tlt hc8).2.2.1 (by decide) (by decide) k) ?_
        show Go p e below _ (s₁.setTop (mkF m 32 #[.val (.ref a0), .val (.int p1), .val (.int (2 : Int32))] []))
        refine Go.st (fun _ k => XS.iconst X0.here hx rfl (hb hby d2_32) k) ?_
        show Go p e below _ (s₁.setTop (mkF m 33 #[.val (.ref a0), .val (.int p1), .val (.int (2 : Int32))] [(.int (0 : Int32))]))
        obtain ⟨fs, hr, hrun, hended, hW, hsame⟩ := X0.leave (v := some (.int (0 : Int32))) (fun h => by rw [Bd.returns] at h; cases h)
        refine ⟨_, _, retN X0 hx (t := .boolean) Bd.returns (by simp) (hb hby d2_33) hr, hrun, hended, _, _, rfl, ?_, ⟨_, rfl⟩, hW, hsame.mono (by decide) (by decide)⟩
        show Q_rmC6 Z a0 p1 kk x0 x1 x2 x3 x4 x5 h0 n0 _ s₁.heap _
        rw [e0]
        refine ⟨?_, N0, rfl⟩
        unfold fC6
        rw [if_neg hc3, if_pos hc5, if_pos hc8]
      · show Go p e below _ (s₁.setTop (mkF m 12 #[.val (.ref a0), .val (.int p1), .val (.int (2 : Int32))] [(.int p1), (.int x2)]))
        refine Go.st (fun _ k => XS.icmpNo X0.here hx rfl (hb hby d2_12) rfl (flt hc8).2.2.1 k) ?_
        show Go p e below _ (s₁.setTop (mkF m 15 #[.val (.ref a0), .val (.int p1), .val (.int (2 : Int32))] []))
        refine Go.st (fun _ k => XS.iloadN X0.here hx rfl (hb hby d2_15) rfl k) ?_
        show Go p e below _ (s₁.setTop (mkF m 16 #[.val (.ref a0), .val (.int p1), .val (.int (2 : Int32))] [(.int p1)]))
        refine Go.st (fun _ k => XS.aloadN X0.here hx rfl (hb hby d2_16) rfl rfl k) ?_
        show Go p e below _ (s₁.setTop (mkF m 17 #[.val (.ref a0), .val (.int p1), .val (.int (2 : Int32))] [(.ref a0), (.int p1)]))
        refine Go.st (fun _ k => XS.iloadN X0.here hx rfl (hb hby d2_17) rfl k) ?_
        show Go p e below _ (s₁.setTop (mkF m 18 #[.val (.ref a0), .val (.int p1), .val (.int (2 : Int32))] [(.int (2 : Int32)), (.ref a0), (.int p1)]))
        refine Go.st (fun _ k => XS.iconst X0.here hx rfl (hb hby d2_18) k) ?_
        show Go p e below _ (s₁.setTop (mkF m 19 #[.val (.ref a0), .val (.int p1), .val (.int (2 : Int32))] [(.int (1 : Int32)), (.int (2 : Int32)), (.ref a0), (.int p1)]))
        refine Go.st (fun _ k => XS.iadd X0.here hx rfl (hb hby d2_19) rfl k) ?_
        show Go p e below _ (s₁.setTop (mkF m 20 #[.val (.ref a0), .val (.int p1), .val (.int (2 : Int32))] [(.int (3 : Int32)), (.ref a0), (.int p1)]))
        obtain ⟨cl9, Ar9, ck9, Sz9, Nn9, Hs9, Gs9⟩ := id V_kk
        have hin9 : ¬ ((3 : Int32) < 0 ∨ cl9.slots.size ≤ ((3 : Int32)).toNatClampNeg) := inb_of Sz9 ⟨by decide, by decide⟩
        have hat9 : cl9.slots[((3 : Int32)).toNatClampNeg]? = some (.int x3) := Hs9.at hin9 rfl
        refine Go.st (fun _ k => X0.iaload hx (j := (3 : Int32)) (v := (.int x3)) (by rw [e0]; exact Ar9.1) (State.isArrayOf_alike hZ.alike Ar9.2.1) Ar9.2.2 hin9 hat9 (g := (mkF m 20 #[.val (.ref a0), .val (.int p1), .val (.int (2 : Int32))] [(.int (3 : Int32)), (.ref a0), (.int p1)])) rfl rfl (hb hby d2_20) _ k) ?_
        show Go p e below _ (s₁.setTop (mkF m 21 #[.val (.ref a0), .val (.int p1), .val (.int (2 : Int32))] [(.int x3), (.int p1)]))
        by_cases hc10 : x3 < p1
        · show Go p e below _ (s₁.setTop (mkF m 21 #[.val (.ref a0), .val (.int p1), .val (.int (2 : Int32))] [(.int x3), (.int p1)]))
          refine Go.st (fun _ k => XS.icmpYes X0.here hx rfl (pc0 := 21) (pc' := 26) rfl (hb hby d2_21) rfl (tlt hc10).2.2.1 (by decide) (by decide) k) ?_
          show Go p e below _ (s₁.setTop (mkF m 26 #[.val (.ref a0), .val (.int p1), .val (.int (2 : Int32))] []))
          refine Go.st (fun _ k => XS.iinc X0.here hx rfl (hb hby d2_26) rfl (l' := #[.val (.ref a0), .val (.int p1), .val (.int (4 : Int32))]) rfl k) ?_
          show Go p e below _ (s₁.setTop (mkF m 29 #[.val (.ref a0), .val (.int p1), .val (.int (4 : Int32))] []))
          refine Go.st (fun _ k => XS.goto X0.here hx rfl (pc0 := 29) (pc' := 2) rfl (hb hby d2_29) (by decide) (by decide) k) ?_
          show Go p e below _ (s₁.setTop (mkF m 2 #[.val (.ref a0), .val (.int p1), .val (.int (4 : Int32))] []))
          refine Go.st (fun _ k => XS.iloadN X0.here hx rfl (hb hby d2_2) rfl k) ?_
          show Go p e below _ (s₁.setTop (mkF m 3 #[.val (.ref a0), .val (.int p1), .val (.int (4 : Int32))] [(.int (4 : Int32))]))
          refine Go.st (fun _ k => XS.aloadN X0.here hx rfl (hb hby d2_3) rfl rfl k) ?_
          show Go p e below _ (s₁.setTop (mkF m 4 #[.val (.ref a0), .val (.int p1), .val (.int (4 : Int32))] [(.ref a0), (.int (4 : Int32))]))
          obtain ⟨cl11, Ar11, ck11, Sz11, Nn11, Hs11, Gs11⟩ := id V_kk
          refine Go.st (fun _ k => X0.arraylength hx (by rw [e0]; exact Ar11.1) (State.isArrayOf_alike hZ.alike Ar11.2.1) (g := (mkF m 4 #[.val (.ref a0), .val (.int p1), .val (.int (4 : Int32))] [(.ref a0), (.int (4 : Int32))])) rfl rfl (hb hby d2_4) _ k) ?_
          rw [len_of Sz11 Nn11]
          show Go p e below _ (s₁.setTop (mkF m 5 #[.val (.ref a0), .val (.int p1), .val (.int (4 : Int32))] [(.int (6 : Int32)), (.int (4 : Int32))]))
          refine Go.st (fun _ k => XS.icmpNo X0.here hx rfl (hb hby d2_5) rfl (tlt (by decide : ((4 : Int32) < (6 : Int32)))).2.1 k) ?_
          show Go p e below _ (s₁.setTop (mkF m 8 #[.val (.ref a0), .val (.int p1), .val (.int (4 : Int32))] []))
          refine Go.st (fun _ k => XS.aloadN X0.here hx rfl (hb hby d2_8) rfl rfl k) ?_
          show Go p e below _ (s₁.setTop (mkF m 9 #[.val (.ref a0), .val (.int p1), .val (.int (4 : Int32))] [(.ref a0)]))
          refine Go.st (fun _ k => XS.iloadN X0.here hx rfl (hb hby d2_9) rfl k) ?_
          show Go p e below _ (s₁.setTop (mkF m 10 #[.val (.ref a0), .val (.int p1), .val (.int (4 : Int32))] [(.int (4 : Int32)), (.ref a0)]))
          obtain ⟨cl12, Ar12, ck12, Sz12, Nn12, Hs12, Gs12⟩ := id V_kk
          have hin12 : ¬ ((4 : Int32) < 0 ∨ cl12.slots.size ≤ ((4 : Int32)).toNatClampNeg) := inb_of Sz12 ⟨by decide, by decide⟩
          have hat12 : cl12.slots[((4 : Int32)).toNatClampNeg]? = some (.int x4) := Hs12.at hin12 rfl
          refine Go.st (fun _ k => X0.iaload hx (j := (4 : Int32)) (v := (.int x4)) (by rw [e0]; exact Ar12.1) (State.isArrayOf_alike hZ.alike Ar12.2.1) Ar12.2.2 hin12 hat12 (g := (mkF m 10 #[.val (.ref a0), .val (.int p1), .val (.int (4 : Int32))] [(.int (4 : Int32)), (.ref a0)])) rfl rfl (hb hby d2_10) _ k) ?_
          show Go p e below _ (s₁.setTop (mkF m 11 #[.val (.ref a0), .val (.int p1), .val (.int (4 : Int32))] [(.int x4)]))
          refine Go.st (fun _ k => XS.iloadN X0.here hx rfl (hb hby d2_11) rfl k) ?_
          show Go p e below _ (s₁.setTop (mkF m 12 #[.val (.ref a0), .val (.int p1), .val (.int (4 : Int32))] [(.int p1), (.int x4)]))
          by_cases hc13 : p1 < x4
          · show Go p e below _ (s₁.setTop (mkF m 12 #[.val (.ref a0), .val (.int p1), .val (.int (4 : Int32))] [(.int p1), (.int x4)]))
            refine Go.st (fun _ k => XS.icmpYes X0.here hx rfl (pc0 := 12) (pc' := 32) rfl (hb hby d2_12) rfl (tlt hc13).2.2.1 (by decide) (by decide) k) ?_
            show Go p e below _ (s₁.setTop (mkF m 32 #[.val (.ref a0), .val (.int p1), .val (.int (4 : Int32))] []))
            refine Go.st (fun _ k => XS.iconst X0.here hx rfl (hb hby d2_32) k) ?_
            show Go p e below _ (s₁.setTop (mkF m 33 #[.val (.ref a0), .val (.int p1), .val (.int (4 : Int32))] [(.int (0 : Int32))]))
            obtain ⟨fs, hr, hrun, hended, hW, hsame⟩ := X0.leave (v := some (.int (0 : Int32))) (fun h => by rw [Bd.returns] at h; cases h)
            refine ⟨_, _, retN X0 hx (t := .boolean) Bd.returns (by simp) (hb hby d2_33) hr, hrun, hended, _, _, rfl, ?_, ⟨_, rfl⟩, hW, hsame.mono (by decide) (by decide)⟩
            show Q_rmC6 Z a0 p1 kk x0 x1 x2 x3 x4 x5 h0 n0 _ s₁.heap _
            rw [e0]
            refine ⟨?_, N0, rfl⟩
            unfold fC6
            rw [if_neg hc3, if_pos hc5, if_neg hc8, if_pos hc10, if_pos hc13]
          · show Go p e below _ (s₁.setTop (mkF m 12 #[.val (.ref a0), .val (.int p1), .val (.int (4 : Int32))] [(.int p1), (.int x4)]))
            refine Go.st (fun _ k => XS.icmpNo X0.here hx rfl (hb hby d2_12) rfl (flt hc13).2.2.1 k) ?_
            show Go p e below _ (s₁.setTop (mkF m 15 #[.val (.ref a0), .val (.int p1), .val (.int (4 : Int32))] []))
            refine Go.st (fun _ k => XS.iloadN X0.here hx rfl (hb hby d2_15) rfl k) ?_
            show Go p e below _ (s₁.setTop (mkF m 16 #[.val (.ref a0), .val (.int p1), .val (.int (4 : Int32))] [(.int p1)]))
            refine Go.st (fun _ k => XS.aloadN X0.here hx rfl (hb hby d2_16) rfl rfl k) ?_
            show Go p e below _ (s₁.setTop (mkF m 17 #[.val (.ref a0), .val (.int p1), .val (.int (4 : Int32))] [(.ref a0), (.int p1)]))
            refine Go.st (fun _ k => XS.iloadN X0.here hx rfl (hb hby d2_17) rfl k) ?_
            show Go p e below _ (s₁.setTop (mkF m 18 #[.val (.ref a0), .val (.int p1), .val (.int (4 : Int32))] [(.int (4 : Int32)), (.ref a0), (.int p1)]))
            refine Go.st (fun _ k => XS.iconst X0.here hx rfl (hb hby d2_18) k) ?_
            show Go p e below _ (s₁.setTop (mkF m 19 #[.val (.ref a0), .val (.int p1), .val (.int (4 : Int32))] [(.int (1 : Int32)), (.int (4 : Int32)), (.ref a0), (.int p1)]))
            refine Go.st (fun _ k => XS.iadd X0.here hx rfl (hb hby d2_19) rfl k) ?_
            show Go p e below _ (s₁.setTop (mkF m 20 #[.val (.ref a0), .val (.int p1), .val (.int (4 : Int32))] [(.int (5 : Int32)), (.ref a0), (.int p1)]))
            obtain ⟨cl14, Ar14, ck14, Sz14, Nn14, Hs14, Gs14⟩ := id V_kk
            have hin14 : ¬ ((5 : Int32) < 0 ∨ cl14.slots.size ≤ ((5 : Int32)).toNatClampNeg) := inb_of Sz14 ⟨by decide, by decide⟩
            have hat14 : cl14.slots[((5 : Int32)).toNatClampNeg]? = some (.int x5) := Hs14.at hin14 rfl
            refine Go.st (fun _ k => X0.iaload hx (j := (5 : Int32)) (v := (.int x5)) (by rw [e0]; exact Ar14.1) (State.isArrayOf_alike hZ.alike Ar14.2.1) Ar14.2.2 hin14 hat14 (g := (mkF m 20 #[.val (.ref a0), .val (.int p1), .val (.int (4 : Int32))] [(.int (5 : Int32)), (.ref a0), (.int p1)])) rfl rfl (hb hby d2_20) _ k) ?_
            show Go p e below _ (s₁.setTop (mkF m 21 #[.val (.ref a0), .val (.int p1), .val (.int (4 : Int32))] [(.int x5), (.int p1)]))
            by_cases hc15 : x5 < p1
            · show Go p e below _ (s₁.setTop (mkF m 21 #[.val (.ref a0), .val (.int p1), .val (.int (4 : Int32))] [(.int x5), (.int p1)]))
              refine Go.st (fun _ k => XS.icmpYes X0.here hx rfl (pc0 := 21) (pc' := 26) rfl (hb hby d2_21) rfl (tlt hc15).2.2.1 (by decide) (by decide) k) ?_
              show Go p e below _ (s₁.setTop (mkF m 26 #[.val (.ref a0), .val (.int p1), .val (.int (4 : Int32))] []))
              refine Go.st (fun _ k => XS.iinc X0.here hx rfl (hb hby d2_26) rfl (l' := #[.val (.ref a0), .val (.int p1), .val (.int (6 : Int32))]) rfl k) ?_
              show Go p e below _ (s₁.setTop (mkF m 29 #[.val (.ref a0), .val (.int p1), .val (.int (6 : Int32))] []))
              refine Go.st (fun _ k => XS.goto X0.here hx rfl (pc0 := 29) (pc' := 2) rfl (hb hby d2_29) (by decide) (by decide) k) ?_
              show Go p e below _ (s₁.setTop (mkF m 2 #[.val (.ref a0), .val (.int p1), .val (.int (6 : Int32))] []))
              refine Go.st (fun _ k => XS.iloadN X0.here hx rfl (hb hby d2_2) rfl k) ?_
              show Go p e below _ (s₁.setTop (mkF m 3 #[.val (.ref a0), .val (.int p1), .val (.int (6 : Int32))] [(.int (6 : Int32))]))
              refine Go.st (fun _ k => XS.aloadN X0.here hx rfl (hb hby d2_3) rfl rfl k) ?_
              show Go p e below _ (s₁.setTop (mkF m 4 #[.val (.ref a0), .val (.int p1), .val (.int (6 : Int32))] [(.ref a0), (.int (6 : Int32))]))
              obtain ⟨cl16, Ar16, ck16, Sz16, Nn16, Hs16, Gs16⟩ := id V_kk
              refine Go.st (fun _ k => X0.arraylength hx (by rw [e0]; exact Ar16.1) (State.isArrayOf_alike hZ.alike Ar16.2.1) (g := (mkF m 4 #[.val (.ref a0), .val (.int p1), .val (.int (6 : Int32))] [(.ref a0), (.int (6 : Int32))])) rfl rfl (hb hby d2_4) _ k) ?_
              rw [len_of Sz16 Nn16]
              show Go p e below _ (s₁.setTop (mkF m 5 #[.val (.ref a0), .val (.int p1), .val (.int (6 : Int32))] [(.int (6 : Int32)), (.int (6 : Int32))]))
              refine Go.st (fun _ k => XS.icmpYes X0.here hx rfl (pc0 := 5) (pc' := 32) rfl (hb hby d2_5) rfl (flt (by decide : ¬ ((6 : Int32) < (6 : Int32)))).2.1 (by decide) (by decide) k) ?_
              show Go p e below _ (s₁.setTop (mkF m 32 #[.val (.ref a0), .val (.int p1), .val (.int (6 : Int32))] []))
              refine Go.st (fun _ k => XS.iconst X0.here hx rfl (hb hby d2_32) k) ?_
              show Go p e below _ (s₁.setTop (mkF m 33 #[.val (.ref a0), .val (.int p1), .val (.int (6 : Int32))] [(.int (0 : Int32))]))
              obtain ⟨fs, hr, hrun, hended, hW, hsame⟩ := X0.leave (v := some (.int (0 : Int32))) (fun h => by rw [Bd.returns] at h; cases h)
              refine ⟨_, _, retN X0 hx (t := .boolean) Bd.returns (by simp) (hb hby d2_33) hr, hrun, hended, _, _, rfl, ?_, ⟨_, rfl⟩, hW, hsame.mono (by decide) (by decide)⟩
              show Q_rmC6 Z a0 p1 kk x0 x1 x2 x3 x4 x5 h0 n0 _ s₁.heap _
              rw [e0]
              refine ⟨?_, N0, rfl⟩
              unfold fC6
              rw [if_neg hc3, if_pos hc5, if_neg hc8, if_pos hc10, if_neg hc13, if_pos hc15]
            · show Go p e below _ (s₁.setTop (mkF m 21 #[.val (.ref a0), .val (.int p1), .val (.int (4 : Int32))] [(.int x5), (.int p1)]))
              refine Go.st (fun _ k => XS.icmpNo X0.here hx rfl (hb hby d2_21) rfl (flt hc15).2.2.1 k) ?_
              show Go p e below _ (s₁.setTop (mkF m 24 #[.val (.ref a0), .val (.int p1), .val (.int (4 : Int32))] []))
              refine Go.st (fun _ k => XS.iconst X0.here hx rfl (hb hby d2_24) k) ?_
              show Go p e below _ (s₁.setTop (mkF m 25 #[.val (.ref a0), .val (.int p1), .val (.int (4 : Int32))] [(.int (1 : Int32))]))
              obtain ⟨fs, hr, hrun, hended, hW, hsame⟩ := X0.leave (v := some (.int (1 : Int32))) (fun h => by rw [Bd.returns] at h; cases h)
              refine ⟨_, _, retN X0 hx (t := .boolean) Bd.returns (by simp) (hb hby d2_25) hr, hrun, hended, _, _, rfl, ?_, ⟨_, rfl⟩, hW, hsame.mono (by decide) (by decide)⟩
              show Q_rmC6 Z a0 p1 kk x0 x1 x2 x3 x4 x5 h0 n0 _ s₁.heap _
              rw [e0]
              refine ⟨?_, N0, rfl⟩
              unfold fC6
              rw [if_neg hc3, if_pos hc5, if_neg hc8, if_pos hc10, if_neg hc13, if_neg hc15]
        · show Go p e below _ (s₁.setTop (mkF m 21 #[.val (.ref a0), .val (.int p1), .val (.int (2 : Int32))] [(.int x3), (.int p1)]))
          refine Go.st (fun _ k => XS.icmpNo X0.here hx rfl (hb hby d2_21) rfl (flt hc10).2.2.1 k) ?_
          show Go p e below _ (s₁.setTop (mkF m 24 #[.val (.ref a0), .val (.int p1), .val (.int (2 : Int32))] []))
          refine Go.st (fun _ k => XS.iconst X0.here hx rfl (hb hby d2_24) k) ?_
          show Go p e below _ (s₁.setTop (mkF m 25 #[.val (.ref a0), .val (.int p1), .val (.int (2 : Int32))] [(.int (1 : Int32))]))
          obtain ⟨fs, hr, hrun, hended, hW, hsame⟩ := X0.leave (v := some (.int (1 : Int32))) (fun h => by rw [Bd.returns] at h; cases h)
          refine ⟨_, _, retN X0 hx (t := .boolean) Bd.returns (by simp) (hb hby d2_25) hr, hrun, hended, _, _, rfl, ?_, ⟨_, rfl⟩, hW, hsame.mono (by decide) (by decide)⟩
          show Q_rmC6 Z a0 p1 kk x0 x1 x2 x3 x4 x5 h0 n0 _ s₁.heap _
          rw [e0]
          refine ⟨?_, N0, rfl⟩
          unfold fC6
          rw [if_neg hc3, if_pos hc5, if_neg hc8, if_neg hc10]
    · show Go p e below _ (s₁.setTop (mkF m 21 #[.val (.ref a0), .val (.int p1), .val (.int (0 : Int32))] [(.int x1), (.int p1)]))
      refine Go.st (fun _ k => XS.icmpNo X0.here hx rfl (hb hby d2_21) rfl (flt hc5).2.2.1 k) ?_
      show Go p e below _ (s₁.setTop (mkF m 24 #[.val (.ref a0), .val (.int p1), .val (.int (0 : Int32))] []))
      refine Go.st (fun _ k => XS.iconst X0.here hx rfl (hb hby d2_24) k) ?_
      show Go p e below _ (s₁.setTop (mkF m 25 #[.val (.ref a0), .val (.int p1), .val (.int (0 : Int32))] [(.int (1 : Int32))]))
      obtain ⟨fs, hr, hrun, hended, hW, hsame⟩ := X0.leave (v := some (.int (1 : Int32))) (fun h => by rw [Bd.returns] at h; cases h)
      refine ⟨_, _, retN X0 hx (t := .boolean) Bd.returns (by simp) (hb hby d2_25) hr, hrun, hended, _, _, rfl, ?_, ⟨_, rfl⟩, hW, hsame.mono (by decide) (by decide)⟩
      show Q_rmC6 Z a0 p1 kk x0 x1 x2 x3 x4 x5 h0 n0 _ s₁.heap _
      rw [e0]
      refine ⟨?_, N0, rfl⟩
      unfold fC6
      rw [if_neg hc3, if_neg hc5]
theorem own_and3 {k v : Int32} (h : (k &&& (3 : Int32)) = v) : v = 0 ∨ v = 1 ∨ v = 2 ∨ v = 3 := by
  have e := Jvm.Kit.i32_mask k 3 (k := 2) (by decide) (by decide)
  rw [h] at e
  have e0 : (0 : Int32).toInt = 0 := by decide
  have e1 : (1 : Int32).toInt = 1 := by decide
  have e2 : (2 : Int32).toInt = 2 := by decide
  have e3 : (3 : Int32).toInt = 3 := by decide
  have : v.toInt = 0 ∨ v.toInt = 1 ∨ v.toInt = 2 ∨ v.toInt = 3 := by omega
  rcases this with h | h | h | h
  · exact Or.inl (Int32.toInt_inj.mp (by rw [h, e0]))
  · exact Or.inr (Or.inl (Int32.toInt_inj.mp (by rw [h, e1])))
  · exact Or.inr (Or.inr (Or.inl (Int32.toInt_inj.mp (by rw [h, e2]))))
  · exact Or.inr (Or.inr (Or.inr (Int32.toInt_inj.mp (by rw [h, e3]))))
theorem own_plus {x m y : Int32} (h : x + (m &&& (3 : Int32)) = y) (hx : x.toInt ≤ 2147483644) : x.toInt ≤ y.toInt ∧ y.toInt ≤ x.toInt + 3 := by
  have e := Jvm.Kit.i32_mask m 3 (k := 2) (by decide) (by decide)
  have := x.le_toInt
  have e2 : (x + (m &&& (3 : Int32))).toInt = x.toInt + (m &&& (3 : Int32)).toInt := Jvm.Kit.i32_add (by omega) (by omega)
  rw [h] at e2
  omega
theorem own_plus2 {x m y : Int32} (h : (x + (2 : Int32)) + (m &&& (3 : Int32)) = y) (hx : x.toInt ≤ 2147483642) : x.toInt + 2 ≤ y.toInt ∧ y.toInt ≤ x.toInt + 5 := by
  have := x.le_toInt
  have c2 : (2 : Int32).toInt = 2 := by decide
  have e2 : (x + (2 : Int32)).toInt = x.toInt + (2 : Int32).toInt := Jvm.Kit.i32_add (by omega) (by omega)
  have := own_plus h (by omega)
  omega
theorem own_ord {p0 m1 m2 m3 m4 m5 b e0 f1 e1 f2 e2 : Int32} (hb : fMin p0 (2147483628 : Int32) = b) (h0 : b + (m1 &&& (3 : Int32)) = e0) (h1 : (e0 + (2 : Int32)) + (m2 &&& (3 : Int32)) = f1) (h2 : f1 + (m3 &&& (3 : Int32)) = e1) (h3 : (e1 + (2 : Int32)) + (m4 &&& (3 : Int32)) = f2) (h4 : f2 + (m5 &&& (3 : Int32)) = e2) :
    b.toInt ≤ e0.toInt ∧ e0.toInt < f1.toInt ∧ f1.toInt ≤ e1.toInt ∧ e1.toInt < f2.toInt ∧ f2.toInt ≤ e2.toInt := by
  have c : (2147483628 : Int32).toInt = 2147483628 := by decide
  have hle : b.toInt ≤ 2147483628 := by
    subst hb
    unfold fMin
    simp only [Int32.lt_iff_toInt_lt]
    split <;> omega
  have a0 := own_plus h0 (by omega)
  have a1 := own_plus2 h1 (by omega)
  have a2 := own_plus h2 (by omega)
  have a3 := own_plus2 h3 (by omega)
  have a4 := own_plus h4 (by omega)
  omega

theorem pn_0 : plainName "com/example/weir/weir/route/ValueRegionsContainsPinLaw" = true := by first | (simp [plainName, overriddenIn]; done) | decide +kernel
theorem pdc7ffd0b0 : parseMethodDescriptor "(II)I" = some ⟨[.int, .int], some .int⟩ := by decide +kernel
theorem pd93e6ecdc : parseMethodDescriptor "([II)Z" = some ⟨[(.array .int), .int], some .boolean⟩ := by decide +kernel
theorem ef_rm0 (m : MethodId) (p0 : Int32) (p1 : Int32) (p2 : Int32) (p3 : Int32) : entryFrame m #[(.int p0), (.int p1), (.int p2), (.int p3)] maxLocals = mkF m 0 #[.val (.int p0), .val (.int p1), .val (.int p2), .val (.int p3), .unset, .unset, .unset, .unset, .unset, .unset, .unset, .unset, .unset, .unset, .unset, .unset, .unset, .unset] [] := by first | (simp [entryFrame, mkF, argsToLocals, Value.category, maxLocals]; done) | rfl
def Q_rm0 (Z : State) (p0 : Int32) (p1 : Int32) (p2 : Int32) (p3 : Int32) (h0 : Heap) (n0 : Nat) (v : Option Value) (h : Heap) (L : List Loc) : Prop := v = some (.int 1) ∧ Fr n0 L
abbrev F_rm0 (Z : State) (p0 : Int32) (p1 : Int32) (p2 : Int32) (p3 : Int32) (h0 : Heap) (n0 : Nat) (s : State) (o : Outcome) (U : State) : Prop := ∃ v L, o = .returned v ∧ Q_rm0 Z p0 p1 p2 p3 h0 n0 v U.heap L ∧ FrameEnd s o U L room_1.cells room_1.slots
set_option maxRecDepth 65536 in
set_option maxHeartbeats 40000000 in
theorem rm0 (l : Launch) (Z : State) (aZ : Array Value) (hw : ∀ d ∈ tables_1, d.before aZ Z = true) (ws : List Jvm.Cond) (p0 : Int32) (p1 : Int32) (p2 : Int32) (p3 : Int32) (h0 : Heap) (n0 : Nat) (Z0 : n0 ≤ h0.size) :
    MetFree l x (head1 (Jvm.Cond.code x code maxLocals ret :: ws) room_1) (fun a U => a = #[(.int p0), (.int p1), (.int p2), (.int p3)] ∧ Z.Warmed39 U.vm ∧ U.heap = h0) (fun _ _ _ _ _ => True) (fun _ U o U' => ∃ v L, o = .returned v ∧ Q_rm0 Z p0 p1 p2 p3 h0 n0 v U'.heap L ∧ FrameEnd U o U' L room_1.cells room_1.slots) := by
  refine MetFree.of_bodySF (plainFor_of_name pn_0) hisR ?_
  intro p e s m args below meth c s₁ Bd hml0 hP hK
  obtain ⟨rfl, hZ, hh⟩ := hP
  have hx := Bd.exec
  have hby := Bd.bytes
  have hml : c.maxLocals = 18 := hml0
  have hown : s.vm.findClass "com/example/weir/weir/route/ValueRegionsContainsPinLaw" = some m.cls := findClass_of_methodNamed Bd.named
  have hnm := (name_of_methodNamed Bd.named Bd.method).1
  have X0 : Stand p l e room_1 s m #[(.int p0), (.int p1), (.int p2), (.int p3)] below meth c s₁ [] 0 0 := Stand.of_body Bd
  have e0 : s₁.heap = h0 := by rw [← hh, Bd.state]; rfl
  have N0 := Fr.nil n0
  refine Go.st (fun _ k => castTop (ef_rm0 m p0 p1 p2 p3) k) ?_
  show Go p e below _ (s₁.setTop (mkF m 0 #[.val (.int p0), .val (.int p1), .val (.int p2), .val (.int p3), .unset, .unset, .unset, .unset, .unset, .unset, .unset, .unset, .unset, .unset, .unset, .unset, .unset, .unset] []))
  refine Go.st (fun _ k => XS.iloadN X0.here hx rfl (hb hby at_0) rfl k) ?_
  show Go p e below _ (s₁.setTop (mkF m 1 #[.val (.int p0), .val (.int p1), .val (.int p2), .val (.int p3), .unset, .unset, .unset, .unset, .unset, .unset, .unset, .unset, .unset, .unset, .unset, .unset, .unset, .unset] [(.int p1)]))
  refine Go.st (fun _ k => XS.iconst X0.here hx rfl (hb hby at_1) k) ?_
  show Go p e below _ (s₁.setTop (mkF m 2 #[.val (.int p0), .val (.int p1), .val (.int p2), .val (.int p3), .unset, .unset, .unset, .unset, .unset, .unset, .unset, .unset, .unset, .unset, .unset, .unset, .unset, .unset] [(.int (3 : Int32)), (.int p1)]))
  refine Go.st (fun _ k => XS.iand X0.here hx rfl (hb hby at_2) rfl k) ?_
  show Go p e below _ (s₁.setTop (mkF m 3 #[.val (.int p0), .val (.int p1), .val (.int p2), .val (.int p3), .unset, .unset, .unset, .unset, .unset, .unset, .unset, .unset, .unset, .unset, .unset, .unset, .unset, .unset] [(.int (p1 &&& (3 : Int32)))]))
  generalize hv1 : (p1 &&& (3 : Int32)) = v1
  refine Go.st (fun _ k => XS.istore X0.here hx rfl (hb hby at_3) rfl (l' := #[.val (.int p0), .val (.int p1), .val (.int p2), .val (.int p3), .val (.int v1), .unset, .unset, .unset, .unset, .unset, .unset, .unset, .unset, .unset, .unset, .unset, .unset, .unset]) rfl k) ?_
  show Go p e below _ (s₁.setTop (mkF m 5 #[.val (.int p0), .val (.int p1), .val (.int p2), .val (.int p3), .val (.int v1), .unset, .unset, .unset, .unset, .unset, .unset, .unset, .unset, .unset, .unset, .unset, .unset, .unset] []))
  refine Go.st (fun _ k => XS.iloadN X0.here hx rfl (hb hby at_5) rfl k) ?_
  show Go p e below _ (s₁.setTop (mkF m 6 #[.val (.int p0), .val (.int p1), .val (.int p2), .val (.int p3), .val (.int v1), .unset, .unset, .unset, .unset, .unset, .unset, .unset, .unset, .unset, .unset, .unset, .unset, .unset] [(.int p0)]))
  refine Go.st (fun _ k => X0.ldcInt hx hown (mvT hZ (hw _ (List.mem_of_getElem? (i := 0) rfl))) (g := (mkF m 6 #[.val (.int p0), .val (.int p1), .val (.int p2), .val (.int p3), .val (.int v1), .unset, .unset, .unset, .unset, .unset, .unset, .unset, .unset, .unset, .unset, .unset, .unset, .unset] [(.int p0)])) rfl (hb hby at_6) _ k) ?_
  show Go p e below _ (s₁.setTop (mkF m 8 #[.val (.int p0), .val (.int p1), .val (.int p2), .val (.int p3), .val (.int v1), .unset, .unset, .unset, .unset, .unset, .unset, .unset, .unset, .unset, .unset, .unset, .unset, .unset] [(.int (2147483628 : Int32)), (.int p0)]))
  obtain ⟨_, _, ⟨T2, L2, k2, n2⟩, -, X2, ⟨Lc2, hQ2, l2, y2, z2⟩, st2⟩ := Jvm.LawKit.callS X0 hx (y := (⟨"java/lang/Math", "min", "(II)I"⟩ : MethodName)) hown (mvT hZ (hw _ (List.mem_of_getElem? (i := 1) rfl))) (mvT hZ (hw _ (List.mem_of_getElem? (i := 2) rfl))) (mvT hZ (hw _ (List.mem_of_getElem? (i := 3) rfl))) (mvT hZ (hw _ (List.mem_of_getElem? (i := 4) rfl))) (by decide) (backOf (W := 0) (rm1 l Z aZ hw [] p0 (2147483628 : Int32) h0 n0 ) hZ (hw _ (List.mem_of_getElem? (i := 4) rfl)) (hw _ (List.mem_of_getElem? (i := 3) rfl)) (by decide) (by decide)) (g := (mkF m 8 #[.val (.int p0), .val (.int p1), .val (.int p2), .val (.int p3), .val (.int v1), .unset, .unset, .unset, .unset, .unset, .unset, .unset, .unset, .unset, .unset, .unset, .unset, .unset] [(.int (2147483628 : Int32)), (.int p0)])) rfl (by rw [hml]; rfl) (argsL := [(.int p0), (.int (2147483628 : Int32))]) (rest := []) (lenOf pdc7ffd0b0 rfl) rfl (by show 2 * 0 + _ ≤ _; exact Nat.le_of_eq rfl) (hb hby at_8) (fun _ _ => ⟨rfl, e0, (by decide : 0 + 0 ≤ _), (by decide : 0 + 0 ≤ _)⟩)
  dsimp only [Pt.U, Pt.locs, Pt.cells, Pt.slots] at X2 l2 y2 z2 st2 hQ2
  subst l2 y2 z2
  obtain ⟨rfl, N2q, e2⟩ := hQ2
  have N2 := Fr.app N0 N2q
  refine Go.st (fun _ k => st2 _ k) ?_
  show Go p e below _ (T2.setTop (mkF m 11 #[.val (.int p0), .val (.int p1), .val (.int p2), .val (.int p3), .val (.int v1), .unset, .unset, .unset, .unset, .unset, .unset, .unset, .unset, .unset, .unset, .unset, .unset, .unset] [(.int (fMin p0 (2147483628 : Int32)))]))
  generalize hv3 : (fMin p0 (2147483628 : Int32)) = v3
  refine Go.st (fun _ k => XS.istore X2.here hx rfl (hb hby at_11) rfl (l' := #[.val (.int p0), .val (.int p1), .val (.int p2), .val (.int p3), .val (.int v1), .val (.int v3), .unset, .unset, .unset, .unset, .unset, .unset, .unset, .unset, .unset, .unset, .unset, .unset]) rfl k) ?_
  show Go p e below _ (T2.setTop (mkF m 13 #[.val (.int p0), .val (.int p1), .val (.int p2), .val (.int p3), .val (.int v1), .val (.int v3), .unset, .unset, .unset, .unset, .unset, .unset, .unset, .unset, .unset, .unset, .unset, .unset] []))
  refine Go.st (fun _ k => XS.iload X2.here hx rfl (hb hby at_13) rfl k) ?_
  show Go p e below _ (T2.setTop (mkF m 15 #[.val (.int p0), .val (.int p1), .val (.int p2), .val (.int p3), .val (.int v1), .val (.int v3), .unset, .unset, .unset, .unset, .unset, .unset, .unset, .unset, .unset, .unset, .unset, .unset] [(.int v3)]))
  refine Go.st (fun _ k => XS.istore X2.here hx rfl (hb hby at_15) rfl (l' := #[.val (.int p0), .val (.int p1), .val (.int p2), .val (.int p3), .val (.int v1), .val (.int v3), .val (.int v3), .unset, .unset, .unset, .unset, .unset, .unset, .unset, .unset, .unset, .unset, .unset]) rfl k) ?_
  show Go p e below _ (T2.setTop (mkF m 17 #[.val (.int p0), .val (.int p1), .val (.int p2), .val (.int p3), .val (.int v1), .val (.int v3), .val (.int v3), .unset, .unset, .unset, .unset, .unset, .unset, .unset, .unset, .unset, .unset, .unset] []))
  refine Go.st (fun _ k => XS.iload X2.here hx rfl (hb hby at_17) rfl k) ?_
  show Go p e below _ (T2.setTop (mkF m 19 #[.val (.int p0), .val (.int p1), .val (.int p2), .val (.int p3), .val (.int v1), .val (.int v3), .val (.int v3), .unset, .unset, .unset, .unset, .unset, .unset, .unset, .unset, .unset, .unset, .unset] [(.int v3)]))
  refine Go.st (fun _ k => XS.iloadN X2.here hx rfl (hb hby at_19) rfl k) ?_
  show Go p e below _ (T2.setTop (mkF m 20 #[.val (.int p0), .val (.int p1), .val (.int p2), .val (.int p3), .val (.int v1), .val (.int v3), .val (.int v3), .unset, .unset, .unset, .unset, .unset, .unset, .unset, .unset, .unset, .unset, .unset] [(.int p1), (.int v3)]))
  refine Go.st (fun _ k => XS.iconst X2.here hx rfl (hb hby at_20) k) ?_
  show Go p e below _ (T2.setTop (mkF m 21 #[.val (.int p0), .val (.int p1), .val (.int p2), .val (.int p3), .val (.int v1), .val (.int v3), .val (.int v3), .unset, .unset, .unset, .unset, .unset, .unset, .unset, .unset, .unset, .unset, .unset] [(.int (2 : Int32)), (.int p1), (.int v3)]))
  refine Go.st (fun _ k => XS.iushr X2.here hx rfl (hb hby at_21) rfl k) ?_
  show Go p e below _ (T2.setTop (mkF m 22 #[.val (.int p0), .val (.int p1), .val (.int p2), .val (.int p3), .val (.int v1), .val (.int v3), .val (.int v3), .unset, .unset, .unset, .unset, .unset, .unset, .unset, .unset, .unset, .unset, .unset] [(.int ((p1.toUInt32 >>> ((2 : Int32) &&& 31).toUInt32).toInt32)), (.int v3)]))
  refine Go.st (fun _ k => XS.iconst X2.here hx rfl (hb hby at_22) k) ?_
  show Go p e below _ (T2.setTop (mkF m 23 #[.val (.int p0), .val (.int p1), .val (.int p2), .val (.int p3), .val (.int v1), .val (.int v3), .val (.int v3), .unset, .unset, .unset, .unset, .unset, .unset, .unset, .unset, .unset, .unset, .unset] [(.int (3 : Int32)), (.int ((p1.toUInt32 >>> ((2 : Int32) &&& 31).toUInt32).toInt32)), (.int v3)]))
  refine Go.st (fun _ k => XS.iand X2.here hx rfl (hb hby at_23) rfl k) ?_
  show Go p e below _ (T2.setTop (mkF m 24 #[.val (.int p0), .val (.int p1), .val (.int p2), .val (.int p3), .val (.int v1), .val (.int v3), .val (.int v3), .unset, .unset, .unset, .unset, .unset, .unset, .unset, .unset, .unset, .unset, .unset] [(.int (((p1.toUInt32 >>> ((2 : Int32) &&& 31).toUInt32).toInt32) &&& (3 : Int32))), (.int v3)]))
  refine Go.st (fun _ k => XS.iadd X2.here hx rfl (hb hby at_24) rfl k) ?_
  show Go p e below _ (T2.setTop (mkF m 25 #[.val (.int p0), .val (.int p1), .val (.int p2), .val (.int p3), .val (.int v1), .val (.int v3), .val (.int v3), .unset, .unset, .unset, .unset, .unset, .unset, .unset, .unset, .unset, .unset, .unset] [(.int (v3 + (((p1.toUInt32 >>> ((2 : Int32) &&& 31).toUInt32).toInt32) &&& (3 : Int32))))]))
  generalize hv4 : (v3 + (((p1.toUInt32 >>> ((2 : Int32) &&& 31).toUInt32).toInt32) &&& (3 : Int32))) = v4
  refine Go.st (fun _ k => XS.istore X2.here hx rfl (hb hby at_25) rfl (l' := #[.val (.int p0), .val (.int p1), .val (.int p2), .val (.int p3), .val (.int v1), .val (.int v3), .val (.int v3), .val (.int v4), .unset, .unset, .unset, .unset, .unset, .unset, .unset, .unset, .unset, .unset]) rfl k) ?_
  show Go p e below _ (T2.setTop (mkF m 27 #[.val (.int p0), .val (.int p1), .val (.int p2), .val (.int p3), .val (.int v1), .val (.int v3), .val (.int v3), .val (.int v4), .unset, .unset, .unset, .unset, .unset, .unset, .unset, .unset, .unset, .unset] []))
  refine Go.st (fun _ k => XS.iload X2.here hx rfl (hb hby at_27) rfl k) ?_
  show Go p e below _ (T2.setTop (mkF m 29 #[.val (.int p0), .val (.int p1), .val (.int p2), .val (.int p3), .val (.int v1), .val (.int v3), .val (.int v3), .val (.int v4), .unset, .unset, .unset, .unset, .unset, .unset, .unset, .unset, .unset, .unset] [(.int v4)]))
  refine Go.st (fun _ k => XS.iconst X2.here hx rfl (hb hby at_29) k) ?_
  show Go p e below _ (T2.setTop (mkF m 30 #[.val (.int p0), .val (.int p1), .val (.int p2), .val (.int p3), .val (.int v1), .val (.int v3), .val (.int v3), .val (.int v4), .unset, .unset, .unset, .unset, .unset, .unset, .unset, .unset, .unset, .unset] [(.int (2 : Int32)), (.int v4)]))
  refine Go.st (fun _ k => XS.iadd X2.here hx rfl (hb hby at_30) rfl k) ?_
  show Go p e below _ (T2.setTop (mkF m 31 #[.val (.int p0), .val (.int p1), .val (.int p2), .val (.int p3), .val (.int v1), .val (.int v3), .val (.int v3), .val (.int v4), .unset, .unset, .unset, .unset, .unset, .unset, .unset, .unset, .unset, .unset] [(.int (v4 + (2 : Int32)))]))
  refine Go.st (fun _ k => XS.iloadN X2.here hx rfl (hb hby at_31) rfl k) ?_
  show Go p e below _ (T2.setTop (mkF m 32 #[.val (.int p0), .val (.int p1), .val (.int p2), .val (.int p3), .val (.int v1), .val (.int v3), .val (.int v3), .val (.int v4), .unset, .unset, .unset, .unset, .unset, .unset, .unset, .unset, .unset, .unset] [(.int p1), (.int (v4 + (2 : Int32)))]))
  refine Go.st (fun _ k => XS.iconst X2.here hx rfl (hb hby at_32) k) ?_
  show Go p e below _ (T2.setTop (mkF m 33 #[.val (.int p0), .val (.int p1), .val (.int p2), .val (.int p3), .val (.int v1), .val (.int v3), .val (.int v3), .val (.int v4), .unset, .unset, .unset, .unset, .unset, .unset, .unset, .unset, .unset, .unset] [(.int (4 : Int32)), (.int p1), (.int (v4 + (2 : Int32)))]))
  refine Go.st (fun _ k => XS.iushr X2.here hx rfl (hb hby at_33) rfl k) ?_
  show Go p e below _ (T2.setTop (mkF m 34 #[.val (.int p0), .val (.int p1), .val (.int p2), .val (.int p3), .val (.int v1), .val (.int v3), .val (.int v3), .val (.int v4), .unset, .unset, .unset, .unset, .unset, .unset, .unset, .unset, .unset, .unset] [(.int ((p1.toUInt32 >>> ((4 : Int32) &&& 31).toUInt32).toInt32)), (.int (v4 + (2 : Int32)))]))
  refine Go.st (fun _ k => XS.iconst X2.here hx rfl (hb hby at_34) k) ?_
  show Go p e below _ (T2.setTop (mkF m 35 #[.val (.int p0), .val (.int p1), .val (.int p2), .val (.int p3), .val (.int v1), .val (.int v3), .val (.int v3), .val (.int v4), .unset, .unset, .unset, .unset, .unset, .unset, .unset, .unset, .unset, .unset] [(.int (3 : Int32)), (.int ((p1.toUInt32 >>> ((4 : Int32) &&& 31).toUInt32).toInt32)), (.int (v4 + (2 : Int32)))]))
  refine Go.st (fun _ k => XS.iand X2.here hx rfl (hb hby at_35) rfl k) ?_
  show Go p e below _ (T2.setTop (mkF m 36 #[.val (.int p0), .val (.int p1), .val (.int p2), .val (.int p3), .val (.int v1), .val (.int v3), .val (.int v3), .val (.int v4), .unset, .unset, .unset, .unset, .unset, .unset, .unset, .unset, .unset, .unset] [(.int (((p1.toUInt32 >>> ((4 : Int32) &&& 31).toUInt32).toInt32) &&& (3 : Int32))), (.int (v4 + (2 : Int32)))]))
  refine Go.st (fun _ k => XS.iadd X2.here hx rfl (hb hby at_36) rfl k) ?_
  show Go p e below _ (T2.setTop (mkF m 37 #[.val (.int p0), .val (.int p1), .val (.int p2), .val (.int p3), .val (.int v1), .val (.int v3), .val (.int v3), .val (.int v4), .unset, .unset, .unset, .unset, .unset, .unset, .unset, .unset, .unset, .unset] [(.int ((v4 + (2 : Int32)) + (((p1.toUInt32 >>> ((4 : Int32) &&& 31).toUInt32).toInt32) &&& (3 : Int32))))]))
  generalize hv5 : ((v4 + (2 : Int32)) + (((p1.toUInt32 >>> ((4 : Int32) &&& 31).toUInt32).toInt32) &&& (3 : Int32))) = v5
  refine Go.st (fun _ k => XS.istore X2.here hx rfl (hb hby at_37) rfl (l' := #[.val (.int p0), .val (.int p1), .val (.int p2), .val (.int p3), .val (.int v1), .val (.int v3), .val (.int v3), .val (.int v4), .val (.int v5), .unset, .unset, .unset, .unset, .unset, .unset, .unset, .unset, .unset]) rfl k) ?_
  show Go p e below _ (T2.setTop (mkF m 39 #[.val (.int p0), .val (.int p1), .val (.int p2), .val (.int p3), .val (.int v1), .val (.int v3), .val (.int v3), .val (.int v4), .val (.int v5), .unset, .unset, .unset, .unset, .unset, .unset, .unset, .unset, .unset] []))
  refine Go.st (fun _ k => XS.iload X2.here hx rfl (hb hby at_39) rfl k) ?_
  show Go p e below _ (T2.setTop (mkF m 41 #[.val (.int p0), .val (.int p1), .val (.int p2), .val (.int p3), .val (.int v1), .val (.int v3), .val (.int v3), .val (.int v4), .val (.int v5), .unset, .unset, .unset, .unset, .unset, .unset, .unset, .unset, .unset] [(.int v5)]))
  refine Go.st (fun _ k => XS.iloadN X2.here hx rfl (hb hby at_41) rfl k) ?_
  show Go p e below _ (T2.setTop (mkF m 42 #[.val (.int p0), .val (.int p1), .val (.int p2), .val (.int p3), .val (.int v1), .val (.int v3), .val (.int v3), .val (.int v4), .val (.int v5), .unset, .unset, .unset, .unset, .unset, .unset, .unset, .unset, .unset] [(.int p1), (.int v5)]))
  refine Go.st (fun _ k => XS.bipush X2.here hx rfl (hb hby at_42) k) ?_
  show Go p e below _ (T2.setTop (mkF m 44 #[.val (.int p0), .val (.int p1), .val (.int p2), .val (.int p3), .val (.int v1), .val (.int v3), .val (.int v3), .val (.int v4), .val (.int v5), .unset, .unset, .unset, .unset, .unset, .unset, .unset, .unset, .unset] [(.int (6 : Int32)), (.int p1), (.int v5)]))
  refine Go.st (fun _ k => XS.iushr X2.here hx rfl (hb hby at_44) rfl k) ?_
  show Go p e below _ (T2.setTop (mkF m 45 #[.val (.int p0), .val (.int p1), .val (.int p2), .val (.int p3), .val (.int v1), .val (.int v3), .val (.int v3), .val (.int v4), .val (.int v5), .unset, .unset, .unset, .unset, .unset, .unset, .unset, .unset, .unset] [(.int ((p1.toUInt32 >>> ((6 : Int32) &&& 31).toUInt32).toInt32)), (.int v5)]))
  refine Go.st (fun _ k => XS.iconst X2.here hx rfl (hb hby at_45) k) ?_
  show Go p e below _ (T2.setTop (mkF m 46 #[.val (.int p0), .val (.int p1), .val (.int p2), .val (.int p3), .val (.int v1), .val (.int v3), .val (.int v3), .val (.int v4), .val (.int v5), .unset, .unset, .unset, .unset, .unset, .unset, .unset, .unset, .unset] [(.int (3 : Int32)), (.int ((p1.toUInt32 >>> ((6 : Int32) &&& 31).toUInt32).toInt32)), (.int v5)]))
  refine Go.st (fun _ k => XS.iand X2.here hx rfl (hb hby at_46) rfl k) ?_
  show Go p e below _ (T2.setTop (mkF m 47 #[.val (.int p0), .val (.int p1), .val (.int p2), .val (.int p3), .val (.int v1), .val (.int v3), .val (.int v3), .val (.int v4), .val (.int v5), .unset, .unset, .unset, .unset, .unset, .unset, .unset, .unset, .unset] [(.int (((p1.toUInt32 >>> ((6 : Int32) &&& 31).toUInt32).toInt32) &&& (3 : Int32))), (.int v5)]))
  refine Go.st (fun _ k => XS.iadd X2.here hx rfl (hb hby at_47) rfl k) ?_
  show Go p e below _ (T2.setTop (mkF m 48 #[.val (.int p0), .val (.int p1), .val (.int p2), .val (.int p3), .val (.int v1), .val (.int v3), .val (.int v3), .val (.int v4), .val (.int v5), .unset, .unset, .unset, .unset, .unset, .unset, .unset, .unset, .unset] [(.int (v5 + (((p1.toUInt32 >>> ((6 : Int32) &&& 31).toUInt32).toInt32) &&& (3 : Int32))))]))
  generalize hv6 : (v5 + (((p1.toUInt32 >>> ((6 : Int32) &&& 31).toUInt32).toInt32) &&& (3 : Int32))) = v6
  refine Go.st (fun _ k => XS.istore X2.here hx rfl (hb hby at_48) rfl (l' := #[.val (.int p0), .val (.int p1), .val (.int p2), .val (.int p3), .val (.int v1), .val (.int v3), .val (.int v3), .val (.int v4), .val (.int v5), .val (.int v6), .unset, .unset, .unset, .unset, .unset, .unset, .unset, .unset]) rfl k) ?_
  show Go p e below _ (T2.setTop (mkF m 50 #[.val (.int p0), .val (.int p1), .val (.int p2), .val (.int p3), .val (.int v1), .val (.int v3), .val (.int v3), .val (.int v4), .val (.int v5), .val (.int v6), .unset, .unset, .unset, .unset, .unset, .unset, .unset, .unset] []))
  refine Go.st (fun _ k => XS.iload X2.here hx rfl (hb hby at_50) rfl k) ?_
  show Go p e below _ (T2.setTop (mkF m 52 #[.val (.int p0), .val (.int p1), .val (.int p2), .val (.int p3), .val (.int v1), .val (.int v3), .val (.int v3), .val (.int v4), .val (.int v5), .val (.int v6), .unset, .unset, .unset, .unset, .unset, .unset, .unset, .unset] [(.int v6)]))
  refine Go.st (fun _ k => XS.iconst X2.here hx rfl (hb hby at_52) k) ?_
  show Go p e below _ (T2.setTop (mkF m 53 #[.val (.int p0), .val (.int p1), .val (.int p2), .val (.int p3), .val (.int v1), .val (.int v3), .val (.int v3), .val (.int v4), .val (.int v5), .val (.int v6), .unset, .unset, .unset, .unset, .unset, .unset, .unset, .unset] [(.int (2 : Int32)), (.int v6)]))
  refine Go.st (fun _ k => XS.iadd X2.here hx rfl (hb hby at_53) rfl k) ?_
  show Go p e below _ (T2.setTop (mkF m 54 #[.val (.int p0), .val (.int p1), .val (.int p2), .val (.int p3), .val (.int v1), .val (.int v3), .val (.int v3), .val (.int v4), .val (.int v5), .val (.int v6), .unset, .unset, .unset, .unset, .unset, .unset, .unset, .unset] [(.int (v6 + (2 : Int32)))]))
  refine Go.st (fun _ k => XS.iloadN X2.here hx rfl (hb hby at_54) rfl k) ?_
  show Go p e below _ (T2.setTop (mkF m 55 #[.val (.int p0), .val (.int p1), .val (.int p2), .val (.int p3), .val (.int v1), .val (.int v3), .val (.int v3), .val (.int v4), .val (.int v5), .val (.int v6), .unset, .unset, .unset, .unset, .unset, .unset, .unset, .unset] [(.int p1), (.int (v6 + (2 : Int32)))]))
  refine Go.st (fun _ k => XS.bipush X2.here hx rfl (hb hby at_55) k) ?_
  show Go p e below _ (T2.setTop (mkF m 57 #[.val (.int p0), .val (.int p1), .val (.int p2), .val (.int p3), .val (.int v1), .val (.int v3), .val (.int v3), .val (.int v4), .val (.int v5), .val (.int v6), .unset, .unset, .unset, .unset, .unset, .unset, .unset, .unset] [(.int (8 : Int32)), (.int p1), (.int (v6 + (2 : Int32)))]))
  refine Go.st (fun _ k => XS.iushr X2.here hx rfl (hb hby at_57) rfl k) ?_
  show Go p e below _ (T2.setTop (mkF m 58 #[.val (.int p0), .val (.int p1), .val (.int p2), .val (.int p3), .val (.int v1), .val (.int v3), .val (.int v3), .val (.int v4), .val (.int v5), .val (.int v6), .unset, .unset, .unset, .unset, .unset, .unset, .unset, .unset] [(.int ((p1.toUInt32 >>> ((8 : Int32) &&& 31).toUInt32).toInt32)), (.int (v6 + (2 : Int32)))]))
  refine Go.st (fun _ k => XS.iconst X2.here hx rfl (hb hby at_58) k) ?_
  show Go p e below _ (T2.setTop (mkF m 59 #[.val (.int p0), .val (.int p1), .val (.int p2), .val (.int p3), .val (.int v1), .val (.int v3), .val (.int v3), .val (.int v4), .val (.int v5), .val (.int v6), .unset, .unset, .unset, .unset, .unset, .unset, .unset, .unset] [(.int (3 : Int32)), (.int ((p1.toUInt32 >>> ((8 : Int32) &&& 31).toUInt32).toInt32)), (.int (v6 + (2 : Int32)))]))
  refine Go.st (fun _ k => XS.iand X2.here hx rfl (hb hby at_59) rfl k) ?_
  show Go p e below _ (T2.setTop (mkF m 60 #[.val (.int p0), .val (.int p1), .val (.int p2), .val (.int p3), .val (.int v1), .val (.int v3), .val (.int v3), .val (.int v4), .val (.int v5), .val (.int v6), .unset, .unset, .unset, .unset, .unset, .unset, .unset, .unset] [(.int (((p1.toUInt32 >>> ((8 : Int32) &&& 31).toUInt32).toInt32) &&& (3 : Int32))), (.int (v6 + (2 : Int32)))]))
  refine Go.st (fun _ k => XS.iadd X2.here hx rfl (hb hby at_60) rfl k) ?_
  show Go p e below _ (T2.setTop (mkF m 61 #[.val (.int p0), .val (.int p1), .val (.int p2), .val (.int p3), .val (.int v1), .val (.int v3), .val (.int v3), .val (.int v4), .val (.int v5), .val (.int v6), .unset, .unset, .unset, .unset, .unset, .unset, .unset, .unset] [(.int ((v6 + (2 : Int32)) + (((p1.toUInt32 >>> ((8 : Int32) &&& 31).toUInt32).toInt32) &&& (3 : Int32))))]))
  generalize hv7 : ((v6 + (2 : Int32)) + (((p1.toUInt32 >>> ((8 : Int32) &&& 31).toUInt32).toInt32) &&& (3 : Int32))) = v7
  refine Go.st (fun _ k => XS.istore X2.here hx rfl (hb hby at_61) rfl (l' := #[.val (.int p0), .val (.int p1), .val (.int p2), .val (.int p3), .val (.int v1), .val (.int v3), .val (.int v3), .val (.int v4), .val (.int v5), .val (.int v6), .val (.int v7), .unset, .unset, .unset, .unset, .unset, .unset, .unset]) rfl k) ?_
  show Go p e below _ (T2.setTop (mkF m 63 #[.val (.int p0), .val (.int p1), .val (.int p2), .val (.int p3), .val (.int v1), .val (.int v3), .val (.int v3), .val (.int v4), .val (.int v5), .val (.int v6), .val (.int v7), .unset, .unset, .unset, .unset, .unset, .unset, .unset] []))
  refine Go.st (fun _ k => XS.iload X2.here hx rfl (hb hby at_63) rfl k) ?_
  show Go p e below _ (T2.setTop (mkF m 65 #[.val (.int p0), .val (.int p1), .val (.int p2), .val (.int p3), .val (.int v1), .val (.int v3), .val (.int v3), .val (.int v4), .val (.int v5), .val (.int v6), .val (.int v7), .unset, .unset, .unset, .unset, .unset, .unset, .unset] [(.int v7)]))
  refine Go.st (fun _ k => XS.iloadN X2.here hx rfl (hb hby at_65) rfl k) ?_
  show Go p e below _ (T2.setTop (mkF m 66 #[.val (.int p0), .val (.int p1), .val (.int p2), .val (.int p3), .val (.int v1), .val (.int v3), .val (.int v3), .val (.int v4), .val (.int v5), .val (.int v6), .val (.int v7), .unset, .unset, .unset, .unset, .unset, .unset, .unset] [(.int p1), (.int v7)]))
  refine Go.st (fun _ k => XS.bipush X2.here hx rfl (hb hby at_66) k) ?_
  show Go p e below _ (T2.setTop (mkF m 68 #[.val (.int p0), .val (.int p1), .val (.int p2), .val (.int p3), .val (.int v1), .val (.int v3), .val (.int v3), .val (.int v4), .val (.int v5), .val (.int v6), .val (.int v7), .unset, .unset, .unset, .unset, .unset, .unset, .unset] [(.int (10 : Int32)), (.int p1), (.int v7)]))
  refine Go.st (fun _ k => XS.iushr X2.here hx rfl (hb hby at_68) rfl k) ?_
  show Go p e below _ (T2.setTop (mkF m 69 #[.val (.int p0), .val (.int p1), .val (.int p2), .val (.int p3), .val (.int v1), .val (.int v3), .val (.int v3), .val (.int v4), .val (.int v5), .val (.int v6), .val (.int v7), .unset, .unset, .unset, .unset, .unset, .unset, .unset] [(.int ((p1.toUInt32 >>> ((10 : Int32) &&& 31).toUInt32).toInt32)), (.int v7)]))
  refine Go.st (fun _ k => XS.iconst X2.here hx rfl (hb hby at_69) k) ?_
  show Go p e below _ (T2.setTop (mkF m 70 #[.val (.int p0), .val (.int p1), .val (.int p2), .val (.int p3), .val (.int v1), .val (.int v3), .val (.int v3), .val (.int v4), .val (.int v5), .val (.int v6), .val (.int v7), .unset, .unset, .unset, .unset, .unset, .unset, .unset] [(.int (3 : Int32)), (.int ((p1.toUInt32 >>> ((10 : Int32) &&& 31).toUInt32).toInt32)), (.int v7)]))
  refine Go.st (fun _ k => XS.iand X2.here hx rfl (hb hby at_70) rfl k) ?_
  show Go p e below _ (T2.setTop (mkF m 71 #[.val (.int p0), .val (.int p1), .val (.int p2), .val (.int p3), .val (.int v1), .val (.int v3), .val (.int v3), .val (.int v4), .val (.int v5), .val (.int v6), .val (.int v7), .unset, .unset, .unset, .unset, .unset, .unset, .unset] [(.int (((p1.toUInt32 >>> ((10 : Int32) &&& 31).toUInt32).toInt32) &&& (3 : Int32))), (.int v7)]))
  refine Go.st (fun _ k => XS.iadd X2.here hx rfl (hb hby at_71) rfl k) ?_
  show Go p e below _ (T2.setTop (mkF m 72 #[.val (.int p0), .val (.int p1), .val (.int p2), .val (.int p3), .val (.int v1), .val (.int v3), .val (.int v3), .val (.int v4), .val (.int v5), .val (.int v6), .val (.int v7), .unset, .unset, .unset, .unset, .unset, .unset, .unset] [(.int (v7 + (((p1.toUInt32 >>> ((10 : Int32) &&& 31).toUInt32).toInt32) &&& (3 : Int32))))]))
  generalize hv8 : (v7 + (((p1.toUInt32 >>> ((10 : Int32) &&& 31).toUInt32).toInt32) &&& (3 : Int32))) = v8
  refine Go.st (fun _ k => XS.istore X2.here hx rfl (hb hby at_72) rfl (l' := #[.val (.int p0), .val (.int p1), .val (.int p2), .val (.int p3), .val (.int v1), .val (.int v3), .val (.int v3), .val (.int v4), .val (.int v5), .val (.int v6), .val (.int v7), .val (.int v8), .unset, .unset, .unset, .unset, .unset, .unset]) rfl k) ?_
  show Go p e below _ (T2.setTop (mkF m 74 #[.val (.int p0), .val (.int p1), .val (.int p2), .val (.int p3), .val (.int v1), .val (.int v3), .val (.int v3), .val (.int v4), .val (.int v5), .val (.int v6), .val (.int v7), .val (.int v8), .unset, .unset, .unset, .unset, .unset, .unset] []))
  have hord := own_ord hv3 hv4 hv5 hv6 hv7 hv8
  rcases own_and3 hv1 with hr9 | hr9 | hr9 | hr9
  · rw [hr9]
    show Go p e below _ (T2.setTop (mkF m 74 #[.val (.int p0), .val (.int p1), .val (.int p2), .val (.int p3), .val (.int (0 : Int32)), .val (.int v3), .val (.int v3), .val (.int v4), .val (.int v5), .val (.int v6), .val (.int v7), .val (.int v8), .unset, .unset, .unset, .unset, .unset, .unset] []))
    refine Go.st (fun _ k => XS.iload X2.here hx rfl (hb hby at_74) rfl k) ?_
    show Go p e below _ (T2.setTop (mkF m 76 #[.val (.int p0), .val (.int p1), .val (.int p2), .val (.int p3), .val (.int (0 : Int32)), .val (.int v3), .val (.int v3), .val (.int v4), .val (.int v5), .val (.int v6), .val (.int v7), .val (.int v8), .unset, .unset, .unset, .unset, .unset, .unset] [(.int (0 : Int32))]))
    refine Go.st (fun _ k => XS.ifNo X2.here hx rfl (hb hby at_76) rfl ((if0 _ _).trans (teq (by decide : ((0 : Int32) = (0 : Int32)))).2) k) ?_
    show Go p e below _ (T2.setTop (mkF m 79 #[.val (.int p0), .val (.int p1), .val (.int p2), .val (.int p3), .val (.int (0 : Int32)), .val (.int v3), .val (.int v3), .val (.int v4), .val (.int v5), .val (.int v6), .val (.int v7), .val (.int v8), .unset, .unset, .unset, .unset, .unset, .unset] []))
    refine Go.st (fun _ k => XS.iconst X2.here hx rfl (hb hby at_79) k) ?_
    show Go p e below _ (T2.setTop (mkF m 80 #[.val (.int p0), .val (.int p1), .val (.int p2), .val (.int p3), .val (.int (0 : Int32)), .val (.int v3), .val (.int v3), .val (.int v4), .val (.int v5), .val (.int v6), .val (.int v7), .val (.int v8), .unset, .unset, .unset, .unset, .unset, .unset] [(.int (0 : Int32))]))
    obtain ⟨T10, h10, k10, X10, e10, E10, A10, st10⟩ := newP X2 hx hZ (hw _ (List.mem_of_getElem? (i := 5) rfl)) e2 (g := (mkF m 80 #[.val (.int p0), .val (.int p1), .val (.int p2), .val (.int p3), .val (.int (0 : Int32)), .val (.int v3), .val (.int v3), .val (.int v4), .val (.int v5), .val (.int v6), .val (.int v7), .val (.int v8), .unset, .unset, .unset, .unset, .unset, .unset] [(.int (0 : Int32))])) rfl (hb hby at_80) rfl (by decide) (cap := 0) (by decide) (by decide) (by decide) (by decide)
    obtain ⟨b10, g10⟩ : ∃ z, z = h0.size := ⟨_, rfl⟩
    have gg10 : n0 ≤ b10 := Nat.le_trans Z0 (Nat.le_of_eq g10.symm)
    rw [← g10] at A10 st10
    have Z10 : n0 ≤ h10.size := Nat.le_trans Z0 E10.1
    have V10 : Arv Z h10 b10 k10 .int (0 : Int32) [] (.int (0 : Int32)) := (Arv.new A10 (by decide)).pad (pad_rep [] (.int (0 : Int32)) 0)
    refine Go.st (fun _ k => st10 _ k) ?_
    show Go p e below _ (T10.setTop (mkF m 82 #[.val (.int p0), .val (.int p1), .val (.int p2), .val (.int p3), .val (.int (0 : Int32)), .val (.int v3), .val (.int v3), .val (.int v4), .val (.int v5), .val (.int v6), .val (.int v7), .val (.int v8), .unset, .unset, .unset, .unset, .unset, .unset] [(.ref b10)]))
    refine Go.st (fun _ k => XS.astore X10.here hx rfl (hb hby at_82) rfl rfl (l' := #[.val (.int p0), .val (.int p1), .val (.int p2), .val (.int p3), .val (.int (0 : Int32)), .val (.int v3), .val (.int v3), .val (.int v4), .val (.int v5), .val (.int v6), .val (.int v7), .val (.int v8), .val (.ref b10), .unset, .unset, .unset, .unset, .unset]) rfl k) ?_
    show Go p e below _ (T10.setTop (mkF m 84 #[.val (.int p0), .val (.int p1), .val (.int p2), .val (.int p3), .val (.int (0 : Int32)), .val (.int v3), .val (.int v3), .val (.int v4), .val (.int v5), .val (.int v6), .val (.int v7), .val (.int v8), .val (.ref b10), .unset, .unset, .unset, .unset, .unset] []))
    refine Go.st (fun _ k => XS.goto X10.here hx rfl (pc0 := 84) (pc' := 181) rfl (hb hby at_84) (by decide) (by decide) k) ?_
    show Go p e below _ (T10.setTop (mkF m 181 #[.val (.int p0), .val (.int p1), .val (.int p2), .val (.int p3), .val (.int (0 : Int32)), .val (.int v3), .val (.int v3), .val (.int v4), .val (.int v5), .val (.int v6), .val (.int v7), .val (.int v8), .val (.ref b10), .unset, .unset, .unset, .unset, .unset] []))
    have key : ∀ (r : Int32), Go p e below (F_rm0 Z p0 p1 p2 p3 h0 n0 s) (T10.setTop (mkF m 204 #[.val (.int p0), .val (.int p1), .val (.int p2), .val (.int p3), .val (.int (0 : Int32)), .val (.int v3), .val (.int v3), .val (.int v4), .val (.int v5), .val (.int v6), .val (.int v7), .val (.int v8), .val (.ref b10), .val (.int r), .unset, .unset, .unset, .unset] [])) := by
      intro r
      show Go p e below _ (T10.setTop (mkF m 204 #[.val (.int p0), .val (.int p1), .val (.int p2), .val (.int p3), .val (.int (0 : Int32)), .val (.int v3), .val (.int v3), .val (.int v4), .val (.int v5), .val (.int v6), .val (.int v7), .val (.int v8), .val (.ref b10), .val (.int r), .unset, .unset, .unset, .unset] []))
      refine Go.st (fun _ k => XS.iload X10.here hx rfl (hb hby at_204) rfl k) ?_
      show Go p e below _ (T10.setTop (mkF m 206 #[.val (.int p0), .val (.int p1), .val (.int p2), .val (.int p3), .val (.int (0 : Int32)), .val (.int v3), .val (.int v3), .val (.int v4), .val (.int v5), .val (.int v6), .val (.int v7), .val (.int v8), .val (.ref b10), .val (.int r), .unset, .unset, .unset, .unset] [(.int (0 : Int32))]))
      refine Go.st (fun _ k => XS.iconst X10.here hx rfl (hb hby at_206) k) ?_
      show Go p e below _ (T10.setTop (mkF m 207 #[.val (.int p0), .val (.int p1), .val (.int p2), .val (.int p3), .val (.int (0 : Int32)), .val (.int v3), .val (.int v3), .val (.int v4), .val (.int v5), .val (.int v6), .val (.int v7), .val (.int v8), .val (.ref b10), .val (.int r), .unset, .unset, .unset, .unset] [(.int (1 : Int32)), (.int (0 : Int32))]))
      refine Go.st (fun _ k => XS.icmpYes X10.here hx rfl (pc0 := 207) (pc' := 228) rfl (hb hby at_207) rfl (tlt (by decide : ((0 : Int32) < (1 : Int32)))).1 (by decide) (by decide) k) ?_
      show Go p e below _ (T10.setTop (mkF m 228 #[.val (.int p0), .val (.int p1), .val (.int p2), .val (.int p3), .val (.int (0 : Int32)), .val (.int v3), .val (.int v3), .val (.int v4), .val (.int v5), .val (.int v6), .val (.int v7), .val (.int v8), .val (.ref b10), .val (.int r), .unset, .unset, .unset, .unset] []))
      refine Go.st (fun _ k => XS.iconst X10.here hx rfl (hb hby at_228) k) ?_
      show Go p e below _ (T10.setTop (mkF m 229 #[.val (.int p0), .val (.int p1), .val (.int p2), .val (.int p3), .val (.int (0 : Int32)), .val (.int v3), .val (.int v3), .val (.int v4), .val (.int v5), .val (.int v6), .val (.int v7), .val (.int v8), .val (.ref b10), .val (.int r), .unset, .unset, .unset, .unset] [(.int (0 : Int32))]))
      refine Go.st (fun _ k => XS.istore X10.here hx rfl (hb hby at_229) rfl (l' := #[.val (.int p0), .val (.int p1), .val (.int p2), .val (.int p3), .val (.int (0 : Int32)), .val (.int v3), .val (.int v3), .val (.int v4), .val (.int v5), .val (.int v6), .val (.int v7), .val (.int v8), .val (.ref b10), .val (.int r), .val (.int (0 : Int32)), .unset, .unset, .unset]) rfl k) ?_
      show Go p e below _ (T10.setTop (mkF m 231 #[.val (.int p0), .val (.int p1), .val (.int p2), .val (.int p3), .val (.int (0 : Int32)), .val (.int v3), .val (.int v3), .val (.int v4), .val (.int v5), .val (.int v6), .val (.int v7), .val (.int v8), .val (.ref b10), .val (.int r), .val (.int (0 : Int32)), .unset, .unset, .unset] []))
      refine Go.st (fun _ k => XS.iload X10.here hx rfl (hb hby at_231) rfl k) ?_
      show Go p e below _ (T10.setTop (mkF m 233 #[.val (.int p0), .val (.int p1), .val (.int p2), .val (.int p3), .val (.int (0 : Int32)), .val (.int v3), .val (.int v3), .val (.int v4), .val (.int v5), .val (.int v6), .val (.int v7), .val (.int v8), .val (.ref b10), .val (.int r), .val (.int (0 : Int32)), .unset, .unset, .unset] [(.int (0 : Int32))]))
      refine Go.st (fun _ k => XS.iconst X10.here hx rfl (hb hby at_233) k) ?_
      show Go p e below _ (T10.setTop (mkF m 234 #[.val (.int p0), .val (.int p1), .val (.int p2), .val (.int p3), .val (.int (0 : Int32)), .val (.int v3), .val (.int v3), .val (.int v4), .val (.int v5), .val (.int v6), .val (.int v7), .val (.int v8), .val (.ref b10), .val (.int r), .val (.int (0 : Int32)), .unset, .unset, .unset] [(.int (2 : Int32)), (.int (0 : Int32))]))
      refine Go.st (fun _ k => XS.icmpYes X10.here hx rfl (pc0 := 234) (pc' := 255) rfl (hb hby at_234) rfl (tlt (by decide : ((0 : Int32) < (2 : Int32)))).1 (by decide) (by decide) k) ?_
      show Go p e below _ (T10.setTop (mkF m 255 #[.val (.int p0), .val (.int p1), .val (.int p2), .val (.int p3), .val (.int (0 : Int32)), .val (.int v3), .val (.int v3), .val (.int v4), .val (.int v5), .val (.int v6), .val (.int v7), .val (.int v8), .val (.ref b10), .val (.int r), .val (.int (0 : Int32)), .unset, .unset, .unset] []))
      refine Go.st (fun _ k => XS.iconst X10.here hx rfl (hb hby at_255) k) ?_
      show Go p e below _ (T10.setTop (mkF m 256 #[.val (.int p0), .val (.int p1), .val (.int p2), .val (.int p3), .val (.int (0 : Int32)), .val (.int v3), .val (.int v3), .val (.int v4), .val (.int v5), .val (.int v6), .val (.int v7), .val (.int v8), .val (.ref b10), .val (.int r), .val (.int (0 : Int32)), .unset, .unset, .unset] [(.int (0 : Int32))]))
      refine Go.st (fun _ k => XS.istore X10.here hx rfl (hb hby at_256) rfl (l' := #[.val (.int p0), .val (.int p1), .val (.int p2), .val (.int p3), .val (.int (0 : Int32)), .val (.int v3), .val (.int v3), .val (.int v4), .val (.int v5), .val (.int v6), .val (.int v7), .val (.int v8), .val (.ref b10), .val (.int r), .val (.int (0 : Int32)), .val (.int (0 : Int32)), .unset, .unset]) rfl k) ?_
      show Go p e below _ (T10.setTop (mkF m 258 #[.val (.int p0), .val (.int p1), .val (.int p2), .val (.int p3), .val (.int (0 : Int32)), .val (.int v3), .val (.int v3), .val (.int v4), .val (.int v5), .val (.int v6), .val (.int v7), .val (.int v8), .val (.ref b10), .val (.int r), .val (.int (0 : Int32)), .val (.int (0 : Int32)), .unset, .unset] []))
      refine Go.st (fun _ k => XS.iload X10.here hx rfl (hb hby at_258) rfl k) ?_
      show Go p e below _ (T10.setTop (mkF m 260 #[.val (.int p0), .val (.int p1), .val (.int p2), .val (.int p3), .val (.int (0 : Int32)), .val (.int v3), .val (.int v3), .val (.int v4), .val (.int v5), .val (.int v6), .val (.int v7), .val (.int v8), .val (.ref b10), .val (.int r), .val (.int (0 : Int32)), .val (.int (0 : Int32)), .unset, .unset] [(.int (0 : Int32))]))
      refine Go.st (fun _ k => XS.iconst X10.here hx rfl (hb hby at_260) k) ?_
      show Go p e below _ (T10.setTop (mkF m 261 #[.val (.int p0), .val (.int p1), .val (.int p2), .val (.int p3), .val (.int (0 : Int32)), .val (.int v3), .val (.int v3), .val (.int v4), .val (.int v5), .val (.int v6), .val (.int v7), .val (.int v8), .val (.ref b10), .val (.int r), .val (.int (0 : Int32)), .val (.int (0 : Int32)), .unset, .unset] [(.int (3 : Int32)), (.int (0 : Int32))]))
      refine Go.st (fun _ k => XS.icmpYes X10.here hx rfl (pc0 := 261) (pc' := 282) rfl (hb hby at_261) rfl (tlt (by decide : ((0 : Int32) < (3 : Int32)))).1 (by decide) (by decide) k) ?_
      show Go p e below _ (T10.setTop (mkF m 282 #[.val (.int p0), .val (.int p1), .val (.int p2), .val (.int p3), .val (.int (0 : Int32)), .val (.int v3), .val (.int v3), .val (.int v4), .val (.int v5), .val (.int v6), .val (.int v7), .val (.int v8), .val (.ref b10), .val (.int r), .val (.int (0 : Int32)), .val (.int (0 : Int32)), .unset, .unset] []))
      refine Go.st (fun _ k => XS.iconst X10.here hx rfl (hb hby at_282) k) ?_
      show Go p e below _ (T10.setTop (mkF m 283 #[.val (.int p0), .val (.int p1), .val (.int p2), .val (.int p3), .val (.int (0 : Int32)), .val (.int v3), .val (.int v3), .val (.int v4), .val (.int v5), .val (.int v6), .val (.int v7), .val (.int v8), .val (.ref b10), .val (.int r), .val (.int (0 : Int32)), .val (.int (0 : Int32)), .unset, .unset] [(.int (0 : Int32))]))
      refine Go.st (fun _ k => XS.istore X10.here hx rfl (hb hby at_283) rfl (l' := #[.val (.int p0), .val (.int p1), .val (.int p2), .val (.int p3), .val (.int (0 : Int32)), .val (.int v3), .val (.int v3), .val (.int v4), .val (.int v5), .val (.int v6), .val (.int v7), .val (.int v8), .val (.ref b10), .val (.int r), .val (.int (0 : Int32)), .val (.int (0 : Int32)), .val (.int (0 : Int32)), .unset]) rfl k) ?_
      show Go p e below _ (T10.setTop (mkF m 285 #[.val (.int p0), .val (.int p1), .val (.int p2), .val (.int p3), .val (.int (0 : Int32)), .val (.int v3), .val (.int v3), .val (.int v4), .val (.int v5), .val (.int v6), .val (.int v7), .val (.int v8), .val (.ref b10), .val (.int r), .val (.int (0 : Int32)), .val (.int (0 : Int32)), .val (.int (0 : Int32)), .unset] []))
      refine Go.st (fun _ k => XS.iload X10.here hx rfl (hb hby at_285) rfl k) ?_
      show Go p e below _ (T10.setTop (mkF m 287 #[.val (.int p0), .val (.int p1), .val (.int p2), .val (.int p3), .val (.int (0 : Int32)), .val (.int v3), .val (.int v3), .val (.int v4), .val (.int v5), .val (.int v6), .val (.int v7), .val (.int v8), .val (.ref b10), .val (.int r), .val (.int (0 : Int32)), .val (.int (0 : Int32)), .val (.int (0 : Int32)), .unset] [(.int (0 : Int32))]))
      refine Go.st (fun _ k => XS.ifNo X10.here hx rfl (hb hby at_287) rfl ((if0 _ _).trans (teq (by decide : ((0 : Int32) = (0 : Int32)))).2) k) ?_
      show Go p e below _ (T10.setTop (mkF m 290 #[.val (.int p0), .val (.int p1), .val (.int p2), .val (.int p3), .val (.int (0 : Int32)), .val (.int v3), .val (.int v3), .val (.int v4), .val (.int v5), .val (.int v6), .val (.int v7), .val (.int v8), .val (.ref b10), .val (.int r), .val (.int (0 : Int32)), .val (.int (0 : Int32)), .val (.int (0 : Int32)), .unset] []))
      refine Go.st (fun _ k => XS.iload X10.here hx rfl (hb hby at_290) rfl k) ?_
      show Go p e below _ (T10.setTop (mkF m 292 #[.val (.int p0), .val (.int p1), .val (.int p2), .val (.int p3), .val (.int (0 : Int32)), .val (.int v3), .val (.int v3), .val (.int v4), .val (.int v5), .val (.int v6), .val (.int v7), .val (.int v8), .val (.ref b10), .val (.int r), .val (.int (0 : Int32)), .val (.int (0 : Int32)), .val (.int (0 : Int32)), .unset] [(.int (0 : Int32))]))
      refine Go.st (fun _ k => XS.ifNo X10.here hx rfl (hb hby at_292) rfl ((if0 _ _).trans (teq (by decide : ((0 : Int32) = (0 : Int32)))).2) k) ?_
      show Go p e below _ (T10.setTop (mkF m 295 #[.val (.int p0), .val (.int p1), .val (.int p2), .val (.int p3), .val (.int (0 : Int32)), .val (.int v3), .val (.int v3), .val (.int v4), .val (.int v5), .val (.int v6), .val (.int v7), .val (.int v8), .val (.ref b10), .val (.int r), .val (.int (0 : Int32)), .val (.int (0 : Int32)), .val (.int (0 : Int32)), .unset] []))
      refine Go.st (fun _ k => XS.iload X10.here hx rfl (hb hby at_295) rfl k) ?_
      show Go p e below _ (T10.setTop (mkF m 297 #[.val (.int p0), .val (.int p1), .val (.int p2), .val (.int p3), .val (.int (0 : Int32)), .val (.int v3), .val (.int v3), .val (.int v4), .val (.int v5), .val (.int v6), .val (.int v7), .val (.int v8), .val (.ref b10), .val (.int r), .val (.int (0 : Int32)), .val (.int (0 : Int32)), .val (.int (0 : Int32)), .unset] [(.int (0 : Int32))]))
      refine Go.st (fun _ k => XS.ifYes X10.here hx rfl (pc0 := 297) (pc' := 304) rfl (hb hby at_297) rfl ((if0 _ _).trans (teq (by decide : ((0 : Int32) = (0 : Int32)))).1) (by decide) (by decide) k) ?_
      show Go p e below _ (T10.setTop (mkF m 304 #[.val (.int p0), .val (.int p1), .val (.int p2), .val (.int p3), .val (.int (0 : Int32)), .val (.int v3), .val (.int v3), .val (.int v4), .val (.int v5), .val (.int v6), .val (.int v7), .val (.int v8), .val (.ref b10), .val (.int r), .val (.int (0 : Int32)), .val (.int (0 : Int32)), .val (.int (0 : Int32)), .unset] []))
      refine Go.st (fun _ k => XS.iconst X10.here hx rfl (hb hby at_304) k) ?_
      show Go p e below _ (T10.setTop (mkF m 305 #[.val (.int p0), .val (.int p1), .val (.int p2), .val (.int p3), .val (.int (0 : Int32)), .val (.int v3), .val (.int v3), .val (.int v4), .val (.int v5), .val (.int v6), .val (.int v7), .val (.int v8), .val (.ref b10), .val (.int r), .val (.int (0 : Int32)), .val (.int (0 : Int32)), .val (.int (0 : Int32)), .unset] [(.int (0 : Int32))]))
      refine Go.st (fun _ k => XS.istore X10.here hx rfl (hb hby at_305) rfl (l' := #[.val (.int p0), .val (.int p1), .val (.int p2), .val (.int p3), .val (.int (0 : Int32)), .val (.int v3), .val (.int v3), .val (.int v4), .val (.int v5), .val (.int v6), .val (.int v7), .val (.int v8), .val (.ref b10), .val (.int r), .val (.int (0 : Int32)), .val (.int (0 : Int32)), .val (.int (0 : Int32)), .val (.int (0 : Int32))]) rfl k) ?_
      show Go p e below _ (T10.setTop (mkF m 307 #[.val (.int p0), .val (.int p1), .val (.int p2), .val (.int p3), .val (.int (0 : Int32)), .val (.int v3), .val (.int v3), .val (.int v4), .val (.int v5), .val (.int v6), .val (.int v7), .val (.int v8), .val (.ref b10), .val (.int r), .val (.int (0 : Int32)), .val (.int (0 : Int32)), .val (.int (0 : Int32)), .val (.int (0 : Int32))] []))
      refine Go.st (fun _ k => XS.aload X10.here hx rfl (hb hby at_307) rfl rfl k) ?_
      show Go p e below _ (T10.setTop (mkF m 309 #[.val (.int p0), .val (.int p1), .val (.int p2), .val (.int p3), .val (.int (0 : Int32)), .val (.int v3), .val (.int v3), .val (.int v4), .val (.int v5), .val (.int v6), .val (.int v7), .val (.int v8), .val (.ref b10), .val (.int r), .val (.int (0 : Int32)), .val (.int (0 : Int32)), .val (.int (0 : Int32)), .val (.int (0 : Int32))] [(.ref b10)]))
      refine Go.st (fun _ k => XS.iload X10.here hx rfl (hb hby at_309) rfl k) ?_
      show Go p e below _ (T10.setTop (mkF m 311 #[.val (.int p0), .val (.int p1), .val (.int p2), .val (.int p3), .val (.int (0 : Int32)), .val (.int v3), .val (.int v3), .val (.int v4), .val (.int v5), .val (.int v6), .val (.int v7), .val (.int v8), .val (.ref b10), .val (.int r), .val (.int (0 : Int32)), .val (.int (0 : Int32)), .val (.int (0 : Int32)), .val (.int (0 : Int32))] [(.int r), (.ref b10)]))
      obtain ⟨_, _, ⟨T11, L11, k11, n11⟩, -, X11, ⟨Lc11, hQ11, l11, y11, z11⟩, st11⟩ := Jvm.LawKit.callS X10 hx (y := (⟨"com/example/weir/weir/route/ValueRegions", "contains", "([II)Z"⟩ : MethodName)) hown (mvT hZ (hw _ (List.mem_of_getElem? (i := 6) rfl))) (mvT hZ (hw _ (List.mem_of_getElem? (i := 7) rfl))) (mvT hZ (hw _ (List.mem_of_getElem? (i := 8) rfl))) (mvT hZ (hw _ (List.mem_of_getElem? (i := 9) rfl))) (by decide) (backOf (W := 0) (rmC0 l Z aZ hw [] b10 r k10 h10 n0 V10) hZ (hw _ (List.mem_of_getElem? (i := 9) rfl)) (hw _ (List.mem_of_getElem? (i := 8) rfl)) (by decide) (by decide)) (g := (mkF m 311 #[.val (.int p0), .val (.int p1), .val (.int p2), .val (.int p3), .val (.int (0 : Int32)), .val (.int v3), .val (.int v3), .val (.int v4), .val (.int v5), .val (.int v6), .val (.int v7), .val (.int v8), .val (.ref b10), .val (.int r), .val (.int (0 : Int32)), .val (.int (0 : Int32)), .val (.int (0 : Int32)), .val (.int (0 : Int32))] [(.int r), (.ref b10)])) rfl (by rw [hml]; rfl) (argsL := [(.ref b10), (.int r)]) (rest := []) (lenOf pd93e6ecdc rfl) rfl (by show 2 * 0 + _ ≤ _; exact Nat.le_of_eq rfl) (hb hby at_311) (fun _ _ => ⟨rfl, e10, (by decide : 1 + 0 ≤ _), (by decide : 0 + 0 ≤ _)⟩)
      dsimp only [Pt.U, Pt.locs, Pt.cells, Pt.slots] at X11 l11 y11 z11 st11 hQ11
      subst l11 y11 z11
      obtain ⟨rfl, N11q, e11⟩ := hQ11
      have N11 := Fr.app N2 N11q
      refine Go.st (fun _ k => st11 _ k) ?_
      show Go p e below _ (T11.setTop (mkF m 314 #[.val (.int p0), .val (.int p1), .val (.int p2), .val (.int p3), .val (.int (0 : Int32)), .val (.int v3), .val (.int v3), .val (.int v4), .val (.int v5), .val (.int v6), .val (.int v7), .val (.int v8), .val (.ref b10), .val (.int r), .val (.int (0 : Int32)), .val (.int (0 : Int32)), .val (.int (0 : Int32)), .val (.int (0 : Int32))] [(.int (fC0 r))]))
      refine Go.st (fun _ k => XS.iload X11.here hx rfl (hb hby at_314) rfl k) ?_
      show Go p e below _ (T11.setTop (mkF m 316 #[.val (.int p0), .val (.int p1), .val (.int p2), .val (.int p3), .val (.int (0 : Int32)), .val (.int v3), .val (.int v3), .val (.int v4), .val (.int v5), .val (.int v6), .val (.int v7), .val (.int v8), .val (.ref b10), .val (.int r), .val (.int (0 : Int32)), .val (.int (0 : Int32)), .val (.int (0 : Int32)), .val (.int (0 : Int32))] [(.int (0 : Int32)), (.int (fC0 r))]))
      refine Go.st (fun _ k => XS.icmpNo X11.here hx rfl (hb hby at_316) rfl (teq rfl).2 k) ?_
      show Go p e below _ (T11.setTop (mkF m 319 #[.val (.int p0), .val (.int p1), .val (.int p2), .val (.int p3), .val (.int (0 : Int32)), .val (.int v3), .val (.int v3), .val (.int v4), .val (.int v5), .val (.int v6), .val (.int v7), .val (.int v8), .val (.ref b10), .val (.int r), .val (.int (0 : Int32)), .val (.int (0 : Int32)), .val (.int (0 : Int32)), .val (.int (0 : Int32))] []))
      refine Go.st (fun _ k => XS.iconst X11.here hx rfl (hb hby at_319) k) ?_
      show Go p e below _ (T11.setTop (mkF m 320 #[.val (.int p0), .val (.int p1), .val (.int p2), .val (.int p3), .val (.int (0 : Int32)), .val (.int v3), .val (.int v3), .val (.int v4), .val (.int v5), .val (.int v6), .val (.int v7), .val (.int v8), .val (.ref b10), .val (.int r), .val (.int (0 : Int32)), .val (.int (0 : Int32)), .val (.int (0 : Int32)), .val (.int (0 : Int32))] [(.int (1 : Int32))]))
      refine Go.st (fun _ k => XS.goto X11.here hx rfl (pc0 := 320) (pc' := 324) rfl (hb hby at_320) (by decide) (by decide) k) ?_
      show Go p e below _ (T11.setTop (mkF m 324 #[.val (.int p0), .val (.int p1), .val (.int p2), .val (.int p3), .val (.int (0 : Int32)), .val (.int v3), .val (.int v3), .val (.int v4), .val (.int v5), .val (.int v6), .val (.int v7), .val (.int v8), .val (.ref b10), .val (.int r), .val (.int (0 : Int32)), .val (.int (0 : Int32)), .val (.int (0 : Int32)), .val (.int (0 : Int32))] [(.int (1 : Int32))]))
      obtain ⟨fs, hr, hrun, hended, hW, hsame⟩ := X11.leave (v := some (.int (1 : Int32))) (fun h => by rw [Bd.returns] at h; cases h)
      refine ⟨_, _, retN X11 hx (t := .boolean) Bd.returns (by simp) (hb hby at_324) hr, hrun, hended, _, _, rfl, ?_, ⟨_, rfl⟩, hW, hsame.mono (by decide) (by decide)⟩
      show Q_rm0 Z p0 p1 p2 p3 h0 n0 _ T11.heap _
      rw [e11]
      exact ⟨rfl, N11⟩
    refine Go.st (fun _ k => XS.iloadN X10.here hx rfl (hb hby at_181) rfl k) ?_
    show Go p e below _ (T10.setTop (mkF m 182 #[.val (.int p0), .val (.int p1), .val (.int p2), .val (.int p3), .val (.int (0 : Int32)), .val (.int v3), .val (.int v3), .val (.int v4), .val (.int v5), .val (.int v6), .val (.int v7), .val (.int v8), .val (.ref b10), .unset, .unset, .unset, .unset, .unset] [(.int p3)]))
    refine Go.st (fun _ k => XS.iconst X10.here hx rfl (hb hby at_182) k) ?_
    show Go p e below _ (T10.setTop (mkF m 183 #[.val (.int p0), .val (.int p1), .val (.int p2), .val (.int p3), .val (.int (0 : Int32)), .val (.int v3), .val (.int v3), .val (.int v4), .val (.int v5), .val (.int v6), .val (.int v7), .val (.int v8), .val (.ref b10), .unset, .unset, .unset, .unset, .unset] [(.int (1 : Int32)), (.int p3)]))
    refine Go.st (fun _ k => XS.iand X10.here hx rfl (hb hby at_183) rfl k) ?_
    show Go p e below _ (T10.setTop (mkF m 184 #[.val (.int p0), .val (.int p1), .val (.int p2), .val (.int p3), .val (.int (0 : Int32)), .val (.int v3), .val (.int v3), .val (.int v4), .val (.int v5), .val (.int v6), .val (.int v7), .val (.int v8), .val (.ref b10), .unset, .unset, .unset, .unset, .unset] [(.int (p3 &&& (1 : Int32)))]))
    by_cases hc12 : (p3 &&& (1 : Int32)) = (0 : Int32)
    · show Go p e below _ (T10.setTop (mkF m 184 #[.val (.int p0), .val (.int p1), .val (.int p2), .val (.int p3), .val (.int (0 : Int32)), .val (.int v3), .val (.int v3), .val (.int v4), .val (.int v5), .val (.int v6), .val (.int v7), .val (.int v8), .val (.ref b10), .unset, .unset, .unset, .unset, .unset] [(.int (p3 &&& (1 : Int32)))]))
      refine Go.st (fun _ k => XS.ifYes X10.here hx rfl (pc0 := 184) (pc' := 193) rfl (hb hby at_184) rfl ((if0 _ _).trans (teq hc12).1) (by decide) (by decide) k) ?_
      show Go p e below _ (T10.setTop (mkF m 193 #[.val (.int p0), .val (.int p1), .val (.int p2), .val (.int p3), .val (.int (0 : Int32)), .val (.int v3), .val (.int v3), .val (.int v4), .val (.int v5), .val (.int v6), .val (.int v7), .val (.int v8), .val (.ref b10), .unset, .unset, .unset, .unset, .unset] []))
      refine Go.st (fun _ k => XS.iload X10.here hx rfl (hb hby at_193) rfl k) ?_
      show Go p e below _ (T10.setTop (mkF m 195 #[.val (.int p0), .val (.int p1), .val (.int p2), .val (.int p3), .val (.int (0 : Int32)), .val (.int v3), .val (.int v3), .val (.int v4), .val (.int v5), .val (.int v6), .val (.int v7), .val (.int v8), .val (.ref b10), .unset, .unset, .unset, .unset, .unset] [(.int v3)]))
      refine Go.st (fun _ k => XS.iconst X10.here hx rfl (hb hby at_195) k) ?_
      show Go p e below _ (T10.setTop (mkF m 196 #[.val (.int p0), .val (.int p1), .val (.int p2), .val (.int p3), .val (.int (0 : Int32)), .val (.int v3), .val (.int v3), .val (.int v4), .val (.int v5), .val (.int v6), .val (.int v7), .val (.int v8), .val (.ref b10), .unset, .unset, .unset, .unset, .unset] [(.int (2 : Int32)), (.int v3)]))
      refine Go.st (fun _ k => XS.isub X10.here hx rfl (hb hby at_196) rfl k) ?_
      show Go p e below _ (T10.setTop (mkF m 197 #[.val (.int p0), .val (.int p1), .val (.int p2), .val (.int p3), .val (.int (0 : Int32)), .val (.int v3), .val (.int v3), .val (.int v4), .val (.int v5), .val (.int v6), .val (.int v7), .val (.int v8), .val (.ref b10), .unset, .unset, .unset, .unset, .unset] [(.int (v3 - (2 : Int32)))]))
      refine Go.st (fun _ k => XS.iloadN X10.here hx rfl (hb hby at_197) rfl k) ?_
      show Go p e below _ (T10.setTop (mkF m 198 #[.val (.int p0), .val (.int p1), .val (.int p2), .val (.int p3), .val (.int (0 : Int32)), .val (.int v3), .val (.int v3), .val (.int v4), .val (.int v5), .val (.int v6), .val (.int v7), .val (.int v8), .val (.ref b10), .unset, .unset, .unset, .unset, .unset] [(.int p2), (.int (v3 - (2 : Int32)))]))
      refine Go.st (fun _ k => XS.bipush X10.here hx rfl (hb hby at_198) k) ?_
      show Go p e below _ (T10.setTop (mkF m 200 #[.val (.int p0), .val (.int p1), .val (.int p2), .val (.int p3), .val (.int (0 : Int32)), .val (.int v3), .val (.int v3), .val (.int v4), .val (.int v5), .val (.int v6), .val (.int v7), .val (.int v8), .val (.ref b10), .unset, .unset, .unset, .unset, .unset] [(.int (31 : Int32)), (.int p2), (.int (v3 - (2 : Int32)))]))
      refine Go.st (fun _ k => XS.iand X10.here hx rfl (hb hby at_200) rfl k) ?_
      show Go p e below _ (T10.setTop (mkF m 201 #[.val (.int p0), .val (.int p1), .val (.int p2), .val (.int p3), .val (.int (0 : Int32)), .val (.int v3), .val (.int v3), .val (.int v4), .val (.int v5), .val (.int v6), .val (.int v7), .val (.int v8), .val (.ref b10), .unset, .unset, .unset, .unset, .unset] [(.int (p2 &&& (31 : Int32))), (.int (v3 - (2 : Int32)))]))
      refine Go.st (fun _ k => XS.iadd X10.here hx rfl (hb hby at_201) rfl k) ?_
      show Go p e below _ (T10.setTop (mkF m 202 #[.val (.int p0), .val (.int p1), .val (.int p2), .val (.int p3), .val (.int (0 : Int32)), .val (.int v3), .val (.int v3), .val (.int v4), .val (.int v5), .val (.int v6), .val (.int v7), .val (.int v8), .val (.ref b10), .unset, .unset, .unset, .unset, .unset] [(.int ((v3 - (2 : Int32)) + (p2 &&& (31 : Int32))))]))
      generalize hv13 : ((v3 - (2 : Int32)) + (p2 &&& (31 : Int32))) = v13
      refine Go.st (fun _ k => XS.istore X10.here hx rfl (hb hby at_202) rfl (l' := #[.val (.int p0), .val (.int p1), .val (.int p2), .val (.int p3), .val (.int (0 : Int32)), .val (.int v3), .val (.int v3), .val (.int v4), .val (.int v5), .val (.int v6), .val (.int v7), .val (.int v8), .val (.ref b10), .val (.int v13), .unset, .unset, .unset, .unset]) rfl k) ?_
      show Go p e below _ (T10.setTop (mkF m 204 #[.val (.int p0), .val (.int p1), .val (.int p2), .val (.int p3), .val (.int (0 : Int32)), .val (.int v3), .val (.int v3), .val (.int v4), .val (.int v5), .val (.int v6), .val (.int v7), .val (.int v8), .val (.ref b10), .val (.int v13), .unset, .unset, .unset, .unset] []))
      exact key _
    · show Go p e below _ (T10.setTop (mkF m 184 #[.val (.int p0), .val (.int p1), .val (.int p2), .val (.int p3), .val (.int (0 : Int32)), .val (.int v3), .val (.int v3), .val (.int v4), .val (.int v5), .val (.int v6), .val (.int v7), .val (.int v8), .val (.ref b10), .unset, .unset, .unset, .unset, .unset] [(.int (p3 &&& (1 : Int32)))]))
      refine Go.st (fun _ k => XS.ifNo X10.here hx rfl (hb hby at_184) rfl ((if0 _ _).trans (feq hc12).1) k) ?_
      show Go p e below _ (T10.setTop (mkF m 187 #[.val (.int p0), .val (.int p1), .val (.int p2), .val (.int p3), .val (.int (0 : Int32)), .val (.int v3), .val (.int v3), .val (.int v4), .val (.int v5), .val (.int v6), .val (.int v7), .val (.int v8), .val (.ref b10), .unset, .unset, .unset, .unset, .unset] []))
      refine Go.st (fun _ k => XS.iloadN X10.here hx rfl (hb hby at_187) rfl k) ?_
      show Go p e below _ (T10.setTop (mkF m 188 #[.val (.int p0), .val (.int p1), .val (.int p2), .val (.int p3), .val (.int (0 : Int32)), .val (.int v3), .val (.int v3), .val (.int v4), .val (.int v5), .val (.int v6), .val (.int v7), .val (.int v8), .val (.ref b10), .unset, .unset, .unset, .unset, .unset] [(.int p2)]))
      refine Go.st (fun _ k => XS.istore X10.here hx rfl (hb hby at_188) rfl (l' := #[.val (.int p0), .val (.int p1), .val (.int p2), .val (.int p3), .val (.int (0 : Int32)), .val (.int v3), .val (.int v3), .val (.int v4), .val (.int v5), .val (.int v6), .val (.int v7), .val (.int v8), .val (.ref b10), .val (.int p2), .unset, .unset, .unset, .unset]) rfl k) ?_
      show Go p e below _ (T10.setTop (mkF m 190 #[.val (.int p0), .val (.int p1), .val (.int p2), .val (.int p3), .val (.int (0 : Int32)), .val (.int v3), .val (.int v3), .val (.int v4), .val (.int v5), .val (.int v6), .val (.int v7), .val (.int v8), .val (.ref b10), .val (.int p2), .unset, .unset, .unset, .unset] []))
      refine Go.st (fun _ k => XS.goto X10.here hx rfl (pc0 := 190) (pc' := 204) rfl (hb hby at_190) (by decide) (by decide) k) ?_
      show Go p e below _ (T10.setTop (mkF m 204 #[.val (.int p0), .val (.int p1), .val (.int p2), .val (.int p3), .val (.int (0 : Int32)), .val (.int v3), .val (.int v3), .val (.int v4), .val (.int v5), .val (.int v6), .val (.int v7), .val (.int v8), .val (.ref b10), .val (.int p2), .unset, .unset, .unset, .unset] []))
      exact key _
  · rw [hr9]
    show Go p e below _ (T2.setTop (mkF m 74 #[.val (.int p0), .val (.int p1), .val (.int p2), .val (.int p3), .val (.int (1 : Int32)), .val (.int v3), .val (.int v3), .val (.int v4), .val (.int v5), .val (.int v6), .val (.int v7), .val (.int v8), .unset, .unset, .unset, .unset, .unset, .unset] []))
    refine Go.st (fun _ k => XS.iload X2.here hx rfl (hb hby at_74) rfl k) ?_
    show Go p e below _ (T2.setTop (mkF m 76 #[.val (.int p0), .val (.int p1), .val (.int p2), .val (.int p3), .val (.int (1 : Int32)), .val (.int v3), .val (.int v3), .val (.int v4), .val (.int v5), .val (.int v6), .val (.int v7), .val (.int v8), .unset, .unset, .unset, .unset, .unset, .unset] [(.int (1 : Int32))]))
    refine Go.st (fun _ k => XS.ifYes X2.here hx rfl (pc0 := 76) (pc' := 87) rfl (hb hby at_76) rfl ((if0 _ _).trans (feq (by decide : ¬ ((1 : Int32) = (0 : Int32)))).2) (by decide) (by decide) k) ?_
    show Go p e below _ (T2.setTop (mkF m 87 #[.val (.int p0), .val (.int p1), .val (.int p2), .val (.int p3), .val (.int (1 : Int32)), .val (.int v3), .val (.int v3), .val (.int v4), .val (.int v5), .val (.int v6), .val (.int v7), .val (.int v8), .unset, .unset, .unset, .unset, .unset, .unset] []))
    refine Go.st (fun _ k => XS.iload X2.here hx rfl (hb hby at_87) rfl k) ?_
    show Go p e below _ (T2.setTop (mkF m 89 #[.val (.int p0), .val (.int p1), .val (.int p2), .val (.int p3), .val (.int (1 : Int32)), .val (.int v3), .val (.int v3), .val (.int v4), .val (.int v5), .val (.int v6), .val (.int v7), .val (.int v8), .unset, .unset, .unset, .unset, .unset, .unset] [(.int (1 : Int32))]))
    refine Go.st (fun _ k => XS.iconst X2.here hx rfl (hb hby at_89) k) ?_
    show Go p e below _ (T2.setTop (mkF m 90 #[.val (.int p0), .val (.int p1), .val (.int p2), .val (.int p3), .val (.int (1 : Int32)), .val (.int v3), .val (.int v3), .val (.int v4), .val (.int v5), .val (.int v6), .val (.int v7), .val (.int v8), .unset, .unset, .unset, .unset, .unset, .unset] [(.int (1 : Int32)), (.int (1 : Int32))]))
    refine Go.st (fun _ k => XS.icmpNo X2.here hx rfl (hb hby at_90) rfl (teq (by decide : ((1 : Int32) = (1 : Int32)))).2 k) ?_
    show Go p e below _ (T2.setTop (mkF m 93 #[.val (.int p0), .val (.int p1), .val (.int p2), .val (.int p3), .val (.int (1 : Int32)), .val (.int v3), .val (.int v3), .val (.int v4), .val (.int v5), .val (.int v6), .val (.int v7), .val (.int v8), .unset, .unset, .unset, .unset, .unset, .unset] []))
    refine Go.st (fun _ k => XS.iconst X2.here hx rfl (hb hby at_93) k) ?_
    show Go p e below _ (T2.setTop (mkF m 94 #[.val (.int p0), .val (.int p1), .val (.int p2), .val (.int p3), .val (.int (1 : Int32)), .val (.int v3), .val (.int v3), .val (.int v4), .val (.int v5), .val (.int v6), .val (.int v7), .val (.int v8), .unset, .unset, .unset, .unset, .unset, .unset] [(.int (2 : Int32))]))
    obtain ⟨T14, h14, k14, X14, e14, E14, A14, st14⟩ := newP X2 hx hZ (hw _ (List.mem_of_getElem? (i := 5) rfl)) e2 (g := (mkF m 94 #[.val (.int p0), .val (.int p1), .val (.int p2), .val (.int p3), .val (.int (1 : Int32)), .val (.int v3), .val (.int v3), .val (.int v4), .val (.int v5), .val (.int v6), .val (.int v7), .val (.int v8), .unset, .unset, .unset, .unset, .unset, .unset] [(.int (2 : Int32))])) rfl (hb hby at_94) rfl (by decide) (cap := 2) (by decide) (by decide) (by decide) (by decide)
    obtain ⟨b14, g14⟩ : ∃ z, z = h0.size := ⟨_, rfl⟩
    have gg14 : n0 ≤ b14 := Nat.le_trans Z0 (Nat.le_of_eq g14.symm)
    rw [← g14] at A14 st14
    have Z14 : n0 ≤ h14.size := Nat.le_trans Z0 E14.1
    have V14 : Arv Z h14 b14 k14 .int (2 : Int32) [(.int (0 : Int32)), (.int (0 : Int32))] (.int (0 : Int32)) := (Arv.new A14 (by decide)).pad (pad_rep [] (.int (0 : Int32)) 2)
    refine Go.st (fun _ k => st14 _ k) ?_
    show Go p e below _ (T14.setTop (mkF m 96 #[.val (.int p0), .val (.int p1), .val (.int p2), .val (.int p3), .val (.int (1 : Int32)), .val (.int v3), .val (.int v3), .val (.int v4), .val (.int v5), .val (.int v6), .val (.int v7), .val (.int v8), .unset, .unset, .unset, .unset, .unset, .unset] [(.ref b14)]))
    refine Go.st (fun _ k => XS.dup X14.here hx rfl (hb hby at_96) rfl rfl k) ?_
    show Go p e below _ (T14.setTop (mkF m 97 #[.val (.int p0), .val (.int p1), .val (.int p2), .val (.int p3), .val (.int (1 : Int32)), .val (.int v3), .val (.int v3), .val (.int v4), .val (.int v5), .val (.int v6), .val (.int v7), .val (.int v8), .unset, .unset, .unset, .unset, .unset, .unset] [(.ref b14), (.ref b14)]))
    refine Go.st (fun _ k => XS.iconst X14.here hx rfl (hb hby at_97) k) ?_
    show Go p e below _ (T14.setTop (mkF m 98 #[.val (.int p0), .val (.int p1), .val (.int p2), .val (.int p3), .val (.int (1 : Int32)), .val (.int v3), .val (.int v3), .val (.int v4), .val (.int v5), .val (.int v6), .val (.int v7), .val (.int v8), .unset, .unset, .unset, .unset, .unset, .unset] [(.int (0 : Int32)), (.ref b14), (.ref b14)]))
    refine Go.st (fun _ k => XS.iload X14.here hx rfl (hb hby at_98) rfl k) ?_
    show Go p e below _ (T14.setTop (mkF m 100 #[.val (.int p0), .val (.int p1), .val (.int p2), .val (.int p3), .val (.int (1 : Int32)), .val (.int v3), .val (.int v3), .val (.int v4), .val (.int v5), .val (.int v6), .val (.int v7), .val (.int v8), .unset, .unset, .unset, .unset, .unset, .unset] [(.int v3), (.int (0 : Int32)), (.ref b14), (.ref b14)]))
    obtain ⟨cl15, Ar15, ck15, Sz15, Nn15, Hs15, Gs15⟩ := id V14
    have hin15 : ¬ ((0 : Int32) < 0 ∨ cl15.slots.size ≤ ((0 : Int32)).toNatClampNeg) := inb_of Sz15 ⟨by decide, by decide⟩
    obtain ⟨T16, h16, X16, e16, W16, st16⟩ := stI X14 hx hZ e14 Ar15 (j := (0 : Int32)) hin15 (g := (mkF m 100 #[.val (.int p0), .val (.int p1), .val (.int p2), .val (.int p3), .val (.int (1 : Int32)), .val (.int v3), .val (.int v3), .val (.int v4), .val (.int v5), .val (.int v6), .val (.int v7), .val (.int v8), .unset, .unset, .unset, .unset, .unset, .unset] [(.int v3), (.int (0 : Int32)), (.ref b14), (.ref b14)])) rfl rfl (hb hby at_100)
    have V16 : Arv Z h16 b14 k14 .int (2 : Int32) [(.int v3), (.int (0 : Int32))] (.int (0 : Int32)) := Arv.set Ar15 ck15 Sz15 Nn15 Hs15 Gs15 rfl W16 0 rfl (Nat.le_of_ble_eq_true rfl)
    have N16 := Fr.snoc X16 N2 gg14
    have Z16 : n0 ≤ h16.size := by rw [W16.size]; exact Z14
    refine Go.st (fun _ k => st16 _ k) ?_
    show Go p e below _ (T16.setTop (mkF m 101 #[.val (.int p0), .val (.int p1), .val (.int p2), .val (.int p3), .val (.int (1 : Int32)), .val (.int v3), .val (.int v3), .val (.int v4), .val (.int v5), .val (.int v6), .val (.int v7), .val (.int v8), .unset, .unset, .unset, .unset, .unset, .unset] [(.ref b14)]))
    refine Go.st (fun _ k => XS.dup X16.here hx rfl (hb hby at_101) rfl rfl k) ?_
    show Go p e below _ (T16.setTop (mkF m 102 #[.val (.int p0), .val (.int p1), .val (.int p2), .val (.int p3), .val (.int (1 : Int32)), .val (.int v3), .val (.int v3), .val (.int v4), .val (.int v5), .val (.int v6), .val (.int v7), .val (.int v8), .unset, .unset, .unset, .unset, .unset, .unset] [(.ref b14), (.ref b14)]))
    refine Go.st (fun _ k => XS.iconst X16.here hx rfl (hb hby at_102) k) ?_
    show Go p e below _ (T16.setTop (mkF m 103 #[.val (.int p0), .val (.int p1), .val (.int p2), .val (.int p3), .val (.int (1 : Int32)), .val (.int v3), .val (.int v3), .val (.int v4), .val (.int v5), .val (.int v6), .val (.int v7), .val (.int v8), .unset, .unset, .unset, .unset, .unset, .unset] [(.int (1 : Int32)), (.ref b14), (.ref b14)]))
    refine Go.st (fun _ k => XS.iload X16.here hx rfl (hb hby at_103) rfl k) ?_
    show Go p e below _ (T16.setTop (mkF m 105 #[.val (.int p0), .val (.int p1), .val (.int p2), .val (.int p3), .val (.int (1 : Int32)), .val (.int v3), .val (.int v3), .val (.int v4), .val (.int v5), .val (.int v6), .val (.int v7), .val (.int v8), .unset, .unset, .unset, .unset, .unset, .unset] [(.int v4), (.int (1 : Int32)), (.ref b14), (.ref b14)]))
    obtain ⟨cl17, Ar17, ck17, Sz17, Nn17, Hs17, Gs17⟩ := id V16
    have hin17 : ¬ ((1 : Int32) < 0 ∨ cl17.slots.size ≤ ((1 : Int32)).toNatClampNeg) := inb_of Sz17 ⟨by decide, by decide⟩
    obtain ⟨T18, h18, X18, e18, W18, st18⟩ := stI X16 hx hZ e16 Ar17 (j := (1 : Int32)) hin17 (g := (mkF m 105 #[.val (.int p0), .val (.int p1), .val (.int p2), .val (.int p3), .val (.int (1 : Int32)), .val (.int v3), .val (.int v3), .val (.int v4), .val (.int v5), .val (.int v6), .val (.int v7), .val (.int v8), .unset, .unset, .unset, .unset, .unset, .unset] [(.int v4), (.int (1 : Int32)), (.ref b14), (.ref b14)])) rfl rfl (hb hby at_105)
    have V18 : Arv Z h18 b14 k14 .int (2 : Int32) [(.int v3), (.int v4)] (.int (0 : Int32)) := Arv.set Ar17 ck17 Sz17 Nn17 Hs17 Gs17 rfl W18 1 rfl (Nat.le_of_ble_eq_true rfl)
    have N18 := Fr.snoc X18 N16 gg14
    have Z18 : n0 ≤ h18.size := by rw [W18.size]; exact Z16
    refine Go.st (fun _ k => st18 _ k) ?_
    show Go p e below _ (T18.setTop (mkF m 106 #[.val (.int p0), .val (.int p1), .val (.int p2), .val (.int p3), .val (.int (1 : Int32)), .val (.int v3), .val (.int v3), .val (.int v4), .val (.int v5), .val (.int v6), .val (.int v7), .val (.int v8), .unset, .unset, .unset, .unset, .unset, .unset] [(.ref b14)]))
    refine Go.st (fun _ k => XS.astore X18.here hx rfl (hb hby at_106) rfl rfl (l' := #[.val (.int p0), .val (.int p1), .val (.int p2), .val (.int p3), .val (.int (1 : Int32)), .val (.int v3), .val (.int v3), .val (.int v4), .val (.int v5), .val (.int v6), .val (.int v7), .val (.int v8), .val (.ref b14), .unset, .unset, .unset, .unset, .unset]) rfl k) ?_
    show Go p e below _ (T18.setTop (mkF m 108 #[.val (.int p0), .val (.int p1), .val (.int p2), .val (.int p3), .val (.int (1 : Int32)), .val (.int v3), .val (.int v3), .val (.int v4), .val (.int v5), .val (.int v6), .val (.int v7), .val (.int v8), .val (.ref b14), .unset, .unset, .unset, .unset, .unset] []))
    refine Go.st (fun _ k => XS.goto X18.here hx rfl (pc0 := 108) (pc' := 181) rfl (hb hby at_108) (by decide) (by decide) k) ?_
    show Go p e below _ (T18.setTop (mkF m 181 #[.val (.int p0), .val (.int p1), .val (.int p2), .val (.int p3), .val (.int (1 : Int32)), .val (.int v3), .val (.int v3), .val (.int v4), .val (.int v5), .val (.int v6), .val (.int v7), .val (.int v8), .val (.ref b14), .unset, .unset, .unset, .unset, .unset] []))
    have key : ∀ (r : Int32), Go p e below (F_rm0 Z p0 p1 p2 p3 h0 n0 s) (T18.setTop (mkF m 204 #[.val (.int p0), .val (.int p1), .val (.int p2), .val (.int p3), .val (.int (1 : Int32)), .val (.int v3), .val (.int v3), .val (.int v4), .val (.int v5), .val (.int v6), .val (.int v7), .val (.int v8), .val (.ref b14), .val (.int r), .unset, .unset, .unset, .unset] [])) := by
      intro r
      show Go p e below _ (T18.setTop (mkF m 204 #[.val (.int p0), .val (.int p1), .val (.int p2), .val (.int p3), .val (.int (1 : Int32)), .val (.int v3), .val (.int v3), .val (.int v4), .val (.int v5), .val (.int v6), .val (.int v7), .val (.int v8), .val (.ref b14), .val (.int r), .unset, .unset, .unset, .unset] []))
      refine Go.st (fun _ k => XS.iload X18.here hx rfl (hb hby at_204) rfl k) ?_
      show Go p e below _ (T18.setTop (mkF m 206 #[.val (.int p0), .val (.int p1), .val (.int p2), .val (.int p3), .val (.int (1 : Int32)), .val (.int v3), .val (.int v3), .val (.int v4), .val (.int v5), .val (.int v6), .val (.int v7), .val (.int v8), .val (.ref b14), .val (.int r), .unset, .unset, .unset, .unset] [(.int (1 : Int32))]))
      refine Go.st (fun _ k => XS.iconst X18.here hx rfl (hb hby at_206) k) ?_
      show Go p e below _ (T18.setTop (mkF m 207 #[.val (.int p0), .val (.int p1), .val (.int p2), .val (.int p3), .val (.int (1 : Int32)), .val (.int v3), .val (.int v3), .val (.int v4), .val (.int v5), .val (.int v6), .val (.int v7), .val (.int v8), .val (.ref b14), .val (.int r), .unset, .unset, .unset, .unset] [(.int (1 : Int32)), (.int (1 : Int32))]))
      refine Go.st (fun _ k => XS.icmpNo X18.here hx rfl (hb hby at_207) rfl (flt (by decide : ¬ ((1 : Int32) < (1 : Int32)))).1 k) ?_
      show Go p e below _ (T18.setTop (mkF m 210 #[.val (.int p0), .val (.int p1), .val (.int p2), .val (.int p3), .val (.int (1 : Int32)), .val (.int v3), .val (.int v3), .val (.int v4), .val (.int v5), .val (.int v6), .val (.int v7), .val (.int v8), .val (.ref b14), .val (.int r), .unset, .unset, .unset, .unset] []))
      refine Go.st (fun _ k => XS.iload X18.here hx rfl (hb hby at_210) rfl k) ?_
      show Go p e below _ (T18.setTop (mkF m 212 #[.val (.int p0), .val (.int p1), .val (.int p2), .val (.int p3), .val (.int (1 : Int32)), .val (.int v3), .val (.int v3), .val (.int v4), .val (.int v5), .val (.int v6), .val (.int v7), .val (.int v8), .val (.ref b14), .val (.int r), .unset, .unset, .unset, .unset] [(.int v3)]))
      refine Go.st (fun _ k => XS.iload X18.here hx rfl (hb hby at_212) rfl k) ?_
      show Go p e below _ (T18.setTop (mkF m 214 #[.val (.int p0), .val (.int p1), .val (.int p2), .val (.int p3), .val (.int (1 : Int32)), .val (.int v3), .val (.int v3), .val (.int v4), .val (.int v5), .val (.int v6), .val (.int v7), .val (.int v8), .val (.ref b14), .val (.int r), .unset, .unset, .unset, .unset] [(.int r), (.int v3)]))
      by_cases hc19 : r < v3
      · show Go p e below _ (T18.setTop (mkF m 214 #[.val (.int p0), .val (.int p1), .val (.int p2), .val (.int p3), .val (.int (1 : Int32)), .val (.int v3), .val (.int v3), .val (.int v4), .val (.int v5), .val (.int v6), .val (.int v7), .val (.int v8), .val (.ref b14), .val (.int r), .unset, .unset, .unset, .unset] [(.int r), (.int v3)]))
        refine Go.st (fun _ k => XS.icmpYes X18.here hx rfl (pc0 := 214) (pc' := 228) rfl (hb hby at_214) rfl (tlt hc19).2.2.1 (by decide) (by decide) k) ?_
        show Go p e below _ (T18.setTop (mkF m 228 #[.val (.int p0), .val (.int p1), .val (.int p2), .val (.int p3), .val (.int (1 : Int32)), .val (.int v3), .val (.int v3), .val (.int v4), .val (.int v5), .val (.int v6), .val (.int v7), .val (.int v8), .val (.ref b14), .val (.int r), .unset, .unset, .unset, .unset] []))
        refine Go.st (fun _ k => XS.iconst X18.here hx rfl (hb hby at_228) k) ?_
        show Go p e below _ (T18.setTop (mkF m 229 #[.val (.int p0), .val (.int p1), .val (.int p2), .val (.int p3), .val (.int (1 : Int32)), .val (.int v3), .val (.int v3), .val (.int v4), .val (.int v5), .val (.int v6), .val (.int v7), .val (.int v8), .val (.ref b14), .val (.int r), .unset, .unset, .unset, .unset] [(.int (0 : Int32))]))
        refine Go.st (fun _ k => XS.istore X18.here hx rfl (hb hby at_229) rfl (l' := #[.val (.int p0), .val (.int p1), .val (.int p2), .val (.int p3), .val (.int (1 : Int32)), .val (.int v3), .val (.int v3), .val (.int v4), .val (.int v5), .val (.int v6), .val (.int v7), .val (.int v8), .val (.ref b14), .val (.int r), .val (.int (0 : Int32)), .unset, .unset, .unset]) rfl k) ?_
        show Go p e below _ (T18.setTop (mkF m 231 #[.val (.int p0), .val (.int p1), .val (.int p2), .val (.int p3), .val (.int (1 : Int32)), .val (.int v3), .val (.int v3), .val (.int v4), .val (.int v5), .val (.int v6), .val (.int v7), .val (.int v8), .val (.ref b14), .val (.int r), .val (.int (0 : Int32)), .unset, .unset, .unset] []))
        refine Go.st (fun _ k => XS.iload X18.here hx rfl (hb hby at_231) rfl k) ?_
        show Go p e below _ (T18.setTop (mkF m 233 #[.val (.int p0), .val (.int p1), .val (.int p2), .val (.int p3), .val (.int (1 : Int32)), .val (.int v3), .val (.int v3), .val (.int v4), .val (.int v5), .val (.int v6), .val (.int v7), .val (.int v8), .val (.ref b14), .val (.int r), .val (.int (0 : Int32)), .unset, .unset, .unset] [(.int (1 : Int32))]))
        refine Go.st (fun _ k => XS.iconst X18.here hx rfl (hb hby at_233) k) ?_
        show Go p e below _ (T18.setTop (mkF m 234 #[.val (.int p0), .val (.int p1), .val (.int p2), .val (.int p3), .val (.int (1 : Int32)), .val (.int v3), .val (.int v3), .val (.int v4), .val (.int v5), .val (.int v6), .val (.int v7), .val (.int v8), .val (.ref b14), .val (.int r), .val (.int (0 : Int32)), .unset, .unset, .unset] [(.int (2 : Int32)), (.int (1 : Int32))]))
        refine Go.st (fun _ k => XS.icmpYes X18.here hx rfl (pc0 := 234) (pc' := 255) rfl (hb hby at_234) rfl (tlt (by decide : ((1 : Int32) < (2 : Int32)))).1 (by decide) (by decide) k) ?_
        show Go p e below _ (T18.setTop (mkF m 255 #[.val (.int p0), .val (.int p1), .val (.int p2), .val (.int p3), .val (.int (1 : Int32)), .val (.int v3), .val (.int v3), .val (.int v4), .val (.int v5), .val (.int v6), .val (.int v7), .val (.int v8), .val (.ref b14), .val (.int r), .val (.int (0 : Int32)), .unset, .unset, .unset] []))
        refine Go.st (fun _ k => XS.iconst X18.here hx rfl (hb hby at_255) k) ?_
        show Go p e below _ (T18.setTop (mkF m 256 #[.val (.int p0), .val (.int p1), .val (.int p2), .val (.int p3), .val (.int (1 : Int32)), .val (.int v3), .val (.int v3), .val (.int v4), .val (.int v5), .val (.int v6), .val (.int v7), .val (.int v8), .val (.ref b14), .val (.int r), .val (.int (0 : Int32)), .unset, .unset, .unset] [(.int (0 : Int32))]))
        refine Go.st (fun _ k => XS.istore X18.here hx rfl (hb hby at_256) rfl (l' := #[.val (.int p0), .val (.int p1), .val (.int p2), .val (.int p3), .val (.int (1 : Int32)), .val (.int v3), .val (.int v3), .val (.int v4), .val (.int v5), .val (.int v6), .val (.int v7), .val (.int v8), .val (.ref b14), .val (.int r), .val (.int (0 : Int32)), .val (.int (0 : Int32)), .unset, .unset]) rfl k) ?_
        show Go p e below _ (T18.setTop (mkF m 258 #[.val (.int p0), .val (.int p1), .val (.int p2), .val (.int p3), .val (.int (1 : Int32)), .val (.int v3), .val (.int v3), .val (.int v4), .val (.int v5), .val (.int v6), .val (.int v7), .val (.int v8), .val (.ref b14), .val (.int r), .val (.int (0 : Int32)), .val (.int (0 : Int32)), .unset, .unset] []))
        refine Go.st (fun _ k => XS.iload X18.here hx rfl (hb hby at_258) rfl k) ?_
        show Go p e below _ (T18.setTop (mkF m 260 #[.val (.int p0), .val (.int p1), .val (.int p2), .val (.int p3), .val (.int (1 : Int32)), .val (.int v3), .val (.int v3), .val (.int v4), .val (.int v5), .val (.int v6), .val (.int v7), .val (.int v8), .val (.ref b14), .val (.int r), .val (.int (0 : Int32)), .val (.int (0 : Int32)), .unset, .unset] [(.int (1 : Int32))]))
        refine Go.st (fun _ k => XS.iconst X18.here hx rfl (hb hby at_260) k) ?_
        show Go p e below _ (T18.setTop (mkF m 261 #[.val (.int p0), .val (.int p1), .val (.int p2), .val (.int p3), .val (.int (1 : Int32)), .val (.int v3), .val (.int v3), .val (.int v4), .val (.int v5), .val (.int v6), .val (.int v7), .val (.int v8), .val (.ref b14), .val (.int r), .val (.int (0 : Int32)), .val (.int (0 : Int32)), .unset, .unset] [(.int (3 : Int32)), (.int (1 : Int32))]))
        refine Go.st (fun _ k => XS.icmpYes X18.here hx rfl (pc0 := 261) (pc' := 282) rfl (hb hby at_261) rfl (tlt (by decide : ((1 : Int32) < (3 : Int32)))).1 (by decide) (by decide) k) ?_
        show Go p e below _ (T18.setTop (mkF m 282 #[.val (.int p0), .val (.int p1), .val (.int p2), .val (.int p3), .val (.int (1 : Int32)), .val (.int v3), .val (.int v3), .val (.int v4), .val (.int v5), .val (.int v6), .val (.int v7), .val (.int v8), .val (.ref b14), .val (.int r), .val (.int (0 : Int32)), .val (.int (0 : Int32)), .unset, .unset] []))
        refine Go.st (fun _ k => XS.iconst X18.here hx rfl (hb hby at_282) k) ?_
        show Go p e below _ (T18.setTop (mkF m 283 #[.val (.int p0), .val (.int p1), .val (.int p2), .val (.int p3), .val (.int (1 : Int32)), .val (.int v3), .val (.int v3), .val (.int v4), .val (.int v5), .val (.int v6), .val (.int v7), .val (.int v8), .val (.ref b14), .val (.int r), .val (.int (0 : Int32)), .val (.int (0 : Int32)), .unset, .unset] [(.int (0 : Int32))]))
        refine Go.st (fun _ k => XS.istore X18.here hx rfl (hb hby at_283) rfl (l' := #[.val (.int p0), .val (.int p1), .val (.int p2), .val (.int p3), .val (.int (1 : Int32)), .val (.int v3), .val (.int v3), .val (.int v4), .val (.int v5), .val (.int v6), .val (.int v7), .val (.int v8), .val (.ref b14), .val (.int r), .val (.int (0 : Int32)), .val (.int (0 : Int32)), .val (.int (0 : Int32)), .unset]) rfl k) ?_
        show Go p e below _ (T18.setTop (mkF m 285 #[.val (.int p0), .val (.int p1), .val (.int p2), .val (.int p3), .val (.int (1 : Int32)), .val (.int v3), .val (.int v3), .val (.int v4), .val (.int v5), .val (.int v6), .val (.int v7), .val (.int v8), .val (.ref b14), .val (.int r), .val (.int (0 : Int32)), .val (.int (0 : Int32)), .val (.int (0 : Int32)), .unset] []))
        refine Go.st (fun _ k => XS.iload X18.here hx rfl (hb hby at_285) rfl k) ?_
        show Go p e below _ (T18.setTop (mkF m 287 #[.val (.int p0), .val (.int p1), .val (.int p2), .val (.int p3), .val (.int (1 : Int32)), .val (.int v3), .val (.int v3), .val (.int v4), .val (.int v5), .val (.int v6), .val (.int v7), .val (.int v8), .val (.ref b14), .val (.int r), .val (.int (0 : Int32)), .val (.int (0 : Int32)), .val (.int (0 : Int32)), .unset] [(.int (0 : Int32))]))
        refine Go.st (fun _ k => XS.ifNo X18.here hx rfl (hb hby at_287) rfl ((if0 _ _).trans (teq (by decide : ((0 : Int32) = (0 : Int32)))).2) k) ?_
        show Go p e below _ (T18.setTop (mkF m 290 #[.val (.int p0), .val (.int p1), .val (.int p2), .val (.int p3), .val (.int (1 : Int32)), .val (.int v3), .val (.int v3), .val (.int v4), .val (.int v5), .val (.int v6), .val (.int v7), .val (.int v8), .val (.ref b14), .val (.int r), .val (.int (0 : Int32)), .val (.int (0 : Int32)), .val (.int (0 : Int32)), .unset] []))
        refine Go.st (fun _ k => XS.iload X18.here hx rfl (hb hby at_290) rfl k) ?_
        show Go p e below _ (T18.setTop (mkF m 292 #[.val (.int p0), .val (.int p1), .val (.int p2), .val (.int p3), .val (.int (1 : Int32)), .val (.int v3), .val (.int v3), .val (.int v4), .val (.int v5), .val (.int v6), .val (.int v7), .val (.int v8), .val (.ref b14), .val (.int r), .val (.int (0 : Int32)), .val (.int (0 : Int32)), .val (.int (0 : Int32)), .unset] [(.int (0 : Int32))]))
        refine Go.st (fun _ k => XS.ifNo X18.here hx rfl (hb hby at_292) rfl ((if0 _ _).trans (teq (by decide : ((0 : Int32) = (0 : Int32)))).2) k) ?_
        show Go p e below _ (T18.setTop (mkF m 295 #[.val (.int p0), .val (.int p1), .val (.int p2), .val (.int p3), .val (.int (1 : Int32)), .val (.int v3), .val (.int v3), .val (.int v4), .val (.int v5), .val (.int v6), .val (.int v7), .val (.int v8), .val (.ref b14), .val (.int r), .val (.int (0 : Int32)), .val (.int (0 : Int32)), .val (.int (0 : Int32)), .unset] []))
        refine Go.st (fun _ k => XS.iload X18.here hx rfl (hb hby at_295) rfl k) ?_
        show Go p e below _ (T18.setTop (mkF m 297 #[.val (.int p0), .val (.int p1), .val (.int p2), .val (.int p3), .val (.int (1 : Int32)), .val (.int v3), .val (.int v3), .val (.int v4), .val (.int v5), .val (.int v6), .val (.int v7), .val (.int v8), .val (.ref b14), .val (.int r), .val (.int (0 : Int32)), .val (.int (0 : Int32)), .val (.int (0 : Int32)), .unset] [(.int (0 : Int32))]))
        refine Go.st (fun _ k => XS.ifYes X18.here hx rfl (pc0 := 297) (pc' := 304) rfl (hb hby at_297) rfl ((if0 _ _).trans (teq (by decide : ((0 : Int32) = (0 : Int32)))).1) (by decide) (by decide) k) ?_
        show Go p e below _ (T18.setTop (mkF m 304 #[.val (.int p0), .val (.int p1), .val (.int p2), .val (.int p3), .val (.int (1 : Int32)), .val (.int v3), .val (.int v3), .val (.int v4), .val (.int v5), .val (.int v6), .val (.int v7), .val (.int v8), .val (.ref b14), .val (.int r), .val (.int (0 : Int32)), .val (.int (0 : Int32)), .val (.int (0 : Int32)), .unset] []))
        refine Go.st (fun _ k => XS.iconst X18.here hx rfl (hb hby at_304) k) ?_
        show Go p e below _ (T18.setTop (mkF m 305 #[.val (.int p0), .val (.int p1), .val (.int p2), .val (.int p3), .val (.int (1 : Int32)), .val (.int v3), .val (.int v3), .val (.int v4), .val (.int v5), .val (.int v6), .val (.int v7), .val (.int v8), .val (.ref b14), .val (.int r), .val (.int (0 : Int32)), .val (.int (0 : Int32)), .val (.int (0 : Int32)), .unset] [(.int (0 : Int32))]))
        refine Go.st (fun _ k => XS.istore X18.here hx rfl (hb hby at_305) rfl (l' := #[.val (.int p0), .val (.int p1), .val (.int p2), .val (.int p3), .val (.int (1 : Int32)), .val (.int v3), .val (.int v3), .val (.int v4), .val (.int v5), .val (.int v6), .val (.int v7), .val (.int v8), .val (.ref b14), .val (.int r), .val (.int (0 : Int32)), .val (.int (0 : Int32)), .val (.int (0 : Int32)), .val (.int (0 : Int32))]) rfl k) ?_
        show Go p e below _ (T18.setTop (mkF m 307 #[.val (.int p0), .val (.int p1), .val (.int p2), .val (.int p3), .val (.int (1 : Int32)), .val (.int v3), .val (.int v3), .val (.int v4), .val (.int v5), .val (.int v6), .val (.int v7), .val (.int v8), .val (.ref b14), .val (.int r), .val (.int (0 : Int32)), .val (.int (0 : Int32)), .val (.int (0 : Int32)), .val (.int (0 : Int32))] []))
        refine Go.st (fun _ k => XS.aload X18.here hx rfl (hb hby at_307) rfl rfl k) ?_
        show Go p e below _ (T18.setTop (mkF m 309 #[.val (.int p0), .val (.int p1), .val (.int p2), .val (.int p3), .val (.int (1 : Int32)), .val (.int v3), .val (.int v3), .val (.int v4), .val (.int v5), .val (.int v6), .val (.int v7), .val (.int v8), .val (.ref b14), .val (.int r), .val (.int (0 : Int32)), .val (.int (0 : Int32)), .val (.int (0 : Int32)), .val (.int (0 : Int32))] [(.ref b14)]))
        refine Go.st (fun _ k => XS.iload X18.here hx rfl (hb hby at_309) rfl k) ?_
        show Go p e below _ (T18.setTop (mkF m 311 #[.val (.int p0), .val (.int p1), .val (.int p2), .val (.int p3), .val (.int (1 : Int32)), .val (.int v3), .val (.int v3), .val (.int v4), .val (.int v5), .val (.int v6), .val (.int v7), .val (.int v8), .val (.ref b14), .val (.int r), .val (.int (0 : Int32)), .val (.int (0 : Int32)), .val (.int (0 : Int32)), .val (.int (0 : Int32))] [(.int r), (.ref b14)]))
        obtain ⟨_, _, ⟨T20, L20, k20, n20⟩, -, X20, ⟨Lc20, hQ20, l20, y20, z20⟩, st20⟩ := Jvm.LawKit.callS X18 hx (y := (⟨"com/example/weir/weir/route/ValueRegions", "contains", "([II)Z"⟩ : MethodName)) hown (mvT hZ (hw _ (List.mem_of_getElem? (i := 6) rfl))) (mvT hZ (hw _ (List.mem_of_getElem? (i := 7) rfl))) (mvT hZ (hw _ (List.mem_of_getElem? (i := 8) rfl))) (mvT hZ (hw _ (List.mem_of_getElem? (i := 9) rfl))) (by decide) (backOf (W := 0) (rmC2 l Z aZ hw [] b14 r k14 v3 v4 h18 n0 V18) hZ (hw _ (List.mem_of_getElem? (i := 9) rfl)) (hw _ (List.mem_of_getElem? (i := 8) rfl)) (by decide) (by decide)) (g := (mkF m 311 #[.val (.int p0), .val (.int p1), .val (.int p2), .val (.int p3), .val (.int (1 : Int32)), .val (.int v3), .val (.int v3), .val (.int v4), .val (.int v5), .val (.int v6), .val (.int v7), .val (.int v8), .val (.ref b14), .val (.int r), .val (.int (0 : Int32)), .val (.int (0 : Int32)), .val (.int (0 : Int32)), .val (.int (0 : Int32))] [(.int r), (.ref b14)])) rfl (by rw [hml]; rfl) (argsL := [(.ref b14), (.int r)]) (rest := []) (lenOf pd93e6ecdc rfl) rfl (by show 2 * 0 + _ ≤ _; exact Nat.le_of_eq rfl) (hb hby at_311) (fun _ _ => ⟨rfl, e18, (by decide : 1 + 0 ≤ _), (by decide : 2 + 0 ≤ _)⟩)
        dsimp only [Pt.U, Pt.locs, Pt.cells, Pt.slots] at X20 l20 y20 z20 st20 hQ20
        subst l20 y20 z20
        obtain ⟨rfl, N20q, e20⟩ := hQ20
        have N20 := Fr.app N18 N20q
        refine Go.st (fun _ k => st20 _ k) ?_
        show Go p e below _ (T20.setTop (mkF m 314 #[.val (.int p0), .val (.int p1), .val (.int p2), .val (.int p3), .val (.int (1 : Int32)), .val (.int v3), .val (.int v3), .val (.int v4), .val (.int v5), .val (.int v6), .val (.int v7), .val (.int v8), .val (.ref b14), .val (.int r), .val (.int (0 : Int32)), .val (.int (0 : Int32)), .val (.int (0 : Int32)), .val (.int (0 : Int32))] [(.int (fC2 r v3 v4))]))
        refine Go.st (fun _ k => XS.iload X20.here hx rfl (hb hby at_314) rfl k) ?_
        show Go p e below _ (T20.setTop (mkF m 316 #[.val (.int p0), .val (.int p1), .val (.int p2), .val (.int p3), .val (.int (1 : Int32)), .val (.int v3), .val (.int v3), .val (.int v4), .val (.int v5), .val (.int v6), .val (.int v7), .val (.int v8), .val (.ref b14), .val (.int r), .val (.int (0 : Int32)), .val (.int (0 : Int32)), .val (.int (0 : Int32)), .val (.int (0 : Int32))] [(.int (0 : Int32)), (.int (fC2 r v3 v4))]))
        refine Go.st (fun _ k => XS.icmpNo X20.here hx rfl (hb hby at_316) rfl (teq (by unfold fC2; rw [if_pos hc19])).2 k) ?_
        show Go p e below _ (T20.setTop (mkF m 319 #[.val (.int p0), .val (.int p1), .val (.int p2), .val (.int p3), .val (.int (1 : Int32)), .val (.int v3), .val (.int v3), .val (.int v4), .val (.int v5), .val (.int v6), .val (.int v7), .val (.int v8), .val (.ref b14), .val (.int r), .val (.int (0 : Int32)), .val (.int (0 : Int32)), .val (.int (0 : Int32)), .val (.int (0 : Int32))] []))
        refine Go.st (fun _ k => XS.iconst X20.here hx rfl (hb hby at_319) k) ?_
        show Go p e below _ (T20.setTop (mkF m 320 #[.val (.int p0), .val (.int p1), .val (.int p2), .val (.int p3), .val (.int (1 : Int32)), .val (.int v3), .val (.int v3), .val (.int v4), .val (.int v5), .val (.int v6), .val (.int v7), .val (.int v8), .val (.ref b14), .val (.int r), .val (.int (0 : Int32)), .val (.int (0 : Int32)), .val (.int (0 : Int32)), .val (.int (0 : Int32))] [(.int (1 : Int32))]))
        refine Go.st (fun _ k => XS.goto X20.here hx rfl (pc0 := 320) (pc' := 324) rfl (hb hby at_320) (by decide) (by decide) k) ?_
        show Go p e below _ (T20.setTop (mkF m 324 #[.val (.int p0), .val (.int p1), .val (.int p2), .val (.int p3), .val (.int (1 : Int32)), .val (.int v3), .val (.int v3), .val (.int v4), .val (.int v5), .val (.int v6), .val (.int v7), .val (.int v8), .val (.ref b14), .val (.int r), .val (.int (0 : Int32)), .val (.int (0 : Int32)), .val (.int (0 : Int32)), .val (.int (0 : Int32))] [(.int (1 : Int32))]))
        obtain ⟨fs, hr, hrun, hended, hW, hsame⟩ := X20.leave (v := some (.int (1 : Int32))) (fun h => by rw [Bd.returns] at h; cases h)
        refine ⟨_, _, retN X20 hx (t := .boolean) Bd.returns (by simp) (hb hby at_324) hr, hrun, hended, _, _, rfl, ?_, ⟨_, rfl⟩, hW, hsame.mono (by decide) (by decide)⟩
        show Q_rm0 Z p0 p1 p2 p3 h0 n0 _ T20.heap _
        rw [e20]
        exact ⟨rfl, N20⟩
      · show Go p e below _ (T18.setTop (mkF m 214 #[.val (.int p0), .val (.int p1), .val (.int p2), .val (.int p3), .val (.int (1 : Int32)), .val (.int v3), .val (.int v3), .val (.int v4), .val (.int v5), .val (.int v6), .val (.int v7), .val (.int v8), .val (.ref b14), .val (.int r), .unset, .unset, .unset, .unset] [(.int r), (.int v3)]))
        refine Go.st (fun _ k => XS.icmpNo X18.here hx rfl (hb hby at_214) rfl (flt hc19).2.2.1 k) ?_
        show Go p e below _ (T18.setTop (mkF m 217 #[.val (.int p0), .val (.int p1), .val (.int p2), .val (.int p3), .val (.int (1 : Int32)), .val (.int v3), .val (.int v3), .val (.int v4), .val (.int v5), .val (.int v6), .val (.int v7), .val (.int v8), .val (.ref b14), .val (.int r), .unset, .unset, .unset, .unset] []))
        refine Go.st (fun _ k => XS.iload X18.here hx rfl (hb hby at_217) rfl k) ?_
        show Go p e below _ (T18.setTop (mkF m 219 #[.val (.int p0), .val (.int p1), .val (.int p2), .val (.int p3), .val (.int (1 : Int32)), .val (.int v3), .val (.int v3), .val (.int v4), .val (.int v5), .val (.int v6), .val (.int v7), .val (.int v8), .val (.ref b14), .val (.int r), .unset, .unset, .unset, .unset] [(.int r)]))
        refine Go.st (fun _ k => XS.iload X18.here hx rfl (hb hby at_219) rfl k) ?_
        show Go p e below _ (T18.setTop (mkF m 221 #[.val (.int p0), .val (.int p1), .val (.int p2), .val (.int p3), .val (.int (1 : Int32)), .val (.int v3), .val (.int v3), .val (.int v4), .val (.int v5), .val (.int v6), .val (.int v7), .val (.int v8), .val (.ref b14), .val (.int r), .unset, .unset, .unset, .unset] [(.int v4), (.int r)]))
        by_cases hc21 : v4 < r
        · show Go p e below _ (T18.setTop (mkF m 221 #[.val (.int p0), .val (.int p1), .val (.int p2), .val (.int p3), .val (.int (1 : Int32)), .val (.int v3), .val (.int v3), .val (.int v4), .val (.int v5), .val (.int v6), .val (.int v7), .val (.int v8), .val (.ref b14), .val (.int r), .unset, .unset, .unset, .unset] [(.int v4), (.int r)]))
          refine Go.st (fun _ k => XS.icmpYes X18.here hx rfl (pc0 := 221) (pc' := 228) rfl (hb hby at_221) rfl (tlt hc21).2.2.1 (by decide) (by decide) k) ?_
          show Go p e below _ (T18.setTop (mkF m 228 #[.val (.int p0), .val (.int p1), .val (.int p2), .val (.int p3), .val (.int (1 : Int32)), .val (.int v3), .val (.int v3), .val (.int v4), .val (.int v5), .val (.int v6), .val (.int v7), .val (.int v8), .val (.ref b14), .val (.int r), .unset, .unset, .unset, .unset] []))
          refine Go.st (fun _ k => XS.iconst X18.here hx rfl (hb hby at_228) k) ?_
          show Go p e below _ (T18.setTop (mkF m 229 #[.val (.int p0), .val (.int p1), .val (.int p2), .val (.int p3), .val (.int (1 : Int32)), .val (.int v3), .val (.int v3), .val (.int v4), .val (.int v5), .val (.int v6), .val (.int v7), .val (.int v8), .val (.ref b14), .val (.int r), .unset, .unset, .unset, .unset] [(.int (0 : Int32))]))
          refine Go.st (fun _ k => XS.istore X18.here hx rfl (hb hby at_229) rfl (l' := #[.val (.int p0), .val (.int p1), .val (.int p2), .val (.int p3), .val (.int (1 : Int32)), .val (.int v3), .val (.int v3), .val (.int v4), .val (.int v5), .val (.int v6), .val (.int v7), .val (.int v8), .val (.ref b14), .val (.int r), .val (.int (0 : Int32)), .unset, .unset, .unset]) rfl k) ?_
          show Go p e below _ (T18.setTop (mkF m 231 #[.val (.int p0), .val (.int p1), .val (.int p2), .val (.int p3), .val (.int (1 : Int32)), .val (.int v3), .val (.int v3), .val (.int v4), .val (.int v5), .val (.int v6), .val (.int v7), .val (.int v8), .val (.ref b14), .val (.int r), .val (.int (0 : Int32)), .unset, .unset, .unset] []))
          refine Go.st (fun _ k => XS.iload X18.here hx rfl (hb hby at_231) rfl k) ?_
          show Go p e below _ (T18.setTop (mkF m 233 #[.val (.int p0), .val (.int p1), .val (.int p2), .val (.int p3), .val (.int (1 : Int32)), .val (.int v3), .val (.int v3), .val (.int v4), .val (.int v5), .val (.int v6), .val (.int v7), .val (.int v8), .val (.ref b14), .val (.int r), .val (.int (0 : Int32)), .unset, .unset, .unset] [(.int (1 : Int32))]))
          refine Go.st (fun _ k => XS.iconst X18.here hx rfl (hb hby at_233) k) ?_
          show Go p e below _ (T18.setTop (mkF m 234 #[.val (.int p0), .val (.int p1), .val (.int p2), .val (.int p3), .val (.int (1 : Int32)), .val (.int v3), .val (.int v3), .val (.int v4), .val (.int v5), .val (.int v6), .val (.int v7), .val (.int v8), .val (.ref b14), .val (.int r), .val (.int (0 : Int32)), .unset, .unset, .unset] [(.int (2 : Int32)), (.int (1 : Int32))]))
          refine Go.st (fun _ k => XS.icmpYes X18.here hx rfl (pc0 := 234) (pc' := 255) rfl (hb hby at_234) rfl (tlt (by decide : ((1 : Int32) < (2 : Int32)))).1 (by decide) (by decide) k) ?_
          show Go p e below _ (T18.setTop (mkF m 255 #[.val (.int p0), .val (.int p1), .val (.int p2), .val (.int p3), .val (.int (1 : Int32)), .val (.int v3), .val (.int v3), .val (.int v4), .val (.int v5), .val (.int v6), .val (.int v7), .val (.int v8), .val (.ref b14), .val (.int r), .val (.int (0 : Int32)), .unset, .unset, .unset] []))
          refine Go.st (fun _ k => XS.iconst X18.here hx rfl (hb hby at_255) k) ?_
          show Go p e below _ (T18.setTop (mkF m 256 #[.val (.int p0), .val (.int p1), .val (.int p2), .val (.int p3), .val (.int (1 : Int32)), .val (.int v3), .val (.int v3), .val (.int v4), .val (.int v5), .val (.int v6), .val (.int v7), .val (.int v8), .val (.ref b14), .val (.int r), .val (.int (0 : Int32)), .unset, .unset, .unset] [(.int (0 : Int32))]))
          refine Go.st (fun _ k => XS.istore X18.here hx rfl (hb hby at_256) rfl (l' := #[.val (.int p0), .val (.int p1), .val (.int p2), .val (.int p3), .val (.int (1 : Int32)), .val (.int v3), .val (.int v3), .val (.int v4), .val (.int v5), .val (.int v6), .val (.int v7), .val (.int v8), .val (.ref b14), .val (.int r), .val (.int (0 : Int32)), .val (.int (0 : Int32)), .unset, .unset]) rfl k) ?_
          show Go p e below _ (T18.setTop (mkF m 258 #[.val (.int p0), .val (.int p1), .val (.int p2), .val (.int p3), .val (.int (1 : Int32)), .val (.int v3), .val (.int v3), .val (.int v4), .val (.int v5), .val (.int v6), .val (.int v7), .val (.int v8), .val (.ref b14), .val (.int r), .val (.int (0 : Int32)), .val (.int (0 : Int32)), .unset, .unset] []))
          refine Go.st (fun _ k => XS.iload X18.here hx rfl (hb hby at_258) rfl k) ?_
          show Go p e below _ (T18.setTop (mkF m 260 #[.val (.int p0), .val (.int p1), .val (.int p2), .val (.int p3), .val (.int (1 : Int32)), .val (.int v3), .val (.int v3), .val (.int v4), .val (.int v5), .val (.int v6), .val (.int v7), .val (.int v8), .val (.ref b14), .val (.int r), .val (.int (0 : Int32)), .val (.int (0 : Int32)), .unset, .unset] [(.int (1 : Int32))]))
          refine Go.st (fun _ k => XS.iconst X18.here hx rfl (hb hby at_260) k) ?_
          show Go p e below _ (T18.setTop (mkF m 261 #[.val (.int p0), .val (.int p1), .val (.int p2), .val (.int p3), .val (.int (1 : Int32)), .val (.int v3), .val (.int v3), .val (.int v4), .val (.int v5), .val (.int v6), .val (.int v7), .val (.int v8), .val (.ref b14), .val (.int r), .val (.int (0 : Int32)), .val (.int (0 : Int32)), .unset, .unset] [(.int (3 : Int32)), (.int (1 : Int32))]))
          refine Go.st (fun _ k => XS.icmpYes X18.here hx rfl (pc0 := 261) (pc' := 282) rfl (hb hby at_261) rfl (tlt (by decide : ((1 : Int32) < (3 : Int32)))).1 (by decide) (by decide) k) ?_
          show Go p e below _ (T18.setTop (mkF m 282 #[.val (.int p0), .val (.int p1), .val (.int p2), .val (.int p3), .val (.int (1 : Int32)), .val (.int v3), .val (.int v3), .val (.int v4), .val (.int v5), .val (.int v6), .val (.int v7), .val (.int v8), .val (.ref b14), .val (.int r), .val (.int (0 : Int32)), .val (.int (0 : Int32)), .unset, .unset] []))
          refine Go.st (fun _ k => XS.iconst X18.here hx rfl (hb hby at_282) k) ?_
          show Go p e below _ (T18.setTop (mkF m 283 #[.val (.int p0), .val (.int p1), .val (.int p2), .val (.int p3), .val (.int (1 : Int32)), .val (.int v3), .val (.int v3), .val (.int v4), .val (.int v5), .val (.int v6), .val (.int v7), .val (.int v8), .val (.ref b14), .val (.int r), .val (.int (0 : Int32)), .val (.int (0 : Int32)), .unset, .unset] [(.int (0 : Int32))]))
          refine Go.st (fun _ k => XS.istore X18.here hx rfl (hb hby at_283) rfl (l' := #[.val (.int p0), .val (.int p1), .val (.int p2), .val (.int p3), .val (.int (1 : Int32)), .val (.int v3), .val (.int v3), .val (.int v4), .val (.int v5), .val (.int v6), .val (.int v7), .val (.int v8), .val (.ref b14), .val (.int r), .val (.int (0 : Int32)), .val (.int (0 : Int32)), .val (.int (0 : Int32)), .unset]) rfl k) ?_
          show Go p e below _ (T18.setTop (mkF m 285 #[.val (.int p0), .val (.int p1), .val (.int p2), .val (.int p3), .val (.int (1 : Int32)), .val (.int v3), .val (.int v3), .val (.int v4), .val (.int v5), .val (.int v6), .val (.int v7), .val (.int v8), .val (.ref b14), .val (.int r), .val (.int (0 : Int32)), .val (.int (0 : Int32)), .val (.int (0 : Int32)), .unset] []))
          refine Go.st (fun _ k => XS.iload X18.here hx rfl (hb hby at_285) rfl k) ?_
          show Go p e below _ (T18.setTop (mkF m 287 #[.val (.int p0), .val (.int p1), .val (.int p2), .val (.int p3), .val (.int (1 : Int32)), .val (.int v3), .val (.int v3), .val (.int v4), .val (.int v5), .val (.int v6), .val (.int v7), .val (.int v8), .val (.ref b14), .val (.int r), .val (.int (0 : Int32)), .val (.int (0 : Int32)), .val (.int (0 : Int32)), .unset] [(.int (0 : Int32))]))
          refine Go.st (fun _ k => XS.ifNo X18.here hx rfl (hb hby at_287) rfl ((if0 _ _).trans (teq (by decide : ((0 : Int32) = (0 : Int32)))).2) k) ?_
          show Go p e below _ (T18.setTop (mkF m 290 #[.val (.int p0), .val (.int p1), .val (.int p2), .val (.int p3), .val (.int (1 : Int32)), .val (.int v3), .val (.int v3), .val (.int v4), .val (.int v5), .val (.int v6), .val (.int v7), .val (.int v8), .val (.ref b14), .val (.int r), .val (.int (0 : Int32)), .val (.int (0 : Int32)), .val (.int (0 : Int32)), .unset] []))
          refine Go.st (fun _ k => XS.iload X18.here hx rfl (hb hby at_290) rfl k) ?_
          show Go p e below _ (T18.setTop (mkF m 292 #[.val (.int p0), .val (.int p1), .val (.int p2), .val (.int p3), .val (.int (1 : Int32)), .val (.int v3), .val (.int v3), .val (.int v4), .val (.int v5), .val (.int v6), .val (.int v7), .val (.int v8), .val (.ref b14), .val (.int r), .val (.int (0 : Int32)), .val (.int (0 : Int32)), .val (.int (0 : Int32)), .unset] [(.int (0 : Int32))]))
          refine Go.st (fun _ k => XS.ifNo X18.here hx rfl (hb hby at_292) rfl ((if0 _ _).trans (teq (by decide : ((0 : Int32) = (0 : Int32)))).2) k) ?_
          show Go p e below _ (T18.setTop (mkF m 295 #[.val (.int p0), .val (.int p1), .val (.int p2), .val (.int p3), .val (.int (1 : Int32)), .val (.int v3), .val (.int v3), .val (.int v4), .val (.int v5), .val (.int v6), .val (.int v7), .val (.int v8), .val (.ref b14), .val (.int r), .val (.int (0 : Int32)), .val (.int (0 : Int32)), .val (.int (0 : Int32)), .unset] []))
          refine Go.st (fun _ k => XS.iload X18.here hx rfl (hb hby at_295) rfl k) ?_
          show Go p e below _ (T18.setTop (mkF m 297 #[.val (.int p0), .val (.int p1), .val (.int p2), .val (.int p3), .val (.int (1 : Int32)), .val (.int v3), .val (.int v3), .val (.int v4), .val (.int v5), .val (.int v6), .val (.int v7), .val (.int v8), .val (.ref b14), .val (.int r), .val (.int (0 : Int32)), .val (.int (0 : Int32)), .val (.int (0 : Int32)), .unset] [(.int (0 : Int32))]))
          refine Go.st (fun _ k => XS.ifYes X18.here hx rfl (pc0 := 297) (pc' := 304) rfl (hb hby at_297) rfl ((if0 _ _).trans (teq (by decide : ((0 : Int32) = (0 : Int32)))).1) (by decide) (by decide) k) ?_
          show Go p e below _ (T18.setTop (mkF m 304 #[.val (.int p0), .val (.int p1), .val (.int p2), .val (.int p3), .val (.int (1 : Int32)), .val (.int v3), .val (.int v3), .val (.int v4), .val (.int v5), .val (.int v6), .val (.int v7), .val (.int v8), .val (.ref b14), .val (.int r), .val (.int (0 : Int32)), .val (.int (0 : Int32)), .val (.int (0 : Int32)), .unset] []))
          refine Go.st (fun _ k => XS.iconst X18.here hx rfl (hb hby at_304) k) ?_
          show Go p e below _ (T18.setTop (mkF m 305 #[.val (.int p0), .val (.int p1), .val (.int p2), .val (.int p3), .val (.int (1 : Int32)), .val (.int v3), .val (.int v3), .val (.int v4), .val (.int v5), .val (.int v6), .val (.int v7), .val (.int v8), .val (.ref b14), .val (.int r), .val (.int (0 : Int32)), .val (.int (0 : Int32)), .val (.int (0 : Int32)), .unset] [(.int (0 : Int32))]))
          refine Go.st (fun _ k => XS.istore X18.here hx rfl (hb hby at_305) rfl (l' := #[.val (.int p0), .val (.int p1), .val (.int p2), .val (.int p3), .val (.int (1 : Int32)), .val (.int v3), .val (.int v3), .val (.int v4), .val (.int v5), .val (.int v6), .val (.int v7), .val (.int v8), .val (.ref b14), .val (.int r), .val (.int (0 : Int32)), .val (.int (0 : Int32)), .val (.int (0 : Int32)), .val (.int (0 : Int32))]) rfl k) ?_
          show Go p e below _ (T18.setTop (mkF m 307 #[.val (.int p0), .val (.int p1), .val (.int p2), .val (.int p3), .val (.int (1 : Int32)), .val (.int v3), .val (.int v3), .val (.int v4), .val (.int v5), .val (.int v6), .val (.int v7), .val (.int v8), .val (.ref b14), .val (.int r), .val (.int (0 : Int32)), .val (.int (0 : Int32)), .val (.int (0 : Int32)), .val (.int (0 : Int32))] []))
          refine Go.st (fun _ k => XS.aload X18.here hx rfl (hb hby at_307) rfl rfl k) ?_
          show Go p e below _ (T18.setTop (mkF m 309 #[.val (.int p0), .val (.int p1), .val (.int p2), .val (.int p3), .val (.int (1 : Int32)), .val (.int v3), .val (.int v3), .val (.int v4), .val (.int v5), .val (.int v6), .val (.int v7), .val (.int v8), .val (.ref b14), .val (.int r), .val (.int (0 : Int32)), .val (.int (0 : Int32)), .val (.int (0 : Int32)), .val (.int (0 : Int32))] [(.ref b14)]))
          refine Go.st (fun _ k => XS.iload X18.here hx rfl (hb hby at_309) rfl k) ?_
          show Go p e below _ (T18.setTop (mkF m 311 #[.val (.int p0), .val (.int p1), .val (.int p2), .val (.int p3), .val (.int (1 : Int32)), .val (.int v3), .val (.int v3), .val (.int v4), .val (.int v5), .val (.int v6), .val (.int v7), .val (.int v8), .val (.ref b14), .val (.int r), .val (.int (0 : Int32)), .val (.int (0 : Int32)), .val (.int (0 : Int32)), .val (.int (0 : Int32))] [(.int r), (.ref b14)]))
          obtain ⟨_, _, ⟨T22, L22, k22, n22⟩, -, X22, ⟨Lc22, hQ22, l22, y22, z22⟩, st22⟩ := Jvm.LawKit.callS X18 hx (y := (⟨"com/example/weir/weir/route/ValueRegions", "contains", "([II)Z"⟩ : MethodName)) hown (mvT hZ (hw _ (List.mem_of_getElem? (i := 6) rfl))) (mvT hZ (hw _ (List.mem_of_getElem? (i := 7) rfl))) (mvT hZ (hw _ (List.mem_of_getElem? (i := 8) rfl))) (mvT hZ (hw _ (List.mem_of_getElem? (i := 9) rfl))) (by decide) (backOf (W := 0) (rmC2 l Z aZ hw [] b14 r k14 v3 v4 h18 n0 V18) hZ (hw _ (List.mem_of_getElem? (i := 9) rfl)) (hw _ (List.mem_of_getElem? (i := 8) rfl)) (by decide) (by decide)) (g := (mkF m 311 #[.val (.int p0), .val (.int p1), .val (.int p2), .val (.int p3), .val (.int (1 : Int32)), .val (.int v3), .val (.int v3), .val (.int v4), .val (.int v5), .val (.int v6), .val (.int v7), .val (.int v8), .val (.ref b14), .val (.int r), .val (.int (0 : Int32)), .val (.int (0 : Int32)), .val (.int (0 : Int32)), .val (.int (0 : Int32))] [(.int r), (.ref b14)])) rfl (by rw [hml]; rfl) (argsL := [(.ref b14), (.int r)]) (rest := []) (lenOf pd93e6ecdc rfl) rfl (by show 2 * 0 + _ ≤ _; exact Nat.le_of_eq rfl) (hb hby at_311) (fun _ _ => ⟨rfl, e18, (by decide : 1 + 0 ≤ _), (by decide : 2 + 0 ≤ _)⟩)
          dsimp only [Pt.U, Pt.locs, Pt.cells, Pt.slots] at X22 l22 y22 z22 st22 hQ22
          subst l22 y22 z22
          obtain ⟨rfl, N22q, e22⟩ := hQ22
          have N22 := Fr.app N18 N22q
          refine Go.st (fun _ k => st22 _ k) ?_
          show Go p e below _ (T22.setTop (mkF m 314 #[.val (.int p0), .val (.int p1), .val (.int p2), .val (.int p3), .val (.int (1 : Int32)), .val (.int v3), .val (.int v3), .val (.int v4), .val (.int v5), .val (.int v6), .val (.int v7), .val (.int v8), .val (.ref b14), .val (.int r), .val (.int (0 : Int32)), .val (.int (0 : Int32)), .val (.int (0 : Int32)), .val (.int (0 : Int32))] [(.int (fC2 r v3 v4))]))
          refine Go.st (fun _ k => XS.iload X22.here hx rfl (hb hby at_314) rfl k) ?_
          show Go p e below _ (T22.setTop (mkF m 316 #[.val (.int p0), .val (.int p1), .val (.int p2), .val (.int p3), .val (.int (1 : Int32)), .val (.int v3), .val (.int v3), .val (.int v4), .val (.int v5), .val (.int v6), .val (.int v7), .val (.int v8), .val (.ref b14), .val (.int r), .val (.int (0 : Int32)), .val (.int (0 : Int32)), .val (.int (0 : Int32)), .val (.int (0 : Int32))] [(.int (0 : Int32)), (.int (fC2 r v3 v4))]))
          refine Go.st (fun _ k => XS.icmpNo X22.here hx rfl (hb hby at_316) rfl (teq (by unfold fC2; rw [if_neg hc19, if_pos hc21])).2 k) ?_
          show Go p e below _ (T22.setTop (mkF m 319 #[.val (.int p0), .val (.int p1), .val (.int p2), .val (.int p3), .val (.int (1 : Int32)), .val (.int v3), .val (.int v3), .val (.int v4), .val (.int v5), .val (.int v6), .val (.int v7), .val (.int v8), .val (.ref b14), .val (.int r), .val (.int (0 : Int32)), .val (.int (0 : Int32)), .val (.int (0 : Int32)), .val (.int (0 : Int32))] []))
          refine Go.st (fun _ k => XS.iconst X22.here hx rfl (hb hby at_319) k) ?_
          show Go p e below _ (T22.setTop (mkF m 320 #[.val (.int p0), .val (.int p1), .val (.int p2), .val (.int p3), .val (.int (1 : Int32)), .val (.int v3), .val (.int v3), .val (.int v4), .val (.int v5), .val (.int v6), .val (.int v7), .val (.int v8), .val (.ref b14), .val (.int r), .val (.int (0 : Int32)), .val (.int (0 : Int32)), .val (.int (0 : Int32)), .val (.int (0 : Int32))] [(.int (1 : Int32))]))
          refine Go.st (fun _ k => XS.goto X22.here hx rfl (pc0 := 320) (pc' := 324) rfl (hb hby at_320) (by decide) (by decide) k) ?_
          show Go p e below _ (T22.setTop (mkF m 324 #[.val (.int p0), .val (.int p1), .val (.int p2), .val (.int p3), .val (.int (1 : Int32)), .val (.int v3), .val (.int v3), .val (.int v4), .val (.int v5), .val (.int v6), .val (.int v7), .val (.int v8), .val (.ref b14), .val (.int r), .val (.int (0 : Int32)), .val (.int (0 : Int32)), .val (.int (0 : Int32)), .val (.int (0 : Int32))] [(.int (1 : Int32))]))
          obtain ⟨fs, hr, hrun, hended, hW, hsame⟩ := X22.leave (v := some (.int (1 : Int32))) (fun h => by rw [Bd.returns] at h; cases h)
          refine ⟨_, _, retN X22 hx (t := .boolean) Bd.returns (by simp) (hb hby at_324) hr, hrun, hended, _, _, rfl, ?_, ⟨_, rfl⟩, hW, hsame.mono (by decide) (by decide)⟩
          show Q_rm0 Z p0 p1 p2 p3 h0 n0 _ T22.heap _
          rw [e22]
          exact ⟨rfl, N22⟩
        · show Go p e below _ (T18.setTop (mkF m 221 #[.val (.int p0), .val (.int p1), .val (.int p2), .val (.int p3), .val (.int (1 : Int32)), .val (.int v3), .val (.int v3), .val (.int v4), .val (.int v5), .val (.int v6), .val (.int v7), .val (.int v8), .val (.ref b14), .val (.int r), .unset, .unset, .unset, .unset] [(.int v4), (.int r)]))
          refine Go.st (fun _ k => XS.icmpNo X18.here hx rfl (hb hby at_221) rfl (flt hc21).2.2.1 k) ?_
          show Go p e below _ (T18.setTop (mkF m 224 #[.val (.int p0), .val (.int p1), .val (.int p2), .val (.int p3), .val (.int (1 : Int32)), .val (.int v3), .val (.int v3), .val (.int v4), .val (.int v5), .val (.int v6), .val (.int v7), .val (.int v8), .val (.ref b14), .val (.int r), .unset, .unset, .unset, .unset] []))
          refine Go.st (fun _ k => XS.iconst X18.here hx rfl (hb hby at_224) k) ?_
          show Go p e below _ (T18.setTop (mkF m 225 #[.val (.int p0), .val (.int p1), .val (.int p2), .val (.int p3), .val (.int (1 : Int32)), .val (.int v3), .val (.int v3), .val (.int v4), .val (.int v5), .val (.int v6), .val (.int v7), .val (.int v8), .val (.ref b14), .val (.int r), .unset, .unset, .unset, .unset] [(.int (1 : Int32))]))
          refine Go.st (fun _ k => XS.goto X18.here hx rfl (pc0 := 225) (pc' := 229) rfl (hb hby at_225) (by decide) (by decide) k) ?_
          show Go p e below _ (T18.setTop (mkF m 229 #[.val (.int p0), .val (.int p1), .val (.int p2), .val (.int p3), .val (.int (1 : Int32)), .val (.int v3), .val (.int v3), .val (.int v4), .val (.int v5), .val (.int v6), .val (.int v7), .val (.int v8), .val (.ref b14), .val (.int r), .unset, .unset, .unset, .unset] [(.int (1 : Int32))]))
          refine Go.st (fun _ k => XS.istore X18.here hx rfl (hb hby at_229) rfl (l' := #[.val (.int p0), .val (.int p1), .val (.int p2), .val (.int p3), .val (.int (1 : Int32)), .val (.int v3), .val (.int v3), .val (.int v4), .val (.int v5), .val (.int v6), .val (.int v7), .val (.int v8), .val (.ref b14), .val (.int r), .val (.int (1 : Int32)), .unset, .unset, .unset]) rfl k) ?_
          show Go p e below _ (T18.setTop (mkF m 231 #[.val (.int p0), .val (.int p1), .val (.int p2), .val (.int p3), .val (.int (1 : Int32)), .val (.int v3), .val (.int v3), .val (.int v4), .val (.int v5), .val (.int v6), .val (.int v7), .val (.int v8), .val (.ref b14), .val (.int r), .val (.int (1 : Int32)), .unset, .unset, .unset] []))
          refine Go.st (fun _ k => XS.iload X18.here hx rfl (hb hby at_231) rfl k) ?_
          show Go p e below _ (T18.setTop (mkF m 233 #[.val (.int p0), .val (.int p1), .val (.int p2), .val (.int p3), .val (.int (1 : Int32)), .val (.int v3), .val (.int v3), .val (.int v4), .val (.int v5), .val (.int v6), .val (.int v7), .val (.int v8), .val (.ref b14), .val (.int r), .val (.int (1 : Int32)), .unset, .unset, .unset] [(.int (1 : Int32))]))
          refine Go.st (fun _ k => XS.iconst X18.here hx rfl (hb hby at_233) k) ?_
          show Go p e below _ (T18.setTop (mkF m 234 #[.val (.int p0), .val (.int p1), .val (.int p2), .val (.int p3), .val (.int (1 : Int32)), .val (.int v3), .val (.int v3), .val (.int v4), .val (.int v5), .val (.int v6), .val (.int v7), .val (.int v8), .val (.ref b14), .val (.int r), .val (.int (1 : Int32)), .unset, .unset, .unset] [(.int (2 : Int32)), (.int (1 : Int32))]))
          refine Go.st (fun _ k => XS.icmpYes X18.here hx rfl (pc0 := 234) (pc' := 255) rfl (hb hby at_234) rfl (tlt (by decide : ((1 : Int32) < (2 : Int32)))).1 (by decide) (by decide) k) ?_
          show Go p e below _ (T18.setTop (mkF m 255 #[.val (.int p0), .val (.int p1), .val (.int p2), .val (.int p3), .val (.int (1 : Int32)), .val (.int v3), .val (.int v3), .val (.int v4), .val (.int v5), .val (.int v6), .val (.int v7), .val (.int v8), .val (.ref b14), .val (.int r), .val (.int (1 : Int32)), .unset, .unset, .unset] []))
          refine Go.st (fun _ k => XS.iconst X18.here hx rfl (hb hby at_255) k) ?_
          show Go p e below _ (T18.setTop (mkF m 256 #[.val (.int p0), .val (.int p1), .val (.int p2), .val (.int p3), .val (.int (1 : Int32)), .val (.int v3), .val (.int v3), .val (.int v4), .val (.int v5), .val (.int v6), .val (.int v7), .val (.int v8), .val (.ref b14), .val (.int r), .val (.int (1 : Int32)), .unset, .unset, .unset] [(.int (0 : Int32))]))
          refine Go.st (fun _ k => XS.istore X18.here hx rfl (hb hby at_256) rfl (l' := #[.val (.int p0), .val (.int p1), .val (.int p2), .val (.int p3), .val (.int (1 : Int32)), .val (.int v3), .val (.int v3), .val (.int v4), .val (.int v5), .val (.int v6), .val (.int v7), .val (.int v8), .val (.ref b14), .val (.int r), .val (.int (1 : Int32)), .val (.int (0 : Int32)), .unset, .unset]) rfl k) ?_
          show Go p e below _ (T18.setTop (mkF m 258 #[.val (.int p0), .val (.int p1), .val (.int p2), .val (.int p3), .val (.int (1 : Int32)), .val (.int v3), .val (.int v3), .val (.int v4), .val (.int v5), .val (.int v6), .val (.int v7), .val (.int v8), .val (.ref b14), .val (.int r), .val (.int (1 : Int32)), .val (.int (0 : Int32)), .unset, .unset] []))
          refine Go.st (fun _ k => XS.iload X18.here hx rfl (hb hby at_258) rfl k) ?_
          show Go p e below _ (T18.setTop (mkF m 260 #[.val (.int p0), .val (.int p1), .val (.int p2), .val (.int p3), .val (.int (1 : Int32)), .val (.int v3), .val (.int v3), .val (.int v4), .val (.int v5), .val (.int v6), .val (.int v7), .val (.int v8), .val (.ref b14), .val (.int r), .val (.int (1 : Int32)), .val (.int (0 : Int32)), .unset, .unset] [(.int (1 : Int32))]))
          refine Go.st (fun _ k => XS.iconst X18.here hx rfl (hb hby at_260) k) ?_
          show Go p e below _ (T18.setTop (mkF m 261 #[.val (.int p0), .val (.int p1), .val (.int p2), .val (.int p3), .val (.int (1 : Int32)), .val (.int v3), .val (.int v3), .val (.int v4), .val (.int v5), .val (.int v6), .val (.int v7), .val (.int v8), .val (.ref b14), .val (.int r), .val (.int (1 : Int32)), .val (.int (0 : Int32)), .unset, .unset] [(.int (3 : Int32)), (.int (1 : Int32))]))
          refine Go.st (fun _ k => XS.icmpYes X18.here hx rfl (pc0 := 261) (pc' := 282) rfl (hb hby at_261) rfl (tlt (by decide : ((1 : Int32) < (3 : Int32)))).1 (by decide) (by decide) k) ?_
          show Go p e below _ (T18.setTop (mkF m 282 #[.val (.int p0), .val (.int p1), .val (.int p2), .val (.int p3), .val (.int (1 : Int32)), .val (.int v3), .val (.int v3), .val (.int v4), .val (.int v5), .val (.int v6), .val (.int v7), .val (.int v8), .val (.ref b14), .val (.int r), .val (.int (1 : Int32)), .val (.int (0 : Int32)), .unset, .unset] []))
          refine Go.st (fun _ k => XS.iconst X18.here hx rfl (hb hby at_282) k) ?_
          show Go p e below _ (T18.setTop (mkF m 283 #[.val (.int p0), .val (.int p1), .val (.int p2), .val (.int p3), .val (.int (1 : Int32)), .val (.int v3), .val (.int v3), .val (.int v4), .val (.int v5), .val (.int v6), .val (.int v7), .val (.int v8), .val (.ref b14), .val (.int r), .val (.int (1 : Int32)), .val (.int (0 : Int32)), .unset, .unset] [(.int (0 : Int32))]))
          refine Go.st (fun _ k => XS.istore X18.here hx rfl (hb hby at_283) rfl (l' := #[.val (.int p0), .val (.int p1), .val (.int p2), .val (.int p3), .val (.int (1 : Int32)), .val (.int v3), .val (.int v3), .val (.int v4), .val (.int v5), .val (.int v6), .val (.int v7), .val (.int v8), .val (.ref b14), .val (.int r), .val (.int (1 : Int32)), .val (.int (0 : Int32)), .val (.int (0 : Int32)), .unset]) rfl k) ?_
          show Go p e below _ (T18.setTop (mkF m 285 #[.val (.int p0), .val (.int p1), .val (.int p2), .val (.int p3), .val (.int (1 : Int32)), .val (.int v3), .val (.int v3), .val (.int v4), .val (.int v5), .val (.int v6), .val (.int v7), .val (.int v8), .val (.ref b14), .val (.int r), .val (.int (1 : Int32)), .val (.int (0 : Int32)), .val (.int (0 : Int32)), .unset] []))
          refine Go.st (fun _ k => XS.iload X18.here hx rfl (hb hby at_285) rfl k) ?_
          show Go p e below _ (T18.setTop (mkF m 287 #[.val (.int p0), .val (.int p1), .val (.int p2), .val (.int p3), .val (.int (1 : Int32)), .val (.int v3), .val (.int v3), .val (.int v4), .val (.int v5), .val (.int v6), .val (.int v7), .val (.int v8), .val (.ref b14), .val (.int r), .val (.int (1 : Int32)), .val (.int (0 : Int32)), .val (.int (0 : Int32)), .unset] [(.int (1 : Int32))]))
          refine Go.st (fun _ k => XS.ifYes X18.here hx rfl (pc0 := 287) (pc' := 300) rfl (hb hby at_287) rfl ((if0 _ _).trans (feq (by decide : ¬ ((1 : Int32) = (0 : Int32)))).2) (by decide) (by decide) k) ?_
          show Go p e below _ (T18.setTop (mkF m 300 #[.val (.int p0), .val (.int p1), .val (.int p2), .val (.int p3), .val (.int (1 : Int32)), .val (.int v3), .val (.int v3), .val (.int v4), .val (.int v5), .val (.int v6), .val (.int v7), .val (.int v8), .val (.ref b14), .val (.int r), .val (.int (1 : Int32)), .val (.int (0 : Int32)), .val (.int (0 : Int32)), .unset] []))
          refine Go.st (fun _ k => XS.iconst X18.here hx rfl (hb hby at_300) k) ?_
          show Go p e below _ (T18.setTop (mkF m 301 #[.val (.int p0), .val (.int p1), .val (.int p2), .val (.int p3), .val (.int (1 : Int32)), .val (.int v3), .val (.int v3), .val (.int v4), .val (.int v5), .val (.int v6), .val (.int v7), .val (.int v8), .val (.ref b14), .val (.int r), .val (.int (1 : Int32)), .val (.int (0 : Int32)), .val (.int (0 : Int32)), .unset] [(.int (1 : Int32))]))
          refine Go.st (fun _ k => XS.goto X18.here hx rfl (pc0 := 301) (pc' := 305) rfl (hb hby at_301) (by decide) (by decide) k) ?_
          show Go p e below _ (T18.setTop (mkF m 305 #[.val (.int p0), .val (.int p1), .val (.int p2), .val (.int p3), .val (.int (1 : Int32)), .val (.int v3), .val (.int v3), .val (.int v4), .val (.int v5), .val (.int v6), .val (.int v7), .val (.int v8), .val (.ref b14), .val (.int r), .val (.int (1 : Int32)), .val (.int (0 : Int32)), .val (.int (0 : Int32)), .unset] [(.int (1 : Int32))]))
          refine Go.st (fun _ k => XS.istore X18.here hx rfl (hb hby at_305) rfl (l' := #[.val (.int p0), .val (.int p1), .val (.int p2), .val (.int p3), .val (.int (1 : Int32)), .val (.int v3), .val (.int v3), .val (.int v4), .val (.int v5), .val (.int v6), .val (.int v7), .val (.int v8), .val (.ref b14), .val (.int r), .val (.int (1 : Int32)), .val (.int (0 : Int32)), .val (.int (0 : Int32)), .val (.int (1 : Int32))]) rfl k) ?_
          show Go p e below _ (T18.setTop (mkF m 307 #[.val (.int p0), .val (.int p1), .val (.int p2), .val (.int p3), .val (.int (1 : Int32)), .val (.int v3), .val (.int v3), .val (.int v4), .val (.int v5), .val (.int v6), .val (.int v7), .val (.int v8), .val (.ref b14), .val (.int r), .val (.int (1 : Int32)), .val (.int (0 : Int32)), .val (.int (0 : Int32)), .val (.int (1 : Int32))] []))
          refine Go.st (fun _ k => XS.aload X18.here hx rfl (hb hby at_307) rfl rfl k) ?_
          show Go p e below _ (T18.setTop (mkF m 309 #[.val (.int p0), .val (.int p1), .val (.int p2), .val (.int p3), .val (.int (1 : Int32)), .val (.int v3), .val (.int v3), .val (.int v4), .val (.int v5), .val (.int v6), .val (.int v7), .val (.int v8), .val (.ref b14), .val (.int r), .val (.int (1 : Int32)), .val (.int (0 : Int32)), .val (.int (0 : Int32)), .val (.int (1 : Int32))] [(.ref b14)]))
          refine Go.st (fun _ k => XS.iload X18.here hx rfl (hb hby at_309) rfl k) ?_
          show Go p e below _ (T18.setTop (mkF m 311 #[.val (.int p0), .val (.int p1), .val (.int p2), .val (.int p3), .val (.int (1 : Int32)), .val (.int v3), .val (.int v3), .val (.int v4), .val (.int v5), .val (.int v6), .val (.int v7), .val (.int v8), .val (.ref b14), .val (.int r), .val (.int (1 : Int32)), .val (.int (0 : Int32)), .val (.int (0 : Int32)), .val (.int (1 : Int32))] [(.int r), (.ref b14)]))
          obtain ⟨_, _, ⟨T23, L23, k23, n23⟩, -, X23, ⟨Lc23, hQ23, l23, y23, z23⟩, st23⟩ := Jvm.LawKit.callS X18 hx (y := (⟨"com/example/weir/weir/route/ValueRegions", "contains", "([II)Z"⟩ : MethodName)) hown (mvT hZ (hw _ (List.mem_of_getElem? (i := 6) rfl))) (mvT hZ (hw _ (List.mem_of_getElem? (i := 7) rfl))) (mvT hZ (hw _ (List.mem_of_getElem? (i := 8) rfl))) (mvT hZ (hw _ (List.mem_of_getElem? (i := 9) rfl))) (by decide) (backOf (W := 0) (rmC2 l Z aZ hw [] b14 r k14 v3 v4 h18 n0 V18) hZ (hw _ (List.mem_of_getElem? (i := 9) rfl)) (hw _ (List.mem_of_getElem? (i := 8) rfl)) (by decide) (by decide)) (g := (mkF m 311 #[.val (.int p0), .val (.int p1), .val (.int p2), .val (.int p3), .val (.int (1 : Int32)), .val (.int v3), .val (.int v3), .val (.int v4), .val (.int v5), .val (.int v6), .val (.int v7), .val (.int v8), .val (.ref b14), .val (.int r), .val (.int (1 : Int32)), .val (.int (0 : Int32)), .val (.int (0 : Int32)), .val (.int (1 : Int32))] [(.int r), (.ref b14)])) rfl (by rw [hml]; rfl) (argsL := [(.ref b14), (.int r)]) (rest := []) (lenOf pd93e6ecdc rfl) rfl (by show 2 * 0 + _ ≤ _; exact Nat.le_of_eq rfl) (hb hby at_311) (fun _ _ => ⟨rfl, e18, (by decide : 1 + 0 ≤ _), (by decide : 2 + 0 ≤ _)⟩)
          dsimp only [Pt.U, Pt.locs, Pt.cells, Pt.slots] at X23 l23 y23 z23 st23 hQ23
          subst l23 y23 z23
          obtain ⟨rfl, N23q, e23⟩ := hQ23
          have N23 := Fr.app N18 N23q
          refine Go.st (fun _ k => st23 _ k) ?_
          show Go p e below _ (T23.setTop (mkF m 314 #[.val (.int p0), .val (.int p1), .val (.int p2), .val (.int p3), .val (.int (1 : Int32)), .val (.int v3), .val (.int v3), .val (.int v4), .val (.int v5), .val (.int v6), .val (.int v7), .val (.int v8), .val (.ref b14), .val (.int r), .val (.int (1 : Int32)), .val (.int (0 : Int32)), .val (.int (0 : Int32)), .val (.int (1 : Int32))] [(.int (fC2 r v3 v4))]))
          refine Go.st (fun _ k => XS.iload X23.here hx rfl (hb hby at_314) rfl k) ?_
          show Go p e below _ (T23.setTop (mkF m 316 #[.val (.int p0), .val (.int p1), .val (.int p2), .val (.int p3), .val (.int (1 : Int32)), .val (.int v3), .val (.int v3), .val (.int v4), .val (.int v5), .val (.int v6), .val (.int v7), .val (.int v8), .val (.ref b14), .val (.int r), .val (.int (1 : Int32)), .val (.int (0 : Int32)), .val (.int (0 : Int32)), .val (.int (1 : Int32))] [(.int (1 : Int32)), (.int (fC2 r v3 v4))]))
          refine Go.st (fun _ k => XS.icmpNo X23.here hx rfl (hb hby at_316) rfl (teq (by unfold fC2; rw [if_neg hc19, if_neg hc21])).2 k) ?_
          show Go p e below _ (T23.setTop (mkF m 319 #[.val (.int p0), .val (.int p1), .val (.int p2), .val (.int p3), .val (.int (1 : Int32)), .val (.int v3), .val (.int v3), .val (.int v4), .val (.int v5), .val (.int v6), .val (.int v7), .val (.int v8), .val (.ref b14), .val (.int r), .val (.int (1 : Int32)), .val (.int (0 : Int32)), .val (.int (0 : Int32)), .val (.int (1 : Int32))] []))
          refine Go.st (fun _ k => XS.iconst X23.here hx rfl (hb hby at_319) k) ?_
          show Go p e below _ (T23.setTop (mkF m 320 #[.val (.int p0), .val (.int p1), .val (.int p2), .val (.int p3), .val (.int (1 : Int32)), .val (.int v3), .val (.int v3), .val (.int v4), .val (.int v5), .val (.int v6), .val (.int v7), .val (.int v8), .val (.ref b14), .val (.int r), .val (.int (1 : Int32)), .val (.int (0 : Int32)), .val (.int (0 : Int32)), .val (.int (1 : Int32))] [(.int (1 : Int32))]))
          refine Go.st (fun _ k => XS.goto X23.here hx rfl (pc0 := 320) (pc' := 324) rfl (hb hby at_320) (by decide) (by decide) k) ?_
          show Go p e below _ (T23.setTop (mkF m 324 #[.val (.int p0), .val (.int p1), .val (.int p2), .val (.int p3), .val (.int (1 : Int32)), .val (.int v3), .val (.int v3), .val (.int v4), .val (.int v5), .val (.int v6), .val (.int v7), .val (.int v8), .val (.ref b14), .val (.int r), .val (.int (1 : Int32)), .val (.int (0 : Int32)), .val (.int (0 : Int32)), .val (.int (1 : Int32))] [(.int (1 : Int32))]))
          obtain ⟨fs, hr, hrun, hended, hW, hsame⟩ := X23.leave (v := some (.int (1 : Int32))) (fun h => by rw [Bd.returns] at h; cases h)
          refine ⟨_, _, retN X23 hx (t := .boolean) Bd.returns (by simp) (hb hby at_324) hr, hrun, hended, _, _, rfl, ?_, ⟨_, rfl⟩, hW, hsame.mono (by decide) (by decide)⟩
          show Q_rm0 Z p0 p1 p2 p3 h0 n0 _ T23.heap _
          rw [e23]
          exact ⟨rfl, N23⟩
    refine Go.st (fun _ k => XS.iloadN X18.here hx rfl (hb hby at_181) rfl k) ?_
    show Go p e below _ (T18.setTop (mkF m 182 #[.val (.int p0), .val (.int p1), .val (.int p2), .val (.int p3), .val (.int (1 : Int32)), .val (.int v3), .val (.int v3), .val (.int v4), .val (.int v5), .val (.int v6), .val (.int v7), .val (.int v8), .val (.ref b14), .unset, .unset, .unset, .unset, .unset] [(.int p3)]))
    refine Go.st (fun _ k => XS.iconst X18.here hx rfl (hb hby at_182) k) ?_
    show Go p e below _ (T18.setTop (mkF m 183 #[.val (.int p0), .val (.int p1), .val (.int p2), .val (.int p3), .val (.int (1 : Int32)), .val (.int v3), .val (.int v3), .val (.int v4), .val (.int v5), .val (.int v6), .val (.int v7), .val (.int v8), .val (.ref b14), .unset, .unset, .unset, .unset, .unset] [(.int (1 : Int32)), (.int p3)]))
    refine Go.st (fun _ k => XS.iand X18.here hx rfl (hb hby at_183) rfl k) ?_
    show Go p e below _ (T18.setTop (mkF m 184 #[.val (.int p0), .val (.int p1), .val (.int p2), .val (.int p3), .val (.int (1 : Int32)), .val (.int v3), .val (.int v3), .val (.int v4), .val (.int v5), .val (.int v6), .val (.int v7), .val (.int v8), .val (.ref b14), .unset, .unset, .unset, .unset, .unset] [(.int (p3 &&& (1 : Int32)))]))
    by_cases hc24 : (p3 &&& (1 : Int32)) = (0 : Int32)
    · show Go p e below _ (T18.setTop (mkF m 184 #[.val (.int p0), .val (.int p1), .val (.int p2), .val (.int p3), .val (.int (1 : Int32)), .val (.int v3), .val (.int v3), .val (.int v4), .val (.int v5), .val (.int v6), .val (.int v7), .val (.int v8), .val (.ref b14), .unset, .unset, .unset, .unset, .unset] [(.int (p3 &&& (1 : Int32)))]))
      refine Go.st (fun _ k => XS.ifYes X18.here hx rfl (pc0 := 184) (pc' := 193) rfl (hb hby at_184) rfl ((if0 _ _).trans (teq hc24).1) (by decide) (by decide) k) ?_
      show Go p e below _ (T18.setTop (mkF m 193 #[.val (.int p0), .val (.int p1), .val (.int p2), .val (.int p3), .val (.int (1 : Int32)), .val (.int v3), .val (.int v3), .val (.int v4), .val (.int v5), .val (.int v6), .val (.int v7), .val (.int v8), .val (.ref b14), .unset, .unset, .unset, .unset, .unset] []))
      refine Go.st (fun _ k => XS.iload X18.here hx rfl (hb hby at_193) rfl k) ?_
      show Go p e below _ (T18.setTop (mkF m 195 #[.val (.int p0), .val (.int p1), .val (.int p2), .val (.int p3), .val (.int (1 : Int32)), .val (.int v3), .val (.int v3), .val (.int v4), .val (.int v5), .val (.int v6), .val (.int v7), .val (.int v8), .val (.ref b14), .unset, .unset, .unset, .unset, .unset] [(.int v3)]))
      refine Go.st (fun _ k => XS.iconst X18.here hx rfl (hb hby at_195) k) ?_
      show Go p e below _ (T18.setTop (mkF m 196 #[.val (.int p0), .val (.int p1), .val (.int p2), .val (.int p3), .val (.int (1 : Int32)), .val (.int v3), .val (.int v3), .val (.int v4), .val (.int v5), .val (.int v6), .val (.int v7), .val (.int v8), .val (.ref b14), .unset, .unset, .unset, .unset, .unset] [(.int (2 : Int32)), (.int v3)]))
      refine Go.st (fun _ k => XS.isub X18.here hx rfl (hb hby at_196) rfl k) ?_
      show Go p e below _ (T18.setTop (mkF m 197 #[.val (.int p0), .val (.int p1), .val (.int p2), .val (.int p3), .val (.int (1 : Int32)), .val (.int v3), .val (.int v3), .val (.int v4), .val (.int v5), .val (.int v6), .val (.int v7), .val (.int v8), .val (.ref b14), .unset, .unset, .unset, .unset, .unset] [(.int (v3 - (2 : Int32)))]))
      refine Go.st (fun _ k => XS.iloadN X18.here hx rfl (hb hby at_197) rfl k) ?_
      show Go p e below _ (T18.setTop (mkF m 198 #[.val (.int p0), .val (.int p1), .val (.int p2), .val (.int p3), .val (.int (1 : Int32)), .val (.int v3), .val (.int v3), .val (.int v4), .val (.int v5), .val (.int v6), .val (.int v7), .val (.int v8), .val (.ref b14), .unset, .unset, .unset, .unset, .unset] [(.int p2), (.int (v3 - (2 : Int32)))]))
      refine Go.st (fun _ k => XS.bipush X18.here hx rfl (hb hby at_198) k) ?_
      show Go p e below _ (T18.setTop (mkF m 200 #[.val (.int p0), .val (.int p1), .val (.int p2), .val (.int p3), .val (.int (1 : Int32)), .val (.int v3), .val (.int v3), .val (.int v4), .val (.int v5), .val (.int v6), .val (.int v7), .val (.int v8), .val (.ref b14), .unset, .unset, .unset, .unset, .unset] [(.int (31 : Int32)), (.int p2), (.int (v3 - (2 : Int32)))]))
      refine Go.st (fun _ k => XS.iand X18.here hx rfl (hb hby at_200) rfl k) ?_
      show Go p e below _ (T18.setTop (mkF m 201 #[.val (.int p0), .val (.int p1), .val (.int p2), .val (.int p3), .val (.int (1 : Int32)), .val (.int v3), .val (.int v3), .val (.int v4), .val (.int v5), .val (.int v6), .val (.int v7), .val (.int v8), .val (.ref b14), .unset, .unset, .unset, .unset, .unset] [(.int (p2 &&& (31 : Int32))), (.int (v3 - (2 : Int32)))]))
      refine Go.st (fun _ k => XS.iadd X18.here hx rfl (hb hby at_201) rfl k) ?_
      show Go p e below _ (T18.setTop (mkF m 202 #[.val (.int p0), .val (.int p1), .val (.int p2), .val (.int p3), .val (.int (1 : Int32)), .val (.int v3), .val (.int v3), .val (.int v4), .val (.int v5), .val (.int v6), .val (.int v7), .val (.int v8), .val (.ref b14), .unset, .unset, .unset, .unset, .unset] [(.int ((v3 - (2 : Int32)) + (p2 &&& (31 : Int32))))]))
      generalize hv25 : ((v3 - (2 : Int32)) + (p2 &&& (31 : Int32))) = v25
      refine Go.st (fun _ k => XS.istore X18.here hx rfl (hb hby at_202) rfl (l' := #[.val (.int p0), .val (.int p1), .val (.int p2), .val (.int p3), .val (.int (1 : Int32)), .val (.int v3), .val (.int v3), .val (.int v4), .val (.int v5), .val (.int v6), .val (.int v7), .val (.int v8), .val (.ref b14), .val (.int v25), .unset, .unset, .unset, .unset]) rfl k) ?_
      show Go p e below _ (T18.setTop (mkF m 204 #[.val (.int p0), .val (.int p1), .val (.int p2), .val (.int p3), .val (.int (1 : Int32)), .val (.int v3), .val (.int v3), .val (.int v4), .val (.int v5), .val (.int v6), .val (.int v7), .val (.int v8), .val (.ref b14), .val (.int v25), .unset, .unset, .unset, .unset] []))
      exact key _
    · show Go p e below _ (T18.setTop (mkF m 184 #[.val (.int p0), .val (.int p1), .val (.int p2), .val (.int p3), .val (.int (1 : Int32)), .val (.int v3), .val (.int v3), .val (.int v4), .val (.int v5), .val (.int v6), .val (.int v7), .val (.int v8), .val (.ref b14), .unset, .unset, .unset, .unset, .unset] [(.int (p3 &&& (1 : Int32)))]))
      refine Go.st (fun _ k => XS.ifNo X18.here hx rfl (hb hby at_184) rfl ((if0 _ _).trans (feq hc24).1) k) ?_
      show Go p e below _ (T18.setTop (mkF m 187 #[.val (.int p0), .val (.int p1), .val (.int p2), .val (.int p3), .val (.int (1 : Int32)), .val (.int v3), .val (.int v3), .val (.int v4), .val (.int v5), .val (.int v6), .val (.int v7), .val (.int v8), .val (.ref b14), .unset, .unset, .unset, .unset, .unset] []))
      refine Go.st (fun _ k => XS.iloadN X18.here hx rfl (hb hby at_187) rfl k) ?_
      show Go p e below _ (T18.setTop (mkF m 188 #[.val (.int p0), .val (.int p1), .val (.int p2), .val (.int p3), .val (.int (1 : Int32)), .val (.int v3), .val (.int v3), .val (.int v4), .val (.int v5), .val (.int v6), .val (.int v7), .val (.int v8), .val (.ref b14), .unset, .unset, .unset, .unset, .unset] [(.int p2)]))
      refine Go.st (fun _ k => XS.istore X18.here hx rfl (hb hby at_188) rfl (l' := #[.val (.int p0), .val (.int p1), .val (.int p2), .val (.int p3), .val (.int (1 : Int32)), .val (.int v3), .val (.int v3), .val (.int v4), .val (.int v5), .val (.int v6), .val (.int v7), .val (.int v8), .val (.ref b14), .val (.int p2), .unset, .unset, .unset, .unset]) rfl k) ?_
      show Go p e below _ (T18.setTop (mkF m 190 #[.val (.int p0), .val (.int p1), .val (.int p2), .val (.int p3), .val (.int (1 : Int32)), .val (.int v3), .val (.int v3), .val (.int v4), .val (.int v5), .val (.int v6), .val (.int v7), .val (.int v8), .val (.ref b14), .val (.int p2), .unset, .unset, .unset, .unset] []))
      refine Go.st (fun _ k => XS.goto X18.here hx rfl (pc0 := 190) (pc' := 204) rfl (hb hby at_190) (by decide) (by decide) k) ?_
      show Go p e below _ (T18.setTop (mkF m 204 #[.val (.int p0), .val (.int p1), .val (.int p2), .val (.int p3), .val (.int (1 : Int32)), .val (.int v3), .val (.int v3), .val (.int v4), .val (.int v5), .val (.int v6), .val (.int v7), .val (.int v8), .val (.ref b14), .val (.int p2), .unset, .unset, .unset, .unset] []))
      exact key _
  · rw [hr9]
    show Go p e below _ (T2.setTop (mkF m 74 #[.val (.int p0), .val (.int p1), .val (.int p2), .val (.int p3), .val (.int (2 : Int32)), .val (.int v3), .val (.int v3), .val (.int v4), .val (.int v5), .val (.int v6), .val (.int v7), .val (.int v8), .unset, .unset, .unset, .unset, .unset, .unset] []))
    refine Go.st (fun _ k => XS.iload X2.here hx rfl (hb hby at_74) rfl k) ?_
    show Go p e below _ (T2.setTop (mkF m 76 #[.val (.int p0), .val (.int p1), .val (.int p2), .val (.int p3), .val (.int (2 : Int32)), .val (.int v3), .val (.int v3), .val (.int v4), .val (.int v5), .val (.int v6), .val (.int v7), .val (.int v8), .unset, .unset, .unset, .unset, .unset, .unset] [(.int (2 : Int32))]))
    refine Go.st (fun _ k => XS.ifYes X2.here hx rfl (pc0 := 76) (pc' := 87) rfl (hb hby at_76) rfl ((if0 _ _).trans (feq (by decide : ¬ ((2 : Int32) = (0 : Int32)))).2) (by decide) (by decide) k) ?_
    show Go p e below _ (T2.setTop (mkF m 87 #[.val (.int p0), .val (.int p1), .val (.int p2), .val (.int p3), .val (.int (2 : Int32)), .val (.int v3), .val (.int v3), .val (.int v4), .val (.int v5), .val (.int v6), .val (.int v7), .val (.int v8), .unset, .unset, .unset, .unset, .unset, .unset] []))
    refine Go.st (fun _ k => XS.iload X2.here hx rfl (hb hby at_87) rfl k) ?_
    show Go p e below _ (T2.setTop (mkF m 89 #[.val (.int p0), .val (.int p1), .val (.int p2), .val (.int p3), .val (.int (2 : Int32)), .val (.int v3), .val (.int v3), .val (.int v4), .val (.int v5), .val (.int v6), .val (.int v7), .val (.int v8), .unset, .unset, .unset, .unset, .unset, .unset] [(.int (2 : Int32))]))
    refine Go.st (fun _ k => XS.iconst X2.here hx rfl (hb hby at_89) k) ?_
    show Go p e below _ (T2.setTop (mkF m 90 #[.val (.int p0), .val (.int p1), .val (.int p2), .val (.int p3), .val (.int (2 : Int32)), .val (.int v3), .val (.int v3), .val (.int v4), .val (.int v5), .val (.int v6), .val (.int v7), .val (.int v8), .unset, .unset, .unset, .unset, .unset, .unset] [(.int (1 : Int32)), (.int (2 : Int32))]))
    refine Go.st (fun _ k => XS.icmpYes X2.here hx rfl (pc0 := 90) (pc' := 111) rfl (hb hby at_90) rfl (feq (by decide : ¬ ((2 : Int32) = (1 : Int32)))).2 (by decide) (by decide) k) ?_
    show Go p e below _ (T2.setTop (mkF m 111 #[.val (.int p0), .val (.int p1), .val (.int p2), .val (.int p3), .val (.int (2 : Int32)), .val (.int v3), .val (.int v3), .val (.int v4), .val (.int v5), .val (.int v6), .val (.int v7), .val (.int v8), .unset, .unset, .unset, .unset, .unset, .unset] []))
    refine Go.st (fun _ k => XS.iload X2.here hx rfl (hb hby at_111) rfl k) ?_
    show Go p e below _ (T2.setTop (mkF m 113 #[.val (.int p0), .val (.int p1), .val (.int p2), .val (.int p3), .val (.int (2 : Int32)), .val (.int v3), .val (.int v3), .val (.int v4), .val (.int v5), .val (.int v6), .val (.int v7), .val (.int v8), .unset, .unset, .unset, .unset, .unset, .unset] [(.int (2 : Int32))]))
    refine Go.st (fun _ k => XS.iconst X2.here hx rfl (hb hby at_113) k) ?_
    show Go p e below _ (T2.setTop (mkF m 114 #[.val (.int p0), .val (.int p1), .val (.int p2), .val (.int p3), .val (.int (2 : Int32)), .val (.int v3), .val (.int v3), .val (.int v4), .val (.int v5), .val (.int v6), .val (.int v7), .val (.int v8), .unset, .unset, .unset, .unset, .unset, .unset] [(.int (2 : Int32)), (.int (2 : Int32))]))
    refine Go.st (fun _ k => XS.icmpNo X2.here hx rfl (hb hby at_114) rfl (teq (by decide : ((2 : Int32) = (2 : Int32)))).2 k) ?_
    show Go p e below _ (T2.setTop (mkF m 117 #[.val (.int p0), .val (.int p1), .val (.int p2), .val (.int p3), .val (.int (2 : Int32)), .val (.int v3), .val (.int v3), .val (.int v4), .val (.int v5), .val (.int v6), .val (.int v7), .val (.int v8), .unset, .unset, .unset, .unset, .unset, .unset] []))
    refine Go.st (fun _ k => XS.iconst X2.here hx rfl (hb hby at_117) k) ?_
    show Go p e below _ (T2.setTop (mkF m 118 #[.val (.int p0), .val (.int p1), .val (.int p2), .val (.int p3), .val (.int (2 : Int32)), .val (.int v3), .val (.int v3), .val (.int v4), .val (.int v5), .val (.int v6), .val (.int v7), .val (.int v8), .unset, .unset, .unset, .unset, .unset, .unset] [(.int (4 : Int32))]))
    obtain ⟨T26, h26, k26, X26, e26, E26, A26, st26⟩ := newP X2 hx hZ (hw _ (List.mem_of_getElem? (i := 5) rfl)) e2 (g := (mkF m 118 #[.val (.int p0), .val (.int p1), .val (.int p2), .val (.int p3), .val (.int (2 : Int32)), .val (.int v3), .val (.int v3), .val (.int v4), .val (.int v5), .val (.int v6), .val (.int v7), .val (.int v8), .unset, .unset, .unset, .unset, .unset, .unset] [(.int (4 : Int32))])) rfl (hb hby at_118) rfl (by decide) (cap := 4) (by decide) (by decide) (by decide) (by decide)
    obtain ⟨b26, g26⟩ : ∃ z, z = h0.size := ⟨_, rfl⟩
    have gg26 : n0 ≤ b26 := Nat.le_trans Z0 (Nat.le_of_eq g26.symm)
    rw [← g26] at A26 st26
    have Z26 : n0 ≤ h26.size := Nat.le_trans Z0 E26.1
    have V26 : Arv Z h26 b26 k26 .int (4 : Int32) [(.int (0 : Int32)), (.int (0 : Int32)), (.int (0 : Int32)), (.int (0 : Int32))] (.int (0 : Int32)) := (Arv.new A26 (by decide)).pad (pad_rep [] (.int (0 : Int32)) 4)
    refine Go.st (fun _ k => st26 _ k) ?_
    show Go p e below _ (T26.setTop (mkF m 120 #[.val (.int p0), .val (.int p1), .val (.int p2), .val (.int p3), .val (.int (2 : Int32)), .val (.int v3), .val (.int v3), .val (.int v4), .val (.int v5), .val (.int v6), .val (.int v7), .val (.int v8), .unset, .unset, .unset, .unset, .unset, .unset] [(.ref b26)]))
    refine Go.st (fun _ k => XS.dup X26.here hx rfl (hb hby at_120) rfl rfl k) ?_
    show Go p e below _ (T26.setTop (mkF m 121 #[.val (.int p0), .val (.int p1), .val (.int p2), .val (.int p3), .val (.int (2 : Int32)), .val (.int v3), .val (.int v3), .val (.int v4), .val (.int v5), .val (.int v6), .val (.int v7), .val (.int v8), .unset, .unset, .unset, .unset, .unset, .unset] [(.ref b26), (.ref b26)]))
    refine Go.st (fun _ k => XS.iconst X26.here hx rfl (hb hby at_121) k) ?_
    show Go p e below _ (T26.setTop (mkF m 122 #[.val (.int p0), .val (.int p1), .val (.int p2), .val (.int p3), .val (.int (2 : Int32)), .val (.int v3), .val (.int v3), .val (.int v4), .val (.int v5), .val (.int v6), .val (.int v7), .val (.int v8), .unset, .unset, .unset, .unset, .unset, .unset] [(.int (0 : Int32)), (.ref b26), (.ref b26)]))
    refine Go.st (fun _ k => XS.iload X26.here hx rfl (hb hby at_122) rfl k) ?_
    show Go p e below _ (T26.setTop (mkF m 124 #[.val (.int p0), .val (.int p1), .val (.int p2), .val (.int p3), .val (.int (2 : Int32)), .val (.int v3), .val (.int v3), .val (.int v4), .val (.int v5), .val (.int v6), .val (.int v7), .val (.int v8), .unset, .unset, .unset, .unset, .unset, .unset] [(.int v3), (.int (0 : Int32)), (.ref b26), (.ref b26)]))
    obtain ⟨cl27, Ar27, ck27, Sz27, Nn27, Hs27, Gs27⟩ := id V26
    have hin27 : ¬ ((0 : Int32) < 0 ∨ cl27.slots.size ≤ ((0 : Int32)).toNatClampNeg) := inb_of Sz27 ⟨by decide, by decide⟩
    obtain ⟨T28, h28, X28, e28, W28, st28⟩ := stI X26 hx hZ e26 Ar27 (j := (0 : Int32)) hin27 (g := (mkF m 124 #[.val (.int p0), .val (.int p1), .val (.int p2), .val (.int p3), .val (.int (2 : Int32)), .val (.int v3), .val (.int v3), .val (.int v4), .val (.int v5), .val (.int v6), .val (.int v7), .val (.int v8), .unset, .unset, .unset, .unset, .unset, .unset] [(.int v3), (.int (0 : Int32)), (.ref b26), (.ref b26)])) rfl rfl (hb hby at_124)
    have V28 : Arv Z h28 b26 k26 .int (4 : Int32) [(.int v3), (.int (0 : Int32)), (.int (0 : Int32)), (.int (0 : Int32))] (.int (0 : Int32)) := Arv.set Ar27 ck27 Sz27 Nn27 Hs27 Gs27 rfl W28 0 rfl (Nat.le_of_ble_eq_true rfl)
    have N28 := Fr.snoc X28 N2 gg26
    have Z28 : n0 ≤ h28.size := by rw [W28.size]; exact Z26
    refine Go.st (fun _ k => st28 _ k) ?_
    show Go p e below _ (T28.setTop (mkF m 125 #[.val (.int p0), .val (.int p1), .val (.int p2), .val (.int p3), .val (.int (2 : Int32)), .val (.int v3), .val (.int v3), .val (.int v4), .val (.int v5), .val (.int v6), .val (.int v7), .val (.int v8), .unset, .unset, .unset, .unset, .unset, .unset] [(.ref b26)]))
    refine Go.st (fun _ k => XS.dup X28.here hx rfl (hb hby at_125) rfl rfl k) ?_
    show Go p e below _ (T28.setTop (mkF m 126 #[.val (.int p0), .val (.int p1), .val (.int p2), .val (.int p3), .val (.int (2 : Int32)), .val (.int v3), .val (.int v3), .val (.int v4), .val (.int v5), .val (.int v6), .val (.int v7), .val (.int v8), .unset, .unset, .unset, .unset, .unset, .unset] [(.ref b26), (.ref b26)]))
    refine Go.st (fun _ k => XS.iconst X28.here hx rfl (hb hby at_126) k) ?_
    show Go p e below _ (T28.setTop (mkF m 127 #[.val (.int p0), .val (.int p1), .val (.int p2), .val (.int p3), .val (.int (2 : Int32)), .val (.int v3), .val (.int v3), .val (.int v4), .val (.int v5), .val (.int v6), .val (.int v7), .val (.int v8), .unset, .unset, .unset, .unset, .unset, .unset] [(.int (1 : Int32)), (.ref b26), (.ref b26)]))
    refine Go.st (fun _ k => XS.iload X28.here hx rfl (hb hby at_127) rfl k) ?_
    show Go p e below _ (T28.setTop (mkF m 129 #[.val (.int p0), .val (.int p1), .val (.int p2), .val (.int p3), .val (.int (2 : Int32)), .val (.int v3), .val (.int v3), .val (.int v4), .val (.int v5), .val (.int v6), .val (.int v7), .val (.int v8), .unset, .unset, .unset, .unset, .unset, .unset] [(.int v4), (.int (1 : Int32)), (.ref b26), (.ref b26)]))
    obtain ⟨cl29, Ar29, ck29, Sz29, Nn29, Hs29, Gs29⟩ := id V28
    have hin29 : ¬ ((1 : Int32) < 0 ∨ cl29.slots.size ≤ ((1 : Int32)).toNatClampNeg) := inb_of Sz29 ⟨by decide, by decide⟩
    obtain ⟨T30, h30, X30, e30, W30, st30⟩ := stI X28 hx hZ e28 Ar29 (j := (1 : Int32)) hin29 (g := (mkF m 129 #[.val (.int p0), .val (.int p1), .val (.int p2), .val (.int p3), .val (.int (2 : Int32)), .val (.int v3), .val (.int v3), .val (.int v4), .val (.int v5), .val (.int v6), .val (.int v7), .val (.int v8), .unset, .unset, .unset, .unset, .unset, .unset] [(.int v4), (.int (1 : Int32)), (.ref b26), (.ref b26)])) rfl rfl (hb hby at_129)
    have V30 : Arv Z h30 b26 k26 .int (4 : Int32) [(.int v3), (.int v4), (.int (0 : Int32)), (.int (0 : Int32))] (.int (0 : Int32)) := Arv.set Ar29 ck29 Sz29 Nn29 Hs29 Gs29 rfl W30 1 rfl (Nat.le_of_ble_eq_true rfl)
    have N30 := Fr.snoc X30 N28 gg26
    have Z30 : n0 ≤ h30.size := by rw [W30.size]; exact Z28
    refine Go.st (fun _ k => st30 _ k) ?_
    show Go p e below _ (T30.setTop (mkF m 130 #[.val (.int p0), .val (.int p1), .val (.int p2), .val (.int p3), .val (.int (2 : Int32)), .val (.int v3), .val (.int v3), .val (.int v4), .val (.int v5), .val (.int v6), .val (.int v7), .val (.int v8), .unset, .unset, .unset, .unset, .unset, .unset] [(.ref b26)]))
    refine Go.st (fun _ k => XS.dup X30.here hx rfl (hb hby at_130) rfl rfl k) ?_
    show Go p e below _ (T30.setTop (mkF m 131 #[.val (.int p0), .val (.int p1), .val (.int p2), .val (.int p3), .val (.int (2 : Int32)), .val (.int v3), .val (.int v3), .val (.int v4), .val (.int v5), .val (.int v6), .val (.int v7), .val (.int v8), .unset, .unset, .unset, .unset, .unset, .unset] [(.ref b26), (.ref b26)]))
    refine Go.st (fun _ k => XS.iconst X30.here hx rfl (hb hby at_131) k) ?_
    show Go p e below _ (T30.setTop (mkF m 132 #[.val (.int p0), .val (.int p1), .val (.int p2), .val (.int p3), .val (.int (2 : Int32)), .val (.int v3), .val (.int v3), .val (.int v4), .val (.int v5), .val (.int v6), .val (.int v7), .val (.int v8), .unset, .unset, .unset, .unset, .unset, .unset] [(.int (2 : Int32)), (.ref b26), (.ref b26)]))
    refine Go.st (fun _ k => XS.iload X30.here hx rfl (hb hby at_132) rfl k) ?_
    show Go p e below _ (T30.setTop (mkF m 134 #[.val (.int p0), .val (.int p1), .val (.int p2), .val (.int p3), .val (.int (2 : Int32)), .val (.int v3), .val (.int v3), .val (.int v4), .val (.int v5), .val (.int v6), .val (.int v7), .val (.int v8), .unset, .unset, .unset, .unset, .unset, .unset] [(.int v5), (.int (2 : Int32)), (.ref b26), (.ref b26)]))
    obtain ⟨cl31, Ar31, ck31, Sz31, Nn31, Hs31, Gs31⟩ := id V30
    have hin31 : ¬ ((2 : Int32) < 0 ∨ cl31.slots.size ≤ ((2 : Int32)).toNatClampNeg) := inb_of Sz31 ⟨by decide, by decide⟩
    obtain ⟨T32, h32, X32, e32, W32, st32⟩ := stI X30 hx hZ e30 Ar31 (j := (2 : Int32)) hin31 (g := (mkF m 134 #[.val (.int p0), .val (.int p1), .val (.int p2), .val (.int p3), .val (.int (2 : Int32)), .val (.int v3), .val (.int v3), .val (.int v4), .val (.int v5), .val (.int v6), .val (.int v7), .val (.int v8), .unset, .unset, .unset, .unset, .unset, .unset] [(.int v5), (.int (2 : Int32)), (.ref b26), (.ref b26)])) rfl rfl (hb hby at_134)
    have V32 : Arv Z h32 b26 k26 .int (4 : Int32) [(.int v3), (.int v4), (.int v5), (.int (0 : Int32))] (.int (0 : Int32)) := Arv.set Ar31 ck31 Sz31 Nn31 Hs31 Gs31 rfl W32 2 rfl (Nat.le_of_ble_eq_true rfl)
    have N32 := Fr.snoc X32 N30 gg26
    have Z32 : n0 ≤ h32.size := by rw [W32.size]; exact Z30
    refine Go.st (fun _ k => st32 _ k) ?_
    show Go p e below _ (T32.setTop (mkF m 135 #[.val (.int p0), .val (.int p1), .val (.int p2), .val (.int p3), .val (.int (2 : Int32)), .val (.int v3), .val (.int v3), .val (.int v4), .val (.int v5), .val (.int v6), .val (.int v7), .val (.int v8), .unset, .unset, .unset, .unset, .unset, .unset] [(.ref b26)]))
    refine Go.st (fun _ k => XS.dup X32.here hx rfl (hb hby at_135) rfl rfl k) ?_
    show Go p e below _ (T32.setTop (mkF m 136 #[.val (.int p0), .val (.int p1), .val (.int p2), .val (.int p3), .val (.int (2 : Int32)), .val (.int v3), .val (.int v3), .val (.int v4), .val (.int v5), .val (.int v6), .val (.int v7), .val (.int v8), .unset, .unset, .unset, .unset, .unset, .unset] [(.ref b26), (.ref b26)]))
    refine Go.st (fun _ k => XS.iconst X32.here hx rfl (hb hby at_136) k) ?_
    show Go p e below _ (T32.setTop (mkF m 137 #[.val (.int p0), .val (.int p1), .val (.int p2), .val (.int p3), .val (.int (2 : Int32)), .val (.int v3), .val (.int v3), .val (.int v4), .val (.int v5), .val (.int v6), .val (.int v7), .val (.int v8), .unset, .unset, .unset, .unset, .unset, .unset] [(.int (3 : Int32)), (.ref b26), (.ref b26)]))
    refine Go.st (fun _ k => XS.iload X32.here hx rfl (hb hby at_137) rfl k) ?_
    show Go p e below _ (T32.setTop (mkF m 139 #[.val (.int p0), .val (.int p1), .val (.int p2), .val (.int p3), .val (.int (2 : Int32)), .val (.int v3), .val (.int v3), .val (.int v4), .val (.int v5), .val (.int v6), .val (.int v7), .val (.int v8), .unset, .unset, .unset, .unset, .unset, .unset] [(.int v6), (.int (3 : Int32)), (.ref b26), (.ref b26)]))
    obtain ⟨cl33, Ar33, ck33, Sz33, Nn33, Hs33, Gs33⟩ := id V32
    have hin33 : ¬ ((3 : Int32) < 0 ∨ cl33.slots.size ≤ ((3 : Int32)).toNatClampNeg) := inb_of Sz33 ⟨by decide, by decide⟩
    obtain ⟨T34, h34, X34, e34, W34, st34⟩ := stI X32 hx hZ e32 Ar33 (j := (3 : Int32)) hin33 (g := (mkF m 139 #[.val (.int p0), .val (.int p1), .val (.int p2), .val (.int p3), .val (.int (2 : Int32)), .val (.int v3), .val (.int v3), .val (.int v4), .val (.int v5), .val (.int v6), .val (.int v7), .val (.int v8), .unset, .unset, .unset, .unset, .unset, .unset] [(.int v6), (.int (3 : Int32)), (.ref b26), (.ref b26)])) rfl rfl (hb hby at_139)
    have V34 : Arv Z h34 b26 k26 .int (4 : Int32) [(.int v3), (.int v4), (.int v5), (.int v6)] (.int (0 : Int32)) := Arv.set Ar33 ck33 Sz33 Nn33 Hs33 Gs33 rfl W34 3 rfl (Nat.le_of_ble_eq_true rfl)
    have N34 := Fr.snoc X34 N32 gg26
    have Z34 : n0 ≤ h34.size := by rw [W34.size]; exact Z32
    refine Go.st (fun _ k => st34 _ k) ?_
    show Go p e below _ (T34.setTop (mkF m 140 #[.val (.int p0), .val (.int p1), .val (.int p2), .val (.int p3), .val (.int (2 : Int32)), .val (.int v3), .val (.int v3), .val (.int v4), .val (.int v5), .val (.int v6), .val (.int v7), .val (.int v8), .unset, .unset, .unset, .unset, .unset, .unset] [(.ref b26)]))
    refine Go.st (fun _ k => XS.astore X34.here hx rfl (hb hby at_140) rfl rfl (l' := #[.val (.int p0), .val (.int p1), .val (.int p2), .val (.int p3), .val (.int (2 : Int32)), .val (.int v3), .val (.int v3), .val (.int v4), .val (.int v5), .val (.int v6), .val (.int v7), .val (.int v8), .val (.ref b26), .unset, .unset, .unset, .unset, .unset]) rfl k) ?_
    show Go p e below _ (T34.setTop (mkF m 142 #[.val (.int p0), .val (.int p1), .val (.int p2), .val (.int p3), .val (.int (2 : Int32)), .val (.int v3), .val (.int v3), .val (.int v4), .val (.int v5), .val (.int v6), .val (.int v7), .val (.int v8), .val (.ref b26), .unset, .unset, .unset, .unset, .unset] []))
    refine Go.st (fun _ k => XS.goto X34.here hx rfl (pc0 := 142) (pc' := 181) rfl (hb hby at_142) (by decide) (by decide) k) ?_
    show Go p e below _ (T34.setTop (mkF m 181 #[.val (.int p0), .val (.int p1), .val (.int p2), .val (.int p3), .val (.int (2 : Int32)), .val (.int v3), .val (.int v3), .val (.int v4), .val (.int v5), .val (.int v6), .val (.int v7), .val (.int v8), .val (.ref b26), .unset, .unset, .unset, .unset, .unset] []))
    have key : ∀ (r : Int32), Go p e below (F_rm0 Z p0 p1 p2 p3 h0 n0 s) (T34.setTop (mkF m 204 #[.val (.int p0), .val (.int p1), .val (.int p2), .val (.int p3), .val (.int (2 : Int32)), .val (.int v3), .val (.int v3), .val (.int v4), .val (.int v5), .val (.int v6), .val (.int v7), .val (.int v8), .val (.ref b26), .val (.int r), .unset, .unset, .unset, .unset] [])) := by
      intro r
      show Go p e below _ (T34.setTop (mkF m 204 #[.val (.int p0), .val (.int p1), .val (.int p2), .val (.int p3), .val (.int (2 : Int32)), .val (.int v3), .val (.int v3), .val (.int v4), .val (.int v5), .val (.int v6), .val (.int v7), .val (.int v8), .val (.ref b26), .val (.int r), .unset, .unset, .unset, .unset] []))
      refine Go.st (fun _ k => XS.iload X34.here hx rfl (hb hby at_204) rfl k) ?_
      show Go p e below _ (T34.setTop (mkF m 206 #[.val (.int p0), .val (.int p1), .val (.int p2), .val (.int p3), .val (.int (2 : Int32)), .val (.int v3), .val (.int v3), .val (.int v4), .val (.int v5), .val (.int v6), .val (.int v7), .val (.int v8), .val (.ref b26), .val (.int r), .unset, .unset, .unset, .unset] [(.int (2 : Int32))]))
      refine Go.st (fun _ k => XS.iconst X34.here hx rfl (hb hby at_206) k) ?_
      show Go p e below _ (T34.setTop (mkF m 207 #[.val (.int p0), .val (.int p1), .val (.int p2), .val (.int p3), .val (.int (2 : Int32)), .val (.int v3), .val (.int v3), .val (.int v4), .val (.int v5), .val (.int v6), .val (.int v7), .val (.int v8), .val (.ref b26), .val (.int r), .unset, .unset, .unset, .unset] [(.int (1 : Int32)), (.int (2 : Int32))]))
      refine Go.st (fun _ k => XS.icmpNo X34.here hx rfl (hb hby at_207) rfl (flt (by decide : ¬ ((2 : Int32) < (1 : Int32)))).1 k) ?_
      show Go p e below _ (T34.setTop (mkF m 210 #[.val (.int p0), .val (.int p1), .val (.int p2), .val (.int p3), .val (.int (2 : Int32)), .val (.int v3), .val (.int v3), .val (.int v4), .val (.int v5), .val (.int v6), .val (.int v7), .val (.int v8), .val (.ref b26), .val (.int r), .unset, .unset, .unset, .unset] []))
      refine Go.st (fun _ k => XS.iload X34.here hx rfl (hb hby at_210) rfl k) ?_
      show Go p e below _ (T34.setTop (mkF m 212 #[.val (.int p0), .val (.int p1), .val (.int p2), .val (.int p3), .val (.int (2 : Int32)), .val (.int v3), .val (.int v3), .val (.int v4), .val (.int v5), .val (.int v6), .val (.int v7), .val (.int v8), .val (.ref b26), .val (.int r), .unset, .unset, .unset, .unset] [(.int v3)]))
      refine Go.st (fun _ k => XS.iload X34.here hx rfl (hb hby at_212) rfl k) ?_
      show Go p e below _ (T34.setTop (mkF m 214 #[.val (.int p0), .val (.int p1), .val (.int p2), .val (.int p3), .val (.int (2 : Int32)), .val (.int v3), .val (.int v3), .val (.int v4), .val (.int v5), .val (.int v6), .val (.int v7), .val (.int v8), .val (.ref b26), .val (.int r), .unset, .unset, .unset, .unset] [(.int r), (.int v3)]))
      by_cases hc35 : r < v3
      · show Go p e below _ (T34.setTop (mkF m 214 #[.val (.int p0), .val (.int p1), .val (.int p2), .val (.int p3), .val (.int (2 : Int32)), .val (.int v3), .val (.int v3), .val (.int v4), .val (.int v5), .val (.int v6), .val (.int v7), .val (.int v8), .val (.ref b26), .val (.int r), .unset, .unset, .unset, .unset] [(.int r), (.int v3)]))
        refine Go.st (fun _ k => XS.icmpYes X34.here hx rfl (pc0 := 214) (pc' := 228) rfl (hb hby at_214) rfl (tlt hc35).2.2.1 (by decide) (by decide) k) ?_
        show Go p e below _ (T34.setTop (mkF m 228 #[.val (.int p0), .val (.int p1), .val (.int p2), .val (.int p3), .val (.int (2 : Int32)), .val (.int v3), .val (.int v3), .val (.int v4), .val (.int v5), .val (.int v6), .val (.int v7), .val (.int v8), .val (.ref b26), .val (.int r), .unset, .unset, .unset, .unset] []))
        refine Go.st (fun _ k => XS.iconst X34.here hx rfl (hb hby at_228) k) ?_
        show Go p e below _ (T34.setTop (mkF m 229 #[.val (.int p0), .val (.int p1), .val (.int p2), .val (.int p3), .val (.int (2 : Int32)), .val (.int v3), .val (.int v3), .val (.int v4), .val (.int v5), .val (.int v6), .val (.int v7), .val (.int v8), .val (.ref b26), .val (.int r), .unset, .unset, .unset, .unset] [(.int (0 : Int32))]))
        refine Go.st (fun _ k => XS.istore X34.here hx rfl (hb hby at_229) rfl (l' := #[.val (.int p0), .val (.int p1), .val (.int p2), .val (.int p3), .val (.int (2 : Int32)), .val (.int v3), .val (.int v3), .val (.int v4), .val (.int v5), .val (.int v6), .val (.int v7), .val (.int v8), .val (.ref b26), .val (.int r), .val (.int (0 : Int32)), .unset, .unset, .unset]) rfl k) ?_
        show Go p e below _ (T34.setTop (mkF m 231 #[.val (.int p0), .val (.int p1), .val (.int p2), .val (.int p3), .val (.int (2 : Int32)), .val (.int v3), .val (.int v3), .val (.int v4), .val (.int v5), .val (.int v6), .val (.int v7), .val (.int v8), .val (.ref b26), .val (.int r), .val (.int (0 : Int32)), .unset, .unset, .unset] []))
        refine Go.st (fun _ k => XS.iload X34.here hx rfl (hb hby at_231) rfl k) ?_
        show Go p e below _ (T34.setTop (mkF m 233 #[.val (.int p0), .val (.int p1), .val (.int p2), .val (.int p3), .val (.int (2 : Int32)), .val (.int v3), .val (.int v3), .val (.int v4), .val (.int v5), .val (.int v6), .val (.int v7), .val (.int v8), .val (.ref b26), .val (.int r), .val (.int (0 : Int32)), .unset, .unset, .unset] [(.int (2 : Int32))]))
        refine Go.st (fun _ k => XS.iconst X34.here hx rfl (hb hby at_233) k) ?_
        show Go p e below _ (T34.setTop (mkF m 234 #[.val (.int p0), .val (.int p1), .val (.int p2), .val (.int p3), .val (.int (2 : Int32)), .val (.int v3), .val (.int v3), .val (.int v4), .val (.int v5), .val (.int v6), .val (.int v7), .val (.int v8), .val (.ref b26), .val (.int r), .val (.int (0 : Int32)), .unset, .unset, .unset] [(.int (2 : Int32)), (.int (2 : Int32))]))
        refine Go.st (fun _ k => XS.icmpNo X34.here hx rfl (hb hby at_234) rfl (flt (by decide : ¬ ((2 : Int32) < (2 : Int32)))).1 k) ?_
        show Go p e below _ (T34.setTop (mkF m 237 #[.val (.int p0), .val (.int p1), .val (.int p2), .val (.int p3), .val (.int (2 : Int32)), .val (.int v3), .val (.int v3), .val (.int v4), .val (.int v5), .val (.int v6), .val (.int v7), .val (.int v8), .val (.ref b26), .val (.int r), .val (.int (0 : Int32)), .unset, .unset, .unset] []))
        refine Go.st (fun _ k => XS.iload X34.here hx rfl (hb hby at_237) rfl k) ?_
        show Go p e below _ (T34.setTop (mkF m 239 #[.val (.int p0), .val (.int p1), .val (.int p2), .val (.int p3), .val (.int (2 : Int32)), .val (.int v3), .val (.int v3), .val (.int v4), .val (.int v5), .val (.int v6), .val (.int v7), .val (.int v8), .val (.ref b26), .val (.int r), .val (.int (0 : Int32)), .unset, .unset, .unset] [(.int v5)]))
        refine Go.st (fun _ k => XS.iload X34.here hx rfl (hb hby at_239) rfl k) ?_
        show Go p e below _ (T34.setTop (mkF m 241 #[.val (.int p0), .val (.int p1), .val (.int p2), .val (.int p3), .val (.int (2 : Int32)), .val (.int v3), .val (.int v3), .val (.int v4), .val (.int v5), .val (.int v6), .val (.int v7), .val (.int v8), .val (.ref b26), .val (.int r), .val (.int (0 : Int32)), .unset, .unset, .unset] [(.int r), (.int v5)]))
        refine Go.st (fun _ k => XS.icmpYes X34.here hx rfl (pc0 := 241) (pc' := 255) rfl (hb hby at_241) rfl (tlt (Int32.lt_iff_toInt_lt.mpr (by have zhc35 : r.toInt < v3.toInt := Int32.lt_iff_toInt_lt.mp hc35; omega))).2.2.1 (by decide) (by decide) k) ?_
        show Go p e below _ (T34.setTop (mkF m 255 #[.val (.int p0), .val (.int p1), .val (.int p2), .val (.int p3), .val (.int (2 : Int32)), .val (.int v3), .val (.int v3), .val (.int v4), .val (.int v5), .val (.int v6), .val (.int v7), .val (.int v8), .val (.ref b26), .val (.int r), .val (.int (0 : Int32)), .unset, .unset, .unset] []))
        refine Go.st (fun _ k => XS.iconst X34.here hx rfl (hb hby at_255) k) ?_
        show Go p e below _ (T34.setTop (mkF m 256 #[.val (.int p0), .val (.int p1), .val (.int p2), .val (.int p3), .val (.int (2 : Int32)), .val (.int v3), .val (.int v3), .val (.int v4), .val (.int v5), .val (.int v6), .val (.int v7), .val (.int v8), .val (.ref b26), .val (.int r), .val (.int (0 : Int32)), .unset, .unset, .unset] [(.int (0 : Int32))]))
        refine Go.st (fun _ k => XS.istore X34.here hx rfl (hb hby at_256) rfl (l' := #[.val (.int p0), .val (.int p1), .val (.int p2), .val (.int p3), .val (.int (2 : Int32)), .val (.int v3), .val (.int v3), .val (.int v4), .val (.int v5), .val (.int v6), .val (.int v7), .val (.int v8), .val (.ref b26), .val (.int r), .val (.int (0 : Int32)), .val (.int (0 : Int32)), .unset, .unset]) rfl k) ?_
        show Go p e below _ (T34.setTop (mkF m 258 #[.val (.int p0), .val (.int p1), .val (.int p2), .val (.int p3), .val (.int (2 : Int32)), .val (.int v3), .val (.int v3), .val (.int v4), .val (.int v5), .val (.int v6), .val (.int v7), .val (.int v8), .val (.ref b26), .val (.int r), .val (.int (0 : Int32)), .val (.int (0 : Int32)), .unset, .unset] []))
        refine Go.st (fun _ k => XS.iload X34.here hx rfl (hb hby at_258) rfl k) ?_
        show Go p e below _ (T34.setTop (mkF m 260 #[.val (.int p0), .val (.int p1), .val (.int p2), .val (.int p3), .val (.int (2 : Int32)), .val (.int v3), .val (.int v3), .val (.int v4), .val (.int v5), .val (.int v6), .val (.int v7), .val (.int v8), .val (.ref b26), .val (.int r), .val (.int (0 : Int32)), .val (.int (0 : Int32)), .unset, .unset] [(.int (2 : Int32))]))
        refine Go.st (fun _ k => XS.iconst X34.here hx rfl (hb hby at_260) k) ?_
        show Go p e below _ (T34.setTop (mkF m 261 #[.val (.int p0), .val (.int p1), .val (.int p2), .val (.int p3), .val (.int (2 : Int32)), .val (.int v3), .val (.int v3), .val (.int v4), .val (.int v5), .val (.int v6), .val (.int v7), .val (.int v8), .val (.ref b26), .val (.int r), .val (.int (0 : Int32)), .val (.int (0 : Int32)), .unset, .unset] [(.int (3 : Int32)), (.int (2 : Int32))]))
        refine Go.st (fun _ k => XS.icmpYes X34.here hx rfl (pc0 := 261) (pc' := 282) rfl (hb hby at_261) rfl (tlt (by decide : ((2 : Int32) < (3 : Int32)))).1 (by decide) (by decide) k) ?_
        show Go p e below _ (T34.setTop (mkF m 282 #[.val (.int p0), .val (.int p1), .val (.int p2), .val (.int p3), .val (.int (2 : Int32)), .val (.int v3), .val (.int v3), .val (.int v4), .val (.int v5), .val (.int v6), .val (.int v7), .val (.int v8), .val (.ref b26), .val (.int r), .val (.int (0 : Int32)), .val (.int (0 : Int32)), .unset, .unset] []))
        refine Go.st (fun _ k => XS.iconst X34.here hx rfl (hb hby at_282) k) ?_
        show Go p e below _ (T34.setTop (mkF m 283 #[.val (.int p0), .val (.int p1), .val (.int p2), .val (.int p3), .val (.int (2 : Int32)), .val (.int v3), .val (.int v3), .val (.int v4), .val (.int v5), .val (.int v6), .val (.int v7), .val (.int v8), .val (.ref b26), .val (.int r), .val (.int (0 : Int32)), .val (.int (0 : Int32)), .unset, .unset] [(.int (0 : Int32))]))
        refine Go.st (fun _ k => XS.istore X34.here hx rfl (hb hby at_283) rfl (l' := #[.val (.int p0), .val (.int p1), .val (.int p2), .val (.int p3), .val (.int (2 : Int32)), .val (.int v3), .val (.int v3), .val (.int v4), .val (.int v5), .val (.int v6), .val (.int v7), .val (.int v8), .val (.ref b26), .val (.int r), .val (.int (0 : Int32)), .val (.int (0 : Int32)), .val (.int (0 : Int32)), .unset]) rfl k) ?_
        show Go p e below _ (T34.setTop (mkF m 285 #[.val (.int p0), .val (.int p1), .val (.int p2), .val (.int p3), .val (.int (2 : Int32)), .val (.int v3), .val (.int v3), .val (.int v4), .val (.int v5), .val (.int v6), .val (.int v7), .val (.int v8), .val (.ref b26), .val (.int r), .val (.int (0 : Int32)), .val (.int (0 : Int32)), .val (.int (0 : Int32)), .unset] []))
        refine Go.st (fun _ k => XS.iload X34.here hx rfl (hb hby at_285) rfl k) ?_
        show Go p e below _ (T34.setTop (mkF m 287 #[.val (.int p0), .val (.int p1), .val (.int p2), .val (.int p3), .val (.int (2 : Int32)), .val (.int v3), .val (.int v3), .val (.int v4), .val (.int v5), .val (.int v6), .val (.int v7), .val (.int v8), .val (.ref b26), .val (.int r), .val (.int (0 : Int32)), .val (.int (0 : Int32)), .val (.int (0 : Int32)), .unset] [(.int (0 : Int32))]))
        refine Go.st (fun _ k => XS.ifNo X34.here hx rfl (hb hby at_287) rfl ((if0 _ _).trans (teq (by decide : ((0 : Int32) = (0 : Int32)))).2) k) ?_
        show Go p e below _ (T34.setTop (mkF m 290 #[.val (.int p0), .val (.int p1), .val (.int p2), .val (.int p3), .val (.int (2 : Int32)), .val (.int v3), .val (.int v3), .val (.int v4), .val (.int v5), .val (.int v6), .val (.int v7), .val (.int v8), .val (.ref b26), .val (.int r), .val (.int (0 : Int32)), .val (.int (0 : Int32)), .val (.int (0 : Int32)), .unset] []))
        refine Go.st (fun _ k => XS.iload X34.here hx rfl (hb hby at_290) rfl k) ?_
        show Go p e below _ (T34.setTop (mkF m 292 #[.val (.int p0), .val (.int p1), .val (.int p2), .val (.int p3), .val (.int (2 : Int32)), .val (.int v3), .val (.int v3), .val (.int v4), .val (.int v5), .val (.int v6), .val (.int v7), .val (.int v8), .val (.ref b26), .val (.int r), .val (.int (0 : Int32)), .val (.int (0 : Int32)), .val (.int (0 : Int32)), .unset] [(.int (0 : Int32))]))
        refine Go.st (fun _ k => XS.ifNo X34.here hx rfl (hb hby at_292) rfl ((if0 _ _).trans (teq (by decide : ((0 : Int32) = (0 : Int32)))).2) k) ?_
        show Go p e below _ (T34.setTop (mkF m 295 #[.val (.int p0), .val (.int p1), .val (.int p2), .val (.int p3), .val (.int (2 : Int32)), .val (.int v3), .val (.int v3), .val (.int v4), .val (.int v5), .val (.int v6), .val (.int v7), .val (.int v8), .val (.ref b26), .val (.int r), .val (.int (0 : Int32)), .val (.int (0 : Int32)), .val (.int (0 : Int32)), .unset] []))
        refine Go.st (fun _ k => XS.iload X34.here hx rfl (hb hby at_295) rfl k) ?_
        show Go p e below _ (T34.setTop (mkF m 297 #[.val (.int p0), .val (.int p1), .val (.int p2), .val (.int p3), .val (.int (2 : Int32)), .val (.int v3), .val (.int v3), .val (.int v4), .val (.int v5), .val (.int v6), .val (.int v7), .val (.int v8), .val (.ref b26), .val (.int r), .val (.int (0 : Int32)), .val (.int (0 : Int32)), .val (.int (0 : Int32)), .unset] [(.int (0 : Int32))]))
        refine Go.st (fun _ k => XS.ifYes X34.here hx rfl (pc0 := 297) (pc' := 304) rfl (hb hby at_297) rfl ((if0 _ _).trans (teq (by decide : ((0 : Int32) = (0 : Int32)))).1) (by decide) (by decide) k) ?_
        show Go p e below _ (T34.setTop (mkF m 304 #[.val (.int p0), .val (.int p1), .val (.int p2), .val (.int p3), .val (.int (2 : Int32)), .val (.int v3), .val (.int v3), .val (.int v4), .val (.int v5), .val (.int v6), .val (.int v7), .val (.int v8), .val (.ref b26), .val (.int r), .val (.int (0 : Int32)), .val (.int (0 : Int32)), .val (.int (0 : Int32)), .unset] []))
        refine Go.st (fun _ k => XS.iconst X34.here hx rfl (hb hby at_304) k) ?_
        show Go p e below _ (T34.setTop (mkF m 305 #[.val (.int p0), .val (.int p1), .val (.int p2), .val (.int p3), .val (.int (2 : Int32)), .val (.int v3), .val (.int v3), .val (.int v4), .val (.int v5), .val (.int v6), .val (.int v7), .val (.int v8), .val (.ref b26), .val (.int r), .val (.int (0 : Int32)), .val (.int (0 : Int32)), .val (.int (0 : Int32)), .unset] [(.int (0 : Int32))]))
        refine Go.st (fun _ k => XS.istore X34.here hx rfl (hb hby at_305) rfl (l' := #[.val (.int p0), .val (.int p1), .val (.int p2), .val (.int p3), .val (.int (2 : Int32)), .val (.int v3), .val (.int v3), .val (.int v4), .val (.int v5), .val (.int v6), .val (.int v7), .val (.int v8), .val (.ref b26), .val (.int r), .val (.int (0 : Int32)), .val (.int (0 : Int32)), .val (.int (0 : Int32)), .val (.int (0 : Int32))]) rfl k) ?_
        show Go p e below _ (T34.setTop (mkF m 307 #[.val (.int p0), .val (.int p1), .val (.int p2), .val (.int p3), .val (.int (2 : Int32)), .val (.int v3), .val (.int v3), .val (.int v4), .val (.int v5), .val (.int v6), .val (.int v7), .val (.int v8), .val (.ref b26), .val (.int r), .val (.int (0 : Int32)), .val (.int (0 : Int32)), .val (.int (0 : Int32)), .val (.int (0 : Int32))] []))
        refine Go.st (fun _ k => XS.aload X34.here hx rfl (hb hby at_307) rfl rfl k) ?_
        show Go p e below _ (T34.setTop (mkF m 309 #[.val (.int p0), .val (.int p1), .val (.int p2), .val (.int p3), .val (.int (2 : Int32)), .val (.int v3), .val (.int v3), .val (.int v4), .val (.int v5), .val (.int v6), .val (.int v7), .val (.int v8), .val (.ref b26), .val (.int r), .val (.int (0 : Int32)), .val (.int (0 : Int32)), .val (.int (0 : Int32)), .val (.int (0 : Int32))] [(.ref b26)]))
        refine Go.st (fun _ k => XS.iload X34.here hx rfl (hb hby at_309) rfl k) ?_
        show Go p e below _ (T34.setTop (mkF m 311 #[.val (.int p0), .val (.int p1), .val (.int p2), .val (.int p3), .val (.int (2 : Int32)), .val (.int v3), .val (.int v3), .val (.int v4), .val (.int v5), .val (.int v6), .val (.int v7), .val (.int v8), .val (.ref b26), .val (.int r), .val (.int (0 : Int32)), .val (.int (0 : Int32)), .val (.int (0 : Int32)), .val (.int (0 : Int32))] [(.int r), (.ref b26)]))
        obtain ⟨_, _, ⟨T36, L36, k36, n36⟩, -, X36, ⟨Lc36, hQ36, l36, y36, z36⟩, st36⟩ := Jvm.LawKit.callS X34 hx (y := (⟨"com/example/weir/weir/route/ValueRegions", "contains", "([II)Z"⟩ : MethodName)) hown (mvT hZ (hw _ (List.mem_of_getElem? (i := 6) rfl))) (mvT hZ (hw _ (List.mem_of_getElem? (i := 7) rfl))) (mvT hZ (hw _ (List.mem_of_getElem? (i := 8) rfl))) (mvT hZ (hw _ (List.mem_of_getElem? (i := 9) rfl))) (by decide) (backOf (W := 0) (rmC4 l Z aZ hw [] b26 r k26 v3 v4 v5 v6 h34 n0 V34) hZ (hw _ (List.mem_of_getElem? (i := 9) rfl)) (hw _ (List.mem_of_getElem? (i := 8) rfl)) (by decide) (by decide)) (g := (mkF m 311 #[.val (.int p0), .val (.int p1), .val (.int p2), .val (.int p3), .val (.int (2 : Int32)), .val (.int v3), .val (.int v3), .val (.int v4), .val (.int v5), .val (.int v6), .val (.int v7), .val (.int v8), .val (.ref b26), .val (.int r), .val (.int (0 : Int32)), .val (.int (0 : Int32)), .val (.int (0 : Int32)), .val (.int (0 : Int32))] [(.int r), (.ref b26)])) rfl (by rw [hml]; rfl) (argsL := [(.ref b26), (.int r)]) (rest := []) (lenOf pd93e6ecdc rfl) rfl (by show 2 * 0 + _ ≤ _; exact Nat.le_of_eq rfl) (hb hby at_311) (fun _ _ => ⟨rfl, e34, (by decide : 1 + 0 ≤ _), (by decide : 4 + 0 ≤ _)⟩)
        dsimp only [Pt.U, Pt.locs, Pt.cells, Pt.slots] at X36 l36 y36 z36 st36 hQ36
        subst l36 y36 z36
        obtain ⟨rfl, N36q, e36⟩ := hQ36
        have N36 := Fr.app N34 N36q
        refine Go.st (fun _ k => st36 _ k) ?_
        show Go p e below _ (T36.setTop (mkF m 314 #[.val (.int p0), .val (.int p1), .val (.int p2), .val (.int p3), .val (.int (2 : Int32)), .val (.int v3), .val (.int v3), .val (.int v4), .val (.int v5), .val (.int v6), .val (.int v7), .val (.int v8), .val (.ref b26), .val (.int r), .val (.int (0 : Int32)), .val (.int (0 : Int32)), .val (.int (0 : Int32)), .val (.int (0 : Int32))] [(.int (fC4 r v3 v4 v5 v6))]))
        refine Go.st (fun _ k => XS.iload X36.here hx rfl (hb hby at_314) rfl k) ?_
        show Go p e below _ (T36.setTop (mkF m 316 #[.val (.int p0), .val (.int p1), .val (.int p2), .val (.int p3), .val (.int (2 : Int32)), .val (.int v3), .val (.int v3), .val (.int v4), .val (.int v5), .val (.int v6), .val (.int v7), .val (.int v8), .val (.ref b26), .val (.int r), .val (.int (0 : Int32)), .val (.int (0 : Int32)), .val (.int (0 : Int32)), .val (.int (0 : Int32))] [(.int (0 : Int32)), (.int (fC4 r v3 v4 v5 v6))]))
        refine Go.st (fun _ k => XS.icmpNo X36.here hx rfl (hb hby at_316) rfl (teq (by unfold fC4; rw [if_pos hc35])).2 k) ?_
        show Go p e below _ (T36.setTop (mkF m 319 #[.val (.int p0), .val (.int p1), .val (.int p2), .val (.int p3), .val (.int (2 : Int32)), .val (.int v3), .val (.int v3), .val (.int v4), .val (.int v5), .val (.int v6), .val (.int v7), .val (.int v8), .val (.ref b26), .val (.int r), .val (.int (0 : Int32)), .val (.int (0 : Int32)), .val (.int (0 : Int32)), .val (.int (0 : Int32))] []))
        refine Go.st (fun _ k => XS.iconst X36.here hx rfl (hb hby at_319) k) ?_
        show Go p e below _ (T36.setTop (mkF m 320 #[.val (.int p0), .val (.int p1), .val (.int p2), .val (.int p3), .val (.int (2 : Int32)), .val (.int v3), .val (.int v3), .val (.int v4), .val (.int v5), .val (.int v6), .val (.int v7), .val (.int v8), .val (.ref b26), .val (.int r), .val (.int (0 : Int32)), .val (.int (0 : Int32)), .val (.int (0 : Int32)), .val (.int (0 : Int32))] [(.int (1 : Int32))]))
        refine Go.st (fun _ k => XS.goto X36.here hx rfl (pc0 := 320) (pc' := 324) rfl (hb hby at_320) (by decide) (by decide) k) ?_
        show Go p e below _ (T36.setTop (mkF m 324 #[.val (.int p0), .val (.int p1), .val (.int p2), .val (.int p3), .val (.int (2 : Int32)), .val (.int v3), .val (.int v3), .val (.int v4), .val (.int v5), .val (.int v6), .val (.int v7), .val (.int v8), .val (.ref b26), .val (.int r), .val (.int (0 : Int32)), .val (.int (0 : Int32)), .val (.int (0 : Int32)), .val (.int (0 : Int32))] [(.int (1 : Int32))]))
        obtain ⟨fs, hr, hrun, hended, hW, hsame⟩ := X36.leave (v := some (.int (1 : Int32))) (fun h => by rw [Bd.returns] at h; cases h)
        refine ⟨_, _, retN X36 hx (t := .boolean) Bd.returns (by simp) (hb hby at_324) hr, hrun, hended, _, _, rfl, ?_, ⟨_, rfl⟩, hW, hsame.mono (by decide) (by decide)⟩
        show Q_rm0 Z p0 p1 p2 p3 h0 n0 _ T36.heap _
        rw [e36]
        exact ⟨rfl, N36⟩
      · show Go p e below _ (T34.setTop (mkF m 214 #[.val (.int p0), .val (.int p1), .val (.int p2), .val (.int p3), .val (.int (2 : Int32)), .val (.int v3), .val (.int v3), .val (.int v4), .val (.int v5), .val (.int v6), .val (.int v7), .val (.int v8), .val (.ref b26), .val (.int r), .unset, .unset, .unset, .unset] [(.int r), (.int v3)]))
        refine Go.st (fun _ k => XS.icmpNo X34.here hx rfl (hb hby at_214) rfl (flt hc35).2.2.1 k) ?_
        show Go p e below _ (T34.setTop (mkF m 217 #[.val (.int p0), .val (.int p1), .val (.int p2), .val (.int p3), .val (.int (2 : Int32)), .val (.int v3), .val (.int v3), .val (.int v4), .val (.int v5), .val (.int v6), .val (.int v7), .val (.int v8), .val (.ref b26), .val (.int r), .unset, .unset, .unset, .unset] []))
        refine Go.st (fun _ k => XS.iload X34.here hx rfl (hb hby at_217) rfl k) ?_
        show Go p e below _ (T34.setTop (mkF m 219 #[.val (.int p0), .val (.int p1), .val (.int p2), .val (.int p3), .val (.int (2 : Int32)), .val (.int v3), .val (.int v3), .val (.int v4), .val (.int v5), .val (.int v6), .val (.int v7), .val (.int v8), .val (.ref b26), .val (.int r), .unset, .unset, .unset, .unset] [(.int r)]))
        refine Go.st (fun _ k => XS.iload X34.here hx rfl (hb hby at_219) rfl k) ?_
        show Go p e below _ (T34.setTop (mkF m 221 #[.val (.int p0), .val (.int p1), .val (.int p2), .val (.int p3), .val (.int (2 : Int32)), .val (.int v3), .val (.int v3), .val (.int v4), .val (.int v5), .val (.int v6), .val (.int v7), .val (.int v8), .val (.ref b26), .val (.int r), .unset, .unset, .unset, .unset] [(.int v4), (.int r)]))
        by_cases hc37 : v4 < r
        · show Go p e below _ (T34.setTop (mkF m 221 #[.val (.int p0), .val (.int p1), .val (.int p2), .val (.int p3), .val (.int (2 : Int32)), .val (.int v3), .val (.int v3), .val (.int v4), .val (.int v5), .val (.int v6), .val (.int v7), .val (.int v8), .val (.ref b26), .val (.int r), .unset, .unset, .unset, .unset] [(.int v4), (.int r)]))
          refine Go.st (fun _ k => XS.icmpYes X34.here hx rfl (pc0 := 221) (pc' := 228) rfl (hb hby at_221) rfl (tlt hc37).2.2.1 (by decide) (by decide) k) ?_
          show Go p e below _ (T34.setTop (mkF m 228 #[.val (.int p0), .val (.int p1), .val (.int p2), .val (.int p3), .val (.int (2 : Int32)), .val (.int v3), .val (.int v3), .val (.int v4), .val (.int v5), .val (.int v6), .val (.int v7), .val (.int v8), .val (.ref b26), .val (.int r), .unset, .unset, .unset, .unset] []))
          refine Go.st (fun _ k => XS.iconst X34.here hx rfl (hb hby at_228) k) ?_
          show Go p e below _ (T34.setTop (mkF m 229 #[.val (.int p0), .val (.int p1), .val (.int p2), .val (.int p3), .val (.int (2 : Int32)), .val (.int v3), .val (.int v3), .val (.int v4), .val (.int v5), .val (.int v6), .val (.int v7), .val (.int v8), .val (.ref b26), .val (.int r), .unset, .unset, .unset, .unset] [(.int (0 : Int32))]))
          refine Go.st (fun _ k => XS.istore X34.here hx rfl (hb hby at_229) rfl (l' := #[.val (.int p0), .val (.int p1), .val (.int p2), .val (.int p3), .val (.int (2 : Int32)), .val (.int v3), .val (.int v3), .val (.int v4), .val (.int v5), .val (.int v6), .val (.int v7), .val (.int v8), .val (.ref b26), .val (.int r), .val (.int (0 : Int32)), .unset, .unset, .unset]) rfl k) ?_
          show Go p e below _ (T34.setTop (mkF m 231 #[.val (.int p0), .val (.int p1), .val (.int p2), .val (.int p3), .val (.int (2 : Int32)), .val (.int v3), .val (.int v3), .val (.int v4), .val (.int v5), .val (.int v6), .val (.int v7), .val (.int v8), .val (.ref b26), .val (.int r), .val (.int (0 : Int32)), .unset, .unset, .unset] []))
          refine Go.st (fun _ k => XS.iload X34.here hx rfl (hb hby at_231) rfl k) ?_
          show Go p e below _ (T34.setTop (mkF m 233 #[.val (.int p0), .val (.int p1), .val (.int p2), .val (.int p3), .val (.int (2 : Int32)), .val (.int v3), .val (.int v3), .val (.int v4), .val (.int v5), .val (.int v6), .val (.int v7), .val (.int v8), .val (.ref b26), .val (.int r), .val (.int (0 : Int32)), .unset, .unset, .unset] [(.int (2 : Int32))]))
          refine Go.st (fun _ k => XS.iconst X34.here hx rfl (hb hby at_233) k) ?_
          show Go p e below _ (T34.setTop (mkF m 234 #[.val (.int p0), .val (.int p1), .val (.int p2), .val (.int p3), .val (.int (2 : Int32)), .val (.int v3), .val (.int v3), .val (.int v4), .val (.int v5), .val (.int v6), .val (.int v7), .val (.int v8), .val (.ref b26), .val (.int r), .val (.int (0 : Int32)), .unset, .unset, .unset] [(.int (2 : Int32)), (.int (2 : Int32))]))
          refine Go.st (fun _ k => XS.icmpNo X34.here hx rfl (hb hby at_234) rfl (flt (by decide : ¬ ((2 : Int32) < (2 : Int32)))).1 k) ?_
          show Go p e below _ (T34.setTop (mkF m 237 #[.val (.int p0), .val (.int p1), .val (.int p2), .val (.int p3), .val (.int (2 : Int32)), .val (.int v3), .val (.int v3), .val (.int v4), .val (.int v5), .val (.int v6), .val (.int v7), .val (.int v8), .val (.ref b26), .val (.int r), .val (.int (0 : Int32)), .unset, .unset, .unset] []))
          refine Go.st (fun _ k => XS.iload X34.here hx rfl (hb hby at_237) rfl k) ?_
          show Go p e below _ (T34.setTop (mkF m 239 #[.val (.int p0), .val (.int p1), .val (.int p2), .val (.int p3), .val (.int (2 : Int32)), .val (.int v3), .val (.int v3), .val (.int v4), .val (.int v5), .val (.int v6), .val (.int v7), .val (.int v8), .val (.ref b26), .val (.int r), .val (.int (0 : Int32)), .unset, .unset, .unset] [(.int v5)]))
          refine Go.st (fun _ k => XS.iload X34.here hx rfl (hb hby at_239) rfl k) ?_
          show Go p e below _ (T34.setTop (mkF m 241 #[.val (.int p0), .val (.int p1), .val (.int p2), .val (.int p3), .val (.int (2 : Int32)), .val (.int v3), .val (.int v3), .val (.int v4), .val (.int v5), .val (.int v6), .val (.int v7), .val (.int v8), .val (.ref b26), .val (.int r), .val (.int (0 : Int32)), .unset, .unset, .unset] [(.int r), (.int v5)]))
          by_cases hc38 : r < v5
          · show Go p e below _ (T34.setTop (mkF m 241 #[.val (.int p0), .val (.int p1), .val (.int p2), .val (.int p3), .val (.int (2 : Int32)), .val (.int v3), .val (.int v3), .val (.int v4), .val (.int v5), .val (.int v6), .val (.int v7), .val (.int v8), .val (.ref b26), .val (.int r), .val (.int (0 : Int32)), .unset, .unset, .unset] [(.int r), (.int v5)]))
            refine Go.st (fun _ k => XS.icmpYes X34.here hx rfl (pc0 := 241) (pc' := 255) rfl (hb hby at_241) rfl (tlt hc38).2.2.1 (by decide) (by decide) k) ?_
            show Go p e below _ (T34.setTop (mkF m 255 #[.val (.int p0), .val (.int p1), .val (.int p2), .val (.int p3), .val (.int (2 : Int32)), .val (.int v3), .val (.int v3), .val (.int v4), .val (.int v5), .val (.int v6), .val (.int v7), .val (.int v8), .val (.ref b26), .val (.int r), .val (.int (0 : Int32)), .unset, .unset, .unset] []))
            refine Go.st (fun _ k => XS.iconst X34.here hx rfl (hb hby at_255) k) ?_
            show Go p e below _ (T34.setTop (mkF m 256 #[.val (.int p0), .val (.int p1), .val (.int p2), .val (.int p3), .val (.int (2 : Int32)), .val (.int v3), .val (.int v3), .val (.int v4), .val (.int v5), .val (.int v6), .val (.int v7), .val (.int v8), .val (.ref b26), .val (.int r), .val (.int (0 : Int32)), .unset, .unset, .unset] [(.int (0 : Int32))]))
            refine Go.st (fun _ k => XS.istore X34.here hx rfl (hb hby at_256) rfl (l' := #[.val (.int p0), .val (.int p1), .val (.int p2), .val (.int p3), .val (.int (2 : Int32)), .val (.int v3), .val (.int v3), .val (.int v4), .val (.int v5), .val (.int v6), .val (.int v7), .val (.int v8), .val (.ref b26), .val (.int r), .val (.int (0 : Int32)), .val (.int (0 : Int32)), .unset, .unset]) rfl k) ?_
            show Go p e below _ (T34.setTop (mkF m 258 #[.val (.int p0), .val (.int p1), .val (.int p2), .val (.int p3), .val (.int (2 : Int32)), .val (.int v3), .val (.int v3), .val (.int v4), .val (.int v5), .val (.int v6), .val (.int v7), .val (.int v8), .val (.ref b26), .val (.int r), .val (.int (0 : Int32)), .val (.int (0 : Int32)), .unset, .unset] []))
            refine Go.st (fun _ k => XS.iload X34.here hx rfl (hb hby at_258) rfl k) ?_
            show Go p e below _ (T34.setTop (mkF m 260 #[.val (.int p0), .val (.int p1), .val (.int p2), .val (.int p3), .val (.int (2 : Int32)), .val (.int v3), .val (.int v3), .val (.int v4), .val (.int v5), .val (.int v6), .val (.int v7), .val (.int v8), .val (.ref b26), .val (.int r), .val (.int (0 : Int32)), .val (.int (0 : Int32)), .unset, .unset] [(.int (2 : Int32))]))
            refine Go.st (fun _ k => XS.iconst X34.here hx rfl (hb hby at_260) k) ?_
            show Go p e below _ (T34.setTop (mkF m 261 #[.val (.int p0), .val (.int p1), .val (.int p2), .val (.int p3), .val (.int (2 : Int32)), .val (.int v3), .val (.int v3), .val (.int v4), .val (.int v5), .val (.int v6), .val (.int v7), .val (.int v8), .val (.ref b26), .val (.int r), .val (.int (0 : Int32)), .val (.int (0 : Int32)), .unset, .unset] [(.int (3 : Int32)), (.int (2 : Int32))]))
            refine Go.st (fun _ k => XS.icmpYes X34.here hx rfl (pc0 := 261) (pc' := 282) rfl (hb hby at_261) rfl (tlt (by decide : ((2 : Int32) < (3 : Int32)))).1 (by decide) (by decide) k) ?_
            show Go p e below _ (T34.setTop (mkF m 282 #[.val (.int p0), .val (.int p1), .val (.int p2), .val (.int p3), .val (.int (2 : Int32)), .val (.int v3), .val (.int v3), .val (.int v4), .val (.int v5), .val (.int v6), .val (.int v7), .val (.int v8), .val (.ref b26), .val (.int r), .val (.int (0 : Int32)), .val (.int (0 : Int32)), .unset, .unset] []))
            refine Go.st (fun _ k => XS.iconst X34.here hx rfl (hb hby at_282) k) ?_
            show Go p e below _ (T34.setTop (mkF m 283 #[.val (.int p0), .val (.int p1), .val (.int p2), .val (.int p3), .val (.int (2 : Int32)), .val (.int v3), .val (.int v3), .val (.int v4), .val (.int v5), .val (.int v6), .val (.int v7), .val (.int v8), .val (.ref b26), .val (.int r), .val (.int (0 : Int32)), .val (.int (0 : Int32)), .unset, .unset] [(.int (0 : Int32))]))
            refine Go.st (fun _ k => XS.istore X34.here hx rfl (hb hby at_283) rfl (l' := #[.val (.int p0), .val (.int p1), .val (.int p2), .val (.int p3), .val (.int (2 : Int32)), .val (.int v3), .val (.int v3), .val (.int v4), .val (.int v5), .val (.int v6), .val (.int v7), .val (.int v8), .val (.ref b26), .val (.int r), .val (.int (0 : Int32)), .val (.int (0 : Int32)), .val (.int (0 : Int32)), .unset]) rfl k) ?_
            show Go p e below _ (T34.setTop (mkF m 285 #[.val (.int p0), .val (.int p1), .val (.int p2), .val (.int p3), .val (.int (2 : Int32)), .val (.int v3), .val (.int v3), .val (.int v4), .val (.int v5), .val (.int v6), .val (.int v7), .val (.int v8), .val (.ref b26), .val (.int r), .val (.int (0 : Int32)), .val (.int (0 : Int32)), .val (.int (0 : Int32)), .unset] []))
            refine Go.st (fun _ k => XS.iload X34.here hx rfl (hb hby at_285) rfl k) ?_
            show Go p e below _ (T34.setTop (mkF m 287 #[.val (.int p0), .val (.int p1), .val (.int p2), .val (.int p3), .val (.int (2 : Int32)), .val (.int v3), .val (.int v3), .val (.int v4), .val (.int v5), .val (.int v6), .val (.int v7), .val (.int v8), .val (.ref b26), .val (.int r), .val (.int (0 : Int32)), .val (.int (0 : Int32)), .val (.int (0 : Int32)), .unset] [(.int (0 : Int32))]))
            refine Go.st (fun _ k => XS.ifNo X34.here hx rfl (hb hby at_287) rfl ((if0 _ _).trans (teq (by decide : ((0 : Int32) = (0 : Int32)))).2) k) ?_
            show Go p e below _ (T34.setTop (mkF m 290 #[.val (.int p0), .val (.int p1), .val (.int p2), .val (.int p3), .val (.int (2 : Int32)), .val (.int v3), .val (.int v3), .val (.int v4), .val (.int v5), .val (.int v6), .val (.int v7), .val (.int v8), .val (.ref b26), .val (.int r), .val (.int (0 : Int32)), .val (.int (0 : Int32)), .val (.int (0 : Int32)), .unset] []))
            refine Go.st (fun _ k => XS.iload X34.here hx rfl (hb hby at_290) rfl k) ?_
            show Go p e below _ (T34.setTop (mkF m 292 #[.val (.int p0), .val (.int p1), .val (.int p2), .val (.int p3), .val (.int (2 : Int32)), .val (.int v3), .val (.int v3), .val (.int v4), .val (.int v5), .val (.int v6), .val (.int v7), .val (.int v8), .val (.ref b26), .val (.int r), .val (.int (0 : Int32)), .val (.int (0 : Int32)), .val (.int (0 : Int32)), .unset] [(.int (0 : Int32))]))
            refine Go.st (fun _ k => XS.ifNo X34.here hx rfl (hb hby at_292) rfl ((if0 _ _).trans (teq (by decide : ((0 : Int32) = (0 : Int32)))).2) k) ?_
            show Go p e below _ (T34.setTop (mkF m 295 #[.val (.int p0), .val (.int p1), .val (.int p2), .val (.int p3), .val (.int (2 : Int32)), .val (.int v3), .val (.int v3), .val (.int v4), .val (.int v5), .val (.int v6), .val (.int v7), .val (.int v8), .val (.ref b26), .val (.int r), .val (.int (0 : Int32)), .val (.int (0 : Int32)), .val (.int (0 : Int32)), .unset] []))
            refine Go.st (fun _ k => XS.iload X34.here hx rfl (hb hby at_295) rfl k) ?_
            show Go p e below _ (T34.setTop (mkF m 297 #[.val (.int p0), .val (.int p1), .val (.int p2), .val (.int p3), .val (.int (2 : Int32)), .val (.int v3), .val (.int v3), .val (.int v4), .val (.int v5), .val (.int v6), .val (.int v7), .val (.int v8), .val (.ref b26), .val (.int r), .val (.int (0 : Int32)), .val (.int (0 : Int32)), .val (.int (0 : Int32)), .unset] [(.int (0 : Int32))]))
            refine Go.st (fun _ k => XS.ifYes X34.here hx rfl (pc0 := 297) (pc' := 304) rfl (hb hby at_297) rfl ((if0 _ _).trans (teq (by decide : ((0 : Int32) = (0 : Int32)))).1) (by decide) (by decide) k) ?_
            show Go p e below _ (T34.setTop (mkF m 304 #[.val (.int p0), .val (.int p1), .val (.int p2), .val (.int p3), .val (.int (2 : Int32)), .val (.int v3), .val (.int v3), .val (.int v4), .val (.int v5), .val (.int v6), .val (.int v7), .val (.int v8), .val (.ref b26), .val (.int r), .val (.int (0 : Int32)), .val (.int (0 : Int32)), .val (.int (0 : Int32)), .unset] []))
            refine Go.st (fun _ k => XS.iconst X34.here hx rfl (hb hby at_304) k) ?_
            show Go p e below _ (T34.setTop (mkF m 305 #[.val (.int p0), .val (.int p1), .val (.int p2), .val (.int p3), .val (.int (2 : Int32)), .val (.int v3), .val (.int v3), .val (.int v4), .val (.int v5), .val (.int v6), .val (.int v7), .val (.int v8), .val (.ref b26), .val (.int r), .val (.int (0 : Int32)), .val (.int (0 : Int32)), .val (.int (0 : Int32)), .unset] [(.int (0 : Int32))]))
            refine Go.st (fun _ k => XS.istore X34.here hx rfl (hb hby at_305) rfl (l' := #[.val (.int p0), .val (.int p1), .val (.int p2), .val (.int p3), .val (.int (2 : Int32)), .val (.int v3), .val (.int v3), .val (.int v4), .val (.int v5), .val (.int v6), .val (.int v7), .val (.int v8), .val (.ref b26), .val (.int r), .val (.int (0 : Int32)), .val (.int (0 : Int32)), .val (.int (0 : Int32)), .val (.int (0 : Int32))]) rfl k) ?_
            show Go p e below _ (T34.setTop (mkF m 307 #[.val (.int p0), .val (.int p1), .val (.int p2), .val (.int p3), .val (.int (2 : Int32)), .val (.int v3), .val (.int v3), .val (.int v4), .val (.int v5), .val (.int v6), .val (.int v7), .val (.int v8), .val (.ref b26), .val (.int r), .val (.int (0 : Int32)), .val (.int (0 : Int32)), .val (.int (0 : Int32)), .val (.int (0 : Int32))] []))
            refine Go.st (fun _ k => XS.aload X34.here hx rfl (hb hby at_307) rfl rfl k) ?_
            show Go p e below _ (T34.setTop (mkF m 309 #[.val (.int p0), .val (.int p1), .val (.int p2), .val (.int p3), .val (.int (2 : Int32)), .val (.int v3), .val (.int v3), .val (.int v4), .val (.int v5), .val (.int v6), .val (.int v7), .val (.int v8), .val (.ref b26), .val (.int r), .val (.int (0 : Int32)), .val (.int (0 : Int32)), .val (.int (0 : Int32)), .val (.int (0 : Int32))] [(.ref b26)]))
            refine Go.st (fun _ k => XS.iload X34.here hx rfl (hb hby at_309) rfl k) ?_
            show Go p e below _ (T34.setTop (mkF m 311 #[.val (.int p0), .val (.int p1), .val (.int p2), .val (.int p3), .val (.int (2 : Int32)), .val (.int v3), .val (.int v3), .val (.int v4), .val (.int v5), .val (.int v6), .val (.int v7), .val (.int v8), .val (.ref b26), .val (.int r), .val (.int (0 : Int32)), .val (.int (0 : Int32)), .val (.int (0 : Int32)), .val (.int (0 : Int32))] [(.int r), (.ref b26)]))
            obtain ⟨_, _, ⟨T39, L39, k39, n39⟩, -, X39, ⟨Lc39, hQ39, l39, y39, z39⟩, st39⟩ := Jvm.LawKit.callS X34 hx (y := (⟨"com/example/weir/weir/route/ValueRegions", "contains", "([II)Z"⟩ : MethodName)) hown (mvT hZ (hw _ (List.mem_of_getElem? (i := 6) rfl))) (mvT hZ (hw _ (List.mem_of_getElem? (i := 7) rfl))) (mvT hZ (hw _ (List.mem_of_getElem? (i := 8) rfl))) (mvT hZ (hw _ (List.mem_of_getElem? (i := 9) rfl))) (by decide) (backOf (W := 0) (rmC4 l Z aZ hw [] b26 r k26 v3 v4 v5 v6 h34 n0 V34) hZ (hw _ (List.mem_of_getElem? (i := 9) rfl)) (hw _ (List.mem_of_getElem? (i := 8) rfl)) (by decide) (by decide)) (g := (mkF m 311 #[.val (.int p0), .val (.int p1), .val (.int p2), .val (.int p3), .val (.int (2 : Int32)), .val (.int v3), .val (.int v3), .val (.int v4), .val (.int v5), .val (.int v6), .val (.int v7), .val (.int v8), .val (.ref b26), .val (.int r), .val (.int (0 : Int32)), .val (.int (0 : Int32)), .val (.int (0 : Int32)), .val (.int (0 : Int32))] [(.int r), (.ref b26)])) rfl (by rw [hml]; rfl) (argsL := [(.ref b26), (.int r)]) (rest := []) (lenOf pd93e6ecdc rfl) rfl (by show 2 * 0 + _ ≤ _; exact Nat.le_of_eq rfl) (hb hby at_311) (fun _ _ => ⟨rfl, e34, (by decide : 1 + 0 ≤ _), (by decide : 4 + 0 ≤ _)⟩)
            dsimp only [Pt.U, Pt.locs, Pt.cells, Pt.slots] at X39 l39 y39 z39 st39 hQ39
            subst l39 y39 z39
            obtain ⟨rfl, N39q, e39⟩ := hQ39
            have N39 := Fr.app N34 N39q
            refine Go.st (fun _ k => st39 _ k) ?_
            show Go p e below _ (T39.setTop (mkF m 314 #[.val (.int p0), .val (.int p1), .val (.int p2), .val (.int p3), .val (.int (2 : Int32)), .val (.int v3), .val (.int v3), .val (.int v4), .val (.int v5), .val (.int v6), .val (.int v7), .val (.int v8), .val (.ref b26), .val (.int r), .val (.int (0 : Int32)), .val (.int (0 : Int32)), .val (.int (0 : Int32)), .val (.int (0 : Int32))] [(.int (fC4 r v3 v4 v5 v6))]))
            refine Go.st (fun _ k => XS.iload X39.here hx rfl (hb hby at_314) rfl k) ?_
            show Go p e below _ (T39.setTop (mkF m 316 #[.val (.int p0), .val (.int p1), .val (.int p2), .val (.int p3), .val (.int (2 : Int32)), .val (.int v3), .val (.int v3), .val (.int v4), .val (.int v5), .val (.int v6), .val (.int v7), .val (.int v8), .val (.ref b26), .val (.int r), .val (.int (0 : Int32)), .val (.int (0 : Int32)), .val (.int (0 : Int32)), .val (.int (0 : Int32))] [(.int (0 : Int32)), (.int (fC4 r v3 v4 v5 v6))]))
            refine Go.st (fun _ k => XS.icmpNo X39.here hx rfl (hb hby at_316) rfl (teq (by unfold fC4; rw [if_neg hc35, if_pos hc37, if_pos hc38])).2 k) ?_
            show Go p e below _ (T39.setTop (mkF m 319 #[.val (.int p0), .val (.int p1), .val (.int p2), .val (.int p3), .val (.int (2 : Int32)), .val (.int v3), .val (.int v3), .val (.int v4), .val (.int v5), .val (.int v6), .val (.int v7), .val (.int v8), .val (.ref b26), .val (.int r), .val (.int (0 : Int32)), .val (.int (0 : Int32)), .val (.int (0 : Int32)), .val (.int (0 : Int32))] []))
            refine Go.st (fun _ k => XS.iconst X39.here hx rfl (hb hby at_319) k) ?_
            show Go p e below _ (T39.setTop (mkF m 320 #[.val (.int p0), .val (.int p1), .val (.int p2), .val (.int p3), .val (.int (2 : Int32)), .val (.int v3), .val (.int v3), .val (.int v4), .val (.int v5), .val (.int v6), .val (.int v7), .val (.int v8), .val (.ref b26), .val (.int r), .val (.int (0 : Int32)), .val (.int (0 : Int32)), .val (.int (0 : Int32)), .val (.int (0 : Int32))] [(.int (1 : Int32))]))
            refine Go.st (fun _ k => XS.goto X39.here hx rfl (pc0 := 320) (pc' := 324) rfl (hb hby at_320) (by decide) (by decide) k) ?_
            show Go p e below _ (T39.setTop (mkF m 324 #[.val (.int p0), .val (.int p1), .val (.int p2), .val (.int p3), .val (.int (2 : Int32)), .val (.int v3), .val (.int v3), .val (.int v4), .val (.int v5), .val (.int v6), .val (.int v7), .val (.int v8), .val (.ref b26), .val (.int r), .val (.int (0 : Int32)), .val (.int (0 : Int32)), .val (.int (0 : Int32)), .val (.int (0 : Int32))] [(.int (1 : Int32))]))
            obtain ⟨fs, hr, hrun, hended, hW, hsame⟩ := X39.leave (v := some (.int (1 : Int32))) (fun h => by rw [Bd.returns] at h; cases h)
            refine ⟨_, _, retN X39 hx (t := .boolean) Bd.returns (by simp) (hb hby at_324) hr, hrun, hended, _, _, rfl, ?_, ⟨_, rfl⟩, hW, hsame.mono (by decide) (by decide)⟩
            show Q_rm0 Z p0 p1 p2 p3 h0 n0 _ T39.heap _
            rw [e39]
            exact ⟨rfl, N39⟩
          · show Go p e below _ (T34.setTop (mkF m 241 #[.val (.int p0), .val (.int p1), .val (.int p2), .val (.int p3), .val (.int (2 : Int32)), .val (.int v3), .val (.int v3), .val (.int v4), .val (.int v5), .val (.int v6), .val (.int v7), .val (.int v8), .val (.ref b26), .val (.int r), .val (.int (0 : Int32)), .unset, .unset, .unset] [(.int r), (.int v5)]))
            refine Go.st (fun _ k => XS.icmpNo X34.here hx rfl (hb hby at_241) rfl (flt hc38).2.2.1 k) ?_
            show Go p e below _ (T34.setTop (mkF m 244 #[.val (.int p0), .val (.int p1), .val (.int p2), .val (.int p3), .val (.int (2 : Int32)), .val (.int v3), .val (.int v3), .val (.int v4), .val (.int v5), .val (.int v6), .val (.int v7), .val (.int v8), .val (.ref b26), .val (.int r), .val (.int (0 : Int32)), .unset, .unset, .unset] []))
            refine Go.st (fun _ k => XS.iload X34.here hx rfl (hb hby at_244) rfl k) ?_
            show Go p e below _ (T34.setTop (mkF m 246 #[.val (.int p0), .val (.int p1), .val (.int p2), .val (.int p3), .val (.int (2 : Int32)), .val (.int v3), .val (.int v3), .val (.int v4), .val (.int v5), .val (.int v6), .val (.int v7), .val (.int v8), .val (.ref b26), .val (.int r), .val (.int (0 : Int32)), .unset, .unset, .unset] [(.int r)]))
            refine Go.st (fun _ k => XS.iload X34.here hx rfl (hb hby at_246) rfl k) ?_
            show Go p e below _ (T34.setTop (mkF m 248 #[.val (.int p0), .val (.int p1), .val (.int p2), .val (.int p3), .val (.int (2 : Int32)), .val (.int v3), .val (.int v3), .val (.int v4), .val (.int v5), .val (.int v6), .val (.int v7), .val (.int v8), .val (.ref b26), .val (.int r), .val (.int (0 : Int32)), .unset, .unset, .unset] [(.int v6), (.int r)]))
            by_cases hc40 : v6 < r
            · show Go p e below _ (T34.setTop (mkF m 248 #[.val (.int p0), .val (.int p1), .val (.int p2), .val (.int p3), .val (.int (2 : Int32)), .val (.int v3), .val (.int v3), .val (.int v4), .val (.int v5), .val (.int v6), .val (.int v7), .val (.int v8), .val (.ref b26), .val (.int r), .val (.int (0 : Int32)), .unset, .unset, .unset] [(.int v6), (.int r)]))
              refine Go.st (fun _ k => XS.icmpYes X34.here hx rfl (pc0 := 248) (pc' := 255) rfl (hb hby at_248) rfl (tlt hc40).2.2.1 (by decide) (by decide) k) ?_
              show Go p e below _ (T34.setTop (mkF m 255 #[.val (.int p0), .val (.int p1), .val (.int p2), .val (.int p3), .val (.int (2 : Int32)), .val (.int v3), .val (.int v3), .val (.int v4), .val (.int v5), .val (.int v6), .val (.int v7), .val (.int v8), .val (.ref b26), .val (.int r), .val (.int (0 : Int32)), .unset, .unset, .unset] []))
              refine Go.st (fun _ k => XS.iconst X34.here hx rfl (hb hby at_255) k) ?_
              show Go p e below _ (T34.setTop (mkF m 256 #[.val (.int p0), .val (.int p1), .val (.int p2), .val (.int p3), .val (.int (2 : Int32)), .val (.int v3), .val (.int v3), .val (.int v4), .val (.int v5), .val (.int v6), .val (.int v7), .val (.int v8), .val (.ref b26), .val (.int r), .val (.int (0 : Int32)), .unset, .unset, .unset] [(.int (0 : Int32))]))
              refine Go.st (fun _ k => XS.istore X34.here hx rfl (hb hby at_256) rfl (l' := #[.val (.int p0), .val (.int p1), .val (.int p2), .val (.int p3), .val (.int (2 : Int32)), .val (.int v3), .val (.int v3), .val (.int v4), .val (.int v5), .val (.int v6), .val (.int v7), .val (.int v8), .val (.ref b26), .val (.int r), .val (.int (0 : Int32)), .val (.int (0 : Int32)), .unset, .unset]) rfl k) ?_
              show Go p e below _ (T34.setTop (mkF m 258 #[.val (.int p0), .val (.int p1), .val (.int p2), .val (.int p3), .val (.int (2 : Int32)), .val (.int v3), .val (.int v3), .val (.int v4), .val (.int v5), .val (.int v6), .val (.int v7), .val (.int v8), .val (.ref b26), .val (.int r), .val (.int (0 : Int32)), .val (.int (0 : Int32)), .unset, .unset] []))
              refine Go.st (fun _ k => XS.iload X34.here hx rfl (hb hby at_258) rfl k) ?_
              show Go p e below _ (T34.setTop (mkF m 260 #[.val (.int p0), .val (.int p1), .val (.int p2), .val (.int p3), .val (.int (2 : Int32)), .val (.int v3), .val (.int v3), .val (.int v4), .val (.int v5), .val (.int v6), .val (.int v7), .val (.int v8), .val (.ref b26), .val (.int r), .val (.int (0 : Int32)), .val (.int (0 : Int32)), .unset, .unset] [(.int (2 : Int32))]))
              refine Go.st (fun _ k => XS.iconst X34.here hx rfl (hb hby at_260) k) ?_
              show Go p e below _ (T34.setTop (mkF m 261 #[.val (.int p0), .val (.int p1), .val (.int p2), .val (.int p3), .val (.int (2 : Int32)), .val (.int v3), .val (.int v3), .val (.int v4), .val (.int v5), .val (.int v6), .val (.int v7), .val (.int v8), .val (.ref b26), .val (.int r), .val (.int (0 : Int32)), .val (.int (0 : Int32)), .unset, .unset] [(.int (3 : Int32)), (.int (2 : Int32))]))
              refine Go.st (fun _ k => XS.icmpYes X34.here hx rfl (pc0 := 261) (pc' := 282) rfl (hb hby at_261) rfl (tlt (by decide : ((2 : Int32) < (3 : Int32)))).1 (by decide) (by decide) k) ?_
              show Go p e below _ (T34.setTop (mkF m 282 #[.val (.int p0), .val (.int p1), .val (.int p2), .val (.int p3), .val (.int (2 : Int32)), .val (.int v3), .val (.int v3), .val (.int v4), .val (.int v5), .val (.int v6), .val (.int v7), .val (.int v8), .val (.ref b26), .val (.int r), .val (.int (0 : Int32)), .val (.int (0 : Int32)), .unset, .unset] []))
              refine Go.st (fun _ k => XS.iconst X34.here hx rfl (hb hby at_282) k) ?_
              show Go p e below _ (T34.setTop (mkF m 283 #[.val (.int p0), .val (.int p1), .val (.int p2), .val (.int p3), .val (.int (2 : Int32)), .val (.int v3), .val (.int v3), .val (.int v4), .val (.int v5), .val (.int v6), .val (.int v7), .val (.int v8), .val (.ref b26), .val (.int r), .val (.int (0 : Int32)), .val (.int (0 : Int32)), .unset, .unset] [(.int (0 : Int32))]))
              refine Go.st (fun _ k => XS.istore X34.here hx rfl (hb hby at_283) rfl (l' := #[.val (.int p0), .val (.int p1), .val (.int p2), .val (.int p3), .val (.int (2 : Int32)), .val (.int v3), .val (.int v3), .val (.int v4), .val (.int v5), .val (.int v6), .val (.int v7), .val (.int v8), .val (.ref b26), .val (.int r), .val (.int (0 : Int32)), .val (.int (0 : Int32)), .val (.int (0 : Int32)), .unset]) rfl k) ?_
              show Go p e below _ (T34.setTop (mkF m 285 #[.val (.int p0), .val (.int p1), .val (.int p2), .val (.int p3), .val (.int (2 : Int32)), .val (.int v3), .val (.int v3), .val (.int v4), .val (.int v5), .val (.int v6), .val (.int v7), .val (.int v8), .val (.ref b26), .val (.int r), .val (.int (0 : Int32)), .val (.int (0 : Int32)), .val (.int (0 : Int32)), .unset] []))
              refine Go.st (fun _ k => XS.iload X34.here hx rfl (hb hby at_285) rfl k) ?_
              show Go p e below _ (T34.setTop (mkF m 287 #[.val (.int p0), .val (.int p1), .val (.int p2), .val (.int p3), .val (.int (2 : Int32)), .val (.int v3), .val (.int v3), .val (.int v4), .val (.int v5), .val (.int v6), .val (.int v7), .val (.int v8), .val (.ref b26), .val (.int r), .val (.int (0 : Int32)), .val (.int (0 : Int32)), .val (.int (0 : Int32)), .unset] [(.int (0 : Int32))]))
              refine Go.st (fun _ k => XS.ifNo X34.here hx rfl (hb hby at_287) rfl ((if0 _ _).trans (teq (by decide : ((0 : Int32) = (0 : Int32)))).2) k) ?_
              show Go p e below _ (T34.setTop (mkF m 290 #[.val (.int p0), .val (.int p1), .val (.int p2), .val (.int p3), .val (.int (2 : Int32)), .val (.int v3), .val (.int v3), .val (.int v4), .val (.int v5), .val (.int v6), .val (.int v7), .val (.int v8), .val (.ref b26), .val (.int r), .val (.int (0 : Int32)), .val (.int (0 : Int32)), .val (.int (0 : Int32)), .unset] []))
              refine Go.st (fun _ k => XS.iload X34.here hx rfl (hb hby at_290) rfl k) ?_
              show Go p e below _ (T34.setTop (mkF m 292 #[.val (.int p0), .val (.int p1), .val (.int p2), .val (.int p3), .val (.int (2 : Int32)), .val (.int v3), .val (.int v3), .val (.int v4), .val (.int v5), .val (.int v6), .val (.int v7), .val (.int v8), .val (.ref b26), .val (.int r), .val (.int (0 : Int32)), .val (.int (0 : Int32)), .val (.int (0 : Int32)), .unset] [(.int (0 : Int32))]))
              refine Go.st (fun _ k => XS.ifNo X34.here hx rfl (hb hby at_292) rfl ((if0 _ _).trans (teq (by decide : ((0 : Int32) = (0 : Int32)))).2) k) ?_
              show Go p e below _ (T34.setTop (mkF m 295 #[.val (.int p0), .val (.int p1), .val (.int p2), .val (.int p3), .val (.int (2 : Int32)), .val (.int v3), .val (.int v3), .val (.int v4), .val (.int v5), .val (.int v6), .val (.int v7), .val (.int v8), .val (.ref b26), .val (.int r), .val (.int (0 : Int32)), .val (.int (0 : Int32)), .val (.int (0 : Int32)), .unset] []))
              refine Go.st (fun _ k => XS.iload X34.here hx rfl (hb hby at_295) rfl k) ?_
              show Go p e below _ (T34.setTop (mkF m 297 #[.val (.int p0), .val (.int p1), .val (.int p2), .val (.int p3), .val (.int (2 : Int32)), .val (.int v3), .val (.int v3), .val (.int v4), .val (.int v5), .val (.int v6), .val (.int v7), .val (.int v8), .val (.ref b26), .val (.int r), .val (.int (0 : Int32)), .val (.int (0 : Int32)), .val (.int (0 : Int32)), .unset] [(.int (0 : Int32))]))
              refine Go.st (fun _ k => XS.ifYes X34.here hx rfl (pc0 := 297) (pc' := 304) rfl (hb hby at_297) rfl ((if0 _ _).trans (teq (by decide : ((0 : Int32) = (0 : Int32)))).1) (by decide) (by decide) k) ?_
              show Go p e below _ (T34.setTop (mkF m 304 #[.val (.int p0), .val (.int p1), .val (.int p2), .val (.int p3), .val (.int (2 : Int32)), .val (.int v3), .val (.int v3), .val (.int v4), .val (.int v5), .val (.int v6), .val (.int v7), .val (.int v8), .val (.ref b26), .val (.int r), .val (.int (0 : Int32)), .val (.int (0 : Int32)), .val (.int (0 : Int32)), .unset] []))
              refine Go.st (fun _ k => XS.iconst X34.here hx rfl (hb hby at_304) k) ?_
              show Go p e below _ (T34.setTop (mkF m 305 #[.val (.int p0), .val (.int p1), .val (.int p2), .val (.int p3), .val (.int (2 : Int32)), .val (.int v3), .val (.int v3), .val (.int v4), .val (.int v5), .val (.int v6), .val (.int v7), .val (.int v8), .val (.ref b26), .val (.int r), .val (.int (0 : Int32)), .val (.int (0 : Int32)), .val (.int (0 : Int32)), .unset] [(.int (0 : Int32))]))
              refine Go.st (fun _ k => XS.istore X34.here hx rfl (hb hby at_305) rfl (l' := #[.val (.int p0), .val (.int p1), .val (.int p2), .val (.int p3), .val (.int (2 : Int32)), .val (.int v3), .val (.int v3), .val (.int v4), .val (.int v5), .val (.int v6), .val (.int v7), .val (.int v8), .val (.ref b26), .val (.int r), .val (.int (0 : Int32)), .val (.int (0 : Int32)), .val (.int (0 : Int32)), .val (.int (0 : Int32))]) rfl k) ?_
              show Go p e below _ (T34.setTop (mkF m 307 #[.val (.int p0), .val (.int p1), .val (.int p2), .val (.int p3), .val (.int (2 : Int32)), .val (.int v3), .val (.int v3), .val (.int v4), .val (.int v5), .val (.int v6), .val (.int v7), .val (.int v8), .val (.ref b26), .val (.int r), .val (.int (0 : Int32)), .val (.int (0 : Int32)), .val (.int (0 : Int32)), .val (.int (0 : Int32))] []))
              refine Go.st (fun _ k => XS.aload X34.here hx rfl (hb hby at_307) rfl rfl k) ?_
              show Go p e below _ (T34.setTop (mkF m 309 #[.val (.int p0), .val (.int p1), .val (.int p2), .val (.int p3), .val (.int (2 : Int32)), .val (.int v3), .val (.int v3), .val (.int v4), .val (.int v5), .val (.int v6), .val (.int v7), .val (.int v8), .val (.ref b26), .val (.int r), .val (.int (0 : Int32)), .val (.int (0 : Int32)), .val (.int (0 : Int32)), .val (.int (0 : Int32))] [(.ref b26)]))
              refine Go.st (fun _ k => XS.iload X34.here hx rfl (hb hby at_309) rfl k) ?_
              show Go p e below _ (T34.setTop (mkF m 311 #[.val (.int p0), .val (.int p1), .val (.int p2), .val (.int p3), .val (.int (2 : Int32)), .val (.int v3), .val (.int v3), .val (.int v4), .val (.int v5), .val (.int v6), .val (.int v7), .val (.int v8), .val (.ref b26), .val (.int r), .val (.int (0 : Int32)), .val (.int (0 : Int32)), .val (.int (0 : Int32)), .val (.int (0 : Int32))] [(.int r), (.ref b26)]))
              obtain ⟨_, _, ⟨T41, L41, k41, n41⟩, -, X41, ⟨Lc41, hQ41, l41, y41, z41⟩, st41⟩ := Jvm.LawKit.callS X34 hx (y := (⟨"com/example/weir/weir/route/ValueRegions", "contains", "([II)Z"⟩ : MethodName)) hown (mvT hZ (hw _ (List.mem_of_getElem? (i := 6) rfl))) (mvT hZ (hw _ (List.mem_of_getElem? (i := 7) rfl))) (mvT hZ (hw _ (List.mem_of_getElem? (i := 8) rfl))) (mvT hZ (hw _ (List.mem_of_getElem? (i := 9) rfl))) (by decide) (backOf (W := 0) (rmC4 l Z aZ hw [] b26 r k26 v3 v4 v5 v6 h34 n0 V34) hZ (hw _ (List.mem_of_getElem? (i := 9) rfl)) (hw _ (List.mem_of_getElem? (i := 8) rfl)) (by decide) (by decide)) (g := (mkF m 311 #[.val (.int p0), .val (.int p1), .val (.int p2), .val (.int p3), .val (.int (2 : Int32)), .val (.int v3), .val (.int v3), .val (.int v4), .val (.int v5), .val (.int v6), .val (.int v7), .val (.int v8), .val (.ref b26), .val (.int r), .val (.int (0 : Int32)), .val (.int (0 : Int32)), .val (.int (0 : Int32)), .val (.int (0 : Int32))] [(.int r), (.ref b26)])) rfl (by rw [hml]; rfl) (argsL := [(.ref b26), (.int r)]) (rest := []) (lenOf pd93e6ecdc rfl) rfl (by show 2 * 0 + _ ≤ _; exact Nat.le_of_eq rfl) (hb hby at_311) (fun _ _ => ⟨rfl, e34, (by decide : 1 + 0 ≤ _), (by decide : 4 + 0 ≤ _)⟩)
              dsimp only [Pt.U, Pt.locs, Pt.cells, Pt.slots] at X41 l41 y41 z41 st41 hQ41
              subst l41 y41 z41
              obtain ⟨rfl, N41q, e41⟩ := hQ41
              have N41 := Fr.app N34 N41q
              refine Go.st (fun _ k => st41 _ k) ?_
              show Go p e below _ (T41.setTop (mkF m 314 #[.val (.int p0), .val (.int p1), .val (.int p2), .val (.int p3), .val (.int (2 : Int32)), .val (.int v3), .val (.int v3), .val (.int v4), .val (.int v5), .val (.int v6), .val (.int v7), .val (.int v8), .val (.ref b26), .val (.int r), .val (.int (0 : Int32)), .val (.int (0 : Int32)), .val (.int (0 : Int32)), .val (.int (0 : Int32))] [(.int (fC4 r v3 v4 v5 v6))]))
              refine Go.st (fun _ k => XS.iload X41.here hx rfl (hb hby at_314) rfl k) ?_
              show Go p e below _ (T41.setTop (mkF m 316 #[.val (.int p0), .val (.int p1), .val (.int p2), .val (.int p3), .val (.int (2 : Int32)), .val (.int v3), .val (.int v3), .val (.int v4), .val (.int v5), .val (.int v6), .val (.int v7), .val (.int v8), .val (.ref b26), .val (.int r), .val (.int (0 : Int32)), .val (.int (0 : Int32)), .val (.int (0 : Int32)), .val (.int (0 : Int32))] [(.int (0 : Int32)), (.int (fC4 r v3 v4 v5 v6))]))
              refine Go.st (fun _ k => XS.icmpNo X41.here hx rfl (hb hby at_316) rfl (teq (by unfold fC4; rw [if_neg hc35, if_pos hc37, if_neg hc38, if_pos hc40])).2 k) ?_
              show Go p e below _ (T41.setTop (mkF m 319 #[.val (.int p0), .val (.int p1), .val (.int p2), .val (.int p3), .val (.int (2 : Int32)), .val (.int v3), .val (.int v3), .val (.int v4), .val (.int v5), .val (.int v6), .val (.int v7), .val (.int v8), .val (.ref b26), .val (.int r), .val (.int (0 : Int32)), .val (.int (0 : Int32)), .val (.int (0 : Int32)), .val (.int (0 : Int32))] []))
              refine Go.st (fun _ k => XS.iconst X41.here hx rfl (hb hby at_319) k) ?_
              show Go p e below _ (T41.setTop (mkF m 320 #[.val (.int p0), .val (.int p1), .val (.int p2), .val (.int p3), .val (.int (2 : Int32)), .val (.int v3), .val (.int v3), .val (.int v4), .val (.int v5), .val (.int v6), .val (.int v7), .val (.int v8), .val (.ref b26), .val (.int r), .val (.int (0 : Int32)), .val (.int (0 : Int32)), .val (.int (0 : Int32)), .val (.int (0 : Int32))] [(.int (1 : Int32))]))
              refine Go.st (fun _ k => XS.goto X41.here hx rfl (pc0 := 320) (pc' := 324) rfl (hb hby at_320) (by decide) (by decide) k) ?_
              show Go p e below _ (T41.setTop (mkF m 324 #[.val (.int p0), .val (.int p1), .val (.int p2), .val (.int p3), .val (.int (2 : Int32)), .val (.int v3), .val (.int v3), .val (.int v4), .val (.int v5), .val (.int v6), .val (.int v7), .val (.int v8), .val (.ref b26), .val (.int r), .val (.int (0 : Int32)), .val (.int (0 : Int32)), .val (.int (0 : Int32)), .val (.int (0 : Int32))] [(.int (1 : Int32))]))
              obtain ⟨fs, hr, hrun, hended, hW, hsame⟩ := X41.leave (v := some (.int (1 : Int32))) (fun h => by rw [Bd.returns] at h; cases h)
              refine ⟨_, _, retN X41 hx (t := .boolean) Bd.returns (by simp) (hb hby at_324) hr, hrun, hended, _, _, rfl, ?_, ⟨_, rfl⟩, hW, hsame.mono (by decide) (by decide)⟩
              show Q_rm0 Z p0 p1 p2 p3 h0 n0 _ T41.heap _
              rw [e41]
              exact ⟨rfl, N41⟩
            · show Go p e below _ (T34.setTop (mkF m 248 #[.val (.int p0), .val (.int p1), .val (.int p2), .val (.int p3), .val (.int (2 : Int32)), .val (.int v3), .val (.int v3), .val (.int v4), .val (.int v5), .val (.int v6), .val (.int v7), .val (.int v8), .val (.ref b26), .val (.int r), .val (.int (0 : Int32)), .unset, .unset, .unset] [(.int v6), (.int r)]))
              refine Go.st (fun _ k => XS.icmpNo X34.here hx rfl (hb hby at_248) rfl (flt hc40).2.2.1 k) ?_
              show Go p e below _ (T34.setTop (mkF m 251 #[.val (.int p0), .val (.int p1), .val (.int p2), .val (.int p3), .val (.int (2 : Int32)), .val (.int v3), .val (.int v3), .val (.int v4), .val (.int v5), .val (.int v6), .val (.int v7), .val (.int v8), .val (.ref b26), .val (.int r), .val (.int (0 : Int32)), .unset, .unset, .unset] []))
              refine Go.st (fun _ k => XS.iconst X34.here hx rfl (hb hby at_251) k) ?_
              show Go p e below _ (T34.setTop (mkF m 252 #[.val (.int p0), .val (.int p1), .val (.int p2), .val (.int p3), .val (.int (2 : Int32)), .val (.int v3), .val (.int v3), .val (.int v4), .val (.int v5), .val (.int v6), .val (.int v7), .val (.int v8), .val (.ref b26), .val (.int r), .val (.int (0 : Int32)), .unset, .unset, .unset] [(.int (1 : Int32))]))
              refine Go.st (fun _ k => XS.goto X34.here hx rfl (pc0 := 252) (pc' := 256) rfl (hb hby at_252) (by decide) (by decide) k) ?_
              show Go p e below _ (T34.setTop (mkF m 256 #[.val (.int p0), .val (.int p1), .val (.int p2), .val (.int p3), .val (.int (2 : Int32)), .val (.int v3), .val (.int v3), .val (.int v4), .val (.int v5), .val (.int v6), .val (.int v7), .val (.int v8), .val (.ref b26), .val (.int r), .val (.int (0 : Int32)), .unset, .unset, .unset] [(.int (1 : Int32))]))
              refine Go.st (fun _ k => XS.istore X34.here hx rfl (hb hby at_256) rfl (l' := #[.val (.int p0), .val (.int p1), .val (.int p2), .val (.int p3), .val (.int (2 : Int32)), .val (.int v3), .val (.int v3), .val (.int v4), .val (.int v5), .val (.int v6), .val (.int v7), .val (.int v8), .val (.ref b26), .val (.int r), .val (.int (0 : Int32)), .val (.int (1 : Int32)), .unset, .unset]) rfl k) ?_
              show Go p e below _ (T34.setTop (mkF m 258 #[.val (.int p0), .val (.int p1), .val (.int p2), .val (.int p3), .val (.int (2 : Int32)), .val (.int v3), .val (.int v3), .val (.int v4), .val (.int v5), .val (.int v6), .val (.int v7), .val (.int v8), .val (.ref b26), .val (.int r), .val (.int (0 : Int32)), .val (.int (1 : Int32)), .unset, .unset] []))
              refine Go.st (fun _ k => XS.iload X34.here hx rfl (hb hby at_258) rfl k) ?_
              show Go p e below _ (T34.setTop (mkF m 260 #[.val (.int p0), .val (.int p1), .val (.int p2), .val (.int p3), .val (.int (2 : Int32)), .val (.int v3), .val (.int v3), .val (.int v4), .val (.int v5), .val (.int v6), .val (.int v7), .val (.int v8), .val (.ref b26), .val (.int r), .val (.int (0 : Int32)), .val (.int (1 : Int32)), .unset, .unset] [(.int (2 : Int32))]))
              refine Go.st (fun _ k => XS.iconst X34.here hx rfl (hb hby at_260) k) ?_
              show Go p e below _ (T34.setTop (mkF m 261 #[.val (.int p0), .val (.int p1), .val (.int p2), .val (.int p3), .val (.int (2 : Int32)), .val (.int v3), .val (.int v3), .val (.int v4), .val (.int v5), .val (.int v6), .val (.int v7), .val (.int v8), .val (.ref b26), .val (.int r), .val (.int (0 : Int32)), .val (.int (1 : Int32)), .unset, .unset] [(.int (3 : Int32)), (.int (2 : Int32))]))
              refine Go.st (fun _ k => XS.icmpYes X34.here hx rfl (pc0 := 261) (pc' := 282) rfl (hb hby at_261) rfl (tlt (by decide : ((2 : Int32) < (3 : Int32)))).1 (by decide) (by decide) k) ?_
              show Go p e below _ (T34.setTop (mkF m 282 #[.val (.int p0), .val (.int p1), .val (.int p2), .val (.int p3), .val (.int (2 : Int32)), .val (.int v3), .val (.int v3), .val (.int v4), .val (.int v5), .val (.int v6), .val (.int v7), .val (.int v8), .val (.ref b26), .val (.int r), .val (.int (0 : Int32)), .val (.int (1 : Int32)), .unset, .unset] []))
              refine Go.st (fun _ k => XS.iconst X34.here hx rfl (hb hby at_282) k) ?_
              show Go p e below _ (T34.setTop (mkF m 283 #[.val (.int p0), .val (.int p1), .val (.int p2), .val (.int p3), .val (.int (2 : Int32)), .val (.int v3), .val (.int v3), .val (.int v4), .val (.int v5), .val (.int v6), .val (.int v7), .val (.int v8), .val (.ref b26), .val (.int r), .val (.int (0 : Int32)), .val (.int (1 : Int32)), .unset, .unset] [(.int (0 : Int32))]))
              refine Go.st (fun _ k => XS.istore X34.here hx rfl (hb hby at_283) rfl (l' := #[.val (.int p0), .val (.int p1), .val (.int p2), .val (.int p3), .val (.int (2 : Int32)), .val (.int v3), .val (.int v3), .val (.int v4), .val (.int v5), .val (.int v6), .val (.int v7), .val (.int v8), .val (.ref b26), .val (.int r), .val (.int (0 : Int32)), .val (.int (1 : Int32)), .val (.int (0 : Int32)), .unset]) rfl k) ?_
              show Go p e below _ (T34.setTop (mkF m 285 #[.val (.int p0), .val (.int p1), .val (.int p2), .val (.int p3), .val (.int (2 : Int32)), .val (.int v3), .val (.int v3), .val (.int v4), .val (.int v5), .val (.int v6), .val (.int v7), .val (.int v8), .val (.ref b26), .val (.int r), .val (.int (0 : Int32)), .val (.int (1 : Int32)), .val (.int (0 : Int32)), .unset] []))
              refine Go.st (fun _ k => XS.iload X34.here hx rfl (hb hby at_285) rfl k) ?_
              show Go p e below _ (T34.setTop (mkF m 287 #[.val (.int p0), .val (.int p1), .val (.int p2), .val (.int p3), .val (.int (2 : Int32)), .val (.int v3), .val (.int v3), .val (.int v4), .val (.int v5), .val (.int v6), .val (.int v7), .val (.int v8), .val (.ref b26), .val (.int r), .val (.int (0 : Int32)), .val (.int (1 : Int32)), .val (.int (0 : Int32)), .unset] [(.int (0 : Int32))]))
              refine Go.st (fun _ k => XS.ifNo X34.here hx rfl (hb hby at_287) rfl ((if0 _ _).trans (teq (by decide : ((0 : Int32) = (0 : Int32)))).2) k) ?_
              show Go p e below _ (T34.setTop (mkF m 290 #[.val (.int p0), .val (.int p1), .val (.int p2), .val (.int p3), .val (.int (2 : Int32)), .val (.int v3), .val (.int v3), .val (.int v4), .val (.int v5), .val (.int v6), .val (.int v7), .val (.int v8), .val (.ref b26), .val (.int r), .val (.int (0 : Int32)), .val (.int (1 : Int32)), .val (.int (0 : Int32)), .unset] []))
              refine Go.st (fun _ k => XS.iload X34.here hx rfl (hb hby at_290) rfl k) ?_
              show Go p e below _ (T34.setTop (mkF m 292 #[.val (.int p0), .val (.int p1), .val (.int p2), .val (.int p3), .val (.int (2 : Int32)), .val (.int v3), .val (.int v3), .val (.int v4), .val (.int v5), .val (.int v6), .val (.int v7), .val (.int v8), .val (.ref b26), .val (.int r), .val (.int (0 : Int32)), .val (.int (1 : Int32)), .val (.int (0 : Int32)), .unset] [(.int (1 : Int32))]))
              refine Go.st (fun _ k => XS.ifYes X34.here hx rfl (pc0 := 292) (pc' := 300) rfl (hb hby at_292) rfl ((if0 _ _).trans (feq (by decide : ¬ ((1 : Int32) = (0 : Int32)))).2) (by decide) (by decide) k) ?_
              show Go p e below _ (T34.setTop (mkF m 300 #[.val (.int p0), .val (.int p1), .val (.int p2), .val (.int p3), .val (.int (2 : Int32)), .val (.int v3), .val (.int v3), .val (.int v4), .val (.int v5), .val (.int v6), .val (.int v7), .val (.int v8), .val (.ref b26), .val (.int r), .val (.int (0 : Int32)), .val (.int (1 : Int32)), .val (.int (0 : Int32)), .unset] []))
              refine Go.st (fun _ k => XS.iconst X34.here hx rfl (hb hby at_300) k) ?_
              show Go p e below _ (T34.setTop (mkF m 301 #[.val (.int p0), .val (.int p1), .val (.int p2), .val (.int p3), .val (.int (2 : Int32)), .val (.int v3), .val (.int v3), .val (.int v4), .val (.int v5), .val (.int v6), .val (.int v7), .val (.int v8), .val (.ref b26), .val (.int r), .val (.int (0 : Int32)), .val (.int (1 : Int32)), .val (.int (0 : Int32)), .unset] [(.int (1 : Int32))]))
              refine Go.st (fun _ k => XS.goto X34.here hx rfl (pc0 := 301) (pc' := 305) rfl (hb hby at_301) (by decide) (by decide) k) ?_
              show Go p e below _ (T34.setTop (mkF m 305 #[.val (.int p0), .val (.int p1), .val (.int p2), .val (.int p3), .val (.int (2 : Int32)), .val (.int v3), .val (.int v3), .val (.int v4), .val (.int v5), .val (.int v6), .val (.int v7), .val (.int v8), .val (.ref b26), .val (.int r), .val (.int (0 : Int32)), .val (.int (1 : Int32)), .val (.int (0 : Int32)), .unset] [(.int (1 : Int32))]))
              refine Go.st (fun _ k => XS.istore X34.here hx rfl (hb hby at_305) rfl (l' := #[.val (.int p0), .val (.int p1), .val (.int p2), .val (.int p3), .val (.int (2 : Int32)), .val (.int v3), .val (.int v3), .val (.int v4), .val (.int v5), .val (.int v6), .val (.int v7), .val (.int v8), .val (.ref b26), .val (.int r), .val (.int (0 : Int32)), .val (.int (1 : Int32)), .val (.int (0 : Int32)), .val (.int (1 : Int32))]) rfl k) ?_
              show Go p e below _ (T34.setTop (mkF m 307 #[.val (.int p0), .val (.int p1), .val (.int p2), .val (.int p3), .val (.int (2 : Int32)), .val (.int v3), .val (.int v3), .val (.int v4), .val (.int v5), .val (.int v6), .val (.int v7), .val (.int v8), .val (.ref b26), .val (.int r), .val (.int (0 : Int32)), .val (.int (1 : Int32)), .val (.int (0 : Int32)), .val (.int (1 : Int32))] []))
              refine Go.st (fun _ k => XS.aload X34.here hx rfl (hb hby at_307) rfl rfl k) ?_
              show Go p e below _ (T34.setTop (mkF m 309 #[.val (.int p0), .val (.int p1), .val (.int p2), .val (.int p3), .val (.int (2 : Int32)), .val (.int v3), .val (.int v3), .val (.int v4), .val (.int v5), .val (.int v6), .val (.int v7), .val (.int v8), .val (.ref b26), .val (.int r), .val (.int (0 : Int32)), .val (.int (1 : Int32)), .val (.int (0 : Int32)), .val (.int (1 : Int32))] [(.ref b26)]))
              refine Go.st (fun _ k => XS.iload X34.here hx rfl (hb hby at_309) rfl k) ?_
              show Go p e below _ (T34.setTop (mkF m 311 #[.val (.int p0), .val (.int p1), .val (.int p2), .val (.int p3), .val (.int (2 : Int32)), .val (.int v3), .val (.int v3), .val (.int v4), .val (.int v5), .val (.int v6), .val (.int v7), .val (.int v8), .val (.ref b26), .val (.int r), .val (.int (0 : Int32)), .val (.int (1 : Int32)), .val (.int (0 : Int32)), .val (.int (1 : Int32))] [(.int r), (.ref b26)]))
              obtain ⟨_, _, ⟨T42, L42, k42, n42⟩, -, X42, ⟨Lc42, hQ42, l42, y42, z42⟩, st42⟩ := Jvm.LawKit.callS X34 hx (y := (⟨"com/example/weir/weir/route/ValueRegions", "contains", "([II)Z"⟩ : MethodName)) hown (mvT hZ (hw _ (List.mem_of_getElem? (i := 6) rfl))) (mvT hZ (hw _ (List.mem_of_getElem? (i := 7) rfl))) (mvT hZ (hw _ (List.mem_of_getElem? (i := 8) rfl))) (mvT hZ (hw _ (List.mem_of_getElem? (i := 9) rfl))) (by decide) (backOf (W := 0) (rmC4 l Z aZ hw [] b26 r k26 v3 v4 v5 v6 h34 n0 V34) hZ (hw _ (List.mem_of_getElem? (i := 9) rfl)) (hw _ (List.mem_of_getElem? (i := 8) rfl)) (by decide) (by decide)) (g := (mkF m 311 #[.val (.int p0), .val (.int p1), .val (.int p2), .val (.int p3), .val (.int (2 : Int32)), .val (.int v3), .val (.int v3), .val (.int v4), .val (.int v5), .val (.int v6), .val (.int v7), .val (.int v8), .val (.ref b26), .val (.int r), .val (.int (0 : Int32)), .val (.int (1 : Int32)), .val (.int (0 : Int32)), .val (.int (1 : Int32))] [(.int r), (.ref b26)])) rfl (by rw [hml]; rfl) (argsL := [(.ref b26), (.int r)]) (rest := []) (lenOf pd93e6ecdc rfl) rfl (by show 2 * 0 + _ ≤ _; exact Nat.le_of_eq rfl) (hb hby at_311) (fun _ _ => ⟨rfl, e34, (by decide : 1 + 0 ≤ _), (by decide : 4 + 0 ≤ _)⟩)
              dsimp only [Pt.U, Pt.locs, Pt.cells, Pt.slots] at X42 l42 y42 z42 st42 hQ42
              subst l42 y42 z42
              obtain ⟨rfl, N42q, e42⟩ := hQ42
              have N42 := Fr.app N34 N42q
              refine Go.st (fun _ k => st42 _ k) ?_
              show Go p e below _ (T42.setTop (mkF m 314 #[.val (.int p0), .val (.int p1), .val (.int p2), .val (.int p3), .val (.int (2 : Int32)), .val (.int v3), .val (.int v3), .val (.int v4), .val (.int v5), .val (.int v6), .val (.int v7), .val (.int v8), .val (.ref b26), .val (.int r), .val (.int (0 : Int32)), .val (.int (1 : Int32)), .val (.int (0 : Int32)), .val (.int (1 : Int32))] [(.int (fC4 r v3 v4 v5 v6))]))
              refine Go.st (fun _ k => XS.iload X42.here hx rfl (hb hby at_314) rfl k) ?_
              show Go p e below _ (T42.setTop (mkF m 316 #[.val (.int p0), .val (.int p1), .val (.int p2), .val (.int p3), .val (.int (2 : Int32)), .val (.int v3), .val (.int v3), .val (.int v4), .val (.int v5), .val (.int v6), .val (.int v7), .val (.int v8), .val (.ref b26), .val (.int r), .val (.int (0 : Int32)), .val (.int (1 : Int32)), .val (.int (0 : Int32)), .val (.int (1 : Int32))] [(.int (1 : Int32)), (.int (fC4 r v3 v4 v5 v6))]))
              refine Go.st (fun _ k => XS.icmpNo X42.here hx rfl (hb hby at_316) rfl (teq (by unfold fC4; rw [if_neg hc35, if_pos hc37, if_neg hc38, if_neg hc40])).2 k) ?_
              show Go p e below _ (T42.setTop (mkF m 319 #[.val (.int p0), .val (.int p1), .val (.int p2), .val (.int p3), .val (.int (2 : Int32)), .val (.int v3), .val (.int v3), .val (.int v4), .val (.int v5), .val (.int v6), .val (.int v7), .val (.int v8), .val (.ref b26), .val (.int r), .val (.int (0 : Int32)), .val (.int (1 : Int32)), .val (.int (0 : Int32)), .val (.int (1 : Int32))] []))
              refine Go.st (fun _ k => XS.iconst X42.here hx rfl (hb hby at_319) k) ?_
              show Go p e below _ (T42.setTop (mkF m 320 #[.val (.int p0), .val (.int p1), .val (.int p2), .val (.int p3), .val (.int (2 : Int32)), .val (.int v3), .val (.int v3), .val (.int v4), .val (.int v5), .val (.int v6), .val (.int v7), .val (.int v8), .val (.ref b26), .val (.int r), .val (.int (0 : Int32)), .val (.int (1 : Int32)), .val (.int (0 : Int32)), .val (.int (1 : Int32))] [(.int (1 : Int32))]))
              refine Go.st (fun _ k => XS.goto X42.here hx rfl (pc0 := 320) (pc' := 324) rfl (hb hby at_320) (by decide) (by decide) k) ?_
              show Go p e below _ (T42.setTop (mkF m 324 #[.val (.int p0), .val (.int p1), .val (.int p2), .val (.int p3), .val (.int (2 : Int32)), .val (.int v3), .val (.int v3), .val (.int v4), .val (.int v5), .val (.int v6), .val (.int v7), .val (.int v8), .val (.ref b26), .val (.int r), .val (.int (0 : Int32)), .val (.int (1 : Int32)), .val (.int (0 : Int32)), .val (.int (1 : Int32))] [(.int (1 : Int32))]))
              obtain ⟨fs, hr, hrun, hended, hW, hsame⟩ := X42.leave (v := some (.int (1 : Int32))) (fun h => by rw [Bd.returns] at h; cases h)
              refine ⟨_, _, retN X42 hx (t := .boolean) Bd.returns (by simp) (hb hby at_324) hr, hrun, hended, _, _, rfl, ?_, ⟨_, rfl⟩, hW, hsame.mono (by decide) (by decide)⟩
              show Q_rm0 Z p0 p1 p2 p3 h0 n0 _ T42.heap _
              rw [e42]
              exact ⟨rfl, N42⟩
        · show Go p e below _ (T34.setTop (mkF m 221 #[.val (.int p0), .val (.int p1), .val (.int p2), .val (.int p3), .val (.int (2 : Int32)), .val (.int v3), .val (.int v3), .val (.int v4), .val (.int v5), .val (.int v6), .val (.int v7), .val (.int v8), .val (.ref b26), .val (.int r), .unset, .unset, .unset, .unset] [(.int v4), (.int r)]))
          refine Go.st (fun _ k => XS.icmpNo X34.here hx rfl (hb hby at_221) rfl (flt hc37).2.2.1 k) ?_
          show Go p e below _ (T34.setTop (mkF m 224 #[.val (.int p0), .val (.int p1), .val (.int p2), .val (.int p3), .val (.int (2 : Int32)), .val (.int v3), .val (.int v3), .val (.int v4), .val (.int v5), .val (.int v6), .val (.int v7), .val (.int v8), .val (.ref b26), .val (.int r), .unset, .unset, .unset, .unset] []))
          refine Go.st (fun _ k => XS.iconst X34.here hx rfl (hb hby at_224) k) ?_
          show Go p e below _ (T34.setTop (mkF m 225 #[.val (.int p0), .val (.int p1), .val (.int p2), .val (.int p3), .val (.int (2 : Int32)), .val (.int v3), .val (.int v3), .val (.int v4), .val (.int v5), .val (.int v6), .val (.int v7), .val (.int v8), .val (.ref b26), .val (.int r), .unset, .unset, .unset, .unset] [(.int (1 : Int32))]))
          refine Go.st (fun _ k => XS.goto X34.here hx rfl (pc0 := 225) (pc' := 229) rfl (hb hby at_225) (by decide) (by decide) k) ?_
          show Go p e below _ (T34.setTop (mkF m 229 #[.val (.int p0), .val (.int p1), .val (.int p2), .val (.int p3), .val (.int (2 : Int32)), .val (.int v3), .val (.int v3), .val (.int v4), .val (.int v5), .val (.int v6), .val (.int v7), .val (.int v8), .val (.ref b26), .val (.int r), .unset, .unset, .unset, .unset] [(.int (1 : Int32))]))
          refine Go.st (fun _ k => XS.istore X34.here hx rfl (hb hby at_229) rfl (l' := #[.val (.int p0), .val (.int p1), .val (.int p2), .val (.int p3), .val (.int (2 : Int32)), .val (.int v3), .val (.int v3), .val (.int v4), .val (.int v5), .val (.int v6), .val (.int v7), .val (.int v8), .val (.ref b26), .val (.int r), .val (.int (1 : Int32)), .unset, .unset, .unset]) rfl k) ?_
          show Go p e below _ (T34.setTop (mkF m 231 #[.val (.int p0), .val (.int p1), .val (.int p2), .val (.int p3), .val (.int (2 : Int32)), .val (.int v3), .val (.int v3), .val (.int v4), .val (.int v5), .val (.int v6), .val (.int v7), .val (.int v8), .val (.ref b26), .val (.int r), .val (.int (1 : Int32)), .unset, .unset, .unset] []))
          refine Go.st (fun _ k => XS.iload X34.here hx rfl (hb hby at_231) rfl k) ?_
          show Go p e below _ (T34.setTop (mkF m 233 #[.val (.int p0), .val (.int p1), .val (.int p2), .val (.int p3), .val (.int (2 : Int32)), .val (.int v3), .val (.int v3), .val (.int v4), .val (.int v5), .val (.int v6), .val (.int v7), .val (.int v8), .val (.ref b26), .val (.int r), .val (.int (1 : Int32)), .unset, .unset, .unset] [(.int (2 : Int32))]))
          refine Go.st (fun _ k => XS.iconst X34.here hx rfl (hb hby at_233) k) ?_
          show Go p e below _ (T34.setTop (mkF m 234 #[.val (.int p0), .val (.int p1), .val (.int p2), .val (.int p3), .val (.int (2 : Int32)), .val (.int v3), .val (.int v3), .val (.int v4), .val (.int v5), .val (.int v6), .val (.int v7), .val (.int v8), .val (.ref b26), .val (.int r), .val (.int (1 : Int32)), .unset, .unset, .unset] [(.int (2 : Int32)), (.int (2 : Int32))]))
          refine Go.st (fun _ k => XS.icmpNo X34.here hx rfl (hb hby at_234) rfl (flt (by decide : ¬ ((2 : Int32) < (2 : Int32)))).1 k) ?_
          show Go p e below _ (T34.setTop (mkF m 237 #[.val (.int p0), .val (.int p1), .val (.int p2), .val (.int p3), .val (.int (2 : Int32)), .val (.int v3), .val (.int v3), .val (.int v4), .val (.int v5), .val (.int v6), .val (.int v7), .val (.int v8), .val (.ref b26), .val (.int r), .val (.int (1 : Int32)), .unset, .unset, .unset] []))
          refine Go.st (fun _ k => XS.iload X34.here hx rfl (hb hby at_237) rfl k) ?_
          show Go p e below _ (T34.setTop (mkF m 239 #[.val (.int p0), .val (.int p1), .val (.int p2), .val (.int p3), .val (.int (2 : Int32)), .val (.int v3), .val (.int v3), .val (.int v4), .val (.int v5), .val (.int v6), .val (.int v7), .val (.int v8), .val (.ref b26), .val (.int r), .val (.int (1 : Int32)), .unset, .unset, .unset] [(.int v5)]))
          refine Go.st (fun _ k => XS.iload X34.here hx rfl (hb hby at_239) rfl k) ?_
          show Go p e below _ (T34.setTop (mkF m 241 #[.val (.int p0), .val (.int p1), .val (.int p2), .val (.int p3), .val (.int (2 : Int32)), .val (.int v3), .val (.int v3), .val (.int v4), .val (.int v5), .val (.int v6), .val (.int v7), .val (.int v8), .val (.ref b26), .val (.int r), .val (.int (1 : Int32)), .unset, .unset, .unset] [(.int r), (.int v5)]))
          refine Go.st (fun _ k => XS.icmpYes X34.here hx rfl (pc0 := 241) (pc' := 255) rfl (hb hby at_241) rfl (tlt (Int32.lt_iff_toInt_lt.mpr (by have zhc35 : ¬ r.toInt < v3.toInt := fun y => hc35 (Int32.lt_iff_toInt_lt.mpr y); have zhc37 : ¬ v4.toInt < r.toInt := fun y => hc37 (Int32.lt_iff_toInt_lt.mpr y); omega))).2.2.1 (by decide) (by decide) k) ?_
          show Go p e below _ (T34.setTop (mkF m 255 #[.val (.int p0), .val (.int p1), .val (.int p2), .val (.int p3), .val (.int (2 : Int32)), .val (.int v3), .val (.int v3), .val (.int v4), .val (.int v5), .val (.int v6), .val (.int v7), .val (.int v8), .val (.ref b26), .val (.int r), .val (.int (1 : Int32)), .unset, .unset, .unset] []))
          refine Go.st (fun _ k => XS.iconst X34.here hx rfl (hb hby at_255) k) ?_
          show Go p e below _ (T34.setTop (mkF m 256 #[.val (.int p0), .val (.int p1), .val (.int p2), .val (.int p3), .val (.int (2 : Int32)), .val (.int v3), .val (.int v3), .val (.int v4), .val (.int v5), .val (.int v6), .val (.int v7), .val (.int v8), .val (.ref b26), .val (.int r), .val (.int (1 : Int32)), .unset, .unset, .unset] [(.int (0 : Int32))]))
          refine Go.st (fun _ k => XS.istore X34.here hx rfl (hb hby at_256) rfl (l' := #[.val (.int p0), .val (.int p1), .val (.int p2), .val (.int p3), .val (.int (2 : Int32)), .val (.int v3), .val (.int v3), .val (.int v4), .val (.int v5), .val (.int v6), .val (.int v7), .val (.int v8), .val (.ref b26), .val (.int r), .val (.int (1 : Int32)), .val (.int (0 : Int32)), .unset, .unset]) rfl k) ?_
          show Go p e below _ (T34.setTop (mkF m 258 #[.val (.int p0), .val (.int p1), .val (.int p2), .val (.int p3), .val (.int (2 : Int32)), .val (.int v3), .val (.int v3), .val (.int v4), .val (.int v5), .val (.int v6), .val (.int v7), .val (.int v8), .val (.ref b26), .val (.int r), .val (.int (1 : Int32)), .val (.int (0 : Int32)), .unset, .unset] []))
          refine Go.st (fun _ k => XS.iload X34.here hx rfl (hb hby at_258) rfl k) ?_
          show Go p e below _ (T34.setTop (mkF m 260 #[.val (.int p0), .val (.int p1), .val (.int p2), .val (.int p3), .val (.int (2 : Int32)), .val (.int v3), .val (.int v3), .val (.int v4), .val (.int v5), .val (.int v6), .val (.int v7), .val (.int v8), .val (.ref b26), .val (.int r), .val (.int (1 : Int32)), .val (.int (0 : Int32)), .unset, .unset] [(.int (2 : Int32))]))
          refine Go.st (fun _ k => XS.iconst X34.here hx rfl (hb hby at_260) k) ?_
          show Go p e below _ (T34.setTop (mkF m 261 #[.val (.int p0), .val (.int p1), .val (.int p2), .val (.int p3), .val (.int (2 : Int32)), .val (.int v3), .val (.int v3), .val (.int v4), .val (.int v5), .val (.int v6), .val (.int v7), .val (.int v8), .val (.ref b26), .val (.int r), .val (.int (1 : Int32)), .val (.int (0 : Int32)), .unset, .unset] [(.int (3 : Int32)), (.int (2 : Int32))]))
          refine Go.st (fun _ k => XS.icmpYes X34.here hx rfl (pc0 := 261) (pc' := 282) rfl (hb hby at_261) rfl (tlt (by decide : ((2 : Int32) < (3 : Int32)))).1 (by decide) (by decide) k) ?_
          show Go p e below _ (T34.setTop (mkF m 282 #[.val (.int p0), .val (.int p1), .val (.int p2), .val (.int p3), .val (.int (2 : Int32)), .val (.int v3), .val (.int v3), .val (.int v4), .val (.int v5), .val (.int v6), .val (.int v7), .val (.int v8), .val (.ref b26), .val (.int r), .val (.int (1 : Int32)), .val (.int (0 : Int32)), .unset, .unset] []))
          refine Go.st (fun _ k => XS.iconst X34.here hx rfl (hb hby at_282) k) ?_
          show Go p e below _ (T34.setTop (mkF m 283 #[.val (.int p0), .val (.int p1), .val (.int p2), .val (.int p3), .val (.int (2 : Int32)), .val (.int v3), .val (.int v3), .val (.int v4), .val (.int v5), .val (.int v6), .val (.int v7), .val (.int v8), .val (.ref b26), .val (.int r), .val (.int (1 : Int32)), .val (.int (0 : Int32)), .unset, .unset] [(.int (0 : Int32))]))
          refine Go.st (fun _ k => XS.istore X34.here hx rfl (hb hby at_283) rfl (l' := #[.val (.int p0), .val (.int p1), .val (.int p2), .val (.int p3), .val (.int (2 : Int32)), .val (.int v3), .val (.int v3), .val (.int v4), .val (.int v5), .val (.int v6), .val (.int v7), .val (.int v8), .val (.ref b26), .val (.int r), .val (.int (1 : Int32)), .val (.int (0 : Int32)), .val (.int (0 : Int32)), .unset]) rfl k) ?_
          show Go p e below _ (T34.setTop (mkF m 285 #[.val (.int p0), .val (.int p1), .val (.int p2), .val (.int p3), .val (.int (2 : Int32)), .val (.int v3), .val (.int v3), .val (.int v4), .val (.int v5), .val (.int v6), .val (.int v7), .val (.int v8), .val (.ref b26), .val (.int r), .val (.int (1 : Int32)), .val (.int (0 : Int32)), .val (.int (0 : Int32)), .unset] []))
          refine Go.st (fun _ k => XS.iload X34.here hx rfl (hb hby at_285) rfl k) ?_
          show Go p e below _ (T34.setTop (mkF m 287 #[.val (.int p0), .val (.int p1), .val (.int p2), .val (.int p3), .val (.int (2 : Int32)), .val (.int v3), .val (.int v3), .val (.int v4), .val (.int v5), .val (.int v6), .val (.int v7), .val (.int v8), .val (.ref b26), .val (.int r), .val (.int (1 : Int32)), .val (.int (0 : Int32)), .val (.int (0 : Int32)), .unset] [(.int (1 : Int32))]))
          refine Go.st (fun _ k => XS.ifYes X34.here hx rfl (pc0 := 287) (pc' := 300) rfl (hb hby at_287) rfl ((if0 _ _).trans (feq (by decide : ¬ ((1 : Int32) = (0 : Int32)))).2) (by decide) (by decide) k) ?_
          show Go p e below _ (T34.setTop (mkF m 300 #[.val (.int p0), .val (.int p1), .val (.int p2), .val (.int p3), .val (.int (2 : Int32)), .val (.int v3), .val (.int v3), .val (.int v4), .val (.int v5), .val (.int v6), .val (.int v7), .val (.int v8), .val (.ref b26), .val (.int r), .val (.int (1 : Int32)), .val (.int (0 : Int32)), .val (.int (0 : Int32)), .unset] []))
          refine Go.st (fun _ k => XS.iconst X34.here hx rfl (hb hby at_300) k) ?_
          show Go p e below _ (T34.setTop (mkF m 301 #[.val (.int p0), .val (.int p1), .val (.int p2), .val (.int p3), .val (.int (2 : Int32)), .val (.int v3), .val (.int v3), .val (.int v4), .val (.int v5), .val (.int v6), .val (.int v7), .val (.int v8), .val (.ref b26), .val (.int r), .val (.int (1 : Int32)), .val (.int (0 : Int32)), .val (.int (0 : Int32)), .unset] [(.int (1 : Int32))]))
          refine Go.st (fun _ k => XS.goto X34.here hx rfl (pc0 := 301) (pc' := 305) rfl (hb hby at_301) (by decide) (by decide) k) ?_
          show Go p e below _ (T34.setTop (mkF m 305 #[.val (.int p0), .val (.int p1), .val (.int p2), .val (.int p3), .val (.int (2 : Int32)), .val (.int v3), .val (.int v3), .val (.int v4), .val (.int v5), .val (.int v6), .val (.int v7), .val (.int v8), .val (.ref b26), .val (.int r), .val (.int (1 : Int32)), .val (.int (0 : Int32)), .val (.int (0 : Int32)), .unset] [(.int (1 : Int32))]))
          refine Go.st (fun _ k => XS.istore X34.here hx rfl (hb hby at_305) rfl (l' := #[.val (.int p0), .val (.int p1), .val (.int p2), .val (.int p3), .val (.int (2 : Int32)), .val (.int v3), .val (.int v3), .val (.int v4), .val (.int v5), .val (.int v6), .val (.int v7), .val (.int v8), .val (.ref b26), .val (.int r), .val (.int (1 : Int32)), .val (.int (0 : Int32)), .val (.int (0 : Int32)), .val (.int (1 : Int32))]) rfl k) ?_
          show Go p e below _ (T34.setTop (mkF m 307 #[.val (.int p0), .val (.int p1), .val (.int p2), .val (.int p3), .val (.int (2 : Int32)), .val (.int v3), .val (.int v3), .val (.int v4), .val (.int v5), .val (.int v6), .val (.int v7), .val (.int v8), .val (.ref b26), .val (.int r), .val (.int (1 : Int32)), .val (.int (0 : Int32)), .val (.int (0 : Int32)), .val (.int (1 : Int32))] []))
          refine Go.st (fun _ k => XS.aload X34.here hx rfl (hb hby at_307) rfl rfl k) ?_
          show Go p e below _ (T34.setTop (mkF m 309 #[.val (.int p0), .val (.int p1), .val (.int p2), .val (.int p3), .val (.int (2 : Int32)), .val (.int v3), .val (.int v3), .val (.int v4), .val (.int v5), .val (.int v6), .val (.int v7), .val (.int v8), .val (.ref b26), .val (.int r), .val (.int (1 : Int32)), .val (.int (0 : Int32)), .val (.int (0 : Int32)), .val (.int (1 : Int32))] [(.ref b26)]))
          refine Go.st (fun _ k => XS.iload X34.here hx rfl (hb hby at_309) rfl k) ?_
          show Go p e below _ (T34.setTop (mkF m 311 #[.val (.int p0), .val (.int p1), .val (.int p2), .val (.int p3), .val (.int (2 : Int32)), .val (.int v3), .val (.int v3), .val (.int v4), .val (.int v5), .val (.int v6), .val (.int v7), .val (.int v8), .val (.ref b26), .val (.int r), .val (.int (1 : Int32)), .val (.int (0 : Int32)), .val (.int (0 : Int32)), .val (.int (1 : Int32))] [(.int r), (.ref b26)]))
          obtain ⟨_, _, ⟨T43, L43, k43, n43⟩, -, X43, ⟨Lc43, hQ43, l43, y43, z43⟩, st43⟩ := Jvm.LawKit.callS X34 hx (y := (⟨"com/example/weir/weir/route/ValueRegions", "contains", "([II)Z"⟩ : MethodName)) hown (mvT hZ (hw _ (List.mem_of_getElem? (i := 6) rfl))) (mvT hZ (hw _ (List.mem_of_getElem? (i := 7) rfl))) (mvT hZ (hw _ (List.mem_of_getElem? (i := 8) rfl))) (mvT hZ (hw _ (List.mem_of_getElem? (i := 9) rfl))) (by decide) (backOf (W := 0) (rmC4 l Z aZ hw [] b26 r k26 v3 v4 v5 v6 h34 n0 V34) hZ (hw _ (List.mem_of_getElem? (i := 9) rfl)) (hw _ (List.mem_of_getElem? (i := 8) rfl)) (by decide) (by decide)) (g := (mkF m 311 #[.val (.int p0), .val (.int p1), .val (.int p2), .val (.int p3), .val (.int (2 : Int32)), .val (.int v3), .val (.int v3), .val (.int v4), .val (.int v5), .val (.int v6), .val (.int v7), .val (.int v8), .val (.ref b26), .val (.int r), .val (.int (1 : Int32)), .val (.int (0 : Int32)), .val (.int (0 : Int32)), .val (.int (1 : Int32))] [(.int r), (.ref b26)])) rfl (by rw [hml]; rfl) (argsL := [(.ref b26), (.int r)]) (rest := []) (lenOf pd93e6ecdc rfl) rfl (by show 2 * 0 + _ ≤ _; exact Nat.le_of_eq rfl) (hb hby at_311) (fun _ _ => ⟨rfl, e34, (by decide : 1 + 0 ≤ _), (by decide : 4 + 0 ≤ _)⟩)
          dsimp only [Pt.U, Pt.locs, Pt.cells, Pt.slots] at X43 l43 y43 z43 st43 hQ43
          subst l43 y43 z43
          obtain ⟨rfl, N43q, e43⟩ := hQ43
          have N43 := Fr.app N34 N43q
          refine Go.st (fun _ k => st43 _ k) ?_
          show Go p e below _ (T43.setTop (mkF m 314 #[.val (.int p0), .val (.int p1), .val (.int p2), .val (.int p3), .val (.int (2 : Int32)), .val (.int v3), .val (.int v3), .val (.int v4), .val (.int v5), .val (.int v6), .val (.int v7), .val (.int v8), .val (.ref b26), .val (.int r), .val (.int (1 : Int32)), .val (.int (0 : Int32)), .val (.int (0 : Int32)), .val (.int (1 : Int32))] [(.int (fC4 r v3 v4 v5 v6))]))
          refine Go.st (fun _ k => XS.iload X43.here hx rfl (hb hby at_314) rfl k) ?_
          show Go p e below _ (T43.setTop (mkF m 316 #[.val (.int p0), .val (.int p1), .val (.int p2), .val (.int p3), .val (.int (2 : Int32)), .val (.int v3), .val (.int v3), .val (.int v4), .val (.int v5), .val (.int v6), .val (.int v7), .val (.int v8), .val (.ref b26), .val (.int r), .val (.int (1 : Int32)), .val (.int (0 : Int32)), .val (.int (0 : Int32)), .val (.int (1 : Int32))] [(.int (1 : Int32)), (.int (fC4 r v3 v4 v5 v6))]))
          refine Go.st (fun _ k => XS.icmpNo X43.here hx rfl (hb hby at_316) rfl (teq (by unfold fC4; rw [if_neg hc35, if_neg hc37])).2 k) ?_
          show Go p e below _ (T43.setTop (mkF m 319 #[.val (.int p0), .val (.int p1), .val (.int p2), .val (.int p3), .val (.int (2 : Int32)), .val (.int v3), .val (.int v3), .val (.int v4), .val (.int v5), .val (.int v6), .val (.int v7), .val (.int v8), .val (.ref b26), .val (.int r), .val (.int (1 : Int32)), .val (.int (0 : Int32)), .val (.int (0 : Int32)), .val (.int (1 : Int32))] []))
          refine Go.st (fun _ k => XS.iconst X43.here hx rfl (hb hby at_319) k) ?_
          show Go p e below _ (T43.setTop (mkF m 320 #[.val (.int p0), .val (.int p1), .val (.int p2), .val (.int p3), .val (.int (2 : Int32)), .val (.int v3), .val (.int v3), .val (.int v4), .val (.int v5), .val (.int v6), .val (.int v7), .val (.int v8), .val (.ref b26), .val (.int r), .val (.int (1 : Int32)), .val (.int (0 : Int32)), .val (.int (0 : Int32)), .val (.int (1 : Int32))] [(.int (1 : Int32))]))
          refine Go.st (fun _ k => XS.goto X43.here hx rfl (pc0 := 320) (pc' := 324) rfl (hb hby at_320) (by decide) (by decide) k) ?_
          show Go p e below _ (T43.setTop (mkF m 324 #[.val (.int p0), .val (.int p1), .val (.int p2), .val (.int p3), .val (.int (2 : Int32)), .val (.int v3), .val (.int v3), .val (.int v4), .val (.int v5), .val (.int v6), .val (.int v7), .val (.int v8), .val (.ref b26), .val (.int r), .val (.int (1 : Int32)), .val (.int (0 : Int32)), .val (.int (0 : Int32)), .val (.int (1 : Int32))] [(.int (1 : Int32))]))
          obtain ⟨fs, hr, hrun, hended, hW, hsame⟩ := X43.leave (v := some (.int (1 : Int32))) (fun h => by rw [Bd.returns] at h; cases h)
          refine ⟨_, _, retN X43 hx (t := .boolean) Bd.returns (by simp) (hb hby at_324) hr, hrun, hended, _, _, rfl, ?_, ⟨_, rfl⟩, hW, hsame.mono (by decide) (by decide)⟩
          show Q_rm0 Z p0 p1 p2 p3 h0 n0 _ T43.heap _
          rw [e43]
          exact ⟨rfl, N43⟩
    refine Go.st (fun _ k => XS.iloadN X34.here hx rfl (hb hby at_181) rfl k) ?_
    show Go p e below _ (T34.setTop (mkF m 182 #[.val (.int p0), .val (.int p1), .val (.int p2), .val (.int p3), .val (.int (2 : Int32)), .val (.int v3), .val (.int v3), .val (.int v4), .val (.int v5), .val (.int v6), .val (.int v7), .val (.int v8), .val (.ref b26), .unset, .unset, .unset, .unset, .unset] [(.int p3)]))
    refine Go.st (fun _ k => XS.iconst X34.here hx rfl (hb hby at_182) k) ?_
    show Go p e below _ (T34.setTop (mkF m 183 #[.val (.int p0), .val (.int p1), .val (.int p2), .val (.int p3), .val (.int (2 : Int32)), .val (.int v3), .val (.int v3), .val (.int v4), .val (.int v5), .val (.int v6), .val (.int v7), .val (.int v8), .val (.ref b26), .unset, .unset, .unset, .unset, .unset] [(.int (1 : Int32)), (.int p3)]))
    refine Go.st (fun _ k => XS.iand X34.here hx rfl (hb hby at_183) rfl k) ?_
    show Go p e below _ (T34.setTop (mkF m 184 #[.val (.int p0), .val (.int p1), .val (.int p2), .val (.int p3), .val (.int (2 : Int32)), .val (.int v3), .val (.int v3), .val (.int v4), .val (.int v5), .val (.int v6), .val (.int v7), .val (.int v8), .val (.ref b26), .unset, .unset, .unset, .unset, .unset] [(.int (p3 &&& (1 : Int32)))]))
    by_cases hc44 : (p3 &&& (1 : Int32)) = (0 : Int32)
    · show Go p e below _ (T34.setTop (mkF m 184 #[.val (.int p0), .val (.int p1), .val (.int p2), .val (.int p3), .val (.int (2 : Int32)), .val (.int v3), .val (.int v3), .val (.int v4), .val (.int v5), .val (.int v6), .val (.int v7), .val (.int v8), .val (.ref b26), .unset, .unset, .unset, .unset, .unset] [(.int (p3 &&& (1 : Int32)))]))
      refine Go.st (fun _ k => XS.ifYes X34.here hx rfl (pc0 := 184) (pc' := 193) rfl (hb hby at_184) rfl ((if0 _ _).trans (teq hc44).1) (by decide) (by decide) k) ?_
      show Go p e below _ (T34.setTop (mkF m 193 #[.val (.int p0), .val (.int p1), .val (.int p2), .val (.int p3), .val (.int (2 : Int32)), .val (.int v3), .val (.int v3), .val (.int v4), .val (.int v5), .val (.int v6), .val (.int v7), .val (.int v8), .val (.ref b26), .unset, .unset, .unset, .unset, .unset] []))
      refine Go.st (fun _ k => XS.iload X34.here hx rfl (hb hby at_193) rfl k) ?_
      show Go p e below _ (T34.setTop (mkF m 195 #[.val (.int p0), .val (.int p1), .val (.int p2), .val (.int p3), .val (.int (2 : Int32)), .val (.int v3), .val (.int v3), .val (.int v4), .val (.int v5), .val (.int v6), .val (.int v7), .val (.int v8), .val (.ref b26), .unset, .unset, .unset, .unset, .unset] [(.int v3)]))
      refine Go.st (fun _ k => XS.iconst X34.here hx rfl (hb hby at_195) k) ?_
      show Go p e below _ (T34.setTop (mkF m 196 #[.val (.int p0), .val (.int p1), .val (.int p2), .val (.int p3), .val (.int (2 : Int32)), .val (.int v3), .val (.int v3), .val (.int v4), .val (.int v5), .val (.int v6), .val (.int v7), .val (.int v8), .val (.ref b26), .unset, .unset, .unset, .unset, .unset] [(.int (2 : Int32)), (.int v3)]))
      refine Go.st (fun _ k => XS.isub X34.here hx rfl (hb hby at_196) rfl k) ?_
      show Go p e below _ (T34.setTop (mkF m 197 #[.val (.int p0), .val (.int p1), .val (.int p2), .val (.int p3), .val (.int (2 : Int32)), .val (.int v3), .val (.int v3), .val (.int v4), .val (.int v5), .val (.int v6), .val (.int v7), .val (.int v8), .val (.ref b26), .unset, .unset, .unset, .unset, .unset] [(.int (v3 - (2 : Int32)))]))
      refine Go.st (fun _ k => XS.iloadN X34.here hx rfl (hb hby at_197) rfl k) ?_
      show Go p e below _ (T34.setTop (mkF m 198 #[.val (.int p0), .val (.int p1), .val (.int p2), .val (.int p3), .val (.int (2 : Int32)), .val (.int v3), .val (.int v3), .val (.int v4), .val (.int v5), .val (.int v6), .val (.int v7), .val (.int v8), .val (.ref b26), .unset, .unset, .unset, .unset, .unset] [(.int p2), (.int (v3 - (2 : Int32)))]))
      refine Go.st (fun _ k => XS.bipush X34.here hx rfl (hb hby at_198) k) ?_
      show Go p e below _ (T34.setTop (mkF m 200 #[.val (.int p0), .val (.int p1), .val (.int p2), .val (.int p3), .val (.int (2 : Int32)), .val (.int v3), .val (.int v3), .val (.int v4), .val (.int v5), .val (.int v6), .val (.int v7), .val (.int v8), .val (.ref b26), .unset, .unset, .unset, .unset, .unset] [(.int (31 : Int32)), (.int p2), (.int (v3 - (2 : Int32)))]))
      refine Go.st (fun _ k => XS.iand X34.here hx rfl (hb hby at_200) rfl k) ?_
      show Go p e below _ (T34.setTop (mkF m 201 #[.val (.int p0), .val (.int p1), .val (.int p2), .val (.int p3), .val (.int (2 : Int32)), .val (.int v3), .val (.int v3), .val (.int v4), .val (.int v5), .val (.int v6), .val (.int v7), .val (.int v8), .val (.ref b26), .unset, .unset, .unset, .unset, .unset] [(.int (p2 &&& (31 : Int32))), (.int (v3 - (2 : Int32)))]))
      refine Go.st (fun _ k => XS.iadd X34.here hx rfl (hb hby at_201) rfl k) ?_
      show Go p e below _ (T34.setTop (mkF m 202 #[.val (.int p0), .val (.int p1), .val (.int p2), .val (.int p3), .val (.int (2 : Int32)), .val (.int v3), .val (.int v3), .val (.int v4), .val (.int v5), .val (.int v6), .val (.int v7), .val (.int v8), .val (.ref b26), .unset, .unset, .unset, .unset, .unset] [(.int ((v3 - (2 : Int32)) + (p2 &&& (31 : Int32))))]))
      generalize hv45 : ((v3 - (2 : Int32)) + (p2 &&& (31 : Int32))) = v45
      refine Go.st (fun _ k => XS.istore X34.here hx rfl (hb hby at_202) rfl (l' := #[.val (.int p0), .val (.int p1), .val (.int p2), .val (.int p3), .val (.int (2 : Int32)), .val (.int v3), .val (.int v3), .val (.int v4), .val (.int v5), .val (.int v6), .val (.int v7), .val (.int v8), .val (.ref b26), .val (.int v45), .unset, .unset, .unset, .unset]) rfl k) ?_
      show Go p e below _ (T34.setTop (mkF m 204 #[.val (.int p0), .val (.int p1), .val (.int p2), .val (.int p3), .val (.int (2 : Int32)), .val (.int v3), .val (.int v3), .val (.int v4), .val (.int v5), .val (.int v6), .val (.int v7), .val (.int v8), .val (.ref b26), .val (.int v45), .unset, .unset, .unset, .unset] []))
      exact key _
    · show Go p e below _ (T34.setTop (mkF m 184 #[.val (.int p0), .val (.int p1), .val (.int p2), .val (.int p3), .val (.int (2 : Int32)), .val (.int v3), .val (.int v3), .val (.int v4), .val (.int v5), .val (.int v6), .val (.int v7), .val (.int v8), .val (.ref b26), .unset, .unset, .unset, .unset, .unset] [(.int (p3 &&& (1 : Int32)))]))
      refine Go.st (fun _ k => XS.ifNo X34.here hx rfl (hb hby at_184) rfl ((if0 _ _).trans (feq hc44).1) k) ?_
      show Go p e below _ (T34.setTop (mkF m 187 #[.val (.int p0), .val (.int p1), .val (.int p2), .val (.int p3), .val (.int (2 : Int32)), .val (.int v3), .val (.int v3), .val (.int v4), .val (.int v5), .val (.int v6), .val (.int v7), .val (.int v8), .val (.ref b26), .unset, .unset, .unset, .unset, .unset] []))
      refine Go.st (fun _ k => XS.iloadN X34.here hx rfl (hb hby at_187) rfl k) ?_
      show Go p e below _ (T34.setTop (mkF m 188 #[.val (.int p0), .val (.int p1), .val (.int p2), .val (.int p3), .val (.int (2 : Int32)), .val (.int v3), .val (.int v3), .val (.int v4), .val (.int v5), .val (.int v6), .val (.int v7), .val (.int v8), .val (.ref b26), .unset, .unset, .unset, .unset, .unset] [(.int p2)]))
      refine Go.st (fun _ k => XS.istore X34.here hx rfl (hb hby at_188) rfl (l' := #[.val (.int p0), .val (.int p1), .val (.int p2), .val (.int p3), .val (.int (2 : Int32)), .val (.int v3), .val (.int v3), .val (.int v4), .val (.int v5), .val (.int v6), .val (.int v7), .val (.int v8), .val (.ref b26), .val (.int p2), .unset, .unset, .unset, .unset]) rfl k) ?_
      show Go p e below _ (T34.setTop (mkF m 190 #[.val (.int p0), .val (.int p1), .val (.int p2), .val (.int p3), .val (.int (2 : Int32)), .val (.int v3), .val (.int v3), .val (.int v4), .val (.int v5), .val (.int v6), .val (.int v7), .val (.int v8), .val (.ref b26), .val (.int p2), .unset, .unset, .unset, .unset] []))
      refine Go.st (fun _ k => XS.goto X34.here hx rfl (pc0 := 190) (pc' := 204) rfl (hb hby at_190) (by decide) (by decide) k) ?_
      show Go p e below _ (T34.setTop (mkF m 204 #[.val (.int p0), .val (.int p1), .val (.int p2), .val (.int p3), .val (.int (2 : Int32)), .val (.int v3), .val (.int v3), .val (.int v4), .val (.int v5), .val (.int v6), .val (.int v7), .val (.int v8), .val (.ref b26), .val (.int p2), .unset, .unset, .unset, .unset] []))
      exact key _
  · rw [hr9]
    show Go p e below _ (T2.setTop (mkF m 74 #[.val (.int p0), .val (.int p1), .val (.int p2), .val (.int p3), .val (.int (3 : Int32)), .val (.int v3), .val (.int v3), .val (.int v4), .val (.int v5), .val (.int v6), .val (.int v7), .val (.int v8), .unset, .unset, .unset, .unset, .unset, .unset] []))
    refine Go.st (fun _ k => XS.iload X2.here hx rfl (hb hby at_74) rfl k) ?_
    show Go p e below _ (T2.setTop (mkF m 76 #[.val (.int p0), .val (.int p1), .val (.int p2), .val (.int p3), .val (.int (3 : Int32)), .val (.int v3), .val (.int v3), .val (.int v4), .val (.int v5), .val (.int v6), .val (.int v7), .val (.int v8), .unset, .unset, .unset, .unset, .unset, .unset] [(.int (3 : Int32))]))
    refine Go.st (fun _ k => XS.ifYes X2.here hx rfl (pc0 := 76) (pc' := 87) rfl (hb hby at_76) rfl ((if0 _ _).trans (feq (by decide : ¬ ((3 : Int32) = (0 : Int32)))).2) (by decide) (by decide) k) ?_
    show Go p e below _ (T2.setTop (mkF m 87 #[.val (.int p0), .val (.int p1), .val (.int p2), .val (.int p3), .val (.int (3 : Int32)), .val (.int v3), .val (.int v3), .val (.int v4), .val (.int v5), .val (.int v6), .val (.int v7), .val (.int v8), .unset, .unset, .unset, .unset, .unset, .unset] []))
    refine Go.st (fun _ k => XS.iload X2.here hx rfl (hb hby at_87) rfl k) ?_
    show Go p e below _ (T2.setTop (mkF m 89 #[.val (.int p0), .val (.int p1), .val (.int p2), .val (.int p3), .val (.int (3 : Int32)), .val (.int v3), .val (.int v3), .val (.int v4), .val (.int v5), .val (.int v6), .val (.int v7), .val (.int v8), .unset, .unset, .unset, .unset, .unset, .unset] [(.int (3 : Int32))]))
    refine Go.st (fun _ k => XS.iconst X2.here hx rfl (hb hby at_89) k) ?_
    show Go p e below _ (T2.setTop (mkF m 90 #[.val (.int p0), .val (.int p1), .val (.int p2), .val (.int p3), .val (.int (3 : Int32)), .val (.int v3), .val (.int v3), .val (.int v4), .val (.int v5), .val (.int v6), .val (.int v7), .val (.int v8), .unset, .unset, .unset, .unset, .unset, .unset] [(.int (1 : Int32)), (.int (3 : Int32))]))
    refine Go.st (fun _ k => XS.icmpYes X2.here hx rfl (pc0 := 90) (pc' := 111) rfl (hb hby at_90) rfl (feq (by decide : ¬ ((3 : Int32) = (1 : Int32)))).2 (by decide) (by decide) k) ?_
    show Go p e below _ (T2.setTop (mkF m 111 #[.val (.int p0), .val (.int p1), .val (.int p2), .val (.int p3), .val (.int (3 : Int32)), .val (.int v3), .val (.int v3), .val (.int v4), .val (.int v5), .val (.int v6), .val (.int v7), .val (.int v8), .unset, .unset, .unset, .unset, .unset, .unset] []))
    refine Go.st (fun _ k => XS.iload X2.here hx rfl (hb hby at_111) rfl k) ?_
    show Go p e below _ (T2.setTop (mkF m 113 #[.val (.int p0), .val (.int p1), .val (.int p2), .val (.int p3), .val (.int (3 : Int32)), .val (.int v3), .val (.int v3), .val (.int v4), .val (.int v5), .val (.int v6), .val (.int v7), .val (.int v8), .unset, .unset, .unset, .unset, .unset, .unset] [(.int (3 : Int32))]))
    refine Go.st (fun _ k => XS.iconst X2.here hx rfl (hb hby at_113) k) ?_
    show Go p e below _ (T2.setTop (mkF m 114 #[.val (.int p0), .val (.int p1), .val (.int p2), .val (.int p3), .val (.int (3 : Int32)), .val (.int v3), .val (.int v3), .val (.int v4), .val (.int v5), .val (.int v6), .val (.int v7), .val (.int v8), .unset, .unset, .unset, .unset, .unset, .unset] [(.int (2 : Int32)), (.int (3 : Int32))]))
    refine Go.st (fun _ k => XS.icmpYes X2.here hx rfl (pc0 := 114) (pc' := 145) rfl (hb hby at_114) rfl (feq (by decide : ¬ ((3 : Int32) = (2 : Int32)))).2 (by decide) (by decide) k) ?_
    show Go p e below _ (T2.setTop (mkF m 145 #[.val (.int p0), .val (.int p1), .val (.int p2), .val (.int p3), .val (.int (3 : Int32)), .val (.int v3), .val (.int v3), .val (.int v4), .val (.int v5), .val (.int v6), .val (.int v7), .val (.int v8), .unset, .unset, .unset, .unset, .unset, .unset] []))
    refine Go.st (fun _ k => XS.bipush X2.here hx rfl (hb hby at_145) k) ?_
    show Go p e below _ (T2.setTop (mkF m 147 #[.val (.int p0), .val (.int p1), .val (.int p2), .val (.int p3), .val (.int (3 : Int32)), .val (.int v3), .val (.int v3), .val (.int v4), .val (.int v5), .val (.int v6), .val (.int v7), .val (.int v8), .unset, .unset, .unset, .unset, .unset, .unset] [(.int (6 : Int32))]))
    obtain ⟨T46, h46, k46, X46, e46, E46, A46, st46⟩ := newP X2 hx hZ (hw _ (List.mem_of_getElem? (i := 5) rfl)) e2 (g := (mkF m 147 #[.val (.int p0), .val (.int p1), .val (.int p2), .val (.int p3), .val (.int (3 : Int32)), .val (.int v3), .val (.int v3), .val (.int v4), .val (.int v5), .val (.int v6), .val (.int v7), .val (.int v8), .unset, .unset, .unset, .unset, .unset, .unset] [(.int (6 : Int32))])) rfl (hb hby at_147) rfl (by decide) (cap := 6) (by decide) (by decide) (by decide) (by decide)
    obtain ⟨b46, g46⟩ : ∃ z, z = h0.size := ⟨_, rfl⟩
    have gg46 : n0 ≤ b46 := Nat.le_trans Z0 (Nat.le_of_eq g46.symm)
    rw [← g46] at A46 st46
    have Z46 : n0 ≤ h46.size := Nat.le_trans Z0 E46.1
    have V46 : Arv Z h46 b46 k46 .int (6 : Int32) [(.int (0 : Int32)), (.int (0 : Int32)), (.int (0 : Int32)), (.int (0 : Int32)), (.int (0 : Int32)), (.int (0 : Int32))] (.int (0 : Int32)) := (Arv.new A46 (by decide)).pad (pad_rep [] (.int (0 : Int32)) 6)
    refine Go.st (fun _ k => st46 _ k) ?_
    show Go p e below _ (T46.setTop (mkF m 149 #[.val (.int p0), .val (.int p1), .val (.int p2), .val (.int p3), .val (.int (3 : Int32)), .val (.int v3), .val (.int v3), .val (.int v4), .val (.int v5), .val (.int v6), .val (.int v7), .val (.int v8), .unset, .unset, .unset, .unset, .unset, .unset] [(.ref b46)]))
    refine Go.st (fun _ k => XS.dup X46.here hx rfl (hb hby at_149) rfl rfl k) ?_
    show Go p e below _ (T46.setTop (mkF m 150 #[.val (.int p0), .val (.int p1), .val (.int p2), .val (.int p3), .val (.int (3 : Int32)), .val (.int v3), .val (.int v3), .val (.int v4), .val (.int v5), .val (.int v6), .val (.int v7), .val (.int v8), .unset, .unset, .unset, .unset, .unset, .unset] [(.ref b46), (.ref b46)]))
    refine Go.st (fun _ k => XS.iconst X46.here hx rfl (hb hby at_150) k) ?_
    show Go p e below _ (T46.setTop (mkF m 151 #[.val (.int p0), .val (.int p1), .val (.int p2), .val (.int p3), .val (.int (3 : Int32)), .val (.int v3), .val (.int v3), .val (.int v4), .val (.int v5), .val (.int v6), .val (.int v7), .val (.int v8), .unset, .unset, .unset, .unset, .unset, .unset] [(.int (0 : Int32)), (.ref b46), (.ref b46)]))
    refine Go.st (fun _ k => XS.iload X46.here hx rfl (hb hby at_151) rfl k) ?_
    show Go p e below _ (T46.setTop (mkF m 153 #[.val (.int p0), .val (.int p1), .val (.int p2), .val (.int p3), .val (.int (3 : Int32)), .val (.int v3), .val (.int v3), .val (.int v4), .val (.int v5), .val (.int v6), .val (.int v7), .val (.int v8), .unset, .unset, .unset, .unset, .unset, .unset] [(.int v3), (.int (0 : Int32)), (.ref b46), (.ref b46)]))
    obtain ⟨cl47, Ar47, ck47, Sz47, Nn47, Hs47, Gs47⟩ := id V46
    have hin47 : ¬ ((0 : Int32) < 0 ∨ cl47.slots.size ≤ ((0 : Int32)).toNatClampNeg) := inb_of Sz47 ⟨by decide, by decide⟩
    obtain ⟨T48, h48, X48, e48, W48, st48⟩ := stI X46 hx hZ e46 Ar47 (j := (0 : Int32)) hin47 (g := (mkF m 153 #[.val (.int p0), .val (.int p1), .val (.int p2), .val (.int p3), .val (.int (3 : Int32)), .val (.int v3), .val (.int v3), .val (.int v4), .val (.int v5), .val (.int v6), .val (.int v7), .val (.int v8), .unset, .unset, .unset, .unset, .unset, .unset] [(.int v3), (.int (0 : Int32)), (.ref b46), (.ref b46)])) rfl rfl (hb hby at_153)
    have V48 : Arv Z h48 b46 k46 .int (6 : Int32) [(.int v3), (.int (0 : Int32)), (.int (0 : Int32)), (.int (0 : Int32)), (.int (0 : Int32)), (.int (0 : Int32))] (.int (0 : Int32)) := Arv.set Ar47 ck47 Sz47 Nn47 Hs47 Gs47 rfl W48 0 rfl (Nat.le_of_ble_eq_true rfl)
    have N48 := Fr.snoc X48 N2 gg46
    have Z48 : n0 ≤ h48.size := by rw [W48.size]; exact Z46
    refine Go.st (fun _ k => st48 _ k) ?_
    show Go p e below _ (T48.setTop (mkF m 154 #[.val (.int p0), .val (.int p1), .val (.int p2), .val (.int p3), .val (.int (3 : Int32)), .val (.int v3), .val (.int v3), .val (.int v4), .val (.int v5), .val (.int v6), .val (.int v7), .val (.int v8), .unset, .unset, .unset, .unset, .unset, .unset] [(.ref b46)]))
    refine Go.st (fun _ k => XS.dup X48.here hx rfl (hb hby at_154) rfl rfl k) ?_
    show Go p e below _ (T48.setTop (mkF m 155 #[.val (.int p0), .val (.int p1), .val (.int p2), .val (.int p3), .val (.int (3 : Int32)), .val (.int v3), .val (.int v3), .val (.int v4), .val (.int v5), .val (.int v6), .val (.int v7), .val (.int v8), .unset, .unset, .unset, .unset, .unset, .unset] [(.ref b46), (.ref b46)]))
    refine Go.st (fun _ k => XS.iconst X48.here hx rfl (hb hby at_155) k) ?_
    show Go p e below _ (T48.setTop (mkF m 156 #[.val (.int p0), .val (.int p1), .val (.int p2), .val (.int p3), .val (.int (3 : Int32)), .val (.int v3), .val (.int v3), .val (.int v4), .val (.int v5), .val (.int v6), .val (.int v7), .val (.int v8), .unset, .unset, .unset, .unset, .unset, .unset] [(.int (1 : Int32)), (.ref b46), (.ref b46)]))
    refine Go.st (fun _ k => XS.iload X48.here hx rfl (hb hby at_156) rfl k) ?_
    show Go p e below _ (T48.setTop (mkF m 158 #[.val (.int p0), .val (.int p1), .val (.int p2), .val (.int p3), .val (.int (3 : Int32)), .val (.int v3), .val (.int v3), .val (.int v4), .val (.int v5), .val (.int v6), .val (.int v7), .val (.int v8), .unset, .unset, .unset, .unset, .unset, .unset] [(.int v4), (.int (1 : Int32)), (.ref b46), (.ref b46)]))
    obtain ⟨cl49, Ar49, ck49, Sz49, Nn49, Hs49, Gs49⟩ := id V48
    have hin49 : ¬ ((1 : Int32) < 0 ∨ cl49.slots.size ≤ ((1 : Int32)).toNatClampNeg) := inb_of Sz49 ⟨by decide, by decide⟩
    obtain ⟨T50, h50, X50, e50, W50, st50⟩ := stI X48 hx hZ e48 Ar49 (j := (1 : Int32)) hin49 (g := (mkF m 158 #[.val (.int p0), .val (.int p1), .val (.int p2), .val (.int p3), .val (.int (3 : Int32)), .val (.int v3), .val (.int v3), .val (.int v4), .val (.int v5), .val (.int v6), .val (.int v7), .val (.int v8), .unset, .unset, .unset, .unset, .unset, .unset] [(.int v4), (.int (1 : Int32)), (.ref b46), (.ref b46)])) rfl rfl (hb hby at_158)
    have V50 : Arv Z h50 b46 k46 .int (6 : Int32) [(.int v3), (.int v4), (.int (0 : Int32)), (.int (0 : Int32)), (.int (0 : Int32)), (.int (0 : Int32))] (.int (0 : Int32)) := Arv.set Ar49 ck49 Sz49 Nn49 Hs49 Gs49 rfl W50 1 rfl (Nat.le_of_ble_eq_true rfl)
    have N50 := Fr.snoc X50 N48 gg46
    have Z50 : n0 ≤ h50.size := by rw [W50.size]; exact Z48
    refine Go.st (fun _ k => st50 _ k) ?_
    show Go p e below _ (T50.setTop (mkF m 159 #[.val (.int p0), .val (.int p1), .val (.int p2), .val (.int p3), .val (.int (3 : Int32)), .val (.int v3), .val (.int v3), .val (.int v4), .val (.int v5), .val (.int v6), .val (.int v7), .val (.int v8), .unset, .unset, .unset, .unset, .unset, .unset] [(.ref b46)]))
    refine Go.st (fun _ k => XS.dup X50.here hx rfl (hb hby at_159) rfl rfl k) ?_
    show Go p e below _ (T50.setTop (mkF m 160 #[.val (.int p0), .val (.int p1), .val (.int p2), .val (.int p3), .val (.int (3 : Int32)), .val (.int v3), .val (.int v3), .val (.int v4), .val (.int v5), .val (.int v6), .val (.int v7), .val (.int v8), .unset, .unset, .unset, .unset, .unset, .unset] [(.ref b46), (.ref b46)]))
    refine Go.st (fun _ k => XS.iconst X50.here hx rfl (hb hby at_160) k) ?_
    show Go p e below _ (T50.setTop (mkF m 161 #[.val (.int p0), .val (.int p1), .val (.int p2), .val (.int p3), .val (.int (3 : Int32)), .val (.int v3), .val (.int v3), .val (.int v4), .val (.int v5), .val (.int v6), .val (.int v7), .val (.int v8), .unset, .unset, .unset, .unset, .unset, .unset] [(.int (2 : Int32)), (.ref b46), (.ref b46)]))
    refine Go.st (fun _ k => XS.iload X50.here hx rfl (hb hby at_161) rfl k) ?_
    show Go p e below _ (T50.setTop (mkF m 163 #[.val (.int p0), .val (.int p1), .val (.int p2), .val (.int p3), .val (.int (3 : Int32)), .val (.int v3), .val (.int v3), .val (.int v4), .val (.int v5), .val (.int v6), .val (.int v7), .val (.int v8), .unset, .unset, .unset, .unset, .unset, .unset] [(.int v5), (.int (2 : Int32)), (.ref b46), (.ref b46)]))
    obtain ⟨cl51, Ar51, ck51, Sz51, Nn51, Hs51, Gs51⟩ := id V50
    have hin51 : ¬ ((2 : Int32) < 0 ∨ cl51.slots.size ≤ ((2 : Int32)).toNatClampNeg) := inb_of Sz51 ⟨by decide, by decide⟩
    obtain ⟨T52, h52, X52, e52, W52, st52⟩ := stI X50 hx hZ e50 Ar51 (j := (2 : Int32)) hin51 (g := (mkF m 163 #[.val (.int p0), .val (.int p1), .val (.int p2), .val (.int p3), .val (.int (3 : Int32)), .val (.int v3), .val (.int v3), .val (.int v4), .val (.int v5), .val (.int v6), .val (.int v7), .val (.int v8), .unset, .unset, .unset, .unset, .unset, .unset] [(.int v5), (.int (2 : Int32)), (.ref b46), (.ref b46)])) rfl rfl (hb hby at_163)
    have V52 : Arv Z h52 b46 k46 .int (6 : Int32) [(.int v3), (.int v4), (.int v5), (.int (0 : Int32)), (.int (0 : Int32)), (.int (0 : Int32))] (.int (0 : Int32)) := Arv.set Ar51 ck51 Sz51 Nn51 Hs51 Gs51 rfl W52 2 rfl (Nat.le_of_ble_eq_true rfl)
    have N52 := Fr.snoc X52 N50 gg46
    have Z52 : n0 ≤ h52.size := by rw [W52.size]; exact Z50
    refine Go.st (fun _ k => st52 _ k) ?_
    show Go p e below _ (T52.setTop (mkF m 164 #[.val (.int p0), .val (.int p1), .val (.int p2), .val (.int p3), .val (.int (3 : Int32)), .val (.int v3), .val (.int v3), .val (.int v4), .val (.int v5), .val (.int v6), .val (.int v7), .val (.int v8), .unset, .unset, .unset, .unset, .unset, .unset] [(.ref b46)]))
    refine Go.st (fun _ k => XS.dup X52.here hx rfl (hb hby at_164) rfl rfl k) ?_
    show Go p e below _ (T52.setTop (mkF m 165 #[.val (.int p0), .val (.int p1), .val (.int p2), .val (.int p3), .val (.int (3 : Int32)), .val (.int v3), .val (.int v3), .val (.int v4), .val (.int v5), .val (.int v6), .val (.int v7), .val (.int v8), .unset, .unset, .unset, .unset, .unset, .unset] [(.ref b46), (.ref b46)]))
    refine Go.st (fun _ k => XS.iconst X52.here hx rfl (hb hby at_165) k) ?_
    show Go p e below _ (T52.setTop (mkF m 166 #[.val (.int p0), .val (.int p1), .val (.int p2), .val (.int p3), .val (.int (3 : Int32)), .val (.int v3), .val (.int v3), .val (.int v4), .val (.int v5), .val (.int v6), .val (.int v7), .val (.int v8), .unset, .unset, .unset, .unset, .unset, .unset] [(.int (3 : Int32)), (.ref b46), (.ref b46)]))
    refine Go.st (fun _ k => XS.iload X52.here hx rfl (hb hby at_166) rfl k) ?_
    show Go p e below _ (T52.setTop (mkF m 168 #[.val (.int p0), .val (.int p1), .val (.int p2), .val (.int p3), .val (.int (3 : Int32)), .val (.int v3), .val (.int v3), .val (.int v4), .val (.int v5), .val (.int v6), .val (.int v7), .val (.int v8), .unset, .unset, .unset, .unset, .unset, .unset] [(.int v6), (.int (3 : Int32)), (.ref b46), (.ref b46)]))
    obtain ⟨cl53, Ar53, ck53, Sz53, Nn53, Hs53, Gs53⟩ := id V52
    have hin53 : ¬ ((3 : Int32) < 0 ∨ cl53.slots.size ≤ ((3 : Int32)).toNatClampNeg) := inb_of Sz53 ⟨by decide, by decide⟩
    obtain ⟨T54, h54, X54, e54, W54, st54⟩ := stI X52 hx hZ e52 Ar53 (j := (3 : Int32)) hin53 (g := (mkF m 168 #[.val (.int p0), .val (.int p1), .val (.int p2), .val (.int p3), .val (.int (3 : Int32)), .val (.int v3), .val (.int v3), .val (.int v4), .val (.int v5), .val (.int v6), .val (.int v7), .val (.int v8), .unset, .unset, .unset, .unset, .unset, .unset] [(.int v6), (.int (3 : Int32)), (.ref b46), (.ref b46)])) rfl rfl (hb hby at_168)
    have V54 : Arv Z h54 b46 k46 .int (6 : Int32) [(.int v3), (.int v4), (.int v5), (.int v6), (.int (0 : Int32)), (.int (0 : Int32))] (.int (0 : Int32)) := Arv.set Ar53 ck53 Sz53 Nn53 Hs53 Gs53 rfl W54 3 rfl (Nat.le_of_ble_eq_true rfl)
    have N54 := Fr.snoc X54 N52 gg46
    have Z54 : n0 ≤ h54.size := by rw [W54.size]; exact Z52
    refine Go.st (fun _ k => st54 _ k) ?_
    show Go p e below _ (T54.setTop (mkF m 169 #[.val (.int p0), .val (.int p1), .val (.int p2), .val (.int p3), .val (.int (3 : Int32)), .val (.int v3), .val (.int v3), .val (.int v4), .val (.int v5), .val (.int v6), .val (.int v7), .val (.int v8), .unset, .unset, .unset, .unset, .unset, .unset] [(.ref b46)]))
    refine Go.st (fun _ k => XS.dup X54.here hx rfl (hb hby at_169) rfl rfl k) ?_
    show Go p e below _ (T54.setTop (mkF m 170 #[.val (.int p0), .val (.int p1), .val (.int p2), .val (.int p3), .val (.int (3 : Int32)), .val (.int v3), .val (.int v3), .val (.int v4), .val (.int v5), .val (.int v6), .val (.int v7), .val (.int v8), .unset, .unset, .unset, .unset, .unset, .unset] [(.ref b46), (.ref b46)]))
    refine Go.st (fun _ k => XS.iconst X54.here hx rfl (hb hby at_170) k) ?_
    show Go p e below _ (T54.setTop (mkF m 171 #[.val (.int p0), .val (.int p1), .val (.int p2), .val (.int p3), .val (.int (3 : Int32)), .val (.int v3), .val (.int v3), .val (.int v4), .val (.int v5), .val (.int v6), .val (.int v7), .val (.int v8), .unset, .unset, .unset, .unset, .unset, .unset] [(.int (4 : Int32)), (.ref b46), (.ref b46)]))
    refine Go.st (fun _ k => XS.iload X54.here hx rfl (hb hby at_171) rfl k) ?_
    show Go p e below _ (T54.setTop (mkF m 173 #[.val (.int p0), .val (.int p1), .val (.int p2), .val (.int p3), .val (.int (3 : Int32)), .val (.int v3), .val (.int v3), .val (.int v4), .val (.int v5), .val (.int v6), .val (.int v7), .val (.int v8), .unset, .unset, .unset, .unset, .unset, .unset] [(.int v7), (.int (4 : Int32)), (.ref b46), (.ref b46)]))
    obtain ⟨cl55, Ar55, ck55, Sz55, Nn55, Hs55, Gs55⟩ := id V54
    have hin55 : ¬ ((4 : Int32) < 0 ∨ cl55.slots.size ≤ ((4 : Int32)).toNatClampNeg) := inb_of Sz55 ⟨by decide, by decide⟩
    obtain ⟨T56, h56, X56, e56, W56, st56⟩ := stI X54 hx hZ e54 Ar55 (j := (4 : Int32)) hin55 (g := (mkF m 173 #[.val (.int p0), .val (.int p1), .val (.int p2), .val (.int p3), .val (.int (3 : Int32)), .val (.int v3), .val (.int v3), .val (.int v4), .val (.int v5), .val (.int v6), .val (.int v7), .val (.int v8), .unset, .unset, .unset, .unset, .unset, .unset] [(.int v7), (.int (4 : Int32)), (.ref b46), (.ref b46)])) rfl rfl (hb hby at_173)
    have V56 : Arv Z h56 b46 k46 .int (6 : Int32) [(.int v3), (.int v4), (.int v5), (.int v6), (.int v7), (.int (0 : Int32))] (.int (0 : Int32)) := Arv.set Ar55 ck55 Sz55 Nn55 Hs55 Gs55 rfl W56 4 rfl (Nat.le_of_ble_eq_true rfl)
    have N56 := Fr.snoc X56 N54 gg46
    have Z56 : n0 ≤ h56.size := by rw [W56.size]; exact Z54
    refine Go.st (fun _ k => st56 _ k) ?_
    show Go p e below _ (T56.setTop (mkF m 174 #[.val (.int p0), .val (.int p1), .val (.int p2), .val (.int p3), .val (.int (3 : Int32)), .val (.int v3), .val (.int v3), .val (.int v4), .val (.int v5), .val (.int v6), .val (.int v7), .val (.int v8), .unset, .unset, .unset, .unset, .unset, .unset] [(.ref b46)]))
    refine Go.st (fun _ k => XS.dup X56.here hx rfl (hb hby at_174) rfl rfl k) ?_
    show Go p e below _ (T56.setTop (mkF m 175 #[.val (.int p0), .val (.int p1), .val (.int p2), .val (.int p3), .val (.int (3 : Int32)), .val (.int v3), .val (.int v3), .val (.int v4), .val (.int v5), .val (.int v6), .val (.int v7), .val (.int v8), .unset, .unset, .unset, .unset, .unset, .unset] [(.ref b46), (.ref b46)]))
    refine Go.st (fun _ k => XS.iconst X56.here hx rfl (hb hby at_175) k) ?_
    show Go p e below _ (T56.setTop (mkF m 176 #[.val (.int p0), .val (.int p1), .val (.int p2), .val (.int p3), .val (.int (3 : Int32)), .val (.int v3), .val (.int v3), .val (.int v4), .val (.int v5), .val (.int v6), .val (.int v7), .val (.int v8), .unset, .unset, .unset, .unset, .unset, .unset] [(.int (5 : Int32)), (.ref b46), (.ref b46)]))
    refine Go.st (fun _ k => XS.iload X56.here hx rfl (hb hby at_176) rfl k) ?_
    show Go p e below _ (T56.setTop (mkF m 178 #[.val (.int p0), .val (.int p1), .val (.int p2), .val (.int p3), .val (.int (3 : Int32)), .val (.int v3), .val (.int v3), .val (.int v4), .val (.int v5), .val (.int v6), .val (.int v7), .val (.int v8), .unset, .unset, .unset, .unset, .unset, .unset] [(.int v8), (.int (5 : Int32)), (.ref b46), (.ref b46)]))
    obtain ⟨cl57, Ar57, ck57, Sz57, Nn57, Hs57, Gs57⟩ := id V56
    have hin57 : ¬ ((5 : Int32) < 0 ∨ cl57.slots.size ≤ ((5 : Int32)).toNatClampNeg) := inb_of Sz57 ⟨by decide, by decide⟩
    obtain ⟨T58, h58, X58, e58, W58, st58⟩ := stI X56 hx hZ e56 Ar57 (j := (5 : Int32)) hin57 (g := (mkF m 178 #[.val (.int p0), .val (.int p1), .val (.int p2), .val (.int p3), .val (.int (3 : Int32)), .val (.int v3), .val (.int v3), .val (.int v4), .val (.int v5), .val (.int v6), .val (.int v7), .val (.int v8), .unset, .unset, .unset, .unset, .unset, .unset] [(.int v8), (.int (5 : Int32)), (.ref b46), (.ref b46)])) rfl rfl (hb hby at_178)
    have V58 : Arv Z h58 b46 k46 .int (6 : Int32) [(.int v3), (.int v4), (.int v5), (.int v6), (.int v7), (.int v8)] (.int (0 : Int32)) := Arv.set Ar57 ck57 Sz57 Nn57 Hs57 Gs57 rfl W58 5 rfl (Nat.le_of_ble_eq_true rfl)
    have N58 := Fr.snoc X58 N56 gg46
    have Z58 : n0 ≤ h58.size := by rw [W58.size]; exact Z56
    refine Go.st (fun _ k => st58 _ k) ?_
    show Go p e below _ (T58.setTop (mkF m 179 #[.val (.int p0), .val (.int p1), .val (.int p2), .val (.int p3), .val (.int (3 : Int32)), .val (.int v3), .val (.int v3), .val (.int v4), .val (.int v5), .val (.int v6), .val (.int v7), .val (.int v8), .unset, .unset, .unset, .unset, .unset, .unset] [(.ref b46)]))
    refine Go.st (fun _ k => XS.astore X58.here hx rfl (hb hby at_179) rfl rfl (l' := #[.val (.int p0), .val (.int p1), .val (.int p2), .val (.int p3), .val (.int (3 : Int32)), .val (.int v3), .val (.int v3), .val (.int v4), .val (.int v5), .val (.int v6), .val (.int v7), .val (.int v8), .val (.ref b46), .unset, .unset, .unset, .unset, .unset]) rfl k) ?_
    show Go p e below _ (T58.setTop (mkF m 181 #[.val (.int p0), .val (.int p1), .val (.int p2), .val (.int p3), .val (.int (3 : Int32)), .val (.int v3), .val (.int v3), .val (.int v4), .val (.int v5), .val (.int v6), .val (.int v7), .val (.int v8), .val (.ref b46), .unset, .unset, .unset, .unset, .unset] []))
    have key : ∀ (r : Int32), Go p e below (F_rm0 Z p0 p1 p2 p3 h0 n0 s) (T58.setTop (mkF m 204 #[.val (.int p0), .val (.int p1), .val (.int p2), .val (.int p3), .val (.int (3 : Int32)), .val (.int v3), .val (.int v3), .val (.int v4), .val (.int v5), .val (.int v6), .val (.int v7), .val (.int v8), .val (.ref b46), .val (.int r), .unset, .unset, .unset, .unset] [])) := by
      intro r
      show Go p e below _ (T58.setTop (mkF m 204 #[.val (.int p0), .val (.int p1), .val (.int p2), .val (.int p3), .val (.int (3 : Int32)), .val (.int v3), .val (.int v3), .val (.int v4), .val (.int v5), .val (.int v6), .val (.int v7), .val (.int v8), .val (.ref b46), .val (.int r), .unset, .unset, .unset, .unset] []))
      refine Go.st (fun _ k => XS.iload X58.here hx rfl (hb hby at_204) rfl k) ?_
      show Go p e below _ (T58.setTop (mkF m 206 #[.val (.int p0), .val (.int p1), .val (.int p2), .val (.int p3), .val (.int (3 : Int32)), .val (.int v3), .val (.int v3), .val (.int v4), .val (.int v5), .val (.int v6), .val (.int v7), .val (.int v8), .val (.ref b46), .val (.int r), .unset, .unset, .unset, .unset] [(.int (3 : Int32))]))
      refine Go.st (fun _ k => XS.iconst X58.here hx rfl (hb hby at_206) k) ?_
      show Go p e below _ (T58.setTop (mkF m 207 #[.val (.int p0), .val (.int p1), .val (.int p2), .val (.int p3), .val (.int (3 : Int32)), .val (.int v3), .val (.int v3), .val (.int v4), .val (.int v5), .val (.int v6), .val (.int v7), .val (.int v8), .val (.ref b46), .val (.int r), .unset, .unset, .unset, .unset] [(.int (1 : Int32)), (.int (3 : Int32))]))
      refine Go.st (fun _ k => XS.icmpNo X58.here hx rfl (hb hby at_207) rfl (flt (by decide : ¬ ((3 : Int32) < (1 : Int32)))).1 k) ?_
      show Go p e below _ (T58.setTop (mkF m 210 #[.val (.int p0), .val (.int p1), .val (.int p2), .val (.int p3), .val (.int (3 : Int32)), .val (.int v3), .val (.int v3), .val (.int v4), .val (.int v5), .val (.int v6), .val (.int v7), .val (.int v8), .val (.ref b46), .val (.int r), .unset, .unset, .unset, .unset] []))
      refine Go.st (fun _ k => XS.iload X58.here hx rfl (hb hby at_210) rfl k) ?_
      show Go p e below _ (T58.setTop (mkF m 212 #[.val (.int p0), .val (.int p1), .val (.int p2), .val (.int p3), .val (.int (3 : Int32)), .val (.int v3), .val (.int v3), .val (.int v4), .val (.int v5), .val (.int v6), .val (.int v7), .val (.int v8), .val (.ref b46), .val (.int r), .unset, .unset, .unset, .unset] [(.int v3)]))
      refine Go.st (fun _ k => XS.iload X58.here hx rfl (hb hby at_212) rfl k) ?_
      show Go p e below _ (T58.setTop (mkF m 214 #[.val (.int p0), .val (.int p1), .val (.int p2), .val (.int p3), .val (.int (3 : Int32)), .val (.int v3), .val (.int v3), .val (.int v4), .val (.int v5), .val (.int v6), .val (.int v7), .val (.int v8), .val (.ref b46), .val (.int r), .unset, .unset, .unset, .unset] [(.int r), (.int v3)]))
      by_cases hc59 : r < v3
      · show Go p e below _ (T58.setTop (mkF m 214 #[.val (.int p0), .val (.int p1), .val (.int p2), .val (.int p3), .val (.int (3 : Int32)), .val (.int v3), .val (.int v3), .val (.int v4), .val (.int v5), .val (.int v6), .val (.int v7), .val (.int v8), .val (.ref b46), .val (.int r), .unset, .unset, .unset, .unset] [(.int r), (.int v3)]))
        refine Go.st (fun _ k => XS.icmpYes X58.here hx rfl (pc0 := 214) (pc' := 228) rfl (hb hby at_214) rfl (tlt hc59).2.2.1 (by decide) (by decide) k) ?_
        show Go p e below _ (T58.setTop (mkF m 228 #[.val (.int p0), .val (.int p1), .val (.int p2), .val (.int p3), .val (.int (3 : Int32)), .val (.int v3), .val (.int v3), .val (.int v4), .val (.int v5), .val (.int v6), .val (.int v7), .val (.int v8), .val (.ref b46), .val (.int r), .unset, .unset, .unset, .unset] []))
        refine Go.st (fun _ k => XS.iconst X58.here hx rfl (hb hby at_228) k) ?_
        show Go p e below _ (T58.setTop (mkF m 229 #[.val (.int p0), .val (.int p1), .val (.int p2), .val (.int p3), .val (.int (3 : Int32)), .val (.int v3), .val (.int v3), .val (.int v4), .val (.int v5), .val (.int v6), .val (.int v7), .val (.int v8), .val (.ref b46), .val (.int r), .unset, .unset, .unset, .unset] [(.int (0 : Int32))]))
        refine Go.st (fun _ k => XS.istore X58.here hx rfl (hb hby at_229) rfl (l' := #[.val (.int p0), .val (.int p1), .val (.int p2), .val (.int p3), .val (.int (3 : Int32)), .val (.int v3), .val (.int v3), .val (.int v4), .val (.int v5), .val (.int v6), .val (.int v7), .val (.int v8), .val (.ref b46), .val (.int r), .val (.int (0 : Int32)), .unset, .unset, .unset]) rfl k) ?_
        show Go p e below _ (T58.setTop (mkF m 231 #[.val (.int p0), .val (.int p1), .val (.int p2), .val (.int p3), .val (.int (3 : Int32)), .val (.int v3), .val (.int v3), .val (.int v4), .val (.int v5), .val (.int v6), .val (.int v7), .val (.int v8), .val (.ref b46), .val (.int r), .val (.int (0 : Int32)), .unset, .unset, .unset] []))
        refine Go.st (fun _ k => XS.iload X58.here hx rfl (hb hby at_231) rfl k) ?_
        show Go p e below _ (T58.setTop (mkF m 233 #[.val (.int p0), .val (.int p1), .val (.int p2), .val (.int p3), .val (.int (3 : Int32)), .val (.int v3), .val (.int v3), .val (.int v4), .val (.int v5), .val (.int v6), .val (.int v7), .val (.int v8), .val (.ref b46), .val (.int r), .val (.int (0 : Int32)), .unset, .unset, .unset] [(.int (3 : Int32))]))
        refine Go.st (fun _ k => XS.iconst X58.here hx rfl (hb hby at_233) k) ?_
        show Go p e below _ (T58.setTop (mkF m 234 #[.val (.int p0), .val (.int p1), .val (.int p2), .val (.int p3), .val (.int (3 : Int32)), .val (.int v3), .val (.int v3), .val (.int v4), .val (.int v5), .val (.int v6), .val (.int v7), .val (.int v8), .val (.ref b46), .val (.int r), .val (.int (0 : Int32)), .unset, .unset, .unset] [(.int (2 : Int32)), (.int (3 : Int32))]))
        refine Go.st (fun _ k => XS.icmpNo X58.here hx rfl (hb hby at_234) rfl (flt (by decide : ¬ ((3 : Int32) < (2 : Int32)))).1 k) ?_
        show Go p e below _ (T58.setTop (mkF m 237 #[.val (.int p0), .val (.int p1), .val (.int p2), .val (.int p3), .val (.int (3 : Int32)), .val (.int v3), .val (.int v3), .val (.int v4), .val (.int v5), .val (.int v6), .val (.int v7), .val (.int v8), .val (.ref b46), .val (.int r), .val (.int (0 : Int32)), .unset, .unset, .unset] []))
        refine Go.st (fun _ k => XS.iload X58.here hx rfl (hb hby at_237) rfl k) ?_
        show Go p e below _ (T58.setTop (mkF m 239 #[.val (.int p0), .val (.int p1), .val (.int p2), .val (.int p3), .val (.int (3 : Int32)), .val (.int v3), .val (.int v3), .val (.int v4), .val (.int v5), .val (.int v6), .val (.int v7), .val (.int v8), .val (.ref b46), .val (.int r), .val (.int (0 : Int32)), .unset, .unset, .unset] [(.int v5)]))
        refine Go.st (fun _ k => XS.iload X58.here hx rfl (hb hby at_239) rfl k) ?_
        show Go p e below _ (T58.setTop (mkF m 241 #[.val (.int p0), .val (.int p1), .val (.int p2), .val (.int p3), .val (.int (3 : Int32)), .val (.int v3), .val (.int v3), .val (.int v4), .val (.int v5), .val (.int v6), .val (.int v7), .val (.int v8), .val (.ref b46), .val (.int r), .val (.int (0 : Int32)), .unset, .unset, .unset] [(.int r), (.int v5)]))
        refine Go.st (fun _ k => XS.icmpYes X58.here hx rfl (pc0 := 241) (pc' := 255) rfl (hb hby at_241) rfl (tlt (Int32.lt_iff_toInt_lt.mpr (by have zhc59 : r.toInt < v3.toInt := Int32.lt_iff_toInt_lt.mp hc59; omega))).2.2.1 (by decide) (by decide) k) ?_
        show Go p e below _ (T58.setTop (mkF m 255 #[.val (.int p0), .val (.int p1), .val (.int p2), .val (.int p3), .val (.int (3 : Int32)), .val (.int v3), .val (.int v3), .val (.int v4), .val (.int v5), .val (.int v6), .val (.int v7), .val (.int v8), .val (.ref b46), .val (.int r), .val (.int (0 : Int32)), .unset, .unset, .unset] []))
        refine Go.st (fun _ k => XS.iconst X58.here hx rfl (hb hby at_255) k) ?_
        show Go p e below _ (T58.setTop (mkF m 256 #[.val (.int p0), .val (.int p1), .val (.int p2), .val (.int p3), .val (.int (3 : Int32)), .val (.int v3), .val (.int v3), .val (.int v4), .val (.int v5), .val (.int v6), .val (.int v7), .val (.int v8), .val (.ref b46), .val (.int r), .val (.int (0 : Int32)), .unset, .unset, .unset] [(.int (0 : Int32))]))
        refine Go.st (fun _ k => XS.istore X58.here hx rfl (hb hby at_256) rfl (l' := #[.val (.int p0), .val (.int p1), .val (.int p2), .val (.int p3), .val (.int (3 : Int32)), .val (.int v3), .val (.int v3), .val (.int v4), .val (.int v5), .val (.int v6), .val (.int v7), .val (.int v8), .val (.ref b46), .val (.int r), .val (.int (0 : Int32)), .val (.int (0 : Int32)), .unset, .unset]) rfl k) ?_
        show Go p e below _ (T58.setTop (mkF m 258 #[.val (.int p0), .val (.int p1), .val (.int p2), .val (.int p3), .val (.int (3 : Int32)), .val (.int v3), .val (.int v3), .val (.int v4), .val (.int v5), .val (.int v6), .val (.int v7), .val (.int v8), .val (.ref b46), .val (.int r), .val (.int (0 : Int32)), .val (.int (0 : Int32)), .unset, .unset] []))
        refine Go.st (fun _ k => XS.iload X58.here hx rfl (hb hby at_258) rfl k) ?_
        show Go p e below _ (T58.setTop (mkF m 260 #[.val (.int p0), .val (.int p1), .val (.int p2), .val (.int p3), .val (.int (3 : Int32)), .val (.int v3), .val (.int v3), .val (.int v4), .val (.int v5), .val (.int v6), .val (.int v7), .val (.int v8), .val (.ref b46), .val (.int r), .val (.int (0 : Int32)), .val (.int (0 : Int32)), .unset, .unset] [(.int (3 : Int32))]))
        refine Go.st (fun _ k => XS.iconst X58.here hx rfl (hb hby at_260) k) ?_
        show Go p e below _ (T58.setTop (mkF m 261 #[.val (.int p0), .val (.int p1), .val (.int p2), .val (.int p3), .val (.int (3 : Int32)), .val (.int v3), .val (.int v3), .val (.int v4), .val (.int v5), .val (.int v6), .val (.int v7), .val (.int v8), .val (.ref b46), .val (.int r), .val (.int (0 : Int32)), .val (.int (0 : Int32)), .unset, .unset] [(.int (3 : Int32)), (.int (3 : Int32))]))
        refine Go.st (fun _ k => XS.icmpNo X58.here hx rfl (hb hby at_261) rfl (flt (by decide : ¬ ((3 : Int32) < (3 : Int32)))).1 k) ?_
        show Go p e below _ (T58.setTop (mkF m 264 #[.val (.int p0), .val (.int p1), .val (.int p2), .val (.int p3), .val (.int (3 : Int32)), .val (.int v3), .val (.int v3), .val (.int v4), .val (.int v5), .val (.int v6), .val (.int v7), .val (.int v8), .val (.ref b46), .val (.int r), .val (.int (0 : Int32)), .val (.int (0 : Int32)), .unset, .unset] []))
        refine Go.st (fun _ k => XS.iload X58.here hx rfl (hb hby at_264) rfl k) ?_
        show Go p e below _ (T58.setTop (mkF m 266 #[.val (.int p0), .val (.int p1), .val (.int p2), .val (.int p3), .val (.int (3 : Int32)), .val (.int v3), .val (.int v3), .val (.int v4), .val (.int v5), .val (.int v6), .val (.int v7), .val (.int v8), .val (.ref b46), .val (.int r), .val (.int (0 : Int32)), .val (.int (0 : Int32)), .unset, .unset] [(.int v7)]))
        refine Go.st (fun _ k => XS.iload X58.here hx rfl (hb hby at_266) rfl k) ?_
        show Go p e below _ (T58.setTop (mkF m 268 #[.val (.int p0), .val (.int p1), .val (.int p2), .val (.int p3), .val (.int (3 : Int32)), .val (.int v3), .val (.int v3), .val (.int v4), .val (.int v5), .val (.int v6), .val (.int v7), .val (.int v8), .val (.ref b46), .val (.int r), .val (.int (0 : Int32)), .val (.int (0 : Int32)), .unset, .unset] [(.int r), (.int v7)]))
        refine Go.st (fun _ k => XS.icmpYes X58.here hx rfl (pc0 := 268) (pc' := 282) rfl (hb hby at_268) rfl (tlt (Int32.lt_iff_toInt_lt.mpr (by have zhc59 : r.toInt < v3.toInt := Int32.lt_iff_toInt_lt.mp hc59; omega))).2.2.1 (by decide) (by decide) k) ?_
        show Go p e below _ (T58.setTop (mkF m 282 #[.val (.int p0), .val (.int p1), .val (.int p2), .val (.int p3), .val (.int (3 : Int32)), .val (.int v3), .val (.int v3), .val (.int v4), .val (.int v5), .val (.int v6), .val (.int v7), .val (.int v8), .val (.ref b46), .val (.int r), .val (.int (0 : Int32)), .val (.int (0 : Int32)), .unset, .unset] []))
        refine Go.st (fun _ k => XS.iconst X58.here hx rfl (hb hby at_282) k) ?_
        show Go p e below _ (T58.setTop (mkF m 283 #[.val (.int p0), .val (.int p1), .val (.int p2), .val (.int p3), .val (.int (3 : Int32)), .val (.int v3), .val (.int v3), .val (.int v4), .val (.int v5), .val (.int v6), .val (.int v7), .val (.int v8), .val (.ref b46), .val (.int r), .val (.int (0 : Int32)), .val (.int (0 : Int32)), .unset, .unset] [(.int (0 : Int32))]))
        refine Go.st (fun _ k => XS.istore X58.here hx rfl (hb hby at_283) rfl (l' := #[.val (.int p0), .val (.int p1), .val (.int p2), .val (.int p3), .val (.int (3 : Int32)), .val (.int v3), .val (.int v3), .val (.int v4), .val (.int v5), .val (.int v6), .val (.int v7), .val (.int v8), .val (.ref b46), .val (.int r), .val (.int (0 : Int32)), .val (.int (0 : Int32)), .val (.int (0 : Int32)), .unset]) rfl k) ?_
        show Go p e below _ (T58.setTop (mkF m 285 #[.val (.int p0), .val (.int p1), .val (.int p2), .val (.int p3), .val (.int (3 : Int32)), .val (.int v3), .val (.int v3), .val (.int v4), .val (.int v5), .val (.int v6), .val (.int v7), .val (.int v8), .val (.ref b46), .val (.int r), .val (.int (0 : Int32)), .val (.int (0 : Int32)), .val (.int (0 : Int32)), .unset] []))
        refine Go.st (fun _ k => XS.iload X58.here hx rfl (hb hby at_285) rfl k) ?_
        show Go p e below _ (T58.setTop (mkF m 287 #[.val (.int p0), .val (.int p1), .val (.int p2), .val (.int p3), .val (.int (3 : Int32)), .val (.int v3), .val (.int v3), .val (.int v4), .val (.int v5), .val (.int v6), .val (.int v7), .val (.int v8), .val (.ref b46), .val (.int r), .val (.int (0 : Int32)), .val (.int (0 : Int32)), .val (.int (0 : Int32)), .unset] [(.int (0 : Int32))]))
        refine Go.st (fun _ k => XS.ifNo X58.here hx rfl (hb hby at_287) rfl ((if0 _ _).trans (teq (by decide : ((0 : Int32) = (0 : Int32)))).2) k) ?_
        show Go p e below _ (T58.setTop (mkF m 290 #[.val (.int p0), .val (.int p1), .val (.int p2), .val (.int p3), .val (.int (3 : Int32)), .val (.int v3), .val (.int v3), .val (.int v4), .val (.int v5), .val (.int v6), .val (.int v7), .val (.int v8), .val (.ref b46), .val (.int r), .val (.int (0 : Int32)), .val (.int (0 : Int32)), .val (.int (0 : Int32)), .unset] []))
        refine Go.st (fun _ k => XS.iload X58.here hx rfl (hb hby at_290) rfl k) ?_
        show Go p e below _ (T58.setTop (mkF m 292 #[.val (.int p0), .val (.int p1), .val (.int p2), .val (.int p3), .val (.int (3 : Int32)), .val (.int v3), .val (.int v3), .val (.int v4), .val (.int v5), .val (.int v6), .val (.int v7), .val (.int v8), .val (.ref b46), .val (.int r), .val (.int (0 : Int32)), .val (.int (0 : Int32)), .val (.int (0 : Int32)), .unset] [(.int (0 : Int32))]))
        refine Go.st (fun _ k => XS.ifNo X58.here hx rfl (hb hby at_292) rfl ((if0 _ _).trans (teq (by decide : ((0 : Int32) = (0 : Int32)))).2) k) ?_
        show Go p e below _ (T58.setTop (mkF m 295 #[.val (.int p0), .val (.int p1), .val (.int p2), .val (.int p3), .val (.int (3 : Int32)), .val (.int v3), .val (.int v3), .val (.int v4), .val (.int v5), .val (.int v6), .val (.int v7), .val (.int v8), .val (.ref b46), .val (.int r), .val (.int (0 : Int32)), .val (.int (0 : Int32)), .val (.int (0 : Int32)), .unset] []))
        refine Go.st (fun _ k => XS.iload X58.here hx rfl (hb hby at_295) rfl k) ?_
        show Go p e below _ (T58.setTop (mkF m 297 #[.val (.int p0), .val (.int p1), .val (.int p2), .val (.int p3), .val (.int (3 : Int32)), .val (.int v3), .val (.int v3), .val (.int v4), .val (.int v5), .val (.int v6), .val (.int v7), .val (.int v8), .val (.ref b46), .val (.int r), .val (.int (0 : Int32)), .val (.int (0 : Int32)), .val (.int (0 : Int32)), .unset] [(.int (0 : Int32))]))
        refine Go.st (fun _ k => XS.ifYes X58.here hx rfl (pc0 := 297) (pc' := 304) rfl (hb hby at_297) rfl ((if0 _ _).trans (teq (by decide : ((0 : Int32) = (0 : Int32)))).1) (by decide) (by decide) k) ?_
        show Go p e below _ (T58.setTop (mkF m 304 #[.val (.int p0), .val (.int p1), .val (.int p2), .val (.int p3), .val (.int (3 : Int32)), .val (.int v3), .val (.int v3), .val (.int v4), .val (.int v5), .val (.int v6), .val (.int v7), .val (.int v8), .val (.ref b46), .val (.int r), .val (.int (0 : Int32)), .val (.int (0 : Int32)), .val (.int (0 : Int32)), .unset] []))
        refine Go.st (fun _ k => XS.iconst X58.here hx rfl (hb hby at_304) k) ?_
        show Go p e below _ (T58.setTop (mkF m 305 #[.val (.int p0), .val (.int p1), .val (.int p2), .val (.int p3), .val (.int (3 : Int32)), .val (.int v3), .val (.int v3), .val (.int v4), .val (.int v5), .val (.int v6), .val (.int v7), .val (.int v8), .val (.ref b46), .val (.int r), .val (.int (0 : Int32)), .val (.int (0 : Int32)), .val (.int (0 : Int32)), .unset] [(.int (0 : Int32))]))
        refine Go.st (fun _ k => XS.istore X58.here hx rfl (hb hby at_305) rfl (l' := #[.val (.int p0), .val (.int p1), .val (.int p2), .val (.int p3), .val (.int (3 : Int32)), .val (.int v3), .val (.int v3), .val (.int v4), .val (.int v5), .val (.int v6), .val (.int v7), .val (.int v8), .val (.ref b46), .val (.int r), .val (.int (0 : Int32)), .val (.int (0 : Int32)), .val (.int (0 : Int32)), .val (.int (0 : Int32))]) rfl k) ?_
        show Go p e below _ (T58.setTop (mkF m 307 #[.val (.int p0), .val (.int p1), .val (.int p2), .val (.int p3), .val (.int (3 : Int32)), .val (.int v3), .val (.int v3), .val (.int v4), .val (.int v5), .val (.int v6), .val (.int v7), .val (.int v8), .val (.ref b46), .val (.int r), .val (.int (0 : Int32)), .val (.int (0 : Int32)), .val (.int (0 : Int32)), .val (.int (0 : Int32))] []))
        refine Go.st (fun _ k => XS.aload X58.here hx rfl (hb hby at_307) rfl rfl k) ?_
        show Go p e below _ (T58.setTop (mkF m 309 #[.val (.int p0), .val (.int p1), .val (.int p2), .val (.int p3), .val (.int (3 : Int32)), .val (.int v3), .val (.int v3), .val (.int v4), .val (.int v5), .val (.int v6), .val (.int v7), .val (.int v8), .val (.ref b46), .val (.int r), .val (.int (0 : Int32)), .val (.int (0 : Int32)), .val (.int (0 : Int32)), .val (.int (0 : Int32))] [(.ref b46)]))
        refine Go.st (fun _ k => XS.iload X58.here hx rfl (hb hby at_309) rfl k) ?_
        show Go p e below _ (T58.setTop (mkF m 311 #[.val (.int p0), .val (.int p1), .val (.int p2), .val (.int p3), .val (.int (3 : Int32)), .val (.int v3), .val (.int v3), .val (.int v4), .val (.int v5), .val (.int v6), .val (.int v7), .val (.int v8), .val (.ref b46), .val (.int r), .val (.int (0 : Int32)), .val (.int (0 : Int32)), .val (.int (0 : Int32)), .val (.int (0 : Int32))] [(.int r), (.ref b46)]))
        obtain ⟨_, _, ⟨T60, L60, k60, n60⟩, -, X60, ⟨Lc60, hQ60, l60, y60, z60⟩, st60⟩ := Jvm.LawKit.callS X58 hx (y := (⟨"com/example/weir/weir/route/ValueRegions", "contains", "([II)Z"⟩ : MethodName)) hown (mvT hZ (hw _ (List.mem_of_getElem? (i := 6) rfl))) (mvT hZ (hw _ (List.mem_of_getElem? (i := 7) rfl))) (mvT hZ (hw _ (List.mem_of_getElem? (i := 8) rfl))) (mvT hZ (hw _ (List.mem_of_getElem? (i := 9) rfl))) (by decide) (backOf (W := 0) (rmC6 l Z aZ hw [] b46 r k46 v3 v4 v5 v6 v7 v8 h58 n0 V58) hZ (hw _ (List.mem_of_getElem? (i := 9) rfl)) (hw _ (List.mem_of_getElem? (i := 8) rfl)) (by decide) (by decide)) (g := (mkF m 311 #[.val (.int p0), .val (.int p1), .val (.int p2), .val (.int p3), .val (.int (3 : Int32)), .val (.int v3), .val (.int v3), .val (.int v4), .val (.int v5), .val (.int v6), .val (.int v7), .val (.int v8), .val (.ref b46), .val (.int r), .val (.int (0 : Int32)), .val (.int (0 : Int32)), .val (.int (0 : Int32)), .val (.int (0 : Int32))] [(.int r), (.ref b46)])) rfl (by rw [hml]; rfl) (argsL := [(.ref b46), (.int r)]) (rest := []) (lenOf pd93e6ecdc rfl) rfl (by show 2 * 0 + _ ≤ _; exact Nat.le_of_eq rfl) (hb hby at_311) (fun _ _ => ⟨rfl, e58, (by decide : 1 + 0 ≤ _), (by decide : 6 + 0 ≤ _)⟩)
        dsimp only [Pt.U, Pt.locs, Pt.cells, Pt.slots] at X60 l60 y60 z60 st60 hQ60
        subst l60 y60 z60
        obtain ⟨rfl, N60q, e60⟩ := hQ60
        have N60 := Fr.app N58 N60q
        refine Go.st (fun _ k => st60 _ k) ?_
        show Go p e below _ (T60.setTop (mkF m 314 #[.val (.int p0), .val (.int p1), .val (.int p2), .val (.int p3), .val (.int (3 : Int32)), .val (.int v3), .val (.int v3), .val (.int v4), .val (.int v5), .val (.int v6), .val (.int v7), .val (.int v8), .val (.ref b46), .val (.int r), .val (.int (0 : Int32)), .val (.int (0 : Int32)), .val (.int (0 : Int32)), .val (.int (0 : Int32))] [(.int (fC6 r v3 v4 v5 v6 v7 v8))]))
        refine Go.st (fun _ k => XS.iload X60.here hx rfl (hb hby at_314) rfl k) ?_
        show Go p e below _ (T60.setTop (mkF m 316 #[.val (.int p0), .val (.int p1), .val (.int p2), .val (.int p3), .val (.int (3 : Int32)), .val (.int v3), .val (.int v3), .val (.int v4), .val (.int v5), .val (.int v6), .val (.int v7), .val (.int v8), .val (.ref b46), .val (.int r), .val (.int (0 : Int32)), .val (.int (0 : Int32)), .val (.int (0 : Int32)), .val (.int (0 : Int32))] [(.int (0 : Int32)), (.int (fC6 r v3 v4 v5 v6 v7 v8))]))
        refine Go.st (fun _ k => XS.icmpNo X60.here hx rfl (hb hby at_316) rfl (teq (by unfold fC6; rw [if_pos hc59])).2 k) ?_
        show Go p e below _ (T60.setTop (mkF m 319 #[.val (.int p0), .val (.int p1), .val (.int p2), .val (.int p3), .val (.int (3 : Int32)), .val (.int v3), .val (.int v3), .val (.int v4), .val (.int v5), .val (.int v6), .val (.int v7), .val (.int v8), .val (.ref b46), .val (.int r), .val (.int (0 : Int32)), .val (.int (0 : Int32)), .val (.int (0 : Int32)), .val (.int (0 : Int32))] []))
        refine Go.st (fun _ k => XS.iconst X60.here hx rfl (hb hby at_319) k) ?_
        show Go p e below _ (T60.setTop (mkF m 320 #[.val (.int p0), .val (.int p1), .val (.int p2), .val (.int p3), .val (.int (3 : Int32)), .val (.int v3), .val (.int v3), .val (.int v4), .val (.int v5), .val (.int v6), .val (.int v7), .val (.int v8), .val (.ref b46), .val (.int r), .val (.int (0 : Int32)), .val (.int (0 : Int32)), .val (.int (0 : Int32)), .val (.int (0 : Int32))] [(.int (1 : Int32))]))
        refine Go.st (fun _ k => XS.goto X60.here hx rfl (pc0 := 320) (pc' := 324) rfl (hb hby at_320) (by decide) (by decide) k) ?_
        show Go p e below _ (T60.setTop (mkF m 324 #[.val (.int p0), .val (.int p1), .val (.int p2), .val (.int p3), .val (.int (3 : Int32)), .val (.int v3), .val (.int v3), .val (.int v4), .val (.int v5), .val (.int v6), .val (.int v7), .val (.int v8), .val (.ref b46), .val (.int r), .val (.int (0 : Int32)), .val (.int (0 : Int32)), .val (.int (0 : Int32)), .val (.int (0 : Int32))] [(.int (1 : Int32))]))
        obtain ⟨fs, hr, hrun, hended, hW, hsame⟩ := X60.leave (v := some (.int (1 : Int32))) (fun h => by rw [Bd.returns] at h; cases h)
        refine ⟨_, _, retN X60 hx (t := .boolean) Bd.returns (by simp) (hb hby at_324) hr, hrun, hended, _, _, rfl, ?_, ⟨_, rfl⟩, hW, hsame.mono (by decide) (by decide)⟩
        show Q_rm0 Z p0 p1 p2 p3 h0 n0 _ T60.heap _
        rw [e60]
        exact ⟨rfl, N60⟩
      · show Go p e below _ (T58.setTop (mkF m 214 #[.val (.int p0), .val (.int p1), .val (.int p2), .val (.int p3), .val (.int (3 : Int32)), .val (.int v3), .val (.int v3), .val (.int v4), .val (.int v5), .val (.int v6), .val (.int v7), .val (.int v8), .val (.ref b46), .val (.int r), .unset, .unset, .unset, .unset] [(.int r), (.int v3)]))
        refine Go.st (fun _ k => XS.icmpNo X58.here hx rfl (hb hby at_214) rfl (flt hc59).2.2.1 k) ?_
        show Go p e below _ (T58.setTop (mkF m 217 #[.val (.int p0), .val (.int p1), .val (.int p2), .val (.int p3), .val (.int (3 : Int32)), .val (.int v3), .val (.int v3), .val (.int v4), .val (.int v5), .val (.int v6), .val (.int v7), .val (.int v8), .val (.ref b46), .val (.int r), .unset, .unset, .unset, .unset] []))
        refine Go.st (fun _ k => XS.iload X58.here hx rfl (hb hby at_217) rfl k) ?_
        show Go p e below _ (T58.setTop (mkF m 219 #[.val (.int p0), .val (.int p1), .val (.int p2), .val (.int p3), .val (.int (3 : Int32)), .val (.int v3), .val (.int v3), .val (.int v4), .val (.int v5), .val (.int v6), .val (.int v7), .val (.int v8), .val (.ref b46), .val (.int r), .unset, .unset, .unset, .unset] [(.int r)]))
        refine Go.st (fun _ k => XS.iload X58.here hx rfl (hb hby at_219) rfl k) ?_
        show Go p e below _ (T58.setTop (mkF m 221 #[.val (.int p0), .val (.int p1), .val (.int p2), .val (.int p3), .val (.int (3 : Int32)), .val (.int v3), .val (.int v3), .val (.int v4), .val (.int v5), .val (.int v6), .val (.int v7), .val (.int v8), .val (.ref b46), .val (.int r), .unset, .unset, .unset, .unset] [(.int v4), (.int r)]))
        by_cases hc61 : v4 < r
        · show Go p e below _ (T58.setTop (mkF m 221 #[.val (.int p0), .val (.int p1), .val (.int p2), .val (.int p3), .val (.int (3 : Int32)), .val (.int v3), .val (.int v3), .val (.int v4), .val (.int v5), .val (.int v6), .val (.int v7), .val (.int v8), .val (.ref b46), .val (.int r), .unset, .unset, .unset, .unset] [(.int v4), (.int r)]))
          refine Go.st (fun _ k => XS.icmpYes X58.here hx rfl (pc0 := 221) (pc' := 228) rfl (hb hby at_221) rfl (tlt hc61).2.2.1 (by decide) (by decide) k) ?_
          show Go p e below _ (T58.setTop (mkF m 228 #[.val (.int p0), .val (.int p1), .val (.int p2), .val (.int p3), .val (.int (3 : Int32)), .val (.int v3), .val (.int v3), .val (.int v4), .val (.int v5), .val (.int v6), .val (.int v7), .val (.int v8), .val (.ref b46), .val (.int r), .unset, .unset, .unset, .unset] []))
          refine Go.st (fun _ k => XS.iconst X58.here hx rfl (hb hby at_228) k) ?_
          show Go p e below _ (T58.setTop (mkF m 229 #[.val (.int p0), .val (.int p1), .val (.int p2), .val (.int p3), .val (.int (3 : Int32)), .val (.int v3), .val (.int v3), .val (.int v4), .val (.int v5), .val (.int v6), .val (.int v7), .val (.int v8), .val (.ref b46), .val (.int r), .unset, .unset, .unset, .unset] [(.int (0 : Int32))]))
          refine Go.st (fun _ k => XS.istore X58.here hx rfl (hb hby at_229) rfl (l' := #[.val (.int p0), .val (.int p1), .val (.int p2), .val (.int p3), .val (.int (3 : Int32)), .val (.int v3), .val (.int v3), .val (.int v4), .val (.int v5), .val (.int v6), .val (.int v7), .val (.int v8), .val (.ref b46), .val (.int r), .val (.int (0 : Int32)), .unset, .unset, .unset]) rfl k) ?_
          show Go p e below _ (T58.setTop (mkF m 231 #[.val (.int p0), .val (.int p1), .val (.int p2), .val (.int p3), .val (.int (3 : Int32)), .val (.int v3), .val (.int v3), .val (.int v4), .val (.int v5), .val (.int v6), .val (.int v7), .val (.int v8), .val (.ref b46), .val (.int r), .val (.int (0 : Int32)), .unset, .unset, .unset] []))
          refine Go.st (fun _ k => XS.iload X58.here hx rfl (hb hby at_231) rfl k) ?_
          show Go p e below _ (T58.setTop (mkF m 233 #[.val (.int p0), .val (.int p1), .val (.int p2), .val (.int p3), .val (.int (3 : Int32)), .val (.int v3), .val (.int v3), .val (.int v4), .val (.int v5), .val (.int v6), .val (.int v7), .val (.int v8), .val (.ref b46), .val (.int r), .val (.int (0 : Int32)), .unset, .unset, .unset] [(.int (3 : Int32))]))
          refine Go.st (fun _ k => XS.iconst X58.here hx rfl (hb hby at_233) k) ?_
          show Go p e below _ (T58.setTop (mkF m 234 #[.val (.int p0), .val (.int p1), .val (.int p2), .val (.int p3), .val (.int (3 : Int32)), .val (.int v3), .val (.int v3), .val (.int v4), .val (.int v5), .val (.int v6), .val (.int v7), .val (.int v8), .val (.ref b46), .val (.int r), .val (.int (0 : Int32)), .unset, .unset, .unset] [(.int (2 : Int32)), (.int (3 : Int32))]))
          refine Go.st (fun _ k => XS.icmpNo X58.here hx rfl (hb hby at_234) rfl (flt (by decide : ¬ ((3 : Int32) < (2 : Int32)))).1 k) ?_
          show Go p e below _ (T58.setTop (mkF m 237 #[.val (.int p0), .val (.int p1), .val (.int p2), .val (.int p3), .val (.int (3 : Int32)), .val (.int v3), .val (.int v3), .val (.int v4), .val (.int v5), .val (.int v6), .val (.int v7), .val (.int v8), .val (.ref b46), .val (.int r), .val (.int (0 : Int32)), .unset, .unset, .unset] []))
          refine Go.st (fun _ k => XS.iload X58.here hx rfl (hb hby at_237) rfl k) ?_
          show Go p e below _ (T58.setTop (mkF m 239 #[.val (.int p0), .val (.int p1), .val (.int p2), .val (.int p3), .val (.int (3 : Int32)), .val (.int v3), .val (.int v3), .val (.int v4), .val (.int v5), .val (.int v6), .val (.int v7), .val (.int v8), .val (.ref b46), .val (.int r), .val (.int (0 : Int32)), .unset, .unset, .unset] [(.int v5)]))
          refine Go.st (fun _ k => XS.iload X58.here hx rfl (hb hby at_239) rfl k) ?_
          show Go p e below _ (T58.setTop (mkF m 241 #[.val (.int p0), .val (.int p1), .val (.int p2), .val (.int p3), .val (.int (3 : Int32)), .val (.int v3), .val (.int v3), .val (.int v4), .val (.int v5), .val (.int v6), .val (.int v7), .val (.int v8), .val (.ref b46), .val (.int r), .val (.int (0 : Int32)), .unset, .unset, .unset] [(.int r), (.int v5)]))
          by_cases hc62 : r < v5
          · show Go p e below _ (T58.setTop (mkF m 241 #[.val (.int p0), .val (.int p1), .val (.int p2), .val (.int p3), .val (.int (3 : Int32)), .val (.int v3), .val (.int v3), .val (.int v4), .val (.int v5), .val (.int v6), .val (.int v7), .val (.int v8), .val (.ref b46), .val (.int r), .val (.int (0 : Int32)), .unset, .unset, .unset] [(.int r), (.int v5)]))
            refine Go.st (fun _ k => XS.icmpYes X58.here hx rfl (pc0 := 241) (pc' := 255) rfl (hb hby at_241) rfl (tlt hc62).2.2.1 (by decide) (by decide) k) ?_
            show Go p e below _ (T58.setTop (mkF m 255 #[.val (.int p0), .val (.int p1), .val (.int p2), .val (.int p3), .val (.int (3 : Int32)), .val (.int v3), .val (.int v3), .val (.int v4), .val (.int v5), .val (.int v6), .val (.int v7), .val (.int v8), .val (.ref b46), .val (.int r), .val (.int (0 : Int32)), .unset, .unset, .unset] []))
            refine Go.st (fun _ k => XS.iconst X58.here hx rfl (hb hby at_255) k) ?_
            show Go p e below _ (T58.setTop (mkF m 256 #[.val (.int p0), .val (.int p1), .val (.int p2), .val (.int p3), .val (.int (3 : Int32)), .val (.int v3), .val (.int v3), .val (.int v4), .val (.int v5), .val (.int v6), .val (.int v7), .val (.int v8), .val (.ref b46), .val (.int r), .val (.int (0 : Int32)), .unset, .unset, .unset] [(.int (0 : Int32))]))
            refine Go.st (fun _ k => XS.istore X58.here hx rfl (hb hby at_256) rfl (l' := #[.val (.int p0), .val (.int p1), .val (.int p2), .val (.int p3), .val (.int (3 : Int32)), .val (.int v3), .val (.int v3), .val (.int v4), .val (.int v5), .val (.int v6), .val (.int v7), .val (.int v8), .val (.ref b46), .val (.int r), .val (.int (0 : Int32)), .val (.int (0 : Int32)), .unset, .unset]) rfl k) ?_
            show Go p e below _ (T58.setTop (mkF m 258 #[.val (.int p0), .val (.int p1), .val (.int p2), .val (.int p3), .val (.int (3 : Int32)), .val (.int v3), .val (.int v3), .val (.int v4), .val (.int v5), .val (.int v6), .val (.int v7), .val (.int v8), .val (.ref b46), .val (.int r), .val (.int (0 : Int32)), .val (.int (0 : Int32)), .unset, .unset] []))
            refine Go.st (fun _ k => XS.iload X58.here hx rfl (hb hby at_258) rfl k) ?_
            show Go p e below _ (T58.setTop (mkF m 260 #[.val (.int p0), .val (.int p1), .val (.int p2), .val (.int p3), .val (.int (3 : Int32)), .val (.int v3), .val (.int v3), .val (.int v4), .val (.int v5), .val (.int v6), .val (.int v7), .val (.int v8), .val (.ref b46), .val (.int r), .val (.int (0 : Int32)), .val (.int (0 : Int32)), .unset, .unset] [(.int (3 : Int32))]))
            refine Go.st (fun _ k => XS.iconst X58.here hx rfl (hb hby at_260) k) ?_
            show Go p e below _ (T58.setTop (mkF m 261 #[.val (.int p0), .val (.int p1), .val (.int p2), .val (.int p3), .val (.int (3 : Int32)), .val (.int v3), .val (.int v3), .val (.int v4), .val (.int v5), .val (.int v6), .val (.int v7), .val (.int v8), .val (.ref b46), .val (.int r), .val (.int (0 : Int32)), .val (.int (0 : Int32)), .unset, .unset] [(.int (3 : Int32)), (.int (3 : Int32))]))
            refine Go.st (fun _ k => XS.icmpNo X58.here hx rfl (hb hby at_261) rfl (flt (by decide : ¬ ((3 : Int32) < (3 : Int32)))).1 k) ?_
            show Go p e below _ (T58.setTop (mkF m 264 #[.val (.int p0), .val (.int p1), .val (.int p2), .val (.int p3), .val (.int (3 : Int32)), .val (.int v3), .val (.int v3), .val (.int v4), .val (.int v5), .val (.int v6), .val (.int v7), .val (.int v8), .val (.ref b46), .val (.int r), .val (.int (0 : Int32)), .val (.int (0 : Int32)), .unset, .unset] []))
            refine Go.st (fun _ k => XS.iload X58.here hx rfl (hb hby at_264) rfl k) ?_
            show Go p e below _ (T58.setTop (mkF m 266 #[.val (.int p0), .val (.int p1), .val (.int p2), .val (.int p3), .val (.int (3 : Int32)), .val (.int v3), .val (.int v3), .val (.int v4), .val (.int v5), .val (.int v6), .val (.int v7), .val (.int v8), .val (.ref b46), .val (.int r), .val (.int (0 : Int32)), .val (.int (0 : Int32)), .unset, .unset] [(.int v7)]))
            refine Go.st (fun _ k => XS.iload X58.here hx rfl (hb hby at_266) rfl k) ?_
            show Go p e below _ (T58.setTop (mkF m 268 #[.val (.int p0), .val (.int p1), .val (.int p2), .val (.int p3), .val (.int (3 : Int32)), .val (.int v3), .val (.int v3), .val (.int v4), .val (.int v5), .val (.int v6), .val (.int v7), .val (.int v8), .val (.ref b46), .val (.int r), .val (.int (0 : Int32)), .val (.int (0 : Int32)), .unset, .unset] [(.int r), (.int v7)]))
            refine Go.st (fun _ k => XS.icmpYes X58.here hx rfl (pc0 := 268) (pc' := 282) rfl (hb hby at_268) rfl (tlt (Int32.lt_iff_toInt_lt.mpr (by have zhc59 : ¬ r.toInt < v3.toInt := fun y => hc59 (Int32.lt_iff_toInt_lt.mpr y); have zhc61 : v4.toInt < r.toInt := Int32.lt_iff_toInt_lt.mp hc61; have zhc62 : r.toInt < v5.toInt := Int32.lt_iff_toInt_lt.mp hc62; omega))).2.2.1 (by decide) (by decide) k) ?_
            show Go p e below _ (T58.setTop (mkF m 282 #[.val (.int p0), .val (.int p1), .val (.int p2), .val (.int p3), .val (.int (3 : Int32)), .val (.int v3), .val (.int v3), .val (.int v4), .val (.int v5), .val (.int v6), .val (.int v7), .val (.int v8), .val (.ref b46), .val (.int r), .val (.int (0 : Int32)), .val (.int (0 : Int32)), .unset, .unset] []))
            refine Go.st (fun _ k => XS.iconst X58.here hx rfl (hb hby at_282) k) ?_
            show Go p e below _ (T58.setTop (mkF m 283 #[.val (.int p0), .val (.int p1), .val (.int p2), .val (.int p3), .val (.int (3 : Int32)), .val (.int v3), .val (.int v3), .val (.int v4), .val (.int v5), .val (.int v6), .val (.int v7), .val (.int v8), .val (.ref b46), .val (.int r), .val (.int (0 : Int32)), .val (.int (0 : Int32)), .unset, .unset] [(.int (0 : Int32))]))
            refine Go.st (fun _ k => XS.istore X58.here hx rfl (hb hby at_283) rfl (l' := #[.val (.int p0), .val (.int p1), .val (.int p2), .val (.int p3), .val (.int (3 : Int32)), .val (.int v3), .val (.int v3), .val (.int v4), .val (.int v5), .val (.int v6), .val (.int v7), .val (.int v8), .val (.ref b46), .val (.int r), .val (.int (0 : Int32)), .val (.int (0 : Int32)), .val (.int (0 : Int32)), .unset]) rfl k) ?_
            show Go p e below _ (T58.setTop (mkF m 285 #[.val (.int p0), .val (.int p1), .val (.int p2), .val (.int p3), .val (.int (3 : Int32)), .val (.int v3), .val (.int v3), .val (.int v4), .val (.int v5), .val (.int v6), .val (.int v7), .val (.int v8), .val (.ref b46), .val (.int r), .val (.int (0 : Int32)), .val (.int (0 : Int32)), .val (.int (0 : Int32)), .unset] []))
            refine Go.st (fun _ k => XS.iload X58.here hx rfl (hb hby at_285) rfl k) ?_
            show Go p e below _ (T58.setTop (mkF m 287 #[.val (.int p0), .val (.int p1), .val (.int p2), .val (.int p3), .val (.int (3 : Int32)), .val (.int v3), .val (.int v3), .val (.int v4), .val (.int v5), .val (.int v6), .val (.int v7), .val (.int v8), .val (.ref b46), .val (.int r), .val (.int (0 : Int32)), .val (.int (0 : Int32)), .val (.int (0 : Int32)), .unset] [(.int (0 : Int32))]))
            refine Go.st (fun _ k => XS.ifNo X58.here hx rfl (hb hby at_287) rfl ((if0 _ _).trans (teq (by decide : ((0 : Int32) = (0 : Int32)))).2) k) ?_
            show Go p e below _ (T58.setTop (mkF m 290 #[.val (.int p0), .val (.int p1), .val (.int p2), .val (.int p3), .val (.int (3 : Int32)), .val (.int v3), .val (.int v3), .val (.int v4), .val (.int v5), .val (.int v6), .val (.int v7), .val (.int v8), .val (.ref b46), .val (.int r), .val (.int (0 : Int32)), .val (.int (0 : Int32)), .val (.int (0 : Int32)), .unset] []))
            refine Go.st (fun _ k => XS.iload X58.here hx rfl (hb hby at_290) rfl k) ?_
            show Go p e below _ (T58.setTop (mkF m 292 #[.val (.int p0), .val (.int p1), .val (.int p2), .val (.int p3), .val (.int (3 : Int32)), .val (.int v3), .val (.int v3), .val (.int v4), .val (.int v5), .val (.int v6), .val (.int v7), .val (.int v8), .val (.ref b46), .val (.int r), .val (.int (0 : Int32)), .val (.int (0 : Int32)), .val (.int (0 : Int32)), .unset] [(.int (0 : Int32))]))
            refine Go.st (fun _ k => XS.ifNo X58.here hx rfl (hb hby at_292) rfl ((if0 _ _).trans (teq (by decide : ((0 : Int32) = (0 : Int32)))).2) k) ?_
            show Go p e below _ (T58.setTop (mkF m 295 #[.val (.int p0), .val (.int p1), .val (.int p2), .val (.int p3), .val (.int (3 : Int32)), .val (.int v3), .val (.int v3), .val (.int v4), .val (.int v5), .val (.int v6), .val (.int v7), .val (.int v8), .val (.ref b46), .val (.int r), .val (.int (0 : Int32)), .val (.int (0 : Int32)), .val (.int (0 : Int32)), .unset] []))
            refine Go.st (fun _ k => XS.iload X58.here hx rfl (hb hby at_295) rfl k) ?_
            show Go p e below _ (T58.setTop (mkF m 297 #[.val (.int p0), .val (.int p1), .val (.int p2), .val (.int p3), .val (.int (3 : Int32)), .val (.int v3), .val (.int v3), .val (.int v4), .val (.int v5), .val (.int v6), .val (.int v7), .val (.int v8), .val (.ref b46), .val (.int r), .val (.int (0 : Int32)), .val (.int (0 : Int32)), .val (.int (0 : Int32)), .unset] [(.int (0 : Int32))]))
            refine Go.st (fun _ k => XS.ifYes X58.here hx rfl (pc0 := 297) (pc' := 304) rfl (hb hby at_297) rfl ((if0 _ _).trans (teq (by decide : ((0 : Int32) = (0 : Int32)))).1) (by decide) (by decide) k) ?_
            show Go p e below _ (T58.setTop (mkF m 304 #[.val (.int p0), .val (.int p1), .val (.int p2), .val (.int p3), .val (.int (3 : Int32)), .val (.int v3), .val (.int v3), .val (.int v4), .val (.int v5), .val (.int v6), .val (.int v7), .val (.int v8), .val (.ref b46), .val (.int r), .val (.int (0 : Int32)), .val (.int (0 : Int32)), .val (.int (0 : Int32)), .unset] []))
            refine Go.st (fun _ k => XS.iconst X58.here hx rfl (hb hby at_304) k) ?_
            show Go p e below _ (T58.setTop (mkF m 305 #[.val (.int p0), .val (.int p1), .val (.int p2), .val (.int p3), .val (.int (3 : Int32)), .val (.int v3), .val (.int v3), .val (.int v4), .val (.int v5), .val (.int v6), .val (.int v7), .val (.int v8), .val (.ref b46), .val (.int r), .val (.int (0 : Int32)), .val (.int (0 : Int32)), .val (.int (0 : Int32)), .unset] [(.int (0 : Int32))]))
            refine Go.st (fun _ k => XS.istore X58.here hx rfl (hb hby at_305) rfl (l' := #[.val (.int p0), .val (.int p1), .val (.int p2), .val (.int p3), .val (.int (3 : Int32)), .val (.int v3), .val (.int v3), .val (.int v4), .val (.int v5), .val (.int v6), .val (.int v7), .val (.int v8), .val (.ref b46), .val (.int r), .val (.int (0 : Int32)), .val (.int (0 : Int32)), .val (.int (0 : Int32)), .val (.int (0 : Int32))]) rfl k) ?_
            show Go p e below _ (T58.setTop (mkF m 307 #[.val (.int p0), .val (.int p1), .val (.int p2), .val (.int p3), .val (.int (3 : Int32)), .val (.int v3), .val (.int v3), .val (.int v4), .val (.int v5), .val (.int v6), .val (.int v7), .val (.int v8), .val (.ref b46), .val (.int r), .val (.int (0 : Int32)), .val (.int (0 : Int32)), .val (.int (0 : Int32)), .val (.int (0 : Int32))] []))
            refine Go.st (fun _ k => XS.aload X58.here hx rfl (hb hby at_307) rfl rfl k) ?_
            show Go p e below _ (T58.setTop (mkF m 309 #[.val (.int p0), .val (.int p1), .val (.int p2), .val (.int p3), .val (.int (3 : Int32)), .val (.int v3), .val (.int v3), .val (.int v4), .val (.int v5), .val (.int v6), .val (.int v7), .val (.int v8), .val (.ref b46), .val (.int r), .val (.int (0 : Int32)), .val (.int (0 : Int32)), .val (.int (0 : Int32)), .val (.int (0 : Int32))] [(.ref b46)]))
            refine Go.st (fun _ k => XS.iload X58.here hx rfl (hb hby at_309) rfl k) ?_
            show Go p e below _ (T58.setTop (mkF m 311 #[.val (.int p0), .val (.int p1), .val (.int p2), .val (.int p3), .val (.int (3 : Int32)), .val (.int v3), .val (.int v3), .val (.int v4), .val (.int v5), .val (.int v6), .val (.int v7), .val (.int v8), .val (.ref b46), .val (.int r), .val (.int (0 : Int32)), .val (.int (0 : Int32)), .val (.int (0 : Int32)), .val (.int (0 : Int32))] [(.int r), (.ref b46)]))
            obtain ⟨_, _, ⟨T63, L63, k63, n63⟩, -, X63, ⟨Lc63, hQ63, l63, y63, z63⟩, st63⟩ := Jvm.LawKit.callS X58 hx (y := (⟨"com/example/weir/weir/route/ValueRegions", "contains", "([II)Z"⟩ : MethodName)) hown (mvT hZ (hw _ (List.mem_of_getElem? (i := 6) rfl))) (mvT hZ (hw _ (List.mem_of_getElem? (i := 7) rfl))) (mvT hZ (hw _ (List.mem_of_getElem? (i := 8) rfl))) (mvT hZ (hw _ (List.mem_of_getElem? (i := 9) rfl))) (by decide) (backOf (W := 0) (rmC6 l Z aZ hw [] b46 r k46 v3 v4 v5 v6 v7 v8 h58 n0 V58) hZ (hw _ (List.mem_of_getElem? (i := 9) rfl)) (hw _ (List.mem_of_getElem? (i := 8) rfl)) (by decide) (by decide)) (g := (mkF m 311 #[.val (.int p0), .val (.int p1), .val (.int p2), .val (.int p3), .val (.int (3 : Int32)), .val (.int v3), .val (.int v3), .val (.int v4), .val (.int v5), .val (.int v6), .val (.int v7), .val (.int v8), .val (.ref b46), .val (.int r), .val (.int (0 : Int32)), .val (.int (0 : Int32)), .val (.int (0 : Int32)), .val (.int (0 : Int32))] [(.int r), (.ref b46)])) rfl (by rw [hml]; rfl) (argsL := [(.ref b46), (.int r)]) (rest := []) (lenOf pd93e6ecdc rfl) rfl (by show 2 * 0 + _ ≤ _; exact Nat.le_of_eq rfl) (hb hby at_311) (fun _ _ => ⟨rfl, e58, (by decide : 1 + 0 ≤ _), (by decide : 6 + 0 ≤ _)⟩)
            dsimp only [Pt.U, Pt.locs, Pt.cells, Pt.slots] at X63 l63 y63 z63 st63 hQ63
            subst l63 y63 z63
            obtain ⟨rfl, N63q, e63⟩ := hQ63
            have N63 := Fr.app N58 N63q
            refine Go.st (fun _ k => st63 _ k) ?_
            show Go p e below _ (T63.setTop (mkF m 314 #[.val (.int p0), .val (.int p1), .val (.int p2), .val (.int p3), .val (.int (3 : Int32)), .val (.int v3), .val (.int v3), .val (.int v4), .val (.int v5), .val (.int v6), .val (.int v7), .val (.int v8), .val (.ref b46), .val (.int r), .val (.int (0 : Int32)), .val (.int (0 : Int32)), .val (.int (0 : Int32)), .val (.int (0 : Int32))] [(.int (fC6 r v3 v4 v5 v6 v7 v8))]))
            refine Go.st (fun _ k => XS.iload X63.here hx rfl (hb hby at_314) rfl k) ?_
            show Go p e below _ (T63.setTop (mkF m 316 #[.val (.int p0), .val (.int p1), .val (.int p2), .val (.int p3), .val (.int (3 : Int32)), .val (.int v3), .val (.int v3), .val (.int v4), .val (.int v5), .val (.int v6), .val (.int v7), .val (.int v8), .val (.ref b46), .val (.int r), .val (.int (0 : Int32)), .val (.int (0 : Int32)), .val (.int (0 : Int32)), .val (.int (0 : Int32))] [(.int (0 : Int32)), (.int (fC6 r v3 v4 v5 v6 v7 v8))]))
            refine Go.st (fun _ k => XS.icmpNo X63.here hx rfl (hb hby at_316) rfl (teq (by unfold fC6; rw [if_neg hc59, if_pos hc61, if_pos hc62])).2 k) ?_
            show Go p e below _ (T63.setTop (mkF m 319 #[.val (.int p0), .val (.int p1), .val (.int p2), .val (.int p3), .val (.int (3 : Int32)), .val (.int v3), .val (.int v3), .val (.int v4), .val (.int v5), .val (.int v6), .val (.int v7), .val (.int v8), .val (.ref b46), .val (.int r), .val (.int (0 : Int32)), .val (.int (0 : Int32)), .val (.int (0 : Int32)), .val (.int (0 : Int32))] []))
            refine Go.st (fun _ k => XS.iconst X63.here hx rfl (hb hby at_319) k) ?_
            show Go p e below _ (T63.setTop (mkF m 320 #[.val (.int p0), .val (.int p1), .val (.int p2), .val (.int p3), .val (.int (3 : Int32)), .val (.int v3), .val (.int v3), .val (.int v4), .val (.int v5), .val (.int v6), .val (.int v7), .val (.int v8), .val (.ref b46), .val (.int r), .val (.int (0 : Int32)), .val (.int (0 : Int32)), .val (.int (0 : Int32)), .val (.int (0 : Int32))] [(.int (1 : Int32))]))
            refine Go.st (fun _ k => XS.goto X63.here hx rfl (pc0 := 320) (pc' := 324) rfl (hb hby at_320) (by decide) (by decide) k) ?_
            show Go p e below _ (T63.setTop (mkF m 324 #[.val (.int p0), .val (.int p1), .val (.int p2), .val (.int p3), .val (.int (3 : Int32)), .val (.int v3), .val (.int v3), .val (.int v4), .val (.int v5), .val (.int v6), .val (.int v7), .val (.int v8), .val (.ref b46), .val (.int r), .val (.int (0 : Int32)), .val (.int (0 : Int32)), .val (.int (0 : Int32)), .val (.int (0 : Int32))] [(.int (1 : Int32))]))
            obtain ⟨fs, hr, hrun, hended, hW, hsame⟩ := X63.leave (v := some (.int (1 : Int32))) (fun h => by rw [Bd.returns] at h; cases h)
            refine ⟨_, _, retN X63 hx (t := .boolean) Bd.returns (by simp) (hb hby at_324) hr, hrun, hended, _, _, rfl, ?_, ⟨_, rfl⟩, hW, hsame.mono (by decide) (by decide)⟩
            show Q_rm0 Z p0 p1 p2 p3 h0 n0 _ T63.heap _
            rw [e63]
            exact ⟨rfl, N63⟩
          · show Go p e below _ (T58.setTop (mkF m 241 #[.val (.int p0), .val (.int p1), .val (.int p2), .val (.int p3), .val (.int (3 : Int32)), .val (.int v3), .val (.int v3), .val (.int v4), .val (.int v5), .val (.int v6), .val (.int v7), .val (.int v8), .val (.ref b46), .val (.int r), .val (.int (0 : Int32)), .unset, .unset, .unset] [(.int r), (.int v5)]))
            refine Go.st (fun _ k => XS.icmpNo X58.here hx rfl (hb hby at_241) rfl (flt hc62).2.2.1 k) ?_
            show Go p e below _ (T58.setTop (mkF m 244 #[.val (.int p0), .val (.int p1), .val (.int p2), .val (.int p3), .val (.int (3 : Int32)), .val (.int v3), .val (.int v3), .val (.int v4), .val (.int v5), .val (.int v6), .val (.int v7), .val (.int v8), .val (.ref b46), .val (.int r), .val (.int (0 : Int32)), .unset, .unset, .unset] []))
            refine Go.st (fun _ k => XS.iload X58.here hx rfl (hb hby at_244) rfl k) ?_
            show Go p e below _ (T58.setTop (mkF m 246 #[.val (.int p0), .val (.int p1), .val (.int p2), .val (.int p3), .val (.int (3 : Int32)), .val (.int v3), .val (.int v3), .val (.int v4), .val (.int v5), .val (.int v6), .val (.int v7), .val (.int v8), .val (.ref b46), .val (.int r), .val (.int (0 : Int32)), .unset, .unset, .unset] [(.int r)]))
            refine Go.st (fun _ k => XS.iload X58.here hx rfl (hb hby at_246) rfl k) ?_
            show Go p e below _ (T58.setTop (mkF m 248 #[.val (.int p0), .val (.int p1), .val (.int p2), .val (.int p3), .val (.int (3 : Int32)), .val (.int v3), .val (.int v3), .val (.int v4), .val (.int v5), .val (.int v6), .val (.int v7), .val (.int v8), .val (.ref b46), .val (.int r), .val (.int (0 : Int32)), .unset, .unset, .unset] [(.int v6), (.int r)]))
            by_cases hc64 : v6 < r
            · show Go p e below _ (T58.setTop (mkF m 248 #[.val (.int p0), .val (.int p1), .val (.int p2), .val (.int p3), .val (.int (3 : Int32)), .val (.int v3), .val (.int v3), .val (.int v4), .val (.int v5), .val (.int v6), .val (.int v7), .val (.int v8), .val (.ref b46), .val (.int r), .val (.int (0 : Int32)), .unset, .unset, .unset] [(.int v6), (.int r)]))
              refine Go.st (fun _ k => XS.icmpYes X58.here hx rfl (pc0 := 248) (pc' := 255) rfl (hb hby at_248) rfl (tlt hc64).2.2.1 (by decide) (by decide) k) ?_
              show Go p e below _ (T58.setTop (mkF m 255 #[.val (.int p0), .val (.int p1), .val (.int p2), .val (.int p3), .val (.int (3 : Int32)), .val (.int v3), .val (.int v3), .val (.int v4), .val (.int v5), .val (.int v6), .val (.int v7), .val (.int v8), .val (.ref b46), .val (.int r), .val (.int (0 : Int32)), .unset, .unset, .unset] []))
              refine Go.st (fun _ k => XS.iconst X58.here hx rfl (hb hby at_255) k) ?_
              show Go p e below _ (T58.setTop (mkF m 256 #[.val (.int p0), .val (.int p1), .val (.int p2), .val (.int p3), .val (.int (3 : Int32)), .val (.int v3), .val (.int v3), .val (.int v4), .val (.int v5), .val (.int v6), .val (.int v7), .val (.int v8), .val (.ref b46), .val (.int r), .val (.int (0 : Int32)), .unset, .unset, .unset] [(.int (0 : Int32))]))
              refine Go.st (fun _ k => XS.istore X58.here hx rfl (hb hby at_256) rfl (l' := #[.val (.int p0), .val (.int p1), .val (.int p2), .val (.int p3), .val (.int (3 : Int32)), .val (.int v3), .val (.int v3), .val (.int v4), .val (.int v5), .val (.int v6), .val (.int v7), .val (.int v8), .val (.ref b46), .val (.int r), .val (.int (0 : Int32)), .val (.int (0 : Int32)), .unset, .unset]) rfl k) ?_
              show Go p e below _ (T58.setTop (mkF m 258 #[.val (.int p0), .val (.int p1), .val (.int p2), .val (.int p3), .val (.int (3 : Int32)), .val (.int v3), .val (.int v3), .val (.int v4), .val (.int v5), .val (.int v6), .val (.int v7), .val (.int v8), .val (.ref b46), .val (.int r), .val (.int (0 : Int32)), .val (.int (0 : Int32)), .unset, .unset] []))
              refine Go.st (fun _ k => XS.iload X58.here hx rfl (hb hby at_258) rfl k) ?_
              show Go p e below _ (T58.setTop (mkF m 260 #[.val (.int p0), .val (.int p1), .val (.int p2), .val (.int p3), .val (.int (3 : Int32)), .val (.int v3), .val (.int v3), .val (.int v4), .val (.int v5), .val (.int v6), .val (.int v7), .val (.int v8), .val (.ref b46), .val (.int r), .val (.int (0 : Int32)), .val (.int (0 : Int32)), .unset, .unset] [(.int (3 : Int32))]))
              refine Go.st (fun _ k => XS.iconst X58.here hx rfl (hb hby at_260) k) ?_
              show Go p e below _ (T58.setTop (mkF m 261 #[.val (.int p0), .val (.int p1), .val (.int p2), .val (.int p3), .val (.int (3 : Int32)), .val (.int v3), .val (.int v3), .val (.int v4), .val (.int v5), .val (.int v6), .val (.int v7), .val (.int v8), .val (.ref b46), .val (.int r), .val (.int (0 : Int32)), .val (.int (0 : Int32)), .unset, .unset] [(.int (3 : Int32)), (.int (3 : Int32))]))
              refine Go.st (fun _ k => XS.icmpNo X58.here hx rfl (hb hby at_261) rfl (flt (by decide : ¬ ((3 : Int32) < (3 : Int32)))).1 k) ?_
              show Go p e below _ (T58.setTop (mkF m 264 #[.val (.int p0), .val (.int p1), .val (.int p2), .val (.int p3), .val (.int (3 : Int32)), .val (.int v3), .val (.int v3), .val (.int v4), .val (.int v5), .val (.int v6), .val (.int v7), .val (.int v8), .val (.ref b46), .val (.int r), .val (.int (0 : Int32)), .val (.int (0 : Int32)), .unset, .unset] []))
              refine Go.st (fun _ k => XS.iload X58.here hx rfl (hb hby at_264) rfl k) ?_
              show Go p e below _ (T58.setTop (mkF m 266 #[.val (.int p0), .val (.int p1), .val (.int p2), .val (.int p3), .val (.int (3 : Int32)), .val (.int v3), .val (.int v3), .val (.int v4), .val (.int v5), .val (.int v6), .val (.int v7), .val (.int v8), .val (.ref b46), .val (.int r), .val (.int (0 : Int32)), .val (.int (0 : Int32)), .unset, .unset] [(.int v7)]))
              refine Go.st (fun _ k => XS.iload X58.here hx rfl (hb hby at_266) rfl k) ?_
              show Go p e below _ (T58.setTop (mkF m 268 #[.val (.int p0), .val (.int p1), .val (.int p2), .val (.int p3), .val (.int (3 : Int32)), .val (.int v3), .val (.int v3), .val (.int v4), .val (.int v5), .val (.int v6), .val (.int v7), .val (.int v8), .val (.ref b46), .val (.int r), .val (.int (0 : Int32)), .val (.int (0 : Int32)), .unset, .unset] [(.int r), (.int v7)]))
              by_cases hc65 : r < v7
              · show Go p e below _ (T58.setTop (mkF m 268 #[.val (.int p0), .val (.int p1), .val (.int p2), .val (.int p3), .val (.int (3 : Int32)), .val (.int v3), .val (.int v3), .val (.int v4), .val (.int v5), .val (.int v6), .val (.int v7), .val (.int v8), .val (.ref b46), .val (.int r), .val (.int (0 : Int32)), .val (.int (0 : Int32)), .unset, .unset] [(.int r), (.int v7)]))
                refine Go.st (fun _ k => XS.icmpYes X58.here hx rfl (pc0 := 268) (pc' := 282) rfl (hb hby at_268) rfl (tlt hc65).2.2.1 (by decide) (by decide) k) ?_
                show Go p e below _ (T58.setTop (mkF m 282 #[.val (.int p0), .val (.int p1), .val (.int p2), .val (.int p3), .val (.int (3 : Int32)), .val (.int v3), .val (.int v3), .val (.int v4), .val (.int v5), .val (.int v6), .val (.int v7), .val (.int v8), .val (.ref b46), .val (.int r), .val (.int (0 : Int32)), .val (.int (0 : Int32)), .unset, .unset] []))
                refine Go.st (fun _ k => XS.iconst X58.here hx rfl (hb hby at_282) k) ?_
                show Go p e below _ (T58.setTop (mkF m 283 #[.val (.int p0), .val (.int p1), .val (.int p2), .val (.int p3), .val (.int (3 : Int32)), .val (.int v3), .val (.int v3), .val (.int v4), .val (.int v5), .val (.int v6), .val (.int v7), .val (.int v8), .val (.ref b46), .val (.int r), .val (.int (0 : Int32)), .val (.int (0 : Int32)), .unset, .unset] [(.int (0 : Int32))]))
                refine Go.st (fun _ k => XS.istore X58.here hx rfl (hb hby at_283) rfl (l' := #[.val (.int p0), .val (.int p1), .val (.int p2), .val (.int p3), .val (.int (3 : Int32)), .val (.int v3), .val (.int v3), .val (.int v4), .val (.int v5), .val (.int v6), .val (.int v7), .val (.int v8), .val (.ref b46), .val (.int r), .val (.int (0 : Int32)), .val (.int (0 : Int32)), .val (.int (0 : Int32)), .unset]) rfl k) ?_
                show Go p e below _ (T58.setTop (mkF m 285 #[.val (.int p0), .val (.int p1), .val (.int p2), .val (.int p3), .val (.int (3 : Int32)), .val (.int v3), .val (.int v3), .val (.int v4), .val (.int v5), .val (.int v6), .val (.int v7), .val (.int v8), .val (.ref b46), .val (.int r), .val (.int (0 : Int32)), .val (.int (0 : Int32)), .val (.int (0 : Int32)), .unset] []))
                refine Go.st (fun _ k => XS.iload X58.here hx rfl (hb hby at_285) rfl k) ?_
                show Go p e below _ (T58.setTop (mkF m 287 #[.val (.int p0), .val (.int p1), .val (.int p2), .val (.int p3), .val (.int (3 : Int32)), .val (.int v3), .val (.int v3), .val (.int v4), .val (.int v5), .val (.int v6), .val (.int v7), .val (.int v8), .val (.ref b46), .val (.int r), .val (.int (0 : Int32)), .val (.int (0 : Int32)), .val (.int (0 : Int32)), .unset] [(.int (0 : Int32))]))
                refine Go.st (fun _ k => XS.ifNo X58.here hx rfl (hb hby at_287) rfl ((if0 _ _).trans (teq (by decide : ((0 : Int32) = (0 : Int32)))).2) k) ?_
                show Go p e below _ (T58.setTop (mkF m 290 #[.val (.int p0), .val (.int p1), .val (.int p2), .val (.int p3), .val (.int (3 : Int32)), .val (.int v3), .val (.int v3), .val (.int v4), .val (.int v5), .val (.int v6), .val (.int v7), .val (.int v8), .val (.ref b46), .val (.int r), .val (.int (0 : Int32)), .val (.int (0 : Int32)), .val (.int (0 : Int32)), .unset] []))
                refine Go.st (fun _ k => XS.iload X58.here hx rfl (hb hby at_290) rfl k) ?_
                show Go p e below _ (T58.setTop (mkF m 292 #[.val (.int p0), .val (.int p1), .val (.int p2), .val (.int p3), .val (.int (3 : Int32)), .val (.int v3), .val (.int v3), .val (.int v4), .val (.int v5), .val (.int v6), .val (.int v7), .val (.int v8), .val (.ref b46), .val (.int r), .val (.int (0 : Int32)), .val (.int (0 : Int32)), .val (.int (0 : Int32)), .unset] [(.int (0 : Int32))]))
                refine Go.st (fun _ k => XS.ifNo X58.here hx rfl (hb hby at_292) rfl ((if0 _ _).trans (teq (by decide : ((0 : Int32) = (0 : Int32)))).2) k) ?_
                show Go p e below _ (T58.setTop (mkF m 295 #[.val (.int p0), .val (.int p1), .val (.int p2), .val (.int p3), .val (.int (3 : Int32)), .val (.int v3), .val (.int v3), .val (.int v4), .val (.int v5), .val (.int v6), .val (.int v7), .val (.int v8), .val (.ref b46), .val (.int r), .val (.int (0 : Int32)), .val (.int (0 : Int32)), .val (.int (0 : Int32)), .unset] []))
                refine Go.st (fun _ k => XS.iload X58.here hx rfl (hb hby at_295) rfl k) ?_
                show Go p e below _ (T58.setTop (mkF m 297 #[.val (.int p0), .val (.int p1), .val (.int p2), .val (.int p3), .val (.int (3 : Int32)), .val (.int v3), .val (.int v3), .val (.int v4), .val (.int v5), .val (.int v6), .val (.int v7), .val (.int v8), .val (.ref b46), .val (.int r), .val (.int (0 : Int32)), .val (.int (0 : Int32)), .val (.int (0 : Int32)), .unset] [(.int (0 : Int32))]))
                refine Go.st (fun _ k => XS.ifYes X58.here hx rfl (pc0 := 297) (pc' := 304) rfl (hb hby at_297) rfl ((if0 _ _).trans (teq (by decide : ((0 : Int32) = (0 : Int32)))).1) (by decide) (by decide) k) ?_
                show Go p e below _ (T58.setTop (mkF m 304 #[.val (.int p0), .val (.int p1), .val (.int p2), .val (.int p3), .val (.int (3 : Int32)), .val (.int v3), .val (.int v3), .val (.int v4), .val (.int v5), .val (.int v6), .val (.int v7), .val (.int v8), .val (.ref b46), .val (.int r), .val (.int (0 : Int32)), .val (.int (0 : Int32)), .val (.int (0 : Int32)), .unset] []))
                refine Go.st (fun _ k => XS.iconst X58.here hx rfl (hb hby at_304) k) ?_
                show Go p e below _ (T58.setTop (mkF m 305 #[.val (.int p0), .val (.int p1), .val (.int p2), .val (.int p3), .val (.int (3 : Int32)), .val (.int v3), .val (.int v3), .val (.int v4), .val (.int v5), .val (.int v6), .val (.int v7), .val (.int v8), .val (.ref b46), .val (.int r), .val (.int (0 : Int32)), .val (.int (0 : Int32)), .val (.int (0 : Int32)), .unset] [(.int (0 : Int32))]))
                refine Go.st (fun _ k => XS.istore X58.here hx rfl (hb hby at_305) rfl (l' := #[.val (.int p0), .val (.int p1), .val (.int p2), .val (.int p3), .val (.int (3 : Int32)), .val (.int v3), .val (.int v3), .val (.int v4), .val (.int v5), .val (.int v6), .val (.int v7), .val (.int v8), .val (.ref b46), .val (.int r), .val (.int (0 : Int32)), .val (.int (0 : Int32)), .val (.int (0 : Int32)), .val (.int (0 : Int32))]) rfl k) ?_
                show Go p e below _ (T58.setTop (mkF m 307 #[.val (.int p0), .val (.int p1), .val (.int p2), .val (.int p3), .val (.int (3 : Int32)), .val (.int v3), .val (.int v3), .val (.int v4), .val (.int v5), .val (.int v6), .val (.int v7), .val (.int v8), .val (.ref b46), .val (.int r), .val (.int (0 : Int32)), .val (.int (0 : Int32)), .val (.int (0 : Int32)), .val (.int (0 : Int32))] []))
                refine Go.st (fun _ k => XS.aload X58.here hx rfl (hb hby at_307) rfl rfl k) ?_
                show Go p e below _ (T58.setTop (mkF m 309 #[.val (.int p0), .val (.int p1), .val (.int p2), .val (.int p3), .val (.int (3 : Int32)), .val (.int v3), .val (.int v3), .val (.int v4), .val (.int v5), .val (.int v6), .val (.int v7), .val (.int v8), .val (.ref b46), .val (.int r), .val (.int (0 : Int32)), .val (.int (0 : Int32)), .val (.int (0 : Int32)), .val (.int (0 : Int32))] [(.ref b46)]))
                refine Go.st (fun _ k => XS.iload X58.here hx rfl (hb hby at_309) rfl k) ?_
                show Go p e below _ (T58.setTop (mkF m 311 #[.val (.int p0), .val (.int p1), .val (.int p2), .val (.int p3), .val (.int (3 : Int32)), .val (.int v3), .val (.int v3), .val (.int v4), .val (.int v5), .val (.int v6), .val (.int v7), .val (.int v8), .val (.ref b46), .val (.int r), .val (.int (0 : Int32)), .val (.int (0 : Int32)), .val (.int (0 : Int32)), .val (.int (0 : Int32))] [(.int r), (.ref b46)]))
                obtain ⟨_, _, ⟨T66, L66, k66, n66⟩, -, X66, ⟨Lc66, hQ66, l66, y66, z66⟩, st66⟩ := Jvm.LawKit.callS X58 hx (y := (⟨"com/example/weir/weir/route/ValueRegions", "contains", "([II)Z"⟩ : MethodName)) hown (mvT hZ (hw _ (List.mem_of_getElem? (i := 6) rfl))) (mvT hZ (hw _ (List.mem_of_getElem? (i := 7) rfl))) (mvT hZ (hw _ (List.mem_of_getElem? (i := 8) rfl))) (mvT hZ (hw _ (List.mem_of_getElem? (i := 9) rfl))) (by decide) (backOf (W := 0) (rmC6 l Z aZ hw [] b46 r k46 v3 v4 v5 v6 v7 v8 h58 n0 V58) hZ (hw _ (List.mem_of_getElem? (i := 9) rfl)) (hw _ (List.mem_of_getElem? (i := 8) rfl)) (by decide) (by decide)) (g := (mkF m 311 #[.val (.int p0), .val (.int p1), .val (.int p2), .val (.int p3), .val (.int (3 : Int32)), .val (.int v3), .val (.int v3), .val (.int v4), .val (.int v5), .val (.int v6), .val (.int v7), .val (.int v8), .val (.ref b46), .val (.int r), .val (.int (0 : Int32)), .val (.int (0 : Int32)), .val (.int (0 : Int32)), .val (.int (0 : Int32))] [(.int r), (.ref b46)])) rfl (by rw [hml]; rfl) (argsL := [(.ref b46), (.int r)]) (rest := []) (lenOf pd93e6ecdc rfl) rfl (by show 2 * 0 + _ ≤ _; exact Nat.le_of_eq rfl) (hb hby at_311) (fun _ _ => ⟨rfl, e58, (by decide : 1 + 0 ≤ _), (by decide : 6 + 0 ≤ _)⟩)
                dsimp only [Pt.U, Pt.locs, Pt.cells, Pt.slots] at X66 l66 y66 z66 st66 hQ66
                subst l66 y66 z66
                obtain ⟨rfl, N66q, e66⟩ := hQ66
                have N66 := Fr.app N58 N66q
                refine Go.st (fun _ k => st66 _ k) ?_
                show Go p e below _ (T66.setTop (mkF m 314 #[.val (.int p0), .val (.int p1), .val (.int p2), .val (.int p3), .val (.int (3 : Int32)), .val (.int v3), .val (.int v3), .val (.int v4), .val (.int v5), .val (.int v6), .val (.int v7), .val (.int v8), .val (.ref b46), .val (.int r), .val (.int (0 : Int32)), .val (.int (0 : Int32)), .val (.int (0 : Int32)), .val (.int (0 : Int32))] [(.int (fC6 r v3 v4 v5 v6 v7 v8))]))
                refine Go.st (fun _ k => XS.iload X66.here hx rfl (hb hby at_314) rfl k) ?_
                show Go p e below _ (T66.setTop (mkF m 316 #[.val (.int p0), .val (.int p1), .val (.int p2), .val (.int p3), .val (.int (3 : Int32)), .val (.int v3), .val (.int v3), .val (.int v4), .val (.int v5), .val (.int v6), .val (.int v7), .val (.int v8), .val (.ref b46), .val (.int r), .val (.int (0 : Int32)), .val (.int (0 : Int32)), .val (.int (0 : Int32)), .val (.int (0 : Int32))] [(.int (0 : Int32)), (.int (fC6 r v3 v4 v5 v6 v7 v8))]))
                refine Go.st (fun _ k => XS.icmpNo X66.here hx rfl (hb hby at_316) rfl (teq (by unfold fC6; rw [if_neg hc59, if_pos hc61, if_neg hc62, if_pos hc64, if_pos hc65])).2 k) ?_
                show Go p e below _ (T66.setTop (mkF m 319 #[.val (.int p0), .val (.int p1), .val (.int p2), .val (.int p3), .val (.int (3 : Int32)), .val (.int v3), .val (.int v3), .val (.int v4), .val (.int v5), .val (.int v6), .val (.int v7), .val (.int v8), .val (.ref b46), .val (.int r), .val (.int (0 : Int32)), .val (.int (0 : Int32)), .val (.int (0 : Int32)), .val (.int (0 : Int32))] []))
                refine Go.st (fun _ k => XS.iconst X66.here hx rfl (hb hby at_319) k) ?_
                show Go p e below _ (T66.setTop (mkF m 320 #[.val (.int p0), .val (.int p1), .val (.int p2), .val (.int p3), .val (.int (3 : Int32)), .val (.int v3), .val (.int v3), .val (.int v4), .val (.int v5), .val (.int v6), .val (.int v7), .val (.int v8), .val (.ref b46), .val (.int r), .val (.int (0 : Int32)), .val (.int (0 : Int32)), .val (.int (0 : Int32)), .val (.int (0 : Int32))] [(.int (1 : Int32))]))
                refine Go.st (fun _ k => XS.goto X66.here hx rfl (pc0 := 320) (pc' := 324) rfl (hb hby at_320) (by decide) (by decide) k) ?_
                show Go p e below _ (T66.setTop (mkF m 324 #[.val (.int p0), .val (.int p1), .val (.int p2), .val (.int p3), .val (.int (3 : Int32)), .val (.int v3), .val (.int v3), .val (.int v4), .val (.int v5), .val (.int v6), .val (.int v7), .val (.int v8), .val (.ref b46), .val (.int r), .val (.int (0 : Int32)), .val (.int (0 : Int32)), .val (.int (0 : Int32)), .val (.int (0 : Int32))] [(.int (1 : Int32))]))
                obtain ⟨fs, hr, hrun, hended, hW, hsame⟩ := X66.leave (v := some (.int (1 : Int32))) (fun h => by rw [Bd.returns] at h; cases h)
                refine ⟨_, _, retN X66 hx (t := .boolean) Bd.returns (by simp) (hb hby at_324) hr, hrun, hended, _, _, rfl, ?_, ⟨_, rfl⟩, hW, hsame.mono (by decide) (by decide)⟩
                show Q_rm0 Z p0 p1 p2 p3 h0 n0 _ T66.heap _
                rw [e66]
                exact ⟨rfl, N66⟩
              · show Go p e below _ (T58.setTop (mkF m 268 #[.val (.int p0), .val (.int p1), .val (.int p2), .val (.int p3), .val (.int (3 : Int32)), .val (.int v3), .val (.int v3), .val (.int v4), .val (.int v5), .val (.int v6), .val (.int v7), .val (.int v8), .val (.ref b46), .val (.int r), .val (.int (0 : Int32)), .val (.int (0 : Int32)), .unset, .unset] [(.int r), (.int v7)]))
                refine Go.st (fun _ k => XS.icmpNo X58.here hx rfl (hb hby at_268) rfl (flt hc65).2.2.1 k) ?_
                show Go p e below _ (T58.setTop (mkF m 271 #[.val (.int p0), .val (.int p1), .val (.int p2), .val (.int p3), .val (.int (3 : Int32)), .val (.int v3), .val (.int v3), .val (.int v4), .val (.int v5), .val (.int v6), .val (.int v7), .val (.int v8), .val (.ref b46), .val (.int r), .val (.int (0 : Int32)), .val (.int (0 : Int32)), .unset, .unset] []))
                refine Go.st (fun _ k => XS.iload X58.here hx rfl (hb hby at_271) rfl k) ?_
                show Go p e below _ (T58.setTop (mkF m 273 #[.val (.int p0), .val (.int p1), .val (.int p2), .val (.int p3), .val (.int (3 : Int32)), .val (.int v3), .val (.int v3), .val (.int v4), .val (.int v5), .val (.int v6), .val (.int v7), .val (.int v8), .val (.ref b46), .val (.int r), .val (.int (0 : Int32)), .val (.int (0 : Int32)), .unset, .unset] [(.int r)]))
                refine Go.st (fun _ k => XS.iload X58.here hx rfl (hb hby at_273) rfl k) ?_
                show Go p e below _ (T58.setTop (mkF m 275 #[.val (.int p0), .val (.int p1), .val (.int p2), .val (.int p3), .val (.int (3 : Int32)), .val (.int v3), .val (.int v3), .val (.int v4), .val (.int v5), .val (.int v6), .val (.int v7), .val (.int v8), .val (.ref b46), .val (.int r), .val (.int (0 : Int32)), .val (.int (0 : Int32)), .unset, .unset] [(.int v8), (.int r)]))
                by_cases hc67 : v8 < r
                · show Go p e below _ (T58.setTop (mkF m 275 #[.val (.int p0), .val (.int p1), .val (.int p2), .val (.int p3), .val (.int (3 : Int32)), .val (.int v3), .val (.int v3), .val (.int v4), .val (.int v5), .val (.int v6), .val (.int v7), .val (.int v8), .val (.ref b46), .val (.int r), .val (.int (0 : Int32)), .val (.int (0 : Int32)), .unset, .unset] [(.int v8), (.int r)]))
                  refine Go.st (fun _ k => XS.icmpYes X58.here hx rfl (pc0 := 275) (pc' := 282) rfl (hb hby at_275) rfl (tlt hc67).2.2.1 (by decide) (by decide) k) ?_
                  show Go p e below _ (T58.setTop (mkF m 282 #[.val (.int p0), .val (.int p1), .val (.int p2), .val (.int p3), .val (.int (3 : Int32)), .val (.int v3), .val (.int v3), .val (.int v4), .val (.int v5), .val (.int v6), .val (.int v7), .val (.int v8), .val (.ref b46), .val (.int r), .val (.int (0 : Int32)), .val (.int (0 : Int32)), .unset, .unset] []))
                  refine Go.st (fun _ k => XS.iconst X58.here hx rfl (hb hby at_282) k) ?_
                  show Go p e below _ (T58.setTop (mkF m 283 #[.val (.int p0), .val (.int p1), .val (.int p2), .val (.int p3), .val (.int (3 : Int32)), .val (.int v3), .val (.int v3), .val (.int v4), .val (.int v5), .val (.int v6), .val (.int v7), .val (.int v8), .val (.ref b46), .val (.int r), .val (.int (0 : Int32)), .val (.int (0 : Int32)), .unset, .unset] [(.int (0 : Int32))]))
                  refine Go.st (fun _ k => XS.istore X58.here hx rfl (hb hby at_283) rfl (l' := #[.val (.int p0), .val (.int p1), .val (.int p2), .val (.int p3), .val (.int (3 : Int32)), .val (.int v3), .val (.int v3), .val (.int v4), .val (.int v5), .val (.int v6), .val (.int v7), .val (.int v8), .val (.ref b46), .val (.int r), .val (.int (0 : Int32)), .val (.int (0 : Int32)), .val (.int (0 : Int32)), .unset]) rfl k) ?_
                  show Go p e below _ (T58.setTop (mkF m 285 #[.val (.int p0), .val (.int p1), .val (.int p2), .val (.int p3), .val (.int (3 : Int32)), .val (.int v3), .val (.int v3), .val (.int v4), .val (.int v5), .val (.int v6), .val (.int v7), .val (.int v8), .val (.ref b46), .val (.int r), .val (.int (0 : Int32)), .val (.int (0 : Int32)), .val (.int (0 : Int32)), .unset] []))
                  refine Go.st (fun _ k => XS.iload X58.here hx rfl (hb hby at_285) rfl k) ?_
                  show Go p e below _ (T58.setTop (mkF m 287 #[.val (.int p0), .val (.int p1), .val (.int p2), .val (.int p3), .val (.int (3 : Int32)), .val (.int v3), .val (.int v3), .val (.int v4), .val (.int v5), .val (.int v6), .val (.int v7), .val (.int v8), .val (.ref b46), .val (.int r), .val (.int (0 : Int32)), .val (.int (0 : Int32)), .val (.int (0 : Int32)), .unset] [(.int (0 : Int32))]))
                  refine Go.st (fun _ k => XS.ifNo X58.here hx rfl (hb hby at_287) rfl ((if0 _ _).trans (teq (by decide : ((0 : Int32) = (0 : Int32)))).2) k) ?_
                  show Go p e below _ (T58.setTop (mkF m 290 #[.val (.int p0), .val (.int p1), .val (.int p2), .val (.int p3), .val (.int (3 : Int32)), .val (.int v3), .val (.int v3), .val (.int v4), .val (.int v5), .val (.int v6), .val (.int v7), .val (.int v8), .val (.ref b46), .val (.int r), .val (.int (0 : Int32)), .val (.int (0 : Int32)), .val (.int (0 : Int32)), .unset] []))
                  refine Go.st (fun _ k => XS.iload X58.here hx rfl (hb hby at_290) rfl k) ?_
                  show Go p e below _ (T58.setTop (mkF m 292 #[.val (.int p0), .val (.int p1), .val (.int p2), .val (.int p3), .val (.int (3 : Int32)), .val (.int v3), .val (.int v3), .val (.int v4), .val (.int v5), .val (.int v6), .val (.int v7), .val (.int v8), .val (.ref b46), .val (.int r), .val (.int (0 : Int32)), .val (.int (0 : Int32)), .val (.int (0 : Int32)), .unset] [(.int (0 : Int32))]))
                  refine Go.st (fun _ k => XS.ifNo X58.here hx rfl (hb hby at_292) rfl ((if0 _ _).trans (teq (by decide : ((0 : Int32) = (0 : Int32)))).2) k) ?_
                  show Go p e below _ (T58.setTop (mkF m 295 #[.val (.int p0), .val (.int p1), .val (.int p2), .val (.int p3), .val (.int (3 : Int32)), .val (.int v3), .val (.int v3), .val (.int v4), .val (.int v5), .val (.int v6), .val (.int v7), .val (.int v8), .val (.ref b46), .val (.int r), .val (.int (0 : Int32)), .val (.int (0 : Int32)), .val (.int (0 : Int32)), .unset] []))
                  refine Go.st (fun _ k => XS.iload X58.here hx rfl (hb hby at_295) rfl k) ?_
                  show Go p e below _ (T58.setTop (mkF m 297 #[.val (.int p0), .val (.int p1), .val (.int p2), .val (.int p3), .val (.int (3 : Int32)), .val (.int v3), .val (.int v3), .val (.int v4), .val (.int v5), .val (.int v6), .val (.int v7), .val (.int v8), .val (.ref b46), .val (.int r), .val (.int (0 : Int32)), .val (.int (0 : Int32)), .val (.int (0 : Int32)), .unset] [(.int (0 : Int32))]))
                  refine Go.st (fun _ k => XS.ifYes X58.here hx rfl (pc0 := 297) (pc' := 304) rfl (hb hby at_297) rfl ((if0 _ _).trans (teq (by decide : ((0 : Int32) = (0 : Int32)))).1) (by decide) (by decide) k) ?_
                  show Go p e below _ (T58.setTop (mkF m 304 #[.val (.int p0), .val (.int p1), .val (.int p2), .val (.int p3), .val (.int (3 : Int32)), .val (.int v3), .val (.int v3), .val (.int v4), .val (.int v5), .val (.int v6), .val (.int v7), .val (.int v8), .val (.ref b46), .val (.int r), .val (.int (0 : Int32)), .val (.int (0 : Int32)), .val (.int (0 : Int32)), .unset] []))
                  refine Go.st (fun _ k => XS.iconst X58.here hx rfl (hb hby at_304) k) ?_
                  show Go p e below _ (T58.setTop (mkF m 305 #[.val (.int p0), .val (.int p1), .val (.int p2), .val (.int p3), .val (.int (3 : Int32)), .val (.int v3), .val (.int v3), .val (.int v4), .val (.int v5), .val (.int v6), .val (.int v7), .val (.int v8), .val (.ref b46), .val (.int r), .val (.int (0 : Int32)), .val (.int (0 : Int32)), .val (.int (0 : Int32)), .unset] [(.int (0 : Int32))]))
                  refine Go.st (fun _ k => XS.istore X58.here hx rfl (hb hby at_305) rfl (l' := #[.val (.int p0), .val (.int p1), .val (.int p2), .val (.int p3), .val (.int (3 : Int32)), .val (.int v3), .val (.int v3), .val (.int v4), .val (.int v5), .val (.int v6), .val (.int v7), .val (.int v8), .val (.ref b46), .val (.int r), .val (.int (0 : Int32)), .val (.int (0 : Int32)), .val (.int (0 : Int32)), .val (.int (0 : Int32))]) rfl k) ?_
                  show Go p e below _ (T58.setTop (mkF m 307 #[.val (.int p0), .val (.int p1), .val (.int p2), .val (.int p3), .val (.int (3 : Int32)), .val (.int v3), .val (.int v3), .val (.int v4), .val (.int v5), .val (.int v6), .val (.int v7), .val (.int v8), .val (.ref b46), .val (.int r), .val (.int (0 : Int32)), .val (.int (0 : Int32)), .val (.int (0 : Int32)), .val (.int (0 : Int32))] []))
                  refine Go.st (fun _ k => XS.aload X58.here hx rfl (hb hby at_307) rfl rfl k) ?_
                  show Go p e below _ (T58.setTop (mkF m 309 #[.val (.int p0), .val (.int p1), .val (.int p2), .val (.int p3), .val (.int (3 : Int32)), .val (.int v3), .val (.int v3), .val (.int v4), .val (.int v5), .val (.int v6), .val (.int v7), .val (.int v8), .val (.ref b46), .val (.int r), .val (.int (0 : Int32)), .val (.int (0 : Int32)), .val (.int (0 : Int32)), .val (.int (0 : Int32))] [(.ref b46)]))
                  refine Go.st (fun _ k => XS.iload X58.here hx rfl (hb hby at_309) rfl k) ?_
                  show Go p e below _ (T58.setTop (mkF m 311 #[.val (.int p0), .val (.int p1), .val (.int p2), .val (.int p3), .val (.int (3 : Int32)), .val (.int v3), .val (.int v3), .val (.int v4), .val (.int v5), .val (.int v6), .val (.int v7), .val (.int v8), .val (.ref b46), .val (.int r), .val (.int (0 : Int32)), .val (.int (0 : Int32)), .val (.int (0 : Int32)), .val (.int (0 : Int32))] [(.int r), (.ref b46)]))
                  obtain ⟨_, _, ⟨T68, L68, k68, n68⟩, -, X68, ⟨Lc68, hQ68, l68, y68, z68⟩, st68⟩ := Jvm.LawKit.callS X58 hx (y := (⟨"com/example/weir/weir/route/ValueRegions", "contains", "([II)Z"⟩ : MethodName)) hown (mvT hZ (hw _ (List.mem_of_getElem? (i := 6) rfl))) (mvT hZ (hw _ (List.mem_of_getElem? (i := 7) rfl))) (mvT hZ (hw _ (List.mem_of_getElem? (i := 8) rfl))) (mvT hZ (hw _ (List.mem_of_getElem? (i := 9) rfl))) (by decide) (backOf (W := 0) (rmC6 l Z aZ hw [] b46 r k46 v3 v4 v5 v6 v7 v8 h58 n0 V58) hZ (hw _ (List.mem_of_getElem? (i := 9) rfl)) (hw _ (List.mem_of_getElem? (i := 8) rfl)) (by decide) (by decide)) (g := (mkF m 311 #[.val (.int p0), .val (.int p1), .val (.int p2), .val (.int p3), .val (.int (3 : Int32)), .val (.int v3), .val (.int v3), .val (.int v4), .val (.int v5), .val (.int v6), .val (.int v7), .val (.int v8), .val (.ref b46), .val (.int r), .val (.int (0 : Int32)), .val (.int (0 : Int32)), .val (.int (0 : Int32)), .val (.int (0 : Int32))] [(.int r), (.ref b46)])) rfl (by rw [hml]; rfl) (argsL := [(.ref b46), (.int r)]) (rest := []) (lenOf pd93e6ecdc rfl) rfl (by show 2 * 0 + _ ≤ _; exact Nat.le_of_eq rfl) (hb hby at_311) (fun _ _ => ⟨rfl, e58, (by decide : 1 + 0 ≤ _), (by decide : 6 + 0 ≤ _)⟩)
                  dsimp only [Pt.U, Pt.locs, Pt.cells, Pt.slots] at X68 l68 y68 z68 st68 hQ68
                  subst l68 y68 z68
                  obtain ⟨rfl, N68q, e68⟩ := hQ68
                  have N68 := Fr.app N58 N68q
                  refine Go.st (fun _ k => st68 _ k) ?_
                  show Go p e below _ (T68.setTop (mkF m 314 #[.val (.int p0), .val (.int p1), .val (.int p2), .val (.int p3), .val (.int (3 : Int32)), .val (.int v3), .val (.int v3), .val (.int v4), .val (.int v5), .val (.int v6), .val (.int v7), .val (.int v8), .val (.ref b46), .val (.int r), .val (.int (0 : Int32)), .val (.int (0 : Int32)), .val (.int (0 : Int32)), .val (.int (0 : Int32))] [(.int (fC6 r v3 v4 v5 v6 v7 v8))]))
                  refine Go.st (fun _ k => XS.iload X68.here hx rfl (hb hby at_314) rfl k) ?_
                  show Go p e below _ (T68.setTop (mkF m 316 #[.val (.int p0), .val (.int p1), .val (.int p2), .val (.int p3), .val (.int (3 : Int32)), .val (.int v3), .val (.int v3), .val (.int v4), .val (.int v5), .val (.int v6), .val (.int v7), .val (.int v8), .val (.ref b46), .val (.int r), .val (.int (0 : Int32)), .val (.int (0 : Int32)), .val (.int (0 : Int32)), .val (.int (0 : Int32))] [(.int (0 : Int32)), (.int (fC6 r v3 v4 v5 v6 v7 v8))]))
                  refine Go.st (fun _ k => XS.icmpNo X68.here hx rfl (hb hby at_316) rfl (teq (by unfold fC6; rw [if_neg hc59, if_pos hc61, if_neg hc62, if_pos hc64, if_neg hc65, if_pos hc67])).2 k) ?_
                  show Go p e below _ (T68.setTop (mkF m 319 #[.val (.int p0), .val (.int p1), .val (.int p2), .val (.int p3), .val (.int (3 : Int32)), .val (.int v3), .val (.int v3), .val (.int v4), .val (.int v5), .val (.int v6), .val (.int v7), .val (.int v8), .val (.ref b46), .val (.int r), .val (.int (0 : Int32)), .val (.int (0 : Int32)), .val (.int (0 : Int32)), .val (.int (0 : Int32))] []))
                  refine Go.st (fun _ k => XS.iconst X68.here hx rfl (hb hby at_319) k) ?_
                  show Go p e below _ (T68.setTop (mkF m 320 #[.val (.int p0), .val (.int p1), .val (.int p2), .val (.int p3), .val (.int (3 : Int32)), .val (.int v3), .val (.int v3), .val (.int v4), .val (.int v5), .val (.int v6), .val (.int v7), .val (.int v8), .val (.ref b46), .val (.int r), .val (.int (0 : Int32)), .val (.int (0 : Int32)), .val (.int (0 : Int32)), .val (.int (0 : Int32))] [(.int (1 : Int32))]))
                  refine Go.st (fun _ k => XS.goto X68.here hx rfl (pc0 := 320) (pc' := 324) rfl (hb hby at_320) (by decide) (by decide) k) ?_
                  show Go p e below _ (T68.setTop (mkF m 324 #[.val (.int p0), .val (.int p1), .val (.int p2), .val (.int p3), .val (.int (3 : Int32)), .val (.int v3), .val (.int v3), .val (.int v4), .val (.int v5), .val (.int v6), .val (.int v7), .val (.int v8), .val (.ref b46), .val (.int r), .val (.int (0 : Int32)), .val (.int (0 : Int32)), .val (.int (0 : Int32)), .val (.int (0 : Int32))] [(.int (1 : Int32))]))
                  obtain ⟨fs, hr, hrun, hended, hW, hsame⟩ := X68.leave (v := some (.int (1 : Int32))) (fun h => by rw [Bd.returns] at h; cases h)
                  refine ⟨_, _, retN X68 hx (t := .boolean) Bd.returns (by simp) (hb hby at_324) hr, hrun, hended, _, _, rfl, ?_, ⟨_, rfl⟩, hW, hsame.mono (by decide) (by decide)⟩
                  show Q_rm0 Z p0 p1 p2 p3 h0 n0 _ T68.heap _
                  rw [e68]
                  exact ⟨rfl, N68⟩
                · show Go p e below _ (T58.setTop (mkF m 275 #[.val (.int p0), .val (.int p1), .val (.int p2), .val (.int p3), .val (.int (3 : Int32)), .val (.int v3), .val (.int v3), .val (.int v4), .val (.int v5), .val (.int v6), .val (.int v7), .val (.int v8), .val (.ref b46), .val (.int r), .val (.int (0 : Int32)), .val (.int (0 : Int32)), .unset, .unset] [(.int v8), (.int r)]))
                  refine Go.st (fun _ k => XS.icmpNo X58.here hx rfl (hb hby at_275) rfl (flt hc67).2.2.1 k) ?_
                  show Go p e below _ (T58.setTop (mkF m 278 #[.val (.int p0), .val (.int p1), .val (.int p2), .val (.int p3), .val (.int (3 : Int32)), .val (.int v3), .val (.int v3), .val (.int v4), .val (.int v5), .val (.int v6), .val (.int v7), .val (.int v8), .val (.ref b46), .val (.int r), .val (.int (0 : Int32)), .val (.int (0 : Int32)), .unset, .unset] []))
                  refine Go.st (fun _ k => XS.iconst X58.here hx rfl (hb hby at_278) k) ?_
                  show Go p e below _ (T58.setTop (mkF m 279 #[.val (.int p0), .val (.int p1), .val (.int p2), .val (.int p3), .val (.int (3 : Int32)), .val (.int v3), .val (.int v3), .val (.int v4), .val (.int v5), .val (.int v6), .val (.int v7), .val (.int v8), .val (.ref b46), .val (.int r), .val (.int (0 : Int32)), .val (.int (0 : Int32)), .unset, .unset] [(.int (1 : Int32))]))
                  refine Go.st (fun _ k => XS.goto X58.here hx rfl (pc0 := 279) (pc' := 283) rfl (hb hby at_279) (by decide) (by decide) k) ?_
                  show Go p e below _ (T58.setTop (mkF m 283 #[.val (.int p0), .val (.int p1), .val (.int p2), .val (.int p3), .val (.int (3 : Int32)), .val (.int v3), .val (.int v3), .val (.int v4), .val (.int v5), .val (.int v6), .val (.int v7), .val (.int v8), .val (.ref b46), .val (.int r), .val (.int (0 : Int32)), .val (.int (0 : Int32)), .unset, .unset] [(.int (1 : Int32))]))
                  refine Go.st (fun _ k => XS.istore X58.here hx rfl (hb hby at_283) rfl (l' := #[.val (.int p0), .val (.int p1), .val (.int p2), .val (.int p3), .val (.int (3 : Int32)), .val (.int v3), .val (.int v3), .val (.int v4), .val (.int v5), .val (.int v6), .val (.int v7), .val (.int v8), .val (.ref b46), .val (.int r), .val (.int (0 : Int32)), .val (.int (0 : Int32)), .val (.int (1 : Int32)), .unset]) rfl k) ?_
                  show Go p e below _ (T58.setTop (mkF m 285 #[.val (.int p0), .val (.int p1), .val (.int p2), .val (.int p3), .val (.int (3 : Int32)), .val (.int v3), .val (.int v3), .val (.int v4), .val (.int v5), .val (.int v6), .val (.int v7), .val (.int v8), .val (.ref b46), .val (.int r), .val (.int (0 : Int32)), .val (.int (0 : Int32)), .val (.int (1 : Int32)), .unset] []))
                  refine Go.st (fun _ k => XS.iload X58.here hx rfl (hb hby at_285) rfl k) ?_
                  show Go p e below _ (T58.setTop (mkF m 287 #[.val (.int p0), .val (.int p1), .val (.int p2), .val (.int p3), .val (.int (3 : Int32)), .val (.int v3), .val (.int v3), .val (.int v4), .val (.int v5), .val (.int v6), .val (.int v7), .val (.int v8), .val (.ref b46), .val (.int r), .val (.int (0 : Int32)), .val (.int (0 : Int32)), .val (.int (1 : Int32)), .unset] [(.int (0 : Int32))]))
                  refine Go.st (fun _ k => XS.ifNo X58.here hx rfl (hb hby at_287) rfl ((if0 _ _).trans (teq (by decide : ((0 : Int32) = (0 : Int32)))).2) k) ?_
                  show Go p e below _ (T58.setTop (mkF m 290 #[.val (.int p0), .val (.int p1), .val (.int p2), .val (.int p3), .val (.int (3 : Int32)), .val (.int v3), .val (.int v3), .val (.int v4), .val (.int v5), .val (.int v6), .val (.int v7), .val (.int v8), .val (.ref b46), .val (.int r), .val (.int (0 : Int32)), .val (.int (0 : Int32)), .val (.int (1 : Int32)), .unset] []))
                  refine Go.st (fun _ k => XS.iload X58.here hx rfl (hb hby at_290) rfl k) ?_
                  show Go p e below _ (T58.setTop (mkF m 292 #[.val (.int p0), .val (.int p1), .val (.int p2), .val (.int p3), .val (.int (3 : Int32)), .val (.int v3), .val (.int v3), .val (.int v4), .val (.int v5), .val (.int v6), .val (.int v7), .val (.int v8), .val (.ref b46), .val (.int r), .val (.int (0 : Int32)), .val (.int (0 : Int32)), .val (.int (1 : Int32)), .unset] [(.int (0 : Int32))]))
                  refine Go.st (fun _ k => XS.ifNo X58.here hx rfl (hb hby at_292) rfl ((if0 _ _).trans (teq (by decide : ((0 : Int32) = (0 : Int32)))).2) k) ?_
                  show Go p e below _ (T58.setTop (mkF m 295 #[.val (.int p0), .val (.int p1), .val (.int p2), .val (.int p3), .val (.int (3 : Int32)), .val (.int v3), .val (.int v3), .val (.int v4), .val (.int v5), .val (.int v6), .val (.int v7), .val (.int v8), .val (.ref b46), .val (.int r), .val (.int (0 : Int32)), .val (.int (0 : Int32)), .val (.int (1 : Int32)), .unset] []))
                  refine Go.st (fun _ k => XS.iload X58.here hx rfl (hb hby at_295) rfl k) ?_
                  show Go p e below _ (T58.setTop (mkF m 297 #[.val (.int p0), .val (.int p1), .val (.int p2), .val (.int p3), .val (.int (3 : Int32)), .val (.int v3), .val (.int v3), .val (.int v4), .val (.int v5), .val (.int v6), .val (.int v7), .val (.int v8), .val (.ref b46), .val (.int r), .val (.int (0 : Int32)), .val (.int (0 : Int32)), .val (.int (1 : Int32)), .unset] [(.int (1 : Int32))]))
                  refine Go.st (fun _ k => XS.ifNo X58.here hx rfl (hb hby at_297) rfl ((if0 _ _).trans (feq (by decide : ¬ ((1 : Int32) = (0 : Int32)))).1) k) ?_
                  show Go p e below _ (T58.setTop (mkF m 300 #[.val (.int p0), .val (.int p1), .val (.int p2), .val (.int p3), .val (.int (3 : Int32)), .val (.int v3), .val (.int v3), .val (.int v4), .val (.int v5), .val (.int v6), .val (.int v7), .val (.int v8), .val (.ref b46), .val (.int r), .val (.int (0 : Int32)), .val (.int (0 : Int32)), .val (.int (1 : Int32)), .unset] []))
                  refine Go.st (fun _ k => XS.iconst X58.here hx rfl (hb hby at_300) k) ?_
                  show Go p e below _ (T58.setTop (mkF m 301 #[.val (.int p0), .val (.int p1), .val (.int p2), .val (.int p3), .val (.int (3 : Int32)), .val (.int v3), .val (.int v3), .val (.int v4), .val (.int v5), .val (.int v6), .val (.int v7), .val (.int v8), .val (.ref b46), .val (.int r), .val (.int (0 : Int32)), .val (.int (0 : Int32)), .val (.int (1 : Int32)), .unset] [(.int (1 : Int32))]))
                  refine Go.st (fun _ k => XS.goto X58.here hx rfl (pc0 := 301) (pc' := 305) rfl (hb hby at_301) (by decide) (by decide) k) ?_
                  show Go p e below _ (T58.setTop (mkF m 305 #[.val (.int p0), .val (.int p1), .val (.int p2), .val (.int p3), .val (.int (3 : Int32)), .val (.int v3), .val (.int v3), .val (.int v4), .val (.int v5), .val (.int v6), .val (.int v7), .val (.int v8), .val (.ref b46), .val (.int r), .val (.int (0 : Int32)), .val (.int (0 : Int32)), .val (.int (1 : Int32)), .unset] [(.int (1 : Int32))]))
                  refine Go.st (fun _ k => XS.istore X58.here hx rfl (hb hby at_305) rfl (l' := #[.val (.int p0), .val (.int p1), .val (.int p2), .val (.int p3), .val (.int (3 : Int32)), .val (.int v3), .val (.int v3), .val (.int v4), .val (.int v5), .val (.int v6), .val (.int v7), .val (.int v8), .val (.ref b46), .val (.int r), .val (.int (0 : Int32)), .val (.int (0 : Int32)), .val (.int (1 : Int32)), .val (.int (1 : Int32))]) rfl k) ?_
                  show Go p e below _ (T58.setTop (mkF m 307 #[.val (.int p0), .val (.int p1), .val (.int p2), .val (.int p3), .val (.int (3 : Int32)), .val (.int v3), .val (.int v3), .val (.int v4), .val (.int v5), .val (.int v6), .val (.int v7), .val (.int v8), .val (.ref b46), .val (.int r), .val (.int (0 : Int32)), .val (.int (0 : Int32)), .val (.int (1 : Int32)), .val (.int (1 : Int32))] []))
                  refine Go.st (fun _ k => XS.aload X58.here hx rfl (hb hby at_307) rfl rfl k) ?_
                  show Go p e below _ (T58.setTop (mkF m 309 #[.val (.int p0), .val (.int p1), .val (.int p2), .val (.int p3), .val (.int (3 : Int32)), .val (.int v3), .val (.int v3), .val (.int v4), .val (.int v5), .val (.int v6), .val (.int v7), .val (.int v8), .val (.ref b46), .val (.int r), .val (.int (0 : Int32)), .val (.int (0 : Int32)), .val (.int (1 : Int32)), .val (.int (1 : Int32))] [(.ref b46)]))
                  refine Go.st (fun _ k => XS.iload X58.here hx rfl (hb hby at_309) rfl k) ?_
                  show Go p e below _ (T58.setTop (mkF m 311 #[.val (.int p0), .val (.int p1), .val (.int p2), .val (.int p3), .val (.int (3 : Int32)), .val (.int v3), .val (.int v3), .val (.int v4), .val (.int v5), .val (.int v6), .val (.int v7), .val (.int v8), .val (.ref b46), .val (.int r), .val (.int (0 : Int32)), .val (.int (0 : Int32)), .val (.int (1 : Int32)), .val (.int (1 : Int32))] [(.int r), (.ref b46)]))
                  obtain ⟨_, _, ⟨T69, L69, k69, n69⟩, -, X69, ⟨Lc69, hQ69, l69, y69, z69⟩, st69⟩ := Jvm.LawKit.callS X58 hx (y := (⟨"com/example/weir/weir/route/ValueRegions", "contains", "([II)Z"⟩ : MethodName)) hown (mvT hZ (hw _ (List.mem_of_getElem? (i := 6) rfl))) (mvT hZ (hw _ (List.mem_of_getElem? (i := 7) rfl))) (mvT hZ (hw _ (List.mem_of_getElem? (i := 8) rfl))) (mvT hZ (hw _ (List.mem_of_getElem? (i := 9) rfl))) (by decide) (backOf (W := 0) (rmC6 l Z aZ hw [] b46 r k46 v3 v4 v5 v6 v7 v8 h58 n0 V58) hZ (hw _ (List.mem_of_getElem? (i := 9) rfl)) (hw _ (List.mem_of_getElem? (i := 8) rfl)) (by decide) (by decide)) (g := (mkF m 311 #[.val (.int p0), .val (.int p1), .val (.int p2), .val (.int p3), .val (.int (3 : Int32)), .val (.int v3), .val (.int v3), .val (.int v4), .val (.int v5), .val (.int v6), .val (.int v7), .val (.int v8), .val (.ref b46), .val (.int r), .val (.int (0 : Int32)), .val (.int (0 : Int32)), .val (.int (1 : Int32)), .val (.int (1 : Int32))] [(.int r), (.ref b46)])) rfl (by rw [hml]; rfl) (argsL := [(.ref b46), (.int r)]) (rest := []) (lenOf pd93e6ecdc rfl) rfl (by show 2 * 0 + _ ≤ _; exact Nat.le_of_eq rfl) (hb hby at_311) (fun _ _ => ⟨rfl, e58, (by decide : 1 + 0 ≤ _), (by decide : 6 + 0 ≤ _)⟩)
                  dsimp only [Pt.U, Pt.locs, Pt.cells, Pt.slots] at X69 l69 y69 z69 st69 hQ69
                  subst l69 y69 z69
                  obtain ⟨rfl, N69q, e69⟩ := hQ69
                  have N69 := Fr.app N58 N69q
                  refine Go.st (fun _ k => st69 _ k) ?_
                  show Go p e below _ (T69.setTop (mkF m 314 #[.val (.int p0), .val (.int p1), .val (.int p2), .val (.int p3), .val (.int (3 : Int32)), .val (.int v3), .val (.int v3), .val (.int v4), .val (.int v5), .val (.int v6), .val (.int v7), .val (.int v8), .val (.ref b46), .val (.int r), .val (.int (0 : Int32)), .val (.int (0 : Int32)), .val (.int (1 : Int32)), .val (.int (1 : Int32))] [(.int (fC6 r v3 v4 v5 v6 v7 v8))]))
                  refine Go.st (fun _ k => XS.iload X69.here hx rfl (hb hby at_314) rfl k) ?_
                  show Go p e below _ (T69.setTop (mkF m 316 #[.val (.int p0), .val (.int p1), .val (.int p2), .val (.int p3), .val (.int (3 : Int32)), .val (.int v3), .val (.int v3), .val (.int v4), .val (.int v5), .val (.int v6), .val (.int v7), .val (.int v8), .val (.ref b46), .val (.int r), .val (.int (0 : Int32)), .val (.int (0 : Int32)), .val (.int (1 : Int32)), .val (.int (1 : Int32))] [(.int (1 : Int32)), (.int (fC6 r v3 v4 v5 v6 v7 v8))]))
                  refine Go.st (fun _ k => XS.icmpNo X69.here hx rfl (hb hby at_316) rfl (teq (by unfold fC6; rw [if_neg hc59, if_pos hc61, if_neg hc62, if_pos hc64, if_neg hc65, if_neg hc67])).2 k) ?_
                  show Go p e below _ (T69.setTop (mkF m 319 #[.val (.int p0), .val (.int p1), .val (.int p2), .val (.int p3), .val (.int (3 : Int32)), .val (.int v3), .val (.int v3), .val (.int v4), .val (.int v5), .val (.int v6), .val (.int v7), .val (.int v8), .val (.ref b46), .val (.int r), .val (.int (0 : Int32)), .val (.int (0 : Int32)), .val (.int (1 : Int32)), .val (.int (1 : Int32))] []))
                  refine Go.st (fun _ k => XS.iconst X69.here hx rfl (hb hby at_319) k) ?_
                  show Go p e below _ (T69.setTop (mkF m 320 #[.val (.int p0), .val (.int p1), .val (.int p2), .val (.int p3), .val (.int (3 : Int32)), .val (.int v3), .val (.int v3), .val (.int v4), .val (.int v5), .val (.int v6), .val (.int v7), .val (.int v8), .val (.ref b46), .val (.int r), .val (.int (0 : Int32)), .val (.int (0 : Int32)), .val (.int (1 : Int32)), .val (.int (1 : Int32))] [(.int (1 : Int32))]))
                  refine Go.st (fun _ k => XS.goto X69.here hx rfl (pc0 := 320) (pc' := 324) rfl (hb hby at_320) (by decide) (by decide) k) ?_
                  show Go p e below _ (T69.setTop (mkF m 324 #[.val (.int p0), .val (.int p1), .val (.int p2), .val (.int p3), .val (.int (3 : Int32)), .val (.int v3), .val (.int v3), .val (.int v4), .val (.int v5), .val (.int v6), .val (.int v7), .val (.int v8), .val (.ref b46), .val (.int r), .val (.int (0 : Int32)), .val (.int (0 : Int32)), .val (.int (1 : Int32)), .val (.int (1 : Int32))] [(.int (1 : Int32))]))
                  obtain ⟨fs, hr, hrun, hended, hW, hsame⟩ := X69.leave (v := some (.int (1 : Int32))) (fun h => by rw [Bd.returns] at h; cases h)
                  refine ⟨_, _, retN X69 hx (t := .boolean) Bd.returns (by simp) (hb hby at_324) hr, hrun, hended, _, _, rfl, ?_, ⟨_, rfl⟩, hW, hsame.mono (by decide) (by decide)⟩
                  show Q_rm0 Z p0 p1 p2 p3 h0 n0 _ T69.heap _
                  rw [e69]
                  exact ⟨rfl, N69⟩
            · show Go p e below _ (T58.setTop (mkF m 248 #[.val (.int p0), .val (.int p1), .val (.int p2), .val (.int p3), .val (.int (3 : Int32)), .val (.int v3), .val (.int v3), .val (.int v4), .val (.int v5), .val (.int v6), .val (.int v7), .val (.int v8), .val (.ref b46), .val (.int r), .val (.int (0 : Int32)), .unset, .unset, .unset] [(.int v6), (.int r)]))
              refine Go.st (fun _ k => XS.icmpNo X58.here hx rfl (hb hby at_248) rfl (flt hc64).2.2.1 k) ?_
              show Go p e below _ (T58.setTop (mkF m 251 #[.val (.int p0), .val (.int p1), .val (.int p2), .val (.int p3), .val (.int (3 : Int32)), .val (.int v3), .val (.int v3), .val (.int v4), .val (.int v5), .val (.int v6), .val (.int v7), .val (.int v8), .val (.ref b46), .val (.int r), .val (.int (0 : Int32)), .unset, .unset, .unset] []))
              refine Go.st (fun _ k => XS.iconst X58.here hx rfl (hb hby at_251) k) ?_
              show Go p e below _ (T58.setTop (mkF m 252 #[.val (.int p0), .val (.int p1), .val (.int p2), .val (.int p3), .val (.int (3 : Int32)), .val (.int v3), .val (.int v3), .val (.int v4), .val (.int v5), .val (.int v6), .val (.int v7), .val (.int v8), .val (.ref b46), .val (.int r), .val (.int (0 : Int32)), .unset, .unset, .unset] [(.int (1 : Int32))]))
              refine Go.st (fun _ k => XS.goto X58.here hx rfl (pc0 := 252) (pc' := 256) rfl (hb hby at_252) (by decide) (by decide) k) ?_
              show Go p e below _ (T58.setTop (mkF m 256 #[.val (.int p0), .val (.int p1), .val (.int p2), .val (.int p3), .val (.int (3 : Int32)), .val (.int v3), .val (.int v3), .val (.int v4), .val (.int v5), .val (.int v6), .val (.int v7), .val (.int v8), .val (.ref b46), .val (.int r), .val (.int (0 : Int32)), .unset, .unset, .unset] [(.int (1 : Int32))]))
              refine Go.st (fun _ k => XS.istore X58.here hx rfl (hb hby at_256) rfl (l' := #[.val (.int p0), .val (.int p1), .val (.int p2), .val (.int p3), .val (.int (3 : Int32)), .val (.int v3), .val (.int v3), .val (.int v4), .val (.int v5), .val (.int v6), .val (.int v7), .val (.int v8), .val (.ref b46), .val (.int r), .val (.int (0 : Int32)), .val (.int (1 : Int32)), .unset, .unset]) rfl k) ?_
              show Go p e below _ (T58.setTop (mkF m 258 #[.val (.int p0), .val (.int p1), .val (.int p2), .val (.int p3), .val (.int (3 : Int32)), .val (.int v3), .val (.int v3), .val (.int v4), .val (.int v5), .val (.int v6), .val (.int v7), .val (.int v8), .val (.ref b46), .val (.int r), .val (.int (0 : Int32)), .val (.int (1 : Int32)), .unset, .unset] []))
              refine Go.st (fun _ k => XS.iload X58.here hx rfl (hb hby at_258) rfl k) ?_
              show Go p e below _ (T58.setTop (mkF m 260 #[.val (.int p0), .val (.int p1), .val (.int p2), .val (.int p3), .val (.int (3 : Int32)), .val (.int v3), .val (.int v3), .val (.int v4), .val (.int v5), .val (.int v6), .val (.int v7), .val (.int v8), .val (.ref b46), .val (.int r), .val (.int (0 : Int32)), .val (.int (1 : Int32)), .unset, .unset] [(.int (3 : Int32))]))
              refine Go.st (fun _ k => XS.iconst X58.here hx rfl (hb hby at_260) k) ?_
              show Go p e below _ (T58.setTop (mkF m 261 #[.val (.int p0), .val (.int p1), .val (.int p2), .val (.int p3), .val (.int (3 : Int32)), .val (.int v3), .val (.int v3), .val (.int v4), .val (.int v5), .val (.int v6), .val (.int v7), .val (.int v8), .val (.ref b46), .val (.int r), .val (.int (0 : Int32)), .val (.int (1 : Int32)), .unset, .unset] [(.int (3 : Int32)), (.int (3 : Int32))]))
              refine Go.st (fun _ k => XS.icmpNo X58.here hx rfl (hb hby at_261) rfl (flt (by decide : ¬ ((3 : Int32) < (3 : Int32)))).1 k) ?_
              show Go p e below _ (T58.setTop (mkF m 264 #[.val (.int p0), .val (.int p1), .val (.int p2), .val (.int p3), .val (.int (3 : Int32)), .val (.int v3), .val (.int v3), .val (.int v4), .val (.int v5), .val (.int v6), .val (.int v7), .val (.int v8), .val (.ref b46), .val (.int r), .val (.int (0 : Int32)), .val (.int (1 : Int32)), .unset, .unset] []))
              refine Go.st (fun _ k => XS.iload X58.here hx rfl (hb hby at_264) rfl k) ?_
              show Go p e below _ (T58.setTop (mkF m 266 #[.val (.int p0), .val (.int p1), .val (.int p2), .val (.int p3), .val (.int (3 : Int32)), .val (.int v3), .val (.int v3), .val (.int v4), .val (.int v5), .val (.int v6), .val (.int v7), .val (.int v8), .val (.ref b46), .val (.int r), .val (.int (0 : Int32)), .val (.int (1 : Int32)), .unset, .unset] [(.int v7)]))
              refine Go.st (fun _ k => XS.iload X58.here hx rfl (hb hby at_266) rfl k) ?_
              show Go p e below _ (T58.setTop (mkF m 268 #[.val (.int p0), .val (.int p1), .val (.int p2), .val (.int p3), .val (.int (3 : Int32)), .val (.int v3), .val (.int v3), .val (.int v4), .val (.int v5), .val (.int v6), .val (.int v7), .val (.int v8), .val (.ref b46), .val (.int r), .val (.int (0 : Int32)), .val (.int (1 : Int32)), .unset, .unset] [(.int r), (.int v7)]))
              refine Go.st (fun _ k => XS.icmpYes X58.here hx rfl (pc0 := 268) (pc' := 282) rfl (hb hby at_268) rfl (tlt (Int32.lt_iff_toInt_lt.mpr (by have zhc59 : ¬ r.toInt < v3.toInt := fun y => hc59 (Int32.lt_iff_toInt_lt.mpr y); have zhc61 : v4.toInt < r.toInt := Int32.lt_iff_toInt_lt.mp hc61; have zhc62 : ¬ r.toInt < v5.toInt := fun y => hc62 (Int32.lt_iff_toInt_lt.mpr y); have zhc64 : ¬ v6.toInt < r.toInt := fun y => hc64 (Int32.lt_iff_toInt_lt.mpr y); omega))).2.2.1 (by decide) (by decide) k) ?_
              show Go p e below _ (T58.setTop (mkF m 282 #[.val (.int p0), .val (.int p1), .val (.int p2), .val (.int p3), .val (.int (3 : Int32)), .val (.int v3), .val (.int v3), .val (.int v4), .val (.int v5), .val (.int v6), .val (.int v7), .val (.int v8), .val (.ref b46), .val (.int r), .val (.int (0 : Int32)), .val (.int (1 : Int32)), .unset, .unset] []))
              refine Go.st (fun _ k => XS.iconst X58.here hx rfl (hb hby at_282) k) ?_
              show Go p e below _ (T58.setTop (mkF m 283 #[.val (.int p0), .val (.int p1), .val (.int p2), .val (.int p3), .val (.int (3 : Int32)), .val (.int v3), .val (.int v3), .val (.int v4), .val (.int v5), .val (.int v6), .val (.int v7), .val (.int v8), .val (.ref b46), .val (.int r), .val (.int (0 : Int32)), .val (.int (1 : Int32)), .unset, .unset] [(.int (0 : Int32))]))
              refine Go.st (fun _ k => XS.istore X58.here hx rfl (hb hby at_283) rfl (l' := #[.val (.int p0), .val (.int p1), .val (.int p2), .val (.int p3), .val (.int (3 : Int32)), .val (.int v3), .val (.int v3), .val (.int v4), .val (.int v5), .val (.int v6), .val (.int v7), .val (.int v8), .val (.ref b46), .val (.int r), .val (.int (0 : Int32)), .val (.int (1 : Int32)), .val (.int (0 : Int32)), .unset]) rfl k) ?_
              show Go p e below _ (T58.setTop (mkF m 285 #[.val (.int p0), .val (.int p1), .val (.int p2), .val (.int p3), .val (.int (3 : Int32)), .val (.int v3), .val (.int v3), .val (.int v4), .val (.int v5), .val (.int v6), .val (.int v7), .val (.int v8), .val (.ref b46), .val (.int r), .val (.int (0 : Int32)), .val (.int (1 : Int32)), .val (.int (0 : Int32)), .unset] []))
              refine Go.st (fun _ k => XS.iload X58.here hx rfl (hb hby at_285) rfl k) ?_
              show Go p e below _ (T58.setTop (mkF m 287 #[.val (.int p0), .val (.int p1), .val (.int p2), .val (.int p3), .val (.int (3 : Int32)), .val (.int v3), .val (.int v3), .val (.int v4), .val (.int v5), .val (.int v6), .val (.int v7), .val (.int v8), .val (.ref b46), .val (.int r), .val (.int (0 : Int32)), .val (.int (1 : Int32)), .val (.int (0 : Int32)), .unset] [(.int (0 : Int32))]))
              refine Go.st (fun _ k => XS.ifNo X58.here hx rfl (hb hby at_287) rfl ((if0 _ _).trans (teq (by decide : ((0 : Int32) = (0 : Int32)))).2) k) ?_
              show Go p e below _ (T58.setTop (mkF m 290 #[.val (.int p0), .val (.int p1), .val (.int p2), .val (.int p3), .val (.int (3 : Int32)), .val (.int v3), .val (.int v3), .val (.int v4), .val (.int v5), .val (.int v6), .val (.int v7), .val (.int v8), .val (.ref b46), .val (.int r), .val (.int (0 : Int32)), .val (.int (1 : Int32)), .val (.int (0 : Int32)), .unset] []))
              refine Go.st (fun _ k => XS.iload X58.here hx rfl (hb hby at_290) rfl k) ?_
              show Go p e below _ (T58.setTop (mkF m 292 #[.val (.int p0), .val (.int p1), .val (.int p2), .val (.int p3), .val (.int (3 : Int32)), .val (.int v3), .val (.int v3), .val (.int v4), .val (.int v5), .val (.int v6), .val (.int v7), .val (.int v8), .val (.ref b46), .val (.int r), .val (.int (0 : Int32)), .val (.int (1 : Int32)), .val (.int (0 : Int32)), .unset] [(.int (1 : Int32))]))
              refine Go.st (fun _ k => XS.ifYes X58.here hx rfl (pc0 := 292) (pc' := 300) rfl (hb hby at_292) rfl ((if0 _ _).trans (feq (by decide : ¬ ((1 : Int32) = (0 : Int32)))).2) (by decide) (by decide) k) ?_
              show Go p e below _ (T58.setTop (mkF m 300 #[.val (.int p0), .val (.int p1), .val (.int p2), .val (.int p3), .val (.int (3 : Int32)), .val (.int v3), .val (.int v3), .val (.int v4), .val (.int v5), .val (.int v6), .val (.int v7), .val (.int v8), .val (.ref b46), .val (.int r), .val (.int (0 : Int32)), .val (.int (1 : Int32)), .val (.int (0 : Int32)), .unset] []))
              refine Go.st (fun _ k => XS.iconst X58.here hx rfl (hb hby at_300) k) ?_
              show Go p e below _ (T58.setTop (mkF m 301 #[.val (.int p0), .val (.int p1), .val (.int p2), .val (.int p3), .val (.int (3 : Int32)), .val (.int v3), .val (.int v3), .val (.int v4), .val (.int v5), .val (.int v6), .val (.int v7), .val (.int v8), .val (.ref b46), .val (.int r), .val (.int (0 : Int32)), .val (.int (1 : Int32)), .val (.int (0 : Int32)), .unset] [(.int (1 : Int32))]))
              refine Go.st (fun _ k => XS.goto X58.here hx rfl (pc0 := 301) (pc' := 305) rfl (hb hby at_301) (by decide) (by decide) k) ?_
              show Go p e below _ (T58.setTop (mkF m 305 #[.val (.int p0), .val (.int p1), .val (.int p2), .val (.int p3), .val (.int (3 : Int32)), .val (.int v3), .val (.int v3), .val (.int v4), .val (.int v5), .val (.int v6), .val (.int v7), .val (.int v8), .val (.ref b46), .val (.int r), .val (.int (0 : Int32)), .val (.int (1 : Int32)), .val (.int (0 : Int32)), .unset] [(.int (1 : Int32))]))
              refine Go.st (fun _ k => XS.istore X58.here hx rfl (hb hby at_305) rfl (l' := #[.val (.int p0), .val (.int p1), .val (.int p2), .val (.int p3), .val (.int (3 : Int32)), .val (.int v3), .val (.int v3), .val (.int v4), .val (.int v5), .val (.int v6), .val (.int v7), .val (.int v8), .val (.ref b46), .val (.int r), .val (.int (0 : Int32)), .val (.int (1 : Int32)), .val (.int (0 : Int32)), .val (.int (1 : Int32))]) rfl k) ?_
              show Go p e below _ (T58.setTop (mkF m 307 #[.val (.int p0), .val (.int p1), .val (.int p2), .val (.int p3), .val (.int (3 : Int32)), .val (.int v3), .val (.int v3), .val (.int v4), .val (.int v5), .val (.int v6), .val (.int v7), .val (.int v8), .val (.ref b46), .val (.int r), .val (.int (0 : Int32)), .val (.int (1 : Int32)), .val (.int (0 : Int32)), .val (.int (1 : Int32))] []))
              refine Go.st (fun _ k => XS.aload X58.here hx rfl (hb hby at_307) rfl rfl k) ?_
              show Go p e below _ (T58.setTop (mkF m 309 #[.val (.int p0), .val (.int p1), .val (.int p2), .val (.int p3), .val (.int (3 : Int32)), .val (.int v3), .val (.int v3), .val (.int v4), .val (.int v5), .val (.int v6), .val (.int v7), .val (.int v8), .val (.ref b46), .val (.int r), .val (.int (0 : Int32)), .val (.int (1 : Int32)), .val (.int (0 : Int32)), .val (.int (1 : Int32))] [(.ref b46)]))
              refine Go.st (fun _ k => XS.iload X58.here hx rfl (hb hby at_309) rfl k) ?_
              show Go p e below _ (T58.setTop (mkF m 311 #[.val (.int p0), .val (.int p1), .val (.int p2), .val (.int p3), .val (.int (3 : Int32)), .val (.int v3), .val (.int v3), .val (.int v4), .val (.int v5), .val (.int v6), .val (.int v7), .val (.int v8), .val (.ref b46), .val (.int r), .val (.int (0 : Int32)), .val (.int (1 : Int32)), .val (.int (0 : Int32)), .val (.int (1 : Int32))] [(.int r), (.ref b46)]))
              obtain ⟨_, _, ⟨T70, L70, k70, n70⟩, -, X70, ⟨Lc70, hQ70, l70, y70, z70⟩, st70⟩ := Jvm.LawKit.callS X58 hx (y := (⟨"com/example/weir/weir/route/ValueRegions", "contains", "([II)Z"⟩ : MethodName)) hown (mvT hZ (hw _ (List.mem_of_getElem? (i := 6) rfl))) (mvT hZ (hw _ (List.mem_of_getElem? (i := 7) rfl))) (mvT hZ (hw _ (List.mem_of_getElem? (i := 8) rfl))) (mvT hZ (hw _ (List.mem_of_getElem? (i := 9) rfl))) (by decide) (backOf (W := 0) (rmC6 l Z aZ hw [] b46 r k46 v3 v4 v5 v6 v7 v8 h58 n0 V58) hZ (hw _ (List.mem_of_getElem? (i := 9) rfl)) (hw _ (List.mem_of_getElem? (i := 8) rfl)) (by decide) (by decide)) (g := (mkF m 311 #[.val (.int p0), .val (.int p1), .val (.int p2), .val (.int p3), .val (.int (3 : Int32)), .val (.int v3), .val (.int v3), .val (.int v4), .val (.int v5), .val (.int v6), .val (.int v7), .val (.int v8), .val (.ref b46), .val (.int r), .val (.int (0 : Int32)), .val (.int (1 : Int32)), .val (.int (0 : Int32)), .val (.int (1 : Int32))] [(.int r), (.ref b46)])) rfl (by rw [hml]; rfl) (argsL := [(.ref b46), (.int r)]) (rest := []) (lenOf pd93e6ecdc rfl) rfl (by show 2 * 0 + _ ≤ _; exact Nat.le_of_eq rfl) (hb hby at_311) (fun _ _ => ⟨rfl, e58, (by decide : 1 + 0 ≤ _), (by decide : 6 + 0 ≤ _)⟩)
              dsimp only [Pt.U, Pt.locs, Pt.cells, Pt.slots] at X70 l70 y70 z70 st70 hQ70
              subst l70 y70 z70
              obtain ⟨rfl, N70q, e70⟩ := hQ70
              have N70 := Fr.app N58 N70q
              refine Go.st (fun _ k => st70 _ k) ?_
              show Go p e below _ (T70.setTop (mkF m 314 #[.val (.int p0), .val (.int p1), .val (.int p2), .val (.int p3), .val (.int (3 : Int32)), .val (.int v3), .val (.int v3), .val (.int v4), .val (.int v5), .val (.int v6), .val (.int v7), .val (.int v8), .val (.ref b46), .val (.int r), .val (.int (0 : Int32)), .val (.int (1 : Int32)), .val (.int (0 : Int32)), .val (.int (1 : Int32))] [(.int (fC6 r v3 v4 v5 v6 v7 v8))]))
              refine Go.st (fun _ k => XS.iload X70.here hx rfl (hb hby at_314) rfl k) ?_
              show Go p e below _ (T70.setTop (mkF m 316 #[.val (.int p0), .val (.int p1), .val (.int p2), .val (.int p3), .val (.int (3 : Int32)), .val (.int v3), .val (.int v3), .val (.int v4), .val (.int v5), .val (.int v6), .val (.int v7), .val (.int v8), .val (.ref b46), .val (.int r), .val (.int (0 : Int32)), .val (.int (1 : Int32)), .val (.int (0 : Int32)), .val (.int (1 : Int32))] [(.int (1 : Int32)), (.int (fC6 r v3 v4 v5 v6 v7 v8))]))
              refine Go.st (fun _ k => XS.icmpNo X70.here hx rfl (hb hby at_316) rfl (teq (by unfold fC6; rw [if_neg hc59, if_pos hc61, if_neg hc62, if_neg hc64])).2 k) ?_
              show Go p e below _ (T70.setTop (mkF m 319 #[.val (.int p0), .val (.int p1), .val (.int p2), .val (.int p3), .val (.int (3 : Int32)), .val (.int v3), .val (.int v3), .val (.int v4), .val (.int v5), .val (.int v6), .val (.int v7), .val (.int v8), .val (.ref b46), .val (.int r), .val (.int (0 : Int32)), .val (.int (1 : Int32)), .val (.int (0 : Int32)), .val (.int (1 : Int32))] []))
              refine Go.st (fun _ k => XS.iconst X70.here hx rfl (hb hby at_319) k) ?_
              show Go p e below _ (T70.setTop (mkF m 320 #[.val (.int p0), .val (.int p1), .val (.int p2), .val (.int p3), .val (.int (3 : Int32)), .val (.int v3), .val (.int v3), .val (.int v4), .val (.int v5), .val (.int v6), .val (.int v7), .val (.int v8), .val (.ref b46), .val (.int r), .val (.int (0 : Int32)), .val (.int (1 : Int32)), .val (.int (0 : Int32)), .val (.int (1 : Int32))] [(.int (1 : Int32))]))
              refine Go.st (fun _ k => XS.goto X70.here hx rfl (pc0 := 320) (pc' := 324) rfl (hb hby at_320) (by decide) (by decide) k) ?_
              show Go p e below _ (T70.setTop (mkF m 324 #[.val (.int p0), .val (.int p1), .val (.int p2), .val (.int p3), .val (.int (3 : Int32)), .val (.int v3), .val (.int v3), .val (.int v4), .val (.int v5), .val (.int v6), .val (.int v7), .val (.int v8), .val (.ref b46), .val (.int r), .val (.int (0 : Int32)), .val (.int (1 : Int32)), .val (.int (0 : Int32)), .val (.int (1 : Int32))] [(.int (1 : Int32))]))
              obtain ⟨fs, hr, hrun, hended, hW, hsame⟩ := X70.leave (v := some (.int (1 : Int32))) (fun h => by rw [Bd.returns] at h; cases h)
              refine ⟨_, _, retN X70 hx (t := .boolean) Bd.returns (by simp) (hb hby at_324) hr, hrun, hended, _, _, rfl, ?_, ⟨_, rfl⟩, hW, hsame.mono (by decide) (by decide)⟩
              show Q_rm0 Z p0 p1 p2 p3 h0 n0 _ T70.heap _
              rw [e70]
              exact ⟨rfl, N70⟩
        · show Go p e below _ (T58.setTop (mkF m 221 #[.val (.int p0), .val (.int p1), .val (.int p2), .val (.int p3), .val (.int (3 : Int32)), .val (.int v3), .val (.int v3), .val (.int v4), .val (.int v5), .val (.int v6), .val (.int v7), .val (.int v8), .val (.ref b46), .val (.int r), .unset, .unset, .unset, .unset] [(.int v4), (.int r)]))
          refine Go.st (fun _ k => XS.icmpNo X58.here hx rfl (hb hby at_221) rfl (flt hc61).2.2.1 k) ?_
          show Go p e below _ (T58.setTop (mkF m 224 #[.val (.int p0), .val (.int p1), .val (.int p2), .val (.int p3), .val (.int (3 : Int32)), .val (.int v3), .val (.int v3), .val (.int v4), .val (.int v5), .val (.int v6), .val (.int v7), .val (.int v8), .val (.ref b46), .val (.int r), .unset, .unset, .unset, .unset] []))
          refine Go.st (fun _ k => XS.iconst X58.here hx rfl (hb hby at_224) k) ?_
          show Go p e below _ (T58.setTop (mkF m 225 #[.val (.int p0), .val (.int p1), .val (.int p2), .val (.int p3), .val (.int (3 : Int32)), .val (.int v3), .val (.int v3), .val (.int v4), .val (.int v5), .val (.int v6), .val (.int v7), .val (.int v8), .val (.ref b46), .val (.int r), .unset, .unset, .unset, .unset] [(.int (1 : Int32))]))
          refine Go.st (fun _ k => XS.goto X58.here hx rfl (pc0 := 225) (pc' := 229) rfl (hb hby at_225) (by decide) (by decide) k) ?_
          show Go p e below _ (T58.setTop (mkF m 229 #[.val (.int p0), .val (.int p1), .val (.int p2), .val (.int p3), .val (.int (3 : Int32)), .val (.int v3), .val (.int v3), .val (.int v4), .val (.int v5), .val (.int v6), .val (.int v7), .val (.int v8), .val (.ref b46), .val (.int r), .unset, .unset, .unset, .unset] [(.int (1 : Int32))]))
          refine Go.st (fun _ k => XS.istore X58.here hx rfl (hb hby at_229) rfl (l' := #[.val (.int p0), .val (.int p1), .val (.int p2), .val (.int p3), .val (.int (3 : Int32)), .val (.int v3), .val (.int v3), .val (.int v4), .val (.int v5), .val (.int v6), .val (.int v7), .val (.int v8), .val (.ref b46), .val (.int r), .val (.int (1 : Int32)), .unset, .unset, .unset]) rfl k) ?_
          show Go p e below _ (T58.setTop (mkF m 231 #[.val (.int p0), .val (.int p1), .val (.int p2), .val (.int p3), .val (.int (3 : Int32)), .val (.int v3), .val (.int v3), .val (.int v4), .val (.int v5), .val (.int v6), .val (.int v7), .val (.int v8), .val (.ref b46), .val (.int r), .val (.int (1 : Int32)), .unset, .unset, .unset] []))
          refine Go.st (fun _ k => XS.iload X58.here hx rfl (hb hby at_231) rfl k) ?_
          show Go p e below _ (T58.setTop (mkF m 233 #[.val (.int p0), .val (.int p1), .val (.int p2), .val (.int p3), .val (.int (3 : Int32)), .val (.int v3), .val (.int v3), .val (.int v4), .val (.int v5), .val (.int v6), .val (.int v7), .val (.int v8), .val (.ref b46), .val (.int r), .val (.int (1 : Int32)), .unset, .unset, .unset] [(.int (3 : Int32))]))
          refine Go.st (fun _ k => XS.iconst X58.here hx rfl (hb hby at_233) k) ?_
          show Go p e below _ (T58.setTop (mkF m 234 #[.val (.int p0), .val (.int p1), .val (.int p2), .val (.int p3), .val (.int (3 : Int32)), .val (.int v3), .val (.int v3), .val (.int v4), .val (.int v5), .val (.int v6), .val (.int v7), .val (.int v8), .val (.ref b46), .val (.int r), .val (.int (1 : Int32)), .unset, .unset, .unset] [(.int (2 : Int32)), (.int (3 : Int32))]))
          refine Go.st (fun _ k => XS.icmpNo X58.here hx rfl (hb hby at_234) rfl (flt (by decide : ¬ ((3 : Int32) < (2 : Int32)))).1 k) ?_
          show Go p e below _ (T58.setTop (mkF m 237 #[.val (.int p0), .val (.int p1), .val (.int p2), .val (.int p3), .val (.int (3 : Int32)), .val (.int v3), .val (.int v3), .val (.int v4), .val (.int v5), .val (.int v6), .val (.int v7), .val (.int v8), .val (.ref b46), .val (.int r), .val (.int (1 : Int32)), .unset, .unset, .unset] []))
          refine Go.st (fun _ k => XS.iload X58.here hx rfl (hb hby at_237) rfl k) ?_
          show Go p e below _ (T58.setTop (mkF m 239 #[.val (.int p0), .val (.int p1), .val (.int p2), .val (.int p3), .val (.int (3 : Int32)), .val (.int v3), .val (.int v3), .val (.int v4), .val (.int v5), .val (.int v6), .val (.int v7), .val (.int v8), .val (.ref b46), .val (.int r), .val (.int (1 : Int32)), .unset, .unset, .unset] [(.int v5)]))
          refine Go.st (fun _ k => XS.iload X58.here hx rfl (hb hby at_239) rfl k) ?_
          show Go p e below _ (T58.setTop (mkF m 241 #[.val (.int p0), .val (.int p1), .val (.int p2), .val (.int p3), .val (.int (3 : Int32)), .val (.int v3), .val (.int v3), .val (.int v4), .val (.int v5), .val (.int v6), .val (.int v7), .val (.int v8), .val (.ref b46), .val (.int r), .val (.int (1 : Int32)), .unset, .unset, .unset] [(.int r), (.int v5)]))
          refine Go.st (fun _ k => XS.icmpYes X58.here hx rfl (pc0 := 241) (pc' := 255) rfl (hb hby at_241) rfl (tlt (Int32.lt_iff_toInt_lt.mpr (by have zhc59 : ¬ r.toInt < v3.toInt := fun y => hc59 (Int32.lt_iff_toInt_lt.mpr y); have zhc61 : ¬ v4.toInt < r.toInt := fun y => hc61 (Int32.lt_iff_toInt_lt.mpr y); omega))).2.2.1 (by decide) (by decide) k) ?_
          show Go p e below _ (T58.setTop (mkF m 255 #[.val (.int p0), .val (.int p1), .val (.int p2), .val (.int p3), .val (.int (3 : Int32)), .val (.int v3), .val (.int v3), .val (.int v4), .val (.int v5), .val (.int v6), .val (.int v7), .val (.int v8), .val (.ref b46), .val (.int r), .val (.int (1 : Int32)), .unset, .unset, .unset] []))
          refine Go.st (fun _ k => XS.iconst X58.here hx rfl (hb hby at_255) k) ?_
          show Go p e below _ (T58.setTop (mkF m 256 #[.val (.int p0), .val (.int p1), .val (.int p2), .val (.int p3), .val (.int (3 : Int32)), .val (.int v3), .val (.int v3), .val (.int v4), .val (.int v5), .val (.int v6), .val (.int v7), .val (.int v8), .val (.ref b46), .val (.int r), .val (.int (1 : Int32)), .unset, .unset, .unset] [(.int (0 : Int32))]))
          refine Go.st (fun _ k => XS.istore X58.here hx rfl (hb hby at_256) rfl (l' := #[.val (.int p0), .val (.int p1), .val (.int p2), .val (.int p3), .val (.int (3 : Int32)), .val (.int v3), .val (.int v3), .val (.int v4), .val (.int v5), .val (.int v6), .val (.int v7), .val (.int v8), .val (.ref b46), .val (.int r), .val (.int (1 : Int32)), .val (.int (0 : Int32)), .unset, .unset]) rfl k) ?_
          show Go p e below _ (T58.setTop (mkF m 258 #[.val (.int p0), .val (.int p1), .val (.int p2), .val (.int p3), .val (.int (3 : Int32)), .val (.int v3), .val (.int v3), .val (.int v4), .val (.int v5), .val (.int v6), .val (.int v7), .val (.int v8), .val (.ref b46), .val (.int r), .val (.int (1 : Int32)), .val (.int (0 : Int32)), .unset, .unset] []))
          refine Go.st (fun _ k => XS.iload X58.here hx rfl (hb hby at_258) rfl k) ?_
          show Go p e below _ (T58.setTop (mkF m 260 #[.val (.int p0), .val (.int p1), .val (.int p2), .val (.int p3), .val (.int (3 : Int32)), .val (.int v3), .val (.int v3), .val (.int v4), .val (.int v5), .val (.int v6), .val (.int v7), .val (.int v8), .val (.ref b46), .val (.int r), .val (.int (1 : Int32)), .val (.int (0 : Int32)), .unset, .unset] [(.int (3 : Int32))]))
          refine Go.st (fun _ k => XS.iconst X58.here hx rfl (hb hby at_260) k) ?_
          show Go p e below _ (T58.setTop (mkF m 261 #[.val (.int p0), .val (.int p1), .val (.int p2), .val (.int p3), .val (.int (3 : Int32)), .val (.int v3), .val (.int v3), .val (.int v4), .val (.int v5), .val (.int v6), .val (.int v7), .val (.int v8), .val (.ref b46), .val (.int r), .val (.int (1 : Int32)), .val (.int (0 : Int32)), .unset, .unset] [(.int (3 : Int32)), (.int (3 : Int32))]))
          refine Go.st (fun _ k => XS.icmpNo X58.here hx rfl (hb hby at_261) rfl (flt (by decide : ¬ ((3 : Int32) < (3 : Int32)))).1 k) ?_
          show Go p e below _ (T58.setTop (mkF m 264 #[.val (.int p0), .val (.int p1), .val (.int p2), .val (.int p3), .val (.int (3 : Int32)), .val (.int v3), .val (.int v3), .val (.int v4), .val (.int v5), .val (.int v6), .val (.int v7), .val (.int v8), .val (.ref b46), .val (.int r), .val (.int (1 : Int32)), .val (.int (0 : Int32)), .unset, .unset] []))
          refine Go.st (fun _ k => XS.iload X58.here hx rfl (hb hby at_264) rfl k) ?_
          show Go p e below _ (T58.setTop (mkF m 266 #[.val (.int p0), .val (.int p1), .val (.int p2), .val (.int p3), .val (.int (3 : Int32)), .val (.int v3), .val (.int v3), .val (.int v4), .val (.int v5), .val (.int v6), .val (.int v7), .val (.int v8), .val (.ref b46), .val (.int r), .val (.int (1 : Int32)), .val (.int (0 : Int32)), .unset, .unset] [(.int v7)]))
          refine Go.st (fun _ k => XS.iload X58.here hx rfl (hb hby at_266) rfl k) ?_
          show Go p e below _ (T58.setTop (mkF m 268 #[.val (.int p0), .val (.int p1), .val (.int p2), .val (.int p3), .val (.int (3 : Int32)), .val (.int v3), .val (.int v3), .val (.int v4), .val (.int v5), .val (.int v6), .val (.int v7), .val (.int v8), .val (.ref b46), .val (.int r), .val (.int (1 : Int32)), .val (.int (0 : Int32)), .unset, .unset] [(.int r), (.int v7)]))
          refine Go.st (fun _ k => XS.icmpYes X58.here hx rfl (pc0 := 268) (pc' := 282) rfl (hb hby at_268) rfl (tlt (Int32.lt_iff_toInt_lt.mpr (by have zhc59 : ¬ r.toInt < v3.toInt := fun y => hc59 (Int32.lt_iff_toInt_lt.mpr y); have zhc61 : ¬ v4.toInt < r.toInt := fun y => hc61 (Int32.lt_iff_toInt_lt.mpr y); omega))).2.2.1 (by decide) (by decide) k) ?_
          show Go p e below _ (T58.setTop (mkF m 282 #[.val (.int p0), .val (.int p1), .val (.int p2), .val (.int p3), .val (.int (3 : Int32)), .val (.int v3), .val (.int v3), .val (.int v4), .val (.int v5), .val (.int v6), .val (.int v7), .val (.int v8), .val (.ref b46), .val (.int r), .val (.int (1 : Int32)), .val (.int (0 : Int32)), .unset, .unset] []))
          refine Go.st (fun _ k => XS.iconst X58.here hx rfl (hb hby at_282) k) ?_
          show Go p e below _ (T58.setTop (mkF m 283 #[.val (.int p0), .val (.int p1), .val (.int p2), .val (.int p3), .val (.int (3 : Int32)), .val (.int v3), .val (.int v3), .val (.int v4), .val (.int v5), .val (.int v6), .val (.int v7), .val (.int v8), .val (.ref b46), .val (.int r), .val (.int (1 : Int32)), .val (.int (0 : Int32)), .unset, .unset] [(.int (0 : Int32))]))
          refine Go.st (fun _ k => XS.istore X58.here hx rfl (hb hby at_283) rfl (l' := #[.val (.int p0), .val (.int p1), .val (.int p2), .val (.int p3), .val (.int (3 : Int32)), .val (.int v3), .val (.int v3), .val (.int v4), .val (.int v5), .val (.int v6), .val (.int v7), .val (.int v8), .val (.ref b46), .val (.int r), .val (.int (1 : Int32)), .val (.int (0 : Int32)), .val (.int (0 : Int32)), .unset]) rfl k) ?_
          show Go p e below _ (T58.setTop (mkF m 285 #[.val (.int p0), .val (.int p1), .val (.int p2), .val (.int p3), .val (.int (3 : Int32)), .val (.int v3), .val (.int v3), .val (.int v4), .val (.int v5), .val (.int v6), .val (.int v7), .val (.int v8), .val (.ref b46), .val (.int r), .val (.int (1 : Int32)), .val (.int (0 : Int32)), .val (.int (0 : Int32)), .unset] []))
          refine Go.st (fun _ k => XS.iload X58.here hx rfl (hb hby at_285) rfl k) ?_
          show Go p e below _ (T58.setTop (mkF m 287 #[.val (.int p0), .val (.int p1), .val (.int p2), .val (.int p3), .val (.int (3 : Int32)), .val (.int v3), .val (.int v3), .val (.int v4), .val (.int v5), .val (.int v6), .val (.int v7), .val (.int v8), .val (.ref b46), .val (.int r), .val (.int (1 : Int32)), .val (.int (0 : Int32)), .val (.int (0 : Int32)), .unset] [(.int (1 : Int32))]))
          refine Go.st (fun _ k => XS.ifYes X58.here hx rfl (pc0 := 287) (pc' := 300) rfl (hb hby at_287) rfl ((if0 _ _).trans (feq (by decide : ¬ ((1 : Int32) = (0 : Int32)))).2) (by decide) (by decide) k) ?_
          show Go p e below _ (T58.setTop (mkF m 300 #[.val (.int p0), .val (.int p1), .val (.int p2), .val (.int p3), .val (.int (3 : Int32)), .val (.int v3), .val (.int v3), .val (.int v4), .val (.int v5), .val (.int v6), .val (.int v7), .val (.int v8), .val (.ref b46), .val (.int r), .val (.int (1 : Int32)), .val (.int (0 : Int32)), .val (.int (0 : Int32)), .unset] []))
          refine Go.st (fun _ k => XS.iconst X58.here hx rfl (hb hby at_300) k) ?_
          show Go p e below _ (T58.setTop (mkF m 301 #[.val (.int p0), .val (.int p1), .val (.int p2), .val (.int p3), .val (.int (3 : Int32)), .val (.int v3), .val (.int v3), .val (.int v4), .val (.int v5), .val (.int v6), .val (.int v7), .val (.int v8), .val (.ref b46), .val (.int r), .val (.int (1 : Int32)), .val (.int (0 : Int32)), .val (.int (0 : Int32)), .unset] [(.int (1 : Int32))]))
          refine Go.st (fun _ k => XS.goto X58.here hx rfl (pc0 := 301) (pc' := 305) rfl (hb hby at_301) (by decide) (by decide) k) ?_
          show Go p e below _ (T58.setTop (mkF m 305 #[.val (.int p0), .val (.int p1), .val (.int p2), .val (.int p3), .val (.int (3 : Int32)), .val (.int v3), .val (.int v3), .val (.int v4), .val (.int v5), .val (.int v6), .val (.int v7), .val (.int v8), .val (.ref b46), .val (.int r), .val (.int (1 : Int32)), .val (.int (0 : Int32)), .val (.int (0 : Int32)), .unset] [(.int (1 : Int32))]))
          refine Go.st (fun _ k => XS.istore X58.here hx rfl (hb hby at_305) rfl (l' := #[.val (.int p0), .val (.int p1), .val (.int p2), .val (.int p3), .val (.int (3 : Int32)), .val (.int v3), .val (.int v3), .val (.int v4), .val (.int v5), .val (.int v6), .val (.int v7), .val (.int v8), .val (.ref b46), .val (.int r), .val (.int (1 : Int32)), .val (.int (0 : Int32)), .val (.int (0 : Int32)), .val (.int (1 : Int32))]) rfl k) ?_
          show Go p e below _ (T58.setTop (mkF m 307 #[.val (.int p0), .val (.int p1), .val (.int p2), .val (.int p3), .val (.int (3 : Int32)), .val (.int v3), .val (.int v3), .val (.int v4), .val (.int v5), .val (.int v6), .val (.int v7), .val (.int v8), .val (.ref b46), .val (.int r), .val (.int (1 : Int32)), .val (.int (0 : Int32)), .val (.int (0 : Int32)), .val (.int (1 : Int32))] []))
          refine Go.st (fun _ k => XS.aload X58.here hx rfl (hb hby at_307) rfl rfl k) ?_
          show Go p e below _ (T58.setTop (mkF m 309 #[.val (.int p0), .val (.int p1), .val (.int p2), .val (.int p3), .val (.int (3 : Int32)), .val (.int v3), .val (.int v3), .val (.int v4), .val (.int v5), .val (.int v6), .val (.int v7), .val (.int v8), .val (.ref b46), .val (.int r), .val (.int (1 : Int32)), .val (.int (0 : Int32)), .val (.int (0 : Int32)), .val (.int (1 : Int32))] [(.ref b46)]))
          refine Go.st (fun _ k => XS.iload X58.here hx rfl (hb hby at_309) rfl k) ?_
          show Go p e below _ (T58.setTop (mkF m 311 #[.val (.int p0), .val (.int p1), .val (.int p2), .val (.int p3), .val (.int (3 : Int32)), .val (.int v3), .val (.int v3), .val (.int v4), .val (.int v5), .val (.int v6), .val (.int v7), .val (.int v8), .val (.ref b46), .val (.int r), .val (.int (1 : Int32)), .val (.int (0 : Int32)), .val (.int (0 : Int32)), .val (.int (1 : Int32))] [(.int r), (.ref b46)]))
          obtain ⟨_, _, ⟨T71, L71, k71, n71⟩, -, X71, ⟨Lc71, hQ71, l71, y71, z71⟩, st71⟩ := Jvm.LawKit.callS X58 hx (y := (⟨"com/example/weir/weir/route/ValueRegions", "contains", "([II)Z"⟩ : MethodName)) hown (mvT hZ (hw _ (List.mem_of_getElem? (i := 6) rfl))) (mvT hZ (hw _ (List.mem_of_getElem? (i := 7) rfl))) (mvT hZ (hw _ (List.mem_of_getElem? (i := 8) rfl))) (mvT hZ (hw _ (List.mem_of_getElem? (i := 9) rfl))) (by decide) (backOf (W := 0) (rmC6 l Z aZ hw [] b46 r k46 v3 v4 v5 v6 v7 v8 h58 n0 V58) hZ (hw _ (List.mem_of_getElem? (i := 9) rfl)) (hw _ (List.mem_of_getElem? (i := 8) rfl)) (by decide) (by decide)) (g := (mkF m 311 #[.val (.int p0), .val (.int p1), .val (.int p2), .val (.int p3), .val (.int (3 : Int32)), .val (.int v3), .val (.int v3), .val (.int v4), .val (.int v5), .val (.int v6), .val (.int v7), .val (.int v8), .val (.ref b46), .val (.int r), .val (.int (1 : Int32)), .val (.int (0 : Int32)), .val (.int (0 : Int32)), .val (.int (1 : Int32))] [(.int r), (.ref b46)])) rfl (by rw [hml]; rfl) (argsL := [(.ref b46), (.int r)]) (rest := []) (lenOf pd93e6ecdc rfl) rfl (by show 2 * 0 + _ ≤ _; exact Nat.le_of_eq rfl) (hb hby at_311) (fun _ _ => ⟨rfl, e58, (by decide : 1 + 0 ≤ _), (by decide : 6 + 0 ≤ _)⟩)
          dsimp only [Pt.U, Pt.locs, Pt.cells, Pt.slots] at X71 l71 y71 z71 st71 hQ71
          subst l71 y71 z71
          obtain ⟨rfl, N71q, e71⟩ := hQ71
          have N71 := Fr.app N58 N71q
          refine Go.st (fun _ k => st71 _ k) ?_
          show Go p e below _ (T71.setTop (mkF m 314 #[.val (.int p0), .val (.int p1), .val (.int p2), .val (.int p3), .val (.int (3 : Int32)), .val (.int v3), .val (.int v3), .val (.int v4), .val (.int v5), .val (.int v6), .val (.int v7), .val (.int v8), .val (.ref b46), .val (.int r), .val (.int (1 : Int32)), .val (.int (0 : Int32)), .val (.int (0 : Int32)), .val (.int (1 : Int32))] [(.int (fC6 r v3 v4 v5 v6 v7 v8))]))
          refine Go.st (fun _ k => XS.iload X71.here hx rfl (hb hby at_314) rfl k) ?_
          show Go p e below _ (T71.setTop (mkF m 316 #[.val (.int p0), .val (.int p1), .val (.int p2), .val (.int p3), .val (.int (3 : Int32)), .val (.int v3), .val (.int v3), .val (.int v4), .val (.int v5), .val (.int v6), .val (.int v7), .val (.int v8), .val (.ref b46), .val (.int r), .val (.int (1 : Int32)), .val (.int (0 : Int32)), .val (.int (0 : Int32)), .val (.int (1 : Int32))] [(.int (1 : Int32)), (.int (fC6 r v3 v4 v5 v6 v7 v8))]))
          refine Go.st (fun _ k => XS.icmpNo X71.here hx rfl (hb hby at_316) rfl (teq (by unfold fC6; rw [if_neg hc59, if_neg hc61])).2 k) ?_
          show Go p e below _ (T71.setTop (mkF m 319 #[.val (.int p0), .val (.int p1), .val (.int p2), .val (.int p3), .val (.int (3 : Int32)), .val (.int v3), .val (.int v3), .val (.int v4), .val (.int v5), .val (.int v6), .val (.int v7), .val (.int v8), .val (.ref b46), .val (.int r), .val (.int (1 : Int32)), .val (.int (0 : Int32)), .val (.int (0 : Int32)), .val (.int (1 : Int32))] []))
          refine Go.st (fun _ k => XS.iconst X71.here hx rfl (hb hby at_319) k) ?_
          show Go p e below _ (T71.setTop (mkF m 320 #[.val (.int p0), .val (.int p1), .val (.int p2), .val (.int p3), .val (.int (3 : Int32)), .val (.int v3), .val (.int v3), .val (.int v4), .val (.int v5), .val (.int v6), .val (.int v7), .val (.int v8), .val (.ref b46), .val (.int r), .val (.int (1 : Int32)), .val (.int (0 : Int32)), .val (.int (0 : Int32)), .val (.int (1 : Int32))] [(.int (1 : Int32))]))
          refine Go.st (fun _ k => XS.goto X71.here hx rfl (pc0 := 320) (pc' := 324) rfl (hb hby at_320) (by decide) (by decide) k) ?_
          show Go p e below _ (T71.setTop (mkF m 324 #[.val (.int p0), .val (.int p1), .val (.int p2), .val (.int p3), .val (.int (3 : Int32)), .val (.int v3), .val (.int v3), .val (.int v4), .val (.int v5), .val (.int v6), .val (.int v7), .val (.int v8), .val (.ref b46), .val (.int r), .val (.int (1 : Int32)), .val (.int (0 : Int32)), .val (.int (0 : Int32)), .val (.int (1 : Int32))] [(.int (1 : Int32))]))
          obtain ⟨fs, hr, hrun, hended, hW, hsame⟩ := X71.leave (v := some (.int (1 : Int32))) (fun h => by rw [Bd.returns] at h; cases h)
          refine ⟨_, _, retN X71 hx (t := .boolean) Bd.returns (by simp) (hb hby at_324) hr, hrun, hended, _, _, rfl, ?_, ⟨_, rfl⟩, hW, hsame.mono (by decide) (by decide)⟩
          show Q_rm0 Z p0 p1 p2 p3 h0 n0 _ T71.heap _
          rw [e71]
          exact ⟨rfl, N71⟩
    refine Go.st (fun _ k => XS.iloadN X58.here hx rfl (hb hby at_181) rfl k) ?_
    show Go p e below _ (T58.setTop (mkF m 182 #[.val (.int p0), .val (.int p1), .val (.int p2), .val (.int p3), .val (.int (3 : Int32)), .val (.int v3), .val (.int v3), .val (.int v4), .val (.int v5), .val (.int v6), .val (.int v7), .val (.int v8), .val (.ref b46), .unset, .unset, .unset, .unset, .unset] [(.int p3)]))
    refine Go.st (fun _ k => XS.iconst X58.here hx rfl (hb hby at_182) k) ?_
    show Go p e below _ (T58.setTop (mkF m 183 #[.val (.int p0), .val (.int p1), .val (.int p2), .val (.int p3), .val (.int (3 : Int32)), .val (.int v3), .val (.int v3), .val (.int v4), .val (.int v5), .val (.int v6), .val (.int v7), .val (.int v8), .val (.ref b46), .unset, .unset, .unset, .unset, .unset] [(.int (1 : Int32)), (.int p3)]))
    refine Go.st (fun _ k => XS.iand X58.here hx rfl (hb hby at_183) rfl k) ?_
    show Go p e below _ (T58.setTop (mkF m 184 #[.val (.int p0), .val (.int p1), .val (.int p2), .val (.int p3), .val (.int (3 : Int32)), .val (.int v3), .val (.int v3), .val (.int v4), .val (.int v5), .val (.int v6), .val (.int v7), .val (.int v8), .val (.ref b46), .unset, .unset, .unset, .unset, .unset] [(.int (p3 &&& (1 : Int32)))]))
    by_cases hc72 : (p3 &&& (1 : Int32)) = (0 : Int32)
    · show Go p e below _ (T58.setTop (mkF m 184 #[.val (.int p0), .val (.int p1), .val (.int p2), .val (.int p3), .val (.int (3 : Int32)), .val (.int v3), .val (.int v3), .val (.int v4), .val (.int v5), .val (.int v6), .val (.int v7), .val (.int v8), .val (.ref b46), .unset, .unset, .unset, .unset, .unset] [(.int (p3 &&& (1 : Int32)))]))
      refine Go.st (fun _ k => XS.ifYes X58.here hx rfl (pc0 := 184) (pc' := 193) rfl (hb hby at_184) rfl ((if0 _ _).trans (teq hc72).1) (by decide) (by decide) k) ?_
      show Go p e below _ (T58.setTop (mkF m 193 #[.val (.int p0), .val (.int p1), .val (.int p2), .val (.int p3), .val (.int (3 : Int32)), .val (.int v3), .val (.int v3), .val (.int v4), .val (.int v5), .val (.int v6), .val (.int v7), .val (.int v8), .val (.ref b46), .unset, .unset, .unset, .unset, .unset] []))
      refine Go.st (fun _ k => XS.iload X58.here hx rfl (hb hby at_193) rfl k) ?_
      show Go p e below _ (T58.setTop (mkF m 195 #[.val (.int p0), .val (.int p1), .val (.int p2), .val (.int p3), .val (.int (3 : Int32)), .val (.int v3), .val (.int v3), .val (.int v4), .val (.int v5), .val (.int v6), .val (.int v7), .val (.int v8), .val (.ref b46), .unset, .unset, .unset, .unset, .unset] [(.int v3)]))
      refine Go.st (fun _ k => XS.iconst X58.here hx rfl (hb hby at_195) k) ?_
      show Go p e below _ (T58.setTop (mkF m 196 #[.val (.int p0), .val (.int p1), .val (.int p2), .val (.int p3), .val (.int (3 : Int32)), .val (.int v3), .val (.int v3), .val (.int v4), .val (.int v5), .val (.int v6), .val (.int v7), .val (.int v8), .val (.ref b46), .unset, .unset, .unset, .unset, .unset] [(.int (2 : Int32)), (.int v3)]))
      refine Go.st (fun _ k => XS.isub X58.here hx rfl (hb hby at_196) rfl k) ?_
      show Go p e below _ (T58.setTop (mkF m 197 #[.val (.int p0), .val (.int p1), .val (.int p2), .val (.int p3), .val (.int (3 : Int32)), .val (.int v3), .val (.int v3), .val (.int v4), .val (.int v5), .val (.int v6), .val (.int v7), .val (.int v8), .val (.ref b46), .unset, .unset, .unset, .unset, .unset] [(.int (v3 - (2 : Int32)))]))
      refine Go.st (fun _ k => XS.iloadN X58.here hx rfl (hb hby at_197) rfl k) ?_
      show Go p e below _ (T58.setTop (mkF m 198 #[.val (.int p0), .val (.int p1), .val (.int p2), .val (.int p3), .val (.int (3 : Int32)), .val (.int v3), .val (.int v3), .val (.int v4), .val (.int v5), .val (.int v6), .val (.int v7), .val (.int v8), .val (.ref b46), .unset, .unset, .unset, .unset, .unset] [(.int p2), (.int (v3 - (2 : Int32)))]))
      refine Go.st (fun _ k => XS.bipush X58.here hx rfl (hb hby at_198) k) ?_
      show Go p e below _ (T58.setTop (mkF m 200 #[.val (.int p0), .val (.int p1), .val (.int p2), .val (.int p3), .val (.int (3 : Int32)), .val (.int v3), .val (.int v3), .val (.int v4), .val (.int v5), .val (.int v6), .val (.int v7), .val (.int v8), .val (.ref b46), .unset, .unset, .unset, .unset, .unset] [(.int (31 : Int32)), (.int p2), (.int (v3 - (2 : Int32)))]))
      refine Go.st (fun _ k => XS.iand X58.here hx rfl (hb hby at_200) rfl k) ?_
      show Go p e below _ (T58.setTop (mkF m 201 #[.val (.int p0), .val (.int p1), .val (.int p2), .val (.int p3), .val (.int (3 : Int32)), .val (.int v3), .val (.int v3), .val (.int v4), .val (.int v5), .val (.int v6), .val (.int v7), .val (.int v8), .val (.ref b46), .unset, .unset, .unset, .unset, .unset] [(.int (p2 &&& (31 : Int32))), (.int (v3 - (2 : Int32)))]))
      refine Go.st (fun _ k => XS.iadd X58.here hx rfl (hb hby at_201) rfl k) ?_
      show Go p e below _ (T58.setTop (mkF m 202 #[.val (.int p0), .val (.int p1), .val (.int p2), .val (.int p3), .val (.int (3 : Int32)), .val (.int v3), .val (.int v3), .val (.int v4), .val (.int v5), .val (.int v6), .val (.int v7), .val (.int v8), .val (.ref b46), .unset, .unset, .unset, .unset, .unset] [(.int ((v3 - (2 : Int32)) + (p2 &&& (31 : Int32))))]))
      generalize hv73 : ((v3 - (2 : Int32)) + (p2 &&& (31 : Int32))) = v73
      refine Go.st (fun _ k => XS.istore X58.here hx rfl (hb hby at_202) rfl (l' := #[.val (.int p0), .val (.int p1), .val (.int p2), .val (.int p3), .val (.int (3 : Int32)), .val (.int v3), .val (.int v3), .val (.int v4), .val (.int v5), .val (.int v6), .val (.int v7), .val (.int v8), .val (.ref b46), .val (.int v73), .unset, .unset, .unset, .unset]) rfl k) ?_
      show Go p e below _ (T58.setTop (mkF m 204 #[.val (.int p0), .val (.int p1), .val (.int p2), .val (.int p3), .val (.int (3 : Int32)), .val (.int v3), .val (.int v3), .val (.int v4), .val (.int v5), .val (.int v6), .val (.int v7), .val (.int v8), .val (.ref b46), .val (.int v73), .unset, .unset, .unset, .unset] []))
      exact key _
    · show Go p e below _ (T58.setTop (mkF m 184 #[.val (.int p0), .val (.int p1), .val (.int p2), .val (.int p3), .val (.int (3 : Int32)), .val (.int v3), .val (.int v3), .val (.int v4), .val (.int v5), .val (.int v6), .val (.int v7), .val (.int v8), .val (.ref b46), .unset, .unset, .unset, .unset, .unset] [(.int (p3 &&& (1 : Int32)))]))
      refine Go.st (fun _ k => XS.ifNo X58.here hx rfl (hb hby at_184) rfl ((if0 _ _).trans (feq hc72).1) k) ?_
      show Go p e below _ (T58.setTop (mkF m 187 #[.val (.int p0), .val (.int p1), .val (.int p2), .val (.int p3), .val (.int (3 : Int32)), .val (.int v3), .val (.int v3), .val (.int v4), .val (.int v5), .val (.int v6), .val (.int v7), .val (.int v8), .val (.ref b46), .unset, .unset, .unset, .unset, .unset] []))
      refine Go.st (fun _ k => XS.iloadN X58.here hx rfl (hb hby at_187) rfl k) ?_
      show Go p e below _ (T58.setTop (mkF m 188 #[.val (.int p0), .val (.int p1), .val (.int p2), .val (.int p3), .val (.int (3 : Int32)), .val (.int v3), .val (.int v3), .val (.int v4), .val (.int v5), .val (.int v6), .val (.int v7), .val (.int v8), .val (.ref b46), .unset, .unset, .unset, .unset, .unset] [(.int p2)]))
      refine Go.st (fun _ k => XS.istore X58.here hx rfl (hb hby at_188) rfl (l' := #[.val (.int p0), .val (.int p1), .val (.int p2), .val (.int p3), .val (.int (3 : Int32)), .val (.int v3), .val (.int v3), .val (.int v4), .val (.int v5), .val (.int v6), .val (.int v7), .val (.int v8), .val (.ref b46), .val (.int p2), .unset, .unset, .unset, .unset]) rfl k) ?_
      show Go p e below _ (T58.setTop (mkF m 190 #[.val (.int p0), .val (.int p1), .val (.int p2), .val (.int p3), .val (.int (3 : Int32)), .val (.int v3), .val (.int v3), .val (.int v4), .val (.int v5), .val (.int v6), .val (.int v7), .val (.int v8), .val (.ref b46), .val (.int p2), .unset, .unset, .unset, .unset] []))
      refine Go.st (fun _ k => XS.goto X58.here hx rfl (pc0 := 190) (pc' := 204) rfl (hb hby at_190) (by decide) (by decide) k) ?_
      show Go p e below _ (T58.setTop (mkF m 204 #[.val (.int p0), .val (.int p1), .val (.int p2), .val (.int p3), .val (.int (3 : Int32)), .val (.int v3), .val (.int v3), .val (.int v4), .val (.int v5), .val (.int v6), .val (.int v7), .val (.int v8), .val (.ref b46), .val (.int p2), .unset, .unset, .unset, .unset] []))
      exact key _
set_option maxRecDepth 65536 in
set_option maxHeartbeats 40000000 in
theorem comes_1 {Post : Tables → Env → Array Value → State → Outcome → State → Prop} (hpost : ∀ tb e args s v u, (limb_1_1.after args s (.returned v) u = true ∧ limb_1_2.after args s (.returned v) u = true ∧ True) → FrameEnd s (.returned v) u (Jvm.fieldLocs frame_1_writes args s ++ Jvm.arrayLocs frame_1_arrays args s ++ Jvm.staticLocs frame_1_statics s) 16 128 → Post tb e args s (.returned v) u) :
    ArmFor flags0 classFile x code maxLocals ret World_1 tables_1 room_1 Calls_1 rest_1 Pre_1 Post := by
  intro l hfl _ _ p e ha hc hk s m args below hf hA hF happ hP
  obtain ⟨hcalls, hrest, hpre⟩ := hP
  obtain ⟨-, -, -, hnamed, -, -, -, hat⟩ := (Spec.applies_iff hf).mp happ
  obtain ⟨hg, hn⟩ := and_e (Cond.before_iff.mp (show (Jvm.Cond.and given_1 narrow_1).before args s = true from hpre))
  obtain ⟨g0, gr0⟩ := and_e hg
  obtain ⟨gi0, gr1⟩ := and_e gr0
  obtain ⟨gi1, gr2⟩ := and_e gr1
  obtain ⟨gi2, gr3⟩ := and_e gr2
  have gi3 := gr3
  obtain ⟨w0, w1, w2, w3, rfl⟩ : ∃ w0 w1 w2 w3 : Value, args = #[w0, w1, w2, w3] := by
    have hs : args.size = 4 := by simpa [Cond.value, given_1] using g0
    obtain ⟨L⟩ := args
    match L, hs with
    | [w0, w1, w2, w3], _ => exact ⟨w0, w1, w2, w3, rfl⟩
  have hw := fun d (hd : d ∈ tables_1) => atoms_spec (ws := Jvm.Cond.code x code maxLocals ret :: tables_1) hat d (List.mem_cons_of_mem _ hd)
  obtain ⟨i0, ei0⟩ := is_v gi0
  obtain rfl : w0 = (.int i0) := Option.some.inj ei0
  obtain ⟨i1, ei1⟩ := is_v gi1
  obtain rfl : w1 = (.int i1) := Option.some.inj ei1
  obtain ⟨i2, ei2⟩ := is_v gi2
  obtain rfl : w2 = (.int i2) := Option.some.inj ei2
  obtain ⟨i3, ei3⟩ := is_v gi3
  obtain rfl : w3 = (.int i3) := Option.some.inj ei3
  obtain ⟨n, o, h1, h2, h3, _, L, rfl, ⟨rfl, N⟩, hq⟩ := rm0 l s _ hw tables_1 i0 i1 i2 i3  s.heap s.heap.size (Nat.le_refl _) p e ha hc hk s m _ below hf ((Spec.applies_iff_loose hf).mp happ).1 ⟨rfl, State.Warmed39.refl s, rfl⟩ trivial
  refine ⟨n, _, h1, h2, h3, hpost _ _ _ _ _ _ ⟨Cond.after_iff.mpr rfl, Cond.after_iff.mpr (eq_i res_at (Term.int_eval (1)) rfl), trivial⟩ ⟨hq.1, hq.2.1, (hq.2.2.sift fun y hy => Or.inr (N y hy)).mono (by decide) (by decide)⟩⟩
theorem main_1_1 : Claimed_1_1 := comes_1 fun _ _ _ _ _ _ h hF => ⟨h.1, hF⟩
theorem main_1_2 : Claimed_1_2 := comes_1 fun _ _ _ _ _ _ h hF => ⟨h.2.1, hF⟩
end Jvm.Pilot.@@N@@
namespace Jvm.Pilot.@@N@@
open Jvm Jvm.ClassFile Sem Op Lib Jvm.Free Jvm.Stand Jvm.Pilot.@@N@@.Jvm.D
/-! MADE BY PROGRAM (witnessworld.py) out of the Statement's table words and the real class files: 10 classes; the members and pool entries that the words name. The judged class is class 1, her method 1. -/
namespace start1
open Jvm.ClassFile
def u (s : String) : CpInfo := .utf8 (stringToUtf16 s)
/-- a pool by its gaps: so many unusable entries, then the entry; so many at the end -/
def gap : Nat → List CpInfo → List CpInfo
  | 0, r => r
  | n + 1, r => .unusable :: gap n r
def poolList (es : List (Nat × CpInfo)) (last : Nat) : List CpInfo := es.foldr (fun e r => gap e.1 (e.2 :: r)) (gap last [])
def pool (es : List (Nat × CpInfo)) (last : Nat) : Array CpInfo := ⟨poolList es last⟩
def fileOf (pool : Array CpInfo) (this : Nat) (attrs : Array Attribute := #[]) (ms : Array MethodInfo := #[]) (fl : Nat := 33) (sup : Nat := 0) (ifs : Array Nat := #[]) (fds : Array FieldInfo := #[]) : ClassFile where
  minorVersion := 0
  majorVersion := 65
  constantPool := pool
  accessFlags := fl
  thisClass := this
  superClass := sup
  interfaces := ifs
  fields := fds
  methods := ms
  attributes := attrs
def plain (name : String) (sup : Option ClassId) : Class where
  name := name
  kind := .ordinary
  loader := none
  accessFlags := 33
  super := sup
  interfaces := #[]
  cf := none
  fields := #[]
  methods := #[]
  instanceTypes := #[]
  staticTypes := #[]
  resolved := #[]
  callSites := []
  init := .initialized
  statics := none
  mirror := none

def pool0 : Array CpInfo := pool [(5, u "<init>"), (0, u "()V"), (1, .class_ 10), (1, u "java/lang/Object")] 113

def k0m0 : Method := { name := "<init>", desc := "()V", sig := { parameters := [], returnType := none }, accessFlags := 1, code := none }
/-- java/lang/Object -/
def k0 : Class := { plain "java/lang/Object" none with
  accessFlags := 33
  interfaces := #[]
  cf := some (fileOf pool0 8 #[] #[{ accessFlags := 1, nameIndex := 5, descriptorIndex := 6, attributes := #[] }] 33 0 #[] #[])
  fields := #[]
  methods := #[k0m0]
  instanceTypes := #[]
  staticTypes := #[]
  resolved := Array.replicate 124 none
  statics := none }

def pool1 : Array CpInfo := pool [(2, .class_ 4), (1, u "java/lang/Object"), (0, u "<init>"), (0, u "()V"), (2, .integer 2147483628), (0, .methodref 11 12), (0, .class_ 13), (0, .nameAndType 14 15), (0, u "java/lang/Math"), (0, u "min"), (0, u "(II)I"), (0, .methodref 17 18), (0, .class_ 19), (0, .nameAndType 20 21), (0, u "com/example/weir/weir/route/ValueRegions"), (0, u "contains"), (0, u "([II)Z"), (0, .class_ 23), (0, u "com/example/weir/weir/route/ValueRegionsContainsPinLaw"), (2, u "law"), (0, u "(IIII)Z")] 5

def k1m0 : Method := { name := "<init>", desc := "()V", sig := { parameters := [], returnType := none }, accessFlags := 1, code := none }
def k1c1 : Code := { maxStack := 4, maxLocals := 18, code := code, exceptionTable := #[], attributes := #[] }
def k1m1 : Method := { name := "law", desc := "(IIII)Z", sig := { parameters := [.int, .int, .int, .int], returnType := some .boolean }, accessFlags := 9, code := some k1c1 }
/-- com/example/weir/weir/route/ValueRegionsContainsPinLaw -/
def k1 : Class := { plain "com/example/weir/weir/route/ValueRegionsContainsPinLaw" (some 0) with
  accessFlags := 49
  interfaces := #[]
  cf := some (fileOf pool1 22 #[] #[{ accessFlags := 1, nameIndex := 5, descriptorIndex := 6, attributes := #[] }, { accessFlags := 9, nameIndex := 26, descriptorIndex := 27, attributes := #[] }] 49 2 #[] #[])
  fields := #[]
  methods := #[k1m0, k1m1]
  instanceTypes := #[]
  staticTypes := #[]
  resolved := Array.replicate 33 none
  statics := none }

def pool2 : Array CpInfo := pool [(1, .class_ 2), (0, u "java/lang/Math"), (1, .class_ 6), (1, u "java/lang/Object"), (0, u "<init>"), (0, u "()V"), (89, .class_ 100), (1, u "java/lang/Math$RandomNumberGeneratorHolder"), (71, u "negativeZeroFloatBits"), (0, u "J"), (2, u "negativeZeroDoubleBits"), (24, u "min"), (43, u "$assertionsDisabled"), (0, u "Z"), (88, u "(II)I"), (2, u "twoToTheDoubleScaleDown"), (0, u "D"), (4, u "twoToTheDoubleScaleUp"), (9, u "E"), (3, u "PI"), (2, u "TAU"), (2, u "DEGREES_TO_RADIANS"), (0, u "RADIANS_TO_DEGREES")] 94

def k2m0 : Method := { name := "<init>", desc := "()V", sig := { parameters := [], returnType := none }, accessFlags := 2, code := none }
def k2c1 : Code := { maxStack := 2, maxLocals := 2, code := jdk_29_method_69_code, exceptionTable := #[], attributes := #[] }
def k2m1 : Method := { name := "min", desc := "(II)I", sig := { parameters := [.int, .int], returnType := some .int }, accessFlags := 9, code := some k2c1 }
/-- java/lang/Math -/
def k2 : Class := { plain "java/lang/Math" (some 0) with
  accessFlags := 49
  interfaces := #[]
  cf := some (fileOf pool2 1 #[.nestMembers #[98]] #[{ accessFlags := 2, nameIndex := 7, descriptorIndex := 8, attributes := #[] }, { accessFlags := 9, nameIndex := 201, descriptorIndex := 335, attributes := #[] }] 49 4 #[] #[{ accessFlags := 25, nameIndex := 354, descriptorIndex := 339, attributes := #[] }, { accessFlags := 25, nameIndex := 358, descriptorIndex := 339, attributes := #[] }, { accessFlags := 25, nameIndex := 361, descriptorIndex := 339, attributes := #[] }, { accessFlags := 26, nameIndex := 364, descriptorIndex := 339, attributes := #[] }, { accessFlags := 26, nameIndex := 365, descriptorIndex := 339, attributes := #[] }, { accessFlags := 26, nameIndex := 172, descriptorIndex := 173, attributes := #[] }, { accessFlags := 26, nameIndex := 176, descriptorIndex := 173, attributes := #[] }, { accessFlags := 8, nameIndex := 344, descriptorIndex := 339, attributes := #[] }, { accessFlags := 8, nameIndex := 338, descriptorIndex := 339, attributes := #[] }, { accessFlags := 4120, nameIndex := 245, descriptorIndex := 246, attributes := #[] }])
  fields := #[{ name := "E", type := .double, accessFlags := 25, slot := 0, constantValue := 0 }, { name := "PI", type := .double, accessFlags := 25, slot := 1, constantValue := 0 }, { name := "TAU", type := .double, accessFlags := 25, slot := 2, constantValue := 0 }, { name := "DEGREES_TO_RADIANS", type := .double, accessFlags := 26, slot := 3, constantValue := 0 }, { name := "RADIANS_TO_DEGREES", type := .double, accessFlags := 26, slot := 4, constantValue := 0 }, { name := "negativeZeroFloatBits", type := .long, accessFlags := 26, slot := 5, constantValue := 0 }, { name := "negativeZeroDoubleBits", type := .long, accessFlags := 26, slot := 6, constantValue := 0 }, { name := "twoToTheDoubleScaleUp", type := .double, accessFlags := 8, slot := 7, constantValue := 0 }, { name := "twoToTheDoubleScaleDown", type := .double, accessFlags := 8, slot := 8, constantValue := 0 }, { name := "$assertionsDisabled", type := .boolean, accessFlags := 4120, slot := 9, constantValue := 0 }]
  methods := #[k2m0, k2m1]
  instanceTypes := #[]
  staticTypes := #[.double, .double, .double, .double, .double, .long, .long, .double, .double, .boolean]
  resolved := Array.replicate 460 none
  statics := none }

def pool3 : Array CpInfo := pool [(2, .class_ 4), (1, u "java/lang/Object"), (40, .class_ 47), (1, u "com/example/weir/weir/route/ValueRegions"), (0, u "ends"), (0, u "[Ljava/lang/Object;"), (2, u "endCount"), (0, u "I"), (157, u "contains"), (0, u "([II)Z")] 23

def k3c0 : Code := { maxStack := 4, maxLocals := 3, code := prog_49_method_13_code, exceptionTable := #[], attributes := #[] }
def k3m0 : Method := { name := "contains", desc := "([II)Z", sig := { parameters := [(.array .int), .int], returnType := some .boolean }, accessFlags := 8, code := some k3c0 }
/-- com/example/weir/weir/route/ValueRegions -/
def k3 : Class := { plain "com/example/weir/weir/route/ValueRegions" (some 0) with
  accessFlags := 48
  interfaces := #[]
  cf := some (fileOf pool3 45 #[] #[{ accessFlags := 8, nameIndex := 211, descriptorIndex := 212, attributes := #[] }] 48 2 #[] #[{ accessFlags := 2, nameIndex := 48, descriptorIndex := 49, attributes := #[] }, { accessFlags := 2, nameIndex := 52, descriptorIndex := 53, attributes := #[] }])
  fields := #[{ name := "ends", type := (.array (.object "java/lang/Object")), accessFlags := 2, slot := 0, constantValue := 0 }, { name := "endCount", type := .int, accessFlags := 2, slot := 1, constantValue := 0 }]
  methods := #[k3m0]
  instanceTypes := #[(.array (.object "java/lang/Object")), .int]
  staticTypes := #[]
  resolved := Array.replicate 236 none
  statics := none }

def pool4 : Array CpInfo := pool [(1, u "java/lang/Cloneable"), (0, .class_ 1), (0, u "java/lang/Object"), (0, .class_ 3)] 3

/-- java/lang/Cloneable -/
def k4 : Class := { plain "java/lang/Cloneable" (some 0) with
  accessFlags := 1537
  interfaces := #[]
  cf := some (fileOf pool4 2 #[] #[] 1537 4 #[] #[])
  fields := #[]
  methods := #[]
  instanceTypes := #[]
  staticTypes := #[]
  resolved := Array.replicate 8 none
  statics := none }

def pool5 : Array CpInfo := pool [(1, u "java/io/Serializable"), (0, .class_ 1), (0, u "java/lang/Object"), (0, .class_ 3)] 3

/-- java/io/Serializable -/
def k5 : Class := { plain "java/io/Serializable" (some 0) with
  accessFlags := 1537
  interfaces := #[]
  cf := some (fileOf pool5 2 #[] #[] 1537 4 #[] #[])
  fields := #[]
  methods := #[]
  instanceTypes := #[]
  staticTypes := #[]
  resolved := Array.replicate 8 none
  statics := none }

/-- the primitive byte -/
def k6 : Class := { plain "byte" none with kind := .primitive 'B', accessFlags := 0x411 }
/-- [B -/
def k7 : Class := { plain "[B" (some 0) with kind := .array 6 .byte, interfaces := #[4, 5], accessFlags := 1041 }

/-- the primitive int -/
def k8 : Class := { plain "int" none with kind := .primitive 'I', accessFlags := 0x411 }
/-- [I -/
def k9 : Class := { plain "[I" (some 0) with kind := .array 8 .int, interfaces := #[4, 5], accessFlags := 1041 }

def heap : Heap := #[]
def classes : Array Class := #[k0, k1, k2, k3, k4, k5, k6, k7, k8, k9]
def interned : List (Array UInt16 × Addr) := []
def slotsUsed : Nat := 0
def theMethod : MethodId := ⟨1, 1⟩
def args0 : Array Value := #[.int 5, .int 6, .int 7, .int 8]
def aboutOver (below : List Frame) : State where
  vm := { classes := classes, interned := interned.toArray }
  heap := heap
  slotsUsed := slotsUsed
  threads := #[{ frames := .invoking theMethod args0 :: below }]
def below0 : List Frame := [.native { method := ⟨0, 0⟩, args := #[] }]
def about1 : State := aboutOver below0
def p0 : Program := .bare "" "" ""
def e0 : Env := launch0.env 0 0 0
theorem w_frames : about1.frames = Frame.invoking theMethod args0 :: below0 := rfl
set_option maxRecDepth 65536 in
theorem w_args : argsFit about1.vm theMethod args0 = true := by decide +kernel
set_option maxRecDepth 65536 in
theorem w_heap : heapFits about1 = true := by decide +kernel
set_option maxRecDepth 65536 in
theorem w_runnable : about1.curStatus? = some .runnable := by decide +kernel
set_option maxRecDepth 65536 in
theorem w_alone : about1.alone = true := by decide +kernel
set_option maxRecDepth 65536 in
theorem w_named : about1.methodNamed? x = some theMethod := by decide +kernel
set_option maxRecDepth 65536 in
theorem w_hears : about1.hears theMethod below0 = true := by decide +kernel
set_option maxRecDepth 65536 in
theorem w_ripe : about1.ripe theMethod args0 below0 = true := by decide +kernel
theorem w_running : about1.status = .running := rfl
set_option maxRecDepth 65536 in
theorem w_room : about1.hasRoom e0.platform room_1 = true :=
  launch0.hasRoom_least _ room_1 (by decide +kernel) (by decide +kernel) (by decide +kernel) (by decide +kernel) (by decide +kernel) (by decide +kernel)
theorem allAtoms_all (ts : List Jvm.Cond) (a : Array Jvm.Value) (st : Jvm.State) : (allAtoms ts).before a st = ts.all (fun c => c.before a st) := by
  induction ts with
  | nil => rfl
  | cons c t ih =>
    show (Jvm.Cond.and c (allAtoms t)).before a st = _
    rw [Jvm.Cond.before_and, ih, List.all_cons]
def words1 : List Jvm.Cond := Jvm.Cond.code x code maxLocals ret :: tables_1
/-- a 'code' word, met by the world's own term for the bytes: nothing is compared byte by byte -/
theorem code_word {y : MethodName} {bytes : ByteArray} {mx : Nat} {rt : Option FieldType} {a : Array Value} {s : State} {m : MethodId} {meth : Method} {c : Code} (h1 : s.methodNamed? y = some m) (h2 : s.vm.method? m = some meth) (h3 : meth.code = some c) (h4 : c.code = bytes)
    (h5 : (c.maxLocals == mx && c.exceptionTable.isEmpty && decide (c.maxStack ≤ mostOperands) && decide (meth.sig.returnType = rt) && !meth.locks && decide (parseMethodDescriptor y.desc = some meth.sig)) = true) : (Jvm.Cond.code y bytes mx rt).before a s = true := by
  simp only [Bool.and_eq_true, beq_iff_eq, Bool.not_eq_true', decide_eq_true_eq] at h5
  obtain ⟨⟨⟨⟨⟨g1, g2⟩, g3⟩, g4⟩, g5⟩, g6⟩ := h5
  simp [Cond.before, Cond.holds, Cond.value, h1, h2, h3, h4, g1, g2, g3, g4, g5, g6]
def isCode : Jvm.Cond → Bool
  | .code _ _ _ _ => true
  | _ => false
theorem all_split {L : List Jvm.Cond} {P : Jvm.Cond → Bool} (h1 : L.all (fun c => isCode c || P c) = true) (h2 : ∀ c ∈ L.filter isCode, P c = true) : L.all P = true := by
  refine List.all_eq_true.mpr fun c hc => ?_
  have h := List.all_eq_true.mp h1 c hc
  rcases Bool.eq_false_or_eq_true (isCode c) with hi | hi
  · exact h2 c (List.mem_filter.mpr ⟨hc, hi⟩)
  · simpa [hi] using h
set_option maxRecDepth 65536 in
theorem w_c0 : (Jvm.Cond.code x code maxLocals ret).before args0 about1 = true := code_word (m := ⟨1, 1⟩) (meth := k1m1) (c := k1c1) (by decide +kernel) rfl rfl rfl (by decide +kernel)
set_option maxRecDepth 65536 in
theorem w_c1 : (Jvm.Cond.code ({ cls := "java/lang/Math", name := "min", desc := "(II)I" } : Jvm.MethodName) jdk_29_method_69_code (2 : Nat) (Option.some Jvm.ClassFile.FieldType.int)).before args0 about1 = true := code_word (m := ⟨2, 1⟩) (meth := k2m1) (c := k2c1) (by decide +kernel) rfl rfl rfl (by decide +kernel)
set_option maxRecDepth 65536 in
theorem w_c2 : (Jvm.Cond.code ({ cls := "com/example/weir/weir/route/ValueRegions", name := "contains", desc := "([II)Z" } : Jvm.MethodName) prog_49_method_13_code (3 : Nat) (Option.some Jvm.ClassFile.FieldType.boolean)).before args0 about1 = true := code_word (m := ⟨3, 0⟩) (meth := k3m0) (c := k3c0) (by decide +kernel) rfl rfl rfl (by decide +kernel)
def codes1 : List Jvm.Cond := [Jvm.Cond.code x code maxLocals ret, Jvm.Cond.code ({ cls := "java/lang/Math", name := "min", desc := "(II)I" } : Jvm.MethodName) jdk_29_method_69_code (2 : Nat) (Option.some Jvm.ClassFile.FieldType.int), Jvm.Cond.code ({ cls := "com/example/weir/weir/route/ValueRegions", name := "contains", desc := "([II)Z" } : Jvm.MethodName) prog_49_method_13_code (3 : Nat) (Option.some Jvm.ClassFile.FieldType.boolean)]
set_option maxRecDepth 65536 in
theorem codes_eq : words1.filter isCode = codes1 := rfl
theorem w_codes : ∀ c ∈ words1.filter isCode, c.before args0 about1 = true := by
  rw [codes_eq]
  intro c hc
  simp only [codes1, List.mem_cons, List.not_mem_nil, or_false] at hc
  rcases hc with rfl | rfl | rfl
  · exact w_c0
  · exact w_c1
  · exact w_c2
set_option maxRecDepth 65536 in
theorem w_t1 : words1.all (fun c => isCode c || c.before args0 about1) = true := by decide +kernel
theorem w_tables : (allAtoms (Jvm.Cond.code x code maxLocals ret :: tables_1)).before args0 about1 = true := by
  rw [allAtoms_all]
  show words1.all (fun c => c.before args0 about1) = true
  refine all_split ?_ w_codes
  rw [w_t1]
set_option maxRecDepth 65536 in
theorem w_case : (Jvm.Cond.and given_1 narrow_1).before args0 about1 = true := by decide +kernel
theorem w_applies : (headSpec (Jvm.Cond.code x code maxLocals ret :: tables_1) room_1).applies x e0.platform about1 = true :=
  (Spec.applies_iff w_frames).mpr ⟨w_running, w_runnable, w_alone, w_named, w_hears, w_ripe, w_room, w_tables⟩
theorem atStart : AtStart classFile x code maxLocals ret World_1 tables_1 room_1 Calls_1 rest_1 Pre_1 launch0 p0 e0 about1 theMethod args0 below0 :=
  ⟨lists_1, trivial, launch0.admits_env _ _ _, launch0.least_env, fairChoices_fair.cas, fairChoices_fair.clock, w_frames, w_args, w_heap, w_applies, trivial, trivial, w_case⟩
end start1
theorem witness_1 : WitnessClaimed_1 := ⟨start1.p0, start1.e0, start1.about1, start1.theMethod, start1.args0, start1.below0, start1.atStart⟩
end Jvm.Pilot.@@N@@
