import JvmDerived
import JvmDerived.Pilot.@@N@@Statement
import JvmDerived.Pilot.@@N@@Code
set_option linter.unusedVariables false
set_option linter.unusedSimpArgs false
namespace Jvm.RoadKit
open Sem ClassFile Op Lib Jvm.Stand Jvm.Free Jvm.LawKit
section New
variable {p : Program} {l : Launch} {e : Env} {R : Room} {s : State} {m : MethodId} {args : Array Value} {below : List Frame} {meth : Method} {c : Code} {T : State} {locs : List Loc} {cells slots : Nat}
theorem retI (X : Stand p l e R s m args below meth c T locs cells slots) (hx : p.tables.exec = Jvm.exec) {pc : Nat} {Ls : Array Slot} {z : Int32} {rest : List Value} (hret : meth.sig.returnType = some .int) (hd : decode c.code pc = .ok (.ireturn, 1)) {fs : List Frame}
    (hl : ∀ (f : JFrame) (acts : List Action), f.method = m → f.locked = none → f.entered = [] → (doReturn e (T.setTop f) acts (some (.int z))).1 = T.setFrames fs) : Steps p.tables e below (T.setTop (mkF m pc Ls (.int z :: rest))) (T.setFrames fs) := by
  have hm' : T.vm.method? m = some meth := X.method'
  have hn : narrow .int (.int z) = .int z := rfl
  show Steps p.tables e below (T.setTop { method := m, pc := pc, locals := Ls, stack := _ :: rest, locked := none }) _
  jvm_step X.here [X.here.top, hx, hd, hm', hret, hn]
  first | (intro acts; rw [hl _ acts rfl rfl rfl]) | rw [hl _ _ rfl rfl rfl]
  exact Steps.refl _
theorem retJ (X : Stand p l e R s m args below meth c T locs cells slots) (hx : p.tables.exec = Jvm.exec) {pc : Nat} {Ls : Array Slot} {z : Int64} {rest : List Value} (hret : meth.sig.returnType = some .long) (hd : decode c.code pc = .ok (.lreturn, 1)) {fs : List Frame}
    (hl : ∀ (f : JFrame) (acts : List Action), f.method = m → f.locked = none → f.entered = [] → (doReturn e (T.setTop f) acts (some (.long z))).1 = T.setFrames fs) : Steps p.tables e below (T.setTop (mkF m pc Ls (.long z :: rest))) (T.setFrames fs) := by
  have hm' : T.vm.method? m = some meth := X.method'
  have hn : narrow .long (.long z) = .long z := rfl
  show Steps p.tables e below (T.setTop { method := m, pc := pc, locals := Ls, stack := _ :: rest, locked := none }) _
  jvm_step X.here [X.here.top, hx, hd, hm', hret, hn]
  first | (intro acts; rw [hl _ acts rfl rfl rfl]) | rw [hl _ _ rfl rfl rfl]
  exact Steps.refl _
theorem retA (X : Stand p l e R s m args below meth c T locs cells slots) (hx : p.tables.exec = Jvm.exec) {pc : Nat} {Ls : Array Slot} {z : Value} {t : FieldType} {rest : List Value} (hret : meth.sig.returnType = some t) (ht : t.isReference = true) (hz : z.isRef = true) (hd : decode c.code pc = .ok (.areturn, 1)) {fs : List Frame}
    (hl : ∀ (f : JFrame) (acts : List Action), f.method = m → f.locked = none → f.entered = [] → (doReturn e (T.setTop f) acts (some z)).1 = T.setFrames fs) : Steps p.tables e below (T.setTop (mkF m pc Ls (z :: rest))) (T.setFrames fs) := by
  have hm' : T.vm.method? m = some meth := X.method'
  show Steps p.tables e below (T.setTop { method := m, pc := pc, locals := Ls, stack := _ :: rest, locked := none }) _
  jvm_step X.here [X.here.top, hx, hd, hm', hret, ht, hz]
  first | (intro acts; rw [hl _ acts rfl rfl rfl]) | rw [hl _ _ rfl rfl rfl]
  exact Steps.refl _
end New
end Jvm.RoadKit
@@BLOCK:NumsL.lean.txt@@
@@BLOCK:Masks.lean.txt@@
namespace Jvm.Pilot.@@N@@
open Jvm Jvm.ClassFile Sem Op Lib Jvm.Free Jvm.Stand Jvm.LawKit Jvm.RoadKit Bundle Jvm.Pilot.@@N@@.Jvm.D
/-- the run comes from st to an end of which F holds -/
abbrev Go (p : Program) (e : Env) (below : List Frame) (F : Outcome → State → Prop) (st : State) : Prop := ∃ t o, Steps p.tables e below st t ∧ t.status = .running ∧ Ended t below o ∧ F o t
theorem Go.st {p : Program} {e : Env} {below : List Frame} {F : Outcome → State → Prop} {a b : State} (h : ∀ t, Steps p.tables e below b t → Steps p.tables e below a t) (k : Go p e below F b) : Go p e below F a := by
  obtain ⟨t, o, h1, h2⟩ := k
  exact ⟨t, o, h t h1, h2⟩
/-- Java's x % y -/
abbrev jrem (x y : Int32) : Int32 := x - (x / y) * y
abbrev jremL (x y : Int64) : Int64 := x - (x / y) * y
theorem Go.cast {p : Program} {e : Env} {below : List Frame} {F : Outcome → State → Prop} {a b : State} (h : a = b) (k : Go p e below F b) : Go p e below F a := h ▸ k
theorem d2_0 : decode jdk_30_method_1_code 0 = .ok (.aload_n 0, 1) := by decide +kernel
theorem d2_1 : decode jdk_30_method_1_code 1 = .ok (.invokespecial 1, 3) := by decide +kernel
theorem d2_4 : decode jdk_30_method_1_code 4 = .ok (.return_, 1) := by decide +kernel
theorem pn_2 : plainName "java/lang/Record" = true := by first | (simp [plainName, overriddenIn]; done) | decide +kernel
theorem ef_rm2 (m : MethodId) (a0 : Addr) : entryFrame m #[(.ref a0)] 1 = mkF m 0 #[.val (.ref a0)] [] := by first | (simp [entryFrame, mkF, argsToLocals, Value.category]; done) | rfl
def Q_rm2 (Z : State) (a0 : Addr) (h0 : Heap) (n0 : Nat) (v : Option Value) (h : Heap) (L : List Loc) : Prop := v = none ∧ Fr n0 L ∧ h = h0
abbrev F_rm2 (Z : State) (a0 : Addr) (h0 : Heap) (n0 : Nat) (s : State) (o : Outcome) (U : State) : Prop := ∃ v L, o = .returned v ∧ Q_rm2 Z a0 h0 n0 v U.heap L ∧ FrameEnd s o U L 0 0
set_option maxRecDepth 65536 in
set_option maxHeartbeats 40000000 in
theorem rm2 (l : Launch) (Z : State) (aZ : Array Value) (hw : ∀ d ∈ tables_1, d.before aZ Z = true) (ws : List Jvm.Cond) (a0 : Addr) (h0 : Heap) (n0 : Nat) :
    MetFree l (⟨"java/lang/Record", "<init>", "()V"⟩ : MethodName) (head1 (Jvm.Cond.code (⟨"java/lang/Record", "<init>", "()V"⟩ : MethodName) jdk_30_method_1_code 1 none :: ws) ({ frames := 1, cells := 0, slots := 0, locals := 12 } : Room)) (fun a U => a = #[(.ref a0)] ∧ Z.Warmed39 U.vm ∧ U.heap = h0) (fun _ _ _ _ _ => True) (fun _ U o U' => ∃ v L, o = .returned v ∧ Q_rm2 Z a0 h0 n0 v U'.heap L ∧ FrameEnd U o U' L 0 0) := by
  refine MetFree.of_bodySF (plainFor_of_name pn_2) hisR ?_
  intro p e s m args below meth c s₁ Bd hml0 hP hK
  obtain ⟨rfl, hZ, hh⟩ := hP
  have hx := Bd.exec
  have hby := Bd.bytes
  have hml : c.maxLocals = 1 := hml0
  have hown : s.vm.findClass "java/lang/Record" = some m.cls := findClass_of_methodNamed Bd.named
  have hnm := (name_of_methodNamed Bd.named Bd.method).1
  have X0 : Stand p l e ({ frames := 1, cells := 0, slots := 0, locals := 12 } : Room) s m #[(.ref a0)] below meth c s₁ [] 0 0 := Stand.of_body Bd
  have e0 : s₁.heap = h0 := by rw [← hh, Bd.state]; rfl
  have N0 := Fr.nil n0
  refine Go.st (fun _ k => castTop (ef_rm2 m a0) k) ?_
  show Go p e below _ (s₁.setTop (mkF m 0 #[.val (.ref a0)] []))
  refine Go.st (fun _ k => XS.aloadN X0.here hx rfl (hb hby d2_0) rfl rfl k) ?_
  show Go p e below _ (s₁.setTop (mkF m 1 #[.val (.ref a0)] [(.ref a0)]))
  obtain ⟨T1, X1, e1, st1⟩ := initO X0 hx hZ hown (hw _ (List.mem_of_getElem? (i := 11) rfl)) (hw _ (List.mem_of_getElem? (i := 12) rfl)) (hw _ (List.mem_of_getElem? (i := 13) rfl)) e0 (g := (mkF m 1 #[.val (.ref a0)] [(.ref a0)])) rfl (by rw [hml]; rfl) rfl (hb hby d2_1) (by decide) (W := 0) (by show 2 * 0 + _ ≤ _; exact Nat.le_of_eq rfl) (by decide)
  refine Go.st (fun _ k => st1 _ k) ?_
  show Go p e below _ (T1.setTop (mkF m 4 #[.val (.ref a0)] []))
  obtain ⟨fs, hr, hrun, hended, hW, hsame⟩ := X1.leave (v := none) (fun _ => rfl)
  refine ⟨_, _, X1.returnOut hx Bd.returns (hb hby d2_4) hr, hrun, hended, _, _, rfl, ?_, ⟨_, rfl⟩, hW, hsame.mono (by decide) (by decide)⟩
  show Q_rm2 Z a0 h0 n0 _ T1.heap _
  rw [e1]
  refine ⟨?_, N0, rfl⟩
  rfl
theorem d1_0 : decode prog_77_method_1_code 0 = .ok (.aload_n 0, 1) := by decide +kernel
theorem d1_1 : decode prog_77_method_1_code 1 = .ok (.invokespecial 1, 3) := by decide +kernel
theorem d1_4 : decode prog_77_method_1_code 4 = .ok (.aload_n 0, 1) := by decide +kernel
theorem d1_5 : decode prog_77_method_1_code 5 = .ok (.lload_n 1, 1) := by decide +kernel
theorem d1_6 : decode prog_77_method_1_code 6 = .ok (.putfield 7, 3) := by decide +kernel
theorem d1_9 : decode prog_77_method_1_code 9 = .ok (.aload_n 0, 1) := by decide +kernel
theorem d1_10 : decode prog_77_method_1_code 10 = .ok (.lload_n 3, 1) := by decide +kernel
theorem d1_11 : decode prog_77_method_1_code 11 = .ok (.putfield 13, 3) := by decide +kernel
theorem d1_14 : decode prog_77_method_1_code 14 = .ok (.return_, 1) := by decide +kernel
theorem pn_1 : plainName "com/example/sortition/sortition/partition/TokenRange" = true := by first | (simp [plainName, overriddenIn]; done) | decide +kernel
theorem pda8eb9 : parseMethodDescriptor "()V" = some ⟨[], none⟩ := by decide +kernel
theorem ef_rm1 (m : MethodId) (a0 : Addr) (q1 : Int64) (q2 : Int64) : entryFrame m #[(.ref a0), (.long q1), (.long q2)] 5 = mkF m 0 #[.val (.ref a0), .val (.long q1), .second, .val (.long q2), .second] [] := by first | (simp [entryFrame, mkF, argsToLocals, Value.category]; done) | rfl
def Q_rm1 (Z : State) (a0 : Addr) (q1 : Int64) (q2 : Int64) (h0 : Heap) (n0 : Nat) (v : Option Value) (h : Heap) (L : List Loc) : Prop := v = none ∧ Fr n0 L ∧ Keep h0 h [a0] ∧ Exa Z h a0 "com/example/sortition/sortition/partition/TokenRange" ∧ Fld Z h a0 "com/example/sortition/sortition/partition/TokenRange" "first" "J" (.long q1) ∧ Fld Z h a0 "com/example/sortition/sortition/partition/TokenRange" "last" "J" (.long q2)
abbrev F_rm1 (Z : State) (a0 : Addr) (q1 : Int64) (q2 : Int64) (h0 : Heap) (n0 : Nat) (s : State) (o : Outcome) (U : State) : Prop := ∃ v L, o = .returned v ∧ Q_rm1 Z a0 q1 q2 h0 n0 v U.heap L ∧ FrameEnd s o U L 0 0
set_option maxRecDepth 65536 in
set_option maxHeartbeats 40000000 in
theorem rm1 (l : Launch) (Z : State) (aZ : Array Value) (hw : ∀ d ∈ tables_1, d.before aZ Z = true) (ws : List Jvm.Cond) (a0 : Addr) (q1 : Int64) (q2 : Int64) (h0 : Heap) (n0 : Nat) (Z0 : n0 ≤ h0.size) (gA : n0 ≤ a0) (EA : Exa Z h0 a0 "com/example/sortition/sortition/partition/TokenRange") (FA0 : Fld Z h0 a0 "com/example/sortition/sortition/partition/TokenRange" "first" "J" (.long (0 : Int64))) (FA1 : Fld Z h0 a0 "com/example/sortition/sortition/partition/TokenRange" "last" "J" (.long (0 : Int64))) :
    MetFree l (⟨"com/example/sortition/sortition/partition/TokenRange", "<init>", "(JJ)V"⟩ : MethodName) (head1 (Jvm.Cond.code (⟨"com/example/sortition/sortition/partition/TokenRange", "<init>", "(JJ)V"⟩ : MethodName) prog_77_method_1_code 5 none :: ws) ({ frames := 2, cells := 0, slots := 0, locals := 24 } : Room)) (fun a U => a = #[(.ref a0), (.long q1), (.long q2)] ∧ Z.Warmed39 U.vm ∧ U.heap = h0) (fun _ _ _ _ _ => True) (fun _ U o U' => ∃ v L, o = .returned v ∧ Q_rm1 Z a0 q1 q2 h0 n0 v U'.heap L ∧ FrameEnd U o U' L 0 0) := by
  refine MetFree.of_bodySF (plainFor_of_name pn_1) hisR ?_
  intro p e s m args below meth c s₁ Bd hml0 hP hK
  obtain ⟨rfl, hZ, hh⟩ := hP
  have hx := Bd.exec
  have hby := Bd.bytes
  have hml : c.maxLocals = 5 := hml0
  have hown : s.vm.findClass "com/example/sortition/sortition/partition/TokenRange" = some m.cls := findClass_of_methodNamed Bd.named
  have hnm := (name_of_methodNamed Bd.named Bd.method).1
  have X0 : Stand p l e ({ frames := 2, cells := 0, slots := 0, locals := 24 } : Room) s m #[(.ref a0), (.long q1), (.long q2)] below meth c s₁ [] 0 0 := Stand.of_body Bd
  have e0 : s₁.heap = h0 := by rw [← hh, Bd.state]; rfl
  have N0 := Fr.nil n0
  refine Go.st (fun _ k => castTop (ef_rm1 m a0 q1 q2) k) ?_
  have K0 : Keep h0 h0 [a0] := Keep.refl h0 _
  show Go p e below _ (s₁.setTop (mkF m 0 #[.val (.ref a0), .val (.long q1), .second, .val (.long q2), .second] []))
  refine Go.st (fun _ k => XS.aloadN X0.here hx rfl (hb hby d1_0) rfl rfl k) ?_
  show Go p e below _ (s₁.setTop (mkF m 1 #[.val (.ref a0), .val (.long q1), .second, .val (.long q2), .second] [(.ref a0)]))
  obtain ⟨_, _, ⟨T1, L1, k1, n1⟩, -, X1, ⟨Lc1, hQ1, l1, y1, z1⟩, st1⟩ := X0.specialBack hx (y := (⟨"java/lang/Record", "<init>", "()V"⟩ : MethodName)) rfl hown (mvT hZ (hw _ (List.mem_of_getElem? (i := 6) rfl))) (mvT hZ (hw _ (List.mem_of_getElem? (i := 7) rfl))) (mvT hZ (hw _ (List.mem_of_getElem? (i := 10) rfl))) (by decide) (backOf (W := 0) (rm2 l Z aZ hw [] a0 h0 n0 ) hZ (hw _ (List.mem_of_getElem? (i := 10) rfl)) (hw _ (List.mem_of_getElem? (i := 9) rfl)) (by decide) (by decide)) (g := (mkF m 1 #[.val (.ref a0), .val (.long q1), .second, .val (.long q2), .second] [(.ref a0)])) rfl (by rw [hml]; rfl) (Steps.refl _) (a := a0) (argsL := []) (rest := []) (lenOf pda8eb9 rfl) rfl (by show 2 * 0 + _ ≤ _; exact Nat.le_of_eq rfl) (hb hby d1_1) (fun _ _ => ⟨rfl, e0, (by decide : 0 + 0 ≤ _), (by decide : 0 + 0 ≤ _)⟩)
  dsimp only [Pt.U, Pt.locs, Pt.cells, Pt.slots] at X1 l1 y1 z1 st1 hQ1
  subst l1 y1 z1
  obtain ⟨rfl, N1q, e1⟩ := hQ1
  have N1 := Fr.app N0 N1q
  refine Go.st (fun _ k => st1.trans k) ?_
  show Go p e below _ (T1.setTop (mkF m 4 #[.val (.ref a0), .val (.long q1), .second, .val (.long q2), .second] []))
  refine Go.st (fun _ k => XS.aloadN X1.here hx rfl (hb hby d1_4) rfl rfl k) ?_
  show Go p e below _ (T1.setTop (mkF m 5 #[.val (.ref a0), .val (.long q1), .second, .val (.long q2), .second] [(.ref a0)]))
  refine Go.st (fun _ k => XS.lloadN X1.here hx rfl (hb hby d1_5) rfl k) ?_
  show Go p e below _ (T1.setTop (mkF m 6 #[.val (.ref a0), .val (.long q1), .second, .val (.long q2), .second] [(.long q1), (.ref a0)]))
  obtain ⟨T2, h2, X2, e2, W2, st2⟩ := putF X1 hx hZ hown (host := "") (Or.inl (hw _ (List.mem_of_getElem? (i := 14) rfl))) Via.refl e1 FA0 EA (Or.inr ⟨(hw _ (List.mem_of_getElem? (i := 15) rfl)), rfl, hnm⟩) (hw _ (List.mem_of_getElem? (i := 1) rfl)) (ty := .long) (by decide) rfl rfl (g := (mkF m 6 #[.val (.ref a0), .val (.long q1), .second, .val (.long q2), .second] [(.long q1), (.ref a0)])) rfl rfl (hb hby d1_6)
  have F2_E_a0 := EA.wr W2
  have F2_F_a0_last := FA1.other W2 (Or.inr (slot_ne (Or.inr (hw _ (List.mem_of_getElem? (i := 17) rfl))) (Or.inr (hw _ (List.mem_of_getElem? (i := 15) rfl))) (by decide) (t := .long) (t' := .long) (by decide) (by decide)))
  have Fw2 := FA0.same W2
  have N2 := Fr.snoc X2 N1 gA
  have K2 : Keep h0 h2 [a0] := K0.wr W2 (Or.inl (List.mem_of_getElem? (i := 0) rfl))
  have Z2 : n0 ≤ h2.size := by rw [W2.size]; exact Z0
  refine Go.st (fun _ k => st2 _ k) ?_
  show Go p e below _ (T2.setTop (mkF m 9 #[.val (.ref a0), .val (.long q1), .second, .val (.long q2), .second] []))
  refine Go.st (fun _ k => XS.aloadN X2.here hx rfl (hb hby d1_9) rfl rfl k) ?_
  show Go p e below _ (T2.setTop (mkF m 10 #[.val (.ref a0), .val (.long q1), .second, .val (.long q2), .second] [(.ref a0)]))
  refine Go.st (fun _ k => XS.lloadN X2.here hx rfl (hb hby d1_10) rfl k) ?_
  show Go p e below _ (T2.setTop (mkF m 11 #[.val (.ref a0), .val (.long q1), .second, .val (.long q2), .second] [(.long q2), (.ref a0)]))
  obtain ⟨T3, h3, X3, e3, W3, st3⟩ := putF X2 hx hZ hown (host := "") (Or.inl (hw _ (List.mem_of_getElem? (i := 16) rfl))) Via.refl e2 F2_F_a0_last F2_E_a0 (Or.inr ⟨(hw _ (List.mem_of_getElem? (i := 17) rfl)), rfl, hnm⟩) (hw _ (List.mem_of_getElem? (i := 1) rfl)) (ty := .long) (by decide) rfl rfl (g := (mkF m 11 #[.val (.ref a0), .val (.long q1), .second, .val (.long q2), .second] [(.long q2), (.ref a0)])) rfl rfl (hb hby d1_11)
  have F3_E_a0 := F2_E_a0.wr W3
  have F3_F_a0_first := Fw2.other W3 (Or.inr (slot_ne (Or.inr (hw _ (List.mem_of_getElem? (i := 15) rfl))) (Or.inr (hw _ (List.mem_of_getElem? (i := 17) rfl))) (by decide) (t := .long) (t' := .long) (by decide) (by decide)))
  have Fw3 := F2_F_a0_last.same W3
  have N3 := Fr.snoc X3 N2 gA
  have K3 : Keep h0 h3 [a0] := K2.wr W3 (Or.inl (List.mem_of_getElem? (i := 0) rfl))
  have Z3 : n0 ≤ h3.size := by rw [W3.size]; exact Z2
  refine Go.st (fun _ k => st3 _ k) ?_
  show Go p e below _ (T3.setTop (mkF m 14 #[.val (.ref a0), .val (.long q1), .second, .val (.long q2), .second] []))
  obtain ⟨fs, hr, hrun, hended, hW, hsame⟩ := X3.leave (v := none) (fun _ => rfl)
  refine ⟨_, _, X3.returnOut hx Bd.returns (hb hby d1_14) hr, hrun, hended, _, _, rfl, ?_, ⟨_, rfl⟩, hW, hsame.mono (by decide) (by decide)⟩
  show Q_rm1 Z a0 q1 q2 h0 n0 _ T3.heap _
  rw [e3]
  exact ⟨rfl, N3, K3, F3_E_a0, F3_F_a0_first, Fw3⟩
theorem d4_0 : decode prog_77_method_3_code 0 = .ok (.aload_n 0, 1) := by decide +kernel
theorem d4_1 : decode prog_77_method_3_code 1 = .ok (.getfield 7, 3) := by decide +kernel
theorem d4_4 : decode prog_77_method_3_code 4 = .ok (.aload_n 0, 1) := by decide +kernel
theorem d4_5 : decode prog_77_method_3_code 5 = .ok (.getfield 13, 3) := by decide +kernel
theorem d4_8 : decode prog_77_method_3_code 8 = .ok (.lcmp, 1) := by decide +kernel
theorem d4_9 : decode prog_77_method_3_code 9 = .ok (.ifCond .le 7, 3) := by decide +kernel
theorem d4_12 : decode prog_77_method_3_code 12 = .ok (.iconst 1, 1) := by decide +kernel
theorem d4_13 : decode prog_77_method_3_code 13 = .ok (.goto 4, 3) := by decide +kernel
theorem d4_16 : decode prog_77_method_3_code 16 = .ok (.iconst 0, 1) := by decide +kernel
theorem d4_17 : decode prog_77_method_3_code 17 = .ok (.ireturn, 1) := by decide +kernel
theorem pn_4 : plainName "com/example/sortition/sortition/partition/TokenRange" = true := by first | (simp [plainName, overriddenIn]; done) | decide +kernel
theorem ef_rm4 (m : MethodId) (a0 : Addr) : entryFrame m #[(.ref a0)] 1 = mkF m 0 #[.val (.ref a0)] [] := by first | (simp [entryFrame, mkF, argsToLocals, Value.category]; done) | rfl
def fEmpty (u0 : Int64) (u1 : Int64) : Int32 := if u1 < u0 then (1 : Int32) else (0 : Int32)
def Q_rm4 (Z : State) (a0 : Addr) (u0 : Int64) (u1 : Int64) (h0 : Heap) (n0 : Nat) (v : Option Value) (h : Heap) (L : List Loc) : Prop := v = some (.int (fEmpty u0 u1)) ∧ Fr n0 L ∧ h = h0
abbrev F_rm4 (Z : State) (a0 : Addr) (u0 : Int64) (u1 : Int64) (h0 : Heap) (n0 : Nat) (s : State) (o : Outcome) (U : State) : Prop := ∃ v L, o = .returned v ∧ Q_rm4 Z a0 u0 u1 h0 n0 v U.heap L ∧ FrameEnd s o U L 0 0
set_option maxRecDepth 65536 in
set_option maxHeartbeats 40000000 in
theorem rm4 (l : Launch) (Z : State) (aZ : Array Value) (hw : ∀ d ∈ tables_1, d.before aZ Z = true) (ws : List Jvm.Cond) (a0 : Addr) (u0 : Int64) (u1 : Int64) (h0 : Heap) (n0 : Nat) (F_u0 : Fld Z h0 a0 "com/example/sortition/sortition/partition/TokenRange" "first" "J" (.long u0)) (F_u1 : Fld Z h0 a0 "com/example/sortition/sortition/partition/TokenRange" "last" "J" (.long u1)) :
    MetFree l (⟨"com/example/sortition/sortition/partition/TokenRange", "isEmpty", "()Z"⟩ : MethodName) (head1 (Jvm.Cond.code (⟨"com/example/sortition/sortition/partition/TokenRange", "isEmpty", "()Z"⟩ : MethodName) prog_77_method_3_code 1 (some .boolean) :: ws) ({ frames := 0, cells := 0, slots := 0, locals := 0 } : Room)) (fun a U => a = #[(.ref a0)] ∧ Z.Warmed39 U.vm ∧ U.heap = h0) (fun _ _ _ _ _ => True) (fun _ U o U' => ∃ v L, o = .returned v ∧ Q_rm4 Z a0 u0 u1 h0 n0 v U'.heap L ∧ FrameEnd U o U' L 0 0) := by
  refine MetFree.of_bodySF (plainFor_of_name pn_4) hisR ?_
  intro p e s m args below meth c s₁ Bd hml0 hP hK
  obtain ⟨rfl, hZ, hh⟩ := hP
  have hx := Bd.exec
  have hby := Bd.bytes
  have hml : c.maxLocals = 1 := hml0
  have hown : s.vm.findClass "com/example/sortition/sortition/partition/TokenRange" = some m.cls := findClass_of_methodNamed Bd.named
  have hnm := (name_of_methodNamed Bd.named Bd.method).1
  have X0 : Stand p l e ({ frames := 0, cells := 0, slots := 0, locals := 0 } : Room) s m #[(.ref a0)] below meth c s₁ [] 0 0 := Stand.of_body Bd
  have e0 : s₁.heap = h0 := by rw [← hh, Bd.state]; rfl
  have N0 := Fr.nil n0
  refine Go.st (fun _ k => castTop (ef_rm4 m a0) k) ?_
  show Go p e below _ (s₁.setTop (mkF m 0 #[.val (.ref a0)] []))
  refine Go.st (fun _ k => XS.aloadN X0.here hx rfl (hb hby d4_0) rfl rfl k) ?_
  show Go p e below _ (s₁.setTop (mkF m 1 #[.val (.ref a0)] [(.ref a0)]))
  obtain ⟨T1, X1, e1, st1⟩ := getF X0 hx hZ hown (host := "") (Or.inl (hw _ (List.mem_of_getElem? (i := 14) rfl))) Via.refl e0 F_u0 (g := (mkF m 1 #[.val (.ref a0)] [(.ref a0)])) rfl rfl (hb hby d4_1)
  refine Go.st (fun _ k => st1 _ k) ?_
  show Go p e below _ (T1.setTop (mkF m 4 #[.val (.ref a0)] [(.long u0)]))
  refine Go.st (fun _ k => XS.aloadN X1.here hx rfl (hb hby d4_4) rfl rfl k) ?_
  show Go p e below _ (T1.setTop (mkF m 5 #[.val (.ref a0)] [(.ref a0), (.long u0)]))
  obtain ⟨T2, X2, e2, st2⟩ := getF X1 hx hZ hown (host := "") (Or.inl (hw _ (List.mem_of_getElem? (i := 16) rfl))) Via.refl e1 F_u1 (g := (mkF m 5 #[.val (.ref a0)] [(.ref a0), (.long u0)])) rfl rfl (hb hby d4_5)
  refine Go.st (fun _ k => st2 _ k) ?_
  show Go p e below _ (T2.setTop (mkF m 8 #[.val (.ref a0)] [(.long u1), (.long u0)]))
  refine Go.st (fun _ k => XS.lcmp X2.here hx rfl (hb hby d4_8) rfl k) ?_
  show Go p e below _ (T2.setTop (mkF m 9 #[.val (.ref a0)] [(.int (lcmpW u0 u1))]))
  by_cases hc3 : u1 < u0
  · show Go p e below _ (T2.setTop (mkF m 9 #[.val (.ref a0)] [(.int (lcmpW u0 u1))]))
    refine Go.st (fun _ k => XS.ifNo X2.here hx rfl (hb hby d4_9) rfl ((if0 _ _).trans (tlt ((lw_gt _ _).mpr hc3)).2.2.2) k) ?_
    show Go p e below _ (T2.setTop (mkF m 12 #[.val (.ref a0)] []))
    refine Go.st (fun _ k => XS.iconst X2.here hx rfl (hb hby d4_12) k) ?_
    show Go p e below _ (T2.setTop (mkF m 13 #[.val (.ref a0)] [(.int (1 : Int32))]))
    refine Go.st (fun _ k => XS.goto X2.here hx rfl (pc0 := 13) (pc' := 17) rfl (hb hby d4_13) (by decide) (by decide) k) ?_
    show Go p e below _ (T2.setTop (mkF m 17 #[.val (.ref a0)] [(.int (1 : Int32))]))
    obtain ⟨fs, hr, hrun, hended, hW, hsame⟩ := X2.leave (v := some (.int (1 : Int32))) (fun h => by rw [Bd.returns] at h; cases h)
    refine ⟨_, _, retN X2 hx (t := .boolean) Bd.returns (by simp) (hb hby d4_17) hr, hrun, hended, _, _, rfl, ?_, ⟨_, rfl⟩, hW, hsame.mono (by decide) (by decide)⟩
    show Q_rm4 Z a0 u0 u1 h0 n0 _ T2.heap _
    rw [e2]
    refine ⟨?_, N0, rfl⟩
    unfold fEmpty
    rw [if_pos hc3]
  · show Go p e below _ (T2.setTop (mkF m 9 #[.val (.ref a0)] [(.int (lcmpW u0 u1))]))
    refine Go.st (fun _ k => XS.ifYes X2.here hx rfl (pc0 := 9) (pc' := 16) rfl (hb hby d4_9) rfl ((if0 _ _).trans (flt (fun z => hc3 ((lw_gt _ _).mp z))).2.2.2) (by decide) (by decide) k) ?_
    show Go p e below _ (T2.setTop (mkF m 16 #[.val (.ref a0)] []))
    refine Go.st (fun _ k => XS.iconst X2.here hx rfl (hb hby d4_16) k) ?_
    show Go p e below _ (T2.setTop (mkF m 17 #[.val (.ref a0)] [(.int (0 : Int32))]))
    obtain ⟨fs, hr, hrun, hended, hW, hsame⟩ := X2.leave (v := some (.int (0 : Int32))) (fun h => by rw [Bd.returns] at h; cases h)
    refine ⟨_, _, retN X2 hx (t := .boolean) Bd.returns (by simp) (hb hby d4_17) hr, hrun, hended, _, _, rfl, ?_, ⟨_, rfl⟩, hW, hsame.mono (by decide) (by decide)⟩
    show Q_rm4 Z a0 u0 u1 h0 n0 _ T2.heap _
    rw [e2]
    refine ⟨?_, N0, rfl⟩
    unfold fEmpty
    rw [if_neg hc3]
theorem d5_0 : decode prog_77_method_4_code 0 = .ok (.aload_n 0, 1) := by decide +kernel
theorem d5_1 : decode prog_77_method_4_code 1 = .ok (.getfield 7, 3) := by decide +kernel
theorem d5_4 : decode prog_77_method_4_code 4 = .ok (.lload_n 1, 1) := by decide +kernel
theorem d5_5 : decode prog_77_method_4_code 5 = .ok (.lcmp, 1) := by decide +kernel
theorem d5_6 : decode prog_77_method_4_code 6 = .ok (.ifCond .gt 16, 3) := by decide +kernel
theorem d5_9 : decode prog_77_method_4_code 9 = .ok (.lload_n 1, 1) := by decide +kernel
theorem d5_10 : decode prog_77_method_4_code 10 = .ok (.aload_n 0, 1) := by decide +kernel
theorem d5_11 : decode prog_77_method_4_code 11 = .ok (.getfield 13, 3) := by decide +kernel
theorem d5_14 : decode prog_77_method_4_code 14 = .ok (.lcmp, 1) := by decide +kernel
theorem d5_15 : decode prog_77_method_4_code 15 = .ok (.ifCond .gt 7, 3) := by decide +kernel
theorem d5_18 : decode prog_77_method_4_code 18 = .ok (.iconst 1, 1) := by decide +kernel
theorem d5_19 : decode prog_77_method_4_code 19 = .ok (.goto 4, 3) := by decide +kernel
theorem d5_22 : decode prog_77_method_4_code 22 = .ok (.iconst 0, 1) := by decide +kernel
theorem d5_23 : decode prog_77_method_4_code 23 = .ok (.ireturn, 1) := by decide +kernel
theorem pn_5 : plainName "com/example/sortition/sortition/partition/TokenRange" = true := by first | (simp [plainName, overriddenIn]; done) | decide +kernel
theorem ef_rm5 (m : MethodId) (a0 : Addr) (q1 : Int64) : entryFrame m #[(.ref a0), (.long q1)] 3 = mkF m 0 #[.val (.ref a0), .val (.long q1), .second] [] := by first | (simp [entryFrame, mkF, argsToLocals, Value.category]; done) | rfl
def fHolds (q1 : Int64) (u0 : Int64) (u1 : Int64) : Int32 := if q1 < u0 then (0 : Int32) else (if u1 < q1 then (0 : Int32) else (1 : Int32))
def Q_rm5 (Z : State) (a0 : Addr) (q1 : Int64) (u0 : Int64) (u1 : Int64) (h0 : Heap) (n0 : Nat) (v : Option Value) (h : Heap) (L : List Loc) : Prop := v = some (.int (fHolds q1 u0 u1)) ∧ Fr n0 L ∧ h = h0
abbrev F_rm5 (Z : State) (a0 : Addr) (q1 : Int64) (u0 : Int64) (u1 : Int64) (h0 : Heap) (n0 : Nat) (s : State) (o : Outcome) (U : State) : Prop := ∃ v L, o = .returned v ∧ Q_rm5 Z a0 q1 u0 u1 h0 n0 v U.heap L ∧ FrameEnd s o U L 0 0
set_option maxRecDepth 65536 in
set_option maxHeartbeats 40000000 in
theorem rm5 (l : Launch) (Z : State) (aZ : Array Value) (hw : ∀ d ∈ tables_1, d.before aZ Z = true) (ws : List Jvm.Cond) (a0 : Addr) (q1 : Int64) (u0 : Int64) (u1 : Int64) (h0 : Heap) (n0 : Nat) (F_u0 : Fld Z h0 a0 "com/example/sortition/sortition/partition/TokenRange" "first" "J" (.long u0)) (F_u1 : Fld Z h0 a0 "com/example/sortition/sortition/partition/TokenRange" "last" "J" (.long u1)) :
    MetFree l (⟨"com/example/sortition/sortition/partition/TokenRange", "contains", "(J)Z"⟩ : MethodName) (head1 (Jvm.Cond.code (⟨"com/example/sortition/sortition/partition/TokenRange", "contains", "(J)Z"⟩ : MethodName) prog_77_method_4_code 3 (some .boolean) :: ws) ({ frames := 0, cells := 0, slots := 0, locals := 0 } : Room)) (fun a U => a = #[(.ref a0), (.long q1)] ∧ Z.Warmed39 U.vm ∧ U.heap = h0) (fun _ _ _ _ _ => True) (fun _ U o U' => ∃ v L, o = .returned v ∧ Q_rm5 Z a0 q1 u0 u1 h0 n0 v U'.heap L ∧ FrameEnd U o U' L 0 0) := by
  refine MetFree.of_bodySF (plainFor_of_name pn_5) hisR ?_
  intro p e s m args below meth c s₁ Bd hml0 hP hK
  obtain ⟨rfl, hZ, hh⟩ := hP
  have hx := Bd.exec
  have hby := Bd.bytes
  have hml : c.maxLocals = 3 := hml0
  have hown : s.vm.findClass "com/example/sortition/sortition/partition/TokenRange" = some m.cls := findClass_of_methodNamed Bd.named
  have hnm := (name_of_methodNamed Bd.named Bd.method).1
  have X0 : Stand p l e ({ frames := 0, cells := 0, slots := 0, locals := 0 } : Room) s m #[(.ref a0), (.long q1)] below meth c s₁ [] 0 0 := Stand.of_body Bd
  have e0 : s₁.heap = h0 := by rw [← hh, Bd.state]; rfl
  have N0 := Fr.nil n0
  refine Go.st (fun _ k => castTop (ef_rm5 m a0 q1) k) ?_
  show Go p e below _ (s₁.setTop (mkF m 0 #[.val (.ref a0), .val (.long q1), .second] []))
  refine Go.st (fun _ k => XS.aloadN X0.here hx rfl (hb hby d5_0) rfl rfl k) ?_
  show Go p e below _ (s₁.setTop (mkF m 1 #[.val (.ref a0), .val (.long q1), .second] [(.ref a0)]))
  obtain ⟨T1, X1, e1, st1⟩ := getF X0 hx hZ hown (host := "") (Or.inl (hw _ (List.mem_of_getElem? (i := 14) rfl))) Via.refl e0 F_u0 (g := (mkF m 1 #[.val (.ref a0), .val (.long q1), .second] [(.ref a0)])) rfl rfl (hb hby d5_1)
  refine Go.st (fun _ k => st1 _ k) ?_
  show Go p e below _ (T1.setTop (mkF m 4 #[.val (.ref a0), .val (.long q1), .second] [(.long u0)]))
  refine Go.st (fun _ k => XS.lloadN X1.here hx rfl (hb hby d5_4) rfl k) ?_
  show Go p e below _ (T1.setTop (mkF m 5 #[.val (.ref a0), .val (.long q1), .second] [(.long q1), (.long u0)]))
  refine Go.st (fun _ k => XS.lcmp X1.here hx rfl (hb hby d5_5) rfl k) ?_
  show Go p e below _ (T1.setTop (mkF m 6 #[.val (.ref a0), .val (.long q1), .second] [(.int (lcmpW u0 q1))]))
  by_cases hc2 : q1 < u0
  · show Go p e below _ (T1.setTop (mkF m 6 #[.val (.ref a0), .val (.long q1), .second] [(.int (lcmpW u0 q1))]))
    refine Go.st (fun _ k => XS.ifYes X1.here hx rfl (pc0 := 6) (pc' := 22) rfl (hb hby d5_6) rfl ((if0 _ _).trans (tlt ((lw_gt _ _).mpr hc2)).2.2.1) (by decide) (by decide) k) ?_
    show Go p e below _ (T1.setTop (mkF m 22 #[.val (.ref a0), .val (.long q1), .second] []))
    refine Go.st (fun _ k => XS.iconst X1.here hx rfl (hb hby d5_22) k) ?_
    show Go p e below _ (T1.setTop (mkF m 23 #[.val (.ref a0), .val (.long q1), .second] [(.int (0 : Int32))]))
    obtain ⟨fs, hr, hrun, hended, hW, hsame⟩ := X1.leave (v := some (.int (0 : Int32))) (fun h => by rw [Bd.returns] at h; cases h)
    refine ⟨_, _, retN X1 hx (t := .boolean) Bd.returns (by simp) (hb hby d5_23) hr, hrun, hended, _, _, rfl, ?_, ⟨_, rfl⟩, hW, hsame.mono (by decide) (by decide)⟩
    show Q_rm5 Z a0 q1 u0 u1 h0 n0 _ T1.heap _
    rw [e1]
    refine ⟨?_, N0, rfl⟩
    unfold fHolds
    rw [if_pos hc2]
  · show Go p e below _ (T1.setTop (mkF m 6 #[.val (.ref a0), .val (.long q1), .second] [(.int (lcmpW u0 q1))]))
    refine Go.st (fun _ k => XS.ifNo X1.here hx rfl (hb hby d5_6) rfl ((if0 _ _).trans (flt (fun z => hc2 ((lw_gt _ _).mp z))).2.2.1) k) ?_
    show Go p e below _ (T1.setTop (mkF m 9 #[.val (.ref a0), .val (.long q1), .second] []))
    refine Go.st (fun _ k => XS.lloadN X1.here hx rfl (hb hby d5_9) rfl k) ?_
    show Go p e below _ (T1.setTop (mkF m 10 #[.val (.ref a0), .val (.long q1), .second] [(.long q1)]))
    refine Go.st (fun _ k => XS.aloadN X1.here hx rfl (hb hby d5_10) rfl rfl k) ?_
    show Go p e below _ (T1.setTop (mkF m 11 #[.val (.ref a0), .val (.long q1), .second] [(.ref a0), (.long q1)]))
    obtain ⟨T3, X3, e3, st3⟩ := getF X1 hx hZ hown (host := "") (Or.inl (hw _ (List.mem_of_getElem? (i := 16) rfl))) Via.refl e1 F_u1 (g := (mkF m 11 #[.val (.ref a0), .val (.long q1), .second] [(.ref a0), (.long q1)])) rfl rfl (hb hby d5_11)
    refine Go.st (fun _ k => st3 _ k) ?_
    show Go p e below _ (T3.setTop (mkF m 14 #[.val (.ref a0), .val (.long q1), .second] [(.long u1), (.long q1)]))
    refine Go.st (fun _ k => XS.lcmp X3.here hx rfl (hb hby d5_14) rfl k) ?_
    show Go p e below _ (T3.setTop (mkF m 15 #[.val (.ref a0), .val (.long q1), .second] [(.int (lcmpW q1 u1))]))
    by_cases hc4 : u1 < q1
    · show Go p e below _ (T3.setTop (mkF m 15 #[.val (.ref a0), .val (.long q1), .second] [(.int (lcmpW q1 u1))]))
      refine Go.st (fun _ k => XS.ifYes X3.here hx rfl (pc0 := 15) (pc' := 22) rfl (hb hby d5_15) rfl ((if0 _ _).trans (tlt ((lw_gt _ _).mpr hc4)).2.2.1) (by decide) (by decide) k) ?_
      show Go p e below _ (T3.setTop (mkF m 22 #[.val (.ref a0), .val (.long q1), .second] []))
      refine Go.st (fun _ k => XS.iconst X3.here hx rfl (hb hby d5_22) k) ?_
      show Go p e below _ (T3.setTop (mkF m 23 #[.val (.ref a0), .val (.long q1), .second] [(.int (0 : Int32))]))
      obtain ⟨fs, hr, hrun, hended, hW, hsame⟩ := X3.leave (v := some (.int (0 : Int32))) (fun h => by rw [Bd.returns] at h; cases h)
      refine ⟨_, _, retN X3 hx (t := .boolean) Bd.returns (by simp) (hb hby d5_23) hr, hrun, hended, _, _, rfl, ?_, ⟨_, rfl⟩, hW, hsame.mono (by decide) (by decide)⟩
      show Q_rm5 Z a0 q1 u0 u1 h0 n0 _ T3.heap _
      rw [e3]
      refine ⟨?_, N0, rfl⟩
      unfold fHolds
      rw [if_neg hc2, if_pos hc4]
    · show Go p e below _ (T3.setTop (mkF m 15 #[.val (.ref a0), .val (.long q1), .second] [(.int (lcmpW q1 u1))]))
      refine Go.st (fun _ k => XS.ifNo X3.here hx rfl (hb hby d5_15) rfl ((if0 _ _).trans (flt (fun z => hc4 ((lw_gt _ _).mp z))).2.2.1) k) ?_
      show Go p e below _ (T3.setTop (mkF m 18 #[.val (.ref a0), .val (.long q1), .second] []))
      refine Go.st (fun _ k => XS.iconst X3.here hx rfl (hb hby d5_18) k) ?_
      show Go p e below _ (T3.setTop (mkF m 19 #[.val (.ref a0), .val (.long q1), .second] [(.int (1 : Int32))]))
      refine Go.st (fun _ k => XS.goto X3.here hx rfl (pc0 := 19) (pc' := 23) rfl (hb hby d5_19) (by decide) (by decide) k) ?_
      show Go p e below _ (T3.setTop (mkF m 23 #[.val (.ref a0), .val (.long q1), .second] [(.int (1 : Int32))]))
      obtain ⟨fs, hr, hrun, hended, hW, hsame⟩ := X3.leave (v := some (.int (1 : Int32))) (fun h => by rw [Bd.returns] at h; cases h)
      refine ⟨_, _, retN X3 hx (t := .boolean) Bd.returns (by simp) (hb hby d5_23) hr, hrun, hended, _, _, rfl, ?_, ⟨_, rfl⟩, hW, hsame.mono (by decide) (by decide)⟩
      show Q_rm5 Z a0 q1 u0 u1 h0 n0 _ T3.heap _
      rw [e3]
      refine ⟨?_, N0, rfl⟩
      unfold fHolds
      rw [if_neg hc2, if_neg hc4]
theorem own_emp1 {a b : Int64} (h : b < a) : fEmpty a b = 1 := by
  unfold fEmpty; rw [if_pos h]
theorem own_emp0 {a b : Int64} (h : ¬ b < a) : fEmpty a b = 0 := by
  unfold fEmpty; rw [if_neg h]
theorem own_not {a b : Int64} (h : b < a) (t : Int64) : fHolds t a b = 0 := by
  unfold fHolds
  by_cases h1 : t < a
  · rw [if_pos h1]
  · rw [if_neg h1, if_pos]
    rw [Int64.lt_iff_toInt_lt] at *
    omega
theorem own_in0 {a b : Int64} (h : ¬ b < a) : fHolds a a b = 1 := by
  unfold fHolds
  rw [if_neg (by rw [Int64.lt_iff_toInt_lt]; omega), if_neg h]
theorem own_in1 {a b : Int64} (h : ¬ b < a) : fHolds b a b = 1 := by
  unfold fHolds
  rw [if_neg h, if_neg (by rw [Int64.lt_iff_toInt_lt]; omega)]

theorem pn_0 : plainName "com/example/sortition/sortition/partition/TokenRangeIsEmptyPinLaw" = true := by first | (simp [plainName, overriddenIn]; done) | decide +kernel
theorem pdc8226161 : parseMethodDescriptor "(JJ)V" = some ⟨[.long, .long], none⟩ := by decide +kernel
theorem pda8ebd : parseMethodDescriptor "()Z" = some ⟨[], some .boolean⟩ := by decide +kernel
theorem pd56f9627 : parseMethodDescriptor "(J)Z" = some ⟨[.long], some .boolean⟩ := by decide +kernel
theorem ef_rm0 (m : MethodId) (q0 : Int64) (q1 : Int64) (q2 : Int64) : entryFrame m #[(.long q0), (.long q1), (.long q2)] maxLocals = mkF m 0 #[.val (.long q0), .second, .val (.long q1), .second, .val (.long q2), .second, .unset, .unset, .unset, .unset, .unset] [] := by first | (simp [entryFrame, mkF, argsToLocals, Value.category, maxLocals]; done) | rfl
def Q_rm0 (Z : State) (q0 : Int64) (q1 : Int64) (q2 : Int64) (h0 : Heap) (n0 : Nat) (v : Option Value) (h : Heap) (L : List Loc) : Prop := v = some (.int 1) ∧ Fr n0 L
abbrev F_rm0 (Z : State) (q0 : Int64) (q1 : Int64) (q2 : Int64) (h0 : Heap) (n0 : Nat) (s : State) (o : Outcome) (U : State) : Prop := ∃ v L, o = .returned v ∧ Q_rm0 Z q0 q1 q2 h0 n0 v U.heap L ∧ FrameEnd s o U L room_1.cells room_1.slots
set_option maxRecDepth 65536 in
set_option maxHeartbeats 40000000 in
theorem rm0 (l : Launch) (Z : State) (aZ : Array Value) (hw : ∀ d ∈ tables_1, d.before aZ Z = true) (ws : List Jvm.Cond) (q0 : Int64) (q1 : Int64) (q2 : Int64) (h0 : Heap) (n0 : Nat) (Z0 : n0 ≤ h0.size) :
    MetFree l x (head1 (Jvm.Cond.code x code maxLocals ret :: ws) room_1) (fun a U => a = #[(.long q0), (.long q1), (.long q2)] ∧ Z.Warmed39 U.vm ∧ U.heap = h0) (fun _ _ _ _ _ => True) (fun _ U o U' => ∃ v L, o = .returned v ∧ Q_rm0 Z q0 q1 q2 h0 n0 v U'.heap L ∧ FrameEnd U o U' L room_1.cells room_1.slots) := by
  refine MetFree.of_bodySF (plainFor_of_name pn_0) hisR ?_
  intro p e s m args below meth c s₁ Bd hml0 hP hK
  obtain ⟨rfl, hZ, hh⟩ := hP
  have hx := Bd.exec
  have hby := Bd.bytes
  have hml : c.maxLocals = 11 := hml0
  have hown : s.vm.findClass "com/example/sortition/sortition/partition/TokenRangeIsEmptyPinLaw" = some m.cls := findClass_of_methodNamed Bd.named
  have hnm := (name_of_methodNamed Bd.named Bd.method).1
  have X0 : Stand p l e room_1 s m #[(.long q0), (.long q1), (.long q2)] below meth c s₁ [] 0 0 := Stand.of_body Bd
  have e0 : s₁.heap = h0 := by rw [← hh, Bd.state]; rfl
  have N0 := Fr.nil n0
  refine Go.st (fun _ k => castTop (ef_rm0 m q0 q1 q2) k) ?_
  show Go p e below _ (s₁.setTop (mkF m 0 #[.val (.long q0), .second, .val (.long q1), .second, .val (.long q2), .second, .unset, .unset, .unset, .unset, .unset] []))
  obtain ⟨T1, h1, X1, e1, E1, A1, D1, -, st1⟩ := newO X0 hx hZ hown (hw _ (List.mem_of_getElem? (i := 0) rfl)) (hw _ (List.mem_of_getElem? (i := 1) rfl)) (hw _ (List.mem_of_getElem? (i := 2) rfl)) e0 (g := (mkF m 0 #[.val (.long q0), .second, .val (.long q1), .second, .val (.long q2), .second, .unset, .unset, .unset, .unset, .unset] [])) rfl (hb hby at_0) (by decide) (by decide)
  obtain ⟨b1, g1⟩ : ∃ z, z = h0.size := ⟨_, rfl⟩
  have gg1 : n0 ≤ b1 := Nat.le_trans Z0 (Nat.le_of_eq g1.symm)
  rw [← g1] at A1 D1 st1
  have Z1 : n0 ≤ h1.size := Nat.le_trans Z0 E1.1
  have F1_new_first : Fld Z h1 b1 "com/example/sortition/sortition/partition/TokenRange" "first" "J" (.long (0 : Int64)) := D1 (Or.inr (hw _ (List.mem_of_getElem? (i := 15) rfl))) (ty := .long) (by decide)
  have F1_new_last : Fld Z h1 b1 "com/example/sortition/sortition/partition/TokenRange" "last" "J" (.long (0 : Int64)) := D1 (Or.inr (hw _ (List.mem_of_getElem? (i := 17) rfl))) (ty := .long) (by decide)
  refine Go.st (fun _ k => st1 _ k) ?_
  show Go p e below _ (T1.setTop (mkF m 3 #[.val (.long q0), .second, .val (.long q1), .second, .val (.long q2), .second, .unset, .unset, .unset, .unset, .unset] [(.ref b1)]))
  refine Go.st (fun _ k => XS.dup X1.here hx rfl (hb hby at_3) rfl rfl k) ?_
  show Go p e below _ (T1.setTop (mkF m 4 #[.val (.long q0), .second, .val (.long q1), .second, .val (.long q2), .second, .unset, .unset, .unset, .unset, .unset] [(.ref b1), (.ref b1)]))
  refine Go.st (fun _ k => XS.lloadN X1.here hx rfl (hb hby at_4) rfl k) ?_
  show Go p e below _ (T1.setTop (mkF m 5 #[.val (.long q0), .second, .val (.long q1), .second, .val (.long q2), .second, .unset, .unset, .unset, .unset, .unset] [(.long q0), (.ref b1), (.ref b1)]))
  refine Go.st (fun _ k => XS.lloadN X1.here hx rfl (hb hby at_5) rfl k) ?_
  show Go p e below _ (T1.setTop (mkF m 6 #[.val (.long q0), .second, .val (.long q1), .second, .val (.long q2), .second, .unset, .unset, .unset, .unset, .unset] [(.long q1), (.long q0), (.ref b1), (.ref b1)]))
  obtain ⟨_, _, ⟨T2, L2, k2, n2⟩, -, X2, ⟨Lc2, hQ2, l2, y2, z2⟩, st2⟩ := X1.specialBack hx (y := (⟨"com/example/sortition/sortition/partition/TokenRange", "<init>", "(JJ)V"⟩ : MethodName)) rfl hown (mvT hZ (hw _ (List.mem_of_getElem? (i := 3) rfl))) (mvT hZ (hw _ (List.mem_of_getElem? (i := 4) rfl))) (mvT hZ (hw _ (List.mem_of_getElem? (i := 5) rfl))) (by decide) (backOf (W := 1) (rm1 l Z aZ hw [] b1 q0 q1 h1 n0 Z1 gg1 A1 F1_new_first F1_new_last) hZ (hw _ (List.mem_of_getElem? (i := 5) rfl)) (hw _ (List.mem_of_getElem? (i := 2) rfl)) (by decide) (by decide)) (g := (mkF m 6 #[.val (.long q0), .second, .val (.long q1), .second, .val (.long q2), .second, .unset, .unset, .unset, .unset, .unset] [(.long q1), (.long q0), (.ref b1), (.ref b1)])) rfl (by rw [hml]; rfl) (Steps.refl _) (a := b1) (argsL := [(.long q0), (.long q1)]) (rest := [(.ref b1)]) (lenOf pdc8226161 rfl) rfl (by show 2 * 0 + _ ≤ _; exact Nat.le_of_eq rfl) (hb hby at_6) (fun _ _ => ⟨rfl, e1, (by decide : 1 + 0 ≤ _), (by decide : 2 + 0 ≤ _)⟩)
  dsimp only [Pt.U, Pt.locs, Pt.cells, Pt.slots] at X2 l2 y2 z2 st2 hQ2
  subst l2 y2 z2
  obtain ⟨rfl, N2q, K2q, E2q, Fc2_0, Fc2_1⟩ := hQ2
  have N2 := Fr.app N0 N2q
  have F2_E_b1 := A1.keep K2q
  have Zc2 : n0 ≤ T2.heap.size := Nat.le_trans Z1 K2q.1
  refine Go.st (fun _ k => st2.trans k) ?_
  show Go p e below _ (T2.setTop (mkF m 9 #[.val (.long q0), .second, .val (.long q1), .second, .val (.long q2), .second, .unset, .unset, .unset, .unset, .unset] [(.ref b1)]))
  refine Go.st (fun _ k => XS.astore X2.here hx rfl (hb hby at_9) rfl rfl (l' := #[.val (.long q0), .second, .val (.long q1), .second, .val (.long q2), .second, .val (.ref b1), .unset, .unset, .unset, .unset]) rfl k) ?_
  show Go p e below _ (T2.setTop (mkF m 11 #[.val (.long q0), .second, .val (.long q1), .second, .val (.long q2), .second, .val (.ref b1), .unset, .unset, .unset, .unset] []))
  refine Go.st (fun _ k => XS.aload X2.here hx rfl (hb hby at_11) rfl rfl k) ?_
  show Go p e below _ (T2.setTop (mkF m 13 #[.val (.long q0), .second, .val (.long q1), .second, .val (.long q2), .second, .val (.ref b1), .unset, .unset, .unset, .unset] [(.ref b1)]))
  obtain ⟨cq3, kq3, q3a, q3b, q3c⟩ := isOf hZ rfl F2_E_b1
  obtain ⟨_, _, ⟨T3, L3, k3, n3⟩, -, X3, ⟨Lc3, hQ3, l3, y3, z3⟩, st3⟩ := X2.virtualBack hx (y := (⟨"com/example/sortition/sortition/partition/TokenRange", "isEmpty", "()Z"⟩ : MethodName)) (z := (⟨"com/example/sortition/sortition/partition/TokenRange", "isEmpty", "()Z"⟩ : MethodName)) hown (mvT hZ (hw _ (List.mem_of_getElem? (i := 18) rfl))) (mvT hZ (hw _ (List.mem_of_getElem? (i := 19) rfl))) (notFace_of_selects (args := #[]) (mvT hZ (hw _ (List.mem_of_getElem? (i := 21) rfl)))) (mvT hZ (hw _ (List.mem_of_getElem? (i := 21) rfl))) (mvT hZ (hw _ (List.mem_of_getElem? (i := 20) rfl))) (by decide) (backOf (W := 0) (rm4 l Z aZ hw [] b1 q0 q1 T2.heap n0 Fc2_0 Fc2_1) hZ (hw _ (List.mem_of_getElem? (i := 22) rfl)) (hw _ (List.mem_of_getElem? (i := 2) rfl)) (by decide) (by decide)) q3a q3c (g := (mkF m 13 #[.val (.long q0), .second, .val (.long q1), .second, .val (.long q2), .second, .val (.ref b1), .unset, .unset, .unset, .unset] [(.ref b1)])) rfl (by rw [hml]; rfl) (Steps.refl _) (argsL := []) (rest := []) (lenOf pda8ebd rfl) rfl (by show 2 * 0 + _ ≤ _; exact Nat.le_of_eq rfl) (hb hby at_13) (fun _ _ => ⟨rfl, rfl, (by decide : 1 + 0 ≤ _), (by decide : 2 + 0 ≤ _)⟩)
  dsimp only [Pt.U, Pt.locs, Pt.cells, Pt.slots] at X3 l3 y3 z3 st3 hQ3
  subst l3 y3 z3
  obtain ⟨rfl, N3q, e3⟩ := hQ3
  have N3 := Fr.app N2 N3q
  refine Go.st (fun _ k => st3.trans k) ?_
  show Go p e below _ (T3.setTop (mkF m 16 #[.val (.long q0), .second, .val (.long q1), .second, .val (.long q2), .second, .val (.ref b1), .unset, .unset, .unset, .unset] [(.int (fEmpty q0 q1))]))
  refine Go.st (fun _ k => XS.istore X3.here hx rfl (hb hby at_16) rfl (l' := #[.val (.long q0), .second, .val (.long q1), .second, .val (.long q2), .second, .val (.ref b1), .val (.int (fEmpty q0 q1)), .unset, .unset, .unset]) rfl k) ?_
  show Go p e below _ (T3.setTop (mkF m 18 #[.val (.long q0), .second, .val (.long q1), .second, .val (.long q2), .second, .val (.ref b1), .val (.int (fEmpty q0 q1)), .unset, .unset, .unset] []))
  refine Go.st (fun _ k => XS.aload X3.here hx rfl (hb hby at_18) rfl rfl k) ?_
  show Go p e below _ (T3.setTop (mkF m 20 #[.val (.long q0), .second, .val (.long q1), .second, .val (.long q2), .second, .val (.ref b1), .val (.int (fEmpty q0 q1)), .unset, .unset, .unset] [(.ref b1)]))
  refine Go.st (fun _ k => XS.lloadN X3.here hx rfl (hb hby at_20) rfl k) ?_
  show Go p e below _ (T3.setTop (mkF m 21 #[.val (.long q0), .second, .val (.long q1), .second, .val (.long q2), .second, .val (.ref b1), .val (.int (fEmpty q0 q1)), .unset, .unset, .unset] [(.long q0), (.ref b1)]))
  obtain ⟨cq4, kq4, q4a, q4b, q4c⟩ := isOf hZ e3 F2_E_b1
  obtain ⟨_, _, ⟨T4, L4, k4, n4⟩, -, X4, ⟨Lc4, hQ4, l4, y4, z4⟩, st4⟩ := X3.virtualBack hx (y := (⟨"com/example/sortition/sortition/partition/TokenRange", "contains", "(J)Z"⟩ : MethodName)) (z := (⟨"com/example/sortition/sortition/partition/TokenRange", "contains", "(J)Z"⟩ : MethodName)) hown (mvT hZ (hw _ (List.mem_of_getElem? (i := 23) rfl))) (mvT hZ (hw _ (List.mem_of_getElem? (i := 24) rfl))) (notFace_of_selects (args := #[]) (mvT hZ (hw _ (List.mem_of_getElem? (i := 26) rfl)))) (mvT hZ (hw _ (List.mem_of_getElem? (i := 26) rfl))) (mvT hZ (hw _ (List.mem_of_getElem? (i := 25) rfl))) (by decide) (backOf (W := 0) (rm5 l Z aZ hw [] b1 q0 q0 q1 T2.heap n0 Fc2_0 Fc2_1) hZ (hw _ (List.mem_of_getElem? (i := 27) rfl)) (hw _ (List.mem_of_getElem? (i := 2) rfl)) (by decide) (by decide)) q4a q4c (g := (mkF m 21 #[.val (.long q0), .second, .val (.long q1), .second, .val (.long q2), .second, .val (.ref b1), .val (.int (fEmpty q0 q1)), .unset, .unset, .unset] [(.long q0), (.ref b1)])) rfl (by rw [hml]; rfl) (Steps.refl _) (argsL := [(.long q0)]) (rest := []) (lenOf pd56f9627 rfl) rfl (by show 2 * 0 + _ ≤ _; exact Nat.le_of_eq rfl) (hb hby at_21) (fun _ _ => ⟨rfl, e3, (by decide : 1 + 0 ≤ _), (by decide : 2 + 0 ≤ _)⟩)
  dsimp only [Pt.U, Pt.locs, Pt.cells, Pt.slots] at X4 l4 y4 z4 st4 hQ4
  subst l4 y4 z4
  obtain ⟨rfl, N4q, e4⟩ := hQ4
  have N4 := Fr.app N3 N4q
  refine Go.st (fun _ k => st4.trans k) ?_
  show Go p e below _ (T4.setTop (mkF m 24 #[.val (.long q0), .second, .val (.long q1), .second, .val (.long q2), .second, .val (.ref b1), .val (.int (fEmpty q0 q1)), .unset, .unset, .unset] [(.int (fHolds q0 q0 q1))]))
  refine Go.st (fun _ k => XS.istore X4.here hx rfl (hb hby at_24) rfl (l' := #[.val (.long q0), .second, .val (.long q1), .second, .val (.long q2), .second, .val (.ref b1), .val (.int (fEmpty q0 q1)), .val (.int (fHolds q0 q0 q1)), .unset, .unset]) rfl k) ?_
  show Go p e below _ (T4.setTop (mkF m 26 #[.val (.long q0), .second, .val (.long q1), .second, .val (.long q2), .second, .val (.ref b1), .val (.int (fEmpty q0 q1)), .val (.int (fHolds q0 q0 q1)), .unset, .unset] []))
  refine Go.st (fun _ k => XS.aload X4.here hx rfl (hb hby at_26) rfl rfl k) ?_
  show Go p e below _ (T4.setTop (mkF m 28 #[.val (.long q0), .second, .val (.long q1), .second, .val (.long q2), .second, .val (.ref b1), .val (.int (fEmpty q0 q1)), .val (.int (fHolds q0 q0 q1)), .unset, .unset] [(.ref b1)]))
  refine Go.st (fun _ k => XS.lloadN X4.here hx rfl (hb hby at_28) rfl k) ?_
  show Go p e below _ (T4.setTop (mkF m 29 #[.val (.long q0), .second, .val (.long q1), .second, .val (.long q2), .second, .val (.ref b1), .val (.int (fEmpty q0 q1)), .val (.int (fHolds q0 q0 q1)), .unset, .unset] [(.long q1), (.ref b1)]))
  obtain ⟨cq5, kq5, q5a, q5b, q5c⟩ := isOf hZ e4 F2_E_b1
  obtain ⟨_, _, ⟨T5, L5, k5, n5⟩, -, X5, ⟨Lc5, hQ5, l5, y5, z5⟩, st5⟩ := X4.virtualBack hx (y := (⟨"com/example/sortition/sortition/partition/TokenRange", "contains", "(J)Z"⟩ : MethodName)) (z := (⟨"com/example/sortition/sortition/partition/TokenRange", "contains", "(J)Z"⟩ : MethodName)) hown (mvT hZ (hw _ (List.mem_of_getElem? (i := 23) rfl))) (mvT hZ (hw _ (List.mem_of_getElem? (i := 24) rfl))) (notFace_of_selects (args := #[]) (mvT hZ (hw _ (List.mem_of_getElem? (i := 26) rfl)))) (mvT hZ (hw _ (List.mem_of_getElem? (i := 26) rfl))) (mvT hZ (hw _ (List.mem_of_getElem? (i := 25) rfl))) (by decide) (backOf (W := 0) (rm5 l Z aZ hw [] b1 q1 q0 q1 T2.heap n0 Fc2_0 Fc2_1) hZ (hw _ (List.mem_of_getElem? (i := 27) rfl)) (hw _ (List.mem_of_getElem? (i := 2) rfl)) (by decide) (by decide)) q5a q5c (g := (mkF m 29 #[.val (.long q0), .second, .val (.long q1), .second, .val (.long q2), .second, .val (.ref b1), .val (.int (fEmpty q0 q1)), .val (.int (fHolds q0 q0 q1)), .unset, .unset] [(.long q1), (.ref b1)])) rfl (by rw [hml]; rfl) (Steps.refl _) (argsL := [(.long q1)]) (rest := []) (lenOf pd56f9627 rfl) rfl (by show 2 * 0 + _ ≤ _; exact Nat.le_of_eq rfl) (hb hby at_29) (fun _ _ => ⟨rfl, e4, (by decide : 1 + 0 ≤ _), (by decide : 2 + 0 ≤ _)⟩)
  dsimp only [Pt.U, Pt.locs, Pt.cells, Pt.slots] at X5 l5 y5 z5 st5 hQ5
  subst l5 y5 z5
  obtain ⟨rfl, N5q, e5⟩ := hQ5
  have N5 := Fr.app N4 N5q
  refine Go.st (fun _ k => st5.trans k) ?_
  show Go p e below _ (T5.setTop (mkF m 32 #[.val (.long q0), .second, .val (.long q1), .second, .val (.long q2), .second, .val (.ref b1), .val (.int (fEmpty q0 q1)), .val (.int (fHolds q0 q0 q1)), .unset, .unset] [(.int (fHolds q1 q0 q1))]))
  refine Go.st (fun _ k => XS.istore X5.here hx rfl (hb hby at_32) rfl (l' := #[.val (.long q0), .second, .val (.long q1), .second, .val (.long q2), .second, .val (.ref b1), .val (.int (fEmpty q0 q1)), .val (.int (fHolds q0 q0 q1)), .val (.int (fHolds q1 q0 q1)), .unset]) rfl k) ?_
  show Go p e below _ (T5.setTop (mkF m 34 #[.val (.long q0), .second, .val (.long q1), .second, .val (.long q2), .second, .val (.ref b1), .val (.int (fEmpty q0 q1)), .val (.int (fHolds q0 q0 q1)), .val (.int (fHolds q1 q0 q1)), .unset] []))
  refine Go.st (fun _ k => XS.aload X5.here hx rfl (hb hby at_34) rfl rfl k) ?_
  show Go p e below _ (T5.setTop (mkF m 36 #[.val (.long q0), .second, .val (.long q1), .second, .val (.long q2), .second, .val (.ref b1), .val (.int (fEmpty q0 q1)), .val (.int (fHolds q0 q0 q1)), .val (.int (fHolds q1 q0 q1)), .unset] [(.ref b1)]))
  refine Go.st (fun _ k => XS.lload X5.here hx rfl (hb hby at_36) rfl k) ?_
  show Go p e below _ (T5.setTop (mkF m 38 #[.val (.long q0), .second, .val (.long q1), .second, .val (.long q2), .second, .val (.ref b1), .val (.int (fEmpty q0 q1)), .val (.int (fHolds q0 q0 q1)), .val (.int (fHolds q1 q0 q1)), .unset] [(.long q2), (.ref b1)]))
  obtain ⟨cq6, kq6, q6a, q6b, q6c⟩ := isOf hZ e5 F2_E_b1
  obtain ⟨_, _, ⟨T6, L6, k6, n6⟩, -, X6, ⟨Lc6, hQ6, l6, y6, z6⟩, st6⟩ := X5.virtualBack hx (y := (⟨"com/example/sortition/sortition/partition/TokenRange", "contains", "(J)Z"⟩ : MethodName)) (z := (⟨"com/example/sortition/sortition/partition/TokenRange", "contains", "(J)Z"⟩ : MethodName)) hown (mvT hZ (hw _ (List.mem_of_getElem? (i := 23) rfl))) (mvT hZ (hw _ (List.mem_of_getElem? (i := 24) rfl))) (notFace_of_selects (args := #[]) (mvT hZ (hw _ (List.mem_of_getElem? (i := 26) rfl)))) (mvT hZ (hw _ (List.mem_of_getElem? (i := 26) rfl))) (mvT hZ (hw _ (List.mem_of_getElem? (i := 25) rfl))) (by decide) (backOf (W := 0) (rm5 l Z aZ hw [] b1 q2 q0 q1 T2.heap n0 Fc2_0 Fc2_1) hZ (hw _ (List.mem_of_getElem? (i := 27) rfl)) (hw _ (List.mem_of_getElem? (i := 2) rfl)) (by decide) (by decide)) q6a q6c (g := (mkF m 38 #[.val (.long q0), .second, .val (.long q1), .second, .val (.long q2), .second, .val (.ref b1), .val (.int (fEmpty q0 q1)), .val (.int (fHolds q0 q0 q1)), .val (.int (fHolds q1 q0 q1)), .unset] [(.long q2), (.ref b1)])) rfl (by rw [hml]; rfl) (Steps.refl _) (argsL := [(.long q2)]) (rest := []) (lenOf pd56f9627 rfl) rfl (by show 2 * 0 + _ ≤ _; exact Nat.le_of_eq rfl) (hb hby at_38) (fun _ _ => ⟨rfl, e5, (by decide : 1 + 0 ≤ _), (by decide : 2 + 0 ≤ _)⟩)
  dsimp only [Pt.U, Pt.locs, Pt.cells, Pt.slots] at X6 l6 y6 z6 st6 hQ6
  subst l6 y6 z6
  obtain ⟨rfl, N6q, e6⟩ := hQ6
  have N6 := Fr.app N5 N6q
  refine Go.st (fun _ k => st6.trans k) ?_
  show Go p e below _ (T6.setTop (mkF m 41 #[.val (.long q0), .second, .val (.long q1), .second, .val (.long q2), .second, .val (.ref b1), .val (.int (fEmpty q0 q1)), .val (.int (fHolds q0 q0 q1)), .val (.int (fHolds q1 q0 q1)), .unset] [(.int (fHolds q2 q0 q1))]))
  refine Go.st (fun _ k => XS.istore X6.here hx rfl (hb hby at_41) rfl (l' := #[.val (.long q0), .second, .val (.long q1), .second, .val (.long q2), .second, .val (.ref b1), .val (.int (fEmpty q0 q1)), .val (.int (fHolds q0 q0 q1)), .val (.int (fHolds q1 q0 q1)), .val (.int (fHolds q2 q0 q1))]) rfl k) ?_
  show Go p e below _ (T6.setTop (mkF m 43 #[.val (.long q0), .second, .val (.long q1), .second, .val (.long q2), .second, .val (.ref b1), .val (.int (fEmpty q0 q1)), .val (.int (fHolds q0 q0 q1)), .val (.int (fHolds q1 q0 q1)), .val (.int (fHolds q2 q0 q1))] []))
  by_cases hf7 : q1 < q0
  · skip
    have hs8 : (fEmpty q0 q1) = (1 : Int32) := own_emp1 hf7
    rw [hs8]
    show Go p e below _ (T6.setTop (mkF m 43 #[.val (.long q0), .second, .val (.long q1), .second, .val (.long q2), .second, .val (.ref b1), .val (.int (1 : Int32)), .val (.int (fHolds q0 q0 q1)), .val (.int (fHolds q1 q0 q1)), .val (.int (fHolds q2 q0 q1))] []))
    have hs9 : (fHolds q0 q0 q1) = (0 : Int32) := own_not hf7 _
    rw [hs9]
    show Go p e below _ (T6.setTop (mkF m 43 #[.val (.long q0), .second, .val (.long q1), .second, .val (.long q2), .second, .val (.ref b1), .val (.int (1 : Int32)), .val (.int (0 : Int32)), .val (.int (fHolds q1 q0 q1)), .val (.int (fHolds q2 q0 q1))] []))
    have hs10 : (fHolds q1 q0 q1) = (0 : Int32) := own_not hf7 _
    rw [hs10]
    show Go p e below _ (T6.setTop (mkF m 43 #[.val (.long q0), .second, .val (.long q1), .second, .val (.long q2), .second, .val (.ref b1), .val (.int (1 : Int32)), .val (.int (0 : Int32)), .val (.int (0 : Int32)), .val (.int (fHolds q2 q0 q1))] []))
    have hs11 : (fHolds q2 q0 q1) = (0 : Int32) := own_not hf7 _
    rw [hs11]
    show Go p e below _ (T6.setTop (mkF m 43 #[.val (.long q0), .second, .val (.long q1), .second, .val (.long q2), .second, .val (.ref b1), .val (.int (1 : Int32)), .val (.int (0 : Int32)), .val (.int (0 : Int32)), .val (.int (0 : Int32))] []))
    refine Go.st (fun _ k => XS.iload X6.here hx rfl (hb hby at_43) rfl k) ?_
    show Go p e below _ (T6.setTop (mkF m 45 #[.val (.long q0), .second, .val (.long q1), .second, .val (.long q2), .second, .val (.ref b1), .val (.int (1 : Int32)), .val (.int (0 : Int32)), .val (.int (0 : Int32)), .val (.int (0 : Int32))] [(.int (1 : Int32))]))
    refine Go.st (fun _ k => XS.ifNo X6.here hx rfl (hb hby at_45) rfl ((if0 _ _).trans (feq (by decide : ¬ ((1 : Int32) = (0 : Int32)))).1) k) ?_
    show Go p e below _ (T6.setTop (mkF m 48 #[.val (.long q0), .second, .val (.long q1), .second, .val (.long q2), .second, .val (.ref b1), .val (.int (1 : Int32)), .val (.int (0 : Int32)), .val (.int (0 : Int32)), .val (.int (0 : Int32))] []))
    refine Go.st (fun _ k => XS.lloadN X6.here hx rfl (hb hby at_48) rfl k) ?_
    show Go p e below _ (T6.setTop (mkF m 49 #[.val (.long q0), .second, .val (.long q1), .second, .val (.long q2), .second, .val (.ref b1), .val (.int (1 : Int32)), .val (.int (0 : Int32)), .val (.int (0 : Int32)), .val (.int (0 : Int32))] [(.long q1)]))
    refine Go.st (fun _ k => XS.lloadN X6.here hx rfl (hb hby at_49) rfl k) ?_
    show Go p e below _ (T6.setTop (mkF m 50 #[.val (.long q0), .second, .val (.long q1), .second, .val (.long q2), .second, .val (.ref b1), .val (.int (1 : Int32)), .val (.int (0 : Int32)), .val (.int (0 : Int32)), .val (.int (0 : Int32))] [(.long q0), (.long q1)]))
    refine Go.st (fun _ k => XS.lcmp X6.here hx rfl (hb hby at_50) rfl k) ?_
    show Go p e below _ (T6.setTop (mkF m 51 #[.val (.long q0), .second, .val (.long q1), .second, .val (.long q2), .second, .val (.ref b1), .val (.int (1 : Int32)), .val (.int (0 : Int32)), .val (.int (0 : Int32)), .val (.int (0 : Int32))] [(.int (lcmpW q1 q0))]))
    refine Go.st (fun _ k => XS.ifNo X6.here hx rfl (hb hby at_51) rfl ((if0 _ _).trans (tlt ((lw_lt _ _).mpr hf7)).2.1) k) ?_
    show Go p e below _ (T6.setTop (mkF m 54 #[.val (.long q0), .second, .val (.long q1), .second, .val (.long q2), .second, .val (.ref b1), .val (.int (1 : Int32)), .val (.int (0 : Int32)), .val (.int (0 : Int32)), .val (.int (0 : Int32))] []))
    refine Go.st (fun _ k => XS.iload X6.here hx rfl (hb hby at_54) rfl k) ?_
    show Go p e below _ (T6.setTop (mkF m 56 #[.val (.long q0), .second, .val (.long q1), .second, .val (.long q2), .second, .val (.ref b1), .val (.int (1 : Int32)), .val (.int (0 : Int32)), .val (.int (0 : Int32)), .val (.int (0 : Int32))] [(.int (0 : Int32))]))
    refine Go.st (fun _ k => XS.ifNo X6.here hx rfl (hb hby at_56) rfl ((if0 _ _).trans (teq (by decide : ((0 : Int32) = (0 : Int32)))).2) k) ?_
    show Go p e below _ (T6.setTop (mkF m 59 #[.val (.long q0), .second, .val (.long q1), .second, .val (.long q2), .second, .val (.ref b1), .val (.int (1 : Int32)), .val (.int (0 : Int32)), .val (.int (0 : Int32)), .val (.int (0 : Int32))] []))
    refine Go.st (fun _ k => XS.iload X6.here hx rfl (hb hby at_59) rfl k) ?_
    show Go p e below _ (T6.setTop (mkF m 61 #[.val (.long q0), .second, .val (.long q1), .second, .val (.long q2), .second, .val (.ref b1), .val (.int (1 : Int32)), .val (.int (0 : Int32)), .val (.int (0 : Int32)), .val (.int (0 : Int32))] [(.int (0 : Int32))]))
    refine Go.st (fun _ k => XS.ifNo X6.here hx rfl (hb hby at_61) rfl ((if0 _ _).trans (teq (by decide : ((0 : Int32) = (0 : Int32)))).2) k) ?_
    show Go p e below _ (T6.setTop (mkF m 64 #[.val (.long q0), .second, .val (.long q1), .second, .val (.long q2), .second, .val (.ref b1), .val (.int (1 : Int32)), .val (.int (0 : Int32)), .val (.int (0 : Int32)), .val (.int (0 : Int32))] []))
    refine Go.st (fun _ k => XS.iload X6.here hx rfl (hb hby at_64) rfl k) ?_
    show Go p e below _ (T6.setTop (mkF m 66 #[.val (.long q0), .second, .val (.long q1), .second, .val (.long q2), .second, .val (.ref b1), .val (.int (1 : Int32)), .val (.int (0 : Int32)), .val (.int (0 : Int32)), .val (.int (0 : Int32))] [(.int (0 : Int32))]))
    refine Go.st (fun _ k => XS.ifNo X6.here hx rfl (hb hby at_66) rfl ((if0 _ _).trans (teq (by decide : ((0 : Int32) = (0 : Int32)))).2) k) ?_
    show Go p e below _ (T6.setTop (mkF m 69 #[.val (.long q0), .second, .val (.long q1), .second, .val (.long q2), .second, .val (.ref b1), .val (.int (1 : Int32)), .val (.int (0 : Int32)), .val (.int (0 : Int32)), .val (.int (0 : Int32))] []))
    refine Go.st (fun _ k => XS.iconst X6.here hx rfl (hb hby at_69) k) ?_
    show Go p e below _ (T6.setTop (mkF m 70 #[.val (.long q0), .second, .val (.long q1), .second, .val (.long q2), .second, .val (.ref b1), .val (.int (1 : Int32)), .val (.int (0 : Int32)), .val (.int (0 : Int32)), .val (.int (0 : Int32))] [(.int (1 : Int32))]))
    refine Go.st (fun _ k => XS.goto X6.here hx rfl (pc0 := 70) (pc' := 74) rfl (hb hby at_70) (by decide) (by decide) k) ?_
    show Go p e below _ (T6.setTop (mkF m 74 #[.val (.long q0), .second, .val (.long q1), .second, .val (.long q2), .second, .val (.ref b1), .val (.int (1 : Int32)), .val (.int (0 : Int32)), .val (.int (0 : Int32)), .val (.int (0 : Int32))] [(.int (1 : Int32))]))
    obtain ⟨fs, hr, hrun, hended, hW, hsame⟩ := X6.leave (v := some (.int (1 : Int32))) (fun h => by rw [Bd.returns] at h; cases h)
    refine ⟨_, _, retN X6 hx (t := .boolean) Bd.returns (by simp) (hb hby at_74) hr, hrun, hended, _, _, rfl, ?_, ⟨_, rfl⟩, hW, hsame.mono (by decide) (by decide)⟩
    show Q_rm0 Z q0 q1 q2 h0 n0 _ T6.heap _
    rw [e6]
    exact ⟨rfl, N6⟩
  · skip
    have hs12 : (fEmpty q0 q1) = (0 : Int32) := own_emp0 hf7
    rw [hs12]
    show Go p e below _ (T6.setTop (mkF m 43 #[.val (.long q0), .second, .val (.long q1), .second, .val (.long q2), .second, .val (.ref b1), .val (.int (0 : Int32)), .val (.int (fHolds q0 q0 q1)), .val (.int (fHolds q1 q0 q1)), .val (.int (fHolds q2 q0 q1))] []))
    have hs13 : (fHolds q0 q0 q1) = (1 : Int32) := own_in0 hf7
    rw [hs13]
    show Go p e below _ (T6.setTop (mkF m 43 #[.val (.long q0), .second, .val (.long q1), .second, .val (.long q2), .second, .val (.ref b1), .val (.int (0 : Int32)), .val (.int (1 : Int32)), .val (.int (fHolds q1 q0 q1)), .val (.int (fHolds q2 q0 q1))] []))
    have hs14 : (fHolds q1 q0 q1) = (1 : Int32) := own_in1 hf7
    rw [hs14]
    show Go p e below _ (T6.setTop (mkF m 43 #[.val (.long q0), .second, .val (.long q1), .second, .val (.long q2), .second, .val (.ref b1), .val (.int (0 : Int32)), .val (.int (1 : Int32)), .val (.int (1 : Int32)), .val (.int (fHolds q2 q0 q1))] []))
    refine Go.st (fun _ k => XS.iload X6.here hx rfl (hb hby at_43) rfl k) ?_
    show Go p e below _ (T6.setTop (mkF m 45 #[.val (.long q0), .second, .val (.long q1), .second, .val (.long q2), .second, .val (.ref b1), .val (.int (0 : Int32)), .val (.int (1 : Int32)), .val (.int (1 : Int32)), .val (.int (fHolds q2 q0 q1))] [(.int (0 : Int32))]))
    refine Go.st (fun _ k => XS.ifYes X6.here hx rfl (pc0 := 45) (pc' := 75) rfl (hb hby at_45) rfl ((if0 _ _).trans (teq (by decide : ((0 : Int32) = (0 : Int32)))).1) (by decide) (by decide) k) ?_
    show Go p e below _ (T6.setTop (mkF m 75 #[.val (.long q0), .second, .val (.long q1), .second, .val (.long q2), .second, .val (.ref b1), .val (.int (0 : Int32)), .val (.int (1 : Int32)), .val (.int (1 : Int32)), .val (.int (fHolds q2 q0 q1))] []))
    refine Go.st (fun _ k => XS.lloadN X6.here hx rfl (hb hby at_75) rfl k) ?_
    show Go p e below _ (T6.setTop (mkF m 76 #[.val (.long q0), .second, .val (.long q1), .second, .val (.long q2), .second, .val (.ref b1), .val (.int (0 : Int32)), .val (.int (1 : Int32)), .val (.int (1 : Int32)), .val (.int (fHolds q2 q0 q1))] [(.long q0)]))
    refine Go.st (fun _ k => XS.lloadN X6.here hx rfl (hb hby at_76) rfl k) ?_
    show Go p e below _ (T6.setTop (mkF m 77 #[.val (.long q0), .second, .val (.long q1), .second, .val (.long q2), .second, .val (.ref b1), .val (.int (0 : Int32)), .val (.int (1 : Int32)), .val (.int (1 : Int32)), .val (.int (fHolds q2 q0 q1))] [(.long q1), (.long q0)]))
    refine Go.st (fun _ k => XS.lcmp X6.here hx rfl (hb hby at_77) rfl k) ?_
    show Go p e below _ (T6.setTop (mkF m 78 #[.val (.long q0), .second, .val (.long q1), .second, .val (.long q2), .second, .val (.ref b1), .val (.int (0 : Int32)), .val (.int (1 : Int32)), .val (.int (1 : Int32)), .val (.int (fHolds q2 q0 q1))] [(.int (lcmpW q0 q1))]))
    refine Go.st (fun _ k => XS.ifNo X6.here hx rfl (hb hby at_78) rfl ((if0 _ _).trans (flt (fun z => hf7 ((lw_gt _ _).mp z))).2.2.1) k) ?_
    show Go p e below _ (T6.setTop (mkF m 81 #[.val (.long q0), .second, .val (.long q1), .second, .val (.long q2), .second, .val (.ref b1), .val (.int (0 : Int32)), .val (.int (1 : Int32)), .val (.int (1 : Int32)), .val (.int (fHolds q2 q0 q1))] []))
    refine Go.st (fun _ k => XS.iload X6.here hx rfl (hb hby at_81) rfl k) ?_
    show Go p e below _ (T6.setTop (mkF m 83 #[.val (.long q0), .second, .val (.long q1), .second, .val (.long q2), .second, .val (.ref b1), .val (.int (0 : Int32)), .val (.int (1 : Int32)), .val (.int (1 : Int32)), .val (.int (fHolds q2 q0 q1))] [(.int (1 : Int32))]))
    refine Go.st (fun _ k => XS.ifNo X6.here hx rfl (hb hby at_83) rfl ((if0 _ _).trans (feq (by decide : ¬ ((1 : Int32) = (0 : Int32)))).1) k) ?_
    show Go p e below _ (T6.setTop (mkF m 86 #[.val (.long q0), .second, .val (.long q1), .second, .val (.long q2), .second, .val (.ref b1), .val (.int (0 : Int32)), .val (.int (1 : Int32)), .val (.int (1 : Int32)), .val (.int (fHolds q2 q0 q1))] []))
    refine Go.st (fun _ k => XS.iload X6.here hx rfl (hb hby at_86) rfl k) ?_
    show Go p e below _ (T6.setTop (mkF m 88 #[.val (.long q0), .second, .val (.long q1), .second, .val (.long q2), .second, .val (.ref b1), .val (.int (0 : Int32)), .val (.int (1 : Int32)), .val (.int (1 : Int32)), .val (.int (fHolds q2 q0 q1))] [(.int (1 : Int32))]))
    refine Go.st (fun _ k => XS.ifNo X6.here hx rfl (hb hby at_88) rfl ((if0 _ _).trans (feq (by decide : ¬ ((1 : Int32) = (0 : Int32)))).1) k) ?_
    show Go p e below _ (T6.setTop (mkF m 91 #[.val (.long q0), .second, .val (.long q1), .second, .val (.long q2), .second, .val (.ref b1), .val (.int (0 : Int32)), .val (.int (1 : Int32)), .val (.int (1 : Int32)), .val (.int (fHolds q2 q0 q1))] []))
    refine Go.st (fun _ k => XS.iconst X6.here hx rfl (hb hby at_91) k) ?_
    show Go p e below _ (T6.setTop (mkF m 92 #[.val (.long q0), .second, .val (.long q1), .second, .val (.long q2), .second, .val (.ref b1), .val (.int (0 : Int32)), .val (.int (1 : Int32)), .val (.int (1 : Int32)), .val (.int (fHolds q2 q0 q1))] [(.int (1 : Int32))]))
    refine Go.st (fun _ k => XS.goto X6.here hx rfl (pc0 := 92) (pc' := 96) rfl (hb hby at_92) (by decide) (by decide) k) ?_
    show Go p e below _ (T6.setTop (mkF m 96 #[.val (.long q0), .second, .val (.long q1), .second, .val (.long q2), .second, .val (.ref b1), .val (.int (0 : Int32)), .val (.int (1 : Int32)), .val (.int (1 : Int32)), .val (.int (fHolds q2 q0 q1))] [(.int (1 : Int32))]))
    obtain ⟨fs, hr, hrun, hended, hW, hsame⟩ := X6.leave (v := some (.int (1 : Int32))) (fun h => by rw [Bd.returns] at h; cases h)
    refine ⟨_, _, retN X6 hx (t := .boolean) Bd.returns (by simp) (hb hby at_96) hr, hrun, hended, _, _, rfl, ?_, ⟨_, rfl⟩, hW, hsame.mono (by decide) (by decide)⟩
    show Q_rm0 Z q0 q1 q2 h0 n0 _ T6.heap _
    rw [e6]
    exact ⟨rfl, N6⟩
set_option maxRecDepth 65536 in
set_option maxHeartbeats 40000000 in
theorem comes_1 {Post : Tables → Env → Array Value → State → Outcome → State → Prop} (hpost : ∀ tb e args s v u, (limb_1_1.after args s (.returned v) u = true ∧ limb_1_2.after args s (.returned v) u = true ∧ True) → FrameEnd s (.returned v) u (Jvm.fieldLocs frame_1_writes args s ++ Jvm.arrayLocs frame_1_arrays args s ++ Jvm.staticLocs frame_1_statics s) 16 128 → Post tb e args s (.returned v) u) :
    ArmFor flags0 classFile x code maxLocals ret World_1 tables_1 room_1 Calls_1 rest_1 Pre_1 Post := by
  intro l hfl _ _ p e ha hc hk s m args below hf hA hF happ hP
  obtain ⟨hcalls, hrest, hpre⟩ := hP
  obtain ⟨-, -, -, hnamed, -, -, -, hat⟩ := (Spec.applies_iff hf).mp happ
  obtain ⟨hg, hn⟩ := and_e (Cond.before_iff.mp (show (Jvm.Cond.and given_1 narrow_1).before args s = true from hpre))
  obtain ⟨g0, gr0⟩ := and_e hg
  obtain ⟨gi0, gr1⟩ := and_e gr0
  obtain ⟨gi1, gr2⟩ := and_e gr1
  have gi2 := gr2
  obtain ⟨w0, w1, w2, rfl⟩ : ∃ w0 w1 w2 : Value, args = #[w0, w1, w2] := by
    have hs : args.size = 3 := by simpa [Cond.value, given_1] using g0
    obtain ⟨L⟩ := args
    match L, hs with
    | [w0, w1, w2], _ => exact ⟨w0, w1, w2, rfl⟩
  have hw := fun d (hd : d ∈ tables_1) => atoms_spec (ws := Jvm.Cond.code x code maxLocals ret :: tables_1) hat d (List.mem_cons_of_mem _ hd)
  obtain ⟨i0, ei0⟩ := isL_v gi0
  obtain rfl : w0 = (.long i0) := Option.some.inj ei0
  obtain ⟨i1, ei1⟩ := isL_v gi1
  obtain rfl : w1 = (.long i1) := Option.some.inj ei1
  obtain ⟨i2, ei2⟩ := isL_v gi2
  obtain rfl : w2 = (.long i2) := Option.some.inj ei2
  obtain ⟨n, o, h1, h2, h3, _, L, rfl, ⟨rfl, N⟩, hq⟩ := rm0 l s _ hw tables_1 i0 i1 i2  s.heap s.heap.size (Nat.le_refl _) p e ha hc hk s m _ below hf ((Spec.applies_iff_loose hf).mp happ).1 ⟨rfl, State.Warmed39.refl s, rfl⟩ trivial
  refine ⟨n, _, h1, h2, h3, hpost _ _ _ _ _ _ ⟨Cond.after_iff.mpr rfl, Cond.after_iff.mpr (eq_i res_at (Term.int_eval (1)) rfl), trivial⟩ ⟨hq.1, hq.2.1, (hq.2.2.sift fun y hy => Or.inr (N y hy)).mono (by decide) (by decide)⟩⟩
theorem main_1_1 : Claimed_1_1 := comes_1 fun _ _ _ _ _ _ h hF => ⟨h.1, hF⟩
theorem main_1_2 : Claimed_1_2 := comes_1 fun _ _ _ _ _ _ h hF => ⟨h.2.1, hF⟩
end Jvm.Pilot.@@N@@
namespace Jvm.Pilot.@@N@@
open Jvm Jvm.ClassFile Sem Op Lib Jvm.Free Jvm.Stand Jvm.Pilot.@@N@@.Jvm.D
/-! MADE BY PROGRAM (witnessworld.py) out of the Statement's table words and the real class files: 10 classes; the members and pool entries that the words name. The judged class is class 1, her method 1. -/
namespace start1
open Jvm.ClassFile
def u (s : String) : CpInfo := .utf8 (stringToUtf16 s)
/-- a pool by its gaps: so many unusable entries, then the entry; so many at the end -/
def gap : Nat → List CpInfo → List CpInfo
  | 0, r => r
  | n + 1, r => .unusable :: gap n r
def poolList (es : List (Nat × CpInfo)) (last : Nat) : List CpInfo := es.foldr (fun e r => gap e.1 (e.2 :: r)) (gap last [])
def pool (es : List (Nat × CpInfo)) (last : Nat) : Array CpInfo := ⟨poolList es last⟩
def fileOf (pool : Array CpInfo) (this : Nat) (attrs : Array Attribute := #[]) (ms : Array MethodInfo := #[]) (fl : Nat := 33) (sup : Nat := 0) (ifs : Array Nat := #[]) (fds : Array FieldInfo := #[]) : ClassFile where
  minorVersion := 0
  majorVersion := 65
  constantPool := pool
  accessFlags := fl
  thisClass := this
  superClass := sup
  interfaces := ifs
  fields := fds
  methods := ms
  attributes := attrs
def plain (name : String) (sup : Option ClassId) : Class where
  name := name
  kind := .ordinary
  loader := none
  accessFlags := 33
  super := sup
  interfaces := #[]
  cf := none
  fields := #[]
  methods := #[]
  instanceTypes := #[]
  staticTypes := #[]
  resolved := #[]
  callSites := []
  init := .initialized
  statics := none
  mirror := none

def pool0 : Array CpInfo := pool [(5, u "<init>"), (0, u "()V"), (1, .class_ 10), (1, u "java/lang/Object")] 113

def k0c0 : Code := { maxStack := 0, maxLocals := 1, code := object_method_1_code, exceptionTable := #[], attributes := #[] }
def k0m0 : Method := { name := "<init>", desc := "()V", sig := { parameters := [], returnType := none }, accessFlags := 1, code := some k0c0 }
/-- java/lang/Object -/
def k0 : Class := { plain "java/lang/Object" none with
  accessFlags := 33
  interfaces := #[]
  cf := some (fileOf pool0 8 #[] #[{ accessFlags := 1, nameIndex := 5, descriptorIndex := 6, attributes := #[] }] 33 0 #[] #[])
  fields := #[]
  methods := #[k0m0]
  instanceTypes := #[]
  staticTypes := #[]
  resolved := Array.replicate 124 none
  statics := none }

def pool1 : Array CpInfo := pool [(2, .class_ 4), (1, u "java/lang/Object"), (0, u "<init>"), (0, u "()V"), (0, .class_ 8), (0, u "com/example/sortition/sortition/partition/TokenRange"), (0, .methodref 7 10), (0, .nameAndType 5 11), (0, u "(JJ)V"), (0, .methodref 7 13), (0, .nameAndType 14 15), (0, u "isEmpty"), (0, u "()Z"), (0, .methodref 7 17), (0, .nameAndType 18 19), (0, u "contains"), (0, u "(J)Z"), (0, .class_ 21), (0, u "com/example/sortition/sortition/partition/TokenRangeIsEmptyPinLaw"), (2, u "law"), (0, u "(JJJ)Z")] 3

def k1m0 : Method := { name := "<init>", desc := "()V", sig := { parameters := [], returnType := none }, accessFlags := 2, code := none }
def k1c1 : Code := { maxStack := 6, maxLocals := 11, code := code, exceptionTable := #[], attributes := #[] }
def k1m1 : Method := { name := "law", desc := "(JJJ)Z", sig := { parameters := [.long, .long, .long], returnType := some .boolean }, accessFlags := 9, code := some k1c1 }
/-- com/example/sortition/sortition/partition/TokenRangeIsEmptyPinLaw -/
def k1 : Class := { plain "com/example/sortition/sortition/partition/TokenRangeIsEmptyPinLaw" (some 0) with
  accessFlags := 49
  interfaces := #[]
  cf := some (fileOf pool1 20 #[] #[{ accessFlags := 2, nameIndex := 5, descriptorIndex := 6, attributes := #[] }, { accessFlags := 9, nameIndex := 24, descriptorIndex := 25, attributes := #[] }] 49 2 #[] #[])
  fields := #[]
  methods := #[k1m0, k1m1]
  instanceTypes := #[]
  staticTypes := #[]
  resolved := Array.replicate 29 none
  statics := none }

def pool2 : Array CpInfo := pool [(1, .methodref 2 3), (0, .class_ 4), (0, .nameAndType 5 6), (0, u "java/lang/Object"), (0, u "<init>"), (0, u "()V"), (0, .class_ 8), (0, u "java/lang/Record")] 13

def k2c0 : Code := { maxStack := 1, maxLocals := 1, code := jdk_30_method_1_code, exceptionTable := #[], attributes := #[] }
def k2m0 : Method := { name := "<init>", desc := "()V", sig := { parameters := [], returnType := none }, accessFlags := 4, code := some k2c0 }
/-- java/lang/Record -/
def k2 : Class := { plain "java/lang/Record" (some 0) with
  accessFlags := 1057
  interfaces := #[]
  cf := some (fileOf pool2 7 #[] #[{ accessFlags := 4, nameIndex := 5, descriptorIndex := 6, attributes := #[] }] 1057 2 #[] #[])
  fields := #[]
  methods := #[k2m0]
  instanceTypes := #[]
  staticTypes := #[]
  resolved := Array.replicate 22 none
  statics := none }

def pool3 : Array CpInfo := pool [(1, .methodref 2 3), (0, .class_ 4), (0, .nameAndType 5 6), (0, u "java/lang/Record"), (0, u "<init>"), (0, u "()V"), (0, .fieldref 8 9), (0, .class_ 10), (0, .nameAndType 11 12), (0, u "com/example/sortition/sortition/partition/TokenRange"), (0, u "first"), (0, u "J"), (0, .fieldref 8 14), (0, .nameAndType 15 12), (0, u "last"), (12, u "EMPTY"), (0, u "Lcom/example/sortition/sortition/partition/TokenRange;"), (4, u "(JJ)V"), (2, u "isEmpty"), (0, u "()Z"), (45, u "ALL"), (6, u "contains"), (0, u "(J)Z")] 29

def k3c0 : Code := { maxStack := 3, maxLocals := 5, code := prog_77_method_1_code, exceptionTable := #[], attributes := #[] }
def k3m0 : Method := { name := "<init>", desc := "(JJ)V", sig := { parameters := [.long, .long], returnType := none }, accessFlags := 1, code := some k3c0 }
def k3c1 : Code := { maxStack := 4, maxLocals := 1, code := prog_77_method_3_code, exceptionTable := #[], attributes := #[] }
def k3m1 : Method := { name := "isEmpty", desc := "()Z", sig := { parameters := [], returnType := some .boolean }, accessFlags := 1, code := some k3c1 }
def k3c2 : Code := { maxStack := 4, maxLocals := 3, code := prog_77_method_4_code, exceptionTable := #[], attributes := #[] }
def k3m2 : Method := { name := "contains", desc := "(J)Z", sig := { parameters := [.long], returnType := some .boolean }, accessFlags := 1, code := some k3c2 }
/-- com/example/sortition/sortition/partition/TokenRange -/
def k3 : Class := { plain "com/example/sortition/sortition/partition/TokenRange" (some 2) with
  accessFlags := 49
  interfaces := #[]
  cf := some (fileOf pool3 8 #[] #[{ accessFlags := 1, nameIndex := 5, descriptorIndex := 34, attributes := #[] }, { accessFlags := 1, nameIndex := 37, descriptorIndex := 38, attributes := #[] }, { accessFlags := 1, nameIndex := 91, descriptorIndex := 92, attributes := #[] }] 49 2 #[] #[{ accessFlags := 18, nameIndex := 11, descriptorIndex := 12, attributes := #[] }, { accessFlags := 18, nameIndex := 15, descriptorIndex := 12, attributes := #[] }, { accessFlags := 25, nameIndex := 84, descriptorIndex := 29, attributes := #[] }, { accessFlags := 26, nameIndex := 28, descriptorIndex := 29, attributes := #[] }])
  fields := #[{ name := "first", type := .long, accessFlags := 18, slot := 0, constantValue := 0 }, { name := "last", type := .long, accessFlags := 18, slot := 1, constantValue := 0 }, { name := "ALL", type := (.object "com/example/sortition/sortition/partition/TokenRange"), accessFlags := 25, slot := 0, constantValue := 0 }, { name := "EMPTY", type := (.object "com/example/sortition/sortition/partition/TokenRange"), accessFlags := 26, slot := 1, constantValue := 0 }]
  methods := #[k3m0, k3m1, k3m2]
  instanceTypes := #[.long, .long]
  staticTypes := #[(.object "com/example/sortition/sortition/partition/TokenRange"), (.object "com/example/sortition/sortition/partition/TokenRange")]
  resolved := Array.replicate 122 none
  statics := none }

def pool4 : Array CpInfo := pool [(1, u "java/lang/Cloneable"), (0, .class_ 1), (0, u "java/lang/Object"), (0, .class_ 3)] 3

/-- java/lang/Cloneable -/
def k4 : Class := { plain "java/lang/Cloneable" (some 0) with
  accessFlags := 1537
  interfaces := #[]
  cf := some (fileOf pool4 2 #[] #[] 1537 4 #[] #[])
  fields := #[]
  methods := #[]
  instanceTypes := #[]
  staticTypes := #[]
  resolved := Array.replicate 8 none
  statics := none }

def pool5 : Array CpInfo := pool [(1, u "java/io/Serializable"), (0, .class_ 1), (0, u "java/lang/Object"), (0, .class_ 3)] 3

/-- java/io/Serializable -/
def k5 : Class := { plain "java/io/Serializable" (some 0) with
  accessFlags := 1537
  interfaces := #[]
  cf := some (fileOf pool5 2 #[] #[] 1537 4 #[] #[])
  fields := #[]
  methods := #[]
  instanceTypes := #[]
  staticTypes := #[]
  resolved := Array.replicate 8 none
  statics := none }

/-- the primitive byte -/
def k6 : Class := { plain "byte" none with kind := .primitive 'B', accessFlags := 0x411 }
/-- [B -/
def k7 : Class := { plain "[B" (some 0) with kind := .array 6 .byte, interfaces := #[4, 5], accessFlags := 1041 }

/-- the primitive int -/
def k8 : Class := { plain "int" none with kind := .primitive 'I', accessFlags := 0x411 }
/-- [I -/
def k9 : Class := { plain "[I" (some 0) with kind := .array 8 .int, interfaces := #[4, 5], accessFlags := 1041 }

def heap : Heap := #[]
def classes : Array Class := #[k0, k1, k2, k3, k4, k5, k6, k7, k8, k9]
def interned : List (Array UInt16 × Addr) := []
def slotsUsed : Nat := 0
def theMethod : MethodId := ⟨1, 1⟩
def args0 : Array Value := #[.long 5, .long 6, .long 7]
def aboutOver (below : List Frame) : State where
  vm := { classes := classes, interned := interned.toArray }
  heap := heap
  slotsUsed := slotsUsed
  threads := #[{ frames := .invoking theMethod args0 :: below }]
def below0 : List Frame := [.native { method := ⟨0, 0⟩, args := #[] }]
def about1 : State := aboutOver below0
def p0 : Program := .bare "" "" ""
def e0 : Env := launch0.env 0 0 0
theorem w_frames : about1.frames = Frame.invoking theMethod args0 :: below0 := rfl
set_option maxRecDepth 65536 in
theorem w_args : argsFit about1.vm theMethod args0 = true := by decide +kernel
set_option maxRecDepth 65536 in
theorem w_heap : heapFits about1 = true := by decide +kernel
set_option maxRecDepth 65536 in
theorem w_runnable : about1.curStatus? = some .runnable := by decide +kernel
set_option maxRecDepth 65536 in
theorem w_alone : about1.alone = true := by decide +kernel
set_option maxRecDepth 65536 in
theorem w_named : about1.methodNamed? x = some theMethod := by decide +kernel
set_option maxRecDepth 65536 in
theorem w_hears : about1.hears theMethod below0 = true := by decide +kernel
set_option maxRecDepth 65536 in
theorem w_ripe : about1.ripe theMethod args0 below0 = true := by decide +kernel
theorem w_running : about1.status = .running := rfl
set_option maxRecDepth 65536 in
theorem w_room : about1.hasRoom e0.platform room_1 = true :=
  launch0.hasRoom_least _ room_1 (by decide +kernel) (by decide +kernel) (by decide +kernel) (by decide +kernel) (by decide +kernel) (by decide +kernel)
theorem allAtoms_all (ts : List Jvm.Cond) (a : Array Jvm.Value) (st : Jvm.State) : (allAtoms ts).before a st = ts.all (fun c => c.before a st) := by
  induction ts with
  | nil => rfl
  | cons c t ih =>
    show (Jvm.Cond.and c (allAtoms t)).before a st = _
    rw [Jvm.Cond.before_and, ih, List.all_cons]
def words1 : List Jvm.Cond := Jvm.Cond.code x code maxLocals ret :: tables_1
/-- a 'code' word, met by the world's own term for the bytes: nothing is compared byte by byte -/
theorem code_word {y : MethodName} {bytes : ByteArray} {mx : Nat} {rt : Option FieldType} {a : Array Value} {s : State} {m : MethodId} {meth : Method} {c : Code} (h1 : s.methodNamed? y = some m) (h2 : s.vm.method? m = some meth) (h3 : meth.code = some c) (h4 : c.code = bytes)
    (h5 : (c.maxLocals == mx && c.exceptionTable.isEmpty && decide (c.maxStack ≤ mostOperands) && decide (meth.sig.returnType = rt) && !meth.locks && decide (parseMethodDescriptor y.desc = some meth.sig)) = true) : (Jvm.Cond.code y bytes mx rt).before a s = true := by
  simp only [Bool.and_eq_true, beq_iff_eq, Bool.not_eq_true', decide_eq_true_eq] at h5
  obtain ⟨⟨⟨⟨⟨g1, g2⟩, g3⟩, g4⟩, g5⟩, g6⟩ := h5
  simp [Cond.before, Cond.holds, Cond.value, h1, h2, h3, h4, g1, g2, g3, g4, g5, g6]
def isCode : Jvm.Cond → Bool
  | .code _ _ _ _ => true
  | _ => false
theorem all_split {L : List Jvm.Cond} {P : Jvm.Cond → Bool} (h1 : L.all (fun c => isCode c || P c) = true) (h2 : ∀ c ∈ L.filter isCode, P c = true) : L.all P = true := by
  refine List.all_eq_true.mpr fun c hc => ?_
  have h := List.all_eq_true.mp h1 c hc
  rcases Bool.eq_false_or_eq_true (isCode c) with hi | hi
  · exact h2 c (List.mem_filter.mpr ⟨hc, hi⟩)
  · simpa [hi] using h
set_option maxRecDepth 65536 in
theorem w_c0 : (Jvm.Cond.code x code maxLocals ret).before args0 about1 = true := code_word (m := ⟨1, 1⟩) (meth := k1m1) (c := k1c1) (by decide +kernel) rfl rfl rfl (by decide +kernel)
set_option maxRecDepth 65536 in
theorem w_c1 : (Jvm.Cond.code ({ cls := "com/example/sortition/sortition/partition/TokenRange", name := "<init>", desc := "(JJ)V" } : Jvm.MethodName) prog_77_method_1_code (5 : Nat) (Option.none : Option Jvm.ClassFile.FieldType)).before args0 about1 = true := code_word (m := ⟨3, 0⟩) (meth := k3m0) (c := k3c0) (by decide +kernel) rfl rfl rfl (by decide +kernel)
set_option maxRecDepth 65536 in
theorem w_c2 : (Jvm.Cond.code ({ cls := "java/lang/Record", name := "<init>", desc := "()V" } : Jvm.MethodName) jdk_30_method_1_code (1 : Nat) (Option.none : Option Jvm.ClassFile.FieldType)).before args0 about1 = true := code_word (m := ⟨2, 0⟩) (meth := k2m0) (c := k2c0) (by decide +kernel) rfl rfl rfl (by decide +kernel)
set_option maxRecDepth 65536 in
theorem w_c3 : (Jvm.Cond.code ({ cls := "java/lang/Object", name := "<init>", desc := "()V" } : Jvm.MethodName) object_method_1_code (1 : Nat) (Option.none : Option Jvm.ClassFile.FieldType)).before args0 about1 = true := code_word (m := ⟨0, 0⟩) (meth := k0m0) (c := k0c0) (by decide +kernel) rfl rfl rfl (by decide +kernel)
set_option maxRecDepth 65536 in
theorem w_c4 : (Jvm.Cond.code ({ cls := "com/example/sortition/sortition/partition/TokenRange", name := "isEmpty", desc := "()Z" } : Jvm.MethodName) prog_77_method_3_code (1 : Nat) (Option.some Jvm.ClassFile.FieldType.boolean)).before args0 about1 = true := code_word (m := ⟨3, 1⟩) (meth := k3m1) (c := k3c1) (by decide +kernel) rfl rfl rfl (by decide +kernel)
set_option maxRecDepth 65536 in
theorem w_c5 : (Jvm.Cond.code ({ cls := "com/example/sortition/sortition/partition/TokenRange", name := "contains", desc := "(J)Z" } : Jvm.MethodName) prog_77_method_4_code (3 : Nat) (Option.some Jvm.ClassFile.FieldType.boolean)).before args0 about1 = true := code_word (m := ⟨3, 2⟩) (meth := k3m2) (c := k3c2) (by decide +kernel) rfl rfl rfl (by decide +kernel)
def codes1 : List Jvm.Cond := [Jvm.Cond.code x code maxLocals ret, Jvm.Cond.code ({ cls := "com/example/sortition/sortition/partition/TokenRange", name := "<init>", desc := "(JJ)V" } : Jvm.MethodName) prog_77_method_1_code (5 : Nat) (Option.none : Option Jvm.ClassFile.FieldType), Jvm.Cond.code ({ cls := "java/lang/Record", name := "<init>", desc := "()V" } : Jvm.MethodName) jdk_30_method_1_code (1 : Nat) (Option.none : Option Jvm.ClassFile.FieldType), Jvm.Cond.code ({ cls := "java/lang/Object", name := "<init>", desc := "()V" } : Jvm.MethodName) object_method_1_code (1 : Nat) (Option.none : Option Jvm.ClassFile.FieldType), Jvm.Cond.code ({ cls := "com/example/sortition/sortition/partition/TokenRange", name := "isEmpty", desc := "()Z" } : Jvm.MethodName) prog_77_method_3_code (1 : Nat) (Option.some Jvm.ClassFile.FieldType.boolean), Jvm.Cond.code ({ cls := "com/example/sortition/sortition/partition/TokenRange", name := "contains", desc := "(J)Z" } : Jvm.MethodName) prog_77_method_4_code (3 : Nat) (Option.some Jvm.ClassFile.FieldType.boolean)]
set_option maxRecDepth 65536 in
theorem codes_eq : words1.filter isCode = codes1 := rfl
theorem w_codes : ∀ c ∈ words1.filter isCode, c.before args0 about1 = true := by
  rw [codes_eq]
  intro c hc
  simp only [codes1, List.mem_cons, List.not_mem_nil, or_false] at hc
  rcases hc with rfl | rfl | rfl | rfl | rfl | rfl
  · exact w_c0
  · exact w_c1
  · exact w_c2
  · exact w_c3
  · exact w_c4
  · exact w_c5
set_option maxRecDepth 65536 in
theorem w_t1 : (words1.take 24).all (fun c => isCode c || c.before args0 about1) = true := by decide +kernel
set_option maxRecDepth 65536 in
theorem w_t2 : (words1.drop 24).all (fun c => isCode c || c.before args0 about1) = true := by decide +kernel
theorem w_tables : (allAtoms (Jvm.Cond.code x code maxLocals ret :: tables_1)).before args0 about1 = true := by
  rw [allAtoms_all]
  show words1.all (fun c => c.before args0 about1) = true
  refine all_split ?_ w_codes
  rw [← List.take_append_drop 24 words1, List.all_append, w_t1, w_t2]
  rfl
set_option maxRecDepth 65536 in
theorem w_case : (Jvm.Cond.and given_1 narrow_1).before args0 about1 = true := by decide +kernel
theorem w_applies : (headSpec (Jvm.Cond.code x code maxLocals ret :: tables_1) room_1).applies x e0.platform about1 = true :=
  (Spec.applies_iff w_frames).mpr ⟨w_running, w_runnable, w_alone, w_named, w_hears, w_ripe, w_room, w_tables⟩
theorem atStart : AtStart classFile x code maxLocals ret World_1 tables_1 room_1 Calls_1 rest_1 Pre_1 launch0 p0 e0 about1 theMethod args0 below0 :=
  ⟨lists_1, trivial, launch0.admits_env _ _ _, launch0.least_env, fairChoices_fair.cas, fairChoices_fair.clock, w_frames, w_args, w_heap, w_applies, trivial, trivial, w_case⟩
end start1
theorem witness_1 : WitnessClaimed_1 := ⟨start1.p0, start1.e0, start1.about1, start1.theMethod, start1.args0, start1.below0, start1.atStart⟩
end Jvm.Pilot.@@N@@
