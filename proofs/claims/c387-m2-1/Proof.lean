import JvmDerived
import JvmDerived.Pilot.@@N@@Statement
import JvmDerived.Pilot.@@N@@Code
set_option linter.unusedVariables false
set_option linter.unusedSimpArgs false
namespace Jvm.RoadKit
open Sem ClassFile Op Lib Jvm.Stand Jvm.Free Jvm.LawKit
section New
variable {p : Program} {l : Launch} {e : Env} {R : Room} {s : State} {m : MethodId} {args : Array Value} {below : List Frame} {meth : Method} {c : Code} {T : State} {locs : List Loc} {cells slots : Nat}
theorem retI (X : Stand p l e R s m args below meth c T locs cells slots) (hx : p.tables.exec = Jvm.exec) {pc : Nat} {Ls : Array Slot} {z : Int32} {rest : List Value} (hret : meth.sig.returnType = some .int) (hd : decode c.code pc = .ok (.ireturn, 1)) {fs : List Frame}
    (hl : ∀ (f : JFrame) (acts : List Action), f.method = m → f.locked = none → f.entered = [] → (doReturn e (T.setTop f) acts (some (.int z))).1 = T.setFrames fs) : Steps p.tables e below (T.setTop (mkF m pc Ls (.int z :: rest))) (T.setFrames fs) := by
  have hm' : T.vm.method? m = some meth := X.method'
  have hn : narrow .int (.int z) = .int z := rfl
  show Steps p.tables e below (T.setTop { method := m, pc := pc, locals := Ls, stack := _ :: rest, locked := none }) _
  jvm_step X.here [X.here.top, hx, hd, hm', hret, hn]
  first | (intro acts; rw [hl _ acts rfl rfl rfl]) | rw [hl _ _ rfl rfl rfl]
  exact Steps.refl _
theorem retJ (X : Stand p l e R s m args below meth c T locs cells slots) (hx : p.tables.exec = Jvm.exec) {pc : Nat} {Ls : Array Slot} {z : Int64} {rest : List Value} (hret : meth.sig.returnType = some .long) (hd : decode c.code pc = .ok (.lreturn, 1)) {fs : List Frame}
    (hl : ∀ (f : JFrame) (acts : List Action), f.method = m → f.locked = none → f.entered = [] → (doReturn e (T.setTop f) acts (some (.long z))).1 = T.setFrames fs) : Steps p.tables e below (T.setTop (mkF m pc Ls (.long z :: rest))) (T.setFrames fs) := by
  have hm' : T.vm.method? m = some meth := X.method'
  have hn : narrow .long (.long z) = .long z := rfl
  show Steps p.tables e below (T.setTop { method := m, pc := pc, locals := Ls, stack := _ :: rest, locked := none }) _
  jvm_step X.here [X.here.top, hx, hd, hm', hret, hn]
  first | (intro acts; rw [hl _ acts rfl rfl rfl]) | rw [hl _ _ rfl rfl rfl]
  exact Steps.refl _
theorem retA (X : Stand p l e R s m args below meth c T locs cells slots) (hx : p.tables.exec = Jvm.exec) {pc : Nat} {Ls : Array Slot} {z : Value} {t : FieldType} {rest : List Value} (hret : meth.sig.returnType = some t) (ht : t.isReference = true) (hz : z.isRef = true) (hd : decode c.code pc = .ok (.areturn, 1)) {fs : List Frame}
    (hl : ∀ (f : JFrame) (acts : List Action), f.method = m → f.locked = none → f.entered = [] → (doReturn e (T.setTop f) acts (some z)).1 = T.setFrames fs) : Steps p.tables e below (T.setTop (mkF m pc Ls (z :: rest))) (T.setFrames fs) := by
  have hm' : T.vm.method? m = some meth := X.method'
  show Steps p.tables e below (T.setTop { method := m, pc := pc, locals := Ls, stack := _ :: rest, locked := none }) _
  jvm_step X.here [X.here.top, hx, hd, hm', hret, ht, hz]
  first | (intro acts; rw [hl _ acts rfl rfl rfl]) | rw [hl _ _ rfl rfl rfl]
  exact Steps.refl _
end New
end Jvm.RoadKit
@@BLOCK:NumsL.lean.txt@@
@@BLOCK:Masks.lean.txt@@
namespace Jvm.Pilot.@@N@@
open Jvm Jvm.ClassFile Sem Op Lib Jvm.Free Jvm.Stand Jvm.LawKit Jvm.RoadKit Bundle Jvm.Pilot.@@N@@.Jvm.D
/-- the run comes from st to an end of which F holds -/
abbrev Go (p : Program) (e : Env) (below : List Frame) (F : Outcome → State → Prop) (st : State) : Prop := ∃ t o, Steps p.tables e below st t ∧ t.status = .running ∧ Ended t below o ∧ F o t
theorem Go.st {p : Program} {e : Env} {below : List Frame} {F : Outcome → State → Prop} {a b : State} (h : ∀ t, Steps p.tables e below b t → Steps p.tables e below a t) (k : Go p e below F b) : Go p e below F a := by
  obtain ⟨t, o, h1, h2⟩ := k
  exact ⟨t, o, h t h1, h2⟩
/-- Java's x % y -/
abbrev jrem (x y : Int32) : Int32 := x - (x / y) * y
abbrev jremL (x y : Int64) : Int64 := x - (x / y) * y
theorem Go.cast {p : Program} {e : Env} {below : List Frame} {F : Outcome → State → Prop} {a b : State} (h : a = b) (k : Go p e below F b) : Go p e below F a := h ▸ k
theorem d3_0 : decode jdk_30_method_1_code 0 = .ok (.aload_n 0, 1) := by decide +kernel
theorem d3_1 : decode jdk_30_method_1_code 1 = .ok (.invokespecial 1, 3) := by decide +kernel
theorem d3_4 : decode jdk_30_method_1_code 4 = .ok (.return_, 1) := by decide +kernel
theorem pn_3 : plainName "java/lang/Record" = true := by first | (simp [plainName, overriddenIn]; done) | decide +kernel
theorem ef_rm3 (m : MethodId) (a0 : Addr) : entryFrame m #[(.ref a0)] 1 = mkF m 0 #[.val (.ref a0)] [] := by first | (simp [entryFrame, mkF, argsToLocals, Value.category]; done) | rfl
def Q_rm3 (Z : State) (a0 : Addr) (h0 : Heap) (n0 : Nat) (v : Option Value) (h : Heap) (L : List Loc) : Prop := v = none ∧ Fr n0 L ∧ h = h0
abbrev F_rm3 (Z : State) (a0 : Addr) (h0 : Heap) (n0 : Nat) (s : State) (o : Outcome) (U : State) : Prop := ∃ v L, o = .returned v ∧ Q_rm3 Z a0 h0 n0 v U.heap L ∧ FrameEnd s o U L 0 0
set_option maxRecDepth 65536 in
set_option maxHeartbeats 40000000 in
theorem rm3 (l : Launch) (Z : State) (aZ : Array Value) (hw : ∀ d ∈ tables_1, d.before aZ Z = true) (ws : List Jvm.Cond) (a0 : Addr) (h0 : Heap) (n0 : Nat) :
    MetFree l (⟨"java/lang/Record", "<init>", "()V"⟩ : MethodName) (head1 (Jvm.Cond.code (⟨"java/lang/Record", "<init>", "()V"⟩ : MethodName) jdk_30_method_1_code 1 none :: ws) ({ frames := 1, cells := 0, slots := 0, locals := 12 } : Room)) (fun a U => a = #[(.ref a0)] ∧ Z.Warmed39 U.vm ∧ U.heap = h0) (fun _ _ _ _ _ => True) (fun _ U o U' => ∃ v L, o = .returned v ∧ Q_rm3 Z a0 h0 n0 v U'.heap L ∧ FrameEnd U o U' L 0 0) := by
  refine MetFree.of_bodySF (plainFor_of_name pn_3) hisR ?_
  intro p e s m args below meth c s₁ Bd hml0 hP hK
  obtain ⟨rfl, hZ, hh⟩ := hP
  have hx := Bd.exec
  have hby := Bd.bytes
  have hml : c.maxLocals = 1 := hml0
  have hown : s.vm.findClass "java/lang/Record" = some m.cls := findClass_of_methodNamed Bd.named
  have hnm := (name_of_methodNamed Bd.named Bd.method).1
  have X0 : Stand p l e ({ frames := 1, cells := 0, slots := 0, locals := 12 } : Room) s m #[(.ref a0)] below meth c s₁ [] 0 0 := Stand.of_body Bd
  have e0 : s₁.heap = h0 := by rw [← hh, Bd.state]; rfl
  have N0 := Fr.nil n0
  refine Go.st (fun _ k => castTop (ef_rm3 m a0) k) ?_
  show Go p e below _ (s₁.setTop (mkF m 0 #[.val (.ref a0)] []))
  refine Go.st (fun _ k => XS.aloadN X0.here hx rfl (hb hby d3_0) rfl rfl k) ?_
  show Go p e below _ (s₁.setTop (mkF m 1 #[.val (.ref a0)] [(.ref a0)]))
  obtain ⟨T1, X1, e1, st1⟩ := initO X0 hx hZ hown (hw _ (List.mem_of_getElem? (i := 15) rfl)) (hw _ (List.mem_of_getElem? (i := 16) rfl)) (hw _ (List.mem_of_getElem? (i := 17) rfl)) e0 (g := (mkF m 1 #[.val (.ref a0)] [(.ref a0)])) rfl (by rw [hml]; rfl) rfl (hb hby d3_1) (by decide) (W := 0) (by show 2 * 0 + _ ≤ _; exact Nat.le_of_eq rfl) (by decide)
  refine Go.st (fun _ k => st1 _ k) ?_
  show Go p e below _ (T1.setTop (mkF m 4 #[.val (.ref a0)] []))
  obtain ⟨fs, hr, hrun, hended, hW, hsame⟩ := X1.leave (v := none) (fun _ => rfl)
  refine ⟨_, _, X1.returnOut hx Bd.returns (hb hby d3_4) hr, hrun, hended, _, _, rfl, ?_, ⟨_, rfl⟩, hW, hsame.mono (by decide) (by decide)⟩
  show Q_rm3 Z a0 h0 n0 _ T1.heap _
  rw [e1]
  refine ⟨?_, N0, rfl⟩
  rfl
theorem d2_0 : decode prog_77_method_1_code 0 = .ok (.aload_n 0, 1) := by decide +kernel
theorem d2_1 : decode prog_77_method_1_code 1 = .ok (.invokespecial 1, 3) := by decide +kernel
theorem d2_4 : decode prog_77_method_1_code 4 = .ok (.aload_n 0, 1) := by decide +kernel
theorem d2_5 : decode prog_77_method_1_code 5 = .ok (.lload_n 1, 1) := by decide +kernel
theorem d2_6 : decode prog_77_method_1_code 6 = .ok (.putfield 7, 3) := by decide +kernel
theorem d2_9 : decode prog_77_method_1_code 9 = .ok (.aload_n 0, 1) := by decide +kernel
theorem d2_10 : decode prog_77_method_1_code 10 = .ok (.lload_n 3, 1) := by decide +kernel
theorem d2_11 : decode prog_77_method_1_code 11 = .ok (.putfield 13, 3) := by decide +kernel
theorem d2_14 : decode prog_77_method_1_code 14 = .ok (.return_, 1) := by decide +kernel
theorem pn_2 : plainName "com/example/sortition/sortition/partition/TokenRange" = true := by first | (simp [plainName, overriddenIn]; done) | decide +kernel
theorem pda8eb9 : parseMethodDescriptor "()V" = some ⟨[], none⟩ := by decide +kernel
theorem ef_rm2 (m : MethodId) (a0 : Addr) (q1 : Int64) (q2 : Int64) : entryFrame m #[(.ref a0), (.long q1), (.long q2)] 5 = mkF m 0 #[.val (.ref a0), .val (.long q1), .second, .val (.long q2), .second] [] := by first | (simp [entryFrame, mkF, argsToLocals, Value.category]; done) | rfl
def Q_rm2 (Z : State) (a0 : Addr) (q1 : Int64) (q2 : Int64) (h0 : Heap) (n0 : Nat) (v : Option Value) (h : Heap) (L : List Loc) : Prop := v = none ∧ Fr n0 L ∧ Keep h0 h [a0] ∧ Exa Z h a0 "com/example/sortition/sortition/partition/TokenRange" ∧ Fld Z h a0 "com/example/sortition/sortition/partition/TokenRange" "first" "J" (.long q1) ∧ Fld Z h a0 "com/example/sortition/sortition/partition/TokenRange" "last" "J" (.long q2)
abbrev F_rm2 (Z : State) (a0 : Addr) (q1 : Int64) (q2 : Int64) (h0 : Heap) (n0 : Nat) (s : State) (o : Outcome) (U : State) : Prop := ∃ v L, o = .returned v ∧ Q_rm2 Z a0 q1 q2 h0 n0 v U.heap L ∧ FrameEnd s o U L 0 0
set_option maxRecDepth 65536 in
set_option maxHeartbeats 40000000 in
theorem rm2 (l : Launch) (Z : State) (aZ : Array Value) (hw : ∀ d ∈ tables_1, d.before aZ Z = true) (ws : List Jvm.Cond) (a0 : Addr) (q1 : Int64) (q2 : Int64) (h0 : Heap) (n0 : Nat) (Z0 : n0 ≤ h0.size) (gA : n0 ≤ a0) (EA : Exa Z h0 a0 "com/example/sortition/sortition/partition/TokenRange") (FA0 : Fld Z h0 a0 "com/example/sortition/sortition/partition/TokenRange" "first" "J" (.long (0 : Int64))) (FA1 : Fld Z h0 a0 "com/example/sortition/sortition/partition/TokenRange" "last" "J" (.long (0 : Int64))) :
    MetFree l (⟨"com/example/sortition/sortition/partition/TokenRange", "<init>", "(JJ)V"⟩ : MethodName) (head1 (Jvm.Cond.code (⟨"com/example/sortition/sortition/partition/TokenRange", "<init>", "(JJ)V"⟩ : MethodName) prog_77_method_1_code 5 none :: ws) ({ frames := 2, cells := 0, slots := 0, locals := 24 } : Room)) (fun a U => a = #[(.ref a0), (.long q1), (.long q2)] ∧ Z.Warmed39 U.vm ∧ U.heap = h0) (fun _ _ _ _ _ => True) (fun _ U o U' => ∃ v L, o = .returned v ∧ Q_rm2 Z a0 q1 q2 h0 n0 v U'.heap L ∧ FrameEnd U o U' L 0 0) := by
  refine MetFree.of_bodySF (plainFor_of_name pn_2) hisR ?_
  intro p e s m args below meth c s₁ Bd hml0 hP hK
  obtain ⟨rfl, hZ, hh⟩ := hP
  have hx := Bd.exec
  have hby := Bd.bytes
  have hml : c.maxLocals = 5 := hml0
  have hown : s.vm.findClass "com/example/sortition/sortition/partition/TokenRange" = some m.cls := findClass_of_methodNamed Bd.named
  have hnm := (name_of_methodNamed Bd.named Bd.method).1
  have X0 : Stand p l e ({ frames := 2, cells := 0, slots := 0, locals := 24 } : Room) s m #[(.ref a0), (.long q1), (.long q2)] below meth c s₁ [] 0 0 := Stand.of_body Bd
  have e0 : s₁.heap = h0 := by rw [← hh, Bd.state]; rfl
  have N0 := Fr.nil n0
  refine Go.st (fun _ k => castTop (ef_rm2 m a0 q1 q2) k) ?_
  have K0 : Keep h0 h0 [a0] := Keep.refl h0 _
  show Go p e below _ (s₁.setTop (mkF m 0 #[.val (.ref a0), .val (.long q1), .second, .val (.long q2), .second] []))
  refine Go.st (fun _ k => XS.aloadN X0.here hx rfl (hb hby d2_0) rfl rfl k) ?_
  show Go p e below _ (s₁.setTop (mkF m 1 #[.val (.ref a0), .val (.long q1), .second, .val (.long q2), .second] [(.ref a0)]))
  obtain ⟨_, _, ⟨T1, L1, k1, n1⟩, -, X1, ⟨Lc1, hQ1, l1, y1, z1⟩, st1⟩ := X0.specialBack hx (y := (⟨"java/lang/Record", "<init>", "()V"⟩ : MethodName)) rfl hown (mvT hZ (hw _ (List.mem_of_getElem? (i := 10) rfl))) (mvT hZ (hw _ (List.mem_of_getElem? (i := 11) rfl))) (mvT hZ (hw _ (List.mem_of_getElem? (i := 14) rfl))) (by decide) (backOf (W := 0) (rm3 l Z aZ hw [] a0 h0 n0 ) hZ (hw _ (List.mem_of_getElem? (i := 14) rfl)) (hw _ (List.mem_of_getElem? (i := 13) rfl)) (by decide) (by decide)) (g := (mkF m 1 #[.val (.ref a0), .val (.long q1), .second, .val (.long q2), .second] [(.ref a0)])) rfl (by rw [hml]; rfl) (Steps.refl _) (a := a0) (argsL := []) (rest := []) (lenOf pda8eb9 rfl) rfl (by show 2 * 0 + _ ≤ _; exact Nat.le_of_eq rfl) (hb hby d2_1) (fun _ _ => ⟨rfl, e0, (by decide : 0 + 0 ≤ _), (by decide : 0 + 0 ≤ _)⟩)
  dsimp only [Pt.U, Pt.locs, Pt.cells, Pt.slots] at X1 l1 y1 z1 st1 hQ1
  subst l1 y1 z1
  obtain ⟨rfl, N1q, e1⟩ := hQ1
  have N1 := Fr.app N0 N1q
  refine Go.st (fun _ k => st1.trans k) ?_
  show Go p e below _ (T1.setTop (mkF m 4 #[.val (.ref a0), .val (.long q1), .second, .val (.long q2), .second] []))
  refine Go.st (fun _ k => XS.aloadN X1.here hx rfl (hb hby d2_4) rfl rfl k) ?_
  show Go p e below _ (T1.setTop (mkF m 5 #[.val (.ref a0), .val (.long q1), .second, .val (.long q2), .second] [(.ref a0)]))
  refine Go.st (fun _ k => XS.lloadN X1.here hx rfl (hb hby d2_5) rfl k) ?_
  show Go p e below _ (T1.setTop (mkF m 6 #[.val (.ref a0), .val (.long q1), .second, .val (.long q2), .second] [(.long q1), (.ref a0)]))
  obtain ⟨T2, h2, X2, e2, W2, st2⟩ := putF X1 hx hZ hown (host := "") (Or.inl (hw _ (List.mem_of_getElem? (i := 18) rfl))) Via.refl e1 FA0 EA (Or.inr ⟨(hw _ (List.mem_of_getElem? (i := 19) rfl)), rfl, hnm⟩) (hw _ (List.mem_of_getElem? (i := 5) rfl)) (ty := .long) (by decide) rfl rfl (g := (mkF m 6 #[.val (.ref a0), .val (.long q1), .second, .val (.long q2), .second] [(.long q1), (.ref a0)])) rfl rfl (hb hby d2_6)
  have F2_E_a0 := EA.wr W2
  have F2_F_a0_last := FA1.other W2 (Or.inr (slot_ne (Or.inr (hw _ (List.mem_of_getElem? (i := 21) rfl))) (Or.inr (hw _ (List.mem_of_getElem? (i := 19) rfl))) (by decide) (t := .long) (t' := .long) (by decide) (by decide)))
  have Fw2 := FA0.same W2
  have N2 := Fr.snoc X2 N1 gA
  have K2 : Keep h0 h2 [a0] := K0.wr W2 (Or.inl (List.mem_of_getElem? (i := 0) rfl))
  have Z2 : n0 ≤ h2.size := by rw [W2.size]; exact Z0
  refine Go.st (fun _ k => st2 _ k) ?_
  show Go p e below _ (T2.setTop (mkF m 9 #[.val (.ref a0), .val (.long q1), .second, .val (.long q2), .second] []))
  refine Go.st (fun _ k => XS.aloadN X2.here hx rfl (hb hby d2_9) rfl rfl k) ?_
  show Go p e below _ (T2.setTop (mkF m 10 #[.val (.ref a0), .val (.long q1), .second, .val (.long q2), .second] [(.ref a0)]))
  refine Go.st (fun _ k => XS.lloadN X2.here hx rfl (hb hby d2_10) rfl k) ?_
  show Go p e below _ (T2.setTop (mkF m 11 #[.val (.ref a0), .val (.long q1), .second, .val (.long q2), .second] [(.long q2), (.ref a0)]))
  obtain ⟨T3, h3, X3, e3, W3, st3⟩ := putF X2 hx hZ hown (host := "") (Or.inl (hw _ (List.mem_of_getElem? (i := 20) rfl))) Via.refl e2 F2_F_a0_last F2_E_a0 (Or.inr ⟨(hw _ (List.mem_of_getElem? (i := 21) rfl)), rfl, hnm⟩) (hw _ (List.mem_of_getElem? (i := 5) rfl)) (ty := .long) (by decide) rfl rfl (g := (mkF m 11 #[.val (.ref a0), .val (.long q1), .second, .val (.long q2), .second] [(.long q2), (.ref a0)])) rfl rfl (hb hby d2_11)
  have F3_E_a0 := F2_E_a0.wr W3
  have F3_F_a0_first := Fw2.other W3 (Or.inr (slot_ne (Or.inr (hw _ (List.mem_of_getElem? (i := 19) rfl))) (Or.inr (hw _ (List.mem_of_getElem? (i := 21) rfl))) (by decide) (t := .long) (t' := .long) (by decide) (by decide)))
  have Fw3 := F2_F_a0_last.same W3
  have N3 := Fr.snoc X3 N2 gA
  have K3 : Keep h0 h3 [a0] := K2.wr W3 (Or.inl (List.mem_of_getElem? (i := 0) rfl))
  have Z3 : n0 ≤ h3.size := by rw [W3.size]; exact Z2
  refine Go.st (fun _ k => st3 _ k) ?_
  show Go p e below _ (T3.setTop (mkF m 14 #[.val (.ref a0), .val (.long q1), .second, .val (.long q2), .second] []))
  obtain ⟨fs, hr, hrun, hended, hW, hsame⟩ := X3.leave (v := none) (fun _ => rfl)
  refine ⟨_, _, X3.returnOut hx Bd.returns (hb hby d2_14) hr, hrun, hended, _, _, rfl, ?_, ⟨_, rfl⟩, hW, hsame.mono (by decide) (by decide)⟩
  show Q_rm2 Z a0 q1 q2 h0 n0 _ T3.heap _
  rw [e3]
  exact ⟨rfl, N3, K3, F3_E_a0, F3_F_a0_first, Fw3⟩
theorem d5_0 : decode prog_77_method_4_code 0 = .ok (.aload_n 0, 1) := by decide +kernel
theorem d5_1 : decode prog_77_method_4_code 1 = .ok (.getfield 7, 3) := by decide +kernel
theorem d5_4 : decode prog_77_method_4_code 4 = .ok (.lload_n 1, 1) := by decide +kernel
theorem d5_5 : decode prog_77_method_4_code 5 = .ok (.lcmp, 1) := by decide +kernel
theorem d5_6 : decode prog_77_method_4_code 6 = .ok (.ifCond .gt 16, 3) := by decide +kernel
theorem d5_9 : decode prog_77_method_4_code 9 = .ok (.lload_n 1, 1) := by decide +kernel
theorem d5_10 : decode prog_77_method_4_code 10 = .ok (.aload_n 0, 1) := by decide +kernel
theorem d5_11 : decode prog_77_method_4_code 11 = .ok (.getfield 13, 3) := by decide +kernel
theorem d5_14 : decode prog_77_method_4_code 14 = .ok (.lcmp, 1) := by decide +kernel
theorem d5_15 : decode prog_77_method_4_code 15 = .ok (.ifCond .gt 7, 3) := by decide +kernel
theorem d5_18 : decode prog_77_method_4_code 18 = .ok (.iconst 1, 1) := by decide +kernel
theorem d5_19 : decode prog_77_method_4_code 19 = .ok (.goto 4, 3) := by decide +kernel
theorem d5_22 : decode prog_77_method_4_code 22 = .ok (.iconst 0, 1) := by decide +kernel
theorem d5_23 : decode prog_77_method_4_code 23 = .ok (.ireturn, 1) := by decide +kernel
theorem pn_5 : plainName "com/example/sortition/sortition/partition/TokenRange" = true := by first | (simp [plainName, overriddenIn]; done) | decide +kernel
theorem ef_rm5 (m : MethodId) (a0 : Addr) (q1 : Int64) : entryFrame m #[(.ref a0), (.long q1)] 3 = mkF m 0 #[.val (.ref a0), .val (.long q1), .second] [] := by first | (simp [entryFrame, mkF, argsToLocals, Value.category]; done) | rfl
def fHolds (q1 : Int64) (u0 : Int64) (u1 : Int64) : Int32 := if q1 < u0 then (0 : Int32) else (if u1 < q1 then (0 : Int32) else (1 : Int32))
def Q_rm5 (Z : State) (a0 : Addr) (q1 : Int64) (u0 : Int64) (u1 : Int64) (h0 : Heap) (n0 : Nat) (v : Option Value) (h : Heap) (L : List Loc) : Prop := v = some (.int (fHolds q1 u0 u1)) ∧ Fr n0 L ∧ h = h0
abbrev F_rm5 (Z : State) (a0 : Addr) (q1 : Int64) (u0 : Int64) (u1 : Int64) (h0 : Heap) (n0 : Nat) (s : State) (o : Outcome) (U : State) : Prop := ∃ v L, o = .returned v ∧ Q_rm5 Z a0 q1 u0 u1 h0 n0 v U.heap L ∧ FrameEnd s o U L 0 0
set_option maxRecDepth 65536 in
set_option maxHeartbeats 40000000 in
theorem rm5 (l : Launch) (Z : State) (aZ : Array Value) (hw : ∀ d ∈ tables_1, d.before aZ Z = true) (ws : List Jvm.Cond) (a0 : Addr) (q1 : Int64) (u0 : Int64) (u1 : Int64) (h0 : Heap) (n0 : Nat) (F_u0 : Fld Z h0 a0 "com/example/sortition/sortition/partition/TokenRange" "first" "J" (.long u0)) (F_u1 : Fld Z h0 a0 "com/example/sortition/sortition/partition/TokenRange" "last" "J" (.long u1)) :
    MetFree l (⟨"com/example/sortition/sortition/partition/TokenRange", "contains", "(J)Z"⟩ : MethodName) (head1 (Jvm.Cond.code (⟨"com/example/sortition/sortition/partition/TokenRange", "contains", "(J)Z"⟩ : MethodName) prog_77_method_4_code 3 (some .boolean) :: ws) ({ frames := 0, cells := 0, slots := 0, locals := 0 } : Room)) (fun a U => a = #[(.ref a0), (.long q1)] ∧ Z.Warmed39 U.vm ∧ U.heap = h0) (fun _ _ _ _ _ => True) (fun _ U o U' => ∃ v L, o = .returned v ∧ Q_rm5 Z a0 q1 u0 u1 h0 n0 v U'.heap L ∧ FrameEnd U o U' L 0 0) := by
  refine MetFree.of_bodySF (plainFor_of_name pn_5) hisR ?_
  intro p e s m args below meth c s₁ Bd hml0 hP hK
  obtain ⟨rfl, hZ, hh⟩ := hP
  have hx := Bd.exec
  have hby := Bd.bytes
  have hml : c.maxLocals = 3 := hml0
  have hown : s.vm.findClass "com/example/sortition/sortition/partition/TokenRange" = some m.cls := findClass_of_methodNamed Bd.named
  have hnm := (name_of_methodNamed Bd.named Bd.method).1
  have X0 : Stand p l e ({ frames := 0, cells := 0, slots := 0, locals := 0 } : Room) s m #[(.ref a0), (.long q1)] below meth c s₁ [] 0 0 := Stand.of_body Bd
  have e0 : s₁.heap = h0 := by rw [← hh, Bd.state]; rfl
  have N0 := Fr.nil n0
  refine Go.st (fun _ k => castTop (ef_rm5 m a0 q1) k) ?_
  show Go p e below _ (s₁.setTop (mkF m 0 #[.val (.ref a0), .val (.long q1), .second] []))
  refine Go.st (fun _ k => XS.aloadN X0.here hx rfl (hb hby d5_0) rfl rfl k) ?_
  show Go p e below _ (s₁.setTop (mkF m 1 #[.val (.ref a0), .val (.long q1), .second] [(.ref a0)]))
  obtain ⟨T1, X1, e1, st1⟩ := getF X0 hx hZ hown (host := "") (Or.inl (hw _ (List.mem_of_getElem? (i := 18) rfl))) Via.refl e0 F_u0 (g := (mkF m 1 #[.val (.ref a0), .val (.long q1), .second] [(.ref a0)])) rfl rfl (hb hby d5_1)
  refine Go.st (fun _ k => st1 _ k) ?_
  show Go p e below _ (T1.setTop (mkF m 4 #[.val (.ref a0), .val (.long q1), .second] [(.long u0)]))
  refine Go.st (fun _ k => XS.lloadN X1.here hx rfl (hb hby d5_4) rfl k) ?_
  show Go p e below _ (T1.setTop (mkF m 5 #[.val (.ref a0), .val (.long q1), .second] [(.long q1), (.long u0)]))
  refine Go.st (fun _ k => XS.lcmp X1.here hx rfl (hb hby d5_5) rfl k) ?_
  show Go p e below _ (T1.setTop (mkF m 6 #[.val (.ref a0), .val (.long q1), .second] [(.int (lcmpW u0 q1))]))
  by_cases hc2 : q1 < u0
  · show Go p e below _ (T1.setTop (mkF m 6 #[.val (.ref a0), .val (.long q1), .second] [(.int (lcmpW u0 q1))]))
    refine Go.st (fun _ k => XS.ifYes X1.here hx rfl (pc0 := 6) (pc' := 22) rfl (hb hby d5_6) rfl ((if0 _ _).trans (tlt ((lw_gt _ _).mpr hc2)).2.2.1) (by decide) (by decide) k) ?_
    show Go p e below _ (T1.setTop (mkF m 22 #[.val (.ref a0), .val (.long q1), .second] []))
    refine Go.st (fun _ k => XS.iconst X1.here hx rfl (hb hby d5_22) k) ?_
    show Go p e below _ (T1.setTop (mkF m 23 #[.val (.ref a0), .val (.long q1), .second] [(.int (0 : Int32))]))
    obtain ⟨fs, hr, hrun, hended, hW, hsame⟩ := X1.leave (v := some (.int (0 : Int32))) (fun h => by rw [Bd.returns] at h; cases h)
    refine ⟨_, _, retN X1 hx (t := .boolean) Bd.returns (by simp) (hb hby d5_23) hr, hrun, hended, _, _, rfl, ?_, ⟨_, rfl⟩, hW, hsame.mono (by decide) (by decide)⟩
    show Q_rm5 Z a0 q1 u0 u1 h0 n0 _ T1.heap _
    rw [e1]
    refine ⟨?_, N0, rfl⟩
    unfold fHolds
    rw [if_pos hc2]
  · show Go p e below _ (T1.setTop (mkF m 6 #[.val (.ref a0), .val (.long q1), .second] [(.int (lcmpW u0 q1))]))
    refine Go.st (fun _ k => XS.ifNo X1.here hx rfl (hb hby d5_6) rfl ((if0 _ _).trans (flt (fun z => hc2 ((lw_gt _ _).mp z))).2.2.1) k) ?_
    show Go p e below _ (T1.setTop (mkF m 9 #[.val (.ref a0), .val (.long q1), .second] []))
    refine Go.st (fun _ k => XS.lloadN X1.here hx rfl (hb hby d5_9) rfl k) ?_
    show Go p e below _ (T1.setTop (mkF m 10 #[.val (.ref a0), .val (.long q1), .second] [(.long q1)]))
    refine Go.st (fun _ k => XS.aloadN X1.here hx rfl (hb hby d5_10) rfl rfl k) ?_
    show Go p e below _ (T1.setTop (mkF m 11 #[.val (.ref a0), .val (.long q1), .second] [(.ref a0), (.long q1)]))
    obtain ⟨T3, X3, e3, st3⟩ := getF X1 hx hZ hown (host := "") (Or.inl (hw _ (List.mem_of_getElem? (i := 20) rfl))) Via.refl e1 F_u1 (g := (mkF m 11 #[.val (.ref a0), .val (.long q1), .second] [(.ref a0), (.long q1)])) rfl rfl (hb hby d5_11)
    refine Go.st (fun _ k => st3 _ k) ?_
    show Go p e below _ (T3.setTop (mkF m 14 #[.val (.ref a0), .val (.long q1), .second] [(.long u1), (.long q1)]))
    refine Go.st (fun _ k => XS.lcmp X3.here hx rfl (hb hby d5_14) rfl k) ?_
    show Go p e below _ (T3.setTop (mkF m 15 #[.val (.ref a0), .val (.long q1), .second] [(.int (lcmpW q1 u1))]))
    by_cases hc4 : u1 < q1
    · show Go p e below _ (T3.setTop (mkF m 15 #[.val (.ref a0), .val (.long q1), .second] [(.int (lcmpW q1 u1))]))
      refine Go.st (fun _ k => XS.ifYes X3.here hx rfl (pc0 := 15) (pc' := 22) rfl (hb hby d5_15) rfl ((if0 _ _).trans (tlt ((lw_gt _ _).mpr hc4)).2.2.1) (by decide) (by decide) k) ?_
      show Go p e below _ (T3.setTop (mkF m 22 #[.val (.ref a0), .val (.long q1), .second] []))
      refine Go.st (fun _ k => XS.iconst X3.here hx rfl (hb hby d5_22) k) ?_
      show Go p e below _ (T3.setTop (mkF m 23 #[.val (.ref a0), .val (.long q1), .second] [(.int (0 : Int32))]))
      obtain ⟨fs, hr, hrun, hended, hW, hsame⟩ := X3.leave (v := some (.int (0 : Int32))) (fun h => by rw [Bd.returns] at h; cases h)
      refine ⟨_, _, retN X3 hx (t := .boolean) Bd.returns (by simp) (hb hby d5_23) hr, hrun, hended, _, _, rfl, ?_, ⟨_, rfl⟩, hW, hsame.mono (by decide) (by decide)⟩
      show Q_rm5 Z a0 q1 u0 u1 h0 n0 _ T3.heap _
      rw [e3]
      refine ⟨?_, N0, rfl⟩
      unfold fHolds
      rw [if_neg hc2, if_pos hc4]
    · show Go p e below _ (T3.setTop (mkF m 15 #[.val (.ref a0), .val (.long q1), .second] [(.int (lcmpW q1 u1))]))
      refine Go.st (fun _ k => XS.ifNo X3.here hx rfl (hb hby d5_15) rfl ((if0 _ _).trans (flt (fun z => hc4 ((lw_gt _ _).mp z))).2.2.1) k) ?_
      show Go p e below _ (T3.setTop (mkF m 18 #[.val (.ref a0), .val (.long q1), .second] []))
      refine Go.st (fun _ k => XS.iconst X3.here hx rfl (hb hby d5_18) k) ?_
      show Go p e below _ (T3.setTop (mkF m 19 #[.val (.ref a0), .val (.long q1), .second] [(.int (1 : Int32))]))
      refine Go.st (fun _ k => XS.goto X3.here hx rfl (pc0 := 19) (pc' := 23) rfl (hb hby d5_19) (by decide) (by decide) k) ?_
      show Go p e below _ (T3.setTop (mkF m 23 #[.val (.ref a0), .val (.long q1), .second] [(.int (1 : Int32))]))
      obtain ⟨fs, hr, hrun, hended, hW, hsame⟩ := X3.leave (v := some (.int (1 : Int32))) (fun h => by rw [Bd.returns] at h; cases h)
      refine ⟨_, _, retN X3 hx (t := .boolean) Bd.returns (by simp) (hb hby d5_23) hr, hrun, hended, _, _, rfl, ?_, ⟨_, rfl⟩, hW, hsame.mono (by decide) (by decide)⟩
      show Q_rm5 Z a0 q1 u0 u1 h0 n0 _ T3.heap _
      rw [e3]
      refine ⟨?_, N0, rfl⟩
      unfold fHolds
      rw [if_neg hc2, if_neg hc4]
theorem d1_0 : decode method_2_code 0 = .ok (.iload_n 0, 1) := by decide +kernel
theorem d1_1 : decode method_2_code 1 = .ok (.ifCond .ne 6, 3) := by decide +kernel
theorem d1_4 : decode method_2_code 4 = .ok (.lload 5, 2) := by decide +kernel
theorem d1_6 : decode method_2_code 6 = .ok (.lreturn, 1) := by decide +kernel
theorem d1_7 : decode method_2_code 7 = .ok (.iload_n 0, 1) := by decide +kernel
theorem d1_8 : decode method_2_code 8 = .ok (.iconst 1, 1) := by decide +kernel
theorem d1_9 : decode method_2_code 9 = .ok (.if_icmp .ne 5, 3) := by decide +kernel
theorem d1_12 : decode method_2_code 12 = .ok (.lload_n 1, 1) := by decide +kernel
theorem d1_13 : decode method_2_code 13 = .ok (.lreturn, 1) := by decide +kernel
theorem d1_14 : decode method_2_code 14 = .ok (.iload_n 0, 1) := by decide +kernel
theorem d1_15 : decode method_2_code 15 = .ok (.iconst 2, 1) := by decide +kernel
theorem d1_16 : decode method_2_code 16 = .ok (.if_icmp .ne 5, 3) := by decide +kernel
theorem d1_19 : decode method_2_code 19 = .ok (.lload_n 3, 1) := by decide +kernel
theorem d1_20 : decode method_2_code 20 = .ok (.lreturn, 1) := by decide +kernel
theorem d1_21 : decode method_2_code 21 = .ok (.iload_n 0, 1) := by decide +kernel
theorem d1_22 : decode method_2_code 22 = .ok (.iconst 3, 1) := by decide +kernel
theorem d1_23 : decode method_2_code 23 = .ok (.if_icmp .ne 7, 3) := by decide +kernel
theorem d1_26 : decode method_2_code 26 = .ok (.lload_n 1, 1) := by decide +kernel
theorem d1_27 : decode method_2_code 27 = .ok (.lconst 1, 1) := by decide +kernel
theorem d1_28 : decode method_2_code 28 = .ok (.lsub, 1) := by decide +kernel
theorem d1_29 : decode method_2_code 29 = .ok (.lreturn, 1) := by decide +kernel
theorem d1_30 : decode method_2_code 30 = .ok (.iload_n 0, 1) := by decide +kernel
theorem d1_31 : decode method_2_code 31 = .ok (.iconst 4, 1) := by decide +kernel
theorem d1_32 : decode method_2_code 32 = .ok (.if_icmp .ne 7, 3) := by decide +kernel
theorem d1_35 : decode method_2_code 35 = .ok (.lload_n 3, 1) := by decide +kernel
theorem d1_36 : decode method_2_code 36 = .ok (.lconst 1, 1) := by decide +kernel
theorem d1_37 : decode method_2_code 37 = .ok (.ladd, 1) := by decide +kernel
theorem d1_38 : decode method_2_code 38 = .ok (.lreturn, 1) := by decide +kernel
theorem d1_39 : decode method_2_code 39 = .ok (.iload_n 0, 1) := by decide +kernel
theorem d1_40 : decode method_2_code 40 = .ok (.iconst 5, 1) := by decide +kernel
theorem d1_41 : decode method_2_code 41 = .ok (.if_icmp .ne 7, 3) := by decide +kernel
theorem d1_44 : decode method_2_code 44 = .ok (.ldc2_w 9, 3) := by decide +kernel
theorem d1_47 : decode method_2_code 47 = .ok (.lreturn, 1) := by decide +kernel
theorem d1_48 : decode method_2_code 48 = .ok (.iload_n 0, 1) := by decide +kernel
theorem d1_49 : decode method_2_code 49 = .ok (.bipush 6, 2) := by decide +kernel
theorem d1_51 : decode method_2_code 51 = .ok (.if_icmp .ne 7, 3) := by decide +kernel
theorem d1_54 : decode method_2_code 54 = .ok (.ldc2_w 11, 3) := by decide +kernel
theorem d1_57 : decode method_2_code 57 = .ok (.lreturn, 1) := by decide +kernel
theorem d1_58 : decode method_2_code 58 = .ok (.lload_n 1, 1) := by decide +kernel
theorem d1_59 : decode method_2_code 59 = .ok (.lconst 1, 1) := by decide +kernel
theorem d1_60 : decode method_2_code 60 = .ok (.ladd, 1) := by decide +kernel
theorem d1_61 : decode method_2_code 61 = .ok (.lreturn, 1) := by decide +kernel
theorem pn_1 : plainName "com/example/sortition/sortition/partition/TokenRangeContainsPinLaw" = true := by first | (simp [plainName, overriddenIn]; done) | decide +kernel
theorem ef_rm1 (m : MethodId) (p0 : Int32) (q1 : Int64) (q2 : Int64) (q3 : Int64) : entryFrame m #[(.int p0), (.long q1), (.long q2), (.long q3)] 7 = mkF m 0 #[.val (.int p0), .val (.long q1), .second, .val (.long q2), .second, .val (.long q3), .second] [] := by first | (simp [entryFrame, mkF, argsToLocals, Value.category]; done) | rfl
def fPick (p0 : Int32) (q1 : Int64) (q2 : Int64) (q3 : Int64) : Int64 := if p0 = (0 : Int32) then q3 else (if p0 = (1 : Int32) then q1 else (if p0 = (2 : Int32) then q2 else (if p0 = (3 : Int32) then (q1 - (1 : Int64)) else (if p0 = (4 : Int32) then (q2 + (1 : Int64)) else (if p0 = (5 : Int32) then (-9223372036854775808 : Int64) else (if p0 = (6 : Int32) then (9223372036854775807 : Int64) else (q1 + (1 : Int64))))))))
def Q_rm1 (Z : State) (p0 : Int32) (q1 : Int64) (q2 : Int64) (q3 : Int64) (h0 : Heap) (n0 : Nat) (v : Option Value) (h : Heap) (L : List Loc) : Prop := v = some (.long (fPick p0 q1 q2 q3)) ∧ Fr n0 L ∧ h = h0
abbrev F_rm1 (Z : State) (p0 : Int32) (q1 : Int64) (q2 : Int64) (q3 : Int64) (h0 : Heap) (n0 : Nat) (s : State) (o : Outcome) (U : State) : Prop := ∃ v L, o = .returned v ∧ Q_rm1 Z p0 q1 q2 q3 h0 n0 v U.heap L ∧ FrameEnd s o U L 0 0
set_option maxRecDepth 65536 in
set_option maxHeartbeats 40000000 in
theorem rm1 (l : Launch) (Z : State) (aZ : Array Value) (hw : ∀ d ∈ tables_1, d.before aZ Z = true) (ws : List Jvm.Cond) (p0 : Int32) (q1 : Int64) (q2 : Int64) (q3 : Int64) (h0 : Heap) (n0 : Nat) :
    MetFree l (⟨"com/example/sortition/sortition/partition/TokenRangeContainsPinLaw", "pick", "(IJJJ)J"⟩ : MethodName) (head1 (Jvm.Cond.code (⟨"com/example/sortition/sortition/partition/TokenRangeContainsPinLaw", "pick", "(IJJJ)J"⟩ : MethodName) method_2_code 7 (some .long) :: ws) ({ frames := 0, cells := 0, slots := 0, locals := 0 } : Room)) (fun a U => a = #[(.int p0), (.long q1), (.long q2), (.long q3)] ∧ Z.Warmed39 U.vm ∧ U.heap = h0) (fun _ _ _ _ _ => True) (fun _ U o U' => ∃ v L, o = .returned v ∧ Q_rm1 Z p0 q1 q2 q3 h0 n0 v U'.heap L ∧ FrameEnd U o U' L 0 0) := by
  refine MetFree.of_bodySF (plainFor_of_name pn_1) hisR ?_
  intro p e s m args below meth c s₁ Bd hml0 hP hK
  obtain ⟨rfl, hZ, hh⟩ := hP
  have hx := Bd.exec
  have hby := Bd.bytes
  have hml : c.maxLocals = 7 := hml0
  have hown : s.vm.findClass "com/example/sortition/sortition/partition/TokenRangeContainsPinLaw" = some m.cls := findClass_of_methodNamed Bd.named
  have hnm := (name_of_methodNamed Bd.named Bd.method).1
  have X0 : Stand p l e ({ frames := 0, cells := 0, slots := 0, locals := 0 } : Room) s m #[(.int p0), (.long q1), (.long q2), (.long q3)] below meth c s₁ [] 0 0 := Stand.of_body Bd
  have e0 : s₁.heap = h0 := by rw [← hh, Bd.state]; rfl
  have N0 := Fr.nil n0
  refine Go.st (fun _ k => castTop (ef_rm1 m p0 q1 q2 q3) k) ?_
  show Go p e below _ (s₁.setTop (mkF m 0 #[.val (.int p0), .val (.long q1), .second, .val (.long q2), .second, .val (.long q3), .second] []))
  refine Go.st (fun _ k => XS.iloadN X0.here hx rfl (hb hby d1_0) rfl k) ?_
  show Go p e below _ (s₁.setTop (mkF m 1 #[.val (.int p0), .val (.long q1), .second, .val (.long q2), .second, .val (.long q3), .second] [(.int p0)]))
  by_cases hc1 : p0 = (0 : Int32)
  · show Go p e below _ (s₁.setTop (mkF m 1 #[.val (.int p0), .val (.long q1), .second, .val (.long q2), .second, .val (.long q3), .second] [(.int p0)]))
    refine Go.st (fun _ k => XS.ifNo X0.here hx rfl (hb hby d1_1) rfl ((if0 _ _).trans (teq hc1).2) k) ?_
    show Go p e below _ (s₁.setTop (mkF m 4 #[.val (.int p0), .val (.long q1), .second, .val (.long q2), .second, .val (.long q3), .second] []))
    refine Go.st (fun _ k => XS.lload X0.here hx rfl (hb hby d1_4) rfl k) ?_
    show Go p e below _ (s₁.setTop (mkF m 6 #[.val (.int p0), .val (.long q1), .second, .val (.long q2), .second, .val (.long q3), .second] [(.long q3)]))
    obtain ⟨fs, hr, hrun, hended, hW, hsame⟩ := X0.leave (v := some (.long q3)) (fun h => by rw [Bd.returns] at h; cases h)
    refine ⟨_, _, retJ X0 hx Bd.returns (hb hby d1_6) hr, hrun, hended, _, _, rfl, ?_, ⟨_, rfl⟩, hW, hsame.mono (by decide) (by decide)⟩
    show Q_rm1 Z p0 q1 q2 q3 h0 n0 _ s₁.heap _
    rw [e0]
    refine ⟨?_, N0, rfl⟩
    unfold fPick
    rw [if_pos hc1]
  · show Go p e below _ (s₁.setTop (mkF m 1 #[.val (.int p0), .val (.long q1), .second, .val (.long q2), .second, .val (.long q3), .second] [(.int p0)]))
    refine Go.st (fun _ k => XS.ifYes X0.here hx rfl (pc0 := 1) (pc' := 7) rfl (hb hby d1_1) rfl ((if0 _ _).trans (feq hc1).2) (by decide) (by decide) k) ?_
    show Go p e below _ (s₁.setTop (mkF m 7 #[.val (.int p0), .val (.long q1), .second, .val (.long q2), .second, .val (.long q3), .second] []))
    refine Go.st (fun _ k => XS.iloadN X0.here hx rfl (hb hby d1_7) rfl k) ?_
    show Go p e below _ (s₁.setTop (mkF m 8 #[.val (.int p0), .val (.long q1), .second, .val (.long q2), .second, .val (.long q3), .second] [(.int p0)]))
    refine Go.st (fun _ k => XS.iconst X0.here hx rfl (hb hby d1_8) k) ?_
    show Go p e below _ (s₁.setTop (mkF m 9 #[.val (.int p0), .val (.long q1), .second, .val (.long q2), .second, .val (.long q3), .second] [(.int (1 : Int32)), (.int p0)]))
    by_cases hc2 : p0 = (1 : Int32)
    · show Go p e below _ (s₁.setTop (mkF m 9 #[.val (.int p0), .val (.long q1), .second, .val (.long q2), .second, .val (.long q3), .second] [(.int (1 : Int32)), (.int p0)]))
      refine Go.st (fun _ k => XS.icmpNo X0.here hx rfl (hb hby d1_9) rfl (teq hc2).2 k) ?_
      show Go p e below _ (s₁.setTop (mkF m 12 #[.val (.int p0), .val (.long q1), .second, .val (.long q2), .second, .val (.long q3), .second] []))
      refine Go.st (fun _ k => XS.lloadN X0.here hx rfl (hb hby d1_12) rfl k) ?_
      show Go p e below _ (s₁.setTop (mkF m 13 #[.val (.int p0), .val (.long q1), .second, .val (.long q2), .second, .val (.long q3), .second] [(.long q1)]))
      obtain ⟨fs, hr, hrun, hended, hW, hsame⟩ := X0.leave (v := some (.long q1)) (fun h => by rw [Bd.returns] at h; cases h)
      refine ⟨_, _, retJ X0 hx Bd.returns (hb hby d1_13) hr, hrun, hended, _, _, rfl, ?_, ⟨_, rfl⟩, hW, hsame.mono (by decide) (by decide)⟩
      show Q_rm1 Z p0 q1 q2 q3 h0 n0 _ s₁.heap _
      rw [e0]
      refine ⟨?_, N0, rfl⟩
      unfold fPick
      rw [if_neg hc1, if_pos hc2]
    · show Go p e below _ (s₁.setTop (mkF m 9 #[.val (.int p0), .val (.long q1), .second, .val (.long q2), .second, .val (.long q3), .second] [(.int (1 : Int32)), (.int p0)]))
      refine Go.st (fun _ k => XS.icmpYes X0.here hx rfl (pc0 := 9) (pc' := 14) rfl (hb hby d1_9) rfl (feq hc2).2 (by decide) (by decide) k) ?_
      show Go p e below _ (s₁.setTop (mkF m 14 #[.val (.int p0), .val (.long q1), .second, .val (.long q2), .second, .val (.long q3), .second] []))
      refine Go.st (fun _ k => XS.iloadN X0.here hx rfl (hb hby d1_14) rfl k) ?_
      show Go p e below _ (s₁.setTop (mkF m 15 #[.val (.int p0), .val (.long q1), .second, .val (.long q2), .second, .val (.long q3), .second] [(.int p0)]))
      refine Go.st (fun _ k => XS.iconst X0.here hx rfl (hb hby d1_15) k) ?_
      show Go p e below _ (s₁.setTop (mkF m 16 #[.val (.int p0), .val (.long q1), .second, .val (.long q2), .second, .val (.long q3), .second] [(.int (2 : Int32)), (.int p0)]))
      by_cases hc3 : p0 = (2 : Int32)
      · show Go p e below _ (s₁.setTop (mkF m 16 #[.val (.int p0), .val (.long q1), .second, .val (.long q2), .second, .val (.long q3), .second] [(.int (2 : Int32)), (.int p0)]))
        refine Go.st (fun _ k => XS.icmpNo X0.here hx rfl (hb hby d1_16) rfl (teq hc3).2 k) ?_
        show Go p e below _ (s₁.setTop (mkF m 19 #[.val (.int p0), .val (.long q1), .second, .val (.long q2), .second, .val (.long q3), .second] []))
        refine Go.st (fun _ k => XS.lloadN X0.here hx rfl (hb hby d1_19) rfl k) ?_
        show Go p e below _ (s₁.setTop (mkF m 20 #[.val (.int p0), .val (.long q1), .second, .val (.long q2), .second, .val (.long q3), .second] [(.long q2)]))
        obtain ⟨fs, hr, hrun, hended, hW, hsame⟩ := X0.leave (v := some (.long q2)) (fun h => by rw [Bd.returns] at h; cases h)
        refine ⟨_, _, retJ X0 hx Bd.returns (hb hby d1_20) hr, hrun, hended, _, _, rfl, ?_, ⟨_, rfl⟩, hW, hsame.mono (by decide) (by decide)⟩
        show Q_rm1 Z p0 q1 q2 q3 h0 n0 _ s₁.heap _
        rw [e0]
        refine ⟨?_, N0, rfl⟩
        unfold fPick
        rw [if_neg hc1, if_neg hc2, if_pos hc3]
      · show Go p e below _ (s₁.setTop (mkF m 16 #[.val (.int p0), .val (.long q1), .second, .val (.long q2), .second, .val (.long q3), .second] [(.int (2 : Int32)), (.int p0)]))
        refine Go.st (fun _ k => XS.icmpYes X0.here hx rfl (pc0 := 16) (pc' := 21) rfl (hb hby d1_16) rfl (feq hc3).2 (by decide) (by decide) k) ?_
        show Go p e below _ (s₁.setTop (mkF m 21 #[.val (.int p0), .val (.long q1), .second, .val (.long q2), .second, .val (.long q3), .second] []))
        refine Go.st (fun _ k => XS.iloadN X0.here hx rfl (hb hby d1_21) rfl k) ?_
        show Go p e below _ (s₁.setTop (mkF m 22 #[.val (.int p0), .val (.long q1), .second, .val (.long q2), .second, .val (.long q3), .second] [(.int p0)]))
        refine Go.st (fun _ k => XS.iconst X0.here hx rfl (hb hby d1_22) k) ?_
        show Go p e below _ (s₁.setTop (mkF m 23 #[.val (.int p0), .val (.long q1), .second, .val (.long q2), .second, .val (.long q3), .second] [(.int (3 : Int32)), (.int p0)]))
        by_cases hc4 : p0 = (3 : Int32)
        · show Go p e below _ (s₁.setTop (mkF m 23 #[.val (.int p0), .val (.long q1), .second, .val (.long q2), .second, .val (.long q3), .second] [(.int (3 : Int32)), (.int p0)]))
          refine Go.st (fun _ k => XS.icmpNo X0.here hx rfl (hb hby d1_23) rfl (teq hc4).2 k) ?_
          show Go p e below _ (s₁.setTop (mkF m 26 #[.val (.int p0), .val (.long q1), .second, .val (.long q2), .second, .val (.long q3), .second] []))
          refine Go.st (fun _ k => XS.lloadN X0.here hx rfl (hb hby d1_26) rfl k) ?_
          show Go p e below _ (s₁.setTop (mkF m 27 #[.val (.int p0), .val (.long q1), .second, .val (.long q2), .second, .val (.long q3), .second] [(.long q1)]))
          refine Go.st (fun _ k => XS.lconst X0.here hx rfl (hb hby d1_27) k) ?_
          show Go p e below _ (s₁.setTop (mkF m 28 #[.val (.int p0), .val (.long q1), .second, .val (.long q2), .second, .val (.long q3), .second] [(.long (1 : Int64)), (.long q1)]))
          refine Go.st (fun _ k => XS.lsub X0.here hx rfl (hb hby d1_28) rfl k) ?_
          show Go p e below _ (s₁.setTop (mkF m 29 #[.val (.int p0), .val (.long q1), .second, .val (.long q2), .second, .val (.long q3), .second] [(.long (q1 - (1 : Int64)))]))
          obtain ⟨fs, hr, hrun, hended, hW, hsame⟩ := X0.leave (v := some (.long (q1 - (1 : Int64)))) (fun h => by rw [Bd.returns] at h; cases h)
          refine ⟨_, _, retJ X0 hx Bd.returns (hb hby d1_29) hr, hrun, hended, _, _, rfl, ?_, ⟨_, rfl⟩, hW, hsame.mono (by decide) (by decide)⟩
          show Q_rm1 Z p0 q1 q2 q3 h0 n0 _ s₁.heap _
          rw [e0]
          refine ⟨?_, N0, rfl⟩
          unfold fPick
          rw [if_neg hc1, if_neg hc2, if_neg hc3, if_pos hc4]
        · show Go p e below _ (s₁.setTop (mkF m 23 #[.val (.int p0), .val (.long q1), .second, .val (.long q2), .second, .val (.long q3), .second] [(.int (3 : Int32)), (.int p0)]))
          refine Go.st (fun _ k => XS.icmpYes X0.here hx rfl (pc0 := 23) (pc' := 30) rfl (hb hby d1_23) rfl (feq hc4).2 (by decide) (by decide) k) ?_
          show Go p e below _ (s₁.setTop (mkF m 30 #[.val (.int p0), .val (.long q1), .second, .val (.long q2), .second, .val (.long q3), .second] []))
          refine Go.st (fun _ k => XS.iloadN X0.here hx rfl (hb hby d1_30) rfl k) ?_
          show Go p e below _ (s₁.setTop (mkF m 31 #[.val (.int p0), .val (.long q1), .second, .val (.long q2), .second, .val (.long q3), .second] [(.int p0)]))
          refine Go.st (fun _ k => XS.iconst X0.here hx rfl (hb hby d1_31) k) ?_
          show Go p e below _ (s₁.setTop (mkF m 32 #[.val (.int p0), .val (.long q1), .second, .val (.long q2), .second, .val (.long q3), .second] [(.int (4 : Int32)), (.int p0)]))
          by_cases hc5 : p0 = (4 : Int32)
          · show Go p e below _ (s₁.setTop (mkF m 32 #[.val (.int p0), .val (.long q1), .second, .val (.long q2), .second, .val (.long q3), .second] [(.int (4 : Int32)), (.int p0)]))
            refine Go.st (fun _ k => XS.icmpNo X0.here hx rfl (hb hby d1_32) rfl (teq hc5).2 k) ?_
            show Go p e below _ (s₁.setTop (mkF m 35 #[.val (.int p0), .val (.long q1), .second, .val (.long q2), .second, .val (.long q3), .second] []))
            refine Go.st (fun _ k => XS.lloadN X0.here hx rfl (hb hby d1_35) rfl k) ?_
            show Go p e below _ (s₁.setTop (mkF m 36 #[.val (.int p0), .val (.long q1), .second, .val (.long q2), .second, .val (.long q3), .second] [(.long q2)]))
            refine Go.st (fun _ k => XS.lconst X0.here hx rfl (hb hby d1_36) k) ?_
            show Go p e below _ (s₁.setTop (mkF m 37 #[.val (.int p0), .val (.long q1), .second, .val (.long q2), .second, .val (.long q3), .second] [(.long (1 : Int64)), (.long q2)]))
            refine Go.st (fun _ k => XS.ladd X0.here hx rfl (hb hby d1_37) rfl k) ?_
            show Go p e below _ (s₁.setTop (mkF m 38 #[.val (.int p0), .val (.long q1), .second, .val (.long q2), .second, .val (.long q3), .second] [(.long (q2 + (1 : Int64)))]))
            obtain ⟨fs, hr, hrun, hended, hW, hsame⟩ := X0.leave (v := some (.long (q2 + (1 : Int64)))) (fun h => by rw [Bd.returns] at h; cases h)
            refine ⟨_, _, retJ X0 hx Bd.returns (hb hby d1_38) hr, hrun, hended, _, _, rfl, ?_, ⟨_, rfl⟩, hW, hsame.mono (by decide) (by decide)⟩
            show Q_rm1 Z p0 q1 q2 q3 h0 n0 _ s₁.heap _
            rw [e0]
            refine ⟨?_, N0, rfl⟩
            unfold fPick
            rw [if_neg hc1, if_neg hc2, if_neg hc3, if_neg hc4, if_pos hc5]
          · show Go p e below _ (s₁.setTop (mkF m 32 #[.val (.int p0), .val (.long q1), .second, .val (.long q2), .second, .val (.long q3), .second] [(.int (4 : Int32)), (.int p0)]))
            refine Go.st (fun _ k => XS.icmpYes X0.here hx rfl (pc0 := 32) (pc' := 39) rfl (hb hby d1_32) rfl (feq hc5).2 (by decide) (by decide) k) ?_
            show Go p e below _ (s₁.setTop (mkF m 39 #[.val (.int p0), .val (.long q1), .second, .val (.long q2), .second, .val (.long q3), .second] []))
            refine Go.st (fun _ k => XS.iloadN X0.here hx rfl (hb hby d1_39) rfl k) ?_
            show Go p e below _ (s₁.setTop (mkF m 40 #[.val (.int p0), .val (.long q1), .second, .val (.long q2), .second, .val (.long q3), .second] [(.int p0)]))
            refine Go.st (fun _ k => XS.iconst X0.here hx rfl (hb hby d1_40) k) ?_
            show Go p e below _ (s₁.setTop (mkF m 41 #[.val (.int p0), .val (.long q1), .second, .val (.long q2), .second, .val (.long q3), .second] [(.int (5 : Int32)), (.int p0)]))
            by_cases hc6 : p0 = (5 : Int32)
            · show Go p e below _ (s₁.setTop (mkF m 41 #[.val (.int p0), .val (.long q1), .second, .val (.long q2), .second, .val (.long q3), .second] [(.int (5 : Int32)), (.int p0)]))
              refine Go.st (fun _ k => XS.icmpNo X0.here hx rfl (hb hby d1_41) rfl (teq hc6).2 k) ?_
              show Go p e below _ (s₁.setTop (mkF m 44 #[.val (.int p0), .val (.long q1), .second, .val (.long q2), .second, .val (.long q3), .second] []))
              refine Go.st (fun _ k => X0.ldc2Long hx hown (mvT hZ (hw _ (List.mem_of_getElem? (i := 35) rfl))) (g := (mkF m 44 #[.val (.int p0), .val (.long q1), .second, .val (.long q2), .second, .val (.long q3), .second] [])) rfl (hb hby d1_44) _ k) ?_
              show Go p e below _ (s₁.setTop (mkF m 47 #[.val (.int p0), .val (.long q1), .second, .val (.long q2), .second, .val (.long q3), .second] [(.long (-9223372036854775808 : Int64))]))
              obtain ⟨fs, hr, hrun, hended, hW, hsame⟩ := X0.leave (v := some (.long (-9223372036854775808 : Int64))) (fun h => by rw [Bd.returns] at h; cases h)
              refine ⟨_, _, retJ X0 hx Bd.returns (hb hby d1_47) hr, hrun, hended, _, _, rfl, ?_, ⟨_, rfl⟩, hW, hsame.mono (by decide) (by decide)⟩
              show Q_rm1 Z p0 q1 q2 q3 h0 n0 _ s₁.heap _
              rw [e0]
              refine ⟨?_, N0, rfl⟩
              unfold fPick
              rw [if_neg hc1, if_neg hc2, if_neg hc3, if_neg hc4, if_neg hc5, if_pos hc6]
            · show Go p e below _ (s₁.setTop (mkF m 41 #[.val (.int p0), .val (.long q1), .second, .val (.long q2), .second, .val (.long q3), .second] [(.int (5 : Int32)), (.int p0)]))
              refine Go.st (fun _ k => XS.icmpYes X0.here hx rfl (pc0 := 41) (pc' := 48) rfl (hb hby d1_41) rfl (feq hc6).2 (by decide) (by decide) k) ?_
              show Go p e below _ (s₁.setTop (mkF m 48 #[.val (.int p0), .val (.long q1), .second, .val (.long q2), .second, .val (.long q3), .second] []))
              refine Go.st (fun _ k => XS.iloadN X0.here hx rfl (hb hby d1_48) rfl k) ?_
              show Go p e below _ (s₁.setTop (mkF m 49 #[.val (.int p0), .val (.long q1), .second, .val (.long q2), .second, .val (.long q3), .second] [(.int p0)]))
              refine Go.st (fun _ k => XS.bipush X0.here hx rfl (hb hby d1_49) k) ?_
              show Go p e below _ (s₁.setTop (mkF m 51 #[.val (.int p0), .val (.long q1), .second, .val (.long q2), .second, .val (.long q3), .second] [(.int (6 : Int32)), (.int p0)]))
              by_cases hc7 : p0 = (6 : Int32)
              · show Go p e below _ (s₁.setTop (mkF m 51 #[.val (.int p0), .val (.long q1), .second, .val (.long q2), .second, .val (.long q3), .second] [(.int (6 : Int32)), (.int p0)]))
                refine Go.st (fun _ k => XS.icmpNo X0.here hx rfl (hb hby d1_51) rfl (teq hc7).2 k) ?_
                show Go p e below _ (s₁.setTop (mkF m 54 #[.val (.int p0), .val (.long q1), .second, .val (.long q2), .second, .val (.long q3), .second] []))
                refine Go.st (fun _ k => X0.ldc2Long hx hown (mvT hZ (hw _ (List.mem_of_getElem? (i := 34) rfl))) (g := (mkF m 54 #[.val (.int p0), .val (.long q1), .second, .val (.long q2), .second, .val (.long q3), .second] [])) rfl (hb hby d1_54) _ k) ?_
                show Go p e below _ (s₁.setTop (mkF m 57 #[.val (.int p0), .val (.long q1), .second, .val (.long q2), .second, .val (.long q3), .second] [(.long (9223372036854775807 : Int64))]))
                obtain ⟨fs, hr, hrun, hended, hW, hsame⟩ := X0.leave (v := some (.long (9223372036854775807 : Int64))) (fun h => by rw [Bd.returns] at h; cases h)
                refine ⟨_, _, retJ X0 hx Bd.returns (hb hby d1_57) hr, hrun, hended, _, _, rfl, ?_, ⟨_, rfl⟩, hW, hsame.mono (by decide) (by decide)⟩
                show Q_rm1 Z p0 q1 q2 q3 h0 n0 _ s₁.heap _
                rw [e0]
                refine ⟨?_, N0, rfl⟩
                unfold fPick
                rw [if_neg hc1, if_neg hc2, if_neg hc3, if_neg hc4, if_neg hc5, if_neg hc6, if_pos hc7]
              · show Go p e below _ (s₁.setTop (mkF m 51 #[.val (.int p0), .val (.long q1), .second, .val (.long q2), .second, .val (.long q3), .second] [(.int (6 : Int32)), (.int p0)]))
                refine Go.st (fun _ k => XS.icmpYes X0.here hx rfl (pc0 := 51) (pc' := 58) rfl (hb hby d1_51) rfl (feq hc7).2 (by decide) (by decide) k) ?_
                show Go p e below _ (s₁.setTop (mkF m 58 #[.val (.int p0), .val (.long q1), .second, .val (.long q2), .second, .val (.long q3), .second] []))
                refine Go.st (fun _ k => XS.lloadN X0.here hx rfl (hb hby d1_58) rfl k) ?_
                show Go p e below _ (s₁.setTop (mkF m 59 #[.val (.int p0), .val (.long q1), .second, .val (.long q2), .second, .val (.long q3), .second] [(.long q1)]))
                refine Go.st (fun _ k => XS.lconst X0.here hx rfl (hb hby d1_59) k) ?_
                show Go p e below _ (s₁.setTop (mkF m 60 #[.val (.int p0), .val (.long q1), .second, .val (.long q2), .second, .val (.long q3), .second] [(.long (1 : Int64)), (.long q1)]))
                refine Go.st (fun _ k => XS.ladd X0.here hx rfl (hb hby d1_60) rfl k) ?_
                show Go p e below _ (s₁.setTop (mkF m 61 #[.val (.int p0), .val (.long q1), .second, .val (.long q2), .second, .val (.long q3), .second] [(.long (q1 + (1 : Int64)))]))
                obtain ⟨fs, hr, hrun, hended, hW, hsame⟩ := X0.leave (v := some (.long (q1 + (1 : Int64)))) (fun h => by rw [Bd.returns] at h; cases h)
                refine ⟨_, _, retJ X0 hx Bd.returns (hb hby d1_61) hr, hrun, hended, _, _, rfl, ?_, ⟨_, rfl⟩, hW, hsame.mono (by decide) (by decide)⟩
                show Q_rm1 Z p0 q1 q2 q3 h0 n0 _ s₁.heap _
                rw [e0]
                refine ⟨?_, N0, rfl⟩
                unfold fPick
                rw [if_neg hc1, if_neg hc2, if_neg hc3, if_neg hc4, if_neg hc5, if_neg hc6, if_neg hc7]
theorem d6_0 : decode jdk_29_method_70_code 0 = .ok (.lload_n 0, 1) := by decide +kernel
theorem d6_1 : decode jdk_29_method_70_code 1 = .ok (.lload_n 2, 1) := by decide +kernel
theorem d6_2 : decode jdk_29_method_70_code 2 = .ok (.lcmp, 1) := by decide +kernel
theorem d6_3 : decode jdk_29_method_70_code 3 = .ok (.ifCond .gt 7, 3) := by decide +kernel
theorem d6_6 : decode jdk_29_method_70_code 6 = .ok (.lload_n 0, 1) := by decide +kernel
theorem d6_7 : decode jdk_29_method_70_code 7 = .ok (.goto 4, 3) := by decide +kernel
theorem d6_10 : decode jdk_29_method_70_code 10 = .ok (.lload_n 2, 1) := by decide +kernel
theorem d6_11 : decode jdk_29_method_70_code 11 = .ok (.lreturn, 1) := by decide +kernel
theorem ef_rm6 (m : MethodId) (q0 : Int64) (q1 : Int64) : entryFrame m #[(.long q0), (.long q1)] 4 = mkF m 0 #[.val (.long q0), .second, .val (.long q1), .second] [] := by first | (simp [entryFrame, mkF, argsToLocals, Value.category]; done) | rfl
def fMin (q0 : Int64) (q1 : Int64) : Int64 := if q1 < q0 then q1 else q0
def Q_rm6 (Z : State) (q0 : Int64) (q1 : Int64) (h0 : Heap) (n0 : Nat) (v : Option Value) (h : Heap) (L : List Loc) : Prop := v = some (.long (fMin q0 q1)) ∧ Fr n0 L ∧ h = h0
abbrev F_rm6 (Z : State) (q0 : Int64) (q1 : Int64) (h0 : Heap) (n0 : Nat) (s : State) (o : Outcome) (U : State) : Prop := ∃ v L, o = .returned v ∧ Q_rm6 Z q0 q1 h0 n0 v U.heap L ∧ FrameEnd s o U L 0 0
set_option maxRecDepth 65536 in
set_option maxHeartbeats 40000000 in
theorem rm6 (l : Launch) (Z : State) (aZ : Array Value) (hw : ∀ d ∈ tables_1, d.before aZ Z = true) (ws : List Jvm.Cond) (q0 : Int64) (q1 : Int64) (h0 : Heap) (n0 : Nat) :
    MetFree l (⟨"java/lang/Math", "min", "(JJ)J"⟩ : MethodName) (head1 (Jvm.Cond.code (⟨"java/lang/Math", "min", "(JJ)J"⟩ : MethodName) jdk_29_method_70_code 4 (some .long) :: ws) ({ frames := 0, cells := 0, slots := 0, locals := 0 } : Room)) (fun a U => a = #[(.long q0), (.long q1)] ∧ Z.Warmed39 U.vm ∧ U.heap = h0) (fun _ _ _ _ _ => True) (fun _ U o U' => ∃ v L, o = .returned v ∧ Q_rm6 Z q0 q1 h0 n0 v U'.heap L ∧ FrameEnd U o U' L 0 0) := by
  refine MetFree.of_bodySF (Jvm.Free.JP.mathPlain rfl (by decide +kernel)) hisR ?_
  intro p e s m args below meth c s₁ Bd hml0 hP hK
  obtain ⟨rfl, hZ, hh⟩ := hP
  have hx := Bd.exec
  have hby := Bd.bytes
  have hml : c.maxLocals = 4 := hml0
  have hown : s.vm.findClass "java/lang/Math" = some m.cls := findClass_of_methodNamed Bd.named
  have hnm := (name_of_methodNamed Bd.named Bd.method).1
  have X0 : Stand p l e ({ frames := 0, cells := 0, slots := 0, locals := 0 } : Room) s m #[(.long q0), (.long q1)] below meth c s₁ [] 0 0 := Stand.of_body Bd
  have e0 : s₁.heap = h0 := by rw [← hh, Bd.state]; rfl
  have N0 := Fr.nil n0
  refine Go.st (fun _ k => castTop (ef_rm6 m q0 q1) k) ?_
  show Go p e below _ (s₁.setTop (mkF m 0 #[.val (.long q0), .second, .val (.long q1), .second] []))
  refine Go.st (fun _ k => XS.lloadN X0.here hx rfl (hb hby d6_0) rfl k) ?_
  show Go p e below _ (s₁.setTop (mkF m 1 #[.val (.long q0), .second, .val (.long q1), .second] [(.long q0)]))
  refine Go.st (fun _ k => XS.lloadN X0.here hx rfl (hb hby d6_1) rfl k) ?_
  show Go p e below _ (s₁.setTop (mkF m 2 #[.val (.long q0), .second, .val (.long q1), .second] [(.long q1), (.long q0)]))
  refine Go.st (fun _ k => XS.lcmp X0.here hx rfl (hb hby d6_2) rfl k) ?_
  show Go p e below _ (s₁.setTop (mkF m 3 #[.val (.long q0), .second, .val (.long q1), .second] [(.int (lcmpW q0 q1))]))
  by_cases hc1 : q1 < q0
  · show Go p e below _ (s₁.setTop (mkF m 3 #[.val (.long q0), .second, .val (.long q1), .second] [(.int (lcmpW q0 q1))]))
    refine Go.st (fun _ k => XS.ifYes X0.here hx rfl (pc0 := 3) (pc' := 10) rfl (hb hby d6_3) rfl ((if0 _ _).trans (tlt ((lw_gt _ _).mpr hc1)).2.2.1) (by decide) (by decide) k) ?_
    show Go p e below _ (s₁.setTop (mkF m 10 #[.val (.long q0), .second, .val (.long q1), .second] []))
    refine Go.st (fun _ k => XS.lloadN X0.here hx rfl (hb hby d6_10) rfl k) ?_
    show Go p e below _ (s₁.setTop (mkF m 11 #[.val (.long q0), .second, .val (.long q1), .second] [(.long q1)]))
    obtain ⟨fs, hr, hrun, hended, hW, hsame⟩ := X0.leave (v := some (.long q1)) (fun h => by rw [Bd.returns] at h; cases h)
    refine ⟨_, _, retJ X0 hx Bd.returns (hb hby d6_11) hr, hrun, hended, _, _, rfl, ?_, ⟨_, rfl⟩, hW, hsame.mono (by decide) (by decide)⟩
    show Q_rm6 Z q0 q1 h0 n0 _ s₁.heap _
    rw [e0]
    refine ⟨?_, N0, rfl⟩
    unfold fMin
    rw [if_pos hc1]
  · show Go p e below _ (s₁.setTop (mkF m 3 #[.val (.long q0), .second, .val (.long q1), .second] [(.int (lcmpW q0 q1))]))
    refine Go.st (fun _ k => XS.ifNo X0.here hx rfl (hb hby d6_3) rfl ((if0 _ _).trans (flt (fun z => hc1 ((lw_gt _ _).mp z))).2.2.1) k) ?_
    show Go p e below _ (s₁.setTop (mkF m 6 #[.val (.long q0), .second, .val (.long q1), .second] []))
    refine Go.st (fun _ k => XS.lloadN X0.here hx rfl (hb hby d6_6) rfl k) ?_
    show Go p e below _ (s₁.setTop (mkF m 7 #[.val (.long q0), .second, .val (.long q1), .second] [(.long q0)]))
    refine Go.st (fun _ k => XS.goto X0.here hx rfl (pc0 := 7) (pc' := 11) rfl (hb hby d6_7) (by decide) (by decide) k) ?_
    show Go p e below _ (s₁.setTop (mkF m 11 #[.val (.long q0), .second, .val (.long q1), .second] [(.long q0)]))
    obtain ⟨fs, hr, hrun, hended, hW, hsame⟩ := X0.leave (v := some (.long q0)) (fun h => by rw [Bd.returns] at h; cases h)
    refine ⟨_, _, retJ X0 hx Bd.returns (hb hby d6_11) hr, hrun, hended, _, _, rfl, ?_, ⟨_, rfl⟩, hW, hsame.mono (by decide) (by decide)⟩
    show Q_rm6 Z q0 q1 h0 n0 _ s₁.heap _
    rw [e0]
    refine ⟨?_, N0, rfl⟩
    unfold fMin
    rw [if_neg hc1]
theorem d7_0 : decode jdk_29_method_66_code 0 = .ok (.lload_n 0, 1) := by decide +kernel
theorem d7_1 : decode jdk_29_method_66_code 1 = .ok (.lload_n 2, 1) := by decide +kernel
theorem d7_2 : decode jdk_29_method_66_code 2 = .ok (.lcmp, 1) := by decide +kernel
theorem d7_3 : decode jdk_29_method_66_code 3 = .ok (.ifCond .lt 7, 3) := by decide +kernel
theorem d7_6 : decode jdk_29_method_66_code 6 = .ok (.lload_n 0, 1) := by decide +kernel
theorem d7_7 : decode jdk_29_method_66_code 7 = .ok (.goto 4, 3) := by decide +kernel
theorem d7_10 : decode jdk_29_method_66_code 10 = .ok (.lload_n 2, 1) := by decide +kernel
theorem d7_11 : decode jdk_29_method_66_code 11 = .ok (.lreturn, 1) := by decide +kernel
theorem ef_rm7 (m : MethodId) (q0 : Int64) (q1 : Int64) : entryFrame m #[(.long q0), (.long q1)] 4 = mkF m 0 #[.val (.long q0), .second, .val (.long q1), .second] [] := by first | (simp [entryFrame, mkF, argsToLocals, Value.category]; done) | rfl
def fMax (q0 : Int64) (q1 : Int64) : Int64 := if q0 < q1 then q1 else q0
def Q_rm7 (Z : State) (q0 : Int64) (q1 : Int64) (h0 : Heap) (n0 : Nat) (v : Option Value) (h : Heap) (L : List Loc) : Prop := v = some (.long (fMax q0 q1)) ∧ Fr n0 L ∧ h = h0
abbrev F_rm7 (Z : State) (q0 : Int64) (q1 : Int64) (h0 : Heap) (n0 : Nat) (s : State) (o : Outcome) (U : State) : Prop := ∃ v L, o = .returned v ∧ Q_rm7 Z q0 q1 h0 n0 v U.heap L ∧ FrameEnd s o U L 0 0
set_option maxRecDepth 65536 in
set_option maxHeartbeats 40000000 in
theorem rm7 (l : Launch) (Z : State) (aZ : Array Value) (hw : ∀ d ∈ tables_1, d.before aZ Z = true) (ws : List Jvm.Cond) (q0 : Int64) (q1 : Int64) (h0 : Heap) (n0 : Nat) :
    MetFree l (⟨"java/lang/Math", "max", "(JJ)J"⟩ : MethodName) (head1 (Jvm.Cond.code (⟨"java/lang/Math", "max", "(JJ)J"⟩ : MethodName) jdk_29_method_66_code 4 (some .long) :: ws) ({ frames := 0, cells := 0, slots := 0, locals := 0 } : Room)) (fun a U => a = #[(.long q0), (.long q1)] ∧ Z.Warmed39 U.vm ∧ U.heap = h0) (fun _ _ _ _ _ => True) (fun _ U o U' => ∃ v L, o = .returned v ∧ Q_rm7 Z q0 q1 h0 n0 v U'.heap L ∧ FrameEnd U o U' L 0 0) := by
  refine MetFree.of_bodySF (Jvm.Free.JP.mathPlain rfl (by decide +kernel)) hisR ?_
  intro p e s m args below meth c s₁ Bd hml0 hP hK
  obtain ⟨rfl, hZ, hh⟩ := hP
  have hx := Bd.exec
  have hby := Bd.bytes
  have hml : c.maxLocals = 4 := hml0
  have hown : s.vm.findClass "java/lang/Math" = some m.cls := findClass_of_methodNamed Bd.named
  have hnm := (name_of_methodNamed Bd.named Bd.method).1
  have X0 : Stand p l e ({ frames := 0, cells := 0, slots := 0, locals := 0 } : Room) s m #[(.long q0), (.long q1)] below meth c s₁ [] 0 0 := Stand.of_body Bd
  have e0 : s₁.heap = h0 := by rw [← hh, Bd.state]; rfl
  have N0 := Fr.nil n0
  refine Go.st (fun _ k => castTop (ef_rm7 m q0 q1) k) ?_
  show Go p e below _ (s₁.setTop (mkF m 0 #[.val (.long q0), .second, .val (.long q1), .second] []))
  refine Go.st (fun _ k => XS.lloadN X0.here hx rfl (hb hby d7_0) rfl k) ?_
  show Go p e below _ (s₁.setTop (mkF m 1 #[.val (.long q0), .second, .val (.long q1), .second] [(.long q0)]))
  refine Go.st (fun _ k => XS.lloadN X0.here hx rfl (hb hby d7_1) rfl k) ?_
  show Go p e below _ (s₁.setTop (mkF m 2 #[.val (.long q0), .second, .val (.long q1), .second] [(.long q1), (.long q0)]))
  refine Go.st (fun _ k => XS.lcmp X0.here hx rfl (hb hby d7_2) rfl k) ?_
  show Go p e below _ (s₁.setTop (mkF m 3 #[.val (.long q0), .second, .val (.long q1), .second] [(.int (lcmpW q0 q1))]))
  by_cases hc1 : q0 < q1
  · show Go p e below _ (s₁.setTop (mkF m 3 #[.val (.long q0), .second, .val (.long q1), .second] [(.int (lcmpW q0 q1))]))
    refine Go.st (fun _ k => XS.ifYes X0.here hx rfl (pc0 := 3) (pc' := 10) rfl (hb hby d7_3) rfl ((if0 _ _).trans (tlt ((lw_lt _ _).mpr hc1)).1) (by decide) (by decide) k) ?_
    show Go p e below _ (s₁.setTop (mkF m 10 #[.val (.long q0), .second, .val (.long q1), .second] []))
    refine Go.st (fun _ k => XS.lloadN X0.here hx rfl (hb hby d7_10) rfl k) ?_
    show Go p e below _ (s₁.setTop (mkF m 11 #[.val (.long q0), .second, .val (.long q1), .second] [(.long q1)]))
    obtain ⟨fs, hr, hrun, hended, hW, hsame⟩ := X0.leave (v := some (.long q1)) (fun h => by rw [Bd.returns] at h; cases h)
    refine ⟨_, _, retJ X0 hx Bd.returns (hb hby d7_11) hr, hrun, hended, _, _, rfl, ?_, ⟨_, rfl⟩, hW, hsame.mono (by decide) (by decide)⟩
    show Q_rm7 Z q0 q1 h0 n0 _ s₁.heap _
    rw [e0]
    refine ⟨?_, N0, rfl⟩
    unfold fMax
    rw [if_pos hc1]
  · show Go p e below _ (s₁.setTop (mkF m 3 #[.val (.long q0), .second, .val (.long q1), .second] [(.int (lcmpW q0 q1))]))
    refine Go.st (fun _ k => XS.ifNo X0.here hx rfl (hb hby d7_3) rfl ((if0 _ _).trans (flt (fun z => hc1 ((lw_lt _ _).mp z))).1) k) ?_
    show Go p e below _ (s₁.setTop (mkF m 6 #[.val (.long q0), .second, .val (.long q1), .second] []))
    refine Go.st (fun _ k => XS.lloadN X0.here hx rfl (hb hby d7_6) rfl k) ?_
    show Go p e below _ (s₁.setTop (mkF m 7 #[.val (.long q0), .second, .val (.long q1), .second] [(.long q0)]))
    refine Go.st (fun _ k => XS.goto X0.here hx rfl (pc0 := 7) (pc' := 11) rfl (hb hby d7_7) (by decide) (by decide) k) ?_
    show Go p e below _ (s₁.setTop (mkF m 11 #[.val (.long q0), .second, .val (.long q1), .second] [(.long q0)]))
    obtain ⟨fs, hr, hrun, hended, hW, hsame⟩ := X0.leave (v := some (.long q0)) (fun h => by rw [Bd.returns] at h; cases h)
    refine ⟨_, _, retJ X0 hx Bd.returns (hb hby d7_11) hr, hrun, hended, _, _, rfl, ?_, ⟨_, rfl⟩, hW, hsame.mono (by decide) (by decide)⟩
    show Q_rm7 Z q0 q1 h0 n0 _ s₁.heap _
    rw [e0]
    refine ⟨?_, N0, rfl⟩
    unfold fMax
    rw [if_neg hc1]
theorem own_not {a b : Int64} (h : b < a) (t : Int64) : fHolds t a b = 0 := by
  unfold fHolds
  by_cases h1 : t < a
  · rw [if_pos h1]
  · rw [if_neg h1, if_pos]
    rw [Int64.lt_iff_toInt_lt] at *
    omega
theorem own_max {a b t : Int64} (h : ¬ b < a) : fMax a (fMin t b) = t ↔ ¬ t < a ∧ ¬ b < t := by
  unfold fMax fMin
  simp only [Int64.lt_iff_toInt_lt] at *
  by_cases h1 : b.toInt < t.toInt
  · rw [if_pos h1]
    by_cases h2 : a.toInt < b.toInt
    · rw [if_pos h2]
      constructor
      · intro e; subst e; omega
      · intro e; omega
    · rw [if_neg h2]
      constructor
      · intro e; subst e; omega
      · intro e; omega
  · rw [if_neg h1]
    by_cases h2 : a.toInt < t.toInt
    · rw [if_pos h2]
      constructor
      · intro _; omega
      · intro _; rfl
    · rw [if_neg h2]
      constructor
      · intro e; subst e; omega
      · intro e; apply Int64.toInt_inj.mp; omega
theorem own_yes {a b t : Int64} (h : ¬ b < a) (e : fMax a (fMin t b) = t) : fHolds t a b = 1 := by
  have := (own_max h).mp e
  unfold fHolds
  rw [if_neg this.1, if_neg this.2]
theorem own_no {a b t : Int64} (h : ¬ b < a) (e : ¬ fMax a (fMin t b) = t) : fHolds t a b = 0 := by
  rw [own_max h] at e
  unfold fHolds
  by_cases h1 : t < a
  · rw [if_pos h1]
  · rw [if_neg h1]
    by_cases h2 : b < t
    · rw [if_pos h2]
    · exact absurd ⟨h1, h2⟩ e

theorem pn_0 : plainName "com/example/sortition/sortition/partition/TokenRangeContainsPinLaw" = true := by first | (simp [plainName, overriddenIn]; done) | decide +kernel
theorem pd119675ca : parseMethodDescriptor "(IJJJ)J" = some ⟨[.int, .long, .long, .long], some .long⟩ := by decide +kernel
theorem pdc8226161 : parseMethodDescriptor "(JJ)V" = some ⟨[.long, .long], none⟩ := by decide +kernel
theorem pd56f9627 : parseMethodDescriptor "(J)Z" = some ⟨[.long], some .boolean⟩ := by decide +kernel
theorem pdc8226155 : parseMethodDescriptor "(JJ)J" = some ⟨[.long, .long], some .long⟩ := by decide +kernel
theorem ef_rm0 (m : MethodId) (q0 : Int64) (q1 : Int64) (q2 : Int64) (p3 : Int32) : entryFrame m #[(.long q0), (.long q1), (.long q2), (.int p3)] maxLocals = mkF m 0 #[.val (.long q0), .second, .val (.long q1), .second, .val (.long q2), .second, .val (.int p3), .unset, .unset, .unset, .unset, .unset, .unset, .unset, .unset, .unset, .unset] [] := by first | (simp [entryFrame, mkF, argsToLocals, Value.category, maxLocals]; done) | rfl
def Q_rm0 (Z : State) (q0 : Int64) (q1 : Int64) (q2 : Int64) (p3 : Int32) (h0 : Heap) (n0 : Nat) (v : Option Value) (h : Heap) (L : List Loc) : Prop := v = some (.int 1) ∧ Fr n0 L
abbrev F_rm0 (Z : State) (q0 : Int64) (q1 : Int64) (q2 : Int64) (p3 : Int32) (h0 : Heap) (n0 : Nat) (s : State) (o : Outcome) (U : State) : Prop := ∃ v L, o = .returned v ∧ Q_rm0 Z q0 q1 q2 p3 h0 n0 v U.heap L ∧ FrameEnd s o U L room_1.cells room_1.slots
set_option maxRecDepth 65536 in
set_option maxHeartbeats 40000000 in
theorem rm0 (l : Launch) (Z : State) (aZ : Array Value) (hw : ∀ d ∈ tables_1, d.before aZ Z = true) (ws : List Jvm.Cond) (q0 : Int64) (q1 : Int64) (q2 : Int64) (p3 : Int32) (h0 : Heap) (n0 : Nat) (Z0 : n0 ≤ h0.size) :
    MetFree l x (head1 (Jvm.Cond.code x code maxLocals ret :: ws) room_1) (fun a U => a = #[(.long q0), (.long q1), (.long q2), (.int p3)] ∧ Z.Warmed39 U.vm ∧ U.heap = h0) (fun _ _ _ _ _ => True) (fun _ U o U' => ∃ v L, o = .returned v ∧ Q_rm0 Z q0 q1 q2 p3 h0 n0 v U'.heap L ∧ FrameEnd U o U' L room_1.cells room_1.slots) := by
  refine MetFree.of_bodySF (plainFor_of_name pn_0) hisR ?_
  intro p e s m args below meth c s₁ Bd hml0 hP hK
  obtain ⟨rfl, hZ, hh⟩ := hP
  have hx := Bd.exec
  have hby := Bd.bytes
  have hml : c.maxLocals = 17 := hml0
  have hown : s.vm.findClass "com/example/sortition/sortition/partition/TokenRangeContainsPinLaw" = some m.cls := findClass_of_methodNamed Bd.named
  have hnm := (name_of_methodNamed Bd.named Bd.method).1
  have X0 : Stand p l e room_1 s m #[(.long q0), (.long q1), (.long q2), (.int p3)] below meth c s₁ [] 0 0 := Stand.of_body Bd
  have e0 : s₁.heap = h0 := by rw [← hh, Bd.state]; rfl
  have N0 := Fr.nil n0
  refine Go.st (fun _ k => castTop (ef_rm0 m q0 q1 q2 p3) k) ?_
  show Go p e below _ (s₁.setTop (mkF m 0 #[.val (.long q0), .second, .val (.long q1), .second, .val (.long q2), .second, .val (.int p3), .unset, .unset, .unset, .unset, .unset, .unset, .unset, .unset, .unset, .unset] []))
  refine Go.st (fun _ k => XS.iload X0.here hx rfl (hb hby at_0) rfl k) ?_
  show Go p e below _ (s₁.setTop (mkF m 2 #[.val (.long q0), .second, .val (.long q1), .second, .val (.long q2), .second, .val (.int p3), .unset, .unset, .unset, .unset, .unset, .unset, .unset, .unset, .unset, .unset] [(.int p3)]))
  refine Go.st (fun _ k => XS.iconst X0.here hx rfl (hb hby at_2) k) ?_
  show Go p e below _ (s₁.setTop (mkF m 3 #[.val (.long q0), .second, .val (.long q1), .second, .val (.long q2), .second, .val (.int p3), .unset, .unset, .unset, .unset, .unset, .unset, .unset, .unset, .unset, .unset] [(.int (3 : Int32)), (.int p3)]))
  refine Go.st (fun _ k => XS.iushr X0.here hx rfl (hb hby at_3) rfl k) ?_
  show Go p e below _ (s₁.setTop (mkF m 4 #[.val (.long q0), .second, .val (.long q1), .second, .val (.long q2), .second, .val (.int p3), .unset, .unset, .unset, .unset, .unset, .unset, .unset, .unset, .unset, .unset] [(.int ((p3.toUInt32 >>> ((3 : Int32) &&& 31).toUInt32).toInt32))]))
  refine Go.st (fun _ k => XS.iconst X0.here hx rfl (hb hby at_4) k) ?_
  show Go p e below _ (s₁.setTop (mkF m 5 #[.val (.long q0), .second, .val (.long q1), .second, .val (.long q2), .second, .val (.int p3), .unset, .unset, .unset, .unset, .unset, .unset, .unset, .unset, .unset, .unset] [(.int (3 : Int32)), (.int ((p3.toUInt32 >>> ((3 : Int32) &&& 31).toUInt32).toInt32))]))
  refine Go.st (fun _ k => XS.iand X0.here hx rfl (hb hby at_5) rfl k) ?_
  show Go p e below _ (s₁.setTop (mkF m 6 #[.val (.long q0), .second, .val (.long q1), .second, .val (.long q2), .second, .val (.int p3), .unset, .unset, .unset, .unset, .unset, .unset, .unset, .unset, .unset, .unset] [(.int (((p3.toUInt32 >>> ((3 : Int32) &&& 31).toUInt32).toInt32) &&& (3 : Int32)))]))
  generalize hv1 : (((p3.toUInt32 >>> ((3 : Int32) &&& 31).toUInt32).toInt32) &&& (3 : Int32)) = v1
  refine Go.st (fun _ k => XS.istore X0.here hx rfl (hb hby at_6) rfl (l' := #[.val (.long q0), .second, .val (.long q1), .second, .val (.long q2), .second, .val (.int p3), .val (.int v1), .unset, .unset, .unset, .unset, .unset, .unset, .unset, .unset, .unset]) rfl k) ?_
  show Go p e below _ (s₁.setTop (mkF m 8 #[.val (.long q0), .second, .val (.long q1), .second, .val (.long q2), .second, .val (.int p3), .val (.int v1), .unset, .unset, .unset, .unset, .unset, .unset, .unset, .unset, .unset] []))
  refine Go.st (fun _ k => XS.iload X0.here hx rfl (hb hby at_8) rfl k) ?_
  show Go p e below _ (s₁.setTop (mkF m 10 #[.val (.long q0), .second, .val (.long q1), .second, .val (.long q2), .second, .val (.int p3), .val (.int v1), .unset, .unset, .unset, .unset, .unset, .unset, .unset, .unset, .unset] [(.int v1)]))
  refine Go.st (fun _ k => XS.iconst X0.here hx rfl (hb hby at_10) k) ?_
  show Go p e below _ (s₁.setTop (mkF m 11 #[.val (.long q0), .second, .val (.long q1), .second, .val (.long q2), .second, .val (.int p3), .val (.int v1), .unset, .unset, .unset, .unset, .unset, .unset, .unset, .unset, .unset] [(.int (1 : Int32)), (.int v1)]))
  refine Go.st (fun _ k => XS.iand X0.here hx rfl (hb hby at_11) rfl k) ?_
  show Go p e below _ (s₁.setTop (mkF m 12 #[.val (.long q0), .second, .val (.long q1), .second, .val (.long q2), .second, .val (.int p3), .val (.int v1), .unset, .unset, .unset, .unset, .unset, .unset, .unset, .unset, .unset] [(.int (v1 &&& (1 : Int32)))]))
  by_cases hc2 : (v1 &&& (1 : Int32)) = (0 : Int32)
  · show Go p e below _ (s₁.setTop (mkF m 12 #[.val (.long q0), .second, .val (.long q1), .second, .val (.long q2), .second, .val (.int p3), .val (.int v1), .unset, .unset, .unset, .unset, .unset, .unset, .unset, .unset, .unset] [(.int (v1 &&& (1 : Int32)))]))
    refine Go.st (fun _ k => XS.ifYes X0.here hx rfl (pc0 := 12) (pc' := 21) rfl (hb hby at_12) rfl ((if0 _ _).trans (teq hc2).1) (by decide) (by decide) k) ?_
    show Go p e below _ (s₁.setTop (mkF m 21 #[.val (.long q0), .second, .val (.long q1), .second, .val (.long q2), .second, .val (.int p3), .val (.int v1), .unset, .unset, .unset, .unset, .unset, .unset, .unset, .unset, .unset] []))
    refine Go.st (fun _ k => XS.lloadN X0.here hx rfl (hb hby at_21) rfl k) ?_
    show Go p e below _ (s₁.setTop (mkF m 22 #[.val (.long q0), .second, .val (.long q1), .second, .val (.long q2), .second, .val (.int p3), .val (.int v1), .unset, .unset, .unset, .unset, .unset, .unset, .unset, .unset, .unset] [(.long q0)]))
    refine Go.st (fun _ k => XS.lstore X0.here hx rfl (hb hby at_22) rfl (l' := #[.val (.long q0), .second, .val (.long q1), .second, .val (.long q2), .second, .val (.int p3), .val (.int v1), .val (.long q0), .second, .unset, .unset, .unset, .unset, .unset, .unset, .unset]) rfl k) ?_
    show Go p e below _ (s₁.setTop (mkF m 24 #[.val (.long q0), .second, .val (.long q1), .second, .val (.long q2), .second, .val (.int p3), .val (.int v1), .val (.long q0), .second, .unset, .unset, .unset, .unset, .unset, .unset, .unset] []))
    refine Go.st (fun _ k => XS.iload X0.here hx rfl (hb hby at_24) rfl k) ?_
    show Go p e below _ (s₁.setTop (mkF m 26 #[.val (.long q0), .second, .val (.long q1), .second, .val (.long q2), .second, .val (.int p3), .val (.int v1), .val (.long q0), .second, .unset, .unset, .unset, .unset, .unset, .unset, .unset] [(.int v1)]))
    refine Go.st (fun _ k => XS.iconst X0.here hx rfl (hb hby at_26) k) ?_
    show Go p e below _ (s₁.setTop (mkF m 27 #[.val (.long q0), .second, .val (.long q1), .second, .val (.long q2), .second, .val (.int p3), .val (.int v1), .val (.long q0), .second, .unset, .unset, .unset, .unset, .unset, .unset, .unset] [(.int (2 : Int32)), (.int v1)]))
    refine Go.st (fun _ k => XS.iand X0.here hx rfl (hb hby at_27) rfl k) ?_
    show Go p e below _ (s₁.setTop (mkF m 28 #[.val (.long q0), .second, .val (.long q1), .second, .val (.long q2), .second, .val (.int p3), .val (.int v1), .val (.long q0), .second, .unset, .unset, .unset, .unset, .unset, .unset, .unset] [(.int (v1 &&& (2 : Int32)))]))
    by_cases hc3 : (v1 &&& (2 : Int32)) = (0 : Int32)
    · show Go p e below _ (s₁.setTop (mkF m 28 #[.val (.long q0), .second, .val (.long q1), .second, .val (.long q2), .second, .val (.int p3), .val (.int v1), .val (.long q0), .second, .unset, .unset, .unset, .unset, .unset, .unset, .unset] [(.int (v1 &&& (2 : Int32)))]))
      refine Go.st (fun _ k => XS.ifYes X0.here hx rfl (pc0 := 28) (pc' := 37) rfl (hb hby at_28) rfl ((if0 _ _).trans (teq hc3).1) (by decide) (by decide) k) ?_
      show Go p e below _ (s₁.setTop (mkF m 37 #[.val (.long q0), .second, .val (.long q1), .second, .val (.long q2), .second, .val (.int p3), .val (.int v1), .val (.long q0), .second, .unset, .unset, .unset, .unset, .unset, .unset, .unset] []))
      refine Go.st (fun _ k => XS.lloadN X0.here hx rfl (hb hby at_37) rfl k) ?_
      show Go p e below _ (s₁.setTop (mkF m 38 #[.val (.long q0), .second, .val (.long q1), .second, .val (.long q2), .second, .val (.int p3), .val (.int v1), .val (.long q0), .second, .unset, .unset, .unset, .unset, .unset, .unset, .unset] [(.long q1)]))
      refine Go.st (fun _ k => XS.lstore X0.here hx rfl (hb hby at_38) rfl (l' := #[.val (.long q0), .second, .val (.long q1), .second, .val (.long q2), .second, .val (.int p3), .val (.int v1), .val (.long q0), .second, .val (.long q1), .second, .unset, .unset, .unset, .unset, .unset]) rfl k) ?_
      show Go p e below _ (s₁.setTop (mkF m 40 #[.val (.long q0), .second, .val (.long q1), .second, .val (.long q2), .second, .val (.int p3), .val (.int v1), .val (.long q0), .second, .val (.long q1), .second, .unset, .unset, .unset, .unset, .unset] []))
      refine Go.st (fun _ k => XS.iload X0.here hx rfl (hb hby at_40) rfl k) ?_
      show Go p e below _ (s₁.setTop (mkF m 42 #[.val (.long q0), .second, .val (.long q1), .second, .val (.long q2), .second, .val (.int p3), .val (.int v1), .val (.long q0), .second, .val (.long q1), .second, .unset, .unset, .unset, .unset, .unset] [(.int p3)]))
      refine Go.st (fun _ k => XS.bipush X0.here hx rfl (hb hby at_42) k) ?_
      show Go p e below _ (s₁.setTop (mkF m 44 #[.val (.long q0), .second, .val (.long q1), .second, .val (.long q2), .second, .val (.int p3), .val (.int v1), .val (.long q0), .second, .val (.long q1), .second, .unset, .unset, .unset, .unset, .unset] [(.int (7 : Int32)), (.int p3)]))
      refine Go.st (fun _ k => XS.iand X0.here hx rfl (hb hby at_44) rfl k) ?_
      show Go p e below _ (s₁.setTop (mkF m 45 #[.val (.long q0), .second, .val (.long q1), .second, .val (.long q2), .second, .val (.int p3), .val (.int v1), .val (.long q0), .second, .val (.long q1), .second, .unset, .unset, .unset, .unset, .unset] [(.int (p3 &&& (7 : Int32)))]))
      refine Go.st (fun _ k => XS.lload X0.here hx rfl (hb hby at_45) rfl k) ?_
      show Go p e below _ (s₁.setTop (mkF m 47 #[.val (.long q0), .second, .val (.long q1), .second, .val (.long q2), .second, .val (.int p3), .val (.int v1), .val (.long q0), .second, .val (.long q1), .second, .unset, .unset, .unset, .unset, .unset] [(.long q0), (.int (p3 &&& (7 : Int32)))]))
      refine Go.st (fun _ k => XS.lload X0.here hx rfl (hb hby at_47) rfl k) ?_
      show Go p e below _ (s₁.setTop (mkF m 49 #[.val (.long q0), .second, .val (.long q1), .second, .val (.long q2), .second, .val (.int p3), .val (.int v1), .val (.long q0), .second, .val (.long q1), .second, .unset, .unset, .unset, .unset, .unset] [(.long q1), (.long q0), (.int (p3 &&& (7 : Int32)))]))
      refine Go.st (fun _ k => XS.lload X0.here hx rfl (hb hby at_49) rfl k) ?_
      show Go p e below _ (s₁.setTop (mkF m 51 #[.val (.long q0), .second, .val (.long q1), .second, .val (.long q2), .second, .val (.int p3), .val (.int v1), .val (.long q0), .second, .val (.long q1), .second, .unset, .unset, .unset, .unset, .unset] [(.long q2), (.long q1), (.long q0), (.int (p3 &&& (7 : Int32)))]))
      obtain ⟨_, _, ⟨T4, L4, k4, n4⟩, -, X4, ⟨Lc4, hQ4, l4, y4, z4⟩, st4⟩ := Jvm.LawKit.callS X0 hx (y := (⟨"com/example/sortition/sortition/partition/TokenRangeContainsPinLaw", "pick", "(IJJJ)J"⟩ : MethodName)) hown (mvT hZ (hw _ (List.mem_of_getElem? (i := 0) rfl))) (mvT hZ (hw _ (List.mem_of_getElem? (i := 1) rfl))) (mvT hZ (hw _ (List.mem_of_getElem? (i := 2) rfl))) (mvT hZ (hw _ (List.mem_of_getElem? (i := 3) rfl))) (by decide) (backOf (W := 0) (rm1 l Z aZ hw [] (p3 &&& (7 : Int32)) q0 q1 q2 h0 n0 ) hZ (hw _ (List.mem_of_getElem? (i := 3) rfl)) (hw _ (List.mem_of_getElem? (i := 2) rfl)) (by decide) (by decide)) (g := (mkF m 51 #[.val (.long q0), .second, .val (.long q1), .second, .val (.long q2), .second, .val (.int p3), .val (.int v1), .val (.long q0), .second, .val (.long q1), .second, .unset, .unset, .unset, .unset, .unset] [(.long q2), (.long q1), (.long q0), (.int (p3 &&& (7 : Int32)))])) rfl (by rw [hml]; rfl) (argsL := [(.int (p3 &&& (7 : Int32))), (.long q0), (.long q1), (.long q2)]) (rest := []) (lenOf pd119675ca rfl) rfl (by show 2 * 0 + _ ≤ _; exact Nat.le_of_eq rfl) (hb hby at_51) (fun _ _ => ⟨rfl, e0, (by decide : 0 + 0 ≤ _), (by decide : 0 + 0 ≤ _)⟩)
      dsimp only [Pt.U, Pt.locs, Pt.cells, Pt.slots] at X4 l4 y4 z4 st4 hQ4
      subst l4 y4 z4
      obtain ⟨rfl, N4q, e4⟩ := hQ4
      have N4 := Fr.app N0 N4q
      refine Go.st (fun _ k => st4 _ k) ?_
      show Go p e below _ (T4.setTop (mkF m 54 #[.val (.long q0), .second, .val (.long q1), .second, .val (.long q2), .second, .val (.int p3), .val (.int v1), .val (.long q0), .second, .val (.long q1), .second, .unset, .unset, .unset, .unset, .unset] [(.long (fPick (p3 &&& (7 : Int32)) q0 q1 q2))]))
      generalize hv5 : (fPick (p3 &&& (7 : Int32)) q0 q1 q2) = v5
      refine Go.st (fun _ k => XS.lstore X4.here hx rfl (hb hby at_54) rfl (l' := #[.val (.long q0), .second, .val (.long q1), .second, .val (.long q2), .second, .val (.int p3), .val (.int v1), .val (.long q0), .second, .val (.long q1), .second, .val (.long v5), .second, .unset, .unset, .unset]) rfl k) ?_
      show Go p e below _ (T4.setTop (mkF m 56 #[.val (.long q0), .second, .val (.long q1), .second, .val (.long q2), .second, .val (.int p3), .val (.int v1), .val (.long q0), .second, .val (.long q1), .second, .val (.long v5), .second, .unset, .unset, .unset] []))
      obtain ⟨T6, h6, X6, e6, E6, A6, D6, -, st6⟩ := newO X4 hx hZ hown (hw _ (List.mem_of_getElem? (i := 4) rfl)) (hw _ (List.mem_of_getElem? (i := 5) rfl)) (hw _ (List.mem_of_getElem? (i := 6) rfl)) e4 (g := (mkF m 56 #[.val (.long q0), .second, .val (.long q1), .second, .val (.long q2), .second, .val (.int p3), .val (.int v1), .val (.long q0), .second, .val (.long q1), .second, .val (.long v5), .second, .unset, .unset, .unset] [])) rfl (hb hby at_56) (by decide) (by decide)
      obtain ⟨b6, g6⟩ : ∃ z, z = h0.size := ⟨_, rfl⟩
      have gg6 : n0 ≤ b6 := Nat.le_trans Z0 (Nat.le_of_eq g6.symm)
      rw [← g6] at A6 D6 st6
      have Z6 : n0 ≤ h6.size := Nat.le_trans Z0 E6.1
      have F6_new_first : Fld Z h6 b6 "com/example/sortition/sortition/partition/TokenRange" "first" "J" (.long (0 : Int64)) := D6 (Or.inr (hw _ (List.mem_of_getElem? (i := 19) rfl))) (ty := .long) (by decide)
      have F6_new_last : Fld Z h6 b6 "com/example/sortition/sortition/partition/TokenRange" "last" "J" (.long (0 : Int64)) := D6 (Or.inr (hw _ (List.mem_of_getElem? (i := 21) rfl))) (ty := .long) (by decide)
      refine Go.st (fun _ k => st6 _ k) ?_
      show Go p e below _ (T6.setTop (mkF m 59 #[.val (.long q0), .second, .val (.long q1), .second, .val (.long q2), .second, .val (.int p3), .val (.int v1), .val (.long q0), .second, .val (.long q1), .second, .val (.long v5), .second, .unset, .unset, .unset] [(.ref b6)]))
      refine Go.st (fun _ k => XS.dup X6.here hx rfl (hb hby at_59) rfl rfl k) ?_
      show Go p e below _ (T6.setTop (mkF m 60 #[.val (.long q0), .second, .val (.long q1), .second, .val (.long q2), .second, .val (.int p3), .val (.int v1), .val (.long q0), .second, .val (.long q1), .second, .val (.long v5), .second, .unset, .unset, .unset] [(.ref b6), (.ref b6)]))
      refine Go.st (fun _ k => XS.lload X6.here hx rfl (hb hby at_60) rfl k) ?_
      show Go p e below _ (T6.setTop (mkF m 62 #[.val (.long q0), .second, .val (.long q1), .second, .val (.long q2), .second, .val (.int p3), .val (.int v1), .val (.long q0), .second, .val (.long q1), .second, .val (.long v5), .second, .unset, .unset, .unset] [(.long q0), (.ref b6), (.ref b6)]))
      refine Go.st (fun _ k => XS.lload X6.here hx rfl (hb hby at_62) rfl k) ?_
      show Go p e below _ (T6.setTop (mkF m 64 #[.val (.long q0), .second, .val (.long q1), .second, .val (.long q2), .second, .val (.int p3), .val (.int v1), .val (.long q0), .second, .val (.long q1), .second, .val (.long v5), .second, .unset, .unset, .unset] [(.long q1), (.long q0), (.ref b6), (.ref b6)]))
      obtain ⟨_, _, ⟨T7, L7, k7, n7⟩, -, X7, ⟨Lc7, hQ7, l7, y7, z7⟩, st7⟩ := X6.specialBack hx (y := (⟨"com/example/sortition/sortition/partition/TokenRange", "<init>", "(JJ)V"⟩ : MethodName)) rfl hown (mvT hZ (hw _ (List.mem_of_getElem? (i := 7) rfl))) (mvT hZ (hw _ (List.mem_of_getElem? (i := 8) rfl))) (mvT hZ (hw _ (List.mem_of_getElem? (i := 9) rfl))) (by decide) (backOf (W := 1) (rm2 l Z aZ hw [] b6 q0 q1 h6 n0 Z6 gg6 A6 F6_new_first F6_new_last) hZ (hw _ (List.mem_of_getElem? (i := 9) rfl)) (hw _ (List.mem_of_getElem? (i := 6) rfl)) (by decide) (by decide)) (g := (mkF m 64 #[.val (.long q0), .second, .val (.long q1), .second, .val (.long q2), .second, .val (.int p3), .val (.int v1), .val (.long q0), .second, .val (.long q1), .second, .val (.long v5), .second, .unset, .unset, .unset] [(.long q1), (.long q0), (.ref b6), (.ref b6)])) rfl (by rw [hml]; rfl) (Steps.refl _) (a := b6) (argsL := [(.long q0), (.long q1)]) (rest := [(.ref b6)]) (lenOf pdc8226161 rfl) rfl (by show 2 * 0 + _ ≤ _; exact Nat.le_of_eq rfl) (hb hby at_64) (fun _ _ => ⟨rfl, e6, (by decide : 1 + 0 ≤ _), (by decide : 2 + 0 ≤ _)⟩)
      dsimp only [Pt.U, Pt.locs, Pt.cells, Pt.slots] at X7 l7 y7 z7 st7 hQ7
      subst l7 y7 z7
      obtain ⟨rfl, N7q, K7q, E7q, Fc7_0, Fc7_1⟩ := hQ7
      have N7 := Fr.app N4 N7q
      have F7_E_b6 := A6.keep K7q
      have Zc7 : n0 ≤ T7.heap.size := Nat.le_trans Z6 K7q.1
      refine Go.st (fun _ k => st7.trans k) ?_
      show Go p e below _ (T7.setTop (mkF m 67 #[.val (.long q0), .second, .val (.long q1), .second, .val (.long q2), .second, .val (.int p3), .val (.int v1), .val (.long q0), .second, .val (.long q1), .second, .val (.long v5), .second, .unset, .unset, .unset] [(.ref b6)]))
      refine Go.st (fun _ k => XS.astore X7.here hx rfl (hb hby at_67) rfl rfl (l' := #[.val (.long q0), .second, .val (.long q1), .second, .val (.long q2), .second, .val (.int p3), .val (.int v1), .val (.long q0), .second, .val (.long q1), .second, .val (.long v5), .second, .val (.ref b6), .unset, .unset]) rfl k) ?_
      show Go p e below _ (T7.setTop (mkF m 69 #[.val (.long q0), .second, .val (.long q1), .second, .val (.long q2), .second, .val (.int p3), .val (.int v1), .val (.long q0), .second, .val (.long q1), .second, .val (.long v5), .second, .val (.ref b6), .unset, .unset] []))
      refine Go.st (fun _ k => XS.aload X7.here hx rfl (hb hby at_69) rfl rfl k) ?_
      show Go p e below _ (T7.setTop (mkF m 71 #[.val (.long q0), .second, .val (.long q1), .second, .val (.long q2), .second, .val (.int p3), .val (.int v1), .val (.long q0), .second, .val (.long q1), .second, .val (.long v5), .second, .val (.ref b6), .unset, .unset] [(.ref b6)]))
      refine Go.st (fun _ k => XS.lload X7.here hx rfl (hb hby at_71) rfl k) ?_
      show Go p e below _ (T7.setTop (mkF m 73 #[.val (.long q0), .second, .val (.long q1), .second, .val (.long q2), .second, .val (.int p3), .val (.int v1), .val (.long q0), .second, .val (.long q1), .second, .val (.long v5), .second, .val (.ref b6), .unset, .unset] [(.long v5), (.ref b6)]))
      obtain ⟨cq8, kq8, q8a, q8b, q8c⟩ := isOf hZ rfl F7_E_b6
      obtain ⟨_, _, ⟨T8, L8, k8, n8⟩, -, X8, ⟨Lc8, hQ8, l8, y8, z8⟩, st8⟩ := X7.virtualBack hx (y := (⟨"com/example/sortition/sortition/partition/TokenRange", "contains", "(J)Z"⟩ : MethodName)) (z := (⟨"com/example/sortition/sortition/partition/TokenRange", "contains", "(J)Z"⟩ : MethodName)) hown (mvT hZ (hw _ (List.mem_of_getElem? (i := 22) rfl))) (mvT hZ (hw _ (List.mem_of_getElem? (i := 23) rfl))) (notFace_of_selects (args := #[]) (mvT hZ (hw _ (List.mem_of_getElem? (i := 25) rfl)))) (mvT hZ (hw _ (List.mem_of_getElem? (i := 25) rfl))) (mvT hZ (hw _ (List.mem_of_getElem? (i := 24) rfl))) (by decide) (backOf (W := 0) (rm5 l Z aZ hw [] b6 v5 q0 q1 T7.heap n0 Fc7_0 Fc7_1) hZ (hw _ (List.mem_of_getElem? (i := 26) rfl)) (hw _ (List.mem_of_getElem? (i := 6) rfl)) (by decide) (by decide)) q8a q8c (g := (mkF m 73 #[.val (.long q0), .second, .val (.long q1), .second, .val (.long q2), .second, .val (.int p3), .val (.int v1), .val (.long q0), .second, .val (.long q1), .second, .val (.long v5), .second, .val (.ref b6), .unset, .unset] [(.long v5), (.ref b6)])) rfl (by rw [hml]; rfl) (Steps.refl _) (argsL := [(.long v5)]) (rest := []) (lenOf pd56f9627 rfl) rfl (by show 2 * 0 + _ ≤ _; exact Nat.le_of_eq rfl) (hb hby at_73) (fun _ _ => ⟨rfl, rfl, (by decide : 1 + 0 ≤ _), (by decide : 2 + 0 ≤ _)⟩)
      dsimp only [Pt.U, Pt.locs, Pt.cells, Pt.slots] at X8 l8 y8 z8 st8 hQ8
      subst l8 y8 z8
      obtain ⟨rfl, N8q, e8⟩ := hQ8
      have N8 := Fr.app N7 N8q
      refine Go.st (fun _ k => st8.trans k) ?_
      show Go p e below _ (T8.setTop (mkF m 76 #[.val (.long q0), .second, .val (.long q1), .second, .val (.long q2), .second, .val (.int p3), .val (.int v1), .val (.long q0), .second, .val (.long q1), .second, .val (.long v5), .second, .val (.ref b6), .unset, .unset] [(.int (fHolds v5 q0 q1))]))
      refine Go.st (fun _ k => XS.istore X8.here hx rfl (hb hby at_76) rfl (l' := #[.val (.long q0), .second, .val (.long q1), .second, .val (.long q2), .second, .val (.int p3), .val (.int v1), .val (.long q0), .second, .val (.long q1), .second, .val (.long v5), .second, .val (.ref b6), .val (.int (fHolds v5 q0 q1)), .unset]) rfl k) ?_
      show Go p e below _ (T8.setTop (mkF m 78 #[.val (.long q0), .second, .val (.long q1), .second, .val (.long q2), .second, .val (.int p3), .val (.int v1), .val (.long q0), .second, .val (.long q1), .second, .val (.long v5), .second, .val (.ref b6), .val (.int (fHolds v5 q0 q1)), .unset] []))
      refine Go.st (fun _ k => XS.lload X8.here hx rfl (hb hby at_78) rfl k) ?_
      show Go p e below _ (T8.setTop (mkF m 80 #[.val (.long q0), .second, .val (.long q1), .second, .val (.long q2), .second, .val (.int p3), .val (.int v1), .val (.long q0), .second, .val (.long q1), .second, .val (.long v5), .second, .val (.ref b6), .val (.int (fHolds v5 q0 q1)), .unset] [(.long q0)]))
      refine Go.st (fun _ k => XS.lload X8.here hx rfl (hb hby at_80) rfl k) ?_
      show Go p e below _ (T8.setTop (mkF m 82 #[.val (.long q0), .second, .val (.long q1), .second, .val (.long q2), .second, .val (.int p3), .val (.int v1), .val (.long q0), .second, .val (.long q1), .second, .val (.long v5), .second, .val (.ref b6), .val (.int (fHolds v5 q0 q1)), .unset] [(.long q1), (.long q0)]))
      refine Go.st (fun _ k => XS.lcmp X8.here hx rfl (hb hby at_82) rfl k) ?_
      show Go p e below _ (T8.setTop (mkF m 83 #[.val (.long q0), .second, .val (.long q1), .second, .val (.long q2), .second, .val (.int p3), .val (.int v1), .val (.long q0), .second, .val (.long q1), .second, .val (.long v5), .second, .val (.ref b6), .val (.int (fHolds v5 q0 q1)), .unset] [(.int (lcmpW q0 q1))]))
      by_cases hc9 : q1 < q0
      · show Go p e below _ (T8.setTop (mkF m 83 #[.val (.long q0), .second, .val (.long q1), .second, .val (.long q2), .second, .val (.int p3), .val (.int v1), .val (.long q0), .second, .val (.long q1), .second, .val (.long v5), .second, .val (.ref b6), .val (.int (fHolds v5 q0 q1)), .unset] [(.int (lcmpW q0 q1))]))
        refine Go.st (fun _ k => XS.ifYes X8.here hx rfl (pc0 := 83) (pc' := 108) rfl (hb hby at_83) rfl ((if0 _ _).trans (tlt ((lw_gt _ _).mpr hc9)).2.2.1) (by decide) (by decide) k) ?_
        show Go p e below _ (T8.setTop (mkF m 108 #[.val (.long q0), .second, .val (.long q1), .second, .val (.long q2), .second, .val (.int p3), .val (.int v1), .val (.long q0), .second, .val (.long q1), .second, .val (.long v5), .second, .val (.ref b6), .val (.int (fHolds v5 q0 q1)), .unset] []))
        refine Go.st (fun _ k => XS.iconst X8.here hx rfl (hb hby at_108) k) ?_
        show Go p e below _ (T8.setTop (mkF m 109 #[.val (.long q0), .second, .val (.long q1), .second, .val (.long q2), .second, .val (.int p3), .val (.int v1), .val (.long q0), .second, .val (.long q1), .second, .val (.long v5), .second, .val (.ref b6), .val (.int (fHolds v5 q0 q1)), .unset] [(.int (0 : Int32))]))
        refine Go.st (fun _ k => XS.istore X8.here hx rfl (hb hby at_109) rfl (l' := #[.val (.long q0), .second, .val (.long q1), .second, .val (.long q2), .second, .val (.int p3), .val (.int v1), .val (.long q0), .second, .val (.long q1), .second, .val (.long v5), .second, .val (.ref b6), .val (.int (fHolds v5 q0 q1)), .val (.int (0 : Int32))]) rfl k) ?_
        show Go p e below _ (T8.setTop (mkF m 111 #[.val (.long q0), .second, .val (.long q1), .second, .val (.long q2), .second, .val (.int p3), .val (.int v1), .val (.long q0), .second, .val (.long q1), .second, .val (.long v5), .second, .val (.ref b6), .val (.int (fHolds v5 q0 q1)), .val (.int (0 : Int32))] []))
        refine Go.st (fun _ k => XS.iload X8.here hx rfl (hb hby at_111) rfl k) ?_
        show Go p e below _ (T8.setTop (mkF m 113 #[.val (.long q0), .second, .val (.long q1), .second, .val (.long q2), .second, .val (.int p3), .val (.int v1), .val (.long q0), .second, .val (.long q1), .second, .val (.long v5), .second, .val (.ref b6), .val (.int (fHolds v5 q0 q1)), .val (.int (0 : Int32))] [(.int (fHolds v5 q0 q1))]))
        refine Go.st (fun _ k => XS.iload X8.here hx rfl (hb hby at_113) rfl k) ?_
        show Go p e below _ (T8.setTop (mkF m 115 #[.val (.long q0), .second, .val (.long q1), .second, .val (.long q2), .second, .val (.int p3), .val (.int v1), .val (.long q0), .second, .val (.long q1), .second, .val (.long v5), .second, .val (.ref b6), .val (.int (fHolds v5 q0 q1)), .val (.int (0 : Int32))] [(.int (0 : Int32)), (.int (fHolds v5 q0 q1))]))
        refine Go.st (fun _ k => XS.icmpNo X8.here hx rfl (hb hby at_115) rfl (teq ((Eq.refl (fHolds v5 q0 q1)).symm.trans (own_not hc9 _))).2 k) ?_
        show Go p e below _ (T8.setTop (mkF m 118 #[.val (.long q0), .second, .val (.long q1), .second, .val (.long q2), .second, .val (.int p3), .val (.int v1), .val (.long q0), .second, .val (.long q1), .second, .val (.long v5), .second, .val (.ref b6), .val (.int (fHolds v5 q0 q1)), .val (.int (0 : Int32))] []))
        refine Go.st (fun _ k => XS.iconst X8.here hx rfl (hb hby at_118) k) ?_
        show Go p e below _ (T8.setTop (mkF m 119 #[.val (.long q0), .second, .val (.long q1), .second, .val (.long q2), .second, .val (.int p3), .val (.int v1), .val (.long q0), .second, .val (.long q1), .second, .val (.long v5), .second, .val (.ref b6), .val (.int (fHolds v5 q0 q1)), .val (.int (0 : Int32))] [(.int (1 : Int32))]))
        refine Go.st (fun _ k => XS.goto X8.here hx rfl (pc0 := 119) (pc' := 123) rfl (hb hby at_119) (by decide) (by decide) k) ?_
        show Go p e below _ (T8.setTop (mkF m 123 #[.val (.long q0), .second, .val (.long q1), .second, .val (.long q2), .second, .val (.int p3), .val (.int v1), .val (.long q0), .second, .val (.long q1), .second, .val (.long v5), .second, .val (.ref b6), .val (.int (fHolds v5 q0 q1)), .val (.int (0 : Int32))] [(.int (1 : Int32))]))
        obtain ⟨fs, hr, hrun, hended, hW, hsame⟩ := X8.leave (v := some (.int (1 : Int32))) (fun h => by rw [Bd.returns] at h; cases h)
        refine ⟨_, _, retN X8 hx (t := .boolean) Bd.returns (by simp) (hb hby at_123) hr, hrun, hended, _, _, rfl, ?_, ⟨_, rfl⟩, hW, hsame.mono (by decide) (by decide)⟩
        show Q_rm0 Z q0 q1 q2 p3 h0 n0 _ T8.heap _
        rw [e8]
        exact ⟨rfl, N8⟩
      · show Go p e below _ (T8.setTop (mkF m 83 #[.val (.long q0), .second, .val (.long q1), .second, .val (.long q2), .second, .val (.int p3), .val (.int v1), .val (.long q0), .second, .val (.long q1), .second, .val (.long v5), .second, .val (.ref b6), .val (.int (fHolds v5 q0 q1)), .unset] [(.int (lcmpW q0 q1))]))
        refine Go.st (fun _ k => XS.ifNo X8.here hx rfl (hb hby at_83) rfl ((if0 _ _).trans (flt (fun z => hc9 ((lw_gt _ _).mp z))).2.2.1) k) ?_
        show Go p e below _ (T8.setTop (mkF m 86 #[.val (.long q0), .second, .val (.long q1), .second, .val (.long q2), .second, .val (.int p3), .val (.int v1), .val (.long q0), .second, .val (.long q1), .second, .val (.long v5), .second, .val (.ref b6), .val (.int (fHolds v5 q0 q1)), .unset] []))
        refine Go.st (fun _ k => XS.lload X8.here hx rfl (hb hby at_86) rfl k) ?_
        show Go p e below _ (T8.setTop (mkF m 88 #[.val (.long q0), .second, .val (.long q1), .second, .val (.long q2), .second, .val (.int p3), .val (.int v1), .val (.long q0), .second, .val (.long q1), .second, .val (.long v5), .second, .val (.ref b6), .val (.int (fHolds v5 q0 q1)), .unset] [(.long q0)]))
        refine Go.st (fun _ k => XS.lload X8.here hx rfl (hb hby at_88) rfl k) ?_
        show Go p e below _ (T8.setTop (mkF m 90 #[.val (.long q0), .second, .val (.long q1), .second, .val (.long q2), .second, .val (.int p3), .val (.int v1), .val (.long q0), .second, .val (.long q1), .second, .val (.long v5), .second, .val (.ref b6), .val (.int (fHolds v5 q0 q1)), .unset] [(.long v5), (.long q0)]))
        refine Go.st (fun _ k => XS.lload X8.here hx rfl (hb hby at_90) rfl k) ?_
        show Go p e below _ (T8.setTop (mkF m 92 #[.val (.long q0), .second, .val (.long q1), .second, .val (.long q2), .second, .val (.int p3), .val (.int v1), .val (.long q0), .second, .val (.long q1), .second, .val (.long v5), .second, .val (.ref b6), .val (.int (fHolds v5 q0 q1)), .unset] [(.long q1), (.long v5), (.long q0)]))
        obtain ⟨_, _, ⟨T10, L10, k10, n10⟩, -, X10, ⟨Lc10, hQ10, l10, y10, z10⟩, st10⟩ := Jvm.LawKit.callS X8 hx (y := (⟨"java/lang/Math", "min", "(JJ)J"⟩ : MethodName)) hown (mvT hZ (hw _ (List.mem_of_getElem? (i := 27) rfl))) (mvT hZ (hw _ (List.mem_of_getElem? (i := 28) rfl))) (mvT hZ (hw _ (List.mem_of_getElem? (i := 29) rfl))) (mvT hZ (hw _ (List.mem_of_getElem? (i := 30) rfl))) (by decide) (backOf (W := 2) (rm6 l Z aZ hw [] v5 q1 T7.heap n0 ) hZ (hw _ (List.mem_of_getElem? (i := 30) rfl)) (hw _ (List.mem_of_getElem? (i := 29) rfl)) (by decide) (by decide)) (g := (mkF m 92 #[.val (.long q0), .second, .val (.long q1), .second, .val (.long q2), .second, .val (.int p3), .val (.int v1), .val (.long q0), .second, .val (.long q1), .second, .val (.long v5), .second, .val (.ref b6), .val (.int (fHolds v5 q0 q1)), .unset] [(.long q1), (.long v5), (.long q0)])) rfl (by rw [hml]; rfl) (argsL := [(.long v5), (.long q1)]) (rest := [(.long q0)]) (lenOf pdc8226155 rfl) rfl (by show 2 * 0 + _ ≤ _; exact Nat.le_of_eq rfl) (hb hby at_92) (fun _ _ => ⟨rfl, e8, (by decide : 1 + 0 ≤ _), (by decide : 2 + 0 ≤ _)⟩)
        dsimp only [Pt.U, Pt.locs, Pt.cells, Pt.slots] at X10 l10 y10 z10 st10 hQ10
        subst l10 y10 z10
        obtain ⟨rfl, N10q, e10⟩ := hQ10
        have N10 := Fr.app N8 N10q
        refine Go.st (fun _ k => st10 _ k) ?_
        show Go p e below _ (T10.setTop (mkF m 95 #[.val (.long q0), .second, .val (.long q1), .second, .val (.long q2), .second, .val (.int p3), .val (.int v1), .val (.long q0), .second, .val (.long q1), .second, .val (.long v5), .second, .val (.ref b6), .val (.int (fHolds v5 q0 q1)), .unset] [(.long (fMin v5 q1)), (.long q0)]))
        obtain ⟨_, _, ⟨T11, L11, k11, n11⟩, -, X11, ⟨Lc11, hQ11, l11, y11, z11⟩, st11⟩ := Jvm.LawKit.callS X10 hx (y := (⟨"java/lang/Math", "max", "(JJ)J"⟩ : MethodName)) hown (mvT hZ (hw _ (List.mem_of_getElem? (i := 31) rfl))) (mvT hZ (hw _ (List.mem_of_getElem? (i := 32) rfl))) (mvT hZ (hw _ (List.mem_of_getElem? (i := 29) rfl))) (mvT hZ (hw _ (List.mem_of_getElem? (i := 33) rfl))) (by decide) (backOf (W := 0) (rm7 l Z aZ hw [] q0 (fMin v5 q1) T7.heap n0 ) hZ (hw _ (List.mem_of_getElem? (i := 33) rfl)) (hw _ (List.mem_of_getElem? (i := 29) rfl)) (by decide) (by decide)) (g := (mkF m 95 #[.val (.long q0), .second, .val (.long q1), .second, .val (.long q2), .second, .val (.int p3), .val (.int v1), .val (.long q0), .second, .val (.long q1), .second, .val (.long v5), .second, .val (.ref b6), .val (.int (fHolds v5 q0 q1)), .unset] [(.long (fMin v5 q1)), (.long q0)])) rfl (by rw [hml]; rfl) (argsL := [(.long q0), (.long (fMin v5 q1))]) (rest := []) (lenOf pdc8226155 rfl) rfl (by show 2 * 0 + _ ≤ _; exact Nat.le_of_eq rfl) (hb hby at_95) (fun _ _ => ⟨rfl, e10, (by decide : 1 + 0 ≤ _), (by decide : 2 + 0 ≤ _)⟩)
        dsimp only [Pt.U, Pt.locs, Pt.cells, Pt.slots] at X11 l11 y11 z11 st11 hQ11
        subst l11 y11 z11
        obtain ⟨rfl, N11q, e11⟩ := hQ11
        have N11 := Fr.app N10 N11q
        refine Go.st (fun _ k => st11 _ k) ?_
        show Go p e below _ (T11.setTop (mkF m 98 #[.val (.long q0), .second, .val (.long q1), .second, .val (.long q2), .second, .val (.int p3), .val (.int v1), .val (.long q0), .second, .val (.long q1), .second, .val (.long v5), .second, .val (.ref b6), .val (.int (fHolds v5 q0 q1)), .unset] [(.long (fMax q0 (fMin v5 q1)))]))
        refine Go.st (fun _ k => XS.lload X11.here hx rfl (hb hby at_98) rfl k) ?_
        show Go p e below _ (T11.setTop (mkF m 100 #[.val (.long q0), .second, .val (.long q1), .second, .val (.long q2), .second, .val (.int p3), .val (.int v1), .val (.long q0), .second, .val (.long q1), .second, .val (.long v5), .second, .val (.ref b6), .val (.int (fHolds v5 q0 q1)), .unset] [(.long v5), (.long (fMax q0 (fMin v5 q1)))]))
        refine Go.st (fun _ k => XS.lcmp X11.here hx rfl (hb hby at_100) rfl k) ?_
        show Go p e below _ (T11.setTop (mkF m 101 #[.val (.long q0), .second, .val (.long q1), .second, .val (.long q2), .second, .val (.int p3), .val (.int v1), .val (.long q0), .second, .val (.long q1), .second, .val (.long v5), .second, .val (.ref b6), .val (.int (fHolds v5 q0 q1)), .unset] [(.int (lcmpW (fMax q0 (fMin v5 q1)) v5))]))
        by_cases hc12 : (fMax q0 (fMin v5 q1)) = v5
        · show Go p e below _ (T11.setTop (mkF m 101 #[.val (.long q0), .second, .val (.long q1), .second, .val (.long q2), .second, .val (.int p3), .val (.int v1), .val (.long q0), .second, .val (.long q1), .second, .val (.long v5), .second, .val (.ref b6), .val (.int (fHolds v5 q0 q1)), .unset] [(.int (lcmpW (fMax q0 (fMin v5 q1)) v5))]))
          refine Go.st (fun _ k => XS.ifNo X11.here hx rfl (hb hby at_101) rfl ((if0 _ _).trans (teq ((lw_eq _ _).mpr hc12)).2) k) ?_
          show Go p e below _ (T11.setTop (mkF m 104 #[.val (.long q0), .second, .val (.long q1), .second, .val (.long q2), .second, .val (.int p3), .val (.int v1), .val (.long q0), .second, .val (.long q1), .second, .val (.long v5), .second, .val (.ref b6), .val (.int (fHolds v5 q0 q1)), .unset] []))
          refine Go.st (fun _ k => XS.iconst X11.here hx rfl (hb hby at_104) k) ?_
          show Go p e below _ (T11.setTop (mkF m 105 #[.val (.long q0), .second, .val (.long q1), .second, .val (.long q2), .second, .val (.int p3), .val (.int v1), .val (.long q0), .second, .val (.long q1), .second, .val (.long v5), .second, .val (.ref b6), .val (.int (fHolds v5 q0 q1)), .unset] [(.int (1 : Int32))]))
          refine Go.st (fun _ k => XS.goto X11.here hx rfl (pc0 := 105) (pc' := 109) rfl (hb hby at_105) (by decide) (by decide) k) ?_
          show Go p e below _ (T11.setTop (mkF m 109 #[.val (.long q0), .second, .val (.long q1), .second, .val (.long q2), .second, .val (.int p3), .val (.int v1), .val (.long q0), .second, .val (.long q1), .second, .val (.long v5), .second, .val (.ref b6), .val (.int (fHolds v5 q0 q1)), .unset] [(.int (1 : Int32))]))
          refine Go.st (fun _ k => XS.istore X11.here hx rfl (hb hby at_109) rfl (l' := #[.val (.long q0), .second, .val (.long q1), .second, .val (.long q2), .second, .val (.int p3), .val (.int v1), .val (.long q0), .second, .val (.long q1), .second, .val (.long v5), .second, .val (.ref b6), .val (.int (fHolds v5 q0 q1)), .val (.int (1 : Int32))]) rfl k) ?_
          show Go p e below _ (T11.setTop (mkF m 111 #[.val (.long q0), .second, .val (.long q1), .second, .val (.long q2), .second, .val (.int p3), .val (.int v1), .val (.long q0), .second, .val (.long q1), .second, .val (.long v5), .second, .val (.ref b6), .val (.int (fHolds v5 q0 q1)), .val (.int (1 : Int32))] []))
          refine Go.st (fun _ k => XS.iload X11.here hx rfl (hb hby at_111) rfl k) ?_
          show Go p e below _ (T11.setTop (mkF m 113 #[.val (.long q0), .second, .val (.long q1), .second, .val (.long q2), .second, .val (.int p3), .val (.int v1), .val (.long q0), .second, .val (.long q1), .second, .val (.long v5), .second, .val (.ref b6), .val (.int (fHolds v5 q0 q1)), .val (.int (1 : Int32))] [(.int (fHolds v5 q0 q1))]))
          refine Go.st (fun _ k => XS.iload X11.here hx rfl (hb hby at_113) rfl k) ?_
          show Go p e below _ (T11.setTop (mkF m 115 #[.val (.long q0), .second, .val (.long q1), .second, .val (.long q2), .second, .val (.int p3), .val (.int v1), .val (.long q0), .second, .val (.long q1), .second, .val (.long v5), .second, .val (.ref b6), .val (.int (fHolds v5 q0 q1)), .val (.int (1 : Int32))] [(.int (1 : Int32)), (.int (fHolds v5 q0 q1))]))
          refine Go.st (fun _ k => XS.icmpNo X11.here hx rfl (hb hby at_115) rfl (teq ((Eq.refl (fHolds v5 q0 q1)).symm.trans (own_yes hc9 hc12))).2 k) ?_
          show Go p e below _ (T11.setTop (mkF m 118 #[.val (.long q0), .second, .val (.long q1), .second, .val (.long q2), .second, .val (.int p3), .val (.int v1), .val (.long q0), .second, .val (.long q1), .second, .val (.long v5), .second, .val (.ref b6), .val (.int (fHolds v5 q0 q1)), .val (.int (1 : Int32))] []))
          refine Go.st (fun _ k => XS.iconst X11.here hx rfl (hb hby at_118) k) ?_
          show Go p e below _ (T11.setTop (mkF m 119 #[.val (.long q0), .second, .val (.long q1), .second, .val (.long q2), .second, .val (.int p3), .val (.int v1), .val (.long q0), .second, .val (.long q1), .second, .val (.long v5), .second, .val (.ref b6), .val (.int (fHolds v5 q0 q1)), .val (.int (1 : Int32))] [(.int (1 : Int32))]))
          refine Go.st (fun _ k => XS.goto X11.here hx rfl (pc0 := 119) (pc' := 123) rfl (hb hby at_119) (by decide) (by decide) k) ?_
          show Go p e below _ (T11.setTop (mkF m 123 #[.val (.long q0), .second, .val (.long q1), .second, .val (.long q2), .second, .val (.int p3), .val (.int v1), .val (.long q0), .second, .val (.long q1), .second, .val (.long v5), .second, .val (.ref b6), .val (.int (fHolds v5 q0 q1)), .val (.int (1 : Int32))] [(.int (1 : Int32))]))
          obtain ⟨fs, hr, hrun, hended, hW, hsame⟩ := X11.leave (v := some (.int (1 : Int32))) (fun h => by rw [Bd.returns] at h; cases h)
          refine ⟨_, _, retN X11 hx (t := .boolean) Bd.returns (by simp) (hb hby at_123) hr, hrun, hended, _, _, rfl, ?_, ⟨_, rfl⟩, hW, hsame.mono (by decide) (by decide)⟩
          show Q_rm0 Z q0 q1 q2 p3 h0 n0 _ T11.heap _
          rw [e11]
          exact ⟨rfl, N11⟩
        · show Go p e below _ (T11.setTop (mkF m 101 #[.val (.long q0), .second, .val (.long q1), .second, .val (.long q2), .second, .val (.int p3), .val (.int v1), .val (.long q0), .second, .val (.long q1), .second, .val (.long v5), .second, .val (.ref b6), .val (.int (fHolds v5 q0 q1)), .unset] [(.int (lcmpW (fMax q0 (fMin v5 q1)) v5))]))
          refine Go.st (fun _ k => XS.ifYes X11.here hx rfl (pc0 := 101) (pc' := 108) rfl (hb hby at_101) rfl ((if0 _ _).trans (feq (fun z => hc12 ((lw_eq _ _).mp z))).2) (by decide) (by decide) k) ?_
          show Go p e below _ (T11.setTop (mkF m 108 #[.val (.long q0), .second, .val (.long q1), .second, .val (.long q2), .second, .val (.int p3), .val (.int v1), .val (.long q0), .second, .val (.long q1), .second, .val (.long v5), .second, .val (.ref b6), .val (.int (fHolds v5 q0 q1)), .unset] []))
          refine Go.st (fun _ k => XS.iconst X11.here hx rfl (hb hby at_108) k) ?_
          show Go p e below _ (T11.setTop (mkF m 109 #[.val (.long q0), .second, .val (.long q1), .second, .val (.long q2), .second, .val (.int p3), .val (.int v1), .val (.long q0), .second, .val (.long q1), .second, .val (.long v5), .second, .val (.ref b6), .val (.int (fHolds v5 q0 q1)), .unset] [(.int (0 : Int32))]))
          refine Go.st (fun _ k => XS.istore X11.here hx rfl (hb hby at_109) rfl (l' := #[.val (.long q0), .second, .val (.long q1), .second, .val (.long q2), .second, .val (.int p3), .val (.int v1), .val (.long q0), .second, .val (.long q1), .second, .val (.long v5), .second, .val (.ref b6), .val (.int (fHolds v5 q0 q1)), .val (.int (0 : Int32))]) rfl k) ?_
          show Go p e below _ (T11.setTop (mkF m 111 #[.val (.long q0), .second, .val (.long q1), .second, .val (.long q2), .second, .val (.int p3), .val (.int v1), .val (.long q0), .second, .val (.long q1), .second, .val (.long v5), .second, .val (.ref b6), .val (.int (fHolds v5 q0 q1)), .val (.int (0 : Int32))] []))
          refine Go.st (fun _ k => XS.iload X11.here hx rfl (hb hby at_111) rfl k) ?_
          show Go p e below _ (T11.setTop (mkF m 113 #[.val (.long q0), .second, .val (.long q1), .second, .val (.long q2), .second, .val (.int p3), .val (.int v1), .val (.long q0), .second, .val (.long q1), .second, .val (.long v5), .second, .val (.ref b6), .val (.int (fHolds v5 q0 q1)), .val (.int (0 : Int32))] [(.int (fHolds v5 q0 q1))]))
          refine Go.st (fun _ k => XS.iload X11.here hx rfl (hb hby at_113) rfl k) ?_
          show Go p e below _ (T11.setTop (mkF m 115 #[.val (.long q0), .second, .val (.long q1), .second, .val (.long q2), .second, .val (.int p3), .val (.int v1), .val (.long q0), .second, .val (.long q1), .second, .val (.long v5), .second, .val (.ref b6), .val (.int (fHolds v5 q0 q1)), .val (.int (0 : Int32))] [(.int (0 : Int32)), (.int (fHolds v5 q0 q1))]))
          refine Go.st (fun _ k => XS.icmpNo X11.here hx rfl (hb hby at_115) rfl (teq ((Eq.refl (fHolds v5 q0 q1)).symm.trans (own_no hc9 hc12))).2 k) ?_
          show Go p e below _ (T11.setTop (mkF m 118 #[.val (.long q0), .second, .val (.long q1), .second, .val (.long q2), .second, .val (.int p3), .val (.int v1), .val (.long q0), .second, .val (.long q1), .second, .val (.long v5), .second, .val (.ref b6), .val (.int (fHolds v5 q0 q1)), .val (.int (0 : Int32))] []))
          refine Go.st (fun _ k => XS.iconst X11.here hx rfl (hb hby at_118) k) ?_
          show Go p e below _ (T11.setTop (mkF m 119 #[.val (.long q0), .second, .val (.long q1), .second, .val (.long q2), .second, .val (.int p3), .val (.int v1), .val (.long q0), .second, .val (.long q1), .second, .val (.long v5), .second, .val (.ref b6), .val (.int (fHolds v5 q0 q1)), .val (.int (0 : Int32))] [(.int (1 : Int32))]))
          refine Go.st (fun _ k => XS.goto X11.here hx rfl (pc0 := 119) (pc' := 123) rfl (hb hby at_119) (by decide) (by decide) k) ?_
          show Go p e below _ (T11.setTop (mkF m 123 #[.val (.long q0), .second, .val (.long q1), .second, .val (.long q2), .second, .val (.int p3), .val (.int v1), .val (.long q0), .second, .val (.long q1), .second, .val (.long v5), .second, .val (.ref b6), .val (.int (fHolds v5 q0 q1)), .val (.int (0 : Int32))] [(.int (1 : Int32))]))
          obtain ⟨fs, hr, hrun, hended, hW, hsame⟩ := X11.leave (v := some (.int (1 : Int32))) (fun h => by rw [Bd.returns] at h; cases h)
          refine ⟨_, _, retN X11 hx (t := .boolean) Bd.returns (by simp) (hb hby at_123) hr, hrun, hended, _, _, rfl, ?_, ⟨_, rfl⟩, hW, hsame.mono (by decide) (by decide)⟩
          show Q_rm0 Z q0 q1 q2 p3 h0 n0 _ T11.heap _
          rw [e11]
          exact ⟨rfl, N11⟩
    · show Go p e below _ (s₁.setTop (mkF m 28 #[.val (.long q0), .second, .val (.long q1), .second, .val (.long q2), .second, .val (.int p3), .val (.int v1), .val (.long q0), .second, .unset, .unset, .unset, .unset, .unset, .unset, .unset] [(.int (v1 &&& (2 : Int32)))]))
      refine Go.st (fun _ k => XS.ifNo X0.here hx rfl (hb hby at_28) rfl ((if0 _ _).trans (feq hc3).1) k) ?_
      show Go p e below _ (s₁.setTop (mkF m 31 #[.val (.long q0), .second, .val (.long q1), .second, .val (.long q2), .second, .val (.int p3), .val (.int v1), .val (.long q0), .second, .unset, .unset, .unset, .unset, .unset, .unset, .unset] []))
      refine Go.st (fun _ k => X0.ldc2Long hx hown (mvT hZ (hw _ (List.mem_of_getElem? (i := 34) rfl))) (g := (mkF m 31 #[.val (.long q0), .second, .val (.long q1), .second, .val (.long q2), .second, .val (.int p3), .val (.int v1), .val (.long q0), .second, .unset, .unset, .unset, .unset, .unset, .unset, .unset] [])) rfl (hb hby at_31) _ k) ?_
      show Go p e below _ (s₁.setTop (mkF m 34 #[.val (.long q0), .second, .val (.long q1), .second, .val (.long q2), .second, .val (.int p3), .val (.int v1), .val (.long q0), .second, .unset, .unset, .unset, .unset, .unset, .unset, .unset] [(.long (9223372036854775807 : Int64))]))
      refine Go.st (fun _ k => XS.goto X0.here hx rfl (pc0 := 34) (pc' := 38) rfl (hb hby at_34) (by decide) (by decide) k) ?_
      show Go p e below _ (s₁.setTop (mkF m 38 #[.val (.long q0), .second, .val (.long q1), .second, .val (.long q2), .second, .val (.int p3), .val (.int v1), .val (.long q0), .second, .unset, .unset, .unset, .unset, .unset, .unset, .unset] [(.long (9223372036854775807 : Int64))]))
      refine Go.st (fun _ k => XS.lstore X0.here hx rfl (hb hby at_38) rfl (l' := #[.val (.long q0), .second, .val (.long q1), .second, .val (.long q2), .second, .val (.int p3), .val (.int v1), .val (.long q0), .second, .val (.long (9223372036854775807 : Int64)), .second, .unset, .unset, .unset, .unset, .unset]) rfl k) ?_
      show Go p e below _ (s₁.setTop (mkF m 40 #[.val (.long q0), .second, .val (.long q1), .second, .val (.long q2), .second, .val (.int p3), .val (.int v1), .val (.long q0), .second, .val (.long (9223372036854775807 : Int64)), .second, .unset, .unset, .unset, .unset, .unset] []))
      refine Go.st (fun _ k => XS.iload X0.here hx rfl (hb hby at_40) rfl k) ?_
      show Go p e below _ (s₁.setTop (mkF m 42 #[.val (.long q0), .second, .val (.long q1), .second, .val (.long q2), .second, .val (.int p3), .val (.int v1), .val (.long q0), .second, .val (.long (9223372036854775807 : Int64)), .second, .unset, .unset, .unset, .unset, .unset] [(.int p3)]))
      refine Go.st (fun _ k => XS.bipush X0.here hx rfl (hb hby at_42) k) ?_
      show Go p e below _ (s₁.setTop (mkF m 44 #[.val (.long q0), .second, .val (.long q1), .second, .val (.long q2), .second, .val (.int p3), .val (.int v1), .val (.long q0), .second, .val (.long (9223372036854775807 : Int64)), .second, .unset, .unset, .unset, .unset, .unset] [(.int (7 : Int32)), (.int p3)]))
      refine Go.st (fun _ k => XS.iand X0.here hx rfl (hb hby at_44) rfl k) ?_
      show Go p e below _ (s₁.setTop (mkF m 45 #[.val (.long q0), .second, .val (.long q1), .second, .val (.long q2), .second, .val (.int p3), .val (.int v1), .val (.long q0), .second, .val (.long (9223372036854775807 : Int64)), .second, .unset, .unset, .unset, .unset, .unset] [(.int (p3 &&& (7 : Int32)))]))
      refine Go.st (fun _ k => XS.lload X0.here hx rfl (hb hby at_45) rfl k) ?_
      show Go p e below _ (s₁.setTop (mkF m 47 #[.val (.long q0), .second, .val (.long q1), .second, .val (.long q2), .second, .val (.int p3), .val (.int v1), .val (.long q0), .second, .val (.long (9223372036854775807 : Int64)), .second, .unset, .unset, .unset, .unset, .unset] [(.long q0), (.int (p3 &&& (7 : Int32)))]))
      refine Go.st (fun _ k => XS.lload X0.here hx rfl (hb hby at_47) rfl k) ?_
      show Go p e below _ (s₁.setTop (mkF m 49 #[.val (.long q0), .second, .val (.long q1), .second, .val (.long q2), .second, .val (.int p3), .val (.int v1), .val (.long q0), .second, .val (.long (9223372036854775807 : Int64)), .second, .unset, .unset, .unset, .unset, .unset] [(.long (9223372036854775807 : Int64)), (.long q0), (.int (p3 &&& (7 : Int32)))]))
      refine Go.st (fun _ k => XS.lload X0.here hx rfl (hb hby at_49) rfl k) ?_
      show Go p e below _ (s₁.setTop (mkF m 51 #[.val (.long q0), .second, .val (.long q1), .second, .val (.long q2), .second, .val (.int p3), .val (.int v1), .val (.long q0), .second, .val (.long (9223372036854775807 : Int64)), .second, .unset, .unset, .unset, .unset, .unset] [(.long q2), (.long (9223372036854775807 : Int64)), (.long q0), (.int (p3 &&& (7 : Int32)))]))
      obtain ⟨_, _, ⟨T13, L13, k13, n13⟩, -, X13, ⟨Lc13, hQ13, l13, y13, z13⟩, st13⟩ := Jvm.LawKit.callS X0 hx (y := (⟨"com/example/sortition/sortition/partition/TokenRangeContainsPinLaw", "pick", "(IJJJ)J"⟩ : MethodName)) hown (mvT hZ (hw _ (List.mem_of_getElem? (i := 0) rfl))) (mvT hZ (hw _ (List.mem_of_getElem? (i := 1) rfl))) (mvT hZ (hw _ (List.mem_of_getElem? (i := 2) rfl))) (mvT hZ (hw _ (List.mem_of_getElem? (i := 3) rfl))) (by decide) (backOf (W := 0) (rm1 l Z aZ hw [] (p3 &&& (7 : Int32)) q0 (9223372036854775807 : Int64) q2 h0 n0 ) hZ (hw _ (List.mem_of_getElem? (i := 3) rfl)) (hw _ (List.mem_of_getElem? (i := 2) rfl)) (by decide) (by decide)) (g := (mkF m 51 #[.val (.long q0), .second, .val (.long q1), .second, .val (.long q2), .second, .val (.int p3), .val (.int v1), .val (.long q0), .second, .val (.long (9223372036854775807 : Int64)), .second, .unset, .unset, .unset, .unset, .unset] [(.long q2), (.long (9223372036854775807 : Int64)), (.long q0), (.int (p3 &&& (7 : Int32)))])) rfl (by rw [hml]; rfl) (argsL := [(.int (p3 &&& (7 : Int32))), (.long q0), (.long (9223372036854775807 : Int64)), (.long q2)]) (rest := []) (lenOf pd119675ca rfl) rfl (by show 2 * 0 + _ ≤ _; exact Nat.le_of_eq rfl) (hb hby at_51) (fun _ _ => ⟨rfl, e0, (by decide : 0 + 0 ≤ _), (by decide : 0 + 0 ≤ _)⟩)
      dsimp only [Pt.U, Pt.locs, Pt.cells, Pt.slots] at X13 l13 y13 z13 st13 hQ13
      subst l13 y13 z13
      obtain ⟨rfl, N13q, e13⟩ := hQ13
      have N13 := Fr.app N0 N13q
      refine Go.st (fun _ k => st13 _ k) ?_
      show Go p e below _ (T13.setTop (mkF m 54 #[.val (.long q0), .second, .val (.long q1), .second, .val (.long q2), .second, .val (.int p3), .val (.int v1), .val (.long q0), .second, .val (.long (9223372036854775807 : Int64)), .second, .unset, .unset, .unset, .unset, .unset] [(.long (fPick (p3 &&& (7 : Int32)) q0 (9223372036854775807 : Int64) q2))]))
      generalize hv14 : (fPick (p3 &&& (7 : Int32)) q0 (9223372036854775807 : Int64) q2) = v14
      refine Go.st (fun _ k => XS.lstore X13.here hx rfl (hb hby at_54) rfl (l' := #[.val (.long q0), .second, .val (.long q1), .second, .val (.long q2), .second, .val (.int p3), .val (.int v1), .val (.long q0), .second, .val (.long (9223372036854775807 : Int64)), .second, .val (.long v14), .second, .unset, .unset, .unset]) rfl k) ?_
      show Go p e below _ (T13.setTop (mkF m 56 #[.val (.long q0), .second, .val (.long q1), .second, .val (.long q2), .second, .val (.int p3), .val (.int v1), .val (.long q0), .second, .val (.long (9223372036854775807 : Int64)), .second, .val (.long v14), .second, .unset, .unset, .unset] []))
      obtain ⟨T15, h15, X15, e15, E15, A15, D15, -, st15⟩ := newO X13 hx hZ hown (hw _ (List.mem_of_getElem? (i := 4) rfl)) (hw _ (List.mem_of_getElem? (i := 5) rfl)) (hw _ (List.mem_of_getElem? (i := 6) rfl)) e13 (g := (mkF m 56 #[.val (.long q0), .second, .val (.long q1), .second, .val (.long q2), .second, .val (.int p3), .val (.int v1), .val (.long q0), .second, .val (.long (9223372036854775807 : Int64)), .second, .val (.long v14), .second, .unset, .unset, .unset] [])) rfl (hb hby at_56) (by decide) (by decide)
      obtain ⟨b15, g15⟩ : ∃ z, z = h0.size := ⟨_, rfl⟩
      have gg15 : n0 ≤ b15 := Nat.le_trans Z0 (Nat.le_of_eq g15.symm)
      rw [← g15] at A15 D15 st15
      have Z15 : n0 ≤ h15.size := Nat.le_trans Z0 E15.1
      have F15_new_first : Fld Z h15 b15 "com/example/sortition/sortition/partition/TokenRange" "first" "J" (.long (0 : Int64)) := D15 (Or.inr (hw _ (List.mem_of_getElem? (i := 19) rfl))) (ty := .long) (by decide)
      have F15_new_last : Fld Z h15 b15 "com/example/sortition/sortition/partition/TokenRange" "last" "J" (.long (0 : Int64)) := D15 (Or.inr (hw _ (List.mem_of_getElem? (i := 21) rfl))) (ty := .long) (by decide)
      refine Go.st (fun _ k => st15 _ k) ?_
      show Go p e below _ (T15.setTop (mkF m 59 #[.val (.long q0), .second, .val (.long q1), .second, .val (.long q2), .second, .val (.int p3), .val (.int v1), .val (.long q0), .second, .val (.long (9223372036854775807 : Int64)), .second, .val (.long v14), .second, .unset, .unset, .unset] [(.ref b15)]))
      refine Go.st (fun _ k => XS.dup X15.here hx rfl (hb hby at_59) rfl rfl k) ?_
      show Go p e below _ (T15.setTop (mkF m 60 #[.val (.long q0), .second, .val (.long q1), .second, .val (.long q2), .second, .val (.int p3), .val (.int v1), .val (.long q0), .second, .val (.long (9223372036854775807 : Int64)), .second, .val (.long v14), .second, .unset, .unset, .unset] [(.ref b15), (.ref b15)]))
      refine Go.st (fun _ k => XS.lload X15.here hx rfl (hb hby at_60) rfl k) ?_
      show Go p e below _ (T15.setTop (mkF m 62 #[.val (.long q0), .second, .val (.long q1), .second, .val (.long q2), .second, .val (.int p3), .val (.int v1), .val (.long q0), .second, .val (.long (9223372036854775807 : Int64)), .second, .val (.long v14), .second, .unset, .unset, .unset] [(.long q0), (.ref b15), (.ref b15)]))
      refine Go.st (fun _ k => XS.lload X15.here hx rfl (hb hby at_62) rfl k) ?_
      show Go p e below _ (T15.setTop (mkF m 64 #[.val (.long q0), .second, .val (.long q1), .second, .val (.long q2), .second, .val (.int p3), .val (.int v1), .val (.long q0), .second, .val (.long (9223372036854775807 : Int64)), .second, .val (.long v14), .second, .unset, .unset, .unset] [(.long (9223372036854775807 : Int64)), (.long q0), (.ref b15), (.ref b15)]))
      obtain ⟨_, _, ⟨T16, L16, k16, n16⟩, -, X16, ⟨Lc16, hQ16, l16, y16, z16⟩, st16⟩ := X15.specialBack hx (y := (⟨"com/example/sortition/sortition/partition/TokenRange", "<init>", "(JJ)V"⟩ : MethodName)) rfl hown (mvT hZ (hw _ (List.mem_of_getElem? (i := 7) rfl))) (mvT hZ (hw _ (List.mem_of_getElem? (i := 8) rfl))) (mvT hZ (hw _ (List.mem_of_getElem? (i := 9) rfl))) (by decide) (backOf (W := 1) (rm2 l Z aZ hw [] b15 q0 (9223372036854775807 : Int64) h15 n0 Z15 gg15 A15 F15_new_first F15_new_last) hZ (hw _ (List.mem_of_getElem? (i := 9) rfl)) (hw _ (List.mem_of_getElem? (i := 6) rfl)) (by decide) (by decide)) (g := (mkF m 64 #[.val (.long q0), .second, .val (.long q1), .second, .val (.long q2), .second, .val (.int p3), .val (.int v1), .val (.long q0), .second, .val (.long (9223372036854775807 : Int64)), .second, .val (.long v14), .second, .unset, .unset, .unset] [(.long (9223372036854775807 : Int64)), (.long q0), (.ref b15), (.ref b15)])) rfl (by rw [hml]; rfl) (Steps.refl _) (a := b15) (argsL := [(.long q0), (.long (9223372036854775807 : Int64))]) (rest := [(.ref b15)]) (lenOf pdc8226161 rfl) rfl (by show 2 * 0 + _ ≤ _; exact Nat.le_of_eq rfl) (hb hby at_64) (fun _ _ => ⟨rfl, e15, (by decide : 1 + 0 ≤ _), (by decide : 2 + 0 ≤ _)⟩)
      dsimp only [Pt.U, Pt.locs, Pt.cells, Pt.slots] at X16 l16 y16 z16 st16 hQ16
      subst l16 y16 z16
      obtain ⟨rfl, N16q, K16q, E16q, Fc16_0, Fc16_1⟩ := hQ16
      have N16 := Fr.app N13 N16q
      have F16_E_b15 := A15.keep K16q
      have Zc16 : n0 ≤ T16.heap.size := Nat.le_trans Z15 K16q.1
      refine Go.st (fun _ k => st16.trans k) ?_
      show Go p e below _ (T16.setTop (mkF m 67 #[.val (.long q0), .second, .val (.long q1), .second, .val (.long q2), .second, .val (.int p3), .val (.int v1), .val (.long q0), .second, .val (.long (9223372036854775807 : Int64)), .second, .val (.long v14), .second, .unset, .unset, .unset] [(.ref b15)]))
      refine Go.st (fun _ k => XS.astore X16.here hx rfl (hb hby at_67) rfl rfl (l' := #[.val (.long q0), .second, .val (.long q1), .second, .val (.long q2), .second, .val (.int p3), .val (.int v1), .val (.long q0), .second, .val (.long (9223372036854775807 : Int64)), .second, .val (.long v14), .second, .val (.ref b15), .unset, .unset]) rfl k) ?_
      show Go p e below _ (T16.setTop (mkF m 69 #[.val (.long q0), .second, .val (.long q1), .second, .val (.long q2), .second, .val (.int p3), .val (.int v1), .val (.long q0), .second, .val (.long (9223372036854775807 : Int64)), .second, .val (.long v14), .second, .val (.ref b15), .unset, .unset] []))
      refine Go.st (fun _ k => XS.aload X16.here hx rfl (hb hby at_69) rfl rfl k) ?_
      show Go p e below _ (T16.setTop (mkF m 71 #[.val (.long q0), .second, .val (.long q1), .second, .val (.long q2), .second, .val (.int p3), .val (.int v1), .val (.long q0), .second, .val (.long (9223372036854775807 : Int64)), .second, .val (.long v14), .second, .val (.ref b15), .unset, .unset] [(.ref b15)]))
      refine Go.st (fun _ k => XS.lload X16.here hx rfl (hb hby at_71) rfl k) ?_
      show Go p e below _ (T16.setTop (mkF m 73 #[.val (.long q0), .second, .val (.long q1), .second, .val (.long q2), .second, .val (.int p3), .val (.int v1), .val (.long q0), .second, .val (.long (9223372036854775807 : Int64)), .second, .val (.long v14), .second, .val (.ref b15), .unset, .unset] [(.long v14), (.ref b15)]))
      obtain ⟨cq17, kq17, q17a, q17b, q17c⟩ := isOf hZ rfl F16_E_b15
      obtain ⟨_, _, ⟨T17, L17, k17, n17⟩, -, X17, ⟨Lc17, hQ17, l17, y17, z17⟩, st17⟩ := X16.virtualBack hx (y := (⟨"com/example/sortition/sortition/partition/TokenRange", "contains", "(J)Z"⟩ : MethodName)) (z := (⟨"com/example/sortition/sortition/partition/TokenRange", "contains", "(J)Z"⟩ : MethodName)) hown (mvT hZ (hw _ (List.mem_of_getElem? (i := 22) rfl))) (mvT hZ (hw _ (List.mem_of_getElem? (i := 23) rfl))) (notFace_of_selects (args := #[]) (mvT hZ (hw _ (List.mem_of_getElem? (i := 25) rfl)))) (mvT hZ (hw _ (List.mem_of_getElem? (i := 25) rfl))) (mvT hZ (hw _ (List.mem_of_getElem? (i := 24) rfl))) (by decide) (backOf (W := 0) (rm5 l Z aZ hw [] b15 v14 q0 (9223372036854775807 : Int64) T16.heap n0 Fc16_0 Fc16_1) hZ (hw _ (List.mem_of_getElem? (i := 26) rfl)) (hw _ (List.mem_of_getElem? (i := 6) rfl)) (by decide) (by decide)) q17a q17c (g := (mkF m 73 #[.val (.long q0), .second, .val (.long q1), .second, .val (.long q2), .second, .val (.int p3), .val (.int v1), .val (.long q0), .second, .val (.long (9223372036854775807 : Int64)), .second, .val (.long v14), .second, .val (.ref b15), .unset, .unset] [(.long v14), (.ref b15)])) rfl (by rw [hml]; rfl) (Steps.refl _) (argsL := [(.long v14)]) (rest := []) (lenOf pd56f9627 rfl) rfl (by show 2 * 0 + _ ≤ _; exact Nat.le_of_eq rfl) (hb hby at_73) (fun _ _ => ⟨rfl, rfl, (by decide : 1 + 0 ≤ _), (by decide : 2 + 0 ≤ _)⟩)
      dsimp only [Pt.U, Pt.locs, Pt.cells, Pt.slots] at X17 l17 y17 z17 st17 hQ17
      subst l17 y17 z17
      obtain ⟨rfl, N17q, e17⟩ := hQ17
      have N17 := Fr.app N16 N17q
      refine Go.st (fun _ k => st17.trans k) ?_
      show Go p e below _ (T17.setTop (mkF m 76 #[.val (.long q0), .second, .val (.long q1), .second, .val (.long q2), .second, .val (.int p3), .val (.int v1), .val (.long q0), .second, .val (.long (9223372036854775807 : Int64)), .second, .val (.long v14), .second, .val (.ref b15), .unset, .unset] [(.int (fHolds v14 q0 (9223372036854775807 : Int64)))]))
      generalize hv18 : (fHolds v14 q0 (9223372036854775807 : Int64)) = v18
      refine Go.st (fun _ k => XS.istore X17.here hx rfl (hb hby at_76) rfl (l' := #[.val (.long q0), .second, .val (.long q1), .second, .val (.long q2), .second, .val (.int p3), .val (.int v1), .val (.long q0), .second, .val (.long (9223372036854775807 : Int64)), .second, .val (.long v14), .second, .val (.ref b15), .val (.int v18), .unset]) rfl k) ?_
      show Go p e below _ (T17.setTop (mkF m 78 #[.val (.long q0), .second, .val (.long q1), .second, .val (.long q2), .second, .val (.int p3), .val (.int v1), .val (.long q0), .second, .val (.long (9223372036854775807 : Int64)), .second, .val (.long v14), .second, .val (.ref b15), .val (.int v18), .unset] []))
      refine Go.st (fun _ k => XS.lload X17.here hx rfl (hb hby at_78) rfl k) ?_
      show Go p e below _ (T17.setTop (mkF m 80 #[.val (.long q0), .second, .val (.long q1), .second, .val (.long q2), .second, .val (.int p3), .val (.int v1), .val (.long q0), .second, .val (.long (9223372036854775807 : Int64)), .second, .val (.long v14), .second, .val (.ref b15), .val (.int v18), .unset] [(.long q0)]))
      refine Go.st (fun _ k => XS.lload X17.here hx rfl (hb hby at_80) rfl k) ?_
      show Go p e below _ (T17.setTop (mkF m 82 #[.val (.long q0), .second, .val (.long q1), .second, .val (.long q2), .second, .val (.int p3), .val (.int v1), .val (.long q0), .second, .val (.long (9223372036854775807 : Int64)), .second, .val (.long v14), .second, .val (.ref b15), .val (.int v18), .unset] [(.long (9223372036854775807 : Int64)), (.long q0)]))
      refine Go.st (fun _ k => XS.lcmp X17.here hx rfl (hb hby at_82) rfl k) ?_
      show Go p e below _ (T17.setTop (mkF m 83 #[.val (.long q0), .second, .val (.long q1), .second, .val (.long q2), .second, .val (.int p3), .val (.int v1), .val (.long q0), .second, .val (.long (9223372036854775807 : Int64)), .second, .val (.long v14), .second, .val (.ref b15), .val (.int v18), .unset] [(.int (lcmpW q0 (9223372036854775807 : Int64)))]))
      by_cases hc19 : (9223372036854775807 : Int64) < q0
      · show Go p e below _ (T17.setTop (mkF m 83 #[.val (.long q0), .second, .val (.long q1), .second, .val (.long q2), .second, .val (.int p3), .val (.int v1), .val (.long q0), .second, .val (.long (9223372036854775807 : Int64)), .second, .val (.long v14), .second, .val (.ref b15), .val (.int v18), .unset] [(.int (lcmpW q0 (9223372036854775807 : Int64)))]))
        refine Go.st (fun _ k => XS.ifYes X17.here hx rfl (pc0 := 83) (pc' := 108) rfl (hb hby at_83) rfl ((if0 _ _).trans (tlt ((lw_gt _ _).mpr hc19)).2.2.1) (by decide) (by decide) k) ?_
        show Go p e below _ (T17.setTop (mkF m 108 #[.val (.long q0), .second, .val (.long q1), .second, .val (.long q2), .second, .val (.int p3), .val (.int v1), .val (.long q0), .second, .val (.long (9223372036854775807 : Int64)), .second, .val (.long v14), .second, .val (.ref b15), .val (.int v18), .unset] []))
        refine Go.st (fun _ k => XS.iconst X17.here hx rfl (hb hby at_108) k) ?_
        show Go p e below _ (T17.setTop (mkF m 109 #[.val (.long q0), .second, .val (.long q1), .second, .val (.long q2), .second, .val (.int p3), .val (.int v1), .val (.long q0), .second, .val (.long (9223372036854775807 : Int64)), .second, .val (.long v14), .second, .val (.ref b15), .val (.int v18), .unset] [(.int (0 : Int32))]))
        refine Go.st (fun _ k => XS.istore X17.here hx rfl (hb hby at_109) rfl (l' := #[.val (.long q0), .second, .val (.long q1), .second, .val (.long q2), .second, .val (.int p3), .val (.int v1), .val (.long q0), .second, .val (.long (9223372036854775807 : Int64)), .second, .val (.long v14), .second, .val (.ref b15), .val (.int v18), .val (.int (0 : Int32))]) rfl k) ?_
        show Go p e below _ (T17.setTop (mkF m 111 #[.val (.long q0), .second, .val (.long q1), .second, .val (.long q2), .second, .val (.int p3), .val (.int v1), .val (.long q0), .second, .val (.long (9223372036854775807 : Int64)), .second, .val (.long v14), .second, .val (.ref b15), .val (.int v18), .val (.int (0 : Int32))] []))
        refine Go.st (fun _ k => XS.iload X17.here hx rfl (hb hby at_111) rfl k) ?_
        show Go p e below _ (T17.setTop (mkF m 113 #[.val (.long q0), .second, .val (.long q1), .second, .val (.long q2), .second, .val (.int p3), .val (.int v1), .val (.long q0), .second, .val (.long (9223372036854775807 : Int64)), .second, .val (.long v14), .second, .val (.ref b15), .val (.int v18), .val (.int (0 : Int32))] [(.int v18)]))
        refine Go.st (fun _ k => XS.iload X17.here hx rfl (hb hby at_113) rfl k) ?_
        show Go p e below _ (T17.setTop (mkF m 115 #[.val (.long q0), .second, .val (.long q1), .second, .val (.long q2), .second, .val (.int p3), .val (.int v1), .val (.long q0), .second, .val (.long (9223372036854775807 : Int64)), .second, .val (.long v14), .second, .val (.ref b15), .val (.int v18), .val (.int (0 : Int32))] [(.int (0 : Int32)), (.int v18)]))
        refine Go.st (fun _ k => XS.icmpNo X17.here hx rfl (hb hby at_115) rfl (teq (hv18.symm.trans (own_not hc19 _))).2 k) ?_
        show Go p e below _ (T17.setTop (mkF m 118 #[.val (.long q0), .second, .val (.long q1), .second, .val (.long q2), .second, .val (.int p3), .val (.int v1), .val (.long q0), .second, .val (.long (9223372036854775807 : Int64)), .second, .val (.long v14), .second, .val (.ref b15), .val (.int v18), .val (.int (0 : Int32))] []))
        refine Go.st (fun _ k => XS.iconst X17.here hx rfl (hb hby at_118) k) ?_
        show Go p e below _ (T17.setTop (mkF m 119 #[.val (.long q0), .second, .val (.long q1), .second, .val (.long q2), .second, .val (.int p3), .val (.int v1), .val (.long q0), .second, .val (.long (9223372036854775807 : Int64)), .second, .val (.long v14), .second, .val (.ref b15), .val (.int v18), .val (.int (0 : Int32))] [(.int (1 : Int32))]))
        refine Go.st (fun _ k => XS.goto X17.here hx rfl (pc0 := 119) (pc' := 123) rfl (hb hby at_119) (by decide) (by decide) k) ?_
        show Go p e below _ (T17.setTop (mkF m 123 #[.val (.long q0), .second, .val (.long q1), .second, .val (.long q2), .second, .val (.int p3), .val (.int v1), .val (.long q0), .second, .val (.long (9223372036854775807 : Int64)), .second, .val (.long v14), .second, .val (.ref b15), .val (.int v18), .val (.int (0 : Int32))] [(.int (1 : Int32))]))
        obtain ⟨fs, hr, hrun, hended, hW, hsame⟩ := X17.leave (v := some (.int (1 : Int32))) (fun h => by rw [Bd.returns] at h; cases h)
        refine ⟨_, _, retN X17 hx (t := .boolean) Bd.returns (by simp) (hb hby at_123) hr, hrun, hended, _, _, rfl, ?_, ⟨_, rfl⟩, hW, hsame.mono (by decide) (by decide)⟩
        show Q_rm0 Z q0 q1 q2 p3 h0 n0 _ T17.heap _
        rw [e17]
        exact ⟨rfl, N17⟩
      · show Go p e below _ (T17.setTop (mkF m 83 #[.val (.long q0), .second, .val (.long q1), .second, .val (.long q2), .second, .val (.int p3), .val (.int v1), .val (.long q0), .second, .val (.long (9223372036854775807 : Int64)), .second, .val (.long v14), .second, .val (.ref b15), .val (.int v18), .unset] [(.int (lcmpW q0 (9223372036854775807 : Int64)))]))
        refine Go.st (fun _ k => XS.ifNo X17.here hx rfl (hb hby at_83) rfl ((if0 _ _).trans (flt (fun z => hc19 ((lw_gt _ _).mp z))).2.2.1) k) ?_
        show Go p e below _ (T17.setTop (mkF m 86 #[.val (.long q0), .second, .val (.long q1), .second, .val (.long q2), .second, .val (.int p3), .val (.int v1), .val (.long q0), .second, .val (.long (9223372036854775807 : Int64)), .second, .val (.long v14), .second, .val (.ref b15), .val (.int v18), .unset] []))
        refine Go.st (fun _ k => XS.lload X17.here hx rfl (hb hby at_86) rfl k) ?_
        show Go p e below _ (T17.setTop (mkF m 88 #[.val (.long q0), .second, .val (.long q1), .second, .val (.long q2), .second, .val (.int p3), .val (.int v1), .val (.long q0), .second, .val (.long (9223372036854775807 : Int64)), .second, .val (.long v14), .second, .val (.ref b15), .val (.int v18), .unset] [(.long q0)]))
        refine Go.st (fun _ k => XS.lload X17.here hx rfl (hb hby at_88) rfl k) ?_
        show Go p e below _ (T17.setTop (mkF m 90 #[.val (.long q0), .second, .val (.long q1), .second, .val (.long q2), .second, .val (.int p3), .val (.int v1), .val (.long q0), .second, .val (.long (9223372036854775807 : Int64)), .second, .val (.long v14), .second, .val (.ref b15), .val (.int v18), .unset] [(.long v14), (.long q0)]))
        refine Go.st (fun _ k => XS.lload X17.here hx rfl (hb hby at_90) rfl k) ?_
        show Go p e below _ (T17.setTop (mkF m 92 #[.val (.long q0), .second, .val (.long q1), .second, .val (.long q2), .second, .val (.int p3), .val (.int v1), .val (.long q0), .second, .val (.long (9223372036854775807 : Int64)), .second, .val (.long v14), .second, .val (.ref b15), .val (.int v18), .unset] [(.long (9223372036854775807 : Int64)), (.long v14), (.long q0)]))
        obtain ⟨_, _, ⟨T20, L20, k20, n20⟩, -, X20, ⟨Lc20, hQ20, l20, y20, z20⟩, st20⟩ := Jvm.LawKit.callS X17 hx (y := (⟨"java/lang/Math", "min", "(JJ)J"⟩ : MethodName)) hown (mvT hZ (hw _ (List.mem_of_getElem? (i := 27) rfl))) (mvT hZ (hw _ (List.mem_of_getElem? (i := 28) rfl))) (mvT hZ (hw _ (List.mem_of_getElem? (i := 29) rfl))) (mvT hZ (hw _ (List.mem_of_getElem? (i := 30) rfl))) (by decide) (backOf (W := 2) (rm6 l Z aZ hw [] v14 (9223372036854775807 : Int64) T16.heap n0 ) hZ (hw _ (List.mem_of_getElem? (i := 30) rfl)) (hw _ (List.mem_of_getElem? (i := 29) rfl)) (by decide) (by decide)) (g := (mkF m 92 #[.val (.long q0), .second, .val (.long q1), .second, .val (.long q2), .second, .val (.int p3), .val (.int v1), .val (.long q0), .second, .val (.long (9223372036854775807 : Int64)), .second, .val (.long v14), .second, .val (.ref b15), .val (.int v18), .unset] [(.long (9223372036854775807 : Int64)), (.long v14), (.long q0)])) rfl (by rw [hml]; rfl) (argsL := [(.long v14), (.long (9223372036854775807 : Int64))]) (rest := [(.long q0)]) (lenOf pdc8226155 rfl) rfl (by show 2 * 0 + _ ≤ _; exact Nat.le_of_eq rfl) (hb hby at_92) (fun _ _ => ⟨rfl, e17, (by decide : 1 + 0 ≤ _), (by decide : 2 + 0 ≤ _)⟩)
        dsimp only [Pt.U, Pt.locs, Pt.cells, Pt.slots] at X20 l20 y20 z20 st20 hQ20
        subst l20 y20 z20
        obtain ⟨rfl, N20q, e20⟩ := hQ20
        have N20 := Fr.app N17 N20q
        refine Go.st (fun _ k => st20 _ k) ?_
        show Go p e below _ (T20.setTop (mkF m 95 #[.val (.long q0), .second, .val (.long q1), .second, .val (.long q2), .second, .val (.int p3), .val (.int v1), .val (.long q0), .second, .val (.long (9223372036854775807 : Int64)), .second, .val (.long v14), .second, .val (.ref b15), .val (.int v18), .unset] [(.long (fMin v14 (9223372036854775807 : Int64))), (.long q0)]))
        obtain ⟨_, _, ⟨T21, L21, k21, n21⟩, -, X21, ⟨Lc21, hQ21, l21, y21, z21⟩, st21⟩ := Jvm.LawKit.callS X20 hx (y := (⟨"java/lang/Math", "max", "(JJ)J"⟩ : MethodName)) hown (mvT hZ (hw _ (List.mem_of_getElem? (i := 31) rfl))) (mvT hZ (hw _ (List.mem_of_getElem? (i := 32) rfl))) (mvT hZ (hw _ (List.mem_of_getElem? (i := 29) rfl))) (mvT hZ (hw _ (List.mem_of_getElem? (i := 33) rfl))) (by decide) (backOf (W := 0) (rm7 l Z aZ hw [] q0 (fMin v14 (9223372036854775807 : Int64)) T16.heap n0 ) hZ (hw _ (List.mem_of_getElem? (i := 33) rfl)) (hw _ (List.mem_of_getElem? (i := 29) rfl)) (by decide) (by decide)) (g := (mkF m 95 #[.val (.long q0), .second, .val (.long q1), .second, .val (.long q2), .second, .val (.int p3), .val (.int v1), .val (.long q0), .second, .val (.long (9223372036854775807 : Int64)), .second, .val (.long v14), .second, .val (.ref b15), .val (.int v18), .unset] [(.long (fMin v14 (9223372036854775807 : Int64))), (.long q0)])) rfl (by rw [hml]; rfl) (argsL := [(.long q0), (.long (fMin v14 (9223372036854775807 : Int64)))]) (rest := []) (lenOf pdc8226155 rfl) rfl (by show 2 * 0 + _ ≤ _; exact Nat.le_of_eq rfl) (hb hby at_95) (fun _ _ => ⟨rfl, e20, (by decide : 1 + 0 ≤ _), (by decide : 2 + 0 ≤ _)⟩)
        dsimp only [Pt.U, Pt.locs, Pt.cells, Pt.slots] at X21 l21 y21 z21 st21 hQ21
        subst l21 y21 z21
        obtain ⟨rfl, N21q, e21⟩ := hQ21
        have N21 := Fr.app N20 N21q
        refine Go.st (fun _ k => st21 _ k) ?_
        show Go p e below _ (T21.setTop (mkF m 98 #[.val (.long q0), .second, .val (.long q1), .second, .val (.long q2), .second, .val (.int p3), .val (.int v1), .val (.long q0), .second, .val (.long (9223372036854775807 : Int64)), .second, .val (.long v14), .second, .val (.ref b15), .val (.int v18), .unset] [(.long (fMax q0 (fMin v14 (9223372036854775807 : Int64))))]))
        refine Go.st (fun _ k => XS.lload X21.here hx rfl (hb hby at_98) rfl k) ?_
        show Go p e below _ (T21.setTop (mkF m 100 #[.val (.long q0), .second, .val (.long q1), .second, .val (.long q2), .second, .val (.int p3), .val (.int v1), .val (.long q0), .second, .val (.long (9223372036854775807 : Int64)), .second, .val (.long v14), .second, .val (.ref b15), .val (.int v18), .unset] [(.long v14), (.long (fMax q0 (fMin v14 (9223372036854775807 : Int64))))]))
        refine Go.st (fun _ k => XS.lcmp X21.here hx rfl (hb hby at_100) rfl k) ?_
        show Go p e below _ (T21.setTop (mkF m 101 #[.val (.long q0), .second, .val (.long q1), .second, .val (.long q2), .second, .val (.int p3), .val (.int v1), .val (.long q0), .second, .val (.long (9223372036854775807 : Int64)), .second, .val (.long v14), .second, .val (.ref b15), .val (.int v18), .unset] [(.int (lcmpW (fMax q0 (fMin v14 (9223372036854775807 : Int64))) v14))]))
        by_cases hc22 : (fMax q0 (fMin v14 (9223372036854775807 : Int64))) = v14
        · show Go p e below _ (T21.setTop (mkF m 101 #[.val (.long q0), .second, .val (.long q1), .second, .val (.long q2), .second, .val (.int p3), .val (.int v1), .val (.long q0), .second, .val (.long (9223372036854775807 : Int64)), .second, .val (.long v14), .second, .val (.ref b15), .val (.int v18), .unset] [(.int (lcmpW (fMax q0 (fMin v14 (9223372036854775807 : Int64))) v14))]))
          refine Go.st (fun _ k => XS.ifNo X21.here hx rfl (hb hby at_101) rfl ((if0 _ _).trans (teq ((lw_eq _ _).mpr hc22)).2) k) ?_
          show Go p e below _ (T21.setTop (mkF m 104 #[.val (.long q0), .second, .val (.long q1), .second, .val (.long q2), .second, .val (.int p3), .val (.int v1), .val (.long q0), .second, .val (.long (9223372036854775807 : Int64)), .second, .val (.long v14), .second, .val (.ref b15), .val (.int v18), .unset] []))
          refine Go.st (fun _ k => XS.iconst X21.here hx rfl (hb hby at_104) k) ?_
          show Go p e below _ (T21.setTop (mkF m 105 #[.val (.long q0), .second, .val (.long q1), .second, .val (.long q2), .second, .val (.int p3), .val (.int v1), .val (.long q0), .second, .val (.long (9223372036854775807 : Int64)), .second, .val (.long v14), .second, .val (.ref b15), .val (.int v18), .unset] [(.int (1 : Int32))]))
          refine Go.st (fun _ k => XS.goto X21.here hx rfl (pc0 := 105) (pc' := 109) rfl (hb hby at_105) (by decide) (by decide) k) ?_
          show Go p e below _ (T21.setTop (mkF m 109 #[.val (.long q0), .second, .val (.long q1), .second, .val (.long q2), .second, .val (.int p3), .val (.int v1), .val (.long q0), .second, .val (.long (9223372036854775807 : Int64)), .second, .val (.long v14), .second, .val (.ref b15), .val (.int v18), .unset] [(.int (1 : Int32))]))
          refine Go.st (fun _ k => XS.istore X21.here hx rfl (hb hby at_109) rfl (l' := #[.val (.long q0), .second, .val (.long q1), .second, .val (.long q2), .second, .val (.int p3), .val (.int v1), .val (.long q0), .second, .val (.long (9223372036854775807 : Int64)), .second, .val (.long v14), .second, .val (.ref b15), .val (.int v18), .val (.int (1 : Int32))]) rfl k) ?_
          show Go p e below _ (T21.setTop (mkF m 111 #[.val (.long q0), .second, .val (.long q1), .second, .val (.long q2), .second, .val (.int p3), .val (.int v1), .val (.long q0), .second, .val (.long (9223372036854775807 : Int64)), .second, .val (.long v14), .second, .val (.ref b15), .val (.int v18), .val (.int (1 : Int32))] []))
          refine Go.st (fun _ k => XS.iload X21.here hx rfl (hb hby at_111) rfl k) ?_
          show Go p e below _ (T21.setTop (mkF m 113 #[.val (.long q0), .second, .val (.long q1), .second, .val (.long q2), .second, .val (.int p3), .val (.int v1), .val (.long q0), .second, .val (.long (9223372036854775807 : Int64)), .second, .val (.long v14), .second, .val (.ref b15), .val (.int v18), .val (.int (1 : Int32))] [(.int v18)]))
          refine Go.st (fun _ k => XS.iload X21.here hx rfl (hb hby at_113) rfl k) ?_
          show Go p e below _ (T21.setTop (mkF m 115 #[.val (.long q0), .second, .val (.long q1), .second, .val (.long q2), .second, .val (.int p3), .val (.int v1), .val (.long q0), .second, .val (.long (9223372036854775807 : Int64)), .second, .val (.long v14), .second, .val (.ref b15), .val (.int v18), .val (.int (1 : Int32))] [(.int (1 : Int32)), (.int v18)]))
          refine Go.st (fun _ k => XS.icmpNo X21.here hx rfl (hb hby at_115) rfl (teq (hv18.symm.trans (own_yes hc19 hc22))).2 k) ?_
          show Go p e below _ (T21.setTop (mkF m 118 #[.val (.long q0), .second, .val (.long q1), .second, .val (.long q2), .second, .val (.int p3), .val (.int v1), .val (.long q0), .second, .val (.long (9223372036854775807 : Int64)), .second, .val (.long v14), .second, .val (.ref b15), .val (.int v18), .val (.int (1 : Int32))] []))
          refine Go.st (fun _ k => XS.iconst X21.here hx rfl (hb hby at_118) k) ?_
          show Go p e below _ (T21.setTop (mkF m 119 #[.val (.long q0), .second, .val (.long q1), .second, .val (.long q2), .second, .val (.int p3), .val (.int v1), .val (.long q0), .second, .val (.long (9223372036854775807 : Int64)), .second, .val (.long v14), .second, .val (.ref b15), .val (.int v18), .val (.int (1 : Int32))] [(.int (1 : Int32))]))
          refine Go.st (fun _ k => XS.goto X21.here hx rfl (pc0 := 119) (pc' := 123) rfl (hb hby at_119) (by decide) (by decide) k) ?_
          show Go p e below _ (T21.setTop (mkF m 123 #[.val (.long q0), .second, .val (.long q1), .second, .val (.long q2), .second, .val (.int p3), .val (.int v1), .val (.long q0), .second, .val (.long (9223372036854775807 : Int64)), .second, .val (.long v14), .second, .val (.ref b15), .val (.int v18), .val (.int (1 : Int32))] [(.int (1 : Int32))]))
          obtain ⟨fs, hr, hrun, hended, hW, hsame⟩ := X21.leave (v := some (.int (1 : Int32))) (fun h => by rw [Bd.returns] at h; cases h)
          refine ⟨_, _, retN X21 hx (t := .boolean) Bd.returns (by simp) (hb hby at_123) hr, hrun, hended, _, _, rfl, ?_, ⟨_, rfl⟩, hW, hsame.mono (by decide) (by decide)⟩
          show Q_rm0 Z q0 q1 q2 p3 h0 n0 _ T21.heap _
          rw [e21]
          exact ⟨rfl, N21⟩
        · show Go p e below _ (T21.setTop (mkF m 101 #[.val (.long q0), .second, .val (.long q1), .second, .val (.long q2), .second, .val (.int p3), .val (.int v1), .val (.long q0), .second, .val (.long (9223372036854775807 : Int64)), .second, .val (.long v14), .second, .val (.ref b15), .val (.int v18), .unset] [(.int (lcmpW (fMax q0 (fMin v14 (9223372036854775807 : Int64))) v14))]))
          refine Go.st (fun _ k => XS.ifYes X21.here hx rfl (pc0 := 101) (pc' := 108) rfl (hb hby at_101) rfl ((if0 _ _).trans (feq (fun z => hc22 ((lw_eq _ _).mp z))).2) (by decide) (by decide) k) ?_
          show Go p e below _ (T21.setTop (mkF m 108 #[.val (.long q0), .second, .val (.long q1), .second, .val (.long q2), .second, .val (.int p3), .val (.int v1), .val (.long q0), .second, .val (.long (9223372036854775807 : Int64)), .second, .val (.long v14), .second, .val (.ref b15), .val (.int v18), .unset] []))
          refine Go.st (fun _ k => XS.iconst X21.here hx rfl (hb hby at_108) k) ?_
          show Go p e below _ (T21.setTop (mkF m 109 #[.val (.long q0), .second, .val (.long q1), .second, .val (.long q2), .second, .val (.int p3), .val (.int v1), .val (.long q0), .second, .val (.long (9223372036854775807 : Int64)), .second, .val (.long v14), .second, .val (.ref b15), .val (.int v18), .unset] [(.int (0 : Int32))]))
          refine Go.st (fun _ k => XS.istore X21.here hx rfl (hb hby at_109) rfl (l' := #[.val (.long q0), .second, .val (.long q1), .second, .val (.long q2), .second, .val (.int p3), .val (.int v1), .val (.long q0), .second, .val (.long (9223372036854775807 : Int64)), .second, .val (.long v14), .second, .val (.ref b15), .val (.int v18), .val (.int (0 : Int32))]) rfl k) ?_
          show Go p e below _ (T21.setTop (mkF m 111 #[.val (.long q0), .second, .val (.long q1), .second, .val (.long q2), .second, .val (.int p3), .val (.int v1), .val (.long q0), .second, .val (.long (9223372036854775807 : Int64)), .second, .val (.long v14), .second, .val (.ref b15), .val (.int v18), .val (.int (0 : Int32))] []))
          refine Go.st (fun _ k => XS.iload X21.here hx rfl (hb hby at_111) rfl k) ?_
          show Go p e below _ (T21.setTop (mkF m 113 #[.val (.long q0), .second, .val (.long q1), .second, .val (.long q2), .second, .val (.int p3), .val (.int v1), .val (.long q0), .second, .val (.long (9223372036854775807 : Int64)), .second, .val (.long v14), .second, .val (.ref b15), .val (.int v18), .val (.int (0 : Int32))] [(.int v18)]))
          refine Go.st (fun _ k => XS.iload X21.here hx rfl (hb hby at_113) rfl k) ?_
          show Go p e below _ (T21.setTop (mkF m 115 #[.val (.long q0), .second, .val (.long q1), .second, .val (.long q2), .second, .val (.int p3), .val (.int v1), .val (.long q0), .second, .val (.long (9223372036854775807 : Int64)), .second, .val (.long v14), .second, .val (.ref b15), .val (.int v18), .val (.int (0 : Int32))] [(.int (0 : Int32)), (.int v18)]))
          refine Go.st (fun _ k => XS.icmpNo X21.here hx rfl (hb hby at_115) rfl (teq (hv18.symm.trans (own_no hc19 hc22))).2 k) ?_
          show Go p e below _ (T21.setTop (mkF m 118 #[.val (.long q0), .second, .val (.long q1), .second, .val (.long q2), .second, .val (.int p3), .val (.int v1), .val (.long q0), .second, .val (.long (9223372036854775807 : Int64)), .second, .val (.long v14), .second, .val (.ref b15), .val (.int v18), .val (.int (0 : Int32))] []))
          refine Go.st (fun _ k => XS.iconst X21.here hx rfl (hb hby at_118) k) ?_
          show Go p e below _ (T21.setTop (mkF m 119 #[.val (.long q0), .second, .val (.long q1), .second, .val (.long q2), .second, .val (.int p3), .val (.int v1), .val (.long q0), .second, .val (.long (9223372036854775807 : Int64)), .second, .val (.long v14), .second, .val (.ref b15), .val (.int v18), .val (.int (0 : Int32))] [(.int (1 : Int32))]))
          refine Go.st (fun _ k => XS.goto X21.here hx rfl (pc0 := 119) (pc' := 123) rfl (hb hby at_119) (by decide) (by decide) k) ?_
          show Go p e below _ (T21.setTop (mkF m 123 #[.val (.long q0), .second, .val (.long q1), .second, .val (.long q2), .second, .val (.int p3), .val (.int v1), .val (.long q0), .second, .val (.long (9223372036854775807 : Int64)), .second, .val (.long v14), .second, .val (.ref b15), .val (.int v18), .val (.int (0 : Int32))] [(.int (1 : Int32))]))
          obtain ⟨fs, hr, hrun, hended, hW, hsame⟩ := X21.leave (v := some (.int (1 : Int32))) (fun h => by rw [Bd.returns] at h; cases h)
          refine ⟨_, _, retN X21 hx (t := .boolean) Bd.returns (by simp) (hb hby at_123) hr, hrun, hended, _, _, rfl, ?_, ⟨_, rfl⟩, hW, hsame.mono (by decide) (by decide)⟩
          show Q_rm0 Z q0 q1 q2 p3 h0 n0 _ T21.heap _
          rw [e21]
          exact ⟨rfl, N21⟩
  · show Go p e below _ (s₁.setTop (mkF m 12 #[.val (.long q0), .second, .val (.long q1), .second, .val (.long q2), .second, .val (.int p3), .val (.int v1), .unset, .unset, .unset, .unset, .unset, .unset, .unset, .unset, .unset] [(.int (v1 &&& (1 : Int32)))]))
    refine Go.st (fun _ k => XS.ifNo X0.here hx rfl (hb hby at_12) rfl ((if0 _ _).trans (feq hc2).1) k) ?_
    show Go p e below _ (s₁.setTop (mkF m 15 #[.val (.long q0), .second, .val (.long q1), .second, .val (.long q2), .second, .val (.int p3), .val (.int v1), .unset, .unset, .unset, .unset, .unset, .unset, .unset, .unset, .unset] []))
    refine Go.st (fun _ k => X0.ldc2Long hx hown (mvT hZ (hw _ (List.mem_of_getElem? (i := 35) rfl))) (g := (mkF m 15 #[.val (.long q0), .second, .val (.long q1), .second, .val (.long q2), .second, .val (.int p3), .val (.int v1), .unset, .unset, .unset, .unset, .unset, .unset, .unset, .unset, .unset] [])) rfl (hb hby at_15) _ k) ?_
    show Go p e below _ (s₁.setTop (mkF m 18 #[.val (.long q0), .second, .val (.long q1), .second, .val (.long q2), .second, .val (.int p3), .val (.int v1), .unset, .unset, .unset, .unset, .unset, .unset, .unset, .unset, .unset] [(.long (-9223372036854775808 : Int64))]))
    refine Go.st (fun _ k => XS.goto X0.here hx rfl (pc0 := 18) (pc' := 22) rfl (hb hby at_18) (by decide) (by decide) k) ?_
    show Go p e below _ (s₁.setTop (mkF m 22 #[.val (.long q0), .second, .val (.long q1), .second, .val (.long q2), .second, .val (.int p3), .val (.int v1), .unset, .unset, .unset, .unset, .unset, .unset, .unset, .unset, .unset] [(.long (-9223372036854775808 : Int64))]))
    refine Go.st (fun _ k => XS.lstore X0.here hx rfl (hb hby at_22) rfl (l' := #[.val (.long q0), .second, .val (.long q1), .second, .val (.long q2), .second, .val (.int p3), .val (.int v1), .val (.long (-9223372036854775808 : Int64)), .second, .unset, .unset, .unset, .unset, .unset, .unset, .unset]) rfl k) ?_
    show Go p e below _ (s₁.setTop (mkF m 24 #[.val (.long q0), .second, .val (.long q1), .second, .val (.long q2), .second, .val (.int p3), .val (.int v1), .val (.long (-9223372036854775808 : Int64)), .second, .unset, .unset, .unset, .unset, .unset, .unset, .unset] []))
    refine Go.st (fun _ k => XS.iload X0.here hx rfl (hb hby at_24) rfl k) ?_
    show Go p e below _ (s₁.setTop (mkF m 26 #[.val (.long q0), .second, .val (.long q1), .second, .val (.long q2), .second, .val (.int p3), .val (.int v1), .val (.long (-9223372036854775808 : Int64)), .second, .unset, .unset, .unset, .unset, .unset, .unset, .unset] [(.int v1)]))
    refine Go.st (fun _ k => XS.iconst X0.here hx rfl (hb hby at_26) k) ?_
    show Go p e below _ (s₁.setTop (mkF m 27 #[.val (.long q0), .second, .val (.long q1), .second, .val (.long q2), .second, .val (.int p3), .val (.int v1), .val (.long (-9223372036854775808 : Int64)), .second, .unset, .unset, .unset, .unset, .unset, .unset, .unset] [(.int (2 : Int32)), (.int v1)]))
    refine Go.st (fun _ k => XS.iand X0.here hx rfl (hb hby at_27) rfl k) ?_
    show Go p e below _ (s₁.setTop (mkF m 28 #[.val (.long q0), .second, .val (.long q1), .second, .val (.long q2), .second, .val (.int p3), .val (.int v1), .val (.long (-9223372036854775808 : Int64)), .second, .unset, .unset, .unset, .unset, .unset, .unset, .unset] [(.int (v1 &&& (2 : Int32)))]))
    by_cases hc23 : (v1 &&& (2 : Int32)) = (0 : Int32)
    · show Go p e below _ (s₁.setTop (mkF m 28 #[.val (.long q0), .second, .val (.long q1), .second, .val (.long q2), .second, .val (.int p3), .val (.int v1), .val (.long (-9223372036854775808 : Int64)), .second, .unset, .unset, .unset, .unset, .unset, .unset, .unset] [(.int (v1 &&& (2 : Int32)))]))
      refine Go.st (fun _ k => XS.ifYes X0.here hx rfl (pc0 := 28) (pc' := 37) rfl (hb hby at_28) rfl ((if0 _ _).trans (teq hc23).1) (by decide) (by decide) k) ?_
      show Go p e below _ (s₁.setTop (mkF m 37 #[.val (.long q0), .second, .val (.long q1), .second, .val (.long q2), .second, .val (.int p3), .val (.int v1), .val (.long (-9223372036854775808 : Int64)), .second, .unset, .unset, .unset, .unset, .unset, .unset, .unset] []))
      refine Go.st (fun _ k => XS.lloadN X0.here hx rfl (hb hby at_37) rfl k) ?_
      show Go p e below _ (s₁.setTop (mkF m 38 #[.val (.long q0), .second, .val (.long q1), .second, .val (.long q2), .second, .val (.int p3), .val (.int v1), .val (.long (-9223372036854775808 : Int64)), .second, .unset, .unset, .unset, .unset, .unset, .unset, .unset] [(.long q1)]))
      refine Go.st (fun _ k => XS.lstore X0.here hx rfl (hb hby at_38) rfl (l' := #[.val (.long q0), .second, .val (.long q1), .second, .val (.long q2), .second, .val (.int p3), .val (.int v1), .val (.long (-9223372036854775808 : Int64)), .second, .val (.long q1), .second, .unset, .unset, .unset, .unset, .unset]) rfl k) ?_
      show Go p e below _ (s₁.setTop (mkF m 40 #[.val (.long q0), .second, .val (.long q1), .second, .val (.long q2), .second, .val (.int p3), .val (.int v1), .val (.long (-9223372036854775808 : Int64)), .second, .val (.long q1), .second, .unset, .unset, .unset, .unset, .unset] []))
      refine Go.st (fun _ k => XS.iload X0.here hx rfl (hb hby at_40) rfl k) ?_
      show Go p e below _ (s₁.setTop (mkF m 42 #[.val (.long q0), .second, .val (.long q1), .second, .val (.long q2), .second, .val (.int p3), .val (.int v1), .val (.long (-9223372036854775808 : Int64)), .second, .val (.long q1), .second, .unset, .unset, .unset, .unset, .unset] [(.int p3)]))
      refine Go.st (fun _ k => XS.bipush X0.here hx rfl (hb hby at_42) k) ?_
      show Go p e below _ (s₁.setTop (mkF m 44 #[.val (.long q0), .second, .val (.long q1), .second, .val (.long q2), .second, .val (.int p3), .val (.int v1), .val (.long (-9223372036854775808 : Int64)), .second, .val (.long q1), .second, .unset, .unset, .unset, .unset, .unset] [(.int (7 : Int32)), (.int p3)]))
      refine Go.st (fun _ k => XS.iand X0.here hx rfl (hb hby at_44) rfl k) ?_
      show Go p e below _ (s₁.setTop (mkF m 45 #[.val (.long q0), .second, .val (.long q1), .second, .val (.long q2), .second, .val (.int p3), .val (.int v1), .val (.long (-9223372036854775808 : Int64)), .second, .val (.long q1), .second, .unset, .unset, .unset, .unset, .unset] [(.int (p3 &&& (7 : Int32)))]))
      refine Go.st (fun _ k => XS.lload X0.here hx rfl (hb hby at_45) rfl k) ?_
      show Go p e below _ (s₁.setTop (mkF m 47 #[.val (.long q0), .second, .val (.long q1), .second, .val (.long q2), .second, .val (.int p3), .val (.int v1), .val (.long (-9223372036854775808 : Int64)), .second, .val (.long q1), .second, .unset, .unset, .unset, .unset, .unset] [(.long (-9223372036854775808 : Int64)), (.int (p3 &&& (7 : Int32)))]))
      refine Go.st (fun _ k => XS.lload X0.here hx rfl (hb hby at_47) rfl k) ?_
      show Go p e below _ (s₁.setTop (mkF m 49 #[.val (.long q0), .second, .val (.long q1), .second, .val (.long q2), .second, .val (.int p3), .val (.int v1), .val (.long (-9223372036854775808 : Int64)), .second, .val (.long q1), .second, .unset, .unset, .unset, .unset, .unset] [(.long q1), (.long (-9223372036854775808 : Int64)), (.int (p3 &&& (7 : Int32)))]))
      refine Go.st (fun _ k => XS.lload X0.here hx rfl (hb hby at_49) rfl k) ?_
      show Go p e below _ (s₁.setTop (mkF m 51 #[.val (.long q0), .second, .val (.long q1), .second, .val (.long q2), .second, .val (.int p3), .val (.int v1), .val (.long (-9223372036854775808 : Int64)), .second, .val (.long q1), .second, .unset, .unset, .unset, .unset, .unset] [(.long q2), (.long q1), (.long (-9223372036854775808 : Int64)), (.int (p3 &&& (7 : Int32)))]))
      obtain ⟨_, _, ⟨T24, L24, k24, n24⟩, -, X24, ⟨Lc24, hQ24, l24, y24, z24⟩, st24⟩ := Jvm.LawKit.callS X0 hx (y := (⟨"com/example/sortition/sortition/partition/TokenRangeContainsPinLaw", "pick", "(IJJJ)J"⟩ : MethodName)) hown (mvT hZ (hw _ (List.mem_of_getElem? (i := 0) rfl))) (mvT hZ (hw _ (List.mem_of_getElem? (i := 1) rfl))) (mvT hZ (hw _ (List.mem_of_getElem? (i := 2) rfl))) (mvT hZ (hw _ (List.mem_of_getElem? (i := 3) rfl))) (by decide) (backOf (W := 0) (rm1 l Z aZ hw [] (p3 &&& (7 : Int32)) (-9223372036854775808 : Int64) q1 q2 h0 n0 ) hZ (hw _ (List.mem_of_getElem? (i := 3) rfl)) (hw _ (List.mem_of_getElem? (i := 2) rfl)) (by decide) (by decide)) (g := (mkF m 51 #[.val (.long q0), .second, .val (.long q1), .second, .val (.long q2), .second, .val (.int p3), .val (.int v1), .val (.long (-9223372036854775808 : Int64)), .second, .val (.long q1), .second, .unset, .unset, .unset, .unset, .unset] [(.long q2), (.long q1), (.long (-9223372036854775808 : Int64)), (.int (p3 &&& (7 : Int32)))])) rfl (by rw [hml]; rfl) (argsL := [(.int (p3 &&& (7 : Int32))), (.long (-9223372036854775808 : Int64)), (.long q1), (.long q2)]) (rest := []) (lenOf pd119675ca rfl) rfl (by show 2 * 0 + _ ≤ _; exact Nat.le_of_eq rfl) (hb hby at_51) (fun _ _ => ⟨rfl, e0, (by decide : 0 + 0 ≤ _), (by decide : 0 + 0 ≤ _)⟩)
      dsimp only [Pt.U, Pt.locs, Pt.cells, Pt.slots] at X24 l24 y24 z24 st24 hQ24
      subst l24 y24 z24
      obtain ⟨rfl, N24q, e24⟩ := hQ24
      have N24 := Fr.app N0 N24q
      refine Go.st (fun _ k => st24 _ k) ?_
      show Go p e below _ (T24.setTop (mkF m 54 #[.val (.long q0), .second, .val (.long q1), .second, .val (.long q2), .second, .val (.int p3), .val (.int v1), .val (.long (-9223372036854775808 : Int64)), .second, .val (.long q1), .second, .unset, .unset, .unset, .unset, .unset] [(.long (fPick (p3 &&& (7 : Int32)) (-9223372036854775808 : Int64) q1 q2))]))
      generalize hv25 : (fPick (p3 &&& (7 : Int32)) (-9223372036854775808 : Int64) q1 q2) = v25
      refine Go.st (fun _ k => XS.lstore X24.here hx rfl (hb hby at_54) rfl (l' := #[.val (.long q0), .second, .val (.long q1), .second, .val (.long q2), .second, .val (.int p3), .val (.int v1), .val (.long (-9223372036854775808 : Int64)), .second, .val (.long q1), .second, .val (.long v25), .second, .unset, .unset, .unset]) rfl k) ?_
      show Go p e below _ (T24.setTop (mkF m 56 #[.val (.long q0), .second, .val (.long q1), .second, .val (.long q2), .second, .val (.int p3), .val (.int v1), .val (.long (-9223372036854775808 : Int64)), .second, .val (.long q1), .second, .val (.long v25), .second, .unset, .unset, .unset] []))
      obtain ⟨T26, h26, X26, e26, E26, A26, D26, -, st26⟩ := newO X24 hx hZ hown (hw _ (List.mem_of_getElem? (i := 4) rfl)) (hw _ (List.mem_of_getElem? (i := 5) rfl)) (hw _ (List.mem_of_getElem? (i := 6) rfl)) e24 (g := (mkF m 56 #[.val (.long q0), .second, .val (.long q1), .second, .val (.long q2), .second, .val (.int p3), .val (.int v1), .val (.long (-9223372036854775808 : Int64)), .second, .val (.long q1), .second, .val (.long v25), .second, .unset, .unset, .unset] [])) rfl (hb hby at_56) (by decide) (by decide)
      obtain ⟨b26, g26⟩ : ∃ z, z = h0.size := ⟨_, rfl⟩
      have gg26 : n0 ≤ b26 := Nat.le_trans Z0 (Nat.le_of_eq g26.symm)
      rw [← g26] at A26 D26 st26
      have Z26 : n0 ≤ h26.size := Nat.le_trans Z0 E26.1
      have F26_new_first : Fld Z h26 b26 "com/example/sortition/sortition/partition/TokenRange" "first" "J" (.long (0 : Int64)) := D26 (Or.inr (hw _ (List.mem_of_getElem? (i := 19) rfl))) (ty := .long) (by decide)
      have F26_new_last : Fld Z h26 b26 "com/example/sortition/sortition/partition/TokenRange" "last" "J" (.long (0 : Int64)) := D26 (Or.inr (hw _ (List.mem_of_getElem? (i := 21) rfl))) (ty := .long) (by decide)
      refine Go.st (fun _ k => st26 _ k) ?_
      show Go p e below _ (T26.setTop (mkF m 59 #[.val (.long q0), .second, .val (.long q1), .second, .val (.long q2), .second, .val (.int p3), .val (.int v1), .val (.long (-9223372036854775808 : Int64)), .second, .val (.long q1), .second, .val (.long v25), .second, .unset, .unset, .unset] [(.ref b26)]))
      refine Go.st (fun _ k => XS.dup X26.here hx rfl (hb hby at_59) rfl rfl k) ?_
      show Go p e below _ (T26.setTop (mkF m 60 #[.val (.long q0), .second, .val (.long q1), .second, .val (.long q2), .second, .val (.int p3), .val (.int v1), .val (.long (-9223372036854775808 : Int64)), .second, .val (.long q1), .second, .val (.long v25), .second, .unset, .unset, .unset] [(.ref b26), (.ref b26)]))
      refine Go.st (fun _ k => XS.lload X26.here hx rfl (hb hby at_60) rfl k) ?_
      show Go p e below _ (T26.setTop (mkF m 62 #[.val (.long q0), .second, .val (.long q1), .second, .val (.long q2), .second, .val (.int p3), .val (.int v1), .val (.long (-9223372036854775808 : Int64)), .second, .val (.long q1), .second, .val (.long v25), .second, .unset, .unset, .unset] [(.long (-9223372036854775808 : Int64)), (.ref b26), (.ref b26)]))
      refine Go.st (fun _ k => XS.lload X26.here hx rfl (hb hby at_62) rfl k) ?_
      show Go p e below _ (T26.setTop (mkF m 64 #[.val (.long q0), .second, .val (.long q1), .second, .val (.long q2), .second, .val (.int p3), .val (.int v1), .val (.long (-9223372036854775808 : Int64)), .second, .val (.long q1), .second, .val (.long v25), .second, .unset, .unset, .unset] [(.long q1), (.long (-9223372036854775808 : Int64)), (.ref b26), (.ref b26)]))
      obtain ⟨_, _, ⟨T27, L27, k27, n27⟩, -, X27, ⟨Lc27, hQ27, l27, y27, z27⟩, st27⟩ := X26.specialBack hx (y := (⟨"com/example/sortition/sortition/partition/TokenRange", "<init>", "(JJ)V"⟩ : MethodName)) rfl hown (mvT hZ (hw _ (List.mem_of_getElem? (i := 7) rfl))) (mvT hZ (hw _ (List.mem_of_getElem? (i := 8) rfl))) (mvT hZ (hw _ (List.mem_of_getElem? (i := 9) rfl))) (by decide) (backOf (W := 1) (rm2 l Z aZ hw [] b26 (-9223372036854775808 : Int64) q1 h26 n0 Z26 gg26 A26 F26_new_first F26_new_last) hZ (hw _ (List.mem_of_getElem? (i := 9) rfl)) (hw _ (List.mem_of_getElem? (i := 6) rfl)) (by decide) (by decide)) (g := (mkF m 64 #[.val (.long q0), .second, .val (.long q1), .second, .val (.long q2), .second, .val (.int p3), .val (.int v1), .val (.long (-9223372036854775808 : Int64)), .second, .val (.long q1), .second, .val (.long v25), .second, .unset, .unset, .unset] [(.long q1), (.long (-9223372036854775808 : Int64)), (.ref b26), (.ref b26)])) rfl (by rw [hml]; rfl) (Steps.refl _) (a := b26) (argsL := [(.long (-9223372036854775808 : Int64)), (.long q1)]) (rest := [(.ref b26)]) (lenOf pdc8226161 rfl) rfl (by show 2 * 0 + _ ≤ _; exact Nat.le_of_eq rfl) (hb hby at_64) (fun _ _ => ⟨rfl, e26, (by decide : 1 + 0 ≤ _), (by decide : 2 + 0 ≤ _)⟩)
      dsimp only [Pt.U, Pt.locs, Pt.cells, Pt.slots] at X27 l27 y27 z27 st27 hQ27
      subst l27 y27 z27
      obtain ⟨rfl, N27q, K27q, E27q, Fc27_0, Fc27_1⟩ := hQ27
      have N27 := Fr.app N24 N27q
      have F27_E_b26 := A26.keep K27q
      have Zc27 : n0 ≤ T27.heap.size := Nat.le_trans Z26 K27q.1
      refine Go.st (fun _ k => st27.trans k) ?_
      show Go p e below _ (T27.setTop (mkF m 67 #[.val (.long q0), .second, .val (.long q1), .second, .val (.long q2), .second, .val (.int p3), .val (.int v1), .val (.long (-9223372036854775808 : Int64)), .second, .val (.long q1), .second, .val (.long v25), .second, .unset, .unset, .unset] [(.ref b26)]))
      refine Go.st (fun _ k => XS.astore X27.here hx rfl (hb hby at_67) rfl rfl (l' := #[.val (.long q0), .second, .val (.long q1), .second, .val (.long q2), .second, .val (.int p3), .val (.int v1), .val (.long (-9223372036854775808 : Int64)), .second, .val (.long q1), .second, .val (.long v25), .second, .val (.ref b26), .unset, .unset]) rfl k) ?_
      show Go p e below _ (T27.setTop (mkF m 69 #[.val (.long q0), .second, .val (.long q1), .second, .val (.long q2), .second, .val (.int p3), .val (.int v1), .val (.long (-9223372036854775808 : Int64)), .second, .val (.long q1), .second, .val (.long v25), .second, .val (.ref b26), .unset, .unset] []))
      refine Go.st (fun _ k => XS.aload X27.here hx rfl (hb hby at_69) rfl rfl k) ?_
      show Go p e below _ (T27.setTop (mkF m 71 #[.val (.long q0), .second, .val (.long q1), .second, .val (.long q2), .second, .val (.int p3), .val (.int v1), .val (.long (-9223372036854775808 : Int64)), .second, .val (.long q1), .second, .val (.long v25), .second, .val (.ref b26), .unset, .unset] [(.ref b26)]))
      refine Go.st (fun _ k => XS.lload X27.here hx rfl (hb hby at_71) rfl k) ?_
      show Go p e below _ (T27.setTop (mkF m 73 #[.val (.long q0), .second, .val (.long q1), .second, .val (.long q2), .second, .val (.int p3), .val (.int v1), .val (.long (-9223372036854775808 : Int64)), .second, .val (.long q1), .second, .val (.long v25), .second, .val (.ref b26), .unset, .unset] [(.long v25), (.ref b26)]))
      obtain ⟨cq28, kq28, q28a, q28b, q28c⟩ := isOf hZ rfl F27_E_b26
      obtain ⟨_, _, ⟨T28, L28, k28, n28⟩, -, X28, ⟨Lc28, hQ28, l28, y28, z28⟩, st28⟩ := X27.virtualBack hx (y := (⟨"com/example/sortition/sortition/partition/TokenRange", "contains", "(J)Z"⟩ : MethodName)) (z := (⟨"com/example/sortition/sortition/partition/TokenRange", "contains", "(J)Z"⟩ : MethodName)) hown (mvT hZ (hw _ (List.mem_of_getElem? (i := 22) rfl))) (mvT hZ (hw _ (List.mem_of_getElem? (i := 23) rfl))) (notFace_of_selects (args := #[]) (mvT hZ (hw _ (List.mem_of_getElem? (i := 25) rfl)))) (mvT hZ (hw _ (List.mem_of_getElem? (i := 25) rfl))) (mvT hZ (hw _ (List.mem_of_getElem? (i := 24) rfl))) (by decide) (backOf (W := 0) (rm5 l Z aZ hw [] b26 v25 (-9223372036854775808 : Int64) q1 T27.heap n0 Fc27_0 Fc27_1) hZ (hw _ (List.mem_of_getElem? (i := 26) rfl)) (hw _ (List.mem_of_getElem? (i := 6) rfl)) (by decide) (by decide)) q28a q28c (g := (mkF m 73 #[.val (.long q0), .second, .val (.long q1), .second, .val (.long q2), .second, .val (.int p3), .val (.int v1), .val (.long (-9223372036854775808 : Int64)), .second, .val (.long q1), .second, .val (.long v25), .second, .val (.ref b26), .unset, .unset] [(.long v25), (.ref b26)])) rfl (by rw [hml]; rfl) (Steps.refl _) (argsL := [(.long v25)]) (rest := []) (lenOf pd56f9627 rfl) rfl (by show 2 * 0 + _ ≤ _; exact Nat.le_of_eq rfl) (hb hby at_73) (fun _ _ => ⟨rfl, rfl, (by decide : 1 + 0 ≤ _), (by decide : 2 + 0 ≤ _)⟩)
      dsimp only [Pt.U, Pt.locs, Pt.cells, Pt.slots] at X28 l28 y28 z28 st28 hQ28
      subst l28 y28 z28
      obtain ⟨rfl, N28q, e28⟩ := hQ28
      have N28 := Fr.app N27 N28q
      refine Go.st (fun _ k => st28.trans k) ?_
      show Go p e below _ (T28.setTop (mkF m 76 #[.val (.long q0), .second, .val (.long q1), .second, .val (.long q2), .second, .val (.int p3), .val (.int v1), .val (.long (-9223372036854775808 : Int64)), .second, .val (.long q1), .second, .val (.long v25), .second, .val (.ref b26), .unset, .unset] [(.int (fHolds v25 (-9223372036854775808 : Int64) q1))]))
      generalize hv29 : (fHolds v25 (-9223372036854775808 : Int64) q1) = v29
      refine Go.st (fun _ k => XS.istore X28.here hx rfl (hb hby at_76) rfl (l' := #[.val (.long q0), .second, .val (.long q1), .second, .val (.long q2), .second, .val (.int p3), .val (.int v1), .val (.long (-9223372036854775808 : Int64)), .second, .val (.long q1), .second, .val (.long v25), .second, .val (.ref b26), .val (.int v29), .unset]) rfl k) ?_
      show Go p e below _ (T28.setTop (mkF m 78 #[.val (.long q0), .second, .val (.long q1), .second, .val (.long q2), .second, .val (.int p3), .val (.int v1), .val (.long (-9223372036854775808 : Int64)), .second, .val (.long q1), .second, .val (.long v25), .second, .val (.ref b26), .val (.int v29), .unset] []))
      refine Go.st (fun _ k => XS.lload X28.here hx rfl (hb hby at_78) rfl k) ?_
      show Go p e below _ (T28.setTop (mkF m 80 #[.val (.long q0), .second, .val (.long q1), .second, .val (.long q2), .second, .val (.int p3), .val (.int v1), .val (.long (-9223372036854775808 : Int64)), .second, .val (.long q1), .second, .val (.long v25), .second, .val (.ref b26), .val (.int v29), .unset] [(.long (-9223372036854775808 : Int64))]))
      refine Go.st (fun _ k => XS.lload X28.here hx rfl (hb hby at_80) rfl k) ?_
      show Go p e below _ (T28.setTop (mkF m 82 #[.val (.long q0), .second, .val (.long q1), .second, .val (.long q2), .second, .val (.int p3), .val (.int v1), .val (.long (-9223372036854775808 : Int64)), .second, .val (.long q1), .second, .val (.long v25), .second, .val (.ref b26), .val (.int v29), .unset] [(.long q1), (.long (-9223372036854775808 : Int64))]))
      refine Go.st (fun _ k => XS.lcmp X28.here hx rfl (hb hby at_82) rfl k) ?_
      show Go p e below _ (T28.setTop (mkF m 83 #[.val (.long q0), .second, .val (.long q1), .second, .val (.long q2), .second, .val (.int p3), .val (.int v1), .val (.long (-9223372036854775808 : Int64)), .second, .val (.long q1), .second, .val (.long v25), .second, .val (.ref b26), .val (.int v29), .unset] [(.int (lcmpW (-9223372036854775808 : Int64) q1))]))
      by_cases hc30 : q1 < (-9223372036854775808 : Int64)
      · show Go p e below _ (T28.setTop (mkF m 83 #[.val (.long q0), .second, .val (.long q1), .second, .val (.long q2), .second, .val (.int p3), .val (.int v1), .val (.long (-9223372036854775808 : Int64)), .second, .val (.long q1), .second, .val (.long v25), .second, .val (.ref b26), .val (.int v29), .unset] [(.int (lcmpW (-9223372036854775808 : Int64) q1))]))
        refine Go.st (fun _ k => XS.ifYes X28.here hx rfl (pc0 := 83) (pc' := 108) rfl (hb hby at_83) rfl ((if0 _ _).trans (tlt ((lw_gt _ _).mpr hc30)).2.2.1) (by decide) (by decide) k) ?_
        show Go p e below _ (T28.setTop (mkF m 108 #[.val (.long q0), .second, .val (.long q1), .second, .val (.long q2), .second, .val (.int p3), .val (.int v1), .val (.long (-9223372036854775808 : Int64)), .second, .val (.long q1), .second, .val (.long v25), .second, .val (.ref b26), .val (.int v29), .unset] []))
        refine Go.st (fun _ k => XS.iconst X28.here hx rfl (hb hby at_108) k) ?_
        show Go p e below _ (T28.setTop (mkF m 109 #[.val (.long q0), .second, .val (.long q1), .second, .val (.long q2), .second, .val (.int p3), .val (.int v1), .val (.long (-9223372036854775808 : Int64)), .second, .val (.long q1), .second, .val (.long v25), .second, .val (.ref b26), .val (.int v29), .unset] [(.int (0 : Int32))]))
        refine Go.st (fun _ k => XS.istore X28.here hx rfl (hb hby at_109) rfl (l' := #[.val (.long q0), .second, .val (.long q1), .second, .val (.long q2), .second, .val (.int p3), .val (.int v1), .val (.long (-9223372036854775808 : Int64)), .second, .val (.long q1), .second, .val (.long v25), .second, .val (.ref b26), .val (.int v29), .val (.int (0 : Int32))]) rfl k) ?_
        show Go p e below _ (T28.setTop (mkF m 111 #[.val (.long q0), .second, .val (.long q1), .second, .val (.long q2), .second, .val (.int p3), .val (.int v1), .val (.long (-9223372036854775808 : Int64)), .second, .val (.long q1), .second, .val (.long v25), .second, .val (.ref b26), .val (.int v29), .val (.int (0 : Int32))] []))
        refine Go.st (fun _ k => XS.iload X28.here hx rfl (hb hby at_111) rfl k) ?_
        show Go p e below _ (T28.setTop (mkF m 113 #[.val (.long q0), .second, .val (.long q1), .second, .val (.long q2), .second, .val (.int p3), .val (.int v1), .val (.long (-9223372036854775808 : Int64)), .second, .val (.long q1), .second, .val (.long v25), .second, .val (.ref b26), .val (.int v29), .val (.int (0 : Int32))] [(.int v29)]))
        refine Go.st (fun _ k => XS.iload X28.here hx rfl (hb hby at_113) rfl k) ?_
        show Go p e below _ (T28.setTop (mkF m 115 #[.val (.long q0), .second, .val (.long q1), .second, .val (.long q2), .second, .val (.int p3), .val (.int v1), .val (.long (-9223372036854775808 : Int64)), .second, .val (.long q1), .second, .val (.long v25), .second, .val (.ref b26), .val (.int v29), .val (.int (0 : Int32))] [(.int (0 : Int32)), (.int v29)]))
        refine Go.st (fun _ k => XS.icmpNo X28.here hx rfl (hb hby at_115) rfl (teq (hv29.symm.trans (own_not hc30 _))).2 k) ?_
        show Go p e below _ (T28.setTop (mkF m 118 #[.val (.long q0), .second, .val (.long q1), .second, .val (.long q2), .second, .val (.int p3), .val (.int v1), .val (.long (-9223372036854775808 : Int64)), .second, .val (.long q1), .second, .val (.long v25), .second, .val (.ref b26), .val (.int v29), .val (.int (0 : Int32))] []))
        refine Go.st (fun _ k => XS.iconst X28.here hx rfl (hb hby at_118) k) ?_
        show Go p e below _ (T28.setTop (mkF m 119 #[.val (.long q0), .second, .val (.long q1), .second, .val (.long q2), .second, .val (.int p3), .val (.int v1), .val (.long (-9223372036854775808 : Int64)), .second, .val (.long q1), .second, .val (.long v25), .second, .val (.ref b26), .val (.int v29), .val (.int (0 : Int32))] [(.int (1 : Int32))]))
        refine Go.st (fun _ k => XS.goto X28.here hx rfl (pc0 := 119) (pc' := 123) rfl (hb hby at_119) (by decide) (by decide) k) ?_
        show Go p e below _ (T28.setTop (mkF m 123 #[.val (.long q0), .second, .val (.long q1), .second, .val (.long q2), .second, .val (.int p3), .val (.int v1), .val (.long (-9223372036854775808 : Int64)), .second, .val (.long q1), .second, .val (.long v25), .second, .val (.ref b26), .val (.int v29), .val (.int (0 : Int32))] [(.int (1 : Int32))]))
        obtain ⟨fs, hr, hrun, hended, hW, hsame⟩ := X28.leave (v := some (.int (1 : Int32))) (fun h => by rw [Bd.returns] at h; cases h)
        refine ⟨_, _, retN X28 hx (t := .boolean) Bd.returns (by simp) (hb hby at_123) hr, hrun, hended, _, _, rfl, ?_, ⟨_, rfl⟩, hW, hsame.mono (by decide) (by decide)⟩
        show Q_rm0 Z q0 q1 q2 p3 h0 n0 _ T28.heap _
        rw [e28]
        exact ⟨rfl, N28⟩
      · show Go p e below _ (T28.setTop (mkF m 83 #[.val (.long q0), .second, .val (.long q1), .second, .val (.long q2), .second, .val (.int p3), .val (.int v1), .val (.long (-9223372036854775808 : Int64)), .second, .val (.long q1), .second, .val (.long v25), .second, .val (.ref b26), .val (.int v29), .unset] [(.int (lcmpW (-9223372036854775808 : Int64) q1))]))
        refine Go.st (fun _ k => XS.ifNo X28.here hx rfl (hb hby at_83) rfl ((if0 _ _).trans (flt (fun z => hc30 ((lw_gt _ _).mp z))).2.2.1) k) ?_
        show Go p e below _ (T28.setTop (mkF m 86 #[.val (.long q0), .second, .val (.long q1), .second, .val (.long q2), .second, .val (.int p3), .val (.int v1), .val (.long (-9223372036854775808 : Int64)), .second, .val (.long q1), .second, .val (.long v25), .second, .val (.ref b26), .val (.int v29), .unset] []))
        refine Go.st (fun _ k => XS.lload X28.here hx rfl (hb hby at_86) rfl k) ?_
        show Go p e below _ (T28.setTop (mkF m 88 #[.val (.long q0), .second, .val (.long q1), .second, .val (.long q2), .second, .val (.int p3), .val (.int v1), .val (.long (-9223372036854775808 : Int64)), .second, .val (.long q1), .second, .val (.long v25), .second, .val (.ref b26), .val (.int v29), .unset] [(.long (-9223372036854775808 : Int64))]))
        refine Go.st (fun _ k => XS.lload X28.here hx rfl (hb hby at_88) rfl k) ?_
        show Go p e below _ (T28.setTop (mkF m 90 #[.val (.long q0), .second, .val (.long q1), .second, .val (.long q2), .second, .val (.int p3), .val (.int v1), .val (.long (-9223372036854775808 : Int64)), .second, .val (.long q1), .second, .val (.long v25), .second, .val (.ref b26), .val (.int v29), .unset] [(.long v25), (.long (-9223372036854775808 : Int64))]))
        refine Go.st (fun _ k => XS.lload X28.here hx rfl (hb hby at_90) rfl k) ?_
        show Go p e below _ (T28.setTop (mkF m 92 #[.val (.long q0), .second, .val (.long q1), .second, .val (.long q2), .second, .val (.int p3), .val (.int v1), .val (.long (-9223372036854775808 : Int64)), .second, .val (.long q1), .second, .val (.long v25), .second, .val (.ref b26), .val (.int v29), .unset] [(.long q1), (.long v25), (.long (-9223372036854775808 : Int64))]))
        obtain ⟨_, _, ⟨T31, L31, k31, n31⟩, -, X31, ⟨Lc31, hQ31, l31, y31, z31⟩, st31⟩ := Jvm.LawKit.callS X28 hx (y := (⟨"java/lang/Math", "min", "(JJ)J"⟩ : MethodName)) hown (mvT hZ (hw _ (List.mem_of_getElem? (i := 27) rfl))) (mvT hZ (hw _ (List.mem_of_getElem? (i := 28) rfl))) (mvT hZ (hw _ (List.mem_of_getElem? (i := 29) rfl))) (mvT hZ (hw _ (List.mem_of_getElem? (i := 30) rfl))) (by decide) (backOf (W := 2) (rm6 l Z aZ hw [] v25 q1 T27.heap n0 ) hZ (hw _ (List.mem_of_getElem? (i := 30) rfl)) (hw _ (List.mem_of_getElem? (i := 29) rfl)) (by decide) (by decide)) (g := (mkF m 92 #[.val (.long q0), .second, .val (.long q1), .second, .val (.long q2), .second, .val (.int p3), .val (.int v1), .val (.long (-9223372036854775808 : Int64)), .second, .val (.long q1), .second, .val (.long v25), .second, .val (.ref b26), .val (.int v29), .unset] [(.long q1), (.long v25), (.long (-9223372036854775808 : Int64))])) rfl (by rw [hml]; rfl) (argsL := [(.long v25), (.long q1)]) (rest := [(.long (-9223372036854775808 : Int64))]) (lenOf pdc8226155 rfl) rfl (by show 2 * 0 + _ ≤ _; exact Nat.le_of_eq rfl) (hb hby at_92) (fun _ _ => ⟨rfl, e28, (by decide : 1 + 0 ≤ _), (by decide : 2 + 0 ≤ _)⟩)
        dsimp only [Pt.U, Pt.locs, Pt.cells, Pt.slots] at X31 l31 y31 z31 st31 hQ31
        subst l31 y31 z31
        obtain ⟨rfl, N31q, e31⟩ := hQ31
        have N31 := Fr.app N28 N31q
        refine Go.st (fun _ k => st31 _ k) ?_
        show Go p e below _ (T31.setTop (mkF m 95 #[.val (.long q0), .second, .val (.long q1), .second, .val (.long q2), .second, .val (.int p3), .val (.int v1), .val (.long (-9223372036854775808 : Int64)), .second, .val (.long q1), .second, .val (.long v25), .second, .val (.ref b26), .val (.int v29), .unset] [(.long (fMin v25 q1)), (.long (-9223372036854775808 : Int64))]))
        obtain ⟨_, _, ⟨T32, L32, k32, n32⟩, -, X32, ⟨Lc32, hQ32, l32, y32, z32⟩, st32⟩ := Jvm.LawKit.callS X31 hx (y := (⟨"java/lang/Math", "max", "(JJ)J"⟩ : MethodName)) hown (mvT hZ (hw _ (List.mem_of_getElem? (i := 31) rfl))) (mvT hZ (hw _ (List.mem_of_getElem? (i := 32) rfl))) (mvT hZ (hw _ (List.mem_of_getElem? (i := 29) rfl))) (mvT hZ (hw _ (List.mem_of_getElem? (i := 33) rfl))) (by decide) (backOf (W := 0) (rm7 l Z aZ hw [] (-9223372036854775808 : Int64) (fMin v25 q1) T27.heap n0 ) hZ (hw _ (List.mem_of_getElem? (i := 33) rfl)) (hw _ (List.mem_of_getElem? (i := 29) rfl)) (by decide) (by decide)) (g := (mkF m 95 #[.val (.long q0), .second, .val (.long q1), .second, .val (.long q2), .second, .val (.int p3), .val (.int v1), .val (.long (-9223372036854775808 : Int64)), .second, .val (.long q1), .second, .val (.long v25), .second, .val (.ref b26), .val (.int v29), .unset] [(.long (fMin v25 q1)), (.long (-9223372036854775808 : Int64))])) rfl (by rw [hml]; rfl) (argsL := [(.long (-9223372036854775808 : Int64)), (.long (fMin v25 q1))]) (rest := []) (lenOf pdc8226155 rfl) rfl (by show 2 * 0 + _ ≤ _; exact Nat.le_of_eq rfl) (hb hby at_95) (fun _ _ => ⟨rfl, e31, (by decide : 1 + 0 ≤ _), (by decide : 2 + 0 ≤ _)⟩)
        dsimp only [Pt.U, Pt.locs, Pt.cells, Pt.slots] at X32 l32 y32 z32 st32 hQ32
        subst l32 y32 z32
        obtain ⟨rfl, N32q, e32⟩ := hQ32
        have N32 := Fr.app N31 N32q
        refine Go.st (fun _ k => st32 _ k) ?_
        show Go p e below _ (T32.setTop (mkF m 98 #[.val (.long q0), .second, .val (.long q1), .second, .val (.long q2), .second, .val (.int p3), .val (.int v1), .val (.long (-9223372036854775808 : Int64)), .second, .val (.long q1), .second, .val (.long v25), .second, .val (.ref b26), .val (.int v29), .unset] [(.long (fMax (-9223372036854775808 : Int64) (fMin v25 q1)))]))
        refine Go.st (fun _ k => XS.lload X32.here hx rfl (hb hby at_98) rfl k) ?_
        show Go p e below _ (T32.setTop (mkF m 100 #[.val (.long q0), .second, .val (.long q1), .second, .val (.long q2), .second, .val (.int p3), .val (.int v1), .val (.long (-9223372036854775808 : Int64)), .second, .val (.long q1), .second, .val (.long v25), .second, .val (.ref b26), .val (.int v29), .unset] [(.long v25), (.long (fMax (-9223372036854775808 : Int64) (fMin v25 q1)))]))
        refine Go.st (fun _ k => XS.lcmp X32.here hx rfl (hb hby at_100) rfl k) ?_
        show Go p e below _ (T32.setTop (mkF m 101 #[.val (.long q0), .second, .val (.long q1), .second, .val (.long q2), .second, .val (.int p3), .val (.int v1), .val (.long (-9223372036854775808 : Int64)), .second, .val (.long q1), .second, .val (.long v25), .second, .val (.ref b26), .val (.int v29), .unset] [(.int (lcmpW (fMax (-9223372036854775808 : Int64) (fMin v25 q1)) v25))]))
        by_cases hc33 : (fMax (-9223372036854775808 : Int64) (fMin v25 q1)) = v25
        · show Go p e below _ (T32.setTop (mkF m 101 #[.val (.long q0), .second, .val (.long q1), .second, .val (.long q2), .second, .val (.int p3), .val (.int v1), .val (.long (-9223372036854775808 : Int64)), .second, .val (.long q1), .second, .val (.long v25), .second, .val (.ref b26), .val (.int v29), .unset] [(.int (lcmpW (fMax (-9223372036854775808 : Int64) (fMin v25 q1)) v25))]))
          refine Go.st (fun _ k => XS.ifNo X32.here hx rfl (hb hby at_101) rfl ((if0 _ _).trans (teq ((lw_eq _ _).mpr hc33)).2) k) ?_
          show Go p e below _ (T32.setTop (mkF m 104 #[.val (.long q0), .second, .val (.long q1), .second, .val (.long q2), .second, .val (.int p3), .val (.int v1), .val (.long (-9223372036854775808 : Int64)), .second, .val (.long q1), .second, .val (.long v25), .second, .val (.ref b26), .val (.int v29), .unset] []))
          refine Go.st (fun _ k => XS.iconst X32.here hx rfl (hb hby at_104) k) ?_
          show Go p e below _ (T32.setTop (mkF m 105 #[.val (.long q0), .second, .val (.long q1), .second, .val (.long q2), .second, .val (.int p3), .val (.int v1), .val (.long (-9223372036854775808 : Int64)), .second, .val (.long q1), .second, .val (.long v25), .second, .val (.ref b26), .val (.int v29), .unset] [(.int (1 : Int32))]))
          refine Go.st (fun _ k => XS.goto X32.here hx rfl (pc0 := 105) (pc' := 109) rfl (hb hby at_105) (by decide) (by decide) k) ?_
          show Go p e below _ (T32.setTop (mkF m 109 #[.val (.long q0), .second, .val (.long q1), .second, .val (.long q2), .second, .val (.int p3), .val (.int v1), .val (.long (-9223372036854775808 : Int64)), .second, .val (.long q1), .second, .val (.long v25), .second, .val (.ref b26), .val (.int v29), .unset] [(.int (1 : Int32))]))
          refine Go.st (fun _ k => XS.istore X32.here hx rfl (hb hby at_109) rfl (l' := #[.val (.long q0), .second, .val (.long q1), .second, .val (.long q2), .second, .val (.int p3), .val (.int v1), .val (.long (-9223372036854775808 : Int64)), .second, .val (.long q1), .second, .val (.long v25), .second, .val (.ref b26), .val (.int v29), .val (.int (1 : Int32))]) rfl k) ?_
          show Go p e below _ (T32.setTop (mkF m 111 #[.val (.long q0), .second, .val (.long q1), .second, .val (.long q2), .second, .val (.int p3), .val (.int v1), .val (.long (-9223372036854775808 : Int64)), .second, .val (.long q1), .second, .val (.long v25), .second, .val (.ref b26), .val (.int v29), .val (.int (1 : Int32))] []))
          refine Go.st (fun _ k => XS.iload X32.here hx rfl (hb hby at_111) rfl k) ?_
          show Go p e below _ (T32.setTop (mkF m 113 #[.val (.long q0), .second, .val (.long q1), .second, .val (.long q2), .second, .val (.int p3), .val (.int v1), .val (.long (-9223372036854775808 : Int64)), .second, .val (.long q1), .second, .val (.long v25), .second, .val (.ref b26), .val (.int v29), .val (.int (1 : Int32))] [(.int v29)]))
          refine Go.st (fun _ k => XS.iload X32.here hx rfl (hb hby at_113) rfl k) ?_
          show Go p e below _ (T32.setTop (mkF m 115 #[.val (.long q0), .second, .val (.long q1), .second, .val (.long q2), .second, .val (.int p3), .val (.int v1), .val (.long (-9223372036854775808 : Int64)), .second, .val (.long q1), .second, .val (.long v25), .second, .val (.ref b26), .val (.int v29), .val (.int (1 : Int32))] [(.int (1 : Int32)), (.int v29)]))
          refine Go.st (fun _ k => XS.icmpNo X32.here hx rfl (hb hby at_115) rfl (teq (hv29.symm.trans (own_yes hc30 hc33))).2 k) ?_
          show Go p e below _ (T32.setTop (mkF m 118 #[.val (.long q0), .second, .val (.long q1), .second, .val (.long q2), .second, .val (.int p3), .val (.int v1), .val (.long (-9223372036854775808 : Int64)), .second, .val (.long q1), .second, .val (.long v25), .second, .val (.ref b26), .val (.int v29), .val (.int (1 : Int32))] []))
          refine Go.st (fun _ k => XS.iconst X32.here hx rfl (hb hby at_118) k) ?_
          show Go p e below _ (T32.setTop (mkF m 119 #[.val (.long q0), .second, .val (.long q1), .second, .val (.long q2), .second, .val (.int p3), .val (.int v1), .val (.long (-9223372036854775808 : Int64)), .second, .val (.long q1), .second, .val (.long v25), .second, .val (.ref b26), .val (.int v29), .val (.int (1 : Int32))] [(.int (1 : Int32))]))
          refine Go.st (fun _ k => XS.goto X32.here hx rfl (pc0 := 119) (pc' := 123) rfl (hb hby at_119) (by decide) (by decide) k) ?_
          show Go p e below _ (T32.setTop (mkF m 123 #[.val (.long q0), .second, .val (.long q1), .second, .val (.long q2), .second, .val (.int p3), .val (.int v1), .val (.long (-9223372036854775808 : Int64)), .second, .val (.long q1), .second, .val (.long v25), .second, .val (.ref b26), .val (.int v29), .val (.int (1 : Int32))] [(.int (1 : Int32))]))
          obtain ⟨fs, hr, hrun, hended, hW, hsame⟩ := X32.leave (v := some (.int (1 : Int32))) (fun h => by rw [Bd.returns] at h; cases h)
          refine ⟨_, _, retN X32 hx (t := .boolean) Bd.returns (by simp) (hb hby at_123) hr, hrun, hended, _, _, rfl, ?_, ⟨_, rfl⟩, hW, hsame.mono (by decide) (by decide)⟩
          show Q_rm0 Z q0 q1 q2 p3 h0 n0 _ T32.heap _
          rw [e32]
          exact ⟨rfl, N32⟩
        · show Go p e below _ (T32.setTop (mkF m 101 #[.val (.long q0), .second, .val (.long q1), .second, .val (.long q2), .second, .val (.int p3), .val (.int v1), .val (.long (-9223372036854775808 : Int64)), .second, .val (.long q1), .second, .val (.long v25), .second, .val (.ref b26), .val (.int v29), .unset] [(.int (lcmpW (fMax (-9223372036854775808 : Int64) (fMin v25 q1)) v25))]))
          refine Go.st (fun _ k => XS.ifYes X32.here hx rfl (pc0 := 101) (pc' := 108) rfl (hb hby at_101) rfl ((if0 _ _).trans (feq (fun z => hc33 ((lw_eq _ _).mp z))).2) (by decide) (by decide) k) ?_
          show Go p e below _ (T32.setTop (mkF m 108 #[.val (.long q0), .second, .val (.long q1), .second, .val (.long q2), .second, .val (.int p3), .val (.int v1), .val (.long (-9223372036854775808 : Int64)), .second, .val (.long q1), .second, .val (.long v25), .second, .val (.ref b26), .val (.int v29), .unset] []))
          refine Go.st (fun _ k => XS.iconst X32.here hx rfl (hb hby at_108) k) ?_
          show Go p e below _ (T32.setTop (mkF m 109 #[.val (.long q0), .second, .val (.long q1), .second, .val (.long q2), .second, .val (.int p3), .val (.int v1), .val (.long (-9223372036854775808 : Int64)), .second, .val (.long q1), .second, .val (.long v25), .second, .val (.ref b26), .val (.int v29), .unset] [(.int (0 : Int32))]))
          refine Go.st (fun _ k => XS.istore X32.here hx rfl (hb hby at_109) rfl (l' := #[.val (.long q0), .second, .val (.long q1), .second, .val (.long q2), .second, .val (.int p3), .val (.int v1), .val (.long (-9223372036854775808 : Int64)), .second, .val (.long q1), .second, .val (.long v25), .second, .val (.ref b26), .val (.int v29), .val (.int (0 : Int32))]) rfl k) ?_
          show Go p e below _ (T32.setTop (mkF m 111 #[.val (.long q0), .second, .val (.long q1), .second, .val (.long q2), .second, .val (.int p3), .val (.int v1), .val (.long (-9223372036854775808 : Int64)), .second, .val (.long q1), .second, .val (.long v25), .second, .val (.ref b26), .val (.int v29), .val (.int (0 : Int32))] []))
          refine Go.st (fun _ k => XS.iload X32.here hx rfl (hb hby at_111) rfl k) ?_
          show Go p e below _ (T32.setTop (mkF m 113 #[.val (.long q0), .second, .val (.long q1), .second, .val (.long q2), .second, .val (.int p3), .val (.int v1), .val (.long (-9223372036854775808 : Int64)), .second, .val (.long q1), .second, .val (.long v25), .second, .val (.ref b26), .val (.int v29), .val (.int (0 : Int32))] [(.int v29)]))
          refine Go.st (fun _ k => XS.iload X32.here hx rfl (hb hby at_113) rfl k) ?_
          show Go p e below _ (T32.setTop (mkF m 115 #[.val (.long q0), .second, .val (.long q1), .second, .val (.long q2), .second, .val (.int p3), .val (.int v1), .val (.long (-9223372036854775808 : Int64)), .second, .val (.long q1), .second, .val (.long v25), .second, .val (.ref b26), .val (.int v29), .val (.int (0 : Int32))] [(.int (0 : Int32)), (.int v29)]))
          refine Go.st (fun _ k => XS.icmpNo X32.here hx rfl (hb hby at_115) rfl (teq (hv29.symm.trans (own_no hc30 hc33))).2 k) ?_
          show Go p e below _ (T32.setTop (mkF m 118 #[.val (.long q0), .second, .val (.long q1), .second, .val (.long q2), .second, .val (.int p3), .val (.int v1), .val (.long (-9223372036854775808 : Int64)), .second, .val (.long q1), .second, .val (.long v25), .second, .val (.ref b26), .val (.int v29), .val (.int (0 : Int32))] []))
          refine Go.st (fun _ k => XS.iconst X32.here hx rfl (hb hby at_118) k) ?_
          show Go p e below _ (T32.setTop (mkF m 119 #[.val (.long q0), .second, .val (.long q1), .second, .val (.long q2), .second, .val (.int p3), .val (.int v1), .val (.long (-9223372036854775808 : Int64)), .second, .val (.long q1), .second, .val (.long v25), .second, .val (.ref b26), .val (.int v29), .val (.int (0 : Int32))] [(.int (1 : Int32))]))
          refine Go.st (fun _ k => XS.goto X32.here hx rfl (pc0 := 119) (pc' := 123) rfl (hb hby at_119) (by decide) (by decide) k) ?_
          show Go p e below _ (T32.setTop (mkF m 123 #[.val (.long q0), .second, .val (.long q1), .second, .val (.long q2), .second, .val (.int p3), .val (.int v1), .val (.long (-9223372036854775808 : Int64)), .second, .val (.long q1), .second, .val (.long v25), .second, .val (.ref b26), .val (.int v29), .val (.int (0 : Int32))] [(.int (1 : Int32))]))
          obtain ⟨fs, hr, hrun, hended, hW, hsame⟩ := X32.leave (v := some (.int (1 : Int32))) (fun h => by rw [Bd.returns] at h; cases h)
          refine ⟨_, _, retN X32 hx (t := .boolean) Bd.returns (by simp) (hb hby at_123) hr, hrun, hended, _, _, rfl, ?_, ⟨_, rfl⟩, hW, hsame.mono (by decide) (by decide)⟩
          show Q_rm0 Z q0 q1 q2 p3 h0 n0 _ T32.heap _
          rw [e32]
          exact ⟨rfl, N32⟩
    · show Go p e below _ (s₁.setTop (mkF m 28 #[.val (.long q0), .second, .val (.long q1), .second, .val (.long q2), .second, .val (.int p3), .val (.int v1), .val (.long (-9223372036854775808 : Int64)), .second, .unset, .unset, .unset, .unset, .unset, .unset, .unset] [(.int (v1 &&& (2 : Int32)))]))
      refine Go.st (fun _ k => XS.ifNo X0.here hx rfl (hb hby at_28) rfl ((if0 _ _).trans (feq hc23).1) k) ?_
      show Go p e below _ (s₁.setTop (mkF m 31 #[.val (.long q0), .second, .val (.long q1), .second, .val (.long q2), .second, .val (.int p3), .val (.int v1), .val (.long (-9223372036854775808 : Int64)), .second, .unset, .unset, .unset, .unset, .unset, .unset, .unset] []))
      refine Go.st (fun _ k => X0.ldc2Long hx hown (mvT hZ (hw _ (List.mem_of_getElem? (i := 34) rfl))) (g := (mkF m 31 #[.val (.long q0), .second, .val (.long q1), .second, .val (.long q2), .second, .val (.int p3), .val (.int v1), .val (.long (-9223372036854775808 : Int64)), .second, .unset, .unset, .unset, .unset, .unset, .unset, .unset] [])) rfl (hb hby at_31) _ k) ?_
      show Go p e below _ (s₁.setTop (mkF m 34 #[.val (.long q0), .second, .val (.long q1), .second, .val (.long q2), .second, .val (.int p3), .val (.int v1), .val (.long (-9223372036854775808 : Int64)), .second, .unset, .unset, .unset, .unset, .unset, .unset, .unset] [(.long (9223372036854775807 : Int64))]))
      refine Go.st (fun _ k => XS.goto X0.here hx rfl (pc0 := 34) (pc' := 38) rfl (hb hby at_34) (by decide) (by decide) k) ?_
      show Go p e below _ (s₁.setTop (mkF m 38 #[.val (.long q0), .second, .val (.long q1), .second, .val (.long q2), .second, .val (.int p3), .val (.int v1), .val (.long (-9223372036854775808 : Int64)), .second, .unset, .unset, .unset, .unset, .unset, .unset, .unset] [(.long (9223372036854775807 : Int64))]))
      refine Go.st (fun _ k => XS.lstore X0.here hx rfl (hb hby at_38) rfl (l' := #[.val (.long q0), .second, .val (.long q1), .second, .val (.long q2), .second, .val (.int p3), .val (.int v1), .val (.long (-9223372036854775808 : Int64)), .second, .val (.long (9223372036854775807 : Int64)), .second, .unset, .unset, .unset, .unset, .unset]) rfl k) ?_
      show Go p e below _ (s₁.setTop (mkF m 40 #[.val (.long q0), .second, .val (.long q1), .second, .val (.long q2), .second, .val (.int p3), .val (.int v1), .val (.long (-9223372036854775808 : Int64)), .second, .val (.long (9223372036854775807 : Int64)), .second, .unset, .unset, .unset, .unset, .unset] []))
      refine Go.st (fun _ k => XS.iload X0.here hx rfl (hb hby at_40) rfl k) ?_
      show Go p e below _ (s₁.setTop (mkF m 42 #[.val (.long q0), .second, .val (.long q1), .second, .val (.long q2), .second, .val (.int p3), .val (.int v1), .val (.long (-9223372036854775808 : Int64)), .second, .val (.long (9223372036854775807 : Int64)), .second, .unset, .unset, .unset, .unset, .unset] [(.int p3)]))
      refine Go.st (fun _ k => XS.bipush X0.here hx rfl (hb hby at_42) k) ?_
      show Go p e below _ (s₁.setTop (mkF m 44 #[.val (.long q0), .second, .val (.long q1), .second, .val (.long q2), .second, .val (.int p3), .val (.int v1), .val (.long (-9223372036854775808 : Int64)), .second, .val (.long (9223372036854775807 : Int64)), .second, .unset, .unset, .unset, .unset, .unset] [(.int (7 : Int32)), (.int p3)]))
      refine Go.st (fun _ k => XS.iand X0.here hx rfl (hb hby at_44) rfl k) ?_
      show Go p e below _ (s₁.setTop (mkF m 45 #[.val (.long q0), .second, .val (.long q1), .second, .val (.long q2), .second, .val (.int p3), .val (.int v1), .val (.long (-9223372036854775808 : Int64)), .second, .val (.long (9223372036854775807 : Int64)), .second, .unset, .unset, .unset, .unset, .unset] [(.int (p3 &&& (7 : Int32)))]))
      refine Go.st (fun _ k => XS.lload X0.here hx rfl (hb hby at_45) rfl k) ?_
      show Go p e below _ (s₁.setTop (mkF m 47 #[.val (.long q0), .second, .val (.long q1), .second, .val (.long q2), .second, .val (.int p3), .val (.int v1), .val (.long (-9223372036854775808 : Int64)), .second, .val (.long (9223372036854775807 : Int64)), .second, .unset, .unset, .unset, .unset, .unset] [(.long (-9223372036854775808 : Int64)), (.int (p3 &&& (7 : Int32)))]))
      refine Go.st (fun _ k => XS.lload X0.here hx rfl (hb hby at_47) rfl k) ?_
      show Go p e below _ (s₁.setTop (mkF m 49 #[.val (.long q0), .second, .val (.long q1), .second, .val (.long q2), .second, .val (.int p3), .val (.int v1), .val (.long (-9223372036854775808 : Int64)), .second, .val (.long (9223372036854775807 : Int64)), .second, .unset, .unset, .unset, .unset, .unset] [(.long (9223372036854775807 : Int64)), (.long (-9223372036854775808 : Int64)), (.int (p3 &&& (7 : Int32)))]))
      refine Go.st (fun _ k => XS.lload X0.here hx rfl (hb hby at_49) rfl k) ?_
      show Go p e below _ (s₁.setTop (mkF m 51 #[.val (.long q0), .second, .val (.long q1), .second, .val (.long q2), .second, .val (.int p3), .val (.int v1), .val (.long (-9223372036854775808 : Int64)), .second, .val (.long (9223372036854775807 : Int64)), .second, .unset, .unset, .unset, .unset, .unset] [(.long q2), (.long (9223372036854775807 : Int64)), (.long (-9223372036854775808 : Int64)), (.int (p3 &&& (7 : Int32)))]))
      obtain ⟨_, _, ⟨T34, L34, k34, n34⟩, -, X34, ⟨Lc34, hQ34, l34, y34, z34⟩, st34⟩ := Jvm.LawKit.callS X0 hx (y := (⟨"com/example/sortition/sortition/partition/TokenRangeContainsPinLaw", "pick", "(IJJJ)J"⟩ : MethodName)) hown (mvT hZ (hw _ (List.mem_of_getElem? (i := 0) rfl))) (mvT hZ (hw _ (List.mem_of_getElem? (i := 1) rfl))) (mvT hZ (hw _ (List.mem_of_getElem? (i := 2) rfl))) (mvT hZ (hw _ (List.mem_of_getElem? (i := 3) rfl))) (by decide) (backOf (W := 0) (rm1 l Z aZ hw [] (p3 &&& (7 : Int32)) (-9223372036854775808 : Int64) (9223372036854775807 : Int64) q2 h0 n0 ) hZ (hw _ (List.mem_of_getElem? (i := 3) rfl)) (hw _ (List.mem_of_getElem? (i := 2) rfl)) (by decide) (by decide)) (g := (mkF m 51 #[.val (.long q0), .second, .val (.long q1), .second, .val (.long q2), .second, .val (.int p3), .val (.int v1), .val (.long (-9223372036854775808 : Int64)), .second, .val (.long (9223372036854775807 : Int64)), .second, .unset, .unset, .unset, .unset, .unset] [(.long q2), (.long (9223372036854775807 : Int64)), (.long (-9223372036854775808 : Int64)), (.int (p3 &&& (7 : Int32)))])) rfl (by rw [hml]; rfl) (argsL := [(.int (p3 &&& (7 : Int32))), (.long (-9223372036854775808 : Int64)), (.long (9223372036854775807 : Int64)), (.long q2)]) (rest := []) (lenOf pd119675ca rfl) rfl (by show 2 * 0 + _ ≤ _; exact Nat.le_of_eq rfl) (hb hby at_51) (fun _ _ => ⟨rfl, e0, (by decide : 0 + 0 ≤ _), (by decide : 0 + 0 ≤ _)⟩)
      dsimp only [Pt.U, Pt.locs, Pt.cells, Pt.slots] at X34 l34 y34 z34 st34 hQ34
      subst l34 y34 z34
      obtain ⟨rfl, N34q, e34⟩ := hQ34
      have N34 := Fr.app N0 N34q
      refine Go.st (fun _ k => st34 _ k) ?_
      show Go p e below _ (T34.setTop (mkF m 54 #[.val (.long q0), .second, .val (.long q1), .second, .val (.long q2), .second, .val (.int p3), .val (.int v1), .val (.long (-9223372036854775808 : Int64)), .second, .val (.long (9223372036854775807 : Int64)), .second, .unset, .unset, .unset, .unset, .unset] [(.long (fPick (p3 &&& (7 : Int32)) (-9223372036854775808 : Int64) (9223372036854775807 : Int64) q2))]))
      generalize hv35 : (fPick (p3 &&& (7 : Int32)) (-9223372036854775808 : Int64) (9223372036854775807 : Int64) q2) = v35
      refine Go.st (fun _ k => XS.lstore X34.here hx rfl (hb hby at_54) rfl (l' := #[.val (.long q0), .second, .val (.long q1), .second, .val (.long q2), .second, .val (.int p3), .val (.int v1), .val (.long (-9223372036854775808 : Int64)), .second, .val (.long (9223372036854775807 : Int64)), .second, .val (.long v35), .second, .unset, .unset, .unset]) rfl k) ?_
      show Go p e below _ (T34.setTop (mkF m 56 #[.val (.long q0), .second, .val (.long q1), .second, .val (.long q2), .second, .val (.int p3), .val (.int v1), .val (.long (-9223372036854775808 : Int64)), .second, .val (.long (9223372036854775807 : Int64)), .second, .val (.long v35), .second, .unset, .unset, .unset] []))
      obtain ⟨T36, h36, X36, e36, E36, A36, D36, -, st36⟩ := newO X34 hx hZ hown (hw _ (List.mem_of_getElem? (i := 4) rfl)) (hw _ (List.mem_of_getElem? (i := 5) rfl)) (hw _ (List.mem_of_getElem? (i := 6) rfl)) e34 (g := (mkF m 56 #[.val (.long q0), .second, .val (.long q1), .second, .val (.long q2), .second, .val (.int p3), .val (.int v1), .val (.long (-9223372036854775808 : Int64)), .second, .val (.long (9223372036854775807 : Int64)), .second, .val (.long v35), .second, .unset, .unset, .unset] [])) rfl (hb hby at_56) (by decide) (by decide)
      obtain ⟨b36, g36⟩ : ∃ z, z = h0.size := ⟨_, rfl⟩
      have gg36 : n0 ≤ b36 := Nat.le_trans Z0 (Nat.le_of_eq g36.symm)
      rw [← g36] at A36 D36 st36
      have Z36 : n0 ≤ h36.size := Nat.le_trans Z0 E36.1
      have F36_new_first : Fld Z h36 b36 "com/example/sortition/sortition/partition/TokenRange" "first" "J" (.long (0 : Int64)) := D36 (Or.inr (hw _ (List.mem_of_getElem? (i := 19) rfl))) (ty := .long) (by decide)
      have F36_new_last : Fld Z h36 b36 "com/example/sortition/sortition/partition/TokenRange" "last" "J" (.long (0 : Int64)) := D36 (Or.inr (hw _ (List.mem_of_getElem? (i := 21) rfl))) (ty := .long) (by decide)
      refine Go.st (fun _ k => st36 _ k) ?_
      show Go p e below _ (T36.setTop (mkF m 59 #[.val (.long q0), .second, .val (.long q1), .second, .val (.long q2), .second, .val (.int p3), .val (.int v1), .val (.long (-9223372036854775808 : Int64)), .second, .val (.long (9223372036854775807 : Int64)), .second, .val (.long v35), .second, .unset, .unset, .unset] [(.ref b36)]))
      refine Go.st (fun _ k => XS.dup X36.here hx rfl (hb hby at_59) rfl rfl k) ?_
      show Go p e below _ (T36.setTop (mkF m 60 #[.val (.long q0), .second, .val (.long q1), .second, .val (.long q2), .second, .val (.int p3), .val (.int v1), .val (.long (-9223372036854775808 : Int64)), .second, .val (.long (9223372036854775807 : Int64)), .second, .val (.long v35), .second, .unset, .unset, .unset] [(.ref b36), (.ref b36)]))
      refine Go.st (fun _ k => XS.lload X36.here hx rfl (hb hby at_60) rfl k) ?_
      show Go p e below _ (T36.setTop (mkF m 62 #[.val (.long q0), .second, .val (.long q1), .second, .val (.long q2), .second, .val (.int p3), .val (.int v1), .val (.long (-9223372036854775808 : Int64)), .second, .val (.long (9223372036854775807 : Int64)), .second, .val (.long v35), .second, .unset, .unset, .unset] [(.long (-9223372036854775808 : Int64)), (.ref b36), (.ref b36)]))
      refine Go.st (fun _ k => XS.lload X36.here hx rfl (hb hby at_62) rfl k) ?_
      show Go p e below _ (T36.setTop (mkF m 64 #[.val (.long q0), .second, .val (.long q1), .second, .val (.long q2), .second, .val (.int p3), .val (.int v1), .val (.long (-9223372036854775808 : Int64)), .second, .val (.long (9223372036854775807 : Int64)), .second, .val (.long v35), .second, .unset, .unset, .unset] [(.long (9223372036854775807 : Int64)), (.long (-9223372036854775808 : Int64)), (.ref b36), (.ref b36)]))
      obtain ⟨_, _, ⟨T37, L37, k37, n37⟩, -, X37, ⟨Lc37, hQ37, l37, y37, z37⟩, st37⟩ := X36.specialBack hx (y := (⟨"com/example/sortition/sortition/partition/TokenRange", "<init>", "(JJ)V"⟩ : MethodName)) rfl hown (mvT hZ (hw _ (List.mem_of_getElem? (i := 7) rfl))) (mvT hZ (hw _ (List.mem_of_getElem? (i := 8) rfl))) (mvT hZ (hw _ (List.mem_of_getElem? (i := 9) rfl))) (by decide) (backOf (W := 1) (rm2 l Z aZ hw [] b36 (-9223372036854775808 : Int64) (9223372036854775807 : Int64) h36 n0 Z36 gg36 A36 F36_new_first F36_new_last) hZ (hw _ (List.mem_of_getElem? (i := 9) rfl)) (hw _ (List.mem_of_getElem? (i := 6) rfl)) (by decide) (by decide)) (g := (mkF m 64 #[.val (.long q0), .second, .val (.long q1), .second, .val (.long q2), .second, .val (.int p3), .val (.int v1), .val (.long (-9223372036854775808 : Int64)), .second, .val (.long (9223372036854775807 : Int64)), .second, .val (.long v35), .second, .unset, .unset, .unset] [(.long (9223372036854775807 : Int64)), (.long (-9223372036854775808 : Int64)), (.ref b36), (.ref b36)])) rfl (by rw [hml]; rfl) (Steps.refl _) (a := b36) (argsL := [(.long (-9223372036854775808 : Int64)), (.long (9223372036854775807 : Int64))]) (rest := [(.ref b36)]) (lenOf pdc8226161 rfl) rfl (by show 2 * 0 + _ ≤ _; exact Nat.le_of_eq rfl) (hb hby at_64) (fun _ _ => ⟨rfl, e36, (by decide : 1 + 0 ≤ _), (by decide : 2 + 0 ≤ _)⟩)
      dsimp only [Pt.U, Pt.locs, Pt.cells, Pt.slots] at X37 l37 y37 z37 st37 hQ37
      subst l37 y37 z37
      obtain ⟨rfl, N37q, K37q, E37q, Fc37_0, Fc37_1⟩ := hQ37
      have N37 := Fr.app N34 N37q
      have F37_E_b36 := A36.keep K37q
      have Zc37 : n0 ≤ T37.heap.size := Nat.le_trans Z36 K37q.1
      refine Go.st (fun _ k => st37.trans k) ?_
      show Go p e below _ (T37.setTop (mkF m 67 #[.val (.long q0), .second, .val (.long q1), .second, .val (.long q2), .second, .val (.int p3), .val (.int v1), .val (.long (-9223372036854775808 : Int64)), .second, .val (.long (9223372036854775807 : Int64)), .second, .val (.long v35), .second, .unset, .unset, .unset] [(.ref b36)]))
      refine Go.st (fun _ k => XS.astore X37.here hx rfl (hb hby at_67) rfl rfl (l' := #[.val (.long q0), .second, .val (.long q1), .second, .val (.long q2), .second, .val (.int p3), .val (.int v1), .val (.long (-9223372036854775808 : Int64)), .second, .val (.long (9223372036854775807 : Int64)), .second, .val (.long v35), .second, .val (.ref b36), .unset, .unset]) rfl k) ?_
      show Go p e below _ (T37.setTop (mkF m 69 #[.val (.long q0), .second, .val (.long q1), .second, .val (.long q2), .second, .val (.int p3), .val (.int v1), .val (.long (-9223372036854775808 : Int64)), .second, .val (.long (9223372036854775807 : Int64)), .second, .val (.long v35), .second, .val (.ref b36), .unset, .unset] []))
      refine Go.st (fun _ k => XS.aload X37.here hx rfl (hb hby at_69) rfl rfl k) ?_
      show Go p e below _ (T37.setTop (mkF m 71 #[.val (.long q0), .second, .val (.long q1), .second, .val (.long q2), .second, .val (.int p3), .val (.int v1), .val (.long (-9223372036854775808 : Int64)), .second, .val (.long (9223372036854775807 : Int64)), .second, .val (.long v35), .second, .val (.ref b36), .unset, .unset] [(.ref b36)]))
      refine Go.st (fun _ k => XS.lload X37.here hx rfl (hb hby at_71) rfl k) ?_
      show Go p e below _ (T37.setTop (mkF m 73 #[.val (.long q0), .second, .val (.long q1), .second, .val (.long q2), .second, .val (.int p3), .val (.int v1), .val (.long (-9223372036854775808 : Int64)), .second, .val (.long (9223372036854775807 : Int64)), .second, .val (.long v35), .second, .val (.ref b36), .unset, .unset] [(.long v35), (.ref b36)]))
      obtain ⟨cq38, kq38, q38a, q38b, q38c⟩ := isOf hZ rfl F37_E_b36
      obtain ⟨_, _, ⟨T38, L38, k38, n38⟩, -, X38, ⟨Lc38, hQ38, l38, y38, z38⟩, st38⟩ := X37.virtualBack hx (y := (⟨"com/example/sortition/sortition/partition/TokenRange", "contains", "(J)Z"⟩ : MethodName)) (z := (⟨"com/example/sortition/sortition/partition/TokenRange", "contains", "(J)Z"⟩ : MethodName)) hown (mvT hZ (hw _ (List.mem_of_getElem? (i := 22) rfl))) (mvT hZ (hw _ (List.mem_of_getElem? (i := 23) rfl))) (notFace_of_selects (args := #[]) (mvT hZ (hw _ (List.mem_of_getElem? (i := 25) rfl)))) (mvT hZ (hw _ (List.mem_of_getElem? (i := 25) rfl))) (mvT hZ (hw _ (List.mem_of_getElem? (i := 24) rfl))) (by decide) (backOf (W := 0) (rm5 l Z aZ hw [] b36 v35 (-9223372036854775808 : Int64) (9223372036854775807 : Int64) T37.heap n0 Fc37_0 Fc37_1) hZ (hw _ (List.mem_of_getElem? (i := 26) rfl)) (hw _ (List.mem_of_getElem? (i := 6) rfl)) (by decide) (by decide)) q38a q38c (g := (mkF m 73 #[.val (.long q0), .second, .val (.long q1), .second, .val (.long q2), .second, .val (.int p3), .val (.int v1), .val (.long (-9223372036854775808 : Int64)), .second, .val (.long (9223372036854775807 : Int64)), .second, .val (.long v35), .second, .val (.ref b36), .unset, .unset] [(.long v35), (.ref b36)])) rfl (by rw [hml]; rfl) (Steps.refl _) (argsL := [(.long v35)]) (rest := []) (lenOf pd56f9627 rfl) rfl (by show 2 * 0 + _ ≤ _; exact Nat.le_of_eq rfl) (hb hby at_73) (fun _ _ => ⟨rfl, rfl, (by decide : 1 + 0 ≤ _), (by decide : 2 + 0 ≤ _)⟩)
      dsimp only [Pt.U, Pt.locs, Pt.cells, Pt.slots] at X38 l38 y38 z38 st38 hQ38
      subst l38 y38 z38
      obtain ⟨rfl, N38q, e38⟩ := hQ38
      have N38 := Fr.app N37 N38q
      refine Go.st (fun _ k => st38.trans k) ?_
      show Go p e below _ (T38.setTop (mkF m 76 #[.val (.long q0), .second, .val (.long q1), .second, .val (.long q2), .second, .val (.int p3), .val (.int v1), .val (.long (-9223372036854775808 : Int64)), .second, .val (.long (9223372036854775807 : Int64)), .second, .val (.long v35), .second, .val (.ref b36), .unset, .unset] [(.int (fHolds v35 (-9223372036854775808 : Int64) (9223372036854775807 : Int64)))]))
      generalize hv39 : (fHolds v35 (-9223372036854775808 : Int64) (9223372036854775807 : Int64)) = v39
      refine Go.st (fun _ k => XS.istore X38.here hx rfl (hb hby at_76) rfl (l' := #[.val (.long q0), .second, .val (.long q1), .second, .val (.long q2), .second, .val (.int p3), .val (.int v1), .val (.long (-9223372036854775808 : Int64)), .second, .val (.long (9223372036854775807 : Int64)), .second, .val (.long v35), .second, .val (.ref b36), .val (.int v39), .unset]) rfl k) ?_
      show Go p e below _ (T38.setTop (mkF m 78 #[.val (.long q0), .second, .val (.long q1), .second, .val (.long q2), .second, .val (.int p3), .val (.int v1), .val (.long (-9223372036854775808 : Int64)), .second, .val (.long (9223372036854775807 : Int64)), .second, .val (.long v35), .second, .val (.ref b36), .val (.int v39), .unset] []))
      refine Go.st (fun _ k => XS.lload X38.here hx rfl (hb hby at_78) rfl k) ?_
      show Go p e below _ (T38.setTop (mkF m 80 #[.val (.long q0), .second, .val (.long q1), .second, .val (.long q2), .second, .val (.int p3), .val (.int v1), .val (.long (-9223372036854775808 : Int64)), .second, .val (.long (9223372036854775807 : Int64)), .second, .val (.long v35), .second, .val (.ref b36), .val (.int v39), .unset] [(.long (-9223372036854775808 : Int64))]))
      refine Go.st (fun _ k => XS.lload X38.here hx rfl (hb hby at_80) rfl k) ?_
      show Go p e below _ (T38.setTop (mkF m 82 #[.val (.long q0), .second, .val (.long q1), .second, .val (.long q2), .second, .val (.int p3), .val (.int v1), .val (.long (-9223372036854775808 : Int64)), .second, .val (.long (9223372036854775807 : Int64)), .second, .val (.long v35), .second, .val (.ref b36), .val (.int v39), .unset] [(.long (9223372036854775807 : Int64)), (.long (-9223372036854775808 : Int64))]))
      refine Go.st (fun _ k => XS.lcmp X38.here hx rfl (hb hby at_82) rfl k) ?_
      show Go p e below _ (T38.setTop (mkF m 83 #[.val (.long q0), .second, .val (.long q1), .second, .val (.long q2), .second, .val (.int p3), .val (.int v1), .val (.long (-9223372036854775808 : Int64)), .second, .val (.long (9223372036854775807 : Int64)), .second, .val (.long v35), .second, .val (.ref b36), .val (.int v39), .unset] [(.int (lcmpW (-9223372036854775808 : Int64) (9223372036854775807 : Int64)))]))
      by_cases hc40 : (9223372036854775807 : Int64) < (-9223372036854775808 : Int64)
      · show Go p e below _ (T38.setTop (mkF m 83 #[.val (.long q0), .second, .val (.long q1), .second, .val (.long q2), .second, .val (.int p3), .val (.int v1), .val (.long (-9223372036854775808 : Int64)), .second, .val (.long (9223372036854775807 : Int64)), .second, .val (.long v35), .second, .val (.ref b36), .val (.int v39), .unset] [(.int (lcmpW (-9223372036854775808 : Int64) (9223372036854775807 : Int64)))]))
        refine Go.st (fun _ k => XS.ifYes X38.here hx rfl (pc0 := 83) (pc' := 108) rfl (hb hby at_83) rfl ((if0 _ _).trans (tlt ((lw_gt _ _).mpr hc40)).2.2.1) (by decide) (by decide) k) ?_
        show Go p e below _ (T38.setTop (mkF m 108 #[.val (.long q0), .second, .val (.long q1), .second, .val (.long q2), .second, .val (.int p3), .val (.int v1), .val (.long (-9223372036854775808 : Int64)), .second, .val (.long (9223372036854775807 : Int64)), .second, .val (.long v35), .second, .val (.ref b36), .val (.int v39), .unset] []))
        refine Go.st (fun _ k => XS.iconst X38.here hx rfl (hb hby at_108) k) ?_
        show Go p e below _ (T38.setTop (mkF m 109 #[.val (.long q0), .second, .val (.long q1), .second, .val (.long q2), .second, .val (.int p3), .val (.int v1), .val (.long (-9223372036854775808 : Int64)), .second, .val (.long (9223372036854775807 : Int64)), .second, .val (.long v35), .second, .val (.ref b36), .val (.int v39), .unset] [(.int (0 : Int32))]))
        refine Go.st (fun _ k => XS.istore X38.here hx rfl (hb hby at_109) rfl (l' := #[.val (.long q0), .second, .val (.long q1), .second, .val (.long q2), .second, .val (.int p3), .val (.int v1), .val (.long (-9223372036854775808 : Int64)), .second, .val (.long (9223372036854775807 : Int64)), .second, .val (.long v35), .second, .val (.ref b36), .val (.int v39), .val (.int (0 : Int32))]) rfl k) ?_
        show Go p e below _ (T38.setTop (mkF m 111 #[.val (.long q0), .second, .val (.long q1), .second, .val (.long q2), .second, .val (.int p3), .val (.int v1), .val (.long (-9223372036854775808 : Int64)), .second, .val (.long (9223372036854775807 : Int64)), .second, .val (.long v35), .second, .val (.ref b36), .val (.int v39), .val (.int (0 : Int32))] []))
        refine Go.st (fun _ k => XS.iload X38.here hx rfl (hb hby at_111) rfl k) ?_
        show Go p e below _ (T38.setTop (mkF m 113 #[.val (.long q0), .second, .val (.long q1), .second, .val (.long q2), .second, .val (.int p3), .val (.int v1), .val (.long (-9223372036854775808 : Int64)), .second, .val (.long (9223372036854775807 : Int64)), .second, .val (.long v35), .second, .val (.ref b36), .val (.int v39), .val (.int (0 : Int32))] [(.int v39)]))
        refine Go.st (fun _ k => XS.iload X38.here hx rfl (hb hby at_113) rfl k) ?_
        show Go p e below _ (T38.setTop (mkF m 115 #[.val (.long q0), .second, .val (.long q1), .second, .val (.long q2), .second, .val (.int p3), .val (.int v1), .val (.long (-9223372036854775808 : Int64)), .second, .val (.long (9223372036854775807 : Int64)), .second, .val (.long v35), .second, .val (.ref b36), .val (.int v39), .val (.int (0 : Int32))] [(.int (0 : Int32)), (.int v39)]))
        refine Go.st (fun _ k => XS.icmpNo X38.here hx rfl (hb hby at_115) rfl (teq (hv39.symm.trans (own_not hc40 _))).2 k) ?_
        show Go p e below _ (T38.setTop (mkF m 118 #[.val (.long q0), .second, .val (.long q1), .second, .val (.long q2), .second, .val (.int p3), .val (.int v1), .val (.long (-9223372036854775808 : Int64)), .second, .val (.long (9223372036854775807 : Int64)), .second, .val (.long v35), .second, .val (.ref b36), .val (.int v39), .val (.int (0 : Int32))] []))
        refine Go.st (fun _ k => XS.iconst X38.here hx rfl (hb hby at_118) k) ?_
        show Go p e below _ (T38.setTop (mkF m 119 #[.val (.long q0), .second, .val (.long q1), .second, .val (.long q2), .second, .val (.int p3), .val (.int v1), .val (.long (-9223372036854775808 : Int64)), .second, .val (.long (9223372036854775807 : Int64)), .second, .val (.long v35), .second, .val (.ref b36), .val (.int v39), .val (.int (0 : Int32))] [(.int (1 : Int32))]))
        refine Go.st (fun _ k => XS.goto X38.here hx rfl (pc0 := 119) (pc' := 123) rfl (hb hby at_119) (by decide) (by decide) k) ?_
        show Go p e below _ (T38.setTop (mkF m 123 #[.val (.long q0), .second, .val (.long q1), .second, .val (.long q2), .second, .val (.int p3), .val (.int v1), .val (.long (-9223372036854775808 : Int64)), .second, .val (.long (9223372036854775807 : Int64)), .second, .val (.long v35), .second, .val (.ref b36), .val (.int v39), .val (.int (0 : Int32))] [(.int (1 : Int32))]))
        obtain ⟨fs, hr, hrun, hended, hW, hsame⟩ := X38.leave (v := some (.int (1 : Int32))) (fun h => by rw [Bd.returns] at h; cases h)
        refine ⟨_, _, retN X38 hx (t := .boolean) Bd.returns (by simp) (hb hby at_123) hr, hrun, hended, _, _, rfl, ?_, ⟨_, rfl⟩, hW, hsame.mono (by decide) (by decide)⟩
        show Q_rm0 Z q0 q1 q2 p3 h0 n0 _ T38.heap _
        rw [e38]
        exact ⟨rfl, N38⟩
      · show Go p e below _ (T38.setTop (mkF m 83 #[.val (.long q0), .second, .val (.long q1), .second, .val (.long q2), .second, .val (.int p3), .val (.int v1), .val (.long (-9223372036854775808 : Int64)), .second, .val (.long (9223372036854775807 : Int64)), .second, .val (.long v35), .second, .val (.ref b36), .val (.int v39), .unset] [(.int (lcmpW (-9223372036854775808 : Int64) (9223372036854775807 : Int64)))]))
        refine Go.st (fun _ k => XS.ifNo X38.here hx rfl (hb hby at_83) rfl ((if0 _ _).trans (flt (fun z => hc40 ((lw_gt _ _).mp z))).2.2.1) k) ?_
        show Go p e below _ (T38.setTop (mkF m 86 #[.val (.long q0), .second, .val (.long q1), .second, .val (.long q2), .second, .val (.int p3), .val (.int v1), .val (.long (-9223372036854775808 : Int64)), .second, .val (.long (9223372036854775807 : Int64)), .second, .val (.long v35), .second, .val (.ref b36), .val (.int v39), .unset] []))
        refine Go.st (fun _ k => XS.lload X38.here hx rfl (hb hby at_86) rfl k) ?_
        show Go p e below _ (T38.setTop (mkF m 88 #[.val (.long q0), .second, .val (.long q1), .second, .val (.long q2), .second, .val (.int p3), .val (.int v1), .val (.long (-9223372036854775808 : Int64)), .second, .val (.long (9223372036854775807 : Int64)), .second, .val (.long v35), .second, .val (.ref b36), .val (.int v39), .unset] [(.long (-9223372036854775808 : Int64))]))
        refine Go.st (fun _ k => XS.lload X38.here hx rfl (hb hby at_88) rfl k) ?_
        show Go p e below _ (T38.setTop (mkF m 90 #[.val (.long q0), .second, .val (.long q1), .second, .val (.long q2), .second, .val (.int p3), .val (.int v1), .val (.long (-9223372036854775808 : Int64)), .second, .val (.long (9223372036854775807 : Int64)), .second, .val (.long v35), .second, .val (.ref b36), .val (.int v39), .unset] [(.long v35), (.long (-9223372036854775808 : Int64))]))
        refine Go.st (fun _ k => XS.lload X38.here hx rfl (hb hby at_90) rfl k) ?_
        show Go p e below _ (T38.setTop (mkF m 92 #[.val (.long q0), .second, .val (.long q1), .second, .val (.long q2), .second, .val (.int p3), .val (.int v1), .val (.long (-9223372036854775808 : Int64)), .second, .val (.long (9223372036854775807 : Int64)), .second, .val (.long v35), .second, .val (.ref b36), .val (.int v39), .unset] [(.long (9223372036854775807 : Int64)), (.long v35), (.long (-9223372036854775808 : Int64))]))
        obtain ⟨_, _, ⟨T41, L41, k41, n41⟩, -, X41, ⟨Lc41, hQ41, l41, y41, z41⟩, st41⟩ := Jvm.LawKit.callS X38 hx (y := (⟨"java/lang/Math", "min", "(JJ)J"⟩ : MethodName)) hown (mvT hZ (hw _ (List.mem_of_getElem? (i := 27) rfl))) (mvT hZ (hw _ (List.mem_of_getElem? (i := 28) rfl))) (mvT hZ (hw _ (List.mem_of_getElem? (i := 29) rfl))) (mvT hZ (hw _ (List.mem_of_getElem? (i := 30) rfl))) (by decide) (backOf (W := 2) (rm6 l Z aZ hw [] v35 (9223372036854775807 : Int64) T37.heap n0 ) hZ (hw _ (List.mem_of_getElem? (i := 30) rfl)) (hw _ (List.mem_of_getElem? (i := 29) rfl)) (by decide) (by decide)) (g := (mkF m 92 #[.val (.long q0), .second, .val (.long q1), .second, .val (.long q2), .second, .val (.int p3), .val (.int v1), .val (.long (-9223372036854775808 : Int64)), .second, .val (.long (9223372036854775807 : Int64)), .second, .val (.long v35), .second, .val (.ref b36), .val (.int v39), .unset] [(.long (9223372036854775807 : Int64)), (.long v35), (.long (-9223372036854775808 : Int64))])) rfl (by rw [hml]; rfl) (argsL := [(.long v35), (.long (9223372036854775807 : Int64))]) (rest := [(.long (-9223372036854775808 : Int64))]) (lenOf pdc8226155 rfl) rfl (by show 2 * 0 + _ ≤ _; exact Nat.le_of_eq rfl) (hb hby at_92) (fun _ _ => ⟨rfl, e38, (by decide : 1 + 0 ≤ _), (by decide : 2 + 0 ≤ _)⟩)
        dsimp only [Pt.U, Pt.locs, Pt.cells, Pt.slots] at X41 l41 y41 z41 st41 hQ41
        subst l41 y41 z41
        obtain ⟨rfl, N41q, e41⟩ := hQ41
        have N41 := Fr.app N38 N41q
        refine Go.st (fun _ k => st41 _ k) ?_
        show Go p e below _ (T41.setTop (mkF m 95 #[.val (.long q0), .second, .val (.long q1), .second, .val (.long q2), .second, .val (.int p3), .val (.int v1), .val (.long (-9223372036854775808 : Int64)), .second, .val (.long (9223372036854775807 : Int64)), .second, .val (.long v35), .second, .val (.ref b36), .val (.int v39), .unset] [(.long (fMin v35 (9223372036854775807 : Int64))), (.long (-9223372036854775808 : Int64))]))
        obtain ⟨_, _, ⟨T42, L42, k42, n42⟩, -, X42, ⟨Lc42, hQ42, l42, y42, z42⟩, st42⟩ := Jvm.LawKit.callS X41 hx (y := (⟨"java/lang/Math", "max", "(JJ)J"⟩ : MethodName)) hown (mvT hZ (hw _ (List.mem_of_getElem? (i := 31) rfl))) (mvT hZ (hw _ (List.mem_of_getElem? (i := 32) rfl))) (mvT hZ (hw _ (List.mem_of_getElem? (i := 29) rfl))) (mvT hZ (hw _ (List.mem_of_getElem? (i := 33) rfl))) (by decide) (backOf (W := 0) (rm7 l Z aZ hw [] (-9223372036854775808 : Int64) (fMin v35 (9223372036854775807 : Int64)) T37.heap n0 ) hZ (hw _ (List.mem_of_getElem? (i := 33) rfl)) (hw _ (List.mem_of_getElem? (i := 29) rfl)) (by decide) (by decide)) (g := (mkF m 95 #[.val (.long q0), .second, .val (.long q1), .second, .val (.long q2), .second, .val (.int p3), .val (.int v1), .val (.long (-9223372036854775808 : Int64)), .second, .val (.long (9223372036854775807 : Int64)), .second, .val (.long v35), .second, .val (.ref b36), .val (.int v39), .unset] [(.long (fMin v35 (9223372036854775807 : Int64))), (.long (-9223372036854775808 : Int64))])) rfl (by rw [hml]; rfl) (argsL := [(.long (-9223372036854775808 : Int64)), (.long (fMin v35 (9223372036854775807 : Int64)))]) (rest := []) (lenOf pdc8226155 rfl) rfl (by show 2 * 0 + _ ≤ _; exact Nat.le_of_eq rfl) (hb hby at_95) (fun _ _ => ⟨rfl, e41, (by decide : 1 + 0 ≤ _), (by decide : 2 + 0 ≤ _)⟩)
        dsimp only [Pt.U, Pt.locs, Pt.cells, Pt.slots] at X42 l42 y42 z42 st42 hQ42
        subst l42 y42 z42
        obtain ⟨rfl, N42q, e42⟩ := hQ42
        have N42 := Fr.app N41 N42q
        refine Go.st (fun _ k => st42 _ k) ?_
        show Go p e below _ (T42.setTop (mkF m 98 #[.val (.long q0), .second, .val (.long q1), .second, .val (.long q2), .second, .val (.int p3), .val (.int v1), .val (.long (-9223372036854775808 : Int64)), .second, .val (.long (9223372036854775807 : Int64)), .second, .val (.long v35), .second, .val (.ref b36), .val (.int v39), .unset] [(.long (fMax (-9223372036854775808 : Int64) (fMin v35 (9223372036854775807 : Int64))))]))
        refine Go.st (fun _ k => XS.lload X42.here hx rfl (hb hby at_98) rfl k) ?_
        show Go p e below _ (T42.setTop (mkF m 100 #[.val (.long q0), .second, .val (.long q1), .second, .val (.long q2), .second, .val (.int p3), .val (.int v1), .val (.long (-9223372036854775808 : Int64)), .second, .val (.long (9223372036854775807 : Int64)), .second, .val (.long v35), .second, .val (.ref b36), .val (.int v39), .unset] [(.long v35), (.long (fMax (-9223372036854775808 : Int64) (fMin v35 (9223372036854775807 : Int64))))]))
        refine Go.st (fun _ k => XS.lcmp X42.here hx rfl (hb hby at_100) rfl k) ?_
        show Go p e below _ (T42.setTop (mkF m 101 #[.val (.long q0), .second, .val (.long q1), .second, .val (.long q2), .second, .val (.int p3), .val (.int v1), .val (.long (-9223372036854775808 : Int64)), .second, .val (.long (9223372036854775807 : Int64)), .second, .val (.long v35), .second, .val (.ref b36), .val (.int v39), .unset] [(.int (lcmpW (fMax (-9223372036854775808 : Int64) (fMin v35 (9223372036854775807 : Int64))) v35))]))
        by_cases hc43 : (fMax (-9223372036854775808 : Int64) (fMin v35 (9223372036854775807 : Int64))) = v35
        · show Go p e below _ (T42.setTop (mkF m 101 #[.val (.long q0), .second, .val (.long q1), .second, .val (.long q2), .second, .val (.int p3), .val (.int v1), .val (.long (-9223372036854775808 : Int64)), .second, .val (.long (9223372036854775807 : Int64)), .second, .val (.long v35), .second, .val (.ref b36), .val (.int v39), .unset] [(.int (lcmpW (fMax (-9223372036854775808 : Int64) (fMin v35 (9223372036854775807 : Int64))) v35))]))
          refine Go.st (fun _ k => XS.ifNo X42.here hx rfl (hb hby at_101) rfl ((if0 _ _).trans (teq ((lw_eq _ _).mpr hc43)).2) k) ?_
          show Go p e below _ (T42.setTop (mkF m 104 #[.val (.long q0), .second, .val (.long q1), .second, .val (.long q2), .second, .val (.int p3), .val (.int v1), .val (.long (-9223372036854775808 : Int64)), .second, .val (.long (9223372036854775807 : Int64)), .second, .val (.long v35), .second, .val (.ref b36), .val (.int v39), .unset] []))
          refine Go.st (fun _ k => XS.iconst X42.here hx rfl (hb hby at_104) k) ?_
          show Go p e below _ (T42.setTop (mkF m 105 #[.val (.long q0), .second, .val (.long q1), .second, .val (.long q2), .second, .val (.int p3), .val (.int v1), .val (.long (-9223372036854775808 : Int64)), .second, .val (.long (9223372036854775807 : Int64)), .second, .val (.long v35), .second, .val (.ref b36), .val (.int v39), .unset] [(.int (1 : Int32))]))
          refine Go.st (fun _ k => XS.goto X42.here hx rfl (pc0 := 105) (pc' := 109) rfl (hb hby at_105) (by decide) (by decide) k) ?_
          show Go p e below _ (T42.setTop (mkF m 109 #[.val (.long q0), .second, .val (.long q1), .second, .val (.long q2), .second, .val (.int p3), .val (.int v1), .val (.long (-9223372036854775808 : Int64)), .second, .val (.long (9223372036854775807 : Int64)), .second, .val (.long v35), .second, .val (.ref b36), .val (.int v39), .unset] [(.int (1 : Int32))]))
          refine Go.st (fun _ k => XS.istore X42.here hx rfl (hb hby at_109) rfl (l' := #[.val (.long q0), .second, .val (.long q1), .second, .val (.long q2), .second, .val (.int p3), .val (.int v1), .val (.long (-9223372036854775808 : Int64)), .second, .val (.long (9223372036854775807 : Int64)), .second, .val (.long v35), .second, .val (.ref b36), .val (.int v39), .val (.int (1 : Int32))]) rfl k) ?_
          show Go p e below _ (T42.setTop (mkF m 111 #[.val (.long q0), .second, .val (.long q1), .second, .val (.long q2), .second, .val (.int p3), .val (.int v1), .val (.long (-9223372036854775808 : Int64)), .second, .val (.long (9223372036854775807 : Int64)), .second, .val (.long v35), .second, .val (.ref b36), .val (.int v39), .val (.int (1 : Int32))] []))
          refine Go.st (fun _ k => XS.iload X42.here hx rfl (hb hby at_111) rfl k) ?_
          show Go p e below _ (T42.setTop (mkF m 113 #[.val (.long q0), .second, .val (.long q1), .second, .val (.long q2), .second, .val (.int p3), .val (.int v1), .val (.long (-9223372036854775808 : Int64)), .second, .val (.long (9223372036854775807 : Int64)), .second, .val (.long v35), .second, .val (.ref b36), .val (.int v39), .val (.int (1 : Int32))] [(.int v39)]))
          refine Go.st (fun _ k => XS.iload X42.here hx rfl (hb hby at_113) rfl k) ?_
          show Go p e below _ (T42.setTop (mkF m 115 #[.val (.long q0), .second, .val (.long q1), .second, .val (.long q2), .second, .val (.int p3), .val (.int v1), .val (.long (-9223372036854775808 : Int64)), .second, .val (.long (9223372036854775807 : Int64)), .second, .val (.long v35), .second, .val (.ref b36), .val (.int v39), .val (.int (1 : Int32))] [(.int (1 : Int32)), (.int v39)]))
          refine Go.st (fun _ k => XS.icmpNo X42.here hx rfl (hb hby at_115) rfl (teq (hv39.symm.trans (own_yes hc40 hc43))).2 k) ?_
          show Go p e below _ (T42.setTop (mkF m 118 #[.val (.long q0), .second, .val (.long q1), .second, .val (.long q2), .second, .val (.int p3), .val (.int v1), .val (.long (-9223372036854775808 : Int64)), .second, .val (.long (9223372036854775807 : Int64)), .second, .val (.long v35), .second, .val (.ref b36), .val (.int v39), .val (.int (1 : Int32))] []))
          refine Go.st (fun _ k => XS.iconst X42.here hx rfl (hb hby at_118) k) ?_
          show Go p e below _ (T42.setTop (mkF m 119 #[.val (.long q0), .second, .val (.long q1), .second, .val (.long q2), .second, .val (.int p3), .val (.int v1), .val (.long (-9223372036854775808 : Int64)), .second, .val (.long (9223372036854775807 : Int64)), .second, .val (.long v35), .second, .val (.ref b36), .val (.int v39), .val (.int (1 : Int32))] [(.int (1 : Int32))]))
          refine Go.st (fun _ k => XS.goto X42.here hx rfl (pc0 := 119) (pc' := 123) rfl (hb hby at_119) (by decide) (by decide) k) ?_
          show Go p e below _ (T42.setTop (mkF m 123 #[.val (.long q0), .second, .val (.long q1), .second, .val (.long q2), .second, .val (.int p3), .val (.int v1), .val (.long (-9223372036854775808 : Int64)), .second, .val (.long (9223372036854775807 : Int64)), .second, .val (.long v35), .second, .val (.ref b36), .val (.int v39), .val (.int (1 : Int32))] [(.int (1 : Int32))]))
          obtain ⟨fs, hr, hrun, hended, hW, hsame⟩ := X42.leave (v := some (.int (1 : Int32))) (fun h => by rw [Bd.returns] at h; cases h)
          refine ⟨_, _, retN X42 hx (t := .boolean) Bd.returns (by simp) (hb hby at_123) hr, hrun, hended, _, _, rfl, ?_, ⟨_, rfl⟩, hW, hsame.mono (by decide) (by decide)⟩
          show Q_rm0 Z q0 q1 q2 p3 h0 n0 _ T42.heap _
          rw [e42]
          exact ⟨rfl, N42⟩
        · show Go p e below _ (T42.setTop (mkF m 101 #[.val (.long q0), .second, .val (.long q1), .second, .val (.long q2), .second, .val (.int p3), .val (.int v1), .val (.long (-9223372036854775808 : Int64)), .second, .val (.long (9223372036854775807 : Int64)), .second, .val (.long v35), .second, .val (.ref b36), .val (.int v39), .unset] [(.int (lcmpW (fMax (-9223372036854775808 : Int64) (fMin v35 (9223372036854775807 : Int64))) v35))]))
          refine Go.st (fun _ k => XS.ifYes X42.here hx rfl (pc0 := 101) (pc' := 108) rfl (hb hby at_101) rfl ((if0 _ _).trans (feq (fun z => hc43 ((lw_eq _ _).mp z))).2) (by decide) (by decide) k) ?_
          show Go p e below _ (T42.setTop (mkF m 108 #[.val (.long q0), .second, .val (.long q1), .second, .val (.long q2), .second, .val (.int p3), .val (.int v1), .val (.long (-9223372036854775808 : Int64)), .second, .val (.long (9223372036854775807 : Int64)), .second, .val (.long v35), .second, .val (.ref b36), .val (.int v39), .unset] []))
          refine Go.st (fun _ k => XS.iconst X42.here hx rfl (hb hby at_108) k) ?_
          show Go p e below _ (T42.setTop (mkF m 109 #[.val (.long q0), .second, .val (.long q1), .second, .val (.long q2), .second, .val (.int p3), .val (.int v1), .val (.long (-9223372036854775808 : Int64)), .second, .val (.long (9223372036854775807 : Int64)), .second, .val (.long v35), .second, .val (.ref b36), .val (.int v39), .unset] [(.int (0 : Int32))]))
          refine Go.st (fun _ k => XS.istore X42.here hx rfl (hb hby at_109) rfl (l' := #[.val (.long q0), .second, .val (.long q1), .second, .val (.long q2), .second, .val (.int p3), .val (.int v1), .val (.long (-9223372036854775808 : Int64)), .second, .val (.long (9223372036854775807 : Int64)), .second, .val (.long v35), .second, .val (.ref b36), .val (.int v39), .val (.int (0 : Int32))]) rfl k) ?_
          show Go p e below _ (T42.setTop (mkF m 111 #[.val (.long q0), .second, .val (.long q1), .second, .val (.long q2), .second, .val (.int p3), .val (.int v1), .val (.long (-9223372036854775808 : Int64)), .second, .val (.long (9223372036854775807 : Int64)), .second, .val (.long v35), .second, .val (.ref b36), .val (.int v39), .val (.int (0 : Int32))] []))
          refine Go.st (fun _ k => XS.iload X42.here hx rfl (hb hby at_111) rfl k) ?_
          show Go p e below _ (T42.setTop (mkF m 113 #[.val (.long q0), .second, .val (.long q1), .second, .val (.long q2), .second, .val (.int p3), .val (.int v1), .val (.long (-9223372036854775808 : Int64)), .second, .val (.long (9223372036854775807 : Int64)), .second, .val (.long v35), .second, .val (.ref b36), .val (.int v39), .val (.int (0 : Int32))] [(.int v39)]))
          refine Go.st (fun _ k => XS.iload X42.here hx rfl (hb hby at_113) rfl k) ?_
          show Go p e below _ (T42.setTop (mkF m 115 #[.val (.long q0), .second, .val (.long q1), .second, .val (.long q2), .second, .val (.int p3), .val (.int v1), .val (.long (-9223372036854775808 : Int64)), .second, .val (.long (9223372036854775807 : Int64)), .second, .val (.long v35), .second, .val (.ref b36), .val (.int v39), .val (.int (0 : Int32))] [(.int (0 : Int32)), (.int v39)]))
          refine Go.st (fun _ k => XS.icmpNo X42.here hx rfl (hb hby at_115) rfl (teq (hv39.symm.trans (own_no hc40 hc43))).2 k) ?_
          show Go p e below _ (T42.setTop (mkF m 118 #[.val (.long q0), .second, .val (.long q1), .second, .val (.long q2), .second, .val (.int p3), .val (.int v1), .val (.long (-9223372036854775808 : Int64)), .second, .val (.long (9223372036854775807 : Int64)), .second, .val (.long v35), .second, .val (.ref b36), .val (.int v39), .val (.int (0 : Int32))] []))
          refine Go.st (fun _ k => XS.iconst X42.here hx rfl (hb hby at_118) k) ?_
          show Go p e below _ (T42.setTop (mkF m 119 #[.val (.long q0), .second, .val (.long q1), .second, .val (.long q2), .second, .val (.int p3), .val (.int v1), .val (.long (-9223372036854775808 : Int64)), .second, .val (.long (9223372036854775807 : Int64)), .second, .val (.long v35), .second, .val (.ref b36), .val (.int v39), .val (.int (0 : Int32))] [(.int (1 : Int32))]))
          refine Go.st (fun _ k => XS.goto X42.here hx rfl (pc0 := 119) (pc' := 123) rfl (hb hby at_119) (by decide) (by decide) k) ?_
          show Go p e below _ (T42.setTop (mkF m 123 #[.val (.long q0), .second, .val (.long q1), .second, .val (.long q2), .second, .val (.int p3), .val (.int v1), .val (.long (-9223372036854775808 : Int64)), .second, .val (.long (9223372036854775807 : Int64)), .second, .val (.long v35), .second, .val (.ref b36), .val (.int v39), .val (.int (0 : Int32))] [(.int (1 : Int32))]))
          obtain ⟨fs, hr, hrun, hended, hW, hsame⟩ := X42.leave (v := some (.int (1 : Int32))) (fun h => by rw [Bd.returns] at h; cases h)
          refine ⟨_, _, retN X42 hx (t := .boolean) Bd.returns (by simp) (hb hby at_123) hr, hrun, hended, _, _, rfl, ?_, ⟨_, rfl⟩, hW, hsame.mono (by decide) (by decide)⟩
          show Q_rm0 Z q0 q1 q2 p3 h0 n0 _ T42.heap _
          rw [e42]
          exact ⟨rfl, N42⟩
set_option maxRecDepth 65536 in
set_option maxHeartbeats 40000000 in
theorem comes_1 {Post : Tables → Env → Array Value → State → Outcome → State → Prop} (hpost : ∀ tb e args s v u, (limb_1_1.after args s (.returned v) u = true ∧ limb_1_2.after args s (.returned v) u = true ∧ True) → FrameEnd s (.returned v) u (Jvm.fieldLocs frame_1_writes args s ++ Jvm.arrayLocs frame_1_arrays args s ++ Jvm.staticLocs frame_1_statics s) 16 128 → Post tb e args s (.returned v) u) :
    ArmFor flags0 classFile x code maxLocals ret World_1 tables_1 room_1 Calls_1 rest_1 Pre_1 Post := by
  intro l hfl _ _ p e ha hc hk s m args below hf hA hF happ hP
  obtain ⟨hcalls, hrest, hpre⟩ := hP
  obtain ⟨-, -, -, hnamed, -, -, -, hat⟩ := (Spec.applies_iff hf).mp happ
  obtain ⟨hg, hn⟩ := and_e (Cond.before_iff.mp (show (Jvm.Cond.and given_1 narrow_1).before args s = true from hpre))
  obtain ⟨g0, gr0⟩ := and_e hg
  obtain ⟨gi0, gr1⟩ := and_e gr0
  obtain ⟨gi1, gr2⟩ := and_e gr1
  obtain ⟨gi2, gr3⟩ := and_e gr2
  have gi3 := gr3
  obtain ⟨w0, w1, w2, w3, rfl⟩ : ∃ w0 w1 w2 w3 : Value, args = #[w0, w1, w2, w3] := by
    have hs : args.size = 4 := by simpa [Cond.value, given_1] using g0
    obtain ⟨L⟩ := args
    match L, hs with
    | [w0, w1, w2, w3], _ => exact ⟨w0, w1, w2, w3, rfl⟩
  have hw := fun d (hd : d ∈ tables_1) => atoms_spec (ws := Jvm.Cond.code x code maxLocals ret :: tables_1) hat d (List.mem_cons_of_mem _ hd)
  obtain ⟨i0, ei0⟩ := isL_v gi0
  obtain rfl : w0 = (.long i0) := Option.some.inj ei0
  obtain ⟨i1, ei1⟩ := isL_v gi1
  obtain rfl : w1 = (.long i1) := Option.some.inj ei1
  obtain ⟨i2, ei2⟩ := isL_v gi2
  obtain rfl : w2 = (.long i2) := Option.some.inj ei2
  obtain ⟨i3, ei3⟩ := is_v gi3
  obtain rfl : w3 = (.int i3) := Option.some.inj ei3
  obtain ⟨n, o, h1, h2, h3, _, L, rfl, ⟨rfl, N⟩, hq⟩ := rm0 l s _ hw tables_1 i0 i1 i2 i3  s.heap s.heap.size (Nat.le_refl _) p e ha hc hk s m _ below hf ((Spec.applies_iff_loose hf).mp happ).1 ⟨rfl, State.Warmed39.refl s, rfl⟩ trivial
  refine ⟨n, _, h1, h2, h3, hpost _ _ _ _ _ _ ⟨Cond.after_iff.mpr rfl, Cond.after_iff.mpr (eq_i res_at (Term.int_eval (1)) rfl), trivial⟩ ⟨hq.1, hq.2.1, (hq.2.2.sift fun y hy => Or.inr (N y hy)).mono (by decide) (by decide)⟩⟩
theorem main_1_1 : Claimed_1_1 := comes_1 fun _ _ _ _ _ _ h hF => ⟨h.1, hF⟩
theorem main_1_2 : Claimed_1_2 := comes_1 fun _ _ _ _ _ _ h hF => ⟨h.2.1, hF⟩
end Jvm.Pilot.@@N@@
namespace Jvm.Pilot.@@N@@
open Jvm Jvm.ClassFile Sem Op Lib Jvm.Free Jvm.Stand Jvm.Pilot.@@N@@.Jvm.D
/-! MADE BY PROGRAM (witnessworld.py) out of the Statement's table words and the real class files: 11 classes; the members and pool entries that the words name. The judged class is class 1, her method 2. -/
namespace start1
open Jvm.ClassFile
def u (s : String) : CpInfo := .utf8 (stringToUtf16 s)
/-- a pool by its gaps: so many unusable entries, then the entry; so many at the end -/
def gap : Nat → List CpInfo → List CpInfo
  | 0, r => r
  | n + 1, r => .unusable :: gap n r
def poolList (es : List (Nat × CpInfo)) (last : Nat) : List CpInfo := es.foldr (fun e r => gap e.1 (e.2 :: r)) (gap last [])
def pool (es : List (Nat × CpInfo)) (last : Nat) : Array CpInfo := ⟨poolList es last⟩
def fileOf (pool : Array CpInfo) (this : Nat) (attrs : Array Attribute := #[]) (ms : Array MethodInfo := #[]) (fl : Nat := 33) (sup : Nat := 0) (ifs : Array Nat := #[]) (fds : Array FieldInfo := #[]) : ClassFile where
  minorVersion := 0
  majorVersion := 65
  constantPool := pool
  accessFlags := fl
  thisClass := this
  superClass := sup
  interfaces := ifs
  fields := fds
  methods := ms
  attributes := attrs
def plain (name : String) (sup : Option ClassId) : Class where
  name := name
  kind := .ordinary
  loader := none
  accessFlags := 33
  super := sup
  interfaces := #[]
  cf := none
  fields := #[]
  methods := #[]
  instanceTypes := #[]
  staticTypes := #[]
  resolved := #[]
  callSites := []
  init := .initialized
  statics := none
  mirror := none

def pool0 : Array CpInfo := pool [(5, u "<init>"), (0, u "()V"), (1, .class_ 10), (1, u "java/lang/Object")] 113

def k0c0 : Code := { maxStack := 0, maxLocals := 1, code := object_method_1_code, exceptionTable := #[], attributes := #[] }
def k0m0 : Method := { name := "<init>", desc := "()V", sig := { parameters := [], returnType := none }, accessFlags := 1, code := some k0c0 }
/-- java/lang/Object -/
def k0 : Class := { plain "java/lang/Object" none with
  accessFlags := 33
  interfaces := #[]
  cf := some (fileOf pool0 8 #[] #[{ accessFlags := 1, nameIndex := 5, descriptorIndex := 6, attributes := #[] }] 33 0 #[] #[])
  fields := #[]
  methods := #[k0m0]
  instanceTypes := #[]
  staticTypes := #[]
  resolved := Array.replicate 124 none
  statics := none }

def pool1 : Array CpInfo := pool [(2, .class_ 4), (1, u "java/lang/Object"), (0, u "<init>"), (0, u "()V"), (2, .long 9223372036854775808), (1, .long 9223372036854775807), (1, .methodref 14 15), (0, .class_ 16), (0, .nameAndType 17 18), (0, u "com/example/sortition/sortition/partition/TokenRangeContainsPinLaw"), (0, u "pick"), (0, u "(IJJJ)J"), (0, .class_ 20), (0, u "com/example/sortition/sortition/partition/TokenRange"), (0, .methodref 19 22), (0, .nameAndType 5 23), (0, u "(JJ)V"), (0, .methodref 19 25), (0, .nameAndType 26 27), (0, u "contains"), (0, u "(J)Z"), (0, .methodref 29 30), (0, .class_ 31), (0, .nameAndType 32 33), (0, u "java/lang/Math"), (0, u "min"), (0, u "(JJ)J"), (0, .methodref 29 35), (0, .nameAndType 36 33), (0, u "max"), (3, u "law"), (0, u "(JJJI)Z")] 2

def k1m0 : Method := { name := "<init>", desc := "()V", sig := { parameters := [], returnType := none }, accessFlags := 2, code := none }
def k1c1 : Code := { maxStack := 4, maxLocals := 7, code := method_2_code, exceptionTable := #[], attributes := #[] }
def k1m1 : Method := { name := "pick", desc := "(IJJJ)J", sig := { parameters := [.int, .long, .long, .long], returnType := some .long }, accessFlags := 10, code := some k1c1 }
def k1c2 : Code := { maxStack := 7, maxLocals := 17, code := code, exceptionTable := #[], attributes := #[] }
def k1m2 : Method := { name := "law", desc := "(JJJI)Z", sig := { parameters := [.long, .long, .long, .int], returnType := some .boolean }, accessFlags := 9, code := some k1c2 }
/-- com/example/sortition/sortition/partition/TokenRangeContainsPinLaw -/
def k1 : Class := { plain "com/example/sortition/sortition/partition/TokenRangeContainsPinLaw" (some 0) with
  accessFlags := 49
  interfaces := #[]
  cf := some (fileOf pool1 14 #[] #[{ accessFlags := 2, nameIndex := 5, descriptorIndex := 6, attributes := #[] }, { accessFlags := 10, nameIndex := 17, descriptorIndex := 18, attributes := #[] }, { accessFlags := 9, nameIndex := 40, descriptorIndex := 41, attributes := #[] }] 49 2 #[] #[])
  fields := #[]
  methods := #[k1m0, k1m1, k1m2]
  instanceTypes := #[]
  staticTypes := #[]
  resolved := Array.replicate 44 none
  statics := none }

def pool2 : Array CpInfo := pool [(1, .methodref 2 3), (0, .class_ 4), (0, .nameAndType 5 6), (0, u "java/lang/Object"), (0, u "<init>"), (0, u "()V"), (0, .class_ 8), (0, u "java/lang/Record")] 13

def k2c0 : Code := { maxStack := 1, maxLocals := 1, code := jdk_30_method_1_code, exceptionTable := #[], attributes := #[] }
def k2m0 : Method := { name := "<init>", desc := "()V", sig := { parameters := [], returnType := none }, accessFlags := 4, code := some k2c0 }
/-- java/lang/Record -/
def k2 : Class := { plain "java/lang/Record" (some 0) with
  accessFlags := 1057
  interfaces := #[]
  cf := some (fileOf pool2 7 #[] #[{ accessFlags := 4, nameIndex := 5, descriptorIndex := 6, attributes := #[] }] 1057 2 #[] #[])
  fields := #[]
  methods := #[k2m0]
  instanceTypes := #[]
  staticTypes := #[]
  resolved := Array.replicate 22 none
  statics := none }

def pool3 : Array CpInfo := pool [(1, .methodref 2 3), (0, .class_ 4), (0, .nameAndType 5 6), (0, u "java/lang/Record"), (0, u "<init>"), (0, u "()V"), (0, .fieldref 8 9), (0, .class_ 10), (0, .nameAndType 11 12), (0, u "com/example/sortition/sortition/partition/TokenRange"), (0, u "first"), (0, u "J"), (0, .fieldref 8 14), (0, .nameAndType 15 12), (0, u "last"), (12, u "EMPTY"), (0, u "Lcom/example/sortition/sortition/partition/TokenRange;"), (4, u "(JJ)V"), (49, u "ALL"), (6, u "contains"), (0, u "(J)Z")] 29

def k3c0 : Code := { maxStack := 3, maxLocals := 5, code := prog_77_method_1_code, exceptionTable := #[], attributes := #[] }
def k3m0 : Method := { name := "<init>", desc := "(JJ)V", sig := { parameters := [.long, .long], returnType := none }, accessFlags := 1, code := some k3c0 }
def k3c1 : Code := { maxStack := 4, maxLocals := 3, code := prog_77_method_4_code, exceptionTable := #[], attributes := #[] }
def k3m1 : Method := { name := "contains", desc := "(J)Z", sig := { parameters := [.long], returnType := some .boolean }, accessFlags := 1, code := some k3c1 }
/-- com/example/sortition/sortition/partition/TokenRange -/
def k3 : Class := { plain "com/example/sortition/sortition/partition/TokenRange" (some 2) with
  accessFlags := 49
  interfaces := #[]
  cf := some (fileOf pool3 8 #[] #[{ accessFlags := 1, nameIndex := 5, descriptorIndex := 34, attributes := #[] }, { accessFlags := 1, nameIndex := 91, descriptorIndex := 92, attributes := #[] }] 49 2 #[] #[{ accessFlags := 18, nameIndex := 11, descriptorIndex := 12, attributes := #[] }, { accessFlags := 18, nameIndex := 15, descriptorIndex := 12, attributes := #[] }, { accessFlags := 25, nameIndex := 84, descriptorIndex := 29, attributes := #[] }, { accessFlags := 26, nameIndex := 28, descriptorIndex := 29, attributes := #[] }])
  fields := #[{ name := "first", type := .long, accessFlags := 18, slot := 0, constantValue := 0 }, { name := "last", type := .long, accessFlags := 18, slot := 1, constantValue := 0 }, { name := "ALL", type := (.object "com/example/sortition/sortition/partition/TokenRange"), accessFlags := 25, slot := 0, constantValue := 0 }, { name := "EMPTY", type := (.object "com/example/sortition/sortition/partition/TokenRange"), accessFlags := 26, slot := 1, constantValue := 0 }]
  methods := #[k3m0, k3m1]
  instanceTypes := #[.long, .long]
  staticTypes := #[(.object "com/example/sortition/sortition/partition/TokenRange"), (.object "com/example/sortition/sortition/partition/TokenRange")]
  resolved := Array.replicate 122 none
  statics := none }

def pool4 : Array CpInfo := pool [(1, .class_ 2), (0, u "java/lang/Math"), (1, .class_ 6), (1, u "java/lang/Object"), (0, u "<init>"), (0, u "()V"), (89, .class_ 100), (1, u "java/lang/Math$RandomNumberGeneratorHolder"), (20, u "(JJ)J"), (50, u "negativeZeroFloatBits"), (0, u "J"), (2, u "negativeZeroDoubleBits"), (21, u "max"), (2, u "min"), (43, u "$assertionsDisabled"), (0, u "Z"), (91, u "twoToTheDoubleScaleDown"), (0, u "D"), (4, u "twoToTheDoubleScaleUp"), (9, u "E"), (3, u "PI"), (2, u "TAU"), (2, u "DEGREES_TO_RADIANS"), (0, u "RADIANS_TO_DEGREES")] 94

def k4m0 : Method := { name := "<init>", desc := "()V", sig := { parameters := [], returnType := none }, accessFlags := 2, code := none }
def k4c1 : Code := { maxStack := 4, maxLocals := 4, code := jdk_29_method_66_code, exceptionTable := #[], attributes := #[] }
def k4m1 : Method := { name := "max", desc := "(JJ)J", sig := { parameters := [.long, .long], returnType := some .long }, accessFlags := 9, code := some k4c1 }
def k4c2 : Code := { maxStack := 4, maxLocals := 4, code := jdk_29_method_70_code, exceptionTable := #[], attributes := #[] }
def k4m2 : Method := { name := "min", desc := "(JJ)J", sig := { parameters := [.long, .long], returnType := some .long }, accessFlags := 9, code := some k4c2 }
/-- java/lang/Math -/
def k4 : Class := { plain "java/lang/Math" (some 0) with
  accessFlags := 49
  interfaces := #[]
  cf := some (fileOf pool4 1 #[.nestMembers #[98]] #[{ accessFlags := 2, nameIndex := 7, descriptorIndex := 8, attributes := #[] }, { accessFlags := 9, nameIndex := 198, descriptorIndex := 121, attributes := #[] }, { accessFlags := 9, nameIndex := 201, descriptorIndex := 121, attributes := #[] }] 49 4 #[] #[{ accessFlags := 25, nameIndex := 354, descriptorIndex := 339, attributes := #[] }, { accessFlags := 25, nameIndex := 358, descriptorIndex := 339, attributes := #[] }, { accessFlags := 25, nameIndex := 361, descriptorIndex := 339, attributes := #[] }, { accessFlags := 26, nameIndex := 364, descriptorIndex := 339, attributes := #[] }, { accessFlags := 26, nameIndex := 365, descriptorIndex := 339, attributes := #[] }, { accessFlags := 26, nameIndex := 172, descriptorIndex := 173, attributes := #[] }, { accessFlags := 26, nameIndex := 176, descriptorIndex := 173, attributes := #[] }, { accessFlags := 8, nameIndex := 344, descriptorIndex := 339, attributes := #[] }, { accessFlags := 8, nameIndex := 338, descriptorIndex := 339, attributes := #[] }, { accessFlags := 4120, nameIndex := 245, descriptorIndex := 246, attributes := #[] }])
  fields := #[{ name := "E", type := .double, accessFlags := 25, slot := 0, constantValue := 0 }, { name := "PI", type := .double, accessFlags := 25, slot := 1, constantValue := 0 }, { name := "TAU", type := .double, accessFlags := 25, slot := 2, constantValue := 0 }, { name := "DEGREES_TO_RADIANS", type := .double, accessFlags := 26, slot := 3, constantValue := 0 }, { name := "RADIANS_TO_DEGREES", type := .double, accessFlags := 26, slot := 4, constantValue := 0 }, { name := "negativeZeroFloatBits", type := .long, accessFlags := 26, slot := 5, constantValue := 0 }, { name := "negativeZeroDoubleBits", type := .long, accessFlags := 26, slot := 6, constantValue := 0 }, { name := "twoToTheDoubleScaleUp", type := .double, accessFlags := 8, slot := 7, constantValue := 0 }, { name := "twoToTheDoubleScaleDown", type := .double, accessFlags := 8, slot := 8, constantValue := 0 }, { name := "$assertionsDisabled", type := .boolean, accessFlags := 4120, slot := 9, constantValue := 0 }]
  methods := #[k4m0, k4m1, k4m2]
  instanceTypes := #[]
  staticTypes := #[.double, .double, .double, .double, .double, .long, .long, .double, .double, .boolean]
  resolved := Array.replicate 460 none
  statics := none }

def pool5 : Array CpInfo := pool [(1, u "java/lang/Cloneable"), (0, .class_ 1), (0, u "java/lang/Object"), (0, .class_ 3)] 3

/-- java/lang/Cloneable -/
def k5 : Class := { plain "java/lang/Cloneable" (some 0) with
  accessFlags := 1537
  interfaces := #[]
  cf := some (fileOf pool5 2 #[] #[] 1537 4 #[] #[])
  fields := #[]
  methods := #[]
  instanceTypes := #[]
  staticTypes := #[]
  resolved := Array.replicate 8 none
  statics := none }

def pool6 : Array CpInfo := pool [(1, u "java/io/Serializable"), (0, .class_ 1), (0, u "java/lang/Object"), (0, .class_ 3)] 3

/-- java/io/Serializable -/
def k6 : Class := { plain "java/io/Serializable" (some 0) with
  accessFlags := 1537
  interfaces := #[]
  cf := some (fileOf pool6 2 #[] #[] 1537 4 #[] #[])
  fields := #[]
  methods := #[]
  instanceTypes := #[]
  staticTypes := #[]
  resolved := Array.replicate 8 none
  statics := none }

/-- the primitive byte -/
def k7 : Class := { plain "byte" none with kind := .primitive 'B', accessFlags := 0x411 }
/-- [B -/
def k8 : Class := { plain "[B" (some 0) with kind := .array 7 .byte, interfaces := #[5, 6], accessFlags := 1041 }

/-- the primitive int -/
def k9 : Class := { plain "int" none with kind := .primitive 'I', accessFlags := 0x411 }
/-- [I -/
def k10 : Class := { plain "[I" (some 0) with kind := .array 9 .int, interfaces := #[5, 6], accessFlags := 1041 }

def heap : Heap := #[]
def classes : Array Class := #[k0, k1, k2, k3, k4, k5, k6, k7, k8, k9, k10]
def interned : List (Array UInt16 × Addr) := []
def slotsUsed : Nat := 0
def theMethod : MethodId := ⟨1, 2⟩
def args0 : Array Value := #[.long 5, .long 6, .long 7, .int 8]
def aboutOver (below : List Frame) : State where
  vm := { classes := classes, interned := interned.toArray }
  heap := heap
  slotsUsed := slotsUsed
  threads := #[{ frames := .invoking theMethod args0 :: below }]
def below0 : List Frame := [.native { method := ⟨0, 0⟩, args := #[] }]
def about1 : State := aboutOver below0
def p0 : Program := .bare "" "" ""
def e0 : Env := launch0.env 0 0 0
theorem w_frames : about1.frames = Frame.invoking theMethod args0 :: below0 := rfl
set_option maxRecDepth 65536 in
theorem w_args : argsFit about1.vm theMethod args0 = true := by decide +kernel
set_option maxRecDepth 65536 in
theorem w_heap : heapFits about1 = true := by decide +kernel
set_option maxRecDepth 65536 in
theorem w_runnable : about1.curStatus? = some .runnable := by decide +kernel
set_option maxRecDepth 65536 in
theorem w_alone : about1.alone = true := by decide +kernel
set_option maxRecDepth 65536 in
theorem w_named : about1.methodNamed? x = some theMethod := by decide +kernel
set_option maxRecDepth 65536 in
theorem w_hears : about1.hears theMethod below0 = true := by decide +kernel
set_option maxRecDepth 65536 in
theorem w_ripe : about1.ripe theMethod args0 below0 = true := by decide +kernel
theorem w_running : about1.status = .running := rfl
set_option maxRecDepth 65536 in
theorem w_room : about1.hasRoom e0.platform room_1 = true :=
  launch0.hasRoom_least _ room_1 (by decide +kernel) (by decide +kernel) (by decide +kernel) (by decide +kernel) (by decide +kernel) (by decide +kernel)
theorem allAtoms_all (ts : List Jvm.Cond) (a : Array Jvm.Value) (st : Jvm.State) : (allAtoms ts).before a st = ts.all (fun c => c.before a st) := by
  induction ts with
  | nil => rfl
  | cons c t ih =>
    show (Jvm.Cond.and c (allAtoms t)).before a st = _
    rw [Jvm.Cond.before_and, ih, List.all_cons]
def words1 : List Jvm.Cond := Jvm.Cond.code x code maxLocals ret :: tables_1
/-- a 'code' word, met by the world's own term for the bytes: nothing is compared byte by byte -/
theorem code_word {y : MethodName} {bytes : ByteArray} {mx : Nat} {rt : Option FieldType} {a : Array Value} {s : State} {m : MethodId} {meth : Method} {c : Code} (h1 : s.methodNamed? y = some m) (h2 : s.vm.method? m = some meth) (h3 : meth.code = some c) (h4 : c.code = bytes)
    (h5 : (c.maxLocals == mx && c.exceptionTable.isEmpty && decide (c.maxStack ≤ mostOperands) && decide (meth.sig.returnType = rt) && !meth.locks && decide (parseMethodDescriptor y.desc = some meth.sig)) = true) : (Jvm.Cond.code y bytes mx rt).before a s = true := by
  simp only [Bool.and_eq_true, beq_iff_eq, Bool.not_eq_true', decide_eq_true_eq] at h5
  obtain ⟨⟨⟨⟨⟨g1, g2⟩, g3⟩, g4⟩, g5⟩, g6⟩ := h5
  simp [Cond.before, Cond.holds, Cond.value, h1, h2, h3, h4, g1, g2, g3, g4, g5, g6]
def isCode : Jvm.Cond → Bool
  | .code _ _ _ _ => true
  | _ => false
theorem all_split {L : List Jvm.Cond} {P : Jvm.Cond → Bool} (h1 : L.all (fun c => isCode c || P c) = true) (h2 : ∀ c ∈ L.filter isCode, P c = true) : L.all P = true := by
  refine List.all_eq_true.mpr fun c hc => ?_
  have h := List.all_eq_true.mp h1 c hc
  rcases Bool.eq_false_or_eq_true (isCode c) with hi | hi
  · exact h2 c (List.mem_filter.mpr ⟨hc, hi⟩)
  · simpa [hi] using h
set_option maxRecDepth 65536 in
theorem w_c0 : (Jvm.Cond.code x code maxLocals ret).before args0 about1 = true := code_word (m := ⟨1, 2⟩) (meth := k1m2) (c := k1c2) (by decide +kernel) rfl rfl rfl (by decide +kernel)
set_option maxRecDepth 65536 in
theorem w_c1 : (Jvm.Cond.code ({ cls := "com/example/sortition/sortition/partition/TokenRangeContainsPinLaw", name := "pick", desc := "(IJJJ)J" } : Jvm.MethodName) method_2_code (7 : Nat) (Option.some Jvm.ClassFile.FieldType.long)).before args0 about1 = true := code_word (m := ⟨1, 1⟩) (meth := k1m1) (c := k1c1) (by decide +kernel) rfl rfl rfl (by decide +kernel)
set_option maxRecDepth 65536 in
theorem w_c2 : (Jvm.Cond.code ({ cls := "com/example/sortition/sortition/partition/TokenRange", name := "<init>", desc := "(JJ)V" } : Jvm.MethodName) prog_77_method_1_code (5 : Nat) (Option.none : Option Jvm.ClassFile.FieldType)).before args0 about1 = true := code_word (m := ⟨3, 0⟩) (meth := k3m0) (c := k3c0) (by decide +kernel) rfl rfl rfl (by decide +kernel)
set_option maxRecDepth 65536 in
theorem w_c3 : (Jvm.Cond.code ({ cls := "java/lang/Record", name := "<init>", desc := "()V" } : Jvm.MethodName) jdk_30_method_1_code (1 : Nat) (Option.none : Option Jvm.ClassFile.FieldType)).before args0 about1 = true := code_word (m := ⟨2, 0⟩) (meth := k2m0) (c := k2c0) (by decide +kernel) rfl rfl rfl (by decide +kernel)
set_option maxRecDepth 65536 in
theorem w_c4 : (Jvm.Cond.code ({ cls := "java/lang/Object", name := "<init>", desc := "()V" } : Jvm.MethodName) object_method_1_code (1 : Nat) (Option.none : Option Jvm.ClassFile.FieldType)).before args0 about1 = true := code_word (m := ⟨0, 0⟩) (meth := k0m0) (c := k0c0) (by decide +kernel) rfl rfl rfl (by decide +kernel)
set_option maxRecDepth 65536 in
theorem w_c5 : (Jvm.Cond.code ({ cls := "com/example/sortition/sortition/partition/TokenRange", name := "contains", desc := "(J)Z" } : Jvm.MethodName) prog_77_method_4_code (3 : Nat) (Option.some Jvm.ClassFile.FieldType.boolean)).before args0 about1 = true := code_word (m := ⟨3, 1⟩) (meth := k3m1) (c := k3c1) (by decide +kernel) rfl rfl rfl (by decide +kernel)
set_option maxRecDepth 65536 in
theorem w_c6 : (Jvm.Cond.code ({ cls := "java/lang/Math", name := "min", desc := "(JJ)J" } : Jvm.MethodName) jdk_29_method_70_code (4 : Nat) (Option.some Jvm.ClassFile.FieldType.long)).before args0 about1 = true := code_word (m := ⟨4, 2⟩) (meth := k4m2) (c := k4c2) (by decide +kernel) rfl rfl rfl (by decide +kernel)
set_option maxRecDepth 65536 in
theorem w_c7 : (Jvm.Cond.code ({ cls := "java/lang/Math", name := "max", desc := "(JJ)J" } : Jvm.MethodName) jdk_29_method_66_code (4 : Nat) (Option.some Jvm.ClassFile.FieldType.long)).before args0 about1 = true := code_word (m := ⟨4, 1⟩) (meth := k4m1) (c := k4c1) (by decide +kernel) rfl rfl rfl (by decide +kernel)
def codes1 : List Jvm.Cond := [Jvm.Cond.code x code maxLocals ret, Jvm.Cond.code ({ cls := "com/example/sortition/sortition/partition/TokenRangeContainsPinLaw", name := "pick", desc := "(IJJJ)J" } : Jvm.MethodName) method_2_code (7 : Nat) (Option.some Jvm.ClassFile.FieldType.long), Jvm.Cond.code ({ cls := "com/example/sortition/sortition/partition/TokenRange", name := "<init>", desc := "(JJ)V" } : Jvm.MethodName) prog_77_method_1_code (5 : Nat) (Option.none : Option Jvm.ClassFile.FieldType), Jvm.Cond.code ({ cls := "java/lang/Record", name := "<init>", desc := "()V" } : Jvm.MethodName) jdk_30_method_1_code (1 : Nat) (Option.none : Option Jvm.ClassFile.FieldType), Jvm.Cond.code ({ cls := "java/lang/Object", name := "<init>", desc := "()V" } : Jvm.MethodName) object_method_1_code (1 : Nat) (Option.none : Option Jvm.ClassFile.FieldType), Jvm.Cond.code ({ cls := "com/example/sortition/sortition/partition/TokenRange", name := "contains", desc := "(J)Z" } : Jvm.MethodName) prog_77_method_4_code (3 : Nat) (Option.some Jvm.ClassFile.FieldType.boolean), Jvm.Cond.code ({ cls := "java/lang/Math", name := "min", desc := "(JJ)J" } : Jvm.MethodName) jdk_29_method_70_code (4 : Nat) (Option.some Jvm.ClassFile.FieldType.long), Jvm.Cond.code ({ cls := "java/lang/Math", name := "max", desc := "(JJ)J" } : Jvm.MethodName) jdk_29_method_66_code (4 : Nat) (Option.some Jvm.ClassFile.FieldType.long)]
set_option maxRecDepth 65536 in
theorem codes_eq : words1.filter isCode = codes1 := rfl
theorem w_codes : ∀ c ∈ words1.filter isCode, c.before args0 about1 = true := by
  rw [codes_eq]
  intro c hc
  simp only [codes1, List.mem_cons, List.not_mem_nil, or_false] at hc
  rcases hc with rfl | rfl | rfl | rfl | rfl | rfl | rfl | rfl
  · exact w_c0
  · exact w_c1
  · exact w_c2
  · exact w_c3
  · exact w_c4
  · exact w_c5
  · exact w_c6
  · exact w_c7
set_option maxRecDepth 65536 in
theorem w_t1 : (words1.take 24).all (fun c => isCode c || c.before args0 about1) = true := by decide +kernel
set_option maxRecDepth 65536 in
theorem w_t2 : (words1.drop 24).all (fun c => isCode c || c.before args0 about1) = true := by decide +kernel
theorem w_tables : (allAtoms (Jvm.Cond.code x code maxLocals ret :: tables_1)).before args0 about1 = true := by
  rw [allAtoms_all]
  show words1.all (fun c => c.before args0 about1) = true
  refine all_split ?_ w_codes
  rw [← List.take_append_drop 24 words1, List.all_append, w_t1, w_t2]
  rfl
set_option maxRecDepth 65536 in
theorem w_case : (Jvm.Cond.and given_1 narrow_1).before args0 about1 = true := by decide +kernel
theorem w_applies : (headSpec (Jvm.Cond.code x code maxLocals ret :: tables_1) room_1).applies x e0.platform about1 = true :=
  (Spec.applies_iff w_frames).mpr ⟨w_running, w_runnable, w_alone, w_named, w_hears, w_ripe, w_room, w_tables⟩
theorem atStart : AtStart classFile x code maxLocals ret World_1 tables_1 room_1 Calls_1 rest_1 Pre_1 launch0 p0 e0 about1 theMethod args0 below0 :=
  ⟨lists_1, trivial, launch0.admits_env _ _ _, launch0.least_env, fairChoices_fair.cas, fairChoices_fair.clock, w_frames, w_args, w_heap, w_applies, trivial, trivial, w_case⟩
end start1
theorem witness_1 : WitnessClaimed_1 := ⟨start1.p0, start1.e0, start1.about1, start1.theMethod, start1.args0, start1.below0, start1.atStart⟩
end Jvm.Pilot.@@N@@
