import JvmDerived
import JvmDerived.Pilot.@@N@@Statement
import JvmDerived.Pilot.@@N@@Code
set_option linter.unusedVariables false
set_option linter.unusedSimpArgs false
namespace Jvm.RoadKit
open Sem ClassFile Op Lib Jvm.Stand Jvm.Free Jvm.LawKit
section New
variable {p : Program} {l : Launch} {e : Env} {R : Room} {s : State} {m : MethodId} {args : Array Value} {below : List Frame} {meth : Method} {c : Code} {T : State} {locs : List Loc} {cells slots : Nat}
theorem retI (X : Stand p l e R s m args below meth c T locs cells slots) (hx : p.tables.exec = Jvm.exec) {pc : Nat} {Ls : Array Slot} {z : Int32} {rest : List Value} (hret : meth.sig.returnType = some .int) (hd : decode c.code pc = .ok (.ireturn, 1)) {fs : List Frame}
    (hl : ∀ (f : JFrame) (acts : List Action), f.method = m → f.locked = none → f.entered = [] → (doReturn e (T.setTop f) acts (some (.int z))).1 = T.setFrames fs) : Steps p.tables e below (T.setTop (mkF m pc Ls (.int z :: rest))) (T.setFrames fs) := by
  have hm' : T.vm.method? m = some meth := X.method'
  have hn : narrow .int (.int z) = .int z := rfl
  show Steps p.tables e below (T.setTop { method := m, pc := pc, locals := Ls, stack := _ :: rest, locked := none }) _
  jvm_step X.here [X.here.top, hx, hd, hm', hret, hn]
  first | (intro acts; rw [hl _ acts rfl rfl rfl]) | rw [hl _ _ rfl rfl rfl]
  exact Steps.refl _
theorem retJ (X : Stand p l e R s m args below meth c T locs cells slots) (hx : p.tables.exec = Jvm.exec) {pc : Nat} {Ls : Array Slot} {z : Int64} {rest : List Value} (hret : meth.sig.returnType = some .long) (hd : decode c.code pc = .ok (.lreturn, 1)) {fs : List Frame}
    (hl : ∀ (f : JFrame) (acts : List Action), f.method = m → f.locked = none → f.entered = [] → (doReturn e (T.setTop f) acts (some (.long z))).1 = T.setFrames fs) : Steps p.tables e below (T.setTop (mkF m pc Ls (.long z :: rest))) (T.setFrames fs) := by
  have hm' : T.vm.method? m = some meth := X.method'
  have hn : narrow .long (.long z) = .long z := rfl
  show Steps p.tables e below (T.setTop { method := m, pc := pc, locals := Ls, stack := _ :: rest, locked := none }) _
  jvm_step X.here [X.here.top, hx, hd, hm', hret, hn]
  first | (intro acts; rw [hl _ acts rfl rfl rfl]) | rw [hl _ _ rfl rfl rfl]
  exact Steps.refl _
theorem retA (X : Stand p l e R s m args below meth c T locs cells slots) (hx : p.tables.exec = Jvm.exec) {pc : Nat} {Ls : Array Slot} {z : Value} {t : FieldType} {rest : List Value} (hret : meth.sig.returnType = some t) (ht : t.isReference = true) (hz : z.isRef = true) (hd : decode c.code pc = .ok (.areturn, 1)) {fs : List Frame}
    (hl : ∀ (f : JFrame) (acts : List Action), f.method = m → f.locked = none → f.entered = [] → (doReturn e (T.setTop f) acts (some z)).1 = T.setFrames fs) : Steps p.tables e below (T.setTop (mkF m pc Ls (z :: rest))) (T.setFrames fs) := by
  have hm' : T.vm.method? m = some meth := X.method'
  show Steps p.tables e below (T.setTop { method := m, pc := pc, locals := Ls, stack := _ :: rest, locked := none }) _
  jvm_step X.here [X.here.top, hx, hd, hm', hret, ht, hz]
  first | (intro acts; rw [hl _ acts rfl rfl rfl]) | rw [hl _ _ rfl rfl rfl]
  exact Steps.refl _
end New
end Jvm.RoadKit
@@BLOCK:NumsL.lean.txt@@
@@BLOCK:Masks.lean.txt@@
namespace Jvm.Pilot.@@N@@
open Jvm Jvm.ClassFile Sem Op Lib Jvm.Free Jvm.Stand Jvm.LawKit Jvm.RoadKit Bundle Jvm.Pilot.@@N@@.Jvm.D
/-- the run comes from st to an end of which F holds -/
abbrev Go (p : Program) (e : Env) (below : List Frame) (F : Outcome → State → Prop) (st : State) : Prop := ∃ t o, Steps p.tables e below st t ∧ t.status = .running ∧ Ended t below o ∧ F o t
theorem Go.st {p : Program} {e : Env} {below : List Frame} {F : Outcome → State → Prop} {a b : State} (h : ∀ t, Steps p.tables e below b t → Steps p.tables e below a t) (k : Go p e below F b) : Go p e below F a := by
  obtain ⟨t, o, h1, h2⟩ := k
  exact ⟨t, o, h t h1, h2⟩
/-- Java's x % y -/
abbrev jrem (x y : Int32) : Int32 := x - (x / y) * y
abbrev jremL (x y : Int64) : Int64 := x - (x / y) * y
theorem Go.cast {p : Program} {e : Env} {below : List Frame} {F : Outcome → State → Prop} {a b : State} (h : a = b) (k : Go p e below F b) : Go p e below F a := h ▸ k
theorem d4_0 : decode jdk_42_method_152_code 0 = .ok (.getstatic 38, 3) := by decide +kernel
theorem d4_3 : decode jdk_42_method_152_code 3 = .ok (.ifCond .eq 10, 3) := by decide +kernel
theorem d4_6 : decode jdk_42_method_152_code 6 = .ok (.aload_n 0, 1) := by decide +kernel
theorem d4_7 : decode jdk_42_method_152_code 7 = .ok (.getfield 15, 3) := by decide +kernel
theorem d4_10 : decode jdk_42_method_152_code 10 = .ok (.goto 4, 3) := by decide +kernel
theorem d4_14 : decode jdk_42_method_152_code 14 = .ok (.ireturn, 1) := by decide +kernel
theorem pn_4 : plainName "java/lang/String" = true := by first | (simp [plainName, overriddenIn]; done) | decide +kernel
theorem ef_rmCoder (m : MethodId) (a0 : Addr) : entryFrame m #[(.ref a0)] 1 = mkF m 0 #[.val (.ref a0)] [] := by first | (simp [entryFrame, mkF, argsToLocals, Value.category]; done) | rfl
def jCoder (co : Int32) : Int32 := (nar .byte co)
def Q_rmCoder (Z : State) (a0 : Addr) (co : Int32) (cs : Int32) (h0 : Heap) (n0 : Nat) (v : Option Value) (h : Heap) (L : List Loc) : Prop := v = some (.int (jCoder co)) ∧ Fr n0 L ∧ h = h0
abbrev F_rmCoder (Z : State) (a0 : Addr) (co : Int32) (cs : Int32) (h0 : Heap) (n0 : Nat) (s : State) (o : Outcome) (U : State) : Prop := ∃ v L, o = .returned v ∧ Q_rmCoder Z a0 co cs h0 n0 v U.heap L ∧ FrameEnd s o U L 0 0
set_option maxRecDepth 65536 in
set_option maxHeartbeats 40000000 in
theorem rmCoder (l : Launch) (Z : State) (aZ : Array Value) (hw : ∀ d ∈ tables_1, d.before aZ Z = true) (ws : List Jvm.Cond) (a0 : Addr) (co : Int32) (cs : Int32) (h0 : Heap) (n0 : Nat) (hcs : ¬ cs = 0) (F_co : Fld Z h0 a0 "java/lang/String" "coder" "B" (.int co)) (S_cs : Sta Z h0 "java/lang/String" "COMPACT_STRINGS" "Z" (.int cs)) :
    MetFree l (⟨"java/lang/String", "coder", "()B"⟩ : MethodName) (head1 (Jvm.Cond.code (⟨"java/lang/String", "coder", "()B"⟩ : MethodName) jdk_42_method_152_code 1 (some .byte) :: ws) ({ frames := 0, cells := 0, slots := 0, locals := 0 } : Room)) (fun a U => a = #[(.ref a0)] ∧ Z.Warmed39 U.vm ∧ U.heap = h0) (fun _ _ _ _ _ => True) (fun _ U o U' => ∃ v L, o = .returned v ∧ Q_rmCoder Z a0 co cs h0 n0 v U'.heap L ∧ FrameEnd U o U' L 0 0) := by
  refine MetFree.of_bodySF (plainFor_of_name pn_4) hisR ?_
  intro p e s m args below meth c s₁ Bd hml0 hP hK
  obtain ⟨rfl, hZ, hh⟩ := hP
  have hx := Bd.exec
  have hby := Bd.bytes
  have hml : c.maxLocals = 1 := hml0
  have hown : s.vm.findClass "java/lang/String" = some m.cls := findClass_of_methodNamed Bd.named
  have hnm := (name_of_methodNamed Bd.named Bd.method).1
  have X0 : Stand p l e ({ frames := 0, cells := 0, slots := 0, locals := 0 } : Room) s m #[(.ref a0)] below meth c s₁ [] 0 0 := Stand.of_body Bd
  have e0 : s₁.heap = h0 := by rw [← hh, Bd.state]; rfl
  have N0 := Fr.nil n0
  refine Go.st (fun _ k => castTop (ef_rmCoder m a0) k) ?_
  show Go p e below _ (s₁.setTop (mkF m 0 #[.val (.ref a0)] []))
  obtain ⟨T1, X1, e1, st1⟩ := getS2 X0 hx hZ hown (host := "") (Or.inl (hw _ (List.mem_of_getElem? (i := 32) rfl))) Via.refl e0 S_cs (g := (mkF m 0 #[.val (.ref a0)] [])) rfl (hb hby d4_0)
  refine Go.st (fun _ k => st1 _ k) ?_
  show Go p e below _ (T1.setTop (mkF m 3 #[.val (.ref a0)] [(.int cs)]))
  refine Go.st (fun _ k => XS.ifNo X1.here hx rfl (hb hby d4_3) rfl ((if0 _ _).trans (feq hcs).1) k) ?_
  show Go p e below _ (T1.setTop (mkF m 6 #[.val (.ref a0)] []))
  refine Go.st (fun _ k => XS.aloadN X1.here hx rfl (hb hby d4_6) rfl rfl k) ?_
  obtain ⟨T2, X2, e2, st2⟩ := getF X1 hx hZ hown (host := "") (Or.inl (hw _ (List.mem_of_getElem? (i := 33) rfl))) Via.refl e1 F_co (g := (mkF m 7 #[.val (.ref a0)] [(.ref a0)])) rfl rfl (hb hby d4_7)
  refine Go.st (fun _ k => st2 _ k) ?_
  show Go p e below _ (T2.setTop (mkF m 10 #[.val (.ref a0)] [(.int co)]))
  refine Go.st (fun _ k => XS.goto X2.here hx rfl (pc0 := 10) (pc' := 14) rfl (hb hby d4_10) (by decide) (by decide) k) ?_
  show Go p e below _ (T2.setTop (mkF m 14 #[.val (.ref a0)] [(.int co)]))
  obtain ⟨fs, hr, hrun, hended, hW, hsame⟩ := X2.leave (v := some (.int (nar .byte co))) (fun h => by rw [Bd.returns] at h; cases h)
  refine ⟨_, _, retN X2 hx (t := .byte) Bd.returns (by simp) (hb hby d4_14) hr, hrun, hended, _, _, rfl, ?_, ⟨_, rfl⟩, hW, hsame.mono (by decide) (by decide)⟩
  show Q_rmCoder Z a0 co cs h0 n0 _ T2.heap _
  rw [e2]
  refine ⟨?_, N0, rfl⟩
  unfold jCoder
  rfl
theorem d6_0 : decode jdk_42_method_154_code 0 = .ok (.getstatic 38, 3) := by decide +kernel
theorem d6_3 : decode jdk_42_method_154_code 3 = .ok (.ifCond .eq 14, 3) := by decide +kernel
theorem d6_6 : decode jdk_42_method_154_code 6 = .ok (.aload_n 0, 1) := by decide +kernel
theorem d6_7 : decode jdk_42_method_154_code 7 = .ok (.getfield 15, 3) := by decide +kernel
theorem d6_10 : decode jdk_42_method_154_code 10 = .ok (.ifCond .ne 7, 3) := by decide +kernel
theorem d6_13 : decode jdk_42_method_154_code 13 = .ok (.iconst 1, 1) := by decide +kernel
theorem d6_14 : decode jdk_42_method_154_code 14 = .ok (.goto 4, 3) := by decide +kernel
theorem d6_18 : decode jdk_42_method_154_code 18 = .ok (.ireturn, 1) := by decide +kernel
theorem pn_6 : plainName "java/lang/String" = true := by first | (simp [plainName, overriddenIn]; done) | decide +kernel
theorem ef_rmLatin (m : MethodId) (a0 : Addr) : entryFrame m #[(.ref a0)] 1 = mkF m 0 #[.val (.ref a0)] [] := by first | (simp [entryFrame, mkF, argsToLocals, Value.category]; done) | rfl
def jLatin (co : Int32) : Int32 := (1 : Int32)
def Q_rmLatin (Z : State) (a0 : Addr) (co : Int32) (cs : Int32) (h0 : Heap) (n0 : Nat) (v : Option Value) (h : Heap) (L : List Loc) : Prop := v = some (.int (jLatin co)) ∧ Fr n0 L ∧ h = h0
abbrev F_rmLatin (Z : State) (a0 : Addr) (co : Int32) (cs : Int32) (h0 : Heap) (n0 : Nat) (s : State) (o : Outcome) (U : State) : Prop := ∃ v L, o = .returned v ∧ Q_rmLatin Z a0 co cs h0 n0 v U.heap L ∧ FrameEnd s o U L 0 0
set_option maxRecDepth 65536 in
set_option maxHeartbeats 40000000 in
theorem rmLatin (l : Launch) (Z : State) (aZ : Array Value) (hw : ∀ d ∈ tables_1, d.before aZ Z = true) (ws : List Jvm.Cond) (a0 : Addr) (co : Int32) (cs : Int32) (h0 : Heap) (n0 : Nat) (hcs : ¬ cs = 0) (hco : co = 0) (F_co : Fld Z h0 a0 "java/lang/String" "coder" "B" (.int co)) (S_cs : Sta Z h0 "java/lang/String" "COMPACT_STRINGS" "Z" (.int cs)) :
    MetFree l (⟨"java/lang/String", "isLatin1", "()Z"⟩ : MethodName) (head1 (Jvm.Cond.code (⟨"java/lang/String", "isLatin1", "()Z"⟩ : MethodName) jdk_42_method_154_code 1 (some .boolean) :: ws) ({ frames := 0, cells := 0, slots := 0, locals := 0 } : Room)) (fun a U => a = #[(.ref a0)] ∧ Z.Warmed39 U.vm ∧ U.heap = h0) (fun _ _ _ _ _ => True) (fun _ U o U' => ∃ v L, o = .returned v ∧ Q_rmLatin Z a0 co cs h0 n0 v U'.heap L ∧ FrameEnd U o U' L 0 0) := by
  refine MetFree.of_bodySF (plainFor_of_name pn_6) hisR ?_
  intro p e s m args below meth c s₁ Bd hml0 hP hK
  obtain ⟨rfl, hZ, hh⟩ := hP
  have hx := Bd.exec
  have hby := Bd.bytes
  have hml : c.maxLocals = 1 := hml0
  have hown : s.vm.findClass "java/lang/String" = some m.cls := findClass_of_methodNamed Bd.named
  have hnm := (name_of_methodNamed Bd.named Bd.method).1
  have X0 : Stand p l e ({ frames := 0, cells := 0, slots := 0, locals := 0 } : Room) s m #[(.ref a0)] below meth c s₁ [] 0 0 := Stand.of_body Bd
  have e0 : s₁.heap = h0 := by rw [← hh, Bd.state]; rfl
  have N0 := Fr.nil n0
  refine Go.st (fun _ k => castTop (ef_rmLatin m a0) k) ?_
  show Go p e below _ (s₁.setTop (mkF m 0 #[.val (.ref a0)] []))
  obtain ⟨T1, X1, e1, st1⟩ := getS2 X0 hx hZ hown (host := "") (Or.inl (hw _ (List.mem_of_getElem? (i := 32) rfl))) Via.refl e0 S_cs (g := (mkF m 0 #[.val (.ref a0)] [])) rfl (hb hby d6_0)
  refine Go.st (fun _ k => st1 _ k) ?_
  show Go p e below _ (T1.setTop (mkF m 3 #[.val (.ref a0)] [(.int cs)]))
  refine Go.st (fun _ k => XS.ifNo X1.here hx rfl (hb hby d6_3) rfl ((if0 _ _).trans (feq hcs).1) k) ?_
  show Go p e below _ (T1.setTop (mkF m 6 #[.val (.ref a0)] []))
  refine Go.st (fun _ k => XS.aloadN X1.here hx rfl (hb hby d6_6) rfl rfl k) ?_
  obtain ⟨T2, X2, e2, st2⟩ := getF X1 hx hZ hown (host := "") (Or.inl (hw _ (List.mem_of_getElem? (i := 33) rfl))) Via.refl e1 F_co (g := (mkF m 7 #[.val (.ref a0)] [(.ref a0)])) rfl rfl (hb hby d6_7)
  refine Go.st (fun _ k => st2 _ k) ?_
  show Go p e below _ (T2.setTop (mkF m 10 #[.val (.ref a0)] [(.int co)]))
  refine Go.st (fun _ k => XS.ifNo X2.here hx rfl (hb hby d6_10) rfl ((if0 _ _).trans (teq hco).2) k) ?_
  show Go p e below _ (T2.setTop (mkF m 13 #[.val (.ref a0)] []))
  refine Go.st (fun _ k => XS.iconst X2.here hx rfl (hb hby d6_13) k) ?_
  refine Go.st (fun _ k => XS.goto X2.here hx rfl (pc0 := 14) (pc' := 18) rfl (hb hby d6_14) (by decide) (by decide) k) ?_
  show Go p e below _ (T2.setTop (mkF m 18 #[.val (.ref a0)] [(.int (1 : Int32))]))
  obtain ⟨fs, hr, hrun, hended, hW, hsame⟩ := X2.leave (v := some (.int (1 : Int32))) (fun h => by rw [Bd.returns] at h; cases h)
  refine ⟨_, _, retN X2 hx (t := .boolean) Bd.returns (by simp) (hb hby d6_18) hr, hrun, hended, _, _, rfl, ?_, ⟨_, rfl⟩, hW, hsame.mono (by decide) (by decide)⟩
  show Q_rmLatin Z a0 co cs h0 n0 _ T2.heap _
  rw [e2]
  refine ⟨?_, N0, rfl⟩
  unfold jLatin
  rfl
theorem d9_0 : decode jdk_41_method_11_code 0 = .ok (.iload_n 0, 1) := by decide +kernel
theorem d9_1 : decode jdk_41_method_11_code 1 = .ok (.ifCond .lt 8, 3) := by decide +kernel
theorem d9_4 : decode jdk_41_method_11_code 4 = .ok (.iload_n 0, 1) := by decide +kernel
theorem d9_5 : decode jdk_41_method_11_code 5 = .ok (.iload_n 1, 1) := by decide +kernel
theorem d9_6 : decode jdk_41_method_11_code 6 = .ok (.if_icmp .lt 10, 3) := by decide +kernel
theorem d9_16 : decode jdk_41_method_11_code 16 = .ok (.iload_n 0, 1) := by decide +kernel
theorem d9_17 : decode jdk_41_method_11_code 17 = .ok (.ireturn, 1) := by decide +kernel
theorem pn_9 : plainName "jdk/internal/util/Preconditions" = true := by first | (simp [plainName, overriddenIn]; done) | decide +kernel
theorem ef_rmPre (m : MethodId) (p0 : Int32) (p1 : Int32) (vf : Value) (hvf : vf.isRef = true) : entryFrame m #[(.int p0), (.int p1), vf] 3 = mkF m 0 #[.val (.int p0), .val (.int p1), .val vf] [] := by cases vf <;> simp [Value.isRef] at hvf <;> first | (simp [entryFrame, mkF, argsToLocals, Value.category]; done) | rfl
def jPre (p0 : Int32) (p1 : Int32) : Int32 := p0
def Q_rmPre (Z : State) (p0 : Int32) (p1 : Int32) (vf : Value) (h0 : Heap) (n0 : Nat) (v : Option Value) (h : Heap) (L : List Loc) : Prop := v = some (.int (jPre p0 p1)) ∧ Fr n0 L ∧ h = h0
abbrev F_rmPre (Z : State) (p0 : Int32) (p1 : Int32) (vf : Value) (h0 : Heap) (n0 : Nat) (s : State) (o : Outcome) (U : State) : Prop := ∃ v L, o = .returned v ∧ Q_rmPre Z p0 p1 vf h0 n0 v U.heap L ∧ FrameEnd s o U L 0 0
set_option maxRecDepth 65536 in
set_option maxHeartbeats 40000000 in
theorem rmPre (l : Launch) (Z : State) (aZ : Array Value) (hw : ∀ d ∈ tables_1, d.before aZ Z = true) (ws : List Jvm.Cond) (p0 : Int32) (p1 : Int32) (vf : Value) (h0 : Heap) (n0 : Nat) (hvf : vf.isRef = true) (hi : ¬ p0 < 0 ∧ p0 < p1) :
    MetFree l (⟨"jdk/internal/util/Preconditions", "checkIndex", "(IILjava/util/function/BiFunction;)I"⟩ : MethodName) (head1 (Jvm.Cond.code (⟨"jdk/internal/util/Preconditions", "checkIndex", "(IILjava/util/function/BiFunction;)I"⟩ : MethodName) jdk_41_method_11_code 3 (some .int) :: ws) ({ frames := 0, cells := 0, slots := 0, locals := 0 } : Room)) (fun a U => a = #[(.int p0), (.int p1), vf] ∧ Z.Warmed39 U.vm ∧ U.heap = h0) (fun _ _ _ _ _ => True) (fun _ U o U' => ∃ v L, o = .returned v ∧ Q_rmPre Z p0 p1 vf h0 n0 v U'.heap L ∧ FrameEnd U o U' L 0 0) := by
  refine MetFree.of_bodySF (plainFor_of_name pn_9) hisR ?_
  intro p e s m args below meth c s₁ Bd hml0 hP hK
  obtain ⟨rfl, hZ, hh⟩ := hP
  have hx := Bd.exec
  have hby := Bd.bytes
  have hml : c.maxLocals = 3 := hml0
  have hown : s.vm.findClass "jdk/internal/util/Preconditions" = some m.cls := findClass_of_methodNamed Bd.named
  have hnm := (name_of_methodNamed Bd.named Bd.method).1
  have X0 : Stand p l e ({ frames := 0, cells := 0, slots := 0, locals := 0 } : Room) s m #[(.int p0), (.int p1), vf] below meth c s₁ [] 0 0 := Stand.of_body Bd
  have e0 : s₁.heap = h0 := by rw [← hh, Bd.state]; rfl
  have N0 := Fr.nil n0
  refine Go.st (fun _ k => castTop (ef_rmPre m p0 p1 vf hvf) k) ?_
  show Go p e below _ (s₁.setTop (mkF m 0 #[.val (.int p0), .val (.int p1), .val vf] []))
  refine Go.st (fun _ k => XS.iloadN X0.here hx rfl (hb hby d9_0) rfl k) ?_
  refine Go.st (fun _ k => XS.ifNo X0.here hx rfl (hb hby d9_1) rfl ((if0 _ _).trans (flt hi.1).1) k) ?_
  show Go p e below _ (s₁.setTop (mkF m 4 #[.val (.int p0), .val (.int p1), .val vf] []))
  refine Go.st (fun _ k => XS.iloadN X0.here hx rfl (hb hby d9_4) rfl k) ?_
  refine Go.st (fun _ k => XS.iloadN X0.here hx rfl (hb hby d9_5) rfl k) ?_
  refine Go.st (fun _ k => XS.icmpYes X0.here hx rfl (pc0 := 6) (pc' := 16) rfl (hb hby d9_6) rfl (tlt hi.2).1 (by decide) (by decide) k) ?_
  show Go p e below _ (s₁.setTop (mkF m 16 #[.val (.int p0), .val (.int p1), .val vf] []))
  refine Go.st (fun _ k => XS.iloadN X0.here hx rfl (hb hby d9_16) rfl k) ?_
  obtain ⟨fs, hr, hrun, hended, hW, hsame⟩ := X0.leave (v := some (.int p0)) (fun h => by rw [Bd.returns] at h; cases h)
  refine ⟨_, _, retI X0 hx Bd.returns (hb hby d9_17) hr, hrun, hended, _, _, rfl, ?_, ⟨_, rfl⟩, hW, hsame.mono (by decide) (by decide)⟩
  show Q_rmPre Z p0 p1 vf h0 n0 _ s₁.heap _
  rw [e0]
  refine ⟨?_, N0, rfl⟩
  unfold jPre
  rfl
theorem d8_0 : decode jdk_42_method_155_code 0 = .ok (.iload_n 0, 1) := by decide +kernel
theorem d8_1 : decode jdk_42_method_155_code 1 = .ok (.iload_n 1, 1) := by decide +kernel
theorem d8_2 : decode jdk_42_method_155_code 2 = .ok (.getstatic 1053, 3) := by decide +kernel
theorem d8_5 : decode jdk_42_method_155_code 5 = .ok (.invokestatic 1059, 3) := by decide +kernel
theorem d8_8 : decode jdk_42_method_155_code 8 = .ok (.pop, 1) := by decide +kernel
theorem d8_9 : decode jdk_42_method_155_code 9 = .ok (.return_, 1) := by decide +kernel
theorem pn_8 : plainName "java/lang/String" = true := by first | (simp [plainName, overriddenIn]; done) | decide +kernel
theorem pd5443ac75 : parseMethodDescriptor "(IILjava/util/function/BiFunction;)I" = some ⟨[.int, .int, (.object "java/util/function/BiFunction")], some .int⟩ := by decide +kernel
theorem ef_rmChk (m : MethodId) (p0 : Int32) (p1 : Int32) : entryFrame m #[(.int p0), (.int p1)] 2 = mkF m 0 #[.val (.int p0), .val (.int p1)] [] := by first | (simp [entryFrame, mkF, argsToLocals, Value.category]; done) | rfl
def Q_rmChk (Z : State) (p0 : Int32) (p1 : Int32) (vf : Value) (h0 : Heap) (n0 : Nat) (v : Option Value) (h : Heap) (L : List Loc) : Prop := v = none ∧ Fr n0 L ∧ h = h0
abbrev F_rmChk (Z : State) (p0 : Int32) (p1 : Int32) (vf : Value) (h0 : Heap) (n0 : Nat) (s : State) (o : Outcome) (U : State) : Prop := ∃ v L, o = .returned v ∧ Q_rmChk Z p0 p1 vf h0 n0 v U.heap L ∧ FrameEnd s o U L 0 0
set_option maxRecDepth 65536 in
set_option maxHeartbeats 40000000 in
theorem rmChk (l : Launch) (Z : State) (aZ : Array Value) (hw : ∀ d ∈ tables_1, d.before aZ Z = true) (ws : List Jvm.Cond) (p0 : Int32) (p1 : Int32) (vf : Value) (h0 : Heap) (n0 : Nat) (hvf : vf.isRef = true) (hi : ¬ p0 < 0 ∧ p0 < p1) (S_vf : Sta Z h0 "jdk/internal/util/Preconditions" "SIOOBE_FORMATTER" "Ljava/util/function/BiFunction;" vf) :
    MetFree l (⟨"java/lang/String", "checkIndex", "(II)V"⟩ : MethodName) (head1 (Jvm.Cond.code (⟨"java/lang/String", "checkIndex", "(II)V"⟩ : MethodName) jdk_42_method_155_code 2 none :: ws) ({ frames := 1, cells := 0, slots := 0, locals := 14 } : Room)) (fun a U => a = #[(.int p0), (.int p1)] ∧ Z.Warmed39 U.vm ∧ U.heap = h0) (fun _ _ _ _ _ => True) (fun _ U o U' => ∃ v L, o = .returned v ∧ Q_rmChk Z p0 p1 vf h0 n0 v U'.heap L ∧ FrameEnd U o U' L 0 0) := by
  refine MetFree.of_bodySF (plainFor_of_name pn_8) hisR ?_
  intro p e s m args below meth c s₁ Bd hml0 hP hK
  obtain ⟨rfl, hZ, hh⟩ := hP
  have hx := Bd.exec
  have hby := Bd.bytes
  have hml : c.maxLocals = 2 := hml0
  have hown : s.vm.findClass "java/lang/String" = some m.cls := findClass_of_methodNamed Bd.named
  have hnm := (name_of_methodNamed Bd.named Bd.method).1
  have X0 : Stand p l e ({ frames := 1, cells := 0, slots := 0, locals := 14 } : Room) s m #[(.int p0), (.int p1)] below meth c s₁ [] 0 0 := Stand.of_body Bd
  have e0 : s₁.heap = h0 := by rw [← hh, Bd.state]; rfl
  have N0 := Fr.nil n0
  refine Go.st (fun _ k => castTop (ef_rmChk m p0 p1) k) ?_
  show Go p e below _ (s₁.setTop (mkF m 0 #[.val (.int p0), .val (.int p1)] []))
  refine Go.st (fun _ k => XS.iloadN X0.here hx rfl (hb hby d8_0) rfl k) ?_
  refine Go.st (fun _ k => XS.iloadN X0.here hx rfl (hb hby d8_1) rfl k) ?_
  obtain ⟨T1, X1, e1, st1⟩ := getS2 X0 hx hZ hown (host := "") (Or.inl (hw _ (List.mem_of_getElem? (i := 52) rfl))) Via.refl e0 S_vf (g := (mkF m 2 #[.val (.int p0), .val (.int p1)] [(.int p1), (.int p0)])) rfl (hb hby d8_2)
  refine Go.st (fun _ k => st1 _ k) ?_
  show Go p e below _ (T1.setTop (mkF m 5 #[.val (.int p0), .val (.int p1)] [vf, (.int p1), (.int p0)]))
  obtain ⟨_, _, ⟨T2, L2, k2, n2⟩, -, X2, ⟨Lc2, hQ2, l2, y2, z2⟩, st2⟩ := Jvm.LawKit.callS X1 hx (y := (⟨"jdk/internal/util/Preconditions", "checkIndex", "(IILjava/util/function/BiFunction;)I"⟩ : MethodName)) hown (mvT hZ (hw _ (List.mem_of_getElem? (i := 54) rfl))) (mvT hZ (hw _ (List.mem_of_getElem? (i := 55) rfl))) (mvT hZ (hw _ (List.mem_of_getElem? (i := 53) rfl))) (mvT hZ (hw _ (List.mem_of_getElem? (i := 56) rfl))) (by decide) (backOf (W := 0) (rmPre l Z aZ hw [] p0 p1 vf h0 n0 hvf hi) hZ (hw _ (List.mem_of_getElem? (i := 56) rfl)) (hw _ (List.mem_of_getElem? (i := 53) rfl)) (by decide) (by decide)) (g := (mkF m 5 #[.val (.int p0), .val (.int p1)] [vf, (.int p1), (.int p0)])) rfl (by rw [hml]; rfl) (argsL := [(.int p0), (.int p1), vf]) (rest := []) (lenOf pd5443ac75 rfl) rfl (by show 2 * 0 + _ ≤ _; exact Nat.le_of_eq rfl) (hb hby d8_5) (fun _ _ => ⟨rfl, e1, (by decide : 0 + 0 ≤ _), (by decide : 0 + 0 ≤ _)⟩)
  dsimp only [Pt.U, Pt.locs, Pt.cells, Pt.slots] at X2 l2 y2 z2 st2 hQ2
  subst l2 y2 z2
  obtain ⟨rfl, N2q, e2⟩ := hQ2
  have N2 := Fr.app N0 N2q
  refine Go.st (fun _ k => st2 _ k) ?_
  show Go p e below _ (T2.setTop (mkF m 8 #[.val (.int p0), .val (.int p1)] [(.int (jPre p0 p1))]))
  refine Go.st (fun _ k => XS.pop X2.here hx rfl (hb hby d8_8) rfl rfl k) ?_
  show Go p e below _ (T2.setTop (mkF m 9 #[.val (.int p0), .val (.int p1)] []))
  obtain ⟨fs, hr, hrun, hended, hW, hsame⟩ := X2.leave (v := none) (fun _ => rfl)
  refine ⟨_, _, X2.returnOut hx Bd.returns (hb hby d8_9) hr, hrun, hended, _, _, rfl, ?_, ⟨_, rfl⟩, hW, hsame.mono (by decide) (by decide)⟩
  show Q_rmChk Z p0 p1 vf h0 n0 _ T2.heap _
  rw [e2]
  refine ⟨?_, N2, rfl⟩
  rfl
theorem d7_0 : decode jdk_43_method_2_code 0 = .ok (.iload_n 1, 1) := by decide +kernel
theorem d7_1 : decode jdk_43_method_2_code 1 = .ok (.aload_n 0, 1) := by decide +kernel
theorem d7_2 : decode jdk_43_method_2_code 2 = .ok (.arraylength, 1) := by decide +kernel
theorem d7_3 : decode jdk_43_method_2_code 3 = .ok (.invokestatic 9, 3) := by decide +kernel
theorem d7_6 : decode jdk_43_method_2_code 6 = .ok (.aload_n 0, 1) := by decide +kernel
theorem d7_7 : decode jdk_43_method_2_code 7 = .ok (.iload_n 1, 1) := by decide +kernel
theorem d7_8 : decode jdk_43_method_2_code 8 = .ok (.baload, 1) := by decide +kernel
theorem d7_9 : decode jdk_43_method_2_code 9 = .ok (.sipush 255, 3) := by decide +kernel
theorem d7_12 : decode jdk_43_method_2_code 12 = .ok (.iand, 1) := by decide +kernel
theorem d7_13 : decode jdk_43_method_2_code 13 = .ok (.i2c, 1) := by decide +kernel
theorem d7_14 : decode jdk_43_method_2_code 14 = .ok (.ireturn, 1) := by decide +kernel
theorem pn_7 : plainName "java/lang/StringLatin1" = true := by first | (simp [plainName, overriddenIn]; done) | decide +kernel
theorem pdc7ffd0bd : parseMethodDescriptor "(II)V" = some ⟨[.int, .int], none⟩ := by decide +kernel
theorem ef_rmL1 (m : MethodId) (a0 : Addr) (p1 : Int32) : entryFrame m #[(.ref a0), (.int p1)] 2 = mkF m 0 #[.val (.ref a0), .val (.int p1)] [] := by first | (simp [entryFrame, mkF, argsToLocals, Value.category]; done) | rfl
def jByte (x : Int32) : Int32 := (nar .char ((x &&& (255 : Int32)).toUInt32.toUInt16.toUInt32.toInt32))
def Q_rmL1 (Z : State) (x : Int32) (a0 : Addr) (p1 : Int32) (vf : Value) (kk : ClassId) (z : Int32) (vs : List Value) (h0 : Heap) (n0 : Nat) (v : Option Value) (h : Heap) (L : List Loc) : Prop := v = some (.int (jByte x)) ∧ Fr n0 L ∧ h = h0
abbrev F_rmL1 (Z : State) (x : Int32) (a0 : Addr) (p1 : Int32) (vf : Value) (kk : ClassId) (z : Int32) (vs : List Value) (h0 : Heap) (n0 : Nat) (s : State) (o : Outcome) (U : State) : Prop := ∃ v L, o = .returned v ∧ Q_rmL1 Z x a0 p1 vf kk z vs h0 n0 v U.heap L ∧ FrameEnd s o U L 0 0
set_option maxRecDepth 65536 in
set_option maxHeartbeats 40000000 in
theorem rmL1 (l : Launch) (Z : State) (aZ : Array Value) (hw : ∀ d ∈ tables_1, d.before aZ Z = true) (ws : List Jvm.Cond) (x : Int32) (a0 : Addr) (p1 : Int32) (vf : Value) (kk : ClassId) (z : Int32) (vs : List Value) (h0 : Heap) (n0 : Nat) (hvf : vf.isRef = true) (hi : ¬ p1 < 0 ∧ p1 < z) (hx0 : vs.getD p1.toNatClampNeg (.int (0 : Int32)) = .int x) (S_vf : Sta Z h0 "jdk/internal/util/Preconditions" "SIOOBE_FORMATTER" "Ljava/util/function/BiFunction;" vf) (V_kk : Arv Z h0 a0 kk .byte z vs (.int (0 : Int32))) :
    MetFree l (⟨"java/lang/StringLatin1", "charAt", "([BI)C"⟩ : MethodName) (head1 (Jvm.Cond.code (⟨"java/lang/StringLatin1", "charAt", "([BI)C"⟩ : MethodName) jdk_43_method_2_code 2 (some .char) :: ws) ({ frames := 2, cells := 0, slots := 0, locals := 27 } : Room)) (fun a U => a = #[(.ref a0), (.int p1)] ∧ Z.Warmed39 U.vm ∧ U.heap = h0) (fun _ _ _ _ _ => True) (fun _ U o U' => ∃ v L, o = .returned v ∧ Q_rmL1 Z x a0 p1 vf kk z vs h0 n0 v U'.heap L ∧ FrameEnd U o U' L 0 0) := by
  refine MetFree.of_bodySF (plainFor_of_name pn_7) hisR ?_
  intro p e s m args below meth c s₁ Bd hml0 hP hK
  obtain ⟨rfl, hZ, hh⟩ := hP
  have hx := Bd.exec
  have hby := Bd.bytes
  have hml : c.maxLocals = 2 := hml0
  have hown : s.vm.findClass "java/lang/StringLatin1" = some m.cls := findClass_of_methodNamed Bd.named
  have hnm := (name_of_methodNamed Bd.named Bd.method).1
  have X0 : Stand p l e ({ frames := 2, cells := 0, slots := 0, locals := 27 } : Room) s m #[(.ref a0), (.int p1)] below meth c s₁ [] 0 0 := Stand.of_body Bd
  have e0 : s₁.heap = h0 := by rw [← hh, Bd.state]; rfl
  have N0 := Fr.nil n0
  refine Go.st (fun _ k => castTop (ef_rmL1 m a0 p1) k) ?_
  show Go p e below _ (s₁.setTop (mkF m 0 #[.val (.ref a0), .val (.int p1)] []))
  refine Go.st (fun _ k => XS.iloadN X0.here hx rfl (hb hby d7_0) rfl k) ?_
  refine Go.st (fun _ k => XS.aloadN X0.here hx rfl (hb hby d7_1) rfl rfl k) ?_
  obtain ⟨cl1, Ar1, ck1, Sz1, Nn1, Hs1, Gs1⟩ := id V_kk
  refine Go.st (fun _ k => X0.arraylength hx (by rw [e0]; exact Ar1.1) (State.isArrayOf_alike hZ.alike Ar1.2.1) (g := (mkF m 2 #[.val (.ref a0), .val (.int p1)] [(.ref a0), (.int p1)])) rfl rfl (hb hby d7_2) _ k) ?_
  rw [len_of Sz1 Nn1]
  show Go p e below _ (s₁.setTop (mkF m 3 #[.val (.ref a0), .val (.int p1)] [(.int z), (.int p1)]))
  obtain ⟨_, _, ⟨T2, L2, k2, n2⟩, -, X2, ⟨Lc2, hQ2, l2, y2, z2⟩, st2⟩ := Jvm.LawKit.callS X0 hx (y := (⟨"java/lang/String", "checkIndex", "(II)V"⟩ : MethodName)) hown (mvT hZ (hw _ (List.mem_of_getElem? (i := 49) rfl))) (mvT hZ (hw _ (List.mem_of_getElem? (i := 50) rfl))) (mvT hZ (hw _ (List.mem_of_getElem? (i := 23) rfl))) (mvT hZ (hw _ (List.mem_of_getElem? (i := 51) rfl))) (by decide) (backOf (W := 0) (rmChk l Z aZ hw [] p1 z vf h0 n0 hvf hi S_vf) hZ (hw _ (List.mem_of_getElem? (i := 51) rfl)) (hw _ (List.mem_of_getElem? (i := 23) rfl)) (by decide) (by decide)) (g := (mkF m 3 #[.val (.ref a0), .val (.int p1)] [(.int z), (.int p1)])) rfl (by rw [hml]; rfl) (argsL := [(.int p1), (.int z)]) (rest := []) (lenOf pdc7ffd0bd rfl) rfl (by show 2 * 0 + _ ≤ _; exact Nat.le_of_eq rfl) (hb hby d7_3) (fun _ _ => ⟨rfl, e0, (by decide : 0 + 0 ≤ _), (by decide : 0 + 0 ≤ _)⟩)
  dsimp only [Pt.U, Pt.locs, Pt.cells, Pt.slots] at X2 l2 y2 z2 st2 hQ2
  subst l2 y2 z2
  obtain ⟨rfl, N2q, e2⟩ := hQ2
  have N2 := Fr.app N0 N2q
  refine Go.st (fun _ k => st2 _ k) ?_
  show Go p e below _ (T2.setTop (mkF m 6 #[.val (.ref a0), .val (.int p1)] []))
  refine Go.st (fun _ k => XS.aloadN X2.here hx rfl (hb hby d7_6) rfl rfl k) ?_
  refine Go.st (fun _ k => XS.iloadN X2.here hx rfl (hb hby d7_7) rfl k) ?_
  show Go p e below _ (T2.setTop (mkF m 8 #[.val (.ref a0), .val (.int p1)] [(.int p1), (.ref a0)]))
  obtain ⟨cl3, Ar3, ck3, Sz3, Nn3, Hs3, Gs3⟩ := id V_kk
  have hin3 : ¬ (p1 < 0 ∨ cl3.slots.size ≤ (p1).toNatClampNeg) := inb_of Sz3 hi
  have hat3 : cl3.slots[(p1).toNatClampNeg]? = some (.int x) := Hs3.at hin3 hx0
  refine Go.st (fun _ k => X2.baloadBytes hx (j := p1) (v := (.int x)) (by rw [e2]; exact Ar3.1) (State.isArrayOf_alike hZ.alike Ar3.2.1) Ar3.2.2 hin3 hat3 (g := (mkF m 8 #[.val (.ref a0), .val (.int p1)] [(.int p1), (.ref a0)])) rfl rfl (hb hby d7_8) _ k) ?_
  show Go p e below _ (T2.setTop (mkF m 9 #[.val (.ref a0), .val (.int p1)] [(.int x)]))
  refine Go.st (fun _ k => XS.sipush X2.here hx rfl (hb hby d7_9) k) ?_
  refine Go.st (fun _ k => XS.iand X2.here hx rfl (hb hby d7_12) rfl k) ?_
  refine Go.st (fun _ k => XS.i2c X2.here hx rfl (hb hby d7_13) rfl k) ?_
  show Go p e below _ (T2.setTop (mkF m 14 #[.val (.ref a0), .val (.int p1)] [(.int ((x &&& (255 : Int32)).toUInt32.toUInt16.toUInt32.toInt32))]))
  obtain ⟨fs, hr, hrun, hended, hW, hsame⟩ := X2.leave (v := some (.int (nar .char ((x &&& (255 : Int32)).toUInt32.toUInt16.toUInt32.toInt32)))) (fun h => by rw [Bd.returns] at h; cases h)
  refine ⟨_, _, retN X2 hx (t := .char) Bd.returns (by simp) (hb hby d7_14) hr, hrun, hended, _, _, rfl, ?_, ⟨_, rfl⟩, hW, hsame.mono (by decide) (by decide)⟩
  show Q_rmL1 Z x a0 p1 vf kk z vs h0 n0 _ T2.heap _
  rw [e2]
  refine ⟨?_, N2, rfl⟩
  unfold jByte
  rfl
theorem d5_0 : decode jdk_42_method_56_code 0 = .ok (.aload_n 0, 1) := by decide +kernel
theorem d5_1 : decode jdk_42_method_56_code 1 = .ok (.invokevirtual 492, 3) := by decide +kernel
theorem d5_4 : decode jdk_42_method_56_code 4 = .ok (.ifCond .eq 12, 3) := by decide +kernel
theorem d5_7 : decode jdk_42_method_56_code 7 = .ok (.aload_n 0, 1) := by decide +kernel
theorem d5_8 : decode jdk_42_method_56_code 8 = .ok (.getfield 9, 3) := by decide +kernel
theorem d5_11 : decode jdk_42_method_56_code 11 = .ok (.iload_n 1, 1) := by decide +kernel
theorem d5_12 : decode jdk_42_method_56_code 12 = .ok (.invokestatic 495, 3) := by decide +kernel
theorem d5_15 : decode jdk_42_method_56_code 15 = .ok (.ireturn, 1) := by decide +kernel
theorem pn_5 : plainName "java/lang/String" = true := by first | (simp [plainName, overriddenIn]; done) | decide +kernel
theorem pda8ebd : parseMethodDescriptor "()Z" = some ⟨[], some .boolean⟩ := by decide +kernel
theorem pd92f6cd88 : parseMethodDescriptor "([BI)C" = some ⟨[(.array .byte), .int], some .char⟩ := by decide +kernel
theorem ef_rmChar (m : MethodId) (a0 : Addr) (p1 : Int32) : entryFrame m #[(.ref a0), (.int p1)] 2 = mkF m 0 #[.val (.ref a0), .val (.int p1)] [] := by first | (simp [entryFrame, mkF, argsToLocals, Value.category]; done) | rfl
def jChar (x : Int32) : Int32 := (nar .char (jByte x))
def Q_rmChar (Z : State) (x : Int32) (a0 : Addr) (p1 : Int32) (bb : Addr) (co : Int32) (cs : Int32) (vf : Value) (kk : ClassId) (z : Int32) (vs : List Value) (h0 : Heap) (n0 : Nat) (v : Option Value) (h : Heap) (L : List Loc) : Prop := v = some (.int (jChar x)) ∧ Fr n0 L ∧ h = h0
abbrev F_rmChar (Z : State) (x : Int32) (a0 : Addr) (p1 : Int32) (bb : Addr) (co : Int32) (cs : Int32) (vf : Value) (kk : ClassId) (z : Int32) (vs : List Value) (h0 : Heap) (n0 : Nat) (s : State) (o : Outcome) (U : State) : Prop := ∃ v L, o = .returned v ∧ Q_rmChar Z x a0 p1 bb co cs vf kk z vs h0 n0 v U.heap L ∧ FrameEnd s o U L 0 0
set_option maxRecDepth 65536 in
set_option maxHeartbeats 40000000 in
theorem rmChar (l : Launch) (Z : State) (aZ : Array Value) (hw : ∀ d ∈ tables_1, d.before aZ Z = true) (ws : List Jvm.Cond) (x : Int32) (a0 : Addr) (p1 : Int32) (bb : Addr) (co : Int32) (cs : Int32) (vf : Value) (kk : ClassId) (z : Int32) (vs : List Value) (h0 : Heap) (n0 : Nat) (hcs : ¬ cs = 0) (hco : co = 0) (hvf : vf.isRef = true) (hi : ¬ p1 < 0 ∧ p1 < z) (hx0 : vs.getD p1.toNatClampNeg (.int (0 : Int32)) = .int x) (F_bb : Fld Z h0 a0 "java/lang/String" "value" "[B" (.ref bb)) (F_co : Fld Z h0 a0 "java/lang/String" "coder" "B" (.int co)) (E_a0 : Exa Z h0 a0 "java/lang/String") (S_cs : Sta Z h0 "java/lang/String" "COMPACT_STRINGS" "Z" (.int cs)) (S_vf : Sta Z h0 "jdk/internal/util/Preconditions" "SIOOBE_FORMATTER" "Ljava/util/function/BiFunction;" vf) (V_kk : Arv Z h0 bb kk .byte z vs (.int (0 : Int32))) :
    MetFree l (⟨"java/lang/String", "charAt", "(I)C"⟩ : MethodName) (head1 (Jvm.Cond.code (⟨"java/lang/String", "charAt", "(I)C"⟩ : MethodName) jdk_42_method_56_code 2 (some .char) :: ws) ({ frames := 3, cells := 0, slots := 0, locals := 40 } : Room)) (fun a U => a = #[(.ref a0), (.int p1)] ∧ Z.Warmed39 U.vm ∧ U.heap = h0) (fun _ _ _ _ _ => True) (fun _ U o U' => ∃ v L, o = .returned v ∧ Q_rmChar Z x a0 p1 bb co cs vf kk z vs h0 n0 v U'.heap L ∧ FrameEnd U o U' L 0 0) := by
  refine MetFree.of_bodySF (plainFor_of_name pn_5) hisR ?_
  intro p e s m args below meth c s₁ Bd hml0 hP hK
  obtain ⟨rfl, hZ, hh⟩ := hP
  have hx := Bd.exec
  have hby := Bd.bytes
  have hml : c.maxLocals = 2 := hml0
  have hown : s.vm.findClass "java/lang/String" = some m.cls := findClass_of_methodNamed Bd.named
  have hnm := (name_of_methodNamed Bd.named Bd.method).1
  have X0 : Stand p l e ({ frames := 3, cells := 0, slots := 0, locals := 40 } : Room) s m #[(.ref a0), (.int p1)] below meth c s₁ [] 0 0 := Stand.of_body Bd
  have e0 : s₁.heap = h0 := by rw [← hh, Bd.state]; rfl
  have N0 := Fr.nil n0
  refine Go.st (fun _ k => castTop (ef_rmChar m a0 p1) k) ?_
  show Go p e below _ (s₁.setTop (mkF m 0 #[.val (.ref a0), .val (.int p1)] []))
  refine Go.st (fun _ k => XS.aloadN X0.here hx rfl (hb hby d5_0) rfl rfl k) ?_
  obtain ⟨cq1, kq1, q1a, q1b, q1c⟩ := isOf hZ e0 E_a0
  obtain ⟨_, _, ⟨T1, L1, k1, n1⟩, -, X1, ⟨Lc1, hQ1, l1, y1, z1⟩, st1⟩ := X0.virtualBack hx (y := (⟨"java/lang/String", "isLatin1", "()Z"⟩ : MethodName)) (z := (⟨"java/lang/String", "isLatin1", "()Z"⟩ : MethodName)) hown (mvT hZ (hw _ (List.mem_of_getElem? (i := 40) rfl))) (mvT hZ (hw _ (List.mem_of_getElem? (i := 41) rfl))) (notFace_of_selects (args := #[]) (mvT hZ (hw _ (List.mem_of_getElem? (i := 43) rfl)))) (mvT hZ (hw _ (List.mem_of_getElem? (i := 43) rfl))) (mvT hZ (hw _ (List.mem_of_getElem? (i := 42) rfl))) (by decide) (backOf (W := 0) (rmLatin l Z aZ hw [] a0 co cs h0 n0 hcs hco F_co S_cs) hZ (hw _ (List.mem_of_getElem? (i := 44) rfl)) (hw _ (List.mem_of_getElem? (i := 23) rfl)) (by decide) (by decide)) q1a q1c (g := (mkF m 1 #[.val (.ref a0), .val (.int p1)] [(.ref a0)])) rfl (by rw [hml]; rfl) (Steps.refl _) (argsL := []) (rest := []) (lenOf pda8ebd rfl) rfl (by show 2 * 0 + _ ≤ _; exact Nat.le_of_eq rfl) (hb hby d5_1) (fun _ _ => ⟨rfl, e0, (by decide : 0 + 0 ≤ _), (by decide : 0 + 0 ≤ _)⟩)
  dsimp only [Pt.U, Pt.locs, Pt.cells, Pt.slots] at X1 l1 y1 z1 st1 hQ1
  subst l1 y1 z1
  obtain ⟨rfl, N1q, e1⟩ := hQ1
  have N1 := Fr.app N0 N1q
  refine Go.st (fun _ k => st1.trans k) ?_
  show Go p e below _ (T1.setTop (mkF m 4 #[.val (.ref a0), .val (.int p1)] [(.int (jLatin co))]))
  refine Go.st (fun _ k => XS.ifNo X1.here hx rfl (hb hby d5_4) rfl ((if0 _ _).trans (feq (by unfold jLatin; decide)).1) k) ?_
  show Go p e below _ (T1.setTop (mkF m 7 #[.val (.ref a0), .val (.int p1)] []))
  refine Go.st (fun _ k => XS.aloadN X1.here hx rfl (hb hby d5_7) rfl rfl k) ?_
  obtain ⟨T2, X2, e2, st2⟩ := getF X1 hx hZ hown (host := "") (Or.inl (hw _ (List.mem_of_getElem? (i := 25) rfl))) Via.refl e1 F_bb (g := (mkF m 8 #[.val (.ref a0), .val (.int p1)] [(.ref a0)])) rfl rfl (hb hby d5_8)
  refine Go.st (fun _ k => st2 _ k) ?_
  show Go p e below _ (T2.setTop (mkF m 11 #[.val (.ref a0), .val (.int p1)] [(.ref bb)]))
  refine Go.st (fun _ k => XS.iloadN X2.here hx rfl (hb hby d5_11) rfl k) ?_
  obtain ⟨_, _, ⟨T3, L3, k3, n3⟩, -, X3, ⟨Lc3, hQ3, l3, y3, z3⟩, st3⟩ := Jvm.LawKit.callS X2 hx (y := (⟨"java/lang/StringLatin1", "charAt", "([BI)C"⟩ : MethodName)) hown (mvT hZ (hw _ (List.mem_of_getElem? (i := 45) rfl))) (mvT hZ (hw _ (List.mem_of_getElem? (i := 46) rfl))) (mvT hZ (hw _ (List.mem_of_getElem? (i := 47) rfl))) (mvT hZ (hw _ (List.mem_of_getElem? (i := 48) rfl))) (by decide) (backOf (W := 0) (rmL1 l Z aZ hw [] x bb p1 vf kk z vs h0 n0 hvf hi hx0 S_vf V_kk) hZ (hw _ (List.mem_of_getElem? (i := 48) rfl)) (hw _ (List.mem_of_getElem? (i := 47) rfl)) (by decide) (by decide)) (g := (mkF m 12 #[.val (.ref a0), .val (.int p1)] [(.int p1), (.ref bb)])) rfl (by rw [hml]; rfl) (argsL := [(.ref bb), (.int p1)]) (rest := []) (lenOf pd92f6cd88 rfl) rfl (by show 2 * 0 + _ ≤ _; exact Nat.le_of_eq rfl) (hb hby d5_12) (fun _ _ => ⟨rfl, e2, (by decide : 0 + 0 ≤ _), (by decide : 0 + 0 ≤ _)⟩)
  dsimp only [Pt.U, Pt.locs, Pt.cells, Pt.slots] at X3 l3 y3 z3 st3 hQ3
  subst l3 y3 z3
  obtain ⟨rfl, N3q, e3⟩ := hQ3
  have N3 := Fr.app N1 N3q
  refine Go.st (fun _ k => st3 _ k) ?_
  show Go p e below _ (T3.setTop (mkF m 15 #[.val (.ref a0), .val (.int p1)] [(.int (jByte x))]))
  obtain ⟨fs, hr, hrun, hended, hW, hsame⟩ := X3.leave (v := some (.int (nar .char (jByte x)))) (fun h => by rw [Bd.returns] at h; cases h)
  refine ⟨_, _, retN X3 hx (t := .char) Bd.returns (by simp) (hb hby d5_15) hr, hrun, hended, _, _, rfl, ?_, ⟨_, rfl⟩, hW, hsame.mono (by decide) (by decide)⟩
  show Q_rmChar Z x a0 p1 bb co cs vf kk z vs h0 n0 _ T3.heap _
  rw [e3]
  refine ⟨?_, N3, rfl⟩
  unfold jChar
  rfl
theorem d3_0 : decode jdk_42_method_54_code 0 = .ok (.aload_n 0, 1) := by decide +kernel
theorem d3_1 : decode jdk_42_method_54_code 1 = .ok (.getfield 9, 3) := by decide +kernel
theorem d3_4 : decode jdk_42_method_54_code 4 = .ok (.arraylength, 1) := by decide +kernel
theorem d3_5 : decode jdk_42_method_54_code 5 = .ok (.aload_n 0, 1) := by decide +kernel
theorem d3_6 : decode jdk_42_method_54_code 6 = .ok (.invokevirtual 335, 3) := by decide +kernel
theorem d3_9 : decode jdk_42_method_54_code 9 = .ok (.ishr, 1) := by decide +kernel
theorem d3_10 : decode jdk_42_method_54_code 10 = .ok (.ireturn, 1) := by decide +kernel
theorem pn_3 : plainName "java/lang/String" = true := by first | (simp [plainName, overriddenIn]; done) | decide +kernel
theorem pda8ea5 : parseMethodDescriptor "()B" = some ⟨[], some .byte⟩ := by decide +kernel
theorem ef_rmLen (m : MethodId) (a0 : Addr) : entryFrame m #[(.ref a0)] 1 = mkF m 0 #[.val (.ref a0)] [] := by first | (simp [entryFrame, mkF, argsToLocals, Value.category]; done) | rfl
def jLen (co : Int32) (z : Int32) : Int32 := (z >>> ((jCoder co) &&& 31))
def Q_rmLen (Z : State) (a0 : Addr) (bb : Addr) (co : Int32) (cs : Int32) (kk : ClassId) (z : Int32) (vs : List Value) (h0 : Heap) (n0 : Nat) (v : Option Value) (h : Heap) (L : List Loc) : Prop := v = some (.int (jLen co z)) ∧ Fr n0 L ∧ h = h0
abbrev F_rmLen (Z : State) (a0 : Addr) (bb : Addr) (co : Int32) (cs : Int32) (kk : ClassId) (z : Int32) (vs : List Value) (h0 : Heap) (n0 : Nat) (s : State) (o : Outcome) (U : State) : Prop := ∃ v L, o = .returned v ∧ Q_rmLen Z a0 bb co cs kk z vs h0 n0 v U.heap L ∧ FrameEnd s o U L 0 0
set_option maxRecDepth 65536 in
set_option maxHeartbeats 40000000 in
theorem rmLen (l : Launch) (Z : State) (aZ : Array Value) (hw : ∀ d ∈ tables_1, d.before aZ Z = true) (ws : List Jvm.Cond) (a0 : Addr) (bb : Addr) (co : Int32) (cs : Int32) (kk : ClassId) (z : Int32) (vs : List Value) (h0 : Heap) (n0 : Nat) (hcs : ¬ cs = 0) (F_bb : Fld Z h0 a0 "java/lang/String" "value" "[B" (.ref bb)) (F_co : Fld Z h0 a0 "java/lang/String" "coder" "B" (.int co)) (E_a0 : Exa Z h0 a0 "java/lang/String") (S_cs : Sta Z h0 "java/lang/String" "COMPACT_STRINGS" "Z" (.int cs)) (V_kk : Arv Z h0 bb kk .byte z vs (.int (0 : Int32))) :
    MetFree l (⟨"java/lang/String", "length", "()I"⟩ : MethodName) (head1 (Jvm.Cond.code (⟨"java/lang/String", "length", "()I"⟩ : MethodName) jdk_42_method_54_code 1 (some .int) :: ws) ({ frames := 1, cells := 0, slots := 0, locals := 13 } : Room)) (fun a U => a = #[(.ref a0)] ∧ Z.Warmed39 U.vm ∧ U.heap = h0) (fun _ _ _ _ _ => True) (fun _ U o U' => ∃ v L, o = .returned v ∧ Q_rmLen Z a0 bb co cs kk z vs h0 n0 v U'.heap L ∧ FrameEnd U o U' L 0 0) := by
  refine MetFree.of_bodySF (plainFor_of_name pn_3) hisR ?_
  intro p e s m args below meth c s₁ Bd hml0 hP hK
  obtain ⟨rfl, hZ, hh⟩ := hP
  have hx := Bd.exec
  have hby := Bd.bytes
  have hml : c.maxLocals = 1 := hml0
  have hown : s.vm.findClass "java/lang/String" = some m.cls := findClass_of_methodNamed Bd.named
  have hnm := (name_of_methodNamed Bd.named Bd.method).1
  have X0 : Stand p l e ({ frames := 1, cells := 0, slots := 0, locals := 13 } : Room) s m #[(.ref a0)] below meth c s₁ [] 0 0 := Stand.of_body Bd
  have e0 : s₁.heap = h0 := by rw [← hh, Bd.state]; rfl
  have N0 := Fr.nil n0
  refine Go.st (fun _ k => castTop (ef_rmLen m a0) k) ?_
  show Go p e below _ (s₁.setTop (mkF m 0 #[.val (.ref a0)] []))
  refine Go.st (fun _ k => XS.aloadN X0.here hx rfl (hb hby d3_0) rfl rfl k) ?_
  obtain ⟨T1, X1, e1, st1⟩ := getF X0 hx hZ hown (host := "") (Or.inl (hw _ (List.mem_of_getElem? (i := 25) rfl))) Via.refl e0 F_bb (g := (mkF m 1 #[.val (.ref a0)] [(.ref a0)])) rfl rfl (hb hby d3_1)
  refine Go.st (fun _ k => st1 _ k) ?_
  show Go p e below _ (T1.setTop (mkF m 4 #[.val (.ref a0)] [(.ref bb)]))
  obtain ⟨cl2, Ar2, ck2, Sz2, Nn2, Hs2, Gs2⟩ := id V_kk
  refine Go.st (fun _ k => X1.arraylength hx (by rw [e1]; exact Ar2.1) (State.isArrayOf_alike hZ.alike Ar2.2.1) (g := (mkF m 4 #[.val (.ref a0)] [(.ref bb)])) rfl rfl (hb hby d3_4) _ k) ?_
  rw [len_of Sz2 Nn2]
  show Go p e below _ (T1.setTop (mkF m 5 #[.val (.ref a0)] [(.int z)]))
  refine Go.st (fun _ k => XS.aloadN X1.here hx rfl (hb hby d3_5) rfl rfl k) ?_
  obtain ⟨cq3, kq3, q3a, q3b, q3c⟩ := isOf hZ e1 E_a0
  obtain ⟨_, _, ⟨T3, L3, k3, n3⟩, -, X3, ⟨Lc3, hQ3, l3, y3, z3⟩, st3⟩ := X1.virtualBack hx (y := (⟨"java/lang/String", "coder", "()B"⟩ : MethodName)) (z := (⟨"java/lang/String", "coder", "()B"⟩ : MethodName)) hown (mvT hZ (hw _ (List.mem_of_getElem? (i := 27) rfl))) (mvT hZ (hw _ (List.mem_of_getElem? (i := 28) rfl))) (notFace_of_selects (args := #[]) (mvT hZ (hw _ (List.mem_of_getElem? (i := 30) rfl)))) (mvT hZ (hw _ (List.mem_of_getElem? (i := 30) rfl))) (mvT hZ (hw _ (List.mem_of_getElem? (i := 29) rfl))) (by decide) (backOf (W := 1) (rmCoder l Z aZ hw [] a0 co cs h0 n0 hcs F_co S_cs) hZ (hw _ (List.mem_of_getElem? (i := 31) rfl)) (hw _ (List.mem_of_getElem? (i := 23) rfl)) (by decide) (by decide)) q3a q3c (g := (mkF m 6 #[.val (.ref a0)] [(.ref a0), (.int z)])) rfl (by rw [hml]; rfl) (Steps.refl _) (argsL := []) (rest := [(.int z)]) (lenOf pda8ea5 rfl) rfl (by show 2 * 0 + _ ≤ _; exact Nat.le_of_eq rfl) (hb hby d3_6) (fun _ _ => ⟨rfl, e1, (by decide : 0 + 0 ≤ _), (by decide : 0 + 0 ≤ _)⟩)
  dsimp only [Pt.U, Pt.locs, Pt.cells, Pt.slots] at X3 l3 y3 z3 st3 hQ3
  subst l3 y3 z3
  obtain ⟨rfl, N3q, e3⟩ := hQ3
  have N3 := Fr.app N0 N3q
  refine Go.st (fun _ k => st3.trans k) ?_
  show Go p e below _ (T3.setTop (mkF m 9 #[.val (.ref a0)] [(.int (jCoder co)), (.int z)]))
  refine Go.st (fun _ k => XS.ishr X3.here hx rfl (hb hby d3_9) rfl k) ?_
  show Go p e below _ (T3.setTop (mkF m 10 #[.val (.ref a0)] [(.int (z >>> ((jCoder co) &&& 31)))]))
  obtain ⟨fs, hr, hrun, hended, hW, hsame⟩ := X3.leave (v := some (.int (z >>> ((jCoder co) &&& 31)))) (fun h => by rw [Bd.returns] at h; cases h)
  refine ⟨_, _, retI X3 hx Bd.returns (hb hby d3_10) hr, hrun, hended, _, _, rfl, ?_, ⟨_, rfl⟩, hW, hsame.mono (by decide) (by decide)⟩
  show Q_rmLen Z a0 bb co cs kk z vs h0 n0 _ T3.heap _
  rw [e3]
  refine ⟨?_, N3, rfl⟩
  unfold jLen
  rfl
theorem d1_0 : decode prog_138_method_5_code 0 = .ok (.aload_n 0, 1) := by decide +kernel
theorem d1_1 : decode prog_138_method_5_code 1 = .ok (.getstatic 7, 3) := by decide +kernel
theorem d1_4 : decode prog_138_method_5_code 4 = .ok (.if_acmp .eq 10, 3) := by decide +kernel
theorem d1_7 : decode prog_138_method_5_code 7 = .ok (.aload_n 0, 1) := by decide +kernel
theorem d1_8 : decode prog_138_method_5_code 8 = .ok (.getstatic 13, 3) := by decide +kernel
theorem d1_11 : decode prog_138_method_5_code 11 = .ok (.if_acmp .ne 7, 3) := by decide +kernel
theorem d1_14 : decode prog_138_method_5_code 14 = .ok (.iconst 1, 1) := by decide +kernel
theorem d1_15 : decode prog_138_method_5_code 15 = .ok (.goto 4, 3) := by decide +kernel
theorem d1_18 : decode prog_138_method_5_code 18 = .ok (.iconst 0, 1) := by decide +kernel
theorem d1_19 : decode prog_138_method_5_code 19 = .ok (.ireturn, 1) := by decide +kernel
theorem pn_1 : plainName "com/example/sluiceway/sluiceway/table/RowKind" = true := by first | (simp [plainName, overriddenIn]; done) | decide +kernel
theorem ef_rmRet (m : MethodId) (a0 : Addr) : entryFrame m #[(.ref a0)] 1 = mkF m 0 #[.val (.ref a0)] [] := by first | (simp [entryFrame, mkF, argsToLocals, Value.category]; done) | rfl
def fRet (a0 : Addr) (ub : Addr) (de : Addr) : Int32 := if a0 = ub then (1 : Int32) else (if a0 = de then (1 : Int32) else (0 : Int32))
def Q_rmRet (Z : State) (a0 : Addr) (ub : Addr) (de : Addr) (h0 : Heap) (n0 : Nat) (v : Option Value) (h : Heap) (L : List Loc) : Prop := v = some (.int (fRet a0 ub de)) ∧ Fr n0 L ∧ h = h0
abbrev F_rmRet (Z : State) (a0 : Addr) (ub : Addr) (de : Addr) (h0 : Heap) (n0 : Nat) (s : State) (o : Outcome) (U : State) : Prop := ∃ v L, o = .returned v ∧ Q_rmRet Z a0 ub de h0 n0 v U.heap L ∧ FrameEnd s o U L 0 0
set_option maxRecDepth 65536 in
set_option maxHeartbeats 40000000 in
theorem rmRet (l : Launch) (Z : State) (aZ : Array Value) (hw : ∀ d ∈ tables_1, d.before aZ Z = true) (ws : List Jvm.Cond) (a0 : Addr) (ub : Addr) (de : Addr) (h0 : Heap) (n0 : Nat) (S_ub : Sta Z h0 "com/example/sluiceway/sluiceway/table/RowKind" "UPDATE_BEFORE" "Lcom/example/sluiceway/sluiceway/table/RowKind;" (.ref ub)) (S_de : Sta Z h0 "com/example/sluiceway/sluiceway/table/RowKind" "DELETE" "Lcom/example/sluiceway/sluiceway/table/RowKind;" (.ref de)) :
    MetFree l (⟨"com/example/sluiceway/sluiceway/table/RowKind", "retracts", "()Z"⟩ : MethodName) (head1 (Jvm.Cond.code (⟨"com/example/sluiceway/sluiceway/table/RowKind", "retracts", "()Z"⟩ : MethodName) prog_138_method_5_code 1 (some .boolean) :: ws) ({ frames := 0, cells := 0, slots := 0, locals := 0 } : Room)) (fun a U => a = #[(.ref a0)] ∧ Z.Warmed39 U.vm ∧ U.heap = h0) (fun _ _ _ _ _ => True) (fun _ U o U' => ∃ v L, o = .returned v ∧ Q_rmRet Z a0 ub de h0 n0 v U'.heap L ∧ FrameEnd U o U' L 0 0) := by
  refine MetFree.of_bodySF (plainFor_of_name pn_1) hisR ?_
  intro p e s m args below meth c s₁ Bd hml0 hP hK
  obtain ⟨rfl, hZ, hh⟩ := hP
  have hx := Bd.exec
  have hby := Bd.bytes
  have hml : c.maxLocals = 1 := hml0
  have hown : s.vm.findClass "com/example/sluiceway/sluiceway/table/RowKind" = some m.cls := findClass_of_methodNamed Bd.named
  have hnm := (name_of_methodNamed Bd.named Bd.method).1
  have X0 : Stand p l e ({ frames := 0, cells := 0, slots := 0, locals := 0 } : Room) s m #[(.ref a0)] below meth c s₁ [] 0 0 := Stand.of_body Bd
  have e0 : s₁.heap = h0 := by rw [← hh, Bd.state]; rfl
  have N0 := Fr.nil n0
  refine Go.st (fun _ k => castTop (ef_rmRet m a0) k) ?_
  show Go p e below _ (s₁.setTop (mkF m 0 #[.val (.ref a0)] []))
  refine Go.st (fun _ k => XS.aloadN X0.here hx rfl (hb hby d1_0) rfl rfl k) ?_
  obtain ⟨T1, X1, e1, st1⟩ := getS2 X0 hx hZ hown (host := "") (Or.inl (hw _ (List.mem_of_getElem? (i := 8) rfl))) Via.refl e0 S_ub (g := (mkF m 1 #[.val (.ref a0)] [(.ref a0)])) rfl (hb hby d1_1)
  refine Go.st (fun _ k => st1 _ k) ?_
  show Go p e below _ (T1.setTop (mkF m 4 #[.val (.ref a0)] [(.ref ub), (.ref a0)]))
  by_cases hc2 : a0 = ub
  · skip
    refine Go.st (fun _ k => Jvm.RoadKit.acmp (g := (mkF m 4 #[.val (.ref a0)] [(.ref ub), (.ref a0)])) X1 hx rfl rfl rfl (pc0 := 4) (pc' := 14) (same := true) rfl (hb hby d1_4) rfl (decide_eq_true (congrArg Value.ref hc2)) (by decide) (by decide) k) ?_
    show Go p e below _ (T1.setTop (mkF m 14 #[.val (.ref a0)] []))
    refine Go.st (fun _ k => XS.iconst X1.here hx rfl (hb hby d1_14) k) ?_
    refine Go.st (fun _ k => XS.goto X1.here hx rfl (pc0 := 15) (pc' := 19) rfl (hb hby d1_15) (by decide) (by decide) k) ?_
    show Go p e below _ (T1.setTop (mkF m 19 #[.val (.ref a0)] [(.int (1 : Int32))]))
    obtain ⟨fs, hr, hrun, hended, hW, hsame⟩ := X1.leave (v := some (.int (1 : Int32))) (fun h => by rw [Bd.returns] at h; cases h)
    refine ⟨_, _, retN X1 hx (t := .boolean) Bd.returns (by simp) (hb hby d1_19) hr, hrun, hended, _, _, rfl, ?_, ⟨_, rfl⟩, hW, hsame.mono (by decide) (by decide)⟩
    show Q_rmRet Z a0 ub de h0 n0 _ T1.heap _
    rw [e1]
    refine ⟨?_, N0, rfl⟩
    unfold fRet
    rw [if_pos hc2]
  · skip
    refine Go.st (fun _ k => Jvm.RoadKit.acmp (g := (mkF m 4 #[.val (.ref a0)] [(.ref ub), (.ref a0)])) X1 hx rfl rfl rfl (pc0 := 4) (pc' := 7) (same := false) rfl (hb hby d1_4) rfl (decide_eq_false fun q => hc2 (Value.ref.inj q)) (by decide) (by decide) k) ?_
    show Go p e below _ (T1.setTop (mkF m 7 #[.val (.ref a0)] []))
    refine Go.st (fun _ k => XS.aloadN X1.here hx rfl (hb hby d1_7) rfl rfl k) ?_
    obtain ⟨T3, X3, e3, st3⟩ := getS2 X1 hx hZ hown (host := "") (Or.inl (hw _ (List.mem_of_getElem? (i := 10) rfl))) Via.refl e1 S_de (g := (mkF m 8 #[.val (.ref a0)] [(.ref a0)])) rfl (hb hby d1_8)
    refine Go.st (fun _ k => st3 _ k) ?_
    show Go p e below _ (T3.setTop (mkF m 11 #[.val (.ref a0)] [(.ref de), (.ref a0)]))
    by_cases hc4 : a0 = de
    · skip
      refine Go.st (fun _ k => Jvm.RoadKit.acmp (g := (mkF m 11 #[.val (.ref a0)] [(.ref de), (.ref a0)])) X3 hx rfl rfl rfl (pc0 := 11) (pc' := 14) (same := true) rfl (hb hby d1_11) rfl (decide_eq_true (congrArg Value.ref hc4)) (by decide) (by decide) k) ?_
      show Go p e below _ (T3.setTop (mkF m 14 #[.val (.ref a0)] []))
      refine Go.st (fun _ k => XS.iconst X3.here hx rfl (hb hby d1_14) k) ?_
      refine Go.st (fun _ k => XS.goto X3.here hx rfl (pc0 := 15) (pc' := 19) rfl (hb hby d1_15) (by decide) (by decide) k) ?_
      show Go p e below _ (T3.setTop (mkF m 19 #[.val (.ref a0)] [(.int (1 : Int32))]))
      obtain ⟨fs, hr, hrun, hended, hW, hsame⟩ := X3.leave (v := some (.int (1 : Int32))) (fun h => by rw [Bd.returns] at h; cases h)
      refine ⟨_, _, retN X3 hx (t := .boolean) Bd.returns (by simp) (hb hby d1_19) hr, hrun, hended, _, _, rfl, ?_, ⟨_, rfl⟩, hW, hsame.mono (by decide) (by decide)⟩
      show Q_rmRet Z a0 ub de h0 n0 _ T3.heap _
      rw [e3]
      refine ⟨?_, N0, rfl⟩
      unfold fRet
      rw [if_neg hc2, if_pos hc4]
    · skip
      refine Go.st (fun _ k => Jvm.RoadKit.acmp (g := (mkF m 11 #[.val (.ref a0)] [(.ref de), (.ref a0)])) X3 hx rfl rfl rfl (pc0 := 11) (pc' := 18) (same := false) rfl (hb hby d1_11) rfl (decide_eq_false fun q => hc4 (Value.ref.inj q)) (by decide) (by decide) k) ?_
      show Go p e below _ (T3.setTop (mkF m 18 #[.val (.ref a0)] []))
      refine Go.st (fun _ k => XS.iconst X3.here hx rfl (hb hby d1_18) k) ?_
      obtain ⟨fs, hr, hrun, hended, hW, hsame⟩ := X3.leave (v := some (.int (0 : Int32))) (fun h => by rw [Bd.returns] at h; cases h)
      refine ⟨_, _, retN X3 hx (t := .boolean) Bd.returns (by simp) (hb hby d1_19) hr, hrun, hended, _, _, rfl, ?_, ⟨_, rfl⟩, hW, hsame.mono (by decide) (by decide)⟩
      show Q_rmRet Z a0 ub de h0 n0 _ T3.heap _
      rw [e3]
      refine ⟨?_, N0, rfl⟩
      unfold fRet
      rw [if_neg hc2, if_neg hc4]
theorem d2_0 : decode prog_138_method_4_code 0 = .ok (.aload_n 0, 1) := by decide +kernel
theorem d2_1 : decode prog_138_method_4_code 1 = .ok (.getfield 35, 3) := by decide +kernel
theorem d2_4 : decode prog_138_method_4_code 4 = .ok (.areturn, 1) := by decide +kernel
theorem pn_2 : plainName "com/example/sluiceway/sluiceway/table/RowKind" = true := by first | (simp [plainName, overriddenIn]; done) | decide +kernel
theorem ef_rmSym (m : MethodId) (a0 : Addr) : entryFrame m #[(.ref a0)] 1 = mkF m 0 #[.val (.ref a0)] [] := by first | (simp [entryFrame, mkF, argsToLocals, Value.category]; done) | rfl
def Q_rmSym (Z : State) (a0 : Addr) (sy : Addr) (h0 : Heap) (n0 : Nat) (v : Option Value) (h : Heap) (L : List Loc) : Prop := v = some (.ref sy) ∧ Fr n0 L ∧ h = h0
abbrev F_rmSym (Z : State) (a0 : Addr) (sy : Addr) (h0 : Heap) (n0 : Nat) (s : State) (o : Outcome) (U : State) : Prop := ∃ v L, o = .returned v ∧ Q_rmSym Z a0 sy h0 n0 v U.heap L ∧ FrameEnd s o U L 0 0
set_option maxRecDepth 65536 in
set_option maxHeartbeats 40000000 in
theorem rmSym (l : Launch) (Z : State) (aZ : Array Value) (hw : ∀ d ∈ tables_1, d.before aZ Z = true) (ws : List Jvm.Cond) (a0 : Addr) (sy : Addr) (h0 : Heap) (n0 : Nat) (F_sy : Fld Z h0 a0 "com/example/sluiceway/sluiceway/table/RowKind" "symbol" "Ljava/lang/String;" (.ref sy)) :
    MetFree l (⟨"com/example/sluiceway/sluiceway/table/RowKind", "symbol", "()Ljava/lang/String;"⟩ : MethodName) (head1 (Jvm.Cond.code (⟨"com/example/sluiceway/sluiceway/table/RowKind", "symbol", "()Ljava/lang/String;"⟩ : MethodName) prog_138_method_4_code 1 (some (.object "java/lang/String")) :: ws) ({ frames := 0, cells := 0, slots := 0, locals := 0 } : Room)) (fun a U => a = #[(.ref a0)] ∧ Z.Warmed39 U.vm ∧ U.heap = h0) (fun _ _ _ _ _ => True) (fun _ U o U' => ∃ v L, o = .returned v ∧ Q_rmSym Z a0 sy h0 n0 v U'.heap L ∧ FrameEnd U o U' L 0 0) := by
  refine MetFree.of_bodySF (plainFor_of_name pn_2) hisR ?_
  intro p e s m args below meth c s₁ Bd hml0 hP hK
  obtain ⟨rfl, hZ, hh⟩ := hP
  have hx := Bd.exec
  have hby := Bd.bytes
  have hml : c.maxLocals = 1 := hml0
  have hown : s.vm.findClass "com/example/sluiceway/sluiceway/table/RowKind" = some m.cls := findClass_of_methodNamed Bd.named
  have hnm := (name_of_methodNamed Bd.named Bd.method).1
  have X0 : Stand p l e ({ frames := 0, cells := 0, slots := 0, locals := 0 } : Room) s m #[(.ref a0)] below meth c s₁ [] 0 0 := Stand.of_body Bd
  have e0 : s₁.heap = h0 := by rw [← hh, Bd.state]; rfl
  have N0 := Fr.nil n0
  refine Go.st (fun _ k => castTop (ef_rmSym m a0) k) ?_
  show Go p e below _ (s₁.setTop (mkF m 0 #[.val (.ref a0)] []))
  refine Go.st (fun _ k => XS.aloadN X0.here hx rfl (hb hby d2_0) rfl rfl k) ?_
  obtain ⟨T1, X1, e1, st1⟩ := getF X0 hx hZ hown (host := "") (Or.inl (hw _ (List.mem_of_getElem? (i := 17) rfl))) Via.refl e0 F_sy (g := (mkF m 1 #[.val (.ref a0)] [(.ref a0)])) rfl rfl (hb hby d2_1)
  refine Go.st (fun _ k => st1 _ k) ?_
  show Go p e below _ (T1.setTop (mkF m 4 #[.val (.ref a0)] [(.ref sy)]))
  obtain ⟨fs, hr, hrun, hended, hW, hsame⟩ := X1.leave (v := some (.ref sy)) (fun h => by rw [Bd.returns] at h; cases h)
  refine ⟨_, _, retA X1 hx Bd.returns rfl rfl (hb hby d2_4) hr, hrun, hended, _, _, rfl, ?_, ⟨_, rfl⟩, hW, hsame.mono (by decide) (by decide)⟩
  show Q_rmSym Z a0 sy h0 n0 _ T1.heap _
  rw [e1]
  exact ⟨rfl, N0, rfl⟩
theorem own_ret1 (x d : Addr) : fRet x x d = 1 := by
  unfold fRet
  rw [if_pos rfl]
theorem own_ret2 {x u : Addr} (h : x ≠ u) : fRet x u x = 1 := by
  unfold fRet
  rw [if_neg h, if_pos rfl]
theorem own_ret0 {x u d : Addr} (h : x ≠ u) (h2 : x ≠ d) : fRet x u d = 0 := by
  unfold fRet
  rw [if_neg h, if_neg h2]
theorem own_eqint {t : Term} {k : Int32} {args : Array Value} {s : State} (h : (Cond.eq t (.int k)).value args s none s [] = some true) : t.eval args s none [] s = some (.int k) := by
  obtain ⟨x, y, ex, ey, kx, ky⟩ := cmp_v (Or.inl h)
  have e : y = .int k := Option.some.inj (ey.symm.trans (Term.int_eval k))
  subst e
  obtain ⟨z, rfl⟩ := ky
  have e2 := gotT (Cond.eq_ints ex (Term.int_eval k)) h
  rw [ex, e2]
theorem own_len {t : Term} {args : Array Value} {s : State} {x : Addr} {cl : Cell} {ty : FieldType} {k : Int32} (h : (Term.length t).eval args s none [] s = some (.int k)) (ht : t.eval args s none [] s = some (.ref x)) (A : Arr s s.heap x cl ty) : cl.slots.size < 2 ^ 31 ∧ cl.slots.size.toInt32 = k := by
  have ha : s.arrayAt? x = some cl := A.fin (Vm.Alike.refl _)
  by_cases hl : cl.slots.size < 2 ^ 31
  · have e := len_f ht ha hl
    rw [h] at e
    exact ⟨hl, by injection (Option.some.inj e) with e2; exact e2.symm⟩
  · simp [Term.eval, ht, ha] at h
    omega
abbrev RK : String := "com/example/sluiceway/sluiceway/table/RowKind"
abbrev RD : String := "Lcom/example/sluiceway/sluiceway/table/RowKind;"
theorem own_row {args : Array Value} {s : State} (hf : Fit s) {f : String} {k c0 c1 : Int32} (w1 : (Cond.initialized RK).before args s = true) (w2 : (Cond.laysStatic RK f RD).before args s = true)
    (h1 : (Cond.exactly (.static RK f RD) RK).value args s none s [] = some true)
    (h2 : (Cond.eq (.field (.static RK f RD) "java/lang/Enum" "ordinal" "I") (.int k)).value args s none s [] = some true)
    (h3 : (Cond.exactly (.field (.static RK f RD) RK "symbol" "Ljava/lang/String;") "java/lang/String").value args s none s [] = some true)
    (h4 : (Cond.arrayOf (.field (.field (.static RK f RD) RK "symbol" "Ljava/lang/String;") "java/lang/String" "value" "[B") .byte).value args s none s [] = some true)
    (h5 : (Cond.eq (.length (.field (.field (.static RK f RD) RK "symbol" "Ljava/lang/String;") "java/lang/String" "value" "[B")) (.int 2)).value args s none s [] = some true)
    (h6 : (Cond.eq (.field (.field (.static RK f RD) RK "symbol" "Ljava/lang/String;") "java/lang/String" "coder" "B") (.int 0)).value args s none s [] = some true)
    (h7 : (Cond.eq (.elem (.field (.field (.static RK f RD) RK "symbol" "Ljava/lang/String;") "java/lang/String" "value" "[B") (.int 0)) (.int c0)).value args s none s [] = some true)
    (h8 : (Cond.eq (.elem (.field (.field (.static RK f RD) RK "symbol" "Ljava/lang/String;") "java/lang/String" "value" "[B") (.int 1)) (.int c1)).value args s none s [] = some true) :
    ∃ (x y b : Addr) (kk : ClassId), Sta s s.heap RK f RD (.ref x) ∧ Exa s s.heap x RK ∧ Fld s s.heap x "java/lang/Enum" "ordinal" "I" (.int k) ∧ Fld s s.heap x RK "symbol" "Ljava/lang/String;" (.ref y) ∧ Exa s s.heap y "java/lang/String" ∧ Fld s s.heap y "java/lang/String" "coder" "B" (.int (0 : Int32)) ∧
      Fld s s.heap y "java/lang/String" "value" "[B" (.ref b) ∧ Arv s s.heap b kk .byte (2 : Int32) [(.int c0), (.int c1)] (.int (0 : Int32)) := by
  obtain ⟨x, ex⟩ := exa_v h1
  obtain ⟨y, ey⟩ := exa_v h3
  obtain ⟨b, eb⟩ := arr_v h4
  obtain ⟨cl, A⟩ := Arr.start eb h4
  obtain ⟨hl, he⟩ := own_len (own_eqint h5) eb A
  obtain ⟨-, i0⟩ := elem_in (own_eqint h7) eb (Term.int_eval 0) A.1
  obtain ⟨-, i1⟩ := elem_in (own_eqint h8) eb (Term.int_eval 1) A.1
  refine ⟨x, y, b, cl.cls, Sta.start ex (Or.inr ⟨w1, w2⟩), Exa.start ex h1, Fld.start ((fld_at ex).symm.trans (own_eqint h2)), Fld.start ((fld_at ex).symm.trans ey), Exa.start ey h3, Fld.start ((fld_at ey).symm.trans (own_eqint h6)), Fld.start ((fld_at ey).symm.trans eb), ?_⟩
  exact Arv.start hf A hl he (by decide) rfl ⟨i0, i1, trivial⟩

theorem pn_0 : plainName "com/example/sluiceway/sluiceway/table/RowKindRetractsPinLaw" = true := by first | (simp [plainName, overriddenIn]; done) | decide +kernel
theorem pddee81b67 : parseMethodDescriptor "()Ljava/lang/String;" = some ⟨[], some (.object "java/lang/String")⟩ := by decide +kernel
theorem pda8eac : parseMethodDescriptor "()I" = some ⟨[], some .int⟩ := by decide +kernel
theorem pd56f5307 : parseMethodDescriptor "(I)C" = some ⟨[.int], some .char⟩ := by decide +kernel
theorem ef_rm0 (m : MethodId) (p0 : Int32) : entryFrame m #[(.int p0)] maxLocals = mkF m 0 #[.val (.int p0), .unset, .unset, .unset, .unset, .unset, .unset] [] := by first | (simp [entryFrame, mkF, argsToLocals, Value.category, maxLocals]; done) | rfl
def Q_rm0 (Z : State) (p0 : Int32) (cs : Int32) (vf : Value) (xi : Addr) (yxi : Addr) (bxi : Addr) (kxi : ClassId) (xu : Addr) (yxu : Addr) (bxu : Addr) (kxu : ClassId) (xv : Addr) (yxv : Addr) (bxv : Addr) (kxv : ClassId) (xd : Addr) (yxd : Addr) (bxd : Addr) (kxd : ClassId) (h0 : Heap) (n0 : Nat) (v : Option Value) (h : Heap) (L : List Loc) : Prop := v = some (.int 1) ∧ Fr n0 L
abbrev F_rm0 (Z : State) (p0 : Int32) (cs : Int32) (vf : Value) (xi : Addr) (yxi : Addr) (bxi : Addr) (kxi : ClassId) (xu : Addr) (yxu : Addr) (bxu : Addr) (kxu : ClassId) (xv : Addr) (yxv : Addr) (bxv : Addr) (kxv : ClassId) (xd : Addr) (yxd : Addr) (bxd : Addr) (kxd : ClassId) (h0 : Heap) (n0 : Nat) (s : State) (o : Outcome) (U : State) : Prop := ∃ v L, o = .returned v ∧ Q_rm0 Z p0 cs vf xi yxi bxi kxi xu yxu bxu kxu xv yxv bxv kxv xd yxd bxd kxd h0 n0 v U.heap L ∧ FrameEnd s o U L room_1.cells room_1.slots
set_option maxRecDepth 65536 in
set_option maxHeartbeats 40000000 in
theorem rm0 (l : Launch) (Z : State) (aZ : Array Value) (hw : ∀ d ∈ tables_1, d.before aZ Z = true) (ws : List Jvm.Cond) (p0 : Int32) (cs : Int32) (vf : Value) (xi : Addr) (yxi : Addr) (bxi : Addr) (kxi : ClassId) (xu : Addr) (yxu : Addr) (bxu : Addr) (kxu : ClassId) (xv : Addr) (yxv : Addr) (bxv : Addr) (kxv : ClassId) (xd : Addr) (yxd : Addr) (bxd : Addr) (kxd : ClassId) (h0 : Heap) (n0 : Nat) (hcs : ¬ cs = 0) (hvf : vf.isRef = true) (S_cs : Sta Z h0 "java/lang/String" "COMPACT_STRINGS" "Z" (.int cs)) (S_vf : Sta Z h0 "jdk/internal/util/Preconditions" "SIOOBE_FORMATTER" "Ljava/util/function/BiFunction;" vf) (S_xi : Sta Z h0 "com/example/sluiceway/sluiceway/table/RowKind" "INSERT" "Lcom/example/sluiceway/sluiceway/table/RowKind;" (.ref xi)) (E_xi : Exa Z h0 xi "com/example/sluiceway/sluiceway/table/RowKind") (G_xi : Fld Z h0 xi "com/example/sluiceway/sluiceway/table/RowKind" "symbol" "Ljava/lang/String;" (.ref yxi)) (Es_xi : Exa Z h0 yxi "java/lang/String") (Fc_xi : Fld Z h0 yxi "java/lang/String" "coder" "B" (.int (0 : Int32))) (Fv_xi : Fld Z h0 yxi "java/lang/String" "value" "[B" (.ref bxi)) (Va_xi : Arv Z h0 bxi kxi .byte (2 : Int32) [(.int (43 : Int32)), (.int (73 : Int32))] (.int (0 : Int32))) (S_xu : Sta Z h0 "com/example/sluiceway/sluiceway/table/RowKind" "UPDATE_BEFORE" "Lcom/example/sluiceway/sluiceway/table/RowKind;" (.ref xu)) (E_xu : Exa Z h0 xu "com/example/sluiceway/sluiceway/table/RowKind") (G_xu : Fld Z h0 xu "com/example/sluiceway/sluiceway/table/RowKind" "symbol" "Ljava/lang/String;" (.ref yxu)) (Es_xu : Exa Z h0 yxu "java/lang/String") (Fc_xu : Fld Z h0 yxu "java/lang/String" "coder" "B" (.int (0 : Int32))) (Fv_xu : Fld Z h0 yxu "java/lang/String" "value" "[B" (.ref bxu)) (Va_xu : Arv Z h0 bxu kxu .byte (2 : Int32) [(.int (45 : Int32)), (.int (85 : Int32))] (.int (0 : Int32))) (S_xv : Sta Z h0 "com/example/sluiceway/sluiceway/table/RowKind" "UPDATE_AFTER" "Lcom/example/sluiceway/sluiceway/table/RowKind;" (.ref xv)) (E_xv : Exa Z h0 xv "com/example/sluiceway/sluiceway/table/RowKind") (G_xv : Fld Z h0 xv "com/example/sluiceway/sluiceway/table/RowKind" "symbol" "Ljava/lang/String;" (.ref yxv)) (Es_xv : Exa Z h0 yxv "java/lang/String") (Fc_xv : Fld Z h0 yxv "java/lang/String" "coder" "B" (.int (0 : Int32))) (Fv_xv : Fld Z h0 yxv "java/lang/String" "value" "[B" (.ref bxv)) (Va_xv : Arv Z h0 bxv kxv .byte (2 : Int32) [(.int (43 : Int32)), (.int (85 : Int32))] (.int (0 : Int32))) (S_xd : Sta Z h0 "com/example/sluiceway/sluiceway/table/RowKind" "DELETE" "Lcom/example/sluiceway/sluiceway/table/RowKind;" (.ref xd)) (E_xd : Exa Z h0 xd "com/example/sluiceway/sluiceway/table/RowKind") (G_xd : Fld Z h0 xd "com/example/sluiceway/sluiceway/table/RowKind" "symbol" "Ljava/lang/String;" (.ref yxd)) (Es_xd : Exa Z h0 yxd "java/lang/String") (Fc_xd : Fld Z h0 yxd "java/lang/String" "coder" "B" (.int (0 : Int32))) (Fv_xd : Fld Z h0 yxd "java/lang/String" "value" "[B" (.ref bxd)) (Va_xd : Arv Z h0 bxd kxd .byte (2 : Int32) [(.int (45 : Int32)), (.int (68 : Int32))] (.int (0 : Int32))) (n_iu : xi ≠ xu) (n_id : xi ≠ xd) (n_vu : xv ≠ xu) (n_vd : xv ≠ xd) (n_du : xd ≠ xu) :
    MetFree l x (head1 (Jvm.Cond.code x code maxLocals ret :: ws) room_1) (fun a U => a = #[(.int p0)] ∧ Z.Warmed39 U.vm ∧ U.heap = h0) (fun _ _ _ _ _ => True) (fun _ U o U' => ∃ v L, o = .returned v ∧ Q_rm0 Z p0 cs vf xi yxi bxi kxi xu yxu bxu kxu xv yxv bxv kxv xd yxd bxd kxd h0 n0 v U'.heap L ∧ FrameEnd U o U' L room_1.cells room_1.slots) := by
  refine MetFree.of_bodySF (plainFor_of_name pn_0) hisR ?_
  intro p e s m args below meth c s₁ Bd hml0 hP hK
  obtain ⟨rfl, hZ, hh⟩ := hP
  have hx := Bd.exec
  have hby := Bd.bytes
  have hml : c.maxLocals = 7 := hml0
  have hown : s.vm.findClass "com/example/sluiceway/sluiceway/table/RowKindRetractsPinLaw" = some m.cls := findClass_of_methodNamed Bd.named
  have hnm := (name_of_methodNamed Bd.named Bd.method).1
  have X0 : Stand p l e room_1 s m #[(.int p0)] below meth c s₁ [] 0 0 := Stand.of_body Bd
  have e0 : s₁.heap = h0 := by rw [← hh, Bd.state]; rfl
  have N0 := Fr.nil n0
  refine Go.st (fun _ k => castTop (ef_rm0 m p0) k) ?_
  show Go p e below _ (s₁.setTop (mkF m 0 #[.val (.int p0), .unset, .unset, .unset, .unset, .unset, .unset] []))
  refine Go.st (fun _ k => XS.iloadN X0.here hx rfl (hb hby at_0) rfl k) ?_
  refine Go.st (fun _ k => XS.iconst X0.here hx rfl (hb hby at_1) k) ?_
  refine Go.st (fun _ k => XS.iand X0.here hx rfl (hb hby at_2) rfl k) ?_
  refine Go.st (fun _ k => XS.istoreN X0.here hx rfl (hb hby at_3) rfl (l' := #[.val (.int p0), .val (.int (p0 &&& (3 : Int32))), .unset, .unset, .unset, .unset, .unset]) rfl k) ?_
  show Go p e below _ (s₁.setTop (mkF m 4 #[.val (.int p0), .val (.int (p0 &&& (3 : Int32))), .unset, .unset, .unset, .unset, .unset] []))
  refine Go.st (fun _ k => XS.iloadN X0.here hx rfl (hb hby at_4) rfl k) ?_
  by_cases hc1 : (p0 &&& (3 : Int32)) = (0 : Int32)
  · show Go p e below _ (s₁.setTop (mkF m 5 #[.val (.int p0), .val (.int (p0 &&& (3 : Int32))), .unset, .unset, .unset, .unset, .unset] [(.int (p0 &&& (3 : Int32)))]))
    refine Go.st (fun _ k => XS.ifNo X0.here hx rfl (hb hby at_5) rfl ((if0 _ _).trans (teq hc1).2) k) ?_
    show Go p e below _ (s₁.setTop (mkF m 8 #[.val (.int p0), .val (.int (p0 &&& (3 : Int32))), .unset, .unset, .unset, .unset, .unset] []))
    obtain ⟨T2, X2, e2, st2⟩ := getS2 X0 hx hZ hown (host := "") (Or.inl (hw _ (List.mem_of_getElem? (i := 0) rfl))) Via.refl e0 S_xi (g := (mkF m 8 #[.val (.int p0), .val (.int (p0 &&& (3 : Int32))), .unset, .unset, .unset, .unset, .unset] [])) rfl (hb hby at_8)
    refine Go.st (fun _ k => st2 _ k) ?_
    show Go p e below _ (T2.setTop (mkF m 11 #[.val (.int p0), .val (.int (p0 &&& (3 : Int32))), .unset, .unset, .unset, .unset, .unset] [(.ref xi)]))
    refine Go.st (fun _ k => XS.astoreN X2.here hx rfl (hb hby at_11) rfl rfl (l' := #[.val (.int p0), .val (.int (p0 &&& (3 : Int32))), .val (.ref xi), .unset, .unset, .unset, .unset]) rfl k) ?_
    show Go p e below _ (T2.setTop (mkF m 12 #[.val (.int p0), .val (.int (p0 &&& (3 : Int32))), .val (.ref xi), .unset, .unset, .unset, .unset] []))
    refine Go.st (fun _ k => XS.iconst X2.here hx rfl (hb hby at_12) k) ?_
    refine Go.st (fun _ k => XS.istoreN X2.here hx rfl (hb hby at_13) rfl (l' := #[.val (.int p0), .val (.int (p0 &&& (3 : Int32))), .val (.ref xi), .val (.int (0 : Int32)), .unset, .unset, .unset]) rfl k) ?_
    show Go p e below _ (T2.setTop (mkF m 14 #[.val (.int p0), .val (.int (p0 &&& (3 : Int32))), .val (.ref xi), .val (.int (0 : Int32)), .unset, .unset, .unset] []))
    refine Go.st (fun _ k => XS.goto X2.here hx rfl (pc0 := 14) (pc' := 51) rfl (hb hby at_14) (by decide) (by decide) k) ?_
    show Go p e below _ (T2.setTop (mkF m 51 #[.val (.int p0), .val (.int (p0 &&& (3 : Int32))), .val (.ref xi), .val (.int (0 : Int32)), .unset, .unset, .unset] []))
    refine Go.st (fun _ k => XS.aloadN X2.here hx rfl (hb hby at_51) rfl rfl k) ?_
    obtain ⟨cq3, kq3, q3a, q3b, q3c⟩ := isOf hZ e2 E_xi
    obtain ⟨_, _, ⟨T3, L3, k3, n3⟩, -, X3, ⟨Lc3, hQ3, l3, y3, z3⟩, st3⟩ := X2.virtualBack hx (y := (⟨"com/example/sluiceway/sluiceway/table/RowKind", "retracts", "()Z"⟩ : MethodName)) (z := (⟨"com/example/sluiceway/sluiceway/table/RowKind", "retracts", "()Z"⟩ : MethodName)) hown (mvT hZ (hw _ (List.mem_of_getElem? (i := 3) rfl))) (mvT hZ (hw _ (List.mem_of_getElem? (i := 4) rfl))) (notFace_of_selects (args := #[]) (mvT hZ (hw _ (List.mem_of_getElem? (i := 6) rfl)))) (mvT hZ (hw _ (List.mem_of_getElem? (i := 6) rfl))) (mvT hZ (hw _ (List.mem_of_getElem? (i := 5) rfl))) (by decide) (backOf (W := 0) (rmRet l Z aZ hw [] xi xu xd h0 n0 S_xu S_xd) hZ (hw _ (List.mem_of_getElem? (i := 7) rfl)) (hw _ (List.mem_of_getElem? (i := 1) rfl)) (by decide) (by decide)) q3a q3c (g := (mkF m 52 #[.val (.int p0), .val (.int (p0 &&& (3 : Int32))), .val (.ref xi), .val (.int (0 : Int32)), .unset, .unset, .unset] [(.ref xi)])) rfl (by rw [hml]; rfl) (Steps.refl _) (argsL := []) (rest := []) (lenOf pda8ebd rfl) rfl (by show 2 * 0 + _ ≤ _; exact Nat.le_of_eq rfl) (hb hby at_52) (fun _ _ => ⟨rfl, e2, (by decide : 0 + 0 ≤ _), (by decide : 0 + 0 ≤ _)⟩)
    dsimp only [Pt.U, Pt.locs, Pt.cells, Pt.slots] at X3 l3 y3 z3 st3 hQ3
    subst l3 y3 z3
    obtain ⟨rfl, N3q, e3⟩ := hQ3
    have N3 := Fr.app N0 N3q
    refine Go.st (fun _ k => st3.trans k) ?_
    show Go p e below _ (T3.setTop (mkF m 55 #[.val (.int p0), .val (.int (p0 &&& (3 : Int32))), .val (.ref xi), .val (.int (0 : Int32)), .unset, .unset, .unset] [(.int (fRet xi xu xd))]))
    have hs4 : (fRet xi xu xd) = (0 : Int32) := (own_ret0 n_iu n_id)
    rw [hs4]
    show Go p e below _ (T3.setTop (mkF m 55 #[.val (.int p0), .val (.int (p0 &&& (3 : Int32))), .val (.ref xi), .val (.int (0 : Int32)), .unset, .unset, .unset] [(.int (0 : Int32))]))
    refine Go.st (fun _ k => XS.istore X3.here hx rfl (hb hby at_55) rfl (l' := #[.val (.int p0), .val (.int (p0 &&& (3 : Int32))), .val (.ref xi), .val (.int (0 : Int32)), .val (.int (0 : Int32)), .unset, .unset]) rfl k) ?_
    show Go p e below _ (T3.setTop (mkF m 57 #[.val (.int p0), .val (.int (p0 &&& (3 : Int32))), .val (.ref xi), .val (.int (0 : Int32)), .val (.int (0 : Int32)), .unset, .unset] []))
    refine Go.st (fun _ k => XS.aloadN X3.here hx rfl (hb hby at_57) rfl rfl k) ?_
    obtain ⟨cq5, kq5, q5a, q5b, q5c⟩ := isOf hZ e3 E_xi
    obtain ⟨_, _, ⟨T5, L5, k5, n5⟩, -, X5, ⟨Lc5, hQ5, l5, y5, z5⟩, st5⟩ := X3.virtualBack hx (y := (⟨"com/example/sluiceway/sluiceway/table/RowKind", "symbol", "()Ljava/lang/String;"⟩ : MethodName)) (z := (⟨"com/example/sluiceway/sluiceway/table/RowKind", "symbol", "()Ljava/lang/String;"⟩ : MethodName)) hown (mvT hZ (hw _ (List.mem_of_getElem? (i := 12) rfl))) (mvT hZ (hw _ (List.mem_of_getElem? (i := 13) rfl))) (notFace_of_selects (args := #[]) (mvT hZ (hw _ (List.mem_of_getElem? (i := 15) rfl)))) (mvT hZ (hw _ (List.mem_of_getElem? (i := 15) rfl))) (mvT hZ (hw _ (List.mem_of_getElem? (i := 14) rfl))) (by decide) (backOf (W := 0) (rmSym l Z aZ hw [] xi yxi h0 n0 G_xi) hZ (hw _ (List.mem_of_getElem? (i := 16) rfl)) (hw _ (List.mem_of_getElem? (i := 1) rfl)) (by decide) (by decide)) q5a q5c (g := (mkF m 58 #[.val (.int p0), .val (.int (p0 &&& (3 : Int32))), .val (.ref xi), .val (.int (0 : Int32)), .val (.int (0 : Int32)), .unset, .unset] [(.ref xi)])) rfl (by rw [hml]; rfl) (Steps.refl _) (argsL := []) (rest := []) (lenOf pddee81b67 rfl) rfl (by show 2 * 0 + _ ≤ _; exact Nat.le_of_eq rfl) (hb hby at_58) (fun _ _ => ⟨rfl, e3, (by decide : 0 + 0 ≤ _), (by decide : 0 + 0 ≤ _)⟩)
    dsimp only [Pt.U, Pt.locs, Pt.cells, Pt.slots] at X5 l5 y5 z5 st5 hQ5
    subst l5 y5 z5
    obtain ⟨rfl, N5q, e5⟩ := hQ5
    have N5 := Fr.app N3 N5q
    refine Go.st (fun _ k => st5.trans k) ?_
    show Go p e below _ (T5.setTop (mkF m 61 #[.val (.int p0), .val (.int (p0 &&& (3 : Int32))), .val (.ref xi), .val (.int (0 : Int32)), .val (.int (0 : Int32)), .unset, .unset] [(.ref yxi)]))
    refine Go.st (fun _ k => XS.astore X5.here hx rfl (hb hby at_61) rfl rfl (l' := #[.val (.int p0), .val (.int (p0 &&& (3 : Int32))), .val (.ref xi), .val (.int (0 : Int32)), .val (.int (0 : Int32)), .val (.ref yxi), .unset]) rfl k) ?_
    show Go p e below _ (T5.setTop (mkF m 63 #[.val (.int p0), .val (.int (p0 &&& (3 : Int32))), .val (.ref xi), .val (.int (0 : Int32)), .val (.int (0 : Int32)), .val (.ref yxi), .unset] []))
    refine Go.st (fun _ k => XS.aload X5.here hx rfl (hb hby at_63) rfl rfl k) ?_
    obtain ⟨cq6, kq6, q6a, q6b, q6c⟩ := isOf hZ e5 Es_xi
    obtain ⟨_, _, ⟨T6, L6, k6, n6⟩, -, X6, ⟨Lc6, hQ6, l6, y6, z6⟩, st6⟩ := X5.virtualBack hx (y := (⟨"java/lang/String", "length", "()I"⟩ : MethodName)) (z := (⟨"java/lang/String", "length", "()I"⟩ : MethodName)) hown (mvT hZ (hw _ (List.mem_of_getElem? (i := 19) rfl))) (mvT hZ (hw _ (List.mem_of_getElem? (i := 20) rfl))) (notFace_of_selects (args := #[]) (mvT hZ (hw _ (List.mem_of_getElem? (i := 22) rfl)))) (mvT hZ (hw _ (List.mem_of_getElem? (i := 22) rfl))) (mvT hZ (hw _ (List.mem_of_getElem? (i := 21) rfl))) (by decide) (backOf (W := 0) (rmLen l Z aZ hw [] yxi bxi (0 : Int32) cs kxi (2 : Int32) [(.int (43 : Int32)), (.int (73 : Int32))] h0 n0 hcs Fv_xi Fc_xi Es_xi S_cs Va_xi) hZ (hw _ (List.mem_of_getElem? (i := 24) rfl)) (hw _ (List.mem_of_getElem? (i := 23) rfl)) (by decide) (by decide)) q6a q6c (g := (mkF m 65 #[.val (.int p0), .val (.int (p0 &&& (3 : Int32))), .val (.ref xi), .val (.int (0 : Int32)), .val (.int (0 : Int32)), .val (.ref yxi), .unset] [(.ref yxi)])) rfl (by rw [hml]; rfl) (Steps.refl _) (argsL := []) (rest := []) (lenOf pda8eac rfl) rfl (by show 2 * 0 + _ ≤ _; exact Nat.le_of_eq rfl) (hb hby at_65) (fun _ _ => ⟨rfl, e5, (by decide : 0 + 0 ≤ _), (by decide : 0 + 0 ≤ _)⟩)
    dsimp only [Pt.U, Pt.locs, Pt.cells, Pt.slots] at X6 l6 y6 z6 st6 hQ6
    subst l6 y6 z6
    obtain ⟨rfl, N6q, e6⟩ := hQ6
    have N6 := Fr.app N5 N6q
    refine Go.st (fun _ k => st6.trans k) ?_
    show Go p e below _ (T6.setTop (mkF m 68 #[.val (.int p0), .val (.int (p0 &&& (3 : Int32))), .val (.ref xi), .val (.int (0 : Int32)), .val (.int (0 : Int32)), .val (.ref yxi), .unset] [(.int (jLen (0 : Int32) (2 : Int32)))]))
    have hs7 : (jLen (0 : Int32) (2 : Int32)) = (2 : Int32) := (by decide +kernel)
    rw [hs7]
    show Go p e below _ (T6.setTop (mkF m 68 #[.val (.int p0), .val (.int (p0 &&& (3 : Int32))), .val (.ref xi), .val (.int (0 : Int32)), .val (.int (0 : Int32)), .val (.ref yxi), .unset] [(.int (2 : Int32))]))
    refine Go.st (fun _ k => XS.ifNo X6.here hx rfl (hb hby at_68) rfl ((if0 _ _).trans (tlt (by decide : ((0 : Int32) < (2 : Int32)))).2.2.2) k) ?_
    show Go p e below _ (T6.setTop (mkF m 71 #[.val (.int p0), .val (.int (p0 &&& (3 : Int32))), .val (.ref xi), .val (.int (0 : Int32)), .val (.int (0 : Int32)), .val (.ref yxi), .unset] []))
    refine Go.st (fun _ k => XS.aload X6.here hx rfl (hb hby at_71) rfl rfl k) ?_
    refine Go.st (fun _ k => XS.iconst X6.here hx rfl (hb hby at_73) k) ?_
    obtain ⟨cq8, kq8, q8a, q8b, q8c⟩ := isOf hZ e6 Es_xi
    obtain ⟨_, _, ⟨T8, L8, k8, n8⟩, -, X8, ⟨Lc8, hQ8, l8, y8, z8⟩, st8⟩ := X6.virtualBack hx (y := (⟨"java/lang/String", "charAt", "(I)C"⟩ : MethodName)) (z := (⟨"java/lang/String", "charAt", "(I)C"⟩ : MethodName)) hown (mvT hZ (hw _ (List.mem_of_getElem? (i := 35) rfl))) (mvT hZ (hw _ (List.mem_of_getElem? (i := 36) rfl))) (notFace_of_selects (args := #[]) (mvT hZ (hw _ (List.mem_of_getElem? (i := 38) rfl)))) (mvT hZ (hw _ (List.mem_of_getElem? (i := 38) rfl))) (mvT hZ (hw _ (List.mem_of_getElem? (i := 37) rfl))) (by decide) (backOf (W := 0) (rmChar l Z aZ hw [] (43 : Int32) yxi (0 : Int32) bxi (0 : Int32) cs vf kxi (2 : Int32) [(.int (43 : Int32)), (.int (73 : Int32))] h0 n0 hcs rfl hvf ⟨by decide, by decide⟩ rfl Fv_xi Fc_xi Es_xi S_cs S_vf Va_xi) hZ (hw _ (List.mem_of_getElem? (i := 39) rfl)) (hw _ (List.mem_of_getElem? (i := 23) rfl)) (by decide) (by decide)) q8a q8c (g := (mkF m 74 #[.val (.int p0), .val (.int (p0 &&& (3 : Int32))), .val (.ref xi), .val (.int (0 : Int32)), .val (.int (0 : Int32)), .val (.ref yxi), .unset] [(.int (0 : Int32)), (.ref yxi)])) rfl (by rw [hml]; rfl) (Steps.refl _) (argsL := [(.int (0 : Int32))]) (rest := []) (lenOf pd56f5307 rfl) rfl (by show 2 * 0 + _ ≤ _; exact Nat.le_of_eq rfl) (hb hby at_74) (fun _ _ => ⟨rfl, e6, (by decide : 0 + 0 ≤ _), (by decide : 0 + 0 ≤ _)⟩)
    dsimp only [Pt.U, Pt.locs, Pt.cells, Pt.slots] at X8 l8 y8 z8 st8 hQ8
    subst l8 y8 z8
    obtain ⟨rfl, N8q, e8⟩ := hQ8
    have N8 := Fr.app N6 N8q
    refine Go.st (fun _ k => st8.trans k) ?_
    show Go p e below _ (T8.setTop (mkF m 77 #[.val (.int p0), .val (.int (p0 &&& (3 : Int32))), .val (.ref xi), .val (.int (0 : Int32)), .val (.int (0 : Int32)), .val (.ref yxi), .unset] [(.int (jChar (43 : Int32)))]))
    have hs9 : (jChar (43 : Int32)) = (43 : Int32) := (by decide +kernel)
    rw [hs9]
    show Go p e below _ (T8.setTop (mkF m 77 #[.val (.int p0), .val (.int (p0 &&& (3 : Int32))), .val (.ref xi), .val (.int (0 : Int32)), .val (.int (0 : Int32)), .val (.ref yxi), .unset] [(.int (43 : Int32))]))
    refine Go.st (fun _ k => XS.bipush X8.here hx rfl (hb hby at_77) k) ?_
    refine Go.st (fun _ k => XS.icmpYes X8.here hx rfl (pc0 := 79) (pc' := 86) rfl (hb hby at_79) rfl (feq (by decide : ¬ ((43 : Int32) = (45 : Int32)))).2 (by decide) (by decide) k) ?_
    show Go p e below _ (T8.setTop (mkF m 86 #[.val (.int p0), .val (.int (p0 &&& (3 : Int32))), .val (.ref xi), .val (.int (0 : Int32)), .val (.int (0 : Int32)), .val (.ref yxi), .unset] []))
    refine Go.st (fun _ k => XS.iconst X8.here hx rfl (hb hby at_86) k) ?_
    refine Go.st (fun _ k => XS.istore X8.here hx rfl (hb hby at_87) rfl (l' := #[.val (.int p0), .val (.int (p0 &&& (3 : Int32))), .val (.ref xi), .val (.int (0 : Int32)), .val (.int (0 : Int32)), .val (.ref yxi), .val (.int (0 : Int32))]) rfl k) ?_
    show Go p e below _ (T8.setTop (mkF m 89 #[.val (.int p0), .val (.int (p0 &&& (3 : Int32))), .val (.ref xi), .val (.int (0 : Int32)), .val (.int (0 : Int32)), .val (.ref yxi), .val (.int (0 : Int32))] []))
    refine Go.st (fun _ k => XS.iload X8.here hx rfl (hb hby at_89) rfl k) ?_
    refine Go.st (fun _ k => XS.iloadN X8.here hx rfl (hb hby at_91) rfl k) ?_
    refine Go.st (fun _ k => XS.icmpNo X8.here hx rfl (hb hby at_92) rfl (teq (by decide : ((0 : Int32) = (0 : Int32)))).2 k) ?_
    show Go p e below _ (T8.setTop (mkF m 95 #[.val (.int p0), .val (.int (p0 &&& (3 : Int32))), .val (.ref xi), .val (.int (0 : Int32)), .val (.int (0 : Int32)), .val (.ref yxi), .val (.int (0 : Int32))] []))
    refine Go.st (fun _ k => XS.iload X8.here hx rfl (hb hby at_95) rfl k) ?_
    refine Go.st (fun _ k => XS.iload X8.here hx rfl (hb hby at_97) rfl k) ?_
    refine Go.st (fun _ k => XS.icmpNo X8.here hx rfl (hb hby at_99) rfl (teq (by decide : ((0 : Int32) = (0 : Int32)))).2 k) ?_
    show Go p e below _ (T8.setTop (mkF m 102 #[.val (.int p0), .val (.int (p0 &&& (3 : Int32))), .val (.ref xi), .val (.int (0 : Int32)), .val (.int (0 : Int32)), .val (.ref yxi), .val (.int (0 : Int32))] []))
    refine Go.st (fun _ k => XS.iconst X8.here hx rfl (hb hby at_102) k) ?_
    refine Go.st (fun _ k => XS.goto X8.here hx rfl (pc0 := 103) (pc' := 107) rfl (hb hby at_103) (by decide) (by decide) k) ?_
    show Go p e below _ (T8.setTop (mkF m 107 #[.val (.int p0), .val (.int (p0 &&& (3 : Int32))), .val (.ref xi), .val (.int (0 : Int32)), .val (.int (0 : Int32)), .val (.ref yxi), .val (.int (0 : Int32))] [(.int (1 : Int32))]))
    obtain ⟨fs, hr, hrun, hended, hW, hsame⟩ := X8.leave (v := some (.int (1 : Int32))) (fun h => by rw [Bd.returns] at h; cases h)
    refine ⟨_, _, retN X8 hx (t := .boolean) Bd.returns (by simp) (hb hby at_107) hr, hrun, hended, _, _, rfl, ?_, ⟨_, rfl⟩, hW, hsame.mono (by decide) (by decide)⟩
    show Q_rm0 Z p0 cs vf xi yxi bxi kxi xu yxu bxu kxu xv yxv bxv kxv xd yxd bxd kxd h0 n0 _ T8.heap _
    rw [e8]
    exact ⟨rfl, N8⟩
  · show Go p e below _ (s₁.setTop (mkF m 5 #[.val (.int p0), .val (.int (p0 &&& (3 : Int32))), .unset, .unset, .unset, .unset, .unset] [(.int (p0 &&& (3 : Int32)))]))
    refine Go.st (fun _ k => XS.ifYes X0.here hx rfl (pc0 := 5) (pc' := 17) rfl (hb hby at_5) rfl ((if0 _ _).trans (feq hc1).2) (by decide) (by decide) k) ?_
    show Go p e below _ (s₁.setTop (mkF m 17 #[.val (.int p0), .val (.int (p0 &&& (3 : Int32))), .unset, .unset, .unset, .unset, .unset] []))
    refine Go.st (fun _ k => XS.iloadN X0.here hx rfl (hb hby at_17) rfl k) ?_
    refine Go.st (fun _ k => XS.iconst X0.here hx rfl (hb hby at_18) k) ?_
    by_cases hc10 : (p0 &&& (3 : Int32)) = (1 : Int32)
    · show Go p e below _ (s₁.setTop (mkF m 19 #[.val (.int p0), .val (.int (p0 &&& (3 : Int32))), .unset, .unset, .unset, .unset, .unset] [(.int (1 : Int32)), (.int (p0 &&& (3 : Int32)))]))
      refine Go.st (fun _ k => XS.icmpNo X0.here hx rfl (hb hby at_19) rfl (teq hc10).2 k) ?_
      show Go p e below _ (s₁.setTop (mkF m 22 #[.val (.int p0), .val (.int (p0 &&& (3 : Int32))), .unset, .unset, .unset, .unset, .unset] []))
      obtain ⟨T11, X11, e11, st11⟩ := getS2 X0 hx hZ hown (host := "") (Or.inl (hw _ (List.mem_of_getElem? (i := 60) rfl))) Via.refl e0 S_xu (g := (mkF m 22 #[.val (.int p0), .val (.int (p0 &&& (3 : Int32))), .unset, .unset, .unset, .unset, .unset] [])) rfl (hb hby at_22)
      refine Go.st (fun _ k => st11 _ k) ?_
      show Go p e below _ (T11.setTop (mkF m 25 #[.val (.int p0), .val (.int (p0 &&& (3 : Int32))), .unset, .unset, .unset, .unset, .unset] [(.ref xu)]))
      refine Go.st (fun _ k => XS.astoreN X11.here hx rfl (hb hby at_25) rfl rfl (l' := #[.val (.int p0), .val (.int (p0 &&& (3 : Int32))), .val (.ref xu), .unset, .unset, .unset, .unset]) rfl k) ?_
      show Go p e below _ (T11.setTop (mkF m 26 #[.val (.int p0), .val (.int (p0 &&& (3 : Int32))), .val (.ref xu), .unset, .unset, .unset, .unset] []))
      refine Go.st (fun _ k => XS.iconst X11.here hx rfl (hb hby at_26) k) ?_
      refine Go.st (fun _ k => XS.istoreN X11.here hx rfl (hb hby at_27) rfl (l' := #[.val (.int p0), .val (.int (p0 &&& (3 : Int32))), .val (.ref xu), .val (.int (1 : Int32)), .unset, .unset, .unset]) rfl k) ?_
      show Go p e below _ (T11.setTop (mkF m 28 #[.val (.int p0), .val (.int (p0 &&& (3 : Int32))), .val (.ref xu), .val (.int (1 : Int32)), .unset, .unset, .unset] []))
      refine Go.st (fun _ k => XS.goto X11.here hx rfl (pc0 := 28) (pc' := 51) rfl (hb hby at_28) (by decide) (by decide) k) ?_
      show Go p e below _ (T11.setTop (mkF m 51 #[.val (.int p0), .val (.int (p0 &&& (3 : Int32))), .val (.ref xu), .val (.int (1 : Int32)), .unset, .unset, .unset] []))
      refine Go.st (fun _ k => XS.aloadN X11.here hx rfl (hb hby at_51) rfl rfl k) ?_
      obtain ⟨cq12, kq12, q12a, q12b, q12c⟩ := isOf hZ e11 E_xu
      obtain ⟨_, _, ⟨T12, L12, k12, n12⟩, -, X12, ⟨Lc12, hQ12, l12, y12, z12⟩, st12⟩ := X11.virtualBack hx (y := (⟨"com/example/sluiceway/sluiceway/table/RowKind", "retracts", "()Z"⟩ : MethodName)) (z := (⟨"com/example/sluiceway/sluiceway/table/RowKind", "retracts", "()Z"⟩ : MethodName)) hown (mvT hZ (hw _ (List.mem_of_getElem? (i := 3) rfl))) (mvT hZ (hw _ (List.mem_of_getElem? (i := 4) rfl))) (notFace_of_selects (args := #[]) (mvT hZ (hw _ (List.mem_of_getElem? (i := 6) rfl)))) (mvT hZ (hw _ (List.mem_of_getElem? (i := 6) rfl))) (mvT hZ (hw _ (List.mem_of_getElem? (i := 5) rfl))) (by decide) (backOf (W := 0) (rmRet l Z aZ hw [] xu xu xd h0 n0 S_xu S_xd) hZ (hw _ (List.mem_of_getElem? (i := 7) rfl)) (hw _ (List.mem_of_getElem? (i := 1) rfl)) (by decide) (by decide)) q12a q12c (g := (mkF m 52 #[.val (.int p0), .val (.int (p0 &&& (3 : Int32))), .val (.ref xu), .val (.int (1 : Int32)), .unset, .unset, .unset] [(.ref xu)])) rfl (by rw [hml]; rfl) (Steps.refl _) (argsL := []) (rest := []) (lenOf pda8ebd rfl) rfl (by show 2 * 0 + _ ≤ _; exact Nat.le_of_eq rfl) (hb hby at_52) (fun _ _ => ⟨rfl, e11, (by decide : 0 + 0 ≤ _), (by decide : 0 + 0 ≤ _)⟩)
      dsimp only [Pt.U, Pt.locs, Pt.cells, Pt.slots] at X12 l12 y12 z12 st12 hQ12
      subst l12 y12 z12
      obtain ⟨rfl, N12q, e12⟩ := hQ12
      have N12 := Fr.app N0 N12q
      refine Go.st (fun _ k => st12.trans k) ?_
      show Go p e below _ (T12.setTop (mkF m 55 #[.val (.int p0), .val (.int (p0 &&& (3 : Int32))), .val (.ref xu), .val (.int (1 : Int32)), .unset, .unset, .unset] [(.int (fRet xu xu xd))]))
      have hs13 : (fRet xu xu xd) = (1 : Int32) := (own_ret1 _ _)
      rw [hs13]
      show Go p e below _ (T12.setTop (mkF m 55 #[.val (.int p0), .val (.int (p0 &&& (3 : Int32))), .val (.ref xu), .val (.int (1 : Int32)), .unset, .unset, .unset] [(.int (1 : Int32))]))
      refine Go.st (fun _ k => XS.istore X12.here hx rfl (hb hby at_55) rfl (l' := #[.val (.int p0), .val (.int (p0 &&& (3 : Int32))), .val (.ref xu), .val (.int (1 : Int32)), .val (.int (1 : Int32)), .unset, .unset]) rfl k) ?_
      show Go p e below _ (T12.setTop (mkF m 57 #[.val (.int p0), .val (.int (p0 &&& (3 : Int32))), .val (.ref xu), .val (.int (1 : Int32)), .val (.int (1 : Int32)), .unset, .unset] []))
      refine Go.st (fun _ k => XS.aloadN X12.here hx rfl (hb hby at_57) rfl rfl k) ?_
      obtain ⟨cq14, kq14, q14a, q14b, q14c⟩ := isOf hZ e12 E_xu
      obtain ⟨_, _, ⟨T14, L14, k14, n14⟩, -, X14, ⟨Lc14, hQ14, l14, y14, z14⟩, st14⟩ := X12.virtualBack hx (y := (⟨"com/example/sluiceway/sluiceway/table/RowKind", "symbol", "()Ljava/lang/String;"⟩ : MethodName)) (z := (⟨"com/example/sluiceway/sluiceway/table/RowKind", "symbol", "()Ljava/lang/String;"⟩ : MethodName)) hown (mvT hZ (hw _ (List.mem_of_getElem? (i := 12) rfl))) (mvT hZ (hw _ (List.mem_of_getElem? (i := 13) rfl))) (notFace_of_selects (args := #[]) (mvT hZ (hw _ (List.mem_of_getElem? (i := 15) rfl)))) (mvT hZ (hw _ (List.mem_of_getElem? (i := 15) rfl))) (mvT hZ (hw _ (List.mem_of_getElem? (i := 14) rfl))) (by decide) (backOf (W := 0) (rmSym l Z aZ hw [] xu yxu h0 n0 G_xu) hZ (hw _ (List.mem_of_getElem? (i := 16) rfl)) (hw _ (List.mem_of_getElem? (i := 1) rfl)) (by decide) (by decide)) q14a q14c (g := (mkF m 58 #[.val (.int p0), .val (.int (p0 &&& (3 : Int32))), .val (.ref xu), .val (.int (1 : Int32)), .val (.int (1 : Int32)), .unset, .unset] [(.ref xu)])) rfl (by rw [hml]; rfl) (Steps.refl _) (argsL := []) (rest := []) (lenOf pddee81b67 rfl) rfl (by show 2 * 0 + _ ≤ _; exact Nat.le_of_eq rfl) (hb hby at_58) (fun _ _ => ⟨rfl, e12, (by decide : 0 + 0 ≤ _), (by decide : 0 + 0 ≤ _)⟩)
      dsimp only [Pt.U, Pt.locs, Pt.cells, Pt.slots] at X14 l14 y14 z14 st14 hQ14
      subst l14 y14 z14
      obtain ⟨rfl, N14q, e14⟩ := hQ14
      have N14 := Fr.app N12 N14q
      refine Go.st (fun _ k => st14.trans k) ?_
      show Go p e below _ (T14.setTop (mkF m 61 #[.val (.int p0), .val (.int (p0 &&& (3 : Int32))), .val (.ref xu), .val (.int (1 : Int32)), .val (.int (1 : Int32)), .unset, .unset] [(.ref yxu)]))
      refine Go.st (fun _ k => XS.astore X14.here hx rfl (hb hby at_61) rfl rfl (l' := #[.val (.int p0), .val (.int (p0 &&& (3 : Int32))), .val (.ref xu), .val (.int (1 : Int32)), .val (.int (1 : Int32)), .val (.ref yxu), .unset]) rfl k) ?_
      show Go p e below _ (T14.setTop (mkF m 63 #[.val (.int p0), .val (.int (p0 &&& (3 : Int32))), .val (.ref xu), .val (.int (1 : Int32)), .val (.int (1 : Int32)), .val (.ref yxu), .unset] []))
      refine Go.st (fun _ k => XS.aload X14.here hx rfl (hb hby at_63) rfl rfl k) ?_
      obtain ⟨cq15, kq15, q15a, q15b, q15c⟩ := isOf hZ e14 Es_xu
      obtain ⟨_, _, ⟨T15, L15, k15, n15⟩, -, X15, ⟨Lc15, hQ15, l15, y15, z15⟩, st15⟩ := X14.virtualBack hx (y := (⟨"java/lang/String", "length", "()I"⟩ : MethodName)) (z := (⟨"java/lang/String", "length", "()I"⟩ : MethodName)) hown (mvT hZ (hw _ (List.mem_of_getElem? (i := 19) rfl))) (mvT hZ (hw _ (List.mem_of_getElem? (i := 20) rfl))) (notFace_of_selects (args := #[]) (mvT hZ (hw _ (List.mem_of_getElem? (i := 22) rfl)))) (mvT hZ (hw _ (List.mem_of_getElem? (i := 22) rfl))) (mvT hZ (hw _ (List.mem_of_getElem? (i := 21) rfl))) (by decide) (backOf (W := 0) (rmLen l Z aZ hw [] yxu bxu (0 : Int32) cs kxu (2 : Int32) [(.int (45 : Int32)), (.int (85 : Int32))] h0 n0 hcs Fv_xu Fc_xu Es_xu S_cs Va_xu) hZ (hw _ (List.mem_of_getElem? (i := 24) rfl)) (hw _ (List.mem_of_getElem? (i := 23) rfl)) (by decide) (by decide)) q15a q15c (g := (mkF m 65 #[.val (.int p0), .val (.int (p0 &&& (3 : Int32))), .val (.ref xu), .val (.int (1 : Int32)), .val (.int (1 : Int32)), .val (.ref yxu), .unset] [(.ref yxu)])) rfl (by rw [hml]; rfl) (Steps.refl _) (argsL := []) (rest := []) (lenOf pda8eac rfl) rfl (by show 2 * 0 + _ ≤ _; exact Nat.le_of_eq rfl) (hb hby at_65) (fun _ _ => ⟨rfl, e14, (by decide : 0 + 0 ≤ _), (by decide : 0 + 0 ≤ _)⟩)
      dsimp only [Pt.U, Pt.locs, Pt.cells, Pt.slots] at X15 l15 y15 z15 st15 hQ15
      subst l15 y15 z15
      obtain ⟨rfl, N15q, e15⟩ := hQ15
      have N15 := Fr.app N14 N15q
      refine Go.st (fun _ k => st15.trans k) ?_
      show Go p e below _ (T15.setTop (mkF m 68 #[.val (.int p0), .val (.int (p0 &&& (3 : Int32))), .val (.ref xu), .val (.int (1 : Int32)), .val (.int (1 : Int32)), .val (.ref yxu), .unset] [(.int (jLen (0 : Int32) (2 : Int32)))]))
      have hs16 : (jLen (0 : Int32) (2 : Int32)) = (2 : Int32) := (by decide +kernel)
      rw [hs16]
      show Go p e below _ (T15.setTop (mkF m 68 #[.val (.int p0), .val (.int (p0 &&& (3 : Int32))), .val (.ref xu), .val (.int (1 : Int32)), .val (.int (1 : Int32)), .val (.ref yxu), .unset] [(.int (2 : Int32))]))
      refine Go.st (fun _ k => XS.ifNo X15.here hx rfl (hb hby at_68) rfl ((if0 _ _).trans (tlt (by decide : ((0 : Int32) < (2 : Int32)))).2.2.2) k) ?_
      show Go p e below _ (T15.setTop (mkF m 71 #[.val (.int p0), .val (.int (p0 &&& (3 : Int32))), .val (.ref xu), .val (.int (1 : Int32)), .val (.int (1 : Int32)), .val (.ref yxu), .unset] []))
      refine Go.st (fun _ k => XS.aload X15.here hx rfl (hb hby at_71) rfl rfl k) ?_
      refine Go.st (fun _ k => XS.iconst X15.here hx rfl (hb hby at_73) k) ?_
      obtain ⟨cq17, kq17, q17a, q17b, q17c⟩ := isOf hZ e15 Es_xu
      obtain ⟨_, _, ⟨T17, L17, k17, n17⟩, -, X17, ⟨Lc17, hQ17, l17, y17, z17⟩, st17⟩ := X15.virtualBack hx (y := (⟨"java/lang/String", "charAt", "(I)C"⟩ : MethodName)) (z := (⟨"java/lang/String", "charAt", "(I)C"⟩ : MethodName)) hown (mvT hZ (hw _ (List.mem_of_getElem? (i := 35) rfl))) (mvT hZ (hw _ (List.mem_of_getElem? (i := 36) rfl))) (notFace_of_selects (args := #[]) (mvT hZ (hw _ (List.mem_of_getElem? (i := 38) rfl)))) (mvT hZ (hw _ (List.mem_of_getElem? (i := 38) rfl))) (mvT hZ (hw _ (List.mem_of_getElem? (i := 37) rfl))) (by decide) (backOf (W := 0) (rmChar l Z aZ hw [] (45 : Int32) yxu (0 : Int32) bxu (0 : Int32) cs vf kxu (2 : Int32) [(.int (45 : Int32)), (.int (85 : Int32))] h0 n0 hcs rfl hvf ⟨by decide, by decide⟩ rfl Fv_xu Fc_xu Es_xu S_cs S_vf Va_xu) hZ (hw _ (List.mem_of_getElem? (i := 39) rfl)) (hw _ (List.mem_of_getElem? (i := 23) rfl)) (by decide) (by decide)) q17a q17c (g := (mkF m 74 #[.val (.int p0), .val (.int (p0 &&& (3 : Int32))), .val (.ref xu), .val (.int (1 : Int32)), .val (.int (1 : Int32)), .val (.ref yxu), .unset] [(.int (0 : Int32)), (.ref yxu)])) rfl (by rw [hml]; rfl) (Steps.refl _) (argsL := [(.int (0 : Int32))]) (rest := []) (lenOf pd56f5307 rfl) rfl (by show 2 * 0 + _ ≤ _; exact Nat.le_of_eq rfl) (hb hby at_74) (fun _ _ => ⟨rfl, e15, (by decide : 0 + 0 ≤ _), (by decide : 0 + 0 ≤ _)⟩)
      dsimp only [Pt.U, Pt.locs, Pt.cells, Pt.slots] at X17 l17 y17 z17 st17 hQ17
      subst l17 y17 z17
      obtain ⟨rfl, N17q, e17⟩ := hQ17
      have N17 := Fr.app N15 N17q
      refine Go.st (fun _ k => st17.trans k) ?_
      show Go p e below _ (T17.setTop (mkF m 77 #[.val (.int p0), .val (.int (p0 &&& (3 : Int32))), .val (.ref xu), .val (.int (1 : Int32)), .val (.int (1 : Int32)), .val (.ref yxu), .unset] [(.int (jChar (45 : Int32)))]))
      have hs18 : (jChar (45 : Int32)) = (45 : Int32) := (by decide +kernel)
      rw [hs18]
      show Go p e below _ (T17.setTop (mkF m 77 #[.val (.int p0), .val (.int (p0 &&& (3 : Int32))), .val (.ref xu), .val (.int (1 : Int32)), .val (.int (1 : Int32)), .val (.ref yxu), .unset] [(.int (45 : Int32))]))
      refine Go.st (fun _ k => XS.bipush X17.here hx rfl (hb hby at_77) k) ?_
      refine Go.st (fun _ k => XS.icmpNo X17.here hx rfl (hb hby at_79) rfl (teq (by decide : ((45 : Int32) = (45 : Int32)))).2 k) ?_
      show Go p e below _ (T17.setTop (mkF m 82 #[.val (.int p0), .val (.int (p0 &&& (3 : Int32))), .val (.ref xu), .val (.int (1 : Int32)), .val (.int (1 : Int32)), .val (.ref yxu), .unset] []))
      refine Go.st (fun _ k => XS.iconst X17.here hx rfl (hb hby at_82) k) ?_
      refine Go.st (fun _ k => XS.goto X17.here hx rfl (pc0 := 83) (pc' := 87) rfl (hb hby at_83) (by decide) (by decide) k) ?_
      show Go p e below _ (T17.setTop (mkF m 87 #[.val (.int p0), .val (.int (p0 &&& (3 : Int32))), .val (.ref xu), .val (.int (1 : Int32)), .val (.int (1 : Int32)), .val (.ref yxu), .unset] [(.int (1 : Int32))]))
      refine Go.st (fun _ k => XS.istore X17.here hx rfl (hb hby at_87) rfl (l' := #[.val (.int p0), .val (.int (p0 &&& (3 : Int32))), .val (.ref xu), .val (.int (1 : Int32)), .val (.int (1 : Int32)), .val (.ref yxu), .val (.int (1 : Int32))]) rfl k) ?_
      show Go p e below _ (T17.setTop (mkF m 89 #[.val (.int p0), .val (.int (p0 &&& (3 : Int32))), .val (.ref xu), .val (.int (1 : Int32)), .val (.int (1 : Int32)), .val (.ref yxu), .val (.int (1 : Int32))] []))
      refine Go.st (fun _ k => XS.iload X17.here hx rfl (hb hby at_89) rfl k) ?_
      refine Go.st (fun _ k => XS.iloadN X17.here hx rfl (hb hby at_91) rfl k) ?_
      refine Go.st (fun _ k => XS.icmpNo X17.here hx rfl (hb hby at_92) rfl (teq (by decide : ((1 : Int32) = (1 : Int32)))).2 k) ?_
      show Go p e below _ (T17.setTop (mkF m 95 #[.val (.int p0), .val (.int (p0 &&& (3 : Int32))), .val (.ref xu), .val (.int (1 : Int32)), .val (.int (1 : Int32)), .val (.ref yxu), .val (.int (1 : Int32))] []))
      refine Go.st (fun _ k => XS.iload X17.here hx rfl (hb hby at_95) rfl k) ?_
      refine Go.st (fun _ k => XS.iload X17.here hx rfl (hb hby at_97) rfl k) ?_
      refine Go.st (fun _ k => XS.icmpNo X17.here hx rfl (hb hby at_99) rfl (teq (by decide : ((1 : Int32) = (1 : Int32)))).2 k) ?_
      show Go p e below _ (T17.setTop (mkF m 102 #[.val (.int p0), .val (.int (p0 &&& (3 : Int32))), .val (.ref xu), .val (.int (1 : Int32)), .val (.int (1 : Int32)), .val (.ref yxu), .val (.int (1 : Int32))] []))
      refine Go.st (fun _ k => XS.iconst X17.here hx rfl (hb hby at_102) k) ?_
      refine Go.st (fun _ k => XS.goto X17.here hx rfl (pc0 := 103) (pc' := 107) rfl (hb hby at_103) (by decide) (by decide) k) ?_
      show Go p e below _ (T17.setTop (mkF m 107 #[.val (.int p0), .val (.int (p0 &&& (3 : Int32))), .val (.ref xu), .val (.int (1 : Int32)), .val (.int (1 : Int32)), .val (.ref yxu), .val (.int (1 : Int32))] [(.int (1 : Int32))]))
      obtain ⟨fs, hr, hrun, hended, hW, hsame⟩ := X17.leave (v := some (.int (1 : Int32))) (fun h => by rw [Bd.returns] at h; cases h)
      refine ⟨_, _, retN X17 hx (t := .boolean) Bd.returns (by simp) (hb hby at_107) hr, hrun, hended, _, _, rfl, ?_, ⟨_, rfl⟩, hW, hsame.mono (by decide) (by decide)⟩
      show Q_rm0 Z p0 cs vf xi yxi bxi kxi xu yxu bxu kxu xv yxv bxv kxv xd yxd bxd kxd h0 n0 _ T17.heap _
      rw [e17]
      exact ⟨rfl, N17⟩
    · show Go p e below _ (s₁.setTop (mkF m 19 #[.val (.int p0), .val (.int (p0 &&& (3 : Int32))), .unset, .unset, .unset, .unset, .unset] [(.int (1 : Int32)), (.int (p0 &&& (3 : Int32)))]))
      refine Go.st (fun _ k => XS.icmpYes X0.here hx rfl (pc0 := 19) (pc' := 31) rfl (hb hby at_19) rfl (feq hc10).2 (by decide) (by decide) k) ?_
      show Go p e below _ (s₁.setTop (mkF m 31 #[.val (.int p0), .val (.int (p0 &&& (3 : Int32))), .unset, .unset, .unset, .unset, .unset] []))
      refine Go.st (fun _ k => XS.iloadN X0.here hx rfl (hb hby at_31) rfl k) ?_
      refine Go.st (fun _ k => XS.iconst X0.here hx rfl (hb hby at_32) k) ?_
      by_cases hc19 : (p0 &&& (3 : Int32)) = (2 : Int32)
      · show Go p e below _ (s₁.setTop (mkF m 33 #[.val (.int p0), .val (.int (p0 &&& (3 : Int32))), .unset, .unset, .unset, .unset, .unset] [(.int (2 : Int32)), (.int (p0 &&& (3 : Int32)))]))
        refine Go.st (fun _ k => XS.icmpNo X0.here hx rfl (hb hby at_33) rfl (teq hc19).2 k) ?_
        show Go p e below _ (s₁.setTop (mkF m 36 #[.val (.int p0), .val (.int (p0 &&& (3 : Int32))), .unset, .unset, .unset, .unset, .unset] []))
        obtain ⟨T20, X20, e20, st20⟩ := getS2 X0 hx hZ hown (host := "") (Or.inl (hw _ (List.mem_of_getElem? (i := 58) rfl))) Via.refl e0 S_xv (g := (mkF m 36 #[.val (.int p0), .val (.int (p0 &&& (3 : Int32))), .unset, .unset, .unset, .unset, .unset] [])) rfl (hb hby at_36)
        refine Go.st (fun _ k => st20 _ k) ?_
        show Go p e below _ (T20.setTop (mkF m 39 #[.val (.int p0), .val (.int (p0 &&& (3 : Int32))), .unset, .unset, .unset, .unset, .unset] [(.ref xv)]))
        refine Go.st (fun _ k => XS.astoreN X20.here hx rfl (hb hby at_39) rfl rfl (l' := #[.val (.int p0), .val (.int (p0 &&& (3 : Int32))), .val (.ref xv), .unset, .unset, .unset, .unset]) rfl k) ?_
        show Go p e below _ (T20.setTop (mkF m 40 #[.val (.int p0), .val (.int (p0 &&& (3 : Int32))), .val (.ref xv), .unset, .unset, .unset, .unset] []))
        refine Go.st (fun _ k => XS.iconst X20.here hx rfl (hb hby at_40) k) ?_
        refine Go.st (fun _ k => XS.istoreN X20.here hx rfl (hb hby at_41) rfl (l' := #[.val (.int p0), .val (.int (p0 &&& (3 : Int32))), .val (.ref xv), .val (.int (0 : Int32)), .unset, .unset, .unset]) rfl k) ?_
        show Go p e below _ (T20.setTop (mkF m 42 #[.val (.int p0), .val (.int (p0 &&& (3 : Int32))), .val (.ref xv), .val (.int (0 : Int32)), .unset, .unset, .unset] []))
        refine Go.st (fun _ k => XS.goto X20.here hx rfl (pc0 := 42) (pc' := 51) rfl (hb hby at_42) (by decide) (by decide) k) ?_
        show Go p e below _ (T20.setTop (mkF m 51 #[.val (.int p0), .val (.int (p0 &&& (3 : Int32))), .val (.ref xv), .val (.int (0 : Int32)), .unset, .unset, .unset] []))
        refine Go.st (fun _ k => XS.aloadN X20.here hx rfl (hb hby at_51) rfl rfl k) ?_
        obtain ⟨cq21, kq21, q21a, q21b, q21c⟩ := isOf hZ e20 E_xv
        obtain ⟨_, _, ⟨T21, L21, k21, n21⟩, -, X21, ⟨Lc21, hQ21, l21, y21, z21⟩, st21⟩ := X20.virtualBack hx (y := (⟨"com/example/sluiceway/sluiceway/table/RowKind", "retracts", "()Z"⟩ : MethodName)) (z := (⟨"com/example/sluiceway/sluiceway/table/RowKind", "retracts", "()Z"⟩ : MethodName)) hown (mvT hZ (hw _ (List.mem_of_getElem? (i := 3) rfl))) (mvT hZ (hw _ (List.mem_of_getElem? (i := 4) rfl))) (notFace_of_selects (args := #[]) (mvT hZ (hw _ (List.mem_of_getElem? (i := 6) rfl)))) (mvT hZ (hw _ (List.mem_of_getElem? (i := 6) rfl))) (mvT hZ (hw _ (List.mem_of_getElem? (i := 5) rfl))) (by decide) (backOf (W := 0) (rmRet l Z aZ hw [] xv xu xd h0 n0 S_xu S_xd) hZ (hw _ (List.mem_of_getElem? (i := 7) rfl)) (hw _ (List.mem_of_getElem? (i := 1) rfl)) (by decide) (by decide)) q21a q21c (g := (mkF m 52 #[.val (.int p0), .val (.int (p0 &&& (3 : Int32))), .val (.ref xv), .val (.int (0 : Int32)), .unset, .unset, .unset] [(.ref xv)])) rfl (by rw [hml]; rfl) (Steps.refl _) (argsL := []) (rest := []) (lenOf pda8ebd rfl) rfl (by show 2 * 0 + _ ≤ _; exact Nat.le_of_eq rfl) (hb hby at_52) (fun _ _ => ⟨rfl, e20, (by decide : 0 + 0 ≤ _), (by decide : 0 + 0 ≤ _)⟩)
        dsimp only [Pt.U, Pt.locs, Pt.cells, Pt.slots] at X21 l21 y21 z21 st21 hQ21
        subst l21 y21 z21
        obtain ⟨rfl, N21q, e21⟩ := hQ21
        have N21 := Fr.app N0 N21q
        refine Go.st (fun _ k => st21.trans k) ?_
        show Go p e below _ (T21.setTop (mkF m 55 #[.val (.int p0), .val (.int (p0 &&& (3 : Int32))), .val (.ref xv), .val (.int (0 : Int32)), .unset, .unset, .unset] [(.int (fRet xv xu xd))]))
        have hs22 : (fRet xv xu xd) = (0 : Int32) := (own_ret0 n_vu n_vd)
        rw [hs22]
        show Go p e below _ (T21.setTop (mkF m 55 #[.val (.int p0), .val (.int (p0 &&& (3 : Int32))), .val (.ref xv), .val (.int (0 : Int32)), .unset, .unset, .unset] [(.int (0 : Int32))]))
        refine Go.st (fun _ k => XS.istore X21.here hx rfl (hb hby at_55) rfl (l' := #[.val (.int p0), .val (.int (p0 &&& (3 : Int32))), .val (.ref xv), .val (.int (0 : Int32)), .val (.int (0 : Int32)), .unset, .unset]) rfl k) ?_
        show Go p e below _ (T21.setTop (mkF m 57 #[.val (.int p0), .val (.int (p0 &&& (3 : Int32))), .val (.ref xv), .val (.int (0 : Int32)), .val (.int (0 : Int32)), .unset, .unset] []))
        refine Go.st (fun _ k => XS.aloadN X21.here hx rfl (hb hby at_57) rfl rfl k) ?_
        obtain ⟨cq23, kq23, q23a, q23b, q23c⟩ := isOf hZ e21 E_xv
        obtain ⟨_, _, ⟨T23, L23, k23, n23⟩, -, X23, ⟨Lc23, hQ23, l23, y23, z23⟩, st23⟩ := X21.virtualBack hx (y := (⟨"com/example/sluiceway/sluiceway/table/RowKind", "symbol", "()Ljava/lang/String;"⟩ : MethodName)) (z := (⟨"com/example/sluiceway/sluiceway/table/RowKind", "symbol", "()Ljava/lang/String;"⟩ : MethodName)) hown (mvT hZ (hw _ (List.mem_of_getElem? (i := 12) rfl))) (mvT hZ (hw _ (List.mem_of_getElem? (i := 13) rfl))) (notFace_of_selects (args := #[]) (mvT hZ (hw _ (List.mem_of_getElem? (i := 15) rfl)))) (mvT hZ (hw _ (List.mem_of_getElem? (i := 15) rfl))) (mvT hZ (hw _ (List.mem_of_getElem? (i := 14) rfl))) (by decide) (backOf (W := 0) (rmSym l Z aZ hw [] xv yxv h0 n0 G_xv) hZ (hw _ (List.mem_of_getElem? (i := 16) rfl)) (hw _ (List.mem_of_getElem? (i := 1) rfl)) (by decide) (by decide)) q23a q23c (g := (mkF m 58 #[.val (.int p0), .val (.int (p0 &&& (3 : Int32))), .val (.ref xv), .val (.int (0 : Int32)), .val (.int (0 : Int32)), .unset, .unset] [(.ref xv)])) rfl (by rw [hml]; rfl) (Steps.refl _) (argsL := []) (rest := []) (lenOf pddee81b67 rfl) rfl (by show 2 * 0 + _ ≤ _; exact Nat.le_of_eq rfl) (hb hby at_58) (fun _ _ => ⟨rfl, e21, (by decide : 0 + 0 ≤ _), (by decide : 0 + 0 ≤ _)⟩)
        dsimp only [Pt.U, Pt.locs, Pt.cells, Pt.slots] at X23 l23 y23 z23 st23 hQ23
        subst l23 y23 z23
        obtain ⟨rfl, N23q, e23⟩ := hQ23
        have N23 := Fr.app N21 N23q
        refine Go.st (fun _ k => st23.trans k) ?_
        show Go p e below _ (T23.setTop (mkF m 61 #[.val (.int p0), .val (.int (p0 &&& (3 : Int32))), .val (.ref xv), .val (.int (0 : Int32)), .val (.int (0 : Int32)), .unset, .unset] [(.ref yxv)]))
        refine Go.st (fun _ k => XS.astore X23.here hx rfl (hb hby at_61) rfl rfl (l' := #[.val (.int p0), .val (.int (p0 &&& (3 : Int32))), .val (.ref xv), .val (.int (0 : Int32)), .val (.int (0 : Int32)), .val (.ref yxv), .unset]) rfl k) ?_
        show Go p e below _ (T23.setTop (mkF m 63 #[.val (.int p0), .val (.int (p0 &&& (3 : Int32))), .val (.ref xv), .val (.int (0 : Int32)), .val (.int (0 : Int32)), .val (.ref yxv), .unset] []))
        refine Go.st (fun _ k => XS.aload X23.here hx rfl (hb hby at_63) rfl rfl k) ?_
        obtain ⟨cq24, kq24, q24a, q24b, q24c⟩ := isOf hZ e23 Es_xv
        obtain ⟨_, _, ⟨T24, L24, k24, n24⟩, -, X24, ⟨Lc24, hQ24, l24, y24, z24⟩, st24⟩ := X23.virtualBack hx (y := (⟨"java/lang/String", "length", "()I"⟩ : MethodName)) (z := (⟨"java/lang/String", "length", "()I"⟩ : MethodName)) hown (mvT hZ (hw _ (List.mem_of_getElem? (i := 19) rfl))) (mvT hZ (hw _ (List.mem_of_getElem? (i := 20) rfl))) (notFace_of_selects (args := #[]) (mvT hZ (hw _ (List.mem_of_getElem? (i := 22) rfl)))) (mvT hZ (hw _ (List.mem_of_getElem? (i := 22) rfl))) (mvT hZ (hw _ (List.mem_of_getElem? (i := 21) rfl))) (by decide) (backOf (W := 0) (rmLen l Z aZ hw [] yxv bxv (0 : Int32) cs kxv (2 : Int32) [(.int (43 : Int32)), (.int (85 : Int32))] h0 n0 hcs Fv_xv Fc_xv Es_xv S_cs Va_xv) hZ (hw _ (List.mem_of_getElem? (i := 24) rfl)) (hw _ (List.mem_of_getElem? (i := 23) rfl)) (by decide) (by decide)) q24a q24c (g := (mkF m 65 #[.val (.int p0), .val (.int (p0 &&& (3 : Int32))), .val (.ref xv), .val (.int (0 : Int32)), .val (.int (0 : Int32)), .val (.ref yxv), .unset] [(.ref yxv)])) rfl (by rw [hml]; rfl) (Steps.refl _) (argsL := []) (rest := []) (lenOf pda8eac rfl) rfl (by show 2 * 0 + _ ≤ _; exact Nat.le_of_eq rfl) (hb hby at_65) (fun _ _ => ⟨rfl, e23, (by decide : 0 + 0 ≤ _), (by decide : 0 + 0 ≤ _)⟩)
        dsimp only [Pt.U, Pt.locs, Pt.cells, Pt.slots] at X24 l24 y24 z24 st24 hQ24
        subst l24 y24 z24
        obtain ⟨rfl, N24q, e24⟩ := hQ24
        have N24 := Fr.app N23 N24q
        refine Go.st (fun _ k => st24.trans k) ?_
        show Go p e below _ (T24.setTop (mkF m 68 #[.val (.int p0), .val (.int (p0 &&& (3 : Int32))), .val (.ref xv), .val (.int (0 : Int32)), .val (.int (0 : Int32)), .val (.ref yxv), .unset] [(.int (jLen (0 : Int32) (2 : Int32)))]))
        have hs25 : (jLen (0 : Int32) (2 : Int32)) = (2 : Int32) := (by decide +kernel)
        rw [hs25]
        show Go p e below _ (T24.setTop (mkF m 68 #[.val (.int p0), .val (.int (p0 &&& (3 : Int32))), .val (.ref xv), .val (.int (0 : Int32)), .val (.int (0 : Int32)), .val (.ref yxv), .unset] [(.int (2 : Int32))]))
        refine Go.st (fun _ k => XS.ifNo X24.here hx rfl (hb hby at_68) rfl ((if0 _ _).trans (tlt (by decide : ((0 : Int32) < (2 : Int32)))).2.2.2) k) ?_
        show Go p e below _ (T24.setTop (mkF m 71 #[.val (.int p0), .val (.int (p0 &&& (3 : Int32))), .val (.ref xv), .val (.int (0 : Int32)), .val (.int (0 : Int32)), .val (.ref yxv), .unset] []))
        refine Go.st (fun _ k => XS.aload X24.here hx rfl (hb hby at_71) rfl rfl k) ?_
        refine Go.st (fun _ k => XS.iconst X24.here hx rfl (hb hby at_73) k) ?_
        obtain ⟨cq26, kq26, q26a, q26b, q26c⟩ := isOf hZ e24 Es_xv
        obtain ⟨_, _, ⟨T26, L26, k26, n26⟩, -, X26, ⟨Lc26, hQ26, l26, y26, z26⟩, st26⟩ := X24.virtualBack hx (y := (⟨"java/lang/String", "charAt", "(I)C"⟩ : MethodName)) (z := (⟨"java/lang/String", "charAt", "(I)C"⟩ : MethodName)) hown (mvT hZ (hw _ (List.mem_of_getElem? (i := 35) rfl))) (mvT hZ (hw _ (List.mem_of_getElem? (i := 36) rfl))) (notFace_of_selects (args := #[]) (mvT hZ (hw _ (List.mem_of_getElem? (i := 38) rfl)))) (mvT hZ (hw _ (List.mem_of_getElem? (i := 38) rfl))) (mvT hZ (hw _ (List.mem_of_getElem? (i := 37) rfl))) (by decide) (backOf (W := 0) (rmChar l Z aZ hw [] (43 : Int32) yxv (0 : Int32) bxv (0 : Int32) cs vf kxv (2 : Int32) [(.int (43 : Int32)), (.int (85 : Int32))] h0 n0 hcs rfl hvf ⟨by decide, by decide⟩ rfl Fv_xv Fc_xv Es_xv S_cs S_vf Va_xv) hZ (hw _ (List.mem_of_getElem? (i := 39) rfl)) (hw _ (List.mem_of_getElem? (i := 23) rfl)) (by decide) (by decide)) q26a q26c (g := (mkF m 74 #[.val (.int p0), .val (.int (p0 &&& (3 : Int32))), .val (.ref xv), .val (.int (0 : Int32)), .val (.int (0 : Int32)), .val (.ref yxv), .unset] [(.int (0 : Int32)), (.ref yxv)])) rfl (by rw [hml]; rfl) (Steps.refl _) (argsL := [(.int (0 : Int32))]) (rest := []) (lenOf pd56f5307 rfl) rfl (by show 2 * 0 + _ ≤ _; exact Nat.le_of_eq rfl) (hb hby at_74) (fun _ _ => ⟨rfl, e24, (by decide : 0 + 0 ≤ _), (by decide : 0 + 0 ≤ _)⟩)
        dsimp only [Pt.U, Pt.locs, Pt.cells, Pt.slots] at X26 l26 y26 z26 st26 hQ26
        subst l26 y26 z26
        obtain ⟨rfl, N26q, e26⟩ := hQ26
        have N26 := Fr.app N24 N26q
        refine Go.st (fun _ k => st26.trans k) ?_
        show Go p e below _ (T26.setTop (mkF m 77 #[.val (.int p0), .val (.int (p0 &&& (3 : Int32))), .val (.ref xv), .val (.int (0 : Int32)), .val (.int (0 : Int32)), .val (.ref yxv), .unset] [(.int (jChar (43 : Int32)))]))
        have hs27 : (jChar (43 : Int32)) = (43 : Int32) := (by decide +kernel)
        rw [hs27]
        show Go p e below _ (T26.setTop (mkF m 77 #[.val (.int p0), .val (.int (p0 &&& (3 : Int32))), .val (.ref xv), .val (.int (0 : Int32)), .val (.int (0 : Int32)), .val (.ref yxv), .unset] [(.int (43 : Int32))]))
        refine Go.st (fun _ k => XS.bipush X26.here hx rfl (hb hby at_77) k) ?_
        refine Go.st (fun _ k => XS.icmpYes X26.here hx rfl (pc0 := 79) (pc' := 86) rfl (hb hby at_79) rfl (feq (by decide : ¬ ((43 : Int32) = (45 : Int32)))).2 (by decide) (by decide) k) ?_
        show Go p e below _ (T26.setTop (mkF m 86 #[.val (.int p0), .val (.int (p0 &&& (3 : Int32))), .val (.ref xv), .val (.int (0 : Int32)), .val (.int (0 : Int32)), .val (.ref yxv), .unset] []))
        refine Go.st (fun _ k => XS.iconst X26.here hx rfl (hb hby at_86) k) ?_
        refine Go.st (fun _ k => XS.istore X26.here hx rfl (hb hby at_87) rfl (l' := #[.val (.int p0), .val (.int (p0 &&& (3 : Int32))), .val (.ref xv), .val (.int (0 : Int32)), .val (.int (0 : Int32)), .val (.ref yxv), .val (.int (0 : Int32))]) rfl k) ?_
        show Go p e below _ (T26.setTop (mkF m 89 #[.val (.int p0), .val (.int (p0 &&& (3 : Int32))), .val (.ref xv), .val (.int (0 : Int32)), .val (.int (0 : Int32)), .val (.ref yxv), .val (.int (0 : Int32))] []))
        refine Go.st (fun _ k => XS.iload X26.here hx rfl (hb hby at_89) rfl k) ?_
        refine Go.st (fun _ k => XS.iloadN X26.here hx rfl (hb hby at_91) rfl k) ?_
        refine Go.st (fun _ k => XS.icmpNo X26.here hx rfl (hb hby at_92) rfl (teq (by decide : ((0 : Int32) = (0 : Int32)))).2 k) ?_
        show Go p e below _ (T26.setTop (mkF m 95 #[.val (.int p0), .val (.int (p0 &&& (3 : Int32))), .val (.ref xv), .val (.int (0 : Int32)), .val (.int (0 : Int32)), .val (.ref yxv), .val (.int (0 : Int32))] []))
        refine Go.st (fun _ k => XS.iload X26.here hx rfl (hb hby at_95) rfl k) ?_
        refine Go.st (fun _ k => XS.iload X26.here hx rfl (hb hby at_97) rfl k) ?_
        refine Go.st (fun _ k => XS.icmpNo X26.here hx rfl (hb hby at_99) rfl (teq (by decide : ((0 : Int32) = (0 : Int32)))).2 k) ?_
        show Go p e below _ (T26.setTop (mkF m 102 #[.val (.int p0), .val (.int (p0 &&& (3 : Int32))), .val (.ref xv), .val (.int (0 : Int32)), .val (.int (0 : Int32)), .val (.ref yxv), .val (.int (0 : Int32))] []))
        refine Go.st (fun _ k => XS.iconst X26.here hx rfl (hb hby at_102) k) ?_
        refine Go.st (fun _ k => XS.goto X26.here hx rfl (pc0 := 103) (pc' := 107) rfl (hb hby at_103) (by decide) (by decide) k) ?_
        show Go p e below _ (T26.setTop (mkF m 107 #[.val (.int p0), .val (.int (p0 &&& (3 : Int32))), .val (.ref xv), .val (.int (0 : Int32)), .val (.int (0 : Int32)), .val (.ref yxv), .val (.int (0 : Int32))] [(.int (1 : Int32))]))
        obtain ⟨fs, hr, hrun, hended, hW, hsame⟩ := X26.leave (v := some (.int (1 : Int32))) (fun h => by rw [Bd.returns] at h; cases h)
        refine ⟨_, _, retN X26 hx (t := .boolean) Bd.returns (by simp) (hb hby at_107) hr, hrun, hended, _, _, rfl, ?_, ⟨_, rfl⟩, hW, hsame.mono (by decide) (by decide)⟩
        show Q_rm0 Z p0 cs vf xi yxi bxi kxi xu yxu bxu kxu xv yxv bxv kxv xd yxd bxd kxd h0 n0 _ T26.heap _
        rw [e26]
        exact ⟨rfl, N26⟩
      · show Go p e below _ (s₁.setTop (mkF m 33 #[.val (.int p0), .val (.int (p0 &&& (3 : Int32))), .unset, .unset, .unset, .unset, .unset] [(.int (2 : Int32)), (.int (p0 &&& (3 : Int32)))]))
        refine Go.st (fun _ k => XS.icmpYes X0.here hx rfl (pc0 := 33) (pc' := 45) rfl (hb hby at_33) rfl (feq hc19).2 (by decide) (by decide) k) ?_
        show Go p e below _ (s₁.setTop (mkF m 45 #[.val (.int p0), .val (.int (p0 &&& (3 : Int32))), .unset, .unset, .unset, .unset, .unset] []))
        obtain ⟨T28, X28, e28, st28⟩ := getS2 X0 hx hZ hown (host := "") (Or.inl (hw _ (List.mem_of_getElem? (i := 57) rfl))) Via.refl e0 S_xd (g := (mkF m 45 #[.val (.int p0), .val (.int (p0 &&& (3 : Int32))), .unset, .unset, .unset, .unset, .unset] [])) rfl (hb hby at_45)
        refine Go.st (fun _ k => st28 _ k) ?_
        show Go p e below _ (T28.setTop (mkF m 48 #[.val (.int p0), .val (.int (p0 &&& (3 : Int32))), .unset, .unset, .unset, .unset, .unset] [(.ref xd)]))
        refine Go.st (fun _ k => XS.astoreN X28.here hx rfl (hb hby at_48) rfl rfl (l' := #[.val (.int p0), .val (.int (p0 &&& (3 : Int32))), .val (.ref xd), .unset, .unset, .unset, .unset]) rfl k) ?_
        show Go p e below _ (T28.setTop (mkF m 49 #[.val (.int p0), .val (.int (p0 &&& (3 : Int32))), .val (.ref xd), .unset, .unset, .unset, .unset] []))
        refine Go.st (fun _ k => XS.iconst X28.here hx rfl (hb hby at_49) k) ?_
        refine Go.st (fun _ k => XS.istoreN X28.here hx rfl (hb hby at_50) rfl (l' := #[.val (.int p0), .val (.int (p0 &&& (3 : Int32))), .val (.ref xd), .val (.int (1 : Int32)), .unset, .unset, .unset]) rfl k) ?_
        show Go p e below _ (T28.setTop (mkF m 51 #[.val (.int p0), .val (.int (p0 &&& (3 : Int32))), .val (.ref xd), .val (.int (1 : Int32)), .unset, .unset, .unset] []))
        refine Go.st (fun _ k => XS.aloadN X28.here hx rfl (hb hby at_51) rfl rfl k) ?_
        obtain ⟨cq29, kq29, q29a, q29b, q29c⟩ := isOf hZ e28 E_xd
        obtain ⟨_, _, ⟨T29, L29, k29, n29⟩, -, X29, ⟨Lc29, hQ29, l29, y29, z29⟩, st29⟩ := X28.virtualBack hx (y := (⟨"com/example/sluiceway/sluiceway/table/RowKind", "retracts", "()Z"⟩ : MethodName)) (z := (⟨"com/example/sluiceway/sluiceway/table/RowKind", "retracts", "()Z"⟩ : MethodName)) hown (mvT hZ (hw _ (List.mem_of_getElem? (i := 3) rfl))) (mvT hZ (hw _ (List.mem_of_getElem? (i := 4) rfl))) (notFace_of_selects (args := #[]) (mvT hZ (hw _ (List.mem_of_getElem? (i := 6) rfl)))) (mvT hZ (hw _ (List.mem_of_getElem? (i := 6) rfl))) (mvT hZ (hw _ (List.mem_of_getElem? (i := 5) rfl))) (by decide) (backOf (W := 0) (rmRet l Z aZ hw [] xd xu xd h0 n0 S_xu S_xd) hZ (hw _ (List.mem_of_getElem? (i := 7) rfl)) (hw _ (List.mem_of_getElem? (i := 1) rfl)) (by decide) (by decide)) q29a q29c (g := (mkF m 52 #[.val (.int p0), .val (.int (p0 &&& (3 : Int32))), .val (.ref xd), .val (.int (1 : Int32)), .unset, .unset, .unset] [(.ref xd)])) rfl (by rw [hml]; rfl) (Steps.refl _) (argsL := []) (rest := []) (lenOf pda8ebd rfl) rfl (by show 2 * 0 + _ ≤ _; exact Nat.le_of_eq rfl) (hb hby at_52) (fun _ _ => ⟨rfl, e28, (by decide : 0 + 0 ≤ _), (by decide : 0 + 0 ≤ _)⟩)
        dsimp only [Pt.U, Pt.locs, Pt.cells, Pt.slots] at X29 l29 y29 z29 st29 hQ29
        subst l29 y29 z29
        obtain ⟨rfl, N29q, e29⟩ := hQ29
        have N29 := Fr.app N0 N29q
        refine Go.st (fun _ k => st29.trans k) ?_
        show Go p e below _ (T29.setTop (mkF m 55 #[.val (.int p0), .val (.int (p0 &&& (3 : Int32))), .val (.ref xd), .val (.int (1 : Int32)), .unset, .unset, .unset] [(.int (fRet xd xu xd))]))
        have hs30 : (fRet xd xu xd) = (1 : Int32) := (own_ret2 n_du)
        rw [hs30]
        show Go p e below _ (T29.setTop (mkF m 55 #[.val (.int p0), .val (.int (p0 &&& (3 : Int32))), .val (.ref xd), .val (.int (1 : Int32)), .unset, .unset, .unset] [(.int (1 : Int32))]))
        refine Go.st (fun _ k => XS.istore X29.here hx rfl (hb hby at_55) rfl (l' := #[.val (.int p0), .val (.int (p0 &&& (3 : Int32))), .val (.ref xd), .val (.int (1 : Int32)), .val (.int (1 : Int32)), .unset, .unset]) rfl k) ?_
        show Go p e below _ (T29.setTop (mkF m 57 #[.val (.int p0), .val (.int (p0 &&& (3 : Int32))), .val (.ref xd), .val (.int (1 : Int32)), .val (.int (1 : Int32)), .unset, .unset] []))
        refine Go.st (fun _ k => XS.aloadN X29.here hx rfl (hb hby at_57) rfl rfl k) ?_
        obtain ⟨cq31, kq31, q31a, q31b, q31c⟩ := isOf hZ e29 E_xd
        obtain ⟨_, _, ⟨T31, L31, k31, n31⟩, -, X31, ⟨Lc31, hQ31, l31, y31, z31⟩, st31⟩ := X29.virtualBack hx (y := (⟨"com/example/sluiceway/sluiceway/table/RowKind", "symbol", "()Ljava/lang/String;"⟩ : MethodName)) (z := (⟨"com/example/sluiceway/sluiceway/table/RowKind", "symbol", "()Ljava/lang/String;"⟩ : MethodName)) hown (mvT hZ (hw _ (List.mem_of_getElem? (i := 12) rfl))) (mvT hZ (hw _ (List.mem_of_getElem? (i := 13) rfl))) (notFace_of_selects (args := #[]) (mvT hZ (hw _ (List.mem_of_getElem? (i := 15) rfl)))) (mvT hZ (hw _ (List.mem_of_getElem? (i := 15) rfl))) (mvT hZ (hw _ (List.mem_of_getElem? (i := 14) rfl))) (by decide) (backOf (W := 0) (rmSym l Z aZ hw [] xd yxd h0 n0 G_xd) hZ (hw _ (List.mem_of_getElem? (i := 16) rfl)) (hw _ (List.mem_of_getElem? (i := 1) rfl)) (by decide) (by decide)) q31a q31c (g := (mkF m 58 #[.val (.int p0), .val (.int (p0 &&& (3 : Int32))), .val (.ref xd), .val (.int (1 : Int32)), .val (.int (1 : Int32)), .unset, .unset] [(.ref xd)])) rfl (by rw [hml]; rfl) (Steps.refl _) (argsL := []) (rest := []) (lenOf pddee81b67 rfl) rfl (by show 2 * 0 + _ ≤ _; exact Nat.le_of_eq rfl) (hb hby at_58) (fun _ _ => ⟨rfl, e29, (by decide : 0 + 0 ≤ _), (by decide : 0 + 0 ≤ _)⟩)
        dsimp only [Pt.U, Pt.locs, Pt.cells, Pt.slots] at X31 l31 y31 z31 st31 hQ31
        subst l31 y31 z31
        obtain ⟨rfl, N31q, e31⟩ := hQ31
        have N31 := Fr.app N29 N31q
        refine Go.st (fun _ k => st31.trans k) ?_
        show Go p e below _ (T31.setTop (mkF m 61 #[.val (.int p0), .val (.int (p0 &&& (3 : Int32))), .val (.ref xd), .val (.int (1 : Int32)), .val (.int (1 : Int32)), .unset, .unset] [(.ref yxd)]))
        refine Go.st (fun _ k => XS.astore X31.here hx rfl (hb hby at_61) rfl rfl (l' := #[.val (.int p0), .val (.int (p0 &&& (3 : Int32))), .val (.ref xd), .val (.int (1 : Int32)), .val (.int (1 : Int32)), .val (.ref yxd), .unset]) rfl k) ?_
        show Go p e below _ (T31.setTop (mkF m 63 #[.val (.int p0), .val (.int (p0 &&& (3 : Int32))), .val (.ref xd), .val (.int (1 : Int32)), .val (.int (1 : Int32)), .val (.ref yxd), .unset] []))
        refine Go.st (fun _ k => XS.aload X31.here hx rfl (hb hby at_63) rfl rfl k) ?_
        obtain ⟨cq32, kq32, q32a, q32b, q32c⟩ := isOf hZ e31 Es_xd
        obtain ⟨_, _, ⟨T32, L32, k32, n32⟩, -, X32, ⟨Lc32, hQ32, l32, y32, z32⟩, st32⟩ := X31.virtualBack hx (y := (⟨"java/lang/String", "length", "()I"⟩ : MethodName)) (z := (⟨"java/lang/String", "length", "()I"⟩ : MethodName)) hown (mvT hZ (hw _ (List.mem_of_getElem? (i := 19) rfl))) (mvT hZ (hw _ (List.mem_of_getElem? (i := 20) rfl))) (notFace_of_selects (args := #[]) (mvT hZ (hw _ (List.mem_of_getElem? (i := 22) rfl)))) (mvT hZ (hw _ (List.mem_of_getElem? (i := 22) rfl))) (mvT hZ (hw _ (List.mem_of_getElem? (i := 21) rfl))) (by decide) (backOf (W := 0) (rmLen l Z aZ hw [] yxd bxd (0 : Int32) cs kxd (2 : Int32) [(.int (45 : Int32)), (.int (68 : Int32))] h0 n0 hcs Fv_xd Fc_xd Es_xd S_cs Va_xd) hZ (hw _ (List.mem_of_getElem? (i := 24) rfl)) (hw _ (List.mem_of_getElem? (i := 23) rfl)) (by decide) (by decide)) q32a q32c (g := (mkF m 65 #[.val (.int p0), .val (.int (p0 &&& (3 : Int32))), .val (.ref xd), .val (.int (1 : Int32)), .val (.int (1 : Int32)), .val (.ref yxd), .unset] [(.ref yxd)])) rfl (by rw [hml]; rfl) (Steps.refl _) (argsL := []) (rest := []) (lenOf pda8eac rfl) rfl (by show 2 * 0 + _ ≤ _; exact Nat.le_of_eq rfl) (hb hby at_65) (fun _ _ => ⟨rfl, e31, (by decide : 0 + 0 ≤ _), (by decide : 0 + 0 ≤ _)⟩)
        dsimp only [Pt.U, Pt.locs, Pt.cells, Pt.slots] at X32 l32 y32 z32 st32 hQ32
        subst l32 y32 z32
        obtain ⟨rfl, N32q, e32⟩ := hQ32
        have N32 := Fr.app N31 N32q
        refine Go.st (fun _ k => st32.trans k) ?_
        show Go p e below _ (T32.setTop (mkF m 68 #[.val (.int p0), .val (.int (p0 &&& (3 : Int32))), .val (.ref xd), .val (.int (1 : Int32)), .val (.int (1 : Int32)), .val (.ref yxd), .unset] [(.int (jLen (0 : Int32) (2 : Int32)))]))
        have hs33 : (jLen (0 : Int32) (2 : Int32)) = (2 : Int32) := (by decide +kernel)
        rw [hs33]
        show Go p e below _ (T32.setTop (mkF m 68 #[.val (.int p0), .val (.int (p0 &&& (3 : Int32))), .val (.ref xd), .val (.int (1 : Int32)), .val (.int (1 : Int32)), .val (.ref yxd), .unset] [(.int (2 : Int32))]))
        refine Go.st (fun _ k => XS.ifNo X32.here hx rfl (hb hby at_68) rfl ((if0 _ _).trans (tlt (by decide : ((0 : Int32) < (2 : Int32)))).2.2.2) k) ?_
        show Go p e below _ (T32.setTop (mkF m 71 #[.val (.int p0), .val (.int (p0 &&& (3 : Int32))), .val (.ref xd), .val (.int (1 : Int32)), .val (.int (1 : Int32)), .val (.ref yxd), .unset] []))
        refine Go.st (fun _ k => XS.aload X32.here hx rfl (hb hby at_71) rfl rfl k) ?_
        refine Go.st (fun _ k => XS.iconst X32.here hx rfl (hb hby at_73) k) ?_
        obtain ⟨cq34, kq34, q34a, q34b, q34c⟩ := isOf hZ e32 Es_xd
        obtain ⟨_, _, ⟨T34, L34, k34, n34⟩, -, X34, ⟨Lc34, hQ34, l34, y34, z34⟩, st34⟩ := X32.virtualBack hx (y := (⟨"java/lang/String", "charAt", "(I)C"⟩ : MethodName)) (z := (⟨"java/lang/String", "charAt", "(I)C"⟩ : MethodName)) hown (mvT hZ (hw _ (List.mem_of_getElem? (i := 35) rfl))) (mvT hZ (hw _ (List.mem_of_getElem? (i := 36) rfl))) (notFace_of_selects (args := #[]) (mvT hZ (hw _ (List.mem_of_getElem? (i := 38) rfl)))) (mvT hZ (hw _ (List.mem_of_getElem? (i := 38) rfl))) (mvT hZ (hw _ (List.mem_of_getElem? (i := 37) rfl))) (by decide) (backOf (W := 0) (rmChar l Z aZ hw [] (45 : Int32) yxd (0 : Int32) bxd (0 : Int32) cs vf kxd (2 : Int32) [(.int (45 : Int32)), (.int (68 : Int32))] h0 n0 hcs rfl hvf ⟨by decide, by decide⟩ rfl Fv_xd Fc_xd Es_xd S_cs S_vf Va_xd) hZ (hw _ (List.mem_of_getElem? (i := 39) rfl)) (hw _ (List.mem_of_getElem? (i := 23) rfl)) (by decide) (by decide)) q34a q34c (g := (mkF m 74 #[.val (.int p0), .val (.int (p0 &&& (3 : Int32))), .val (.ref xd), .val (.int (1 : Int32)), .val (.int (1 : Int32)), .val (.ref yxd), .unset] [(.int (0 : Int32)), (.ref yxd)])) rfl (by rw [hml]; rfl) (Steps.refl _) (argsL := [(.int (0 : Int32))]) (rest := []) (lenOf pd56f5307 rfl) rfl (by show 2 * 0 + _ ≤ _; exact Nat.le_of_eq rfl) (hb hby at_74) (fun _ _ => ⟨rfl, e32, (by decide : 0 + 0 ≤ _), (by decide : 0 + 0 ≤ _)⟩)
        dsimp only [Pt.U, Pt.locs, Pt.cells, Pt.slots] at X34 l34 y34 z34 st34 hQ34
        subst l34 y34 z34
        obtain ⟨rfl, N34q, e34⟩ := hQ34
        have N34 := Fr.app N32 N34q
        refine Go.st (fun _ k => st34.trans k) ?_
        show Go p e below _ (T34.setTop (mkF m 77 #[.val (.int p0), .val (.int (p0 &&& (3 : Int32))), .val (.ref xd), .val (.int (1 : Int32)), .val (.int (1 : Int32)), .val (.ref yxd), .unset] [(.int (jChar (45 : Int32)))]))
        have hs35 : (jChar (45 : Int32)) = (45 : Int32) := (by decide +kernel)
        rw [hs35]
        show Go p e below _ (T34.setTop (mkF m 77 #[.val (.int p0), .val (.int (p0 &&& (3 : Int32))), .val (.ref xd), .val (.int (1 : Int32)), .val (.int (1 : Int32)), .val (.ref yxd), .unset] [(.int (45 : Int32))]))
        refine Go.st (fun _ k => XS.bipush X34.here hx rfl (hb hby at_77) k) ?_
        refine Go.st (fun _ k => XS.icmpNo X34.here hx rfl (hb hby at_79) rfl (teq (by decide : ((45 : Int32) = (45 : Int32)))).2 k) ?_
        show Go p e below _ (T34.setTop (mkF m 82 #[.val (.int p0), .val (.int (p0 &&& (3 : Int32))), .val (.ref xd), .val (.int (1 : Int32)), .val (.int (1 : Int32)), .val (.ref yxd), .unset] []))
        refine Go.st (fun _ k => XS.iconst X34.here hx rfl (hb hby at_82) k) ?_
        refine Go.st (fun _ k => XS.goto X34.here hx rfl (pc0 := 83) (pc' := 87) rfl (hb hby at_83) (by decide) (by decide) k) ?_
        show Go p e below _ (T34.setTop (mkF m 87 #[.val (.int p0), .val (.int (p0 &&& (3 : Int32))), .val (.ref xd), .val (.int (1 : Int32)), .val (.int (1 : Int32)), .val (.ref yxd), .unset] [(.int (1 : Int32))]))
        refine Go.st (fun _ k => XS.istore X34.here hx rfl (hb hby at_87) rfl (l' := #[.val (.int p0), .val (.int (p0 &&& (3 : Int32))), .val (.ref xd), .val (.int (1 : Int32)), .val (.int (1 : Int32)), .val (.ref yxd), .val (.int (1 : Int32))]) rfl k) ?_
        show Go p e below _ (T34.setTop (mkF m 89 #[.val (.int p0), .val (.int (p0 &&& (3 : Int32))), .val (.ref xd), .val (.int (1 : Int32)), .val (.int (1 : Int32)), .val (.ref yxd), .val (.int (1 : Int32))] []))
        refine Go.st (fun _ k => XS.iload X34.here hx rfl (hb hby at_89) rfl k) ?_
        refine Go.st (fun _ k => XS.iloadN X34.here hx rfl (hb hby at_91) rfl k) ?_
        refine Go.st (fun _ k => XS.icmpNo X34.here hx rfl (hb hby at_92) rfl (teq (by decide : ((1 : Int32) = (1 : Int32)))).2 k) ?_
        show Go p e below _ (T34.setTop (mkF m 95 #[.val (.int p0), .val (.int (p0 &&& (3 : Int32))), .val (.ref xd), .val (.int (1 : Int32)), .val (.int (1 : Int32)), .val (.ref yxd), .val (.int (1 : Int32))] []))
        refine Go.st (fun _ k => XS.iload X34.here hx rfl (hb hby at_95) rfl k) ?_
        refine Go.st (fun _ k => XS.iload X34.here hx rfl (hb hby at_97) rfl k) ?_
        refine Go.st (fun _ k => XS.icmpNo X34.here hx rfl (hb hby at_99) rfl (teq (by decide : ((1 : Int32) = (1 : Int32)))).2 k) ?_
        show Go p e below _ (T34.setTop (mkF m 102 #[.val (.int p0), .val (.int (p0 &&& (3 : Int32))), .val (.ref xd), .val (.int (1 : Int32)), .val (.int (1 : Int32)), .val (.ref yxd), .val (.int (1 : Int32))] []))
        refine Go.st (fun _ k => XS.iconst X34.here hx rfl (hb hby at_102) k) ?_
        refine Go.st (fun _ k => XS.goto X34.here hx rfl (pc0 := 103) (pc' := 107) rfl (hb hby at_103) (by decide) (by decide) k) ?_
        show Go p e below _ (T34.setTop (mkF m 107 #[.val (.int p0), .val (.int (p0 &&& (3 : Int32))), .val (.ref xd), .val (.int (1 : Int32)), .val (.int (1 : Int32)), .val (.ref yxd), .val (.int (1 : Int32))] [(.int (1 : Int32))]))
        obtain ⟨fs, hr, hrun, hended, hW, hsame⟩ := X34.leave (v := some (.int (1 : Int32))) (fun h => by rw [Bd.returns] at h; cases h)
        refine ⟨_, _, retN X34 hx (t := .boolean) Bd.returns (by simp) (hb hby at_107) hr, hrun, hended, _, _, rfl, ?_, ⟨_, rfl⟩, hW, hsame.mono (by decide) (by decide)⟩
        show Q_rm0 Z p0 cs vf xi yxi bxi kxi xu yxu bxu kxu xv yxv bxv kxv xd yxd bxd kxd h0 n0 _ T34.heap _
        rw [e34]
        exact ⟨rfl, N34⟩
set_option maxRecDepth 65536 in
set_option maxHeartbeats 40000000 in
theorem comes_1 {Post : Tables → Env → Array Value → State → Outcome → State → Prop} (hpost : ∀ tb e args s v u, (limb_1_1.after args s (.returned v) u = true ∧ limb_1_2.after args s (.returned v) u = true ∧ True) → FrameEnd s (.returned v) u (Jvm.fieldLocs frame_1_writes args s ++ Jvm.arrayLocs frame_1_arrays args s ++ Jvm.staticLocs frame_1_statics s) 0 0 → Post tb e args s (.returned v) u) :
    ArmFor flags0 classFile x code maxLocals ret World_1 tables_1 room_1 Calls_1 rest_1 Pre_1 Post := by
  intro l hfl _ _ p e ha hc hk s m args below hf hA hF happ hP
  obtain ⟨hcalls, hrest, hpre⟩ := hP
  obtain ⟨-, -, -, hnamed, -, -, -, hat⟩ := (Spec.applies_iff hf).mp happ
  obtain ⟨hg, hn⟩ := and_e (Cond.before_iff.mp (show (Jvm.Cond.and given_1 narrow_1).before args s = true from hpre))
  obtain ⟨g0, gr0⟩ := and_e hg
  have gi0 := gr0
  obtain ⟨w0, rfl⟩ : ∃ w0 : Value, args = #[w0] := by
    have hs : args.size = 1 := by simpa [Cond.value, given_1] using g0
    obtain ⟨L⟩ := args
    match L, hs with
    | [w0], _ => exact ⟨w0, rfl⟩
  have hw := fun d (hd : d ∈ tables_1) => atoms_spec (ws := Jvm.Cond.code x code maxLocals ret :: tables_1) hat d (List.mem_cons_of_mem _ hd)
  obtain ⟨i0, ei0⟩ := is_v gi0
  obtain rfl : w0 = (.int i0) := Option.some.inj ei0
  have hfit : Fit s := fun {y c} hc i hi => by
    obtain ⟨ha, rfl⟩ := Array.getElem?_eq_some_iff.mp hc
    have q := List.all_eq_true.mp ((Array.all_eq_true_iff_forall_mem.mp hF) _ (Array.getElem_mem ha)) i (List.mem_range.mpr hi)
    simpa [Array.getElem?_eq_getElem hi] using q
  obtain ⟨hsets, hown0⟩ := atoms_of _ (rest_1_c_eq ▸ (show rest_1_c.before _ s = true from hrest))
  have n5 := not_v (Cond.before_iff.mp (hsets _ (List.mem_of_getElem? (i := 2) rfl)))
  obtain ⟨cs, ecs⟩ := is_v (Cond.before_iff.mp (hsets _ (List.mem_of_getElem? (i := 1) rfl)))
  have S_cs : Sta s s.heap "java/lang/String" "COMPACT_STRINGS" "Z" (.int cs) := Sta.start ecs (Or.inl (hsets _ (List.mem_of_getElem? (i := 0) rfl)))
  obtain ⟨vf, evf, hvf⟩ := isR_v (Cond.before_iff.mp (hsets _ (List.mem_of_getElem? (i := 8) rfl)))
  have S_vf : Sta s s.heap "jdk/internal/util/Preconditions" "SIOOBE_FORMATTER" "Ljava/util/function/BiFunction;" vf := Sta.start evf (Or.inl (hsets _ (List.mem_of_getElem? (i := 7) rfl)))
  have hcs : ¬ (cs = (0 : Int32)) := gotF (Cond.eq_ints ecs (Term.int_eval (0))) n5
  obtain ⟨nc0, nr0⟩ := and_e hn
  obtain ⟨nc1, nr1⟩ := and_e nr0
  obtain ⟨nc2, nr2⟩ := and_e nr1
  obtain ⟨nc3, nr3⟩ := and_e nr2
  obtain ⟨nc4, nr4⟩ := and_e nr3
  obtain ⟨nc5, nr5⟩ := and_e nr4
  obtain ⟨nc6, nr6⟩ := and_e nr5
  obtain ⟨nc7, nr7⟩ := and_e nr6
  obtain ⟨nc8, nr8⟩ := and_e nr7
  obtain ⟨nc9, nr9⟩ := and_e nr8
  obtain ⟨nc10, nr10⟩ := and_e nr9
  obtain ⟨nc11, nr11⟩ := and_e nr10
  obtain ⟨nc12, nr12⟩ := and_e nr11
  obtain ⟨nc13, nr13⟩ := and_e nr12
  obtain ⟨nc14, nr14⟩ := and_e nr13
  obtain ⟨nc15, nr15⟩ := and_e nr14
  obtain ⟨nc16, nr16⟩ := and_e nr15
  obtain ⟨nc17, nr17⟩ := and_e nr16
  obtain ⟨nc18, nr18⟩ := and_e nr17
  obtain ⟨nc19, nr19⟩ := and_e nr18
  obtain ⟨nc20, nr20⟩ := and_e nr19
  obtain ⟨nc21, nr21⟩ := and_e nr20
  obtain ⟨nc22, nr22⟩ := and_e nr21
  obtain ⟨nc23, nr23⟩ := and_e nr22
  obtain ⟨nc24, nr24⟩ := and_e nr23
  obtain ⟨nc25, nr25⟩ := and_e nr24
  obtain ⟨nc26, nr26⟩ := and_e nr25
  obtain ⟨nc27, nr27⟩ := and_e nr26
  obtain ⟨nc28, nr28⟩ := and_e nr27
  obtain ⟨nc29, nr29⟩ := and_e nr28
  obtain ⟨nc30, nr30⟩ := and_e nr29
  have nc31 := nr30
  obtain ⟨xi, yxi, bxi, kxi, S_xi, E_xi, O_xi, G_xi, Es_xi, Fc_xi, Fv_xi, Va_xi⟩ := own_row (args := _) hfit (hw _ (List.mem_of_getElem? (i := 1) rfl)) (hw _ (List.mem_of_getElem? (i := 2) rfl)) nc0 nc2 nc6 nc7 nc8 nc9 nc10 nc28
  obtain ⟨xu, yxu, bxu, kxu, S_xu, E_xu, O_xu, G_xu, Es_xu, Fc_xu, Fv_xu, Va_xu⟩ := own_row (args := _) hfit (hw _ (List.mem_of_getElem? (i := 1) rfl)) (hw _ (List.mem_of_getElem? (i := 9) rfl)) nc1 nc3 nc23 nc24 nc25 nc26 nc27 nc31
  obtain ⟨xv, yxv, bxv, kxv, S_xv, E_xv, O_xv, G_xv, Es_xv, Fc_xv, Fv_xv, Va_xv⟩ := own_row (args := _) hfit (hw _ (List.mem_of_getElem? (i := 1) rfl)) (hw _ (List.mem_of_getElem? (i := 59) rfl)) nc16 nc17 nc18 nc19 nc20 nc21 nc22 nc30
  obtain ⟨xd, yxd, bxd, kxd, S_xd, E_xd, O_xd, G_xd, Es_xd, Fc_xd, Fv_xd, Va_xd⟩ := own_row (args := _) hfit (hw _ (List.mem_of_getElem? (i := 1) rfl)) (hw _ (List.mem_of_getElem? (i := 11) rfl)) nc4 nc5 nc11 nc12 nc13 nc14 nc15 nc29
  have n_iu : xi ≠ xu := O_xi.ne O_xu (by decide)
  have n_id : xi ≠ xd := O_xi.ne O_xd (by decide)
  have n_vu : xv ≠ xu := O_xv.ne O_xu (by decide)
  have n_vd : xv ≠ xd := O_xv.ne O_xd (by decide)
  have n_du : xd ≠ xu := O_xd.ne O_xu (by decide)
  obtain ⟨n, o, h1, h2, h3, _, L, rfl, ⟨rfl, N⟩, hq⟩ := rm0 l s _ hw tables_1 i0 cs vf xi yxi bxi kxi xu yxu bxu kxu xv yxv bxv kxv xd yxd bxd kxd s.heap s.heap.size hcs hvf S_cs S_vf S_xi E_xi G_xi Es_xi Fc_xi Fv_xi Va_xi S_xu E_xu G_xu Es_xu Fc_xu Fv_xu Va_xu S_xv E_xv G_xv Es_xv Fc_xv Fv_xv Va_xv S_xd E_xd G_xd Es_xd Fc_xd Fv_xd Va_xd n_iu n_id n_vu n_vd n_du p e ha hc hk s m _ below hf ((Spec.applies_iff_loose hf).mp happ).1 ⟨rfl, State.Warmed39.refl s, rfl⟩ trivial
  refine ⟨n, _, h1, h2, h3, hpost _ _ _ _ _ _ ⟨Cond.after_iff.mpr rfl, Cond.after_iff.mpr (eq_i res_at (Term.int_eval (1)) rfl), trivial⟩ ⟨hq.1, hq.2.1, (hq.2.2.sift fun y hy => Or.inr (N y hy)).mono (by decide) (by decide)⟩⟩
theorem main_1_1 : Claimed_1_1 := comes_1 fun _ _ _ _ _ _ h hF => ⟨h.1, hF⟩
theorem main_1_2 : Claimed_1_2 := comes_1 fun _ _ _ _ _ _ h hF => ⟨h.2.1, hF⟩
end Jvm.Pilot.@@N@@
namespace Jvm.Pilot.@@N@@
open Jvm Jvm.ClassFile Sem Op Lib Jvm.Free Jvm.Stand Jvm.Pilot.@@N@@.Jvm.D
/-! MADE BY PROGRAM (witnessworld.py) out of the Statement's table words and the real class files: 18 classes; the members and pool entries that the words name. The judged class is class 1, her method 1. -/
namespace start1
open Jvm.ClassFile
def u (s : String) : CpInfo := .utf8 (stringToUtf16 s)
/-- a pool by its gaps: so many unusable entries, then the entry; so many at the end -/
def gap : Nat → List CpInfo → List CpInfo
  | 0, r => r
  | n + 1, r => .unusable :: gap n r
def poolList (es : List (Nat × CpInfo)) (last : Nat) : List CpInfo := es.foldr (fun e r => gap e.1 (e.2 :: r)) (gap last [])
def pool (es : List (Nat × CpInfo)) (last : Nat) : Array CpInfo := ⟨poolList es last⟩
def fileOf (pool : Array CpInfo) (this : Nat) (attrs : Array Attribute := #[]) (ms : Array MethodInfo := #[]) (fl : Nat := 33) (sup : Nat := 0) (ifs : Array Nat := #[]) (fds : Array FieldInfo := #[]) : ClassFile where
  minorVersion := 0
  majorVersion := 65
  constantPool := pool
  accessFlags := fl
  thisClass := this
  superClass := sup
  interfaces := ifs
  fields := fds
  methods := ms
  attributes := attrs
def plain (name : String) (sup : Option ClassId) : Class where
  name := name
  kind := .ordinary
  loader := none
  accessFlags := 33
  super := sup
  interfaces := #[]
  cf := none
  fields := #[]
  methods := #[]
  instanceTypes := #[]
  staticTypes := #[]
  resolved := #[]
  callSites := []
  init := .initialized
  statics := none
  mirror := none

def pool0 : Array CpInfo := pool [(5, u "<init>"), (0, u "()V"), (1, .class_ 10), (1, u "java/lang/Object")] 113

def k0m0 : Method := { name := "<init>", desc := "()V", sig := { parameters := [], returnType := none }, accessFlags := 1, code := none }
/-- java/lang/Object -/
def k0 : Class := { plain "java/lang/Object" none with
  accessFlags := 33
  interfaces := #[]
  cf := some (fileOf pool0 8 #[] #[{ accessFlags := 1, nameIndex := 5, descriptorIndex := 6, attributes := #[] }] 33 0 #[] #[])
  fields := #[]
  methods := #[k0m0]
  instanceTypes := #[]
  staticTypes := #[]
  resolved := Array.replicate 124 none
  statics := none }

def pool1 : Array CpInfo := pool [(2, .class_ 4), (1, u "java/lang/Object"), (0, u "<init>"), (0, u "()V"), (0, .fieldref 8 9), (0, .class_ 10), (0, .nameAndType 11 12), (0, u "com/example/sluiceway/sluiceway/table/RowKind"), (0, u "INSERT"), (0, u "Lcom/example/sluiceway/sluiceway/table/RowKind;"), (0, .fieldref 8 14), (0, .nameAndType 15 12), (0, u "UPDATE_BEFORE"), (0, .fieldref 8 17), (0, .nameAndType 18 12), (0, u "UPDATE_AFTER"), (0, .fieldref 8 20), (0, .nameAndType 21 12), (0, u "DELETE"), (0, .methodref 8 23), (0, .nameAndType 24 25), (0, u "retracts"), (0, u "()Z"), (0, .methodref 8 27), (0, .nameAndType 28 29), (0, u "symbol"), (0, u "()Ljava/lang/String;"), (0, .methodref 31 32), (0, .class_ 33), (0, .nameAndType 34 35), (0, u "java/lang/String"), (0, u "length"), (0, u "()I"), (0, .methodref 31 37), (0, .nameAndType 38 39), (0, u "charAt"), (0, u "(I)C"), (0, .class_ 41), (0, u "com/example/sluiceway/sluiceway/table/RowKindRetractsPinLaw"), (2, u "law"), (0, u "(I)Z")] 3

def k1m0 : Method := { name := "<init>", desc := "()V", sig := { parameters := [], returnType := none }, accessFlags := 1, code := none }
def k1c1 : Code := { maxStack := 2, maxLocals := 7, code := code, exceptionTable := #[], attributes := #[] }
def k1m1 : Method := { name := "law", desc := "(I)Z", sig := { parameters := [.int], returnType := some .boolean }, accessFlags := 9, code := some k1c1 }
/-- com/example/sluiceway/sluiceway/table/RowKindRetractsPinLaw -/
def k1 : Class := { plain "com/example/sluiceway/sluiceway/table/RowKindRetractsPinLaw" (some 0) with
  accessFlags := 49
  interfaces := #[]
  cf := some (fileOf pool1 40 #[] #[{ accessFlags := 1, nameIndex := 5, descriptorIndex := 6, attributes := #[] }, { accessFlags := 9, nameIndex := 44, descriptorIndex := 45, attributes := #[] }] 49 2 #[] #[])
  fields := #[]
  methods := #[k1m0, k1m1]
  instanceTypes := #[]
  staticTypes := #[]
  resolved := Array.replicate 49 none
  statics := none }

def pool2 : Array CpInfo := pool [(1, .class_ 2), (0, u "java/lang/constant/Constable"), (0, .class_ 4), (0, u "java/lang/Object")] 6

/-- java/lang/constant/Constable -/
def k2 : Class := { plain "java/lang/constant/Constable" (some 0) with
  accessFlags := 1537
  interfaces := #[]
  cf := some (fileOf pool2 1 #[] #[] 1537 3 #[] #[])
  fields := #[]
  methods := #[]
  instanceTypes := #[]
  staticTypes := #[]
  resolved := Array.replicate 11 none
  statics := none }

def pool3 : Array CpInfo := pool [(1, .class_ 2), (0, u "java/lang/Comparable"), (0, .class_ 4), (0, u "java/lang/Object")] 7

/-- java/lang/Comparable -/
def k3 : Class := { plain "java/lang/Comparable" (some 0) with
  accessFlags := 1537
  interfaces := #[]
  cf := some (fileOf pool3 1 #[] #[] 1537 3 #[] #[])
  fields := #[]
  methods := #[]
  instanceTypes := #[]
  staticTypes := #[]
  resolved := Array.replicate 12 none
  statics := none }

def pool4 : Array CpInfo := pool [(1, .class_ 2), (0, u "java/io/Serializable"), (0, .class_ 4), (0, u "java/lang/Object")] 2

/-- java/io/Serializable -/
def k4 : Class := { plain "java/io/Serializable" (some 0) with
  accessFlags := 1537
  interfaces := #[]
  cf := some (fileOf pool4 1 #[] #[] 1537 3 #[] #[])
  fields := #[]
  methods := #[]
  instanceTypes := #[]
  staticTypes := #[]
  resolved := Array.replicate 7 none
  statics := none }

def pool5 : Array CpInfo := pool [(2, .class_ 4), (1, u "java/lang/Enum"), (0, u "name"), (0, u "Ljava/lang/String;"), (2, u "ordinal"), (0, u "I"), (1, .class_ 14), (1, u "java/lang/Object"), (4, u "hash"), (86, .class_ 108), (1, u "java/lang/Enum$EnumDesc"), (2, .class_ 112), (0, u "java/lang/constant/Constable"), (0, .class_ 114), (0, u "java/lang/Comparable"), (0, .class_ 116), (0, u "java/io/Serializable")] 87

/-- java/lang/Enum -/
def k5 : Class := { plain "java/lang/Enum" (some 0) with
  accessFlags := 1057
  interfaces := #[2, 3, 4]
  cf := some (fileOf pool5 2 #[.nestMembers #[106]] #[] 1057 12 #[111, 113, 115] #[{ accessFlags := 18, nameIndex := 5, descriptorIndex := 6, attributes := #[] }, { accessFlags := 18, nameIndex := 9, descriptorIndex := 10, attributes := #[] }, { accessFlags := 2, nameIndex := 19, descriptorIndex := 10, attributes := #[] }])
  fields := #[{ name := "name", type := (.object "java/lang/String"), accessFlags := 18, slot := 0, constantValue := 0 }, { name := "ordinal", type := .int, accessFlags := 18, slot := 1, constantValue := 0 }, { name := "hash", type := .int, accessFlags := 2, slot := 2, constantValue := 0 }]
  methods := #[]
  instanceTypes := #[(.object "java/lang/String"), .int, .int]
  staticTypes := #[]
  resolved := Array.replicate 204 none
  statics := none }

def pool6 : Array CpInfo := pool [(1, .class_ 2), (0, u "com/example/sluiceway/sluiceway/table/RowKind"), (2, u "INSERT"), (0, u "Lcom/example/sluiceway/sluiceway/table/RowKind;"), (0, .fieldref 1 8), (0, .nameAndType 9 6), (0, u "UPDATE_BEFORE"), (2, u "UPDATE_AFTER"), (0, .fieldref 1 14), (0, .nameAndType 15 6), (0, u "DELETE"), (2, u "$VALUES"), (0, u "[Lcom/example/sluiceway/sluiceway/table/RowKind;"), (6, .class_ 28), (1, u "java/lang/Enum"), (6, .fieldref 1 36), (0, .nameAndType 37 38), (0, u "symbol"), (0, u "Ljava/lang/String;"), (26, u "()Ljava/lang/String;"), (0, u "retracts"), (0, u "()Z")] 6

def k6c0 : Code := { maxStack := 1, maxLocals := 1, code := prog_138_method_4_code, exceptionTable := #[], attributes := #[] }
def k6m0 : Method := { name := "symbol", desc := "()Ljava/lang/String;", sig := { parameters := [], returnType := some (.object "java/lang/String") }, accessFlags := 1, code := some k6c0 }
def k6c1 : Code := { maxStack := 2, maxLocals := 1, code := prog_138_method_5_code, exceptionTable := #[], attributes := #[] }
def k6m1 : Method := { name := "retracts", desc := "()Z", sig := { parameters := [], returnType := some .boolean }, accessFlags := 1, code := some k6c1 }
/-- com/example/sluiceway/sluiceway/table/RowKind -/
def k6 : Class := { plain "com/example/sluiceway/sluiceway/table/RowKind" (some 5) with
  accessFlags := 16433
  interfaces := #[]
  cf := some (fileOf pool6 1 #[] #[{ accessFlags := 1, nameIndex := 37, descriptorIndex := 65, attributes := #[] }, { accessFlags := 1, nameIndex := 66, descriptorIndex := 67, attributes := #[] }] 16433 26 #[] #[{ accessFlags := 16409, nameIndex := 5, descriptorIndex := 6, attributes := #[] }, { accessFlags := 16409, nameIndex := 9, descriptorIndex := 6, attributes := #[] }, { accessFlags := 16409, nameIndex := 12, descriptorIndex := 6, attributes := #[] }, { accessFlags := 16409, nameIndex := 15, descriptorIndex := 6, attributes := #[] }, { accessFlags := 18, nameIndex := 37, descriptorIndex := 38, attributes := #[] }, { accessFlags := 4122, nameIndex := 18, descriptorIndex := 19, attributes := #[] }])
  fields := #[{ name := "INSERT", type := (.object "com/example/sluiceway/sluiceway/table/RowKind"), accessFlags := 16409, slot := 0, constantValue := 0 }, { name := "UPDATE_BEFORE", type := (.object "com/example/sluiceway/sluiceway/table/RowKind"), accessFlags := 16409, slot := 1, constantValue := 0 }, { name := "UPDATE_AFTER", type := (.object "com/example/sluiceway/sluiceway/table/RowKind"), accessFlags := 16409, slot := 2, constantValue := 0 }, { name := "DELETE", type := (.object "com/example/sluiceway/sluiceway/table/RowKind"), accessFlags := 16409, slot := 3, constantValue := 0 }, { name := "symbol", type := (.object "java/lang/String"), accessFlags := 18, slot := 3, constantValue := 0 }, { name := "$VALUES", type := (.array (.object "com/example/sluiceway/sluiceway/table/RowKind")), accessFlags := 4122, slot := 4, constantValue := 0 }]
  methods := #[k6m0, k6m1]
  instanceTypes := #[(.object "java/lang/String"), .int, .int, (.object "java/lang/String")]
  staticTypes := #[(.object "com/example/sluiceway/sluiceway/table/RowKind"), (.object "com/example/sluiceway/sluiceway/table/RowKind"), (.object "com/example/sluiceway/sluiceway/table/RowKind"), (.object "com/example/sluiceway/sluiceway/table/RowKind"), (.array (.object "com/example/sluiceway/sluiceway/table/RowKind"))]
  resolved := Array.replicate 74 none
  statics := some 0 }

def pool7 : Array CpInfo := pool [(2, .class_ 4), (1, u "java/lang/CharSequence"), (42, .class_ 48), (0, u "java/lang/CharSequence$1CodePointIterator"), (10, .class_ 60), (0, u "java/lang/CharSequence$1CharIterator"), (5, .class_ 67), (0, u "java/lang/Object")] 63

/-- java/lang/CharSequence -/
def k7 : Class := { plain "java/lang/CharSequence" (some 0) with
  accessFlags := 1537
  interfaces := #[]
  cf := some (fileOf pool7 2 #[.nestMembers #[47, 59]] #[] 1537 66 #[] #[])
  fields := #[]
  methods := #[]
  instanceTypes := #[]
  staticTypes := #[]
  resolved := Array.replicate 131 none
  statics := none }

def pool8 : Array CpInfo := pool [(1, .class_ 2), (0, u "java/lang/constant/ConstantDesc"), (0, .class_ 4), (0, u "java/lang/Object")] 32

/-- java/lang/constant/ConstantDesc -/
def k8 : Class := { plain "java/lang/constant/ConstantDesc" (some 0) with
  accessFlags := 1537
  interfaces := #[]
  cf := some (fileOf pool8 1 #[] #[] 1537 3 #[] #[])
  fields := #[]
  methods := #[]
  instanceTypes := #[]
  staticTypes := #[]
  resolved := Array.replicate 37 none
  statics := none }

def pool9 : Array CpInfo := pool [(2, .class_ 4), (1, u "java/lang/Object"), (0, u "<init>"), (0, u "()V"), (2, .fieldref 10 11), (0, .class_ 12), (0, .nameAndType 13 14), (0, u "java/lang/String"), (0, u "value"), (0, u "[B"), (0, .fieldref 10 16), (0, .nameAndType 17 18), (0, u "coder"), (0, u "B"), (2, u "hash"), (0, u "I"), (2, u "hashIsZero"), (0, u "Z"), (11, .fieldref 10 39), (0, .nameAndType 40 26), (0, u "COMPACT_STRINGS"), (66, .class_ 109), (1, u "java/lang/StringLatin1"), (32, u "()Z"), (191, u "()I"), (0, .methodref 10 336), (0, .nameAndType 17 337), (0, u "()B"), (25, u "([BI)C"), (27, u "(II)V"), (35, u "(I)C"), (64, .methodref 10 493), (0, .nameAndType 494 142), (0, u "isLatin1"), (0, .methodref 107 496), (0, .nameAndType 497 363), (0, u "charAt"), (3, u "checkIndex"), (5, u "length"), (67, .class_ 576), (0, u "java/lang/CharSequence"), (22, u "CASE_INSENSITIVE_ORDER"), (0, u "Ljava/util/Comparator;"), (452, .fieldref 1054 1055), (0, .class_ 1056), (0, .nameAndType 1057 1058), (0, u "jdk/internal/util/Preconditions"), (0, u "SIOOBE_FORMATTER"), (0, u "Ljava/util/function/BiFunction;"), (0, .methodref 1054 1060), (0, .nameAndType 501 1061), (0, u "(IILjava/util/function/BiFunction;)I"), (39, u "serialPersistentFields"), (0, u "[Ljava/io/ObjectStreamField;"), (0, .class_ 1104), (0, u "java/lang/String$CaseInsensitiveComparator"), (1, .class_ 1107), (0, u "java/io/Serializable"), (0, .class_ 1109), (0, u "java/lang/Comparable"), (0, .class_ 1111), (0, u "java/lang/constant/Constable"), (0, .class_ 1113), (0, u "java/lang/constant/ConstantDesc"), (2, u "serialVersionUID"), (0, u "J"), (3, u "REPL"), (0, u "C"), (2, u "LATIN1"), (1, u "UTF16")] 323

def k9m0 : Method := { name := "<init>", desc := "()V", sig := { parameters := [], returnType := none }, accessFlags := 1, code := none }
def k9c1 : Code := { maxStack := 2, maxLocals := 1, code := jdk_42_method_54_code, exceptionTable := #[], attributes := #[] }
def k9m1 : Method := { name := "length", desc := "()I", sig := { parameters := [], returnType := some .int }, accessFlags := 1, code := some k9c1 }
def k9c2 : Code := { maxStack := 2, maxLocals := 2, code := jdk_42_method_56_code, exceptionTable := #[], attributes := #[] }
def k9m2 : Method := { name := "charAt", desc := "(I)C", sig := { parameters := [.int], returnType := some .char }, accessFlags := 1, code := some k9c2 }
def k9c3 : Code := { maxStack := 1, maxLocals := 1, code := jdk_42_method_152_code, exceptionTable := #[], attributes := #[] }
def k9m3 : Method := { name := "coder", desc := "()B", sig := { parameters := [], returnType := some .byte }, accessFlags := 0, code := some k9c3 }
def k9c4 : Code := { maxStack := 1, maxLocals := 1, code := jdk_42_method_154_code, exceptionTable := #[], attributes := #[] }
def k9m4 : Method := { name := "isLatin1", desc := "()Z", sig := { parameters := [], returnType := some .boolean }, accessFlags := 0, code := some k9c4 }
def k9c5 : Code := { maxStack := 3, maxLocals := 2, code := jdk_42_method_155_code, exceptionTable := #[], attributes := #[] }
def k9m5 : Method := { name := "checkIndex", desc := "(II)V", sig := { parameters := [.int, .int], returnType := none }, accessFlags := 8, code := some k9c5 }
/-- java/lang/String -/
def k9 : Class := { plain "java/lang/String" (some 0) with
  accessFlags := 49
  interfaces := #[4, 3, 7, 2, 8]
  cf := some (fileOf pool9 10 #[.nestMembers #[1103]] #[{ accessFlags := 1, nameIndex := 5, descriptorIndex := 6, attributes := #[] }, { accessFlags := 1, nameIndex := 507, descriptorIndex := 334, attributes := #[] }, { accessFlags := 1, nameIndex := 497, descriptorIndex := 427, attributes := #[] }, { accessFlags := 0, nameIndex := 17, descriptorIndex := 337, attributes := #[] }, { accessFlags := 0, nameIndex := 494, descriptorIndex := 142, attributes := #[] }, { accessFlags := 8, nameIndex := 501, descriptorIndex := 391, attributes := #[] }] 49 2 #[1106, 1108, 575, 1110, 1112] #[{ accessFlags := 18, nameIndex := 13, descriptorIndex := 14, attributes := #[] }, { accessFlags := 18, nameIndex := 17, descriptorIndex := 18, attributes := #[] }, { accessFlags := 2, nameIndex := 21, descriptorIndex := 22, attributes := #[] }, { accessFlags := 2, nameIndex := 25, descriptorIndex := 26, attributes := #[] }, { accessFlags := 26, nameIndex := 1116, descriptorIndex := 1117, attributes := #[] }, { accessFlags := 24, nameIndex := 40, descriptorIndex := 26, attributes := #[] }, { accessFlags := 26, nameIndex := 1101, descriptorIndex := 1102, attributes := #[] }, { accessFlags := 26, nameIndex := 1121, descriptorIndex := 1122, attributes := #[] }, { accessFlags := 25, nameIndex := 599, descriptorIndex := 600, attributes := #[] }, { accessFlags := 24, nameIndex := 1125, descriptorIndex := 18, attributes := #[] }, { accessFlags := 24, nameIndex := 1127, descriptorIndex := 18, attributes := #[] }])
  fields := #[{ name := "value", type := (.array .byte), accessFlags := 18, slot := 0, constantValue := 0 }, { name := "coder", type := .byte, accessFlags := 18, slot := 1, constantValue := 0 }, { name := "hash", type := .int, accessFlags := 2, slot := 2, constantValue := 0 }, { name := "hashIsZero", type := .boolean, accessFlags := 2, slot := 3, constantValue := 0 }, { name := "serialVersionUID", type := .long, accessFlags := 26, slot := 0, constantValue := 0 }, { name := "COMPACT_STRINGS", type := .boolean, accessFlags := 24, slot := 1, constantValue := 0 }, { name := "serialPersistentFields", type := (.array (.object "java/io/ObjectStreamField")), accessFlags := 26, slot := 2, constantValue := 0 }, { name := "REPL", type := .char, accessFlags := 26, slot := 3, constantValue := 0 }, { name := "CASE_INSENSITIVE_ORDER", type := (.object "java/util/Comparator"), accessFlags := 25, slot := 4, constantValue := 0 }, { name := "LATIN1", type := .byte, accessFlags := 24, slot := 5, constantValue := 0 }, { name := "UTF16", type := .byte, accessFlags := 24, slot := 6, constantValue := 0 }]
  methods := #[k9m0, k9m1, k9m2, k9m3, k9m4, k9m5]
  instanceTypes := #[(.array .byte), .byte, .int, .boolean]
  staticTypes := #[.long, .boolean, (.array (.object "java/io/ObjectStreamField")), .char, (.object "java/util/Comparator"), .byte, .byte]
  resolved := Array.replicate 1451 none
  statics := some 1 }

def pool10 : Array CpInfo := pool [(1, .class_ 2), (0, u "java/lang/String"), (1, .class_ 6), (1, u "java/lang/Object"), (0, u "<init>"), (0, u "()V"), (0, .methodref 1 10), (0, .nameAndType 11 12), (0, u "checkIndex"), (0, u "(II)V"), (1, .class_ 16), (1, u "java/lang/StringLatin1"), (36, u "([BI)C"), (67, u "$assertionsDisabled"), (0, u "Z"), (98, .class_ 223), (1, u "java/lang/StringLatin1$LinesSpliterator"), (28, u "charAt"), (137, .class_ 391), (0, u "java/lang/StringLatin1$CharsSpliterator")] 3

def k10m0 : Method := { name := "<init>", desc := "()V", sig := { parameters := [], returnType := none }, accessFlags := 0, code := none }
def k10c1 : Code := { maxStack := 2, maxLocals := 2, code := jdk_43_method_2_code, exceptionTable := #[], attributes := #[] }
def k10m1 : Method := { name := "charAt", desc := "([BI)C", sig := { parameters := [(.array .byte), .int], returnType := some .char }, accessFlags := 9, code := some k10c1 }
/-- java/lang/StringLatin1 -/
def k10 : Class := { plain "java/lang/StringLatin1" (some 0) with
  accessFlags := 48
  interfaces := #[]
  cf := some (fileOf pool10 14 #[.nestMembers #[390, 221]] #[{ accessFlags := 0, nameIndex := 7, descriptorIndex := 8, attributes := #[] }, { accessFlags := 9, nameIndex := 252, descriptorIndex := 53, attributes := #[] }] 48 4 #[] #[{ accessFlags := 4120, nameIndex := 121, descriptorIndex := 122, attributes := #[] }])
  fields := #[{ name := "$assertionsDisabled", type := .boolean, accessFlags := 4120, slot := 0, constantValue := 0 }]
  methods := #[k10m0, k10m1]
  instanceTypes := #[]
  staticTypes := #[.boolean]
  resolved := Array.replicate 395 none
  statics := none }

def pool11 : Array CpInfo := pool [(2, .class_ 4), (1, u "java/lang/Object"), (0, u "<init>"), (0, u "()V"), (17, .class_ 26), (1, u "jdk/internal/util/Preconditions"), (6, u "checkIndex"), (21, .class_ 56), (0, u "jdk/internal/util/Preconditions$4"), (57, .class_ 115), (0, u "jdk/internal/util/Preconditions$1"), (7, u "SIOOBE_FORMATTER"), (0, u "Ljava/util/function/BiFunction;"), (0, .class_ 126), (0, u "jdk/internal/util/Preconditions$2"), (3, u "AIOOBE_FORMATTER"), (0, .class_ 132), (0, u "jdk/internal/util/Preconditions$3"), (3, u "IOOBE_FORMATTER"), (41, u "(IILjava/util/function/BiFunction;)I")] 15

def k11m0 : Method := { name := "<init>", desc := "()V", sig := { parameters := [], returnType := none }, accessFlags := 1, code := none }
def k11c1 : Code := { maxStack := 3, maxLocals := 3, code := jdk_41_method_11_code, exceptionTable := #[], attributes := #[] }
def k11m1 : Method := { name := "checkIndex", desc := "(IILjava/util/function/BiFunction;)I", sig := { parameters := [.int, .int, (.object "java/util/function/BiFunction")], returnType := some .int }, accessFlags := 9, code := some k11c1 }
/-- jdk/internal/util/Preconditions -/
def k11 : Class := { plain "jdk/internal/util/Preconditions" (some 0) with
  accessFlags := 33
  interfaces := #[]
  cf := some (fileOf pool11 24 #[.nestMembers #[55, 131, 125, 114]] #[{ accessFlags := 1, nameIndex := 5, descriptorIndex := 6, attributes := #[] }, { accessFlags := 9, nameIndex := 33, descriptorIndex := 178, attributes := #[] }] 33 2 #[] #[{ accessFlags := 25, nameIndex := 123, descriptorIndex := 124, attributes := #[] }, { accessFlags := 25, nameIndex := 130, descriptorIndex := 124, attributes := #[] }, { accessFlags := 25, nameIndex := 136, descriptorIndex := 124, attributes := #[] }])
  fields := #[{ name := "SIOOBE_FORMATTER", type := (.object "java/util/function/BiFunction"), accessFlags := 25, slot := 0, constantValue := 0 }, { name := "AIOOBE_FORMATTER", type := (.object "java/util/function/BiFunction"), accessFlags := 25, slot := 1, constantValue := 0 }, { name := "IOOBE_FORMATTER", type := (.object "java/util/function/BiFunction"), accessFlags := 25, slot := 2, constantValue := 0 }]
  methods := #[k11m0, k11m1]
  instanceTypes := #[]
  staticTypes := #[(.object "java/util/function/BiFunction"), (.object "java/util/function/BiFunction"), (.object "java/util/function/BiFunction")]
  resolved := Array.replicate 194 none
  statics := some 2 }

def pool12 : Array CpInfo := pool [(9, u "<init>"), (6, .class_ 18), (1, u "java/lang/Object"), (0, u "()V"), (1, .class_ 23), (1, u "jdk/internal/util/ArraysSupport"), (0, u "LOG2_ARRAY_LONG_INDEX_SCALE"), (0, u "I"), (2, u "U"), (0, u "Ljdk/internal/misc/Unsafe;"), (8, u "BIG_ENDIAN"), (0, u "Z"), (8, u "LOG2_BYTE_BIT_SIZE"), (4, u "LOG2_ARRAY_INT_INDEX_SCALE"), (54, u "JLA"), (0, u "Ljdk/internal/access/JavaLangAccess;"), (11, u "LOG2_ARRAY_BOOLEAN_INDEX_SCALE"), (9, u "LOG2_ARRAY_BYTE_INDEX_SCALE"), (5, u "LOG2_ARRAY_CHAR_INDEX_SCALE"), (5, u "LOG2_ARRAY_SHORT_INDEX_SCALE"), (18, u "LOG2_ARRAY_FLOAT_INDEX_SCALE"), (24, u "LOG2_ARRAY_DOUBLE_INDEX_SCALE"), (89, u "T_BOOLEAN"), (2, u "T_CHAR"), (1, u "T_FLOAT"), (1, u "T_DOUBLE"), (1, u "T_BYTE"), (1, u "T_SHORT"), (1, u "T_INT"), (1, u "T_LONG"), (1, u "SOFT_MAX_ARRAY_LENGTH")] 83

def k12m0 : Method := { name := "<init>", desc := "()V", sig := { parameters := [], returnType := none }, accessFlags := 2, code := none }
/-- jdk/internal/util/ArraysSupport -/
def k12 : Class := { plain "jdk/internal/util/ArraysSupport" (some 0) with
  accessFlags := 33
  interfaces := #[]
  cf := some (fileOf pool12 21 #[] #[{ accessFlags := 2, nameIndex := 9, descriptorIndex := 19, attributes := #[] }] 33 16 #[] #[{ accessFlags := 24, nameIndex := 28, descriptorIndex := 29, attributes := #[] }, { accessFlags := 26, nameIndex := 38, descriptorIndex := 39, attributes := #[] }, { accessFlags := 25, nameIndex := 121, descriptorIndex := 25, attributes := #[] }, { accessFlags := 25, nameIndex := 131, descriptorIndex := 25, attributes := #[] }, { accessFlags := 25, nameIndex := 137, descriptorIndex := 25, attributes := #[] }, { accessFlags := 25, nameIndex := 143, descriptorIndex := 25, attributes := #[] }, { accessFlags := 25, nameIndex := 53, descriptorIndex := 25, attributes := #[] }, { accessFlags := 25, nameIndex := 24, descriptorIndex := 25, attributes := #[] }, { accessFlags := 25, nameIndex := 162, descriptorIndex := 25, attributes := #[] }, { accessFlags := 25, nameIndex := 187, descriptorIndex := 25, attributes := #[] }, { accessFlags := 26, nameIndex := 48, descriptorIndex := 25, attributes := #[] }, { accessFlags := 25, nameIndex := 277, descriptorIndex := 25, attributes := #[] }, { accessFlags := 25, nameIndex := 280, descriptorIndex := 25, attributes := #[] }, { accessFlags := 25, nameIndex := 282, descriptorIndex := 25, attributes := #[] }, { accessFlags := 25, nameIndex := 284, descriptorIndex := 25, attributes := #[] }, { accessFlags := 25, nameIndex := 286, descriptorIndex := 25, attributes := #[] }, { accessFlags := 25, nameIndex := 288, descriptorIndex := 25, attributes := #[] }, { accessFlags := 25, nameIndex := 290, descriptorIndex := 25, attributes := #[] }, { accessFlags := 25, nameIndex := 292, descriptorIndex := 25, attributes := #[] }, { accessFlags := 26, nameIndex := 108, descriptorIndex := 109, attributes := #[] }, { accessFlags := 25, nameIndex := 294, descriptorIndex := 25, attributes := #[] }])
  fields := #[{ name := "U", type := (.object "jdk/internal/misc/Unsafe"), accessFlags := 24, slot := 0, constantValue := 0 }, { name := "BIG_ENDIAN", type := .boolean, accessFlags := 26, slot := 1, constantValue := 0 }, { name := "LOG2_ARRAY_BOOLEAN_INDEX_SCALE", type := .int, accessFlags := 25, slot := 2, constantValue := 0 }, { name := "LOG2_ARRAY_BYTE_INDEX_SCALE", type := .int, accessFlags := 25, slot := 3, constantValue := 0 }, { name := "LOG2_ARRAY_CHAR_INDEX_SCALE", type := .int, accessFlags := 25, slot := 4, constantValue := 0 }, { name := "LOG2_ARRAY_SHORT_INDEX_SCALE", type := .int, accessFlags := 25, slot := 5, constantValue := 0 }, { name := "LOG2_ARRAY_INT_INDEX_SCALE", type := .int, accessFlags := 25, slot := 6, constantValue := 0 }, { name := "LOG2_ARRAY_LONG_INDEX_SCALE", type := .int, accessFlags := 25, slot := 7, constantValue := 0 }, { name := "LOG2_ARRAY_FLOAT_INDEX_SCALE", type := .int, accessFlags := 25, slot := 8, constantValue := 0 }, { name := "LOG2_ARRAY_DOUBLE_INDEX_SCALE", type := .int, accessFlags := 25, slot := 9, constantValue := 0 }, { name := "LOG2_BYTE_BIT_SIZE", type := .int, accessFlags := 26, slot := 10, constantValue := 0 }, { name := "T_BOOLEAN", type := .int, accessFlags := 25, slot := 11, constantValue := 0 }, { name := "T_CHAR", type := .int, accessFlags := 25, slot := 12, constantValue := 0 }, { name := "T_FLOAT", type := .int, accessFlags := 25, slot := 13, constantValue := 0 }, { name := "T_DOUBLE", type := .int, accessFlags := 25, slot := 14, constantValue := 0 }, { name := "T_BYTE", type := .int, accessFlags := 25, slot := 15, constantValue := 0 }, { name := "T_SHORT", type := .int, accessFlags := 25, slot := 16, constantValue := 0 }, { name := "T_INT", type := .int, accessFlags := 25, slot := 17, constantValue := 0 }, { name := "T_LONG", type := .int, accessFlags := 25, slot := 18, constantValue := 0 }, { name := "JLA", type := (.object "jdk/internal/access/JavaLangAccess"), accessFlags := 26, slot := 19, constantValue := 0 }, { name := "SOFT_MAX_ARRAY_LENGTH", type := .int, accessFlags := 25, slot := 20, constantValue := 0 }]
  methods := #[k12m0]
  instanceTypes := #[]
  staticTypes := #[(.object "jdk/internal/misc/Unsafe"), .boolean, .int, .int, .int, .int, .int, .int, .int, .int, .int, .int, .int, .int, .int, .int, .int, .int, .int, (.object "jdk/internal/access/JavaLangAccess"), .int]
  resolved := Array.replicate 378 none
  statics := none }

def pool13 : Array CpInfo := pool [(1, u "java/lang/Cloneable"), (0, .class_ 1), (0, u "java/lang/Object"), (0, .class_ 3)] 3

/-- java/lang/Cloneable -/
def k13 : Class := { plain "java/lang/Cloneable" (some 0) with
  accessFlags := 1537
  interfaces := #[]
  cf := some (fileOf pool13 2 #[] #[] 1537 4 #[] #[])
  fields := #[]
  methods := #[]
  instanceTypes := #[]
  staticTypes := #[]
  resolved := Array.replicate 8 none
  statics := none }

/-- the primitive byte -/
def k14 : Class := { plain "byte" none with kind := .primitive 'B', accessFlags := 0x411 }
/-- [B -/
def k15 : Class := { plain "[B" (some 0) with kind := .array 14 .byte, interfaces := #[13, 4], accessFlags := 1041 }

/-- the primitive int -/
def k16 : Class := { plain "int" none with kind := .primitive 'I', accessFlags := 0x411 }
/-- [I -/
def k17 : Class := { plain "[I" (some 0) with kind := .array 16 .int, interfaces := #[13, 4], accessFlags := 1041 }

def heap : Heap := #[{ cls := 6, slots := #[.ref 11, .ref 12, .ref 13, .ref 14, .null], vm := .statics 6 },
  { cls := 9, slots := #[.long 0, .int 1, .null, .int 0, .null, .int 0, .int 0], vm := .statics 9 },
  { cls := 11, slots := #[.null, .null, .null], vm := .statics 11 },
  { cls := 15, slots := #[.int 43, .int 73], vm := .none },
  { cls := 15, slots := #[.int 45, .int 85], vm := .none },
  { cls := 15, slots := #[.int 43, .int 85], vm := .none },
  { cls := 15, slots := #[.int 45, .int 68], vm := .none },
  { cls := 9, slots := #[.ref 3, .int 0, .int 0, .int 0], vm := .none },
  { cls := 9, slots := #[.ref 4, .int 0, .int 0, .int 0], vm := .none },
  { cls := 9, slots := #[.ref 5, .int 0, .int 0, .int 0], vm := .none },
  { cls := 9, slots := #[.ref 6, .int 0, .int 0, .int 0], vm := .none },
  { cls := 6, slots := #[.null, .int 0, .int 0, .ref 7], vm := .none },
  { cls := 6, slots := #[.null, .int 1, .int 0, .ref 8], vm := .none },
  { cls := 6, slots := #[.null, .int 2, .int 0, .ref 9], vm := .none },
  { cls := 6, slots := #[.null, .int 3, .int 0, .ref 10], vm := .none }]
def classes : Array Class := #[k0, k1, k2, k3, k4, k5, k6, k7, k8, k9, k10, k11, k12, k13, k14, k15, k16, k17]
def interned : List (Array UInt16 × Addr) := []
def slotsUsed : Nat := 55
def theMethod : MethodId := ⟨1, 1⟩
def args0 : Array Value := #[.int 5]
def aboutOver (below : List Frame) : State where
  vm := { classes := classes, interned := interned.toArray }
  heap := heap
  slotsUsed := slotsUsed
  threads := #[{ frames := .invoking theMethod args0 :: below }]
def below0 : List Frame := [.native { method := ⟨0, 0⟩, args := #[] }]
def about1 : State := aboutOver below0
def p0 : Program := .bare "" "" ""
def e0 : Env := launch0.env 0 0 0
theorem w_frames : about1.frames = Frame.invoking theMethod args0 :: below0 := rfl
set_option maxRecDepth 65536 in
theorem w_args : argsFit about1.vm theMethod args0 = true := by decide +kernel
set_option maxRecDepth 65536 in
theorem w_heap : heapFits about1 = true := by decide +kernel
set_option maxRecDepth 65536 in
theorem w_runnable : about1.curStatus? = some .runnable := by decide +kernel
set_option maxRecDepth 65536 in
theorem w_alone : about1.alone = true := by decide +kernel
set_option maxRecDepth 65536 in
theorem w_named : about1.methodNamed? x = some theMethod := by decide +kernel
set_option maxRecDepth 65536 in
theorem w_hears : about1.hears theMethod below0 = true := by decide +kernel
set_option maxRecDepth 65536 in
theorem w_ripe : about1.ripe theMethod args0 below0 = true := by decide +kernel
theorem w_running : about1.status = .running := rfl
set_option maxRecDepth 65536 in
theorem w_room : about1.hasRoom e0.platform room_1 = true :=
  launch0.hasRoom_least _ room_1 (by decide +kernel) (by decide +kernel) (by decide +kernel) (by decide +kernel) (by decide +kernel) (by decide +kernel)
theorem allAtoms_all (ts : List Jvm.Cond) (a : Array Jvm.Value) (st : Jvm.State) : (allAtoms ts).before a st = ts.all (fun c => c.before a st) := by
  induction ts with
  | nil => rfl
  | cons c t ih =>
    show (Jvm.Cond.and c (allAtoms t)).before a st = _
    rw [Jvm.Cond.before_and, ih, List.all_cons]
def words1 : List Jvm.Cond := Jvm.Cond.code x code maxLocals ret :: tables_1
/-- a 'code' word, met by the world's own term for the bytes: nothing is compared byte by byte -/
theorem code_word {y : MethodName} {bytes : ByteArray} {mx : Nat} {rt : Option FieldType} {a : Array Value} {s : State} {m : MethodId} {meth : Method} {c : Code} (h1 : s.methodNamed? y = some m) (h2 : s.vm.method? m = some meth) (h3 : meth.code = some c) (h4 : c.code = bytes)
    (h5 : (c.maxLocals == mx && c.exceptionTable.isEmpty && decide (c.maxStack ≤ mostOperands) && decide (meth.sig.returnType = rt) && !meth.locks && decide (parseMethodDescriptor y.desc = some meth.sig)) = true) : (Jvm.Cond.code y bytes mx rt).before a s = true := by
  simp only [Bool.and_eq_true, beq_iff_eq, Bool.not_eq_true', decide_eq_true_eq] at h5
  obtain ⟨⟨⟨⟨⟨g1, g2⟩, g3⟩, g4⟩, g5⟩, g6⟩ := h5
  simp [Cond.before, Cond.holds, Cond.value, h1, h2, h3, h4, g1, g2, g3, g4, g5, g6]
def isCode : Jvm.Cond → Bool
  | .code _ _ _ _ => true
  | _ => false
theorem all_split {L : List Jvm.Cond} {P : Jvm.Cond → Bool} (h1 : L.all (fun c => isCode c || P c) = true) (h2 : ∀ c ∈ L.filter isCode, P c = true) : L.all P = true := by
  refine List.all_eq_true.mpr fun c hc => ?_
  have h := List.all_eq_true.mp h1 c hc
  rcases Bool.eq_false_or_eq_true (isCode c) with hi | hi
  · exact h2 c (List.mem_filter.mpr ⟨hc, hi⟩)
  · simpa [hi] using h
set_option maxRecDepth 65536 in
theorem w_c0 : (Jvm.Cond.code x code maxLocals ret).before args0 about1 = true := code_word (m := ⟨1, 1⟩) (meth := k1m1) (c := k1c1) (by decide +kernel) rfl rfl rfl (by decide +kernel)
set_option maxRecDepth 65536 in
theorem w_c1 : (Jvm.Cond.code ({ cls := "com/example/sluiceway/sluiceway/table/RowKind", name := "retracts", desc := "()Z" } : Jvm.MethodName) prog_138_method_5_code (1 : Nat) (Option.some Jvm.ClassFile.FieldType.boolean)).before args0 about1 = true := code_word (m := ⟨6, 1⟩) (meth := k6m1) (c := k6c1) (by decide +kernel) rfl rfl rfl (by decide +kernel)
set_option maxRecDepth 65536 in
theorem w_c2 : (Jvm.Cond.code ({ cls := "com/example/sluiceway/sluiceway/table/RowKind", name := "symbol", desc := "()Ljava/lang/String;" } : Jvm.MethodName) prog_138_method_4_code (1 : Nat) (Option.some (Jvm.ClassFile.FieldType.object "java/lang/String"))).before args0 about1 = true := code_word (m := ⟨6, 0⟩) (meth := k6m0) (c := k6c0) (by decide +kernel) rfl rfl rfl (by decide +kernel)
set_option maxRecDepth 65536 in
theorem w_c3 : (Jvm.Cond.code ({ cls := "java/lang/String", name := "length", desc := "()I" } : Jvm.MethodName) jdk_42_method_54_code (1 : Nat) (Option.some Jvm.ClassFile.FieldType.int)).before args0 about1 = true := code_word (m := ⟨9, 1⟩) (meth := k9m1) (c := k9c1) (by decide +kernel) rfl rfl rfl (by decide +kernel)
set_option maxRecDepth 65536 in
theorem w_c4 : (Jvm.Cond.code ({ cls := "java/lang/String", name := "coder", desc := "()B" } : Jvm.MethodName) jdk_42_method_152_code (1 : Nat) (Option.some Jvm.ClassFile.FieldType.byte)).before args0 about1 = true := code_word (m := ⟨9, 3⟩) (meth := k9m3) (c := k9c3) (by decide +kernel) rfl rfl rfl (by decide +kernel)
set_option maxRecDepth 65536 in
theorem w_c5 : (Jvm.Cond.code ({ cls := "java/lang/String", name := "charAt", desc := "(I)C" } : Jvm.MethodName) jdk_42_method_56_code (2 : Nat) (Option.some Jvm.ClassFile.FieldType.char)).before args0 about1 = true := code_word (m := ⟨9, 2⟩) (meth := k9m2) (c := k9c2) (by decide +kernel) rfl rfl rfl (by decide +kernel)
set_option maxRecDepth 65536 in
theorem w_c6 : (Jvm.Cond.code ({ cls := "java/lang/String", name := "isLatin1", desc := "()Z" } : Jvm.MethodName) jdk_42_method_154_code (1 : Nat) (Option.some Jvm.ClassFile.FieldType.boolean)).before args0 about1 = true := code_word (m := ⟨9, 4⟩) (meth := k9m4) (c := k9c4) (by decide +kernel) rfl rfl rfl (by decide +kernel)
set_option maxRecDepth 65536 in
theorem w_c7 : (Jvm.Cond.code ({ cls := "java/lang/StringLatin1", name := "charAt", desc := "([BI)C" } : Jvm.MethodName) jdk_43_method_2_code (2 : Nat) (Option.some Jvm.ClassFile.FieldType.char)).before args0 about1 = true := code_word (m := ⟨10, 1⟩) (meth := k10m1) (c := k10c1) (by decide +kernel) rfl rfl rfl (by decide +kernel)
set_option maxRecDepth 65536 in
theorem w_c8 : (Jvm.Cond.code ({ cls := "java/lang/String", name := "checkIndex", desc := "(II)V" } : Jvm.MethodName) jdk_42_method_155_code (2 : Nat) (Option.none : Option Jvm.ClassFile.FieldType)).before args0 about1 = true := code_word (m := ⟨9, 5⟩) (meth := k9m5) (c := k9c5) (by decide +kernel) rfl rfl rfl (by decide +kernel)
set_option maxRecDepth 65536 in
theorem w_c9 : (Jvm.Cond.code ({ cls := "jdk/internal/util/Preconditions", name := "checkIndex", desc := "(IILjava/util/function/BiFunction;)I" } : Jvm.MethodName) jdk_41_method_11_code (3 : Nat) (Option.some Jvm.ClassFile.FieldType.int)).before args0 about1 = true := code_word (m := ⟨11, 1⟩) (meth := k11m1) (c := k11c1) (by decide +kernel) rfl rfl rfl (by decide +kernel)
def codes1 : List Jvm.Cond := [Jvm.Cond.code x code maxLocals ret, Jvm.Cond.code ({ cls := "com/example/sluiceway/sluiceway/table/RowKind", name := "retracts", desc := "()Z" } : Jvm.MethodName) prog_138_method_5_code (1 : Nat) (Option.some Jvm.ClassFile.FieldType.boolean), Jvm.Cond.code ({ cls := "com/example/sluiceway/sluiceway/table/RowKind", name := "symbol", desc := "()Ljava/lang/String;" } : Jvm.MethodName) prog_138_method_4_code (1 : Nat) (Option.some (Jvm.ClassFile.FieldType.object "java/lang/String")), Jvm.Cond.code ({ cls := "java/lang/String", name := "length", desc := "()I" } : Jvm.MethodName) jdk_42_method_54_code (1 : Nat) (Option.some Jvm.ClassFile.FieldType.int), Jvm.Cond.code ({ cls := "java/lang/String", name := "coder", desc := "()B" } : Jvm.MethodName) jdk_42_method_152_code (1 : Nat) (Option.some Jvm.ClassFile.FieldType.byte), Jvm.Cond.code ({ cls := "java/lang/String", name := "charAt", desc := "(I)C" } : Jvm.MethodName) jdk_42_method_56_code (2 : Nat) (Option.some Jvm.ClassFile.FieldType.char), Jvm.Cond.code ({ cls := "java/lang/String", name := "isLatin1", desc := "()Z" } : Jvm.MethodName) jdk_42_method_154_code (1 : Nat) (Option.some Jvm.ClassFile.FieldType.boolean), Jvm.Cond.code ({ cls := "java/lang/StringLatin1", name := "charAt", desc := "([BI)C" } : Jvm.MethodName) jdk_43_method_2_code (2 : Nat) (Option.some Jvm.ClassFile.FieldType.char), Jvm.Cond.code ({ cls := "java/lang/String", name := "checkIndex", desc := "(II)V" } : Jvm.MethodName) jdk_42_method_155_code (2 : Nat) (Option.none : Option Jvm.ClassFile.FieldType), Jvm.Cond.code ({ cls := "jdk/internal/util/Preconditions", name := "checkIndex", desc := "(IILjava/util/function/BiFunction;)I" } : Jvm.MethodName) jdk_41_method_11_code (3 : Nat) (Option.some Jvm.ClassFile.FieldType.int)]
set_option maxRecDepth 65536 in
theorem codes_eq : words1.filter isCode = codes1 := rfl
theorem w_codes : ∀ c ∈ words1.filter isCode, c.before args0 about1 = true := by
  rw [codes_eq]
  intro c hc
  simp only [codes1, List.mem_cons, List.not_mem_nil, or_false] at hc
  rcases hc with rfl | rfl | rfl | rfl | rfl | rfl | rfl | rfl | rfl | rfl
  · exact w_c0
  · exact w_c1
  · exact w_c2
  · exact w_c3
  · exact w_c4
  · exact w_c5
  · exact w_c6
  · exact w_c7
  · exact w_c8
  · exact w_c9
set_option maxRecDepth 65536 in
theorem w_t1 : (words1.take 24).all (fun c => isCode c || c.before args0 about1) = true := by decide +kernel
set_option maxRecDepth 65536 in
theorem w_t2 : ((words1.drop 24).take 24).all (fun c => isCode c || c.before args0 about1) = true := by decide +kernel
set_option maxRecDepth 65536 in
theorem w_t3 : ((words1.drop 24).drop 24).all (fun c => isCode c || c.before args0 about1) = true := by decide +kernel
theorem w_tables : (allAtoms (Jvm.Cond.code x code maxLocals ret :: tables_1)).before args0 about1 = true := by
  rw [allAtoms_all]
  show words1.all (fun c => c.before args0 about1) = true
  refine all_split ?_ w_codes
  rw [← List.take_append_drop 24 words1, List.all_append, w_t1, ← List.take_append_drop 24 (words1.drop 24), List.all_append, w_t2, w_t3]
  rfl
set_option maxRecDepth 65536 in
theorem w_rest : rest_1_c.before args0 about1 = true := by decide +kernel
set_option maxRecDepth 65536 in
theorem w_case : (Jvm.Cond.and given_1 narrow_1).before args0 about1 = true := by decide +kernel
theorem w_applies : (headSpec (Jvm.Cond.code x code maxLocals ret :: tables_1) room_1).applies x e0.platform about1 = true :=
  (Spec.applies_iff w_frames).mpr ⟨w_running, w_runnable, w_alone, w_named, w_hears, w_ripe, w_room, w_tables⟩
theorem atStart : AtStart classFile x code maxLocals ret World_1 tables_1 room_1 Calls_1 rest_1 Pre_1 launch0 p0 e0 about1 theMethod args0 below0 :=
  ⟨lists_1, trivial, launch0.admits_env _ _ _, launch0.least_env, fairChoices_fair.cas, fairChoices_fair.clock, w_frames, w_args, w_heap, w_applies, trivial, w_rest, w_case⟩
end start1
theorem witness_1 : WitnessClaimed_1 := ⟨start1.p0, start1.e0, start1.about1, start1.theMethod, start1.args0, start1.below0, start1.atStart⟩
end Jvm.Pilot.@@N@@
