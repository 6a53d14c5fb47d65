import JvmDerived
import JvmDerived.Pilot.@@N@@Statement
import JvmDerived.Pilot.@@N@@Code
set_option linter.unusedVariables false
set_option linter.unusedSimpArgs false
namespace Jvm.RoadKit
open Sem ClassFile Op Lib Jvm.Stand Jvm.Free Jvm.LawKit
section New
variable {p : Program} {l : Launch} {e : Env} {R : Room} {s : State} {m : MethodId} {args : Array Value} {below : List Frame} {meth : Method} {c : Code} {T : State} {locs : List Loc} {cells slots : Nat}
theorem retI (X : Stand p l e R s m args below meth c T locs cells slots) (hx : p.tables.exec = Jvm.exec) {pc : Nat} {Ls : Array Slot} {z : Int32} {rest : List Value} (hret : meth.sig.returnType = some .int) (hd : decode c.code pc = .ok (.ireturn, 1)) {fs : List Frame}
    (hl : ∀ (f : JFrame) (acts : List Action), f.method = m → f.locked = none → f.entered = [] → (doReturn e (T.setTop f) acts (some (.int z))).1 = T.setFrames fs) : Steps p.tables e below (T.setTop (mkF m pc Ls (.int z :: rest))) (T.setFrames fs) := by
  have hm' : T.vm.method? m = some meth := X.method'
  have hn : narrow .int (.int z) = .int z := rfl
  show Steps p.tables e below (T.setTop { method := m, pc := pc, locals := Ls, stack := _ :: rest, locked := none }) _
  jvm_step X.here [X.here.top, hx, hd, hm', hret, hn]
  first | (intro acts; rw [hl _ acts rfl rfl rfl]) | rw [hl _ _ rfl rfl rfl]
  exact Steps.refl _
theorem retJ (X : Stand p l e R s m args below meth c T locs cells slots) (hx : p.tables.exec = Jvm.exec) {pc : Nat} {Ls : Array Slot} {z : Int64} {rest : List Value} (hret : meth.sig.returnType = some .long) (hd : decode c.code pc = .ok (.lreturn, 1)) {fs : List Frame}
    (hl : ∀ (f : JFrame) (acts : List Action), f.method = m → f.locked = none → f.entered = [] → (doReturn e (T.setTop f) acts (some (.long z))).1 = T.setFrames fs) : Steps p.tables e below (T.setTop (mkF m pc Ls (.long z :: rest))) (T.setFrames fs) := by
  have hm' : T.vm.method? m = some meth := X.method'
  have hn : narrow .long (.long z) = .long z := rfl
  show Steps p.tables e below (T.setTop { method := m, pc := pc, locals := Ls, stack := _ :: rest, locked := none }) _
  jvm_step X.here [X.here.top, hx, hd, hm', hret, hn]
  first | (intro acts; rw [hl _ acts rfl rfl rfl]) | rw [hl _ _ rfl rfl rfl]
  exact Steps.refl _
theorem retA (X : Stand p l e R s m args below meth c T locs cells slots) (hx : p.tables.exec = Jvm.exec) {pc : Nat} {Ls : Array Slot} {z : Value} {t : FieldType} {rest : List Value} (hret : meth.sig.returnType = some t) (ht : t.isReference = true) (hz : z.isRef = true) (hd : decode c.code pc = .ok (.areturn, 1)) {fs : List Frame}
    (hl : ∀ (f : JFrame) (acts : List Action), f.method = m → f.locked = none → f.entered = [] → (doReturn e (T.setTop f) acts (some z)).1 = T.setFrames fs) : Steps p.tables e below (T.setTop (mkF m pc Ls (z :: rest))) (T.setFrames fs) := by
  have hm' : T.vm.method? m = some meth := X.method'
  show Steps p.tables e below (T.setTop { method := m, pc := pc, locals := Ls, stack := _ :: rest, locked := none }) _
  jvm_step X.here [X.here.top, hx, hd, hm', hret, ht, hz]
  first | (intro acts; rw [hl _ acts rfl rfl rfl]) | rw [hl _ _ rfl rfl rfl]
  exact Steps.refl _
end New
end Jvm.RoadKit
@@BLOCK:NumsL.lean.txt@@
@@BLOCK:Masks.lean.txt@@
namespace Jvm.Pilot.@@N@@
open Jvm Jvm.ClassFile Sem Op Lib Jvm.Free Jvm.Stand Jvm.LawKit Jvm.RoadKit Bundle Jvm.Pilot.@@N@@.Jvm.D
/-- the run comes from st to an end of which F holds -/
abbrev Go (p : Program) (e : Env) (below : List Frame) (F : Outcome → State → Prop) (st : State) : Prop := ∃ t o, Steps p.tables e below st t ∧ t.status = .running ∧ Ended t below o ∧ F o t
theorem Go.st {p : Program} {e : Env} {below : List Frame} {F : Outcome → State → Prop} {a b : State} (h : ∀ t, Steps p.tables e below b t → Steps p.tables e below a t) (k : Go p e below F b) : Go p e below F a := by
  obtain ⟨t, o, h1, h2⟩ := k
  exact ⟨t, o, h t h1, h2⟩
/-- Java's x % y -/
abbrev jrem (x y : Int32) : Int32 := x - (x / y) * y
abbrev jremL (x y : Int64) : Int64 := x - (x / y) * y
theorem Go.cast {p : Program} {e : Env} {below : List Frame} {F : Outcome → State → Prop} {a b : State} (h : a = b) (k : Go p e below F b) : Go p e below F a := h ▸ k
theorem own_wS {Z : State} {a0 : Array Value} (hw : ∀ d ∈ tables_1, d.before a0 Z = true) : ∀ a ∈ Bundle.stringAtoms, a.before a0 Z = true := by
  intro a ha
  simp only [Bundle.stringAtoms, List.mem_cons, List.not_mem_nil, or_false] at ha
  rcases ha with rfl | rfl | rfl | rfl | rfl | rfl | rfl
  all_goals first | exact hw _ (List.mem_of_getElem? (i := 0) rfl) | exact hw _ (List.mem_of_getElem? (i := 1) rfl) | exact hw _ (List.mem_of_getElem? (i := 2) rfl) | exact hw _ (List.mem_of_getElem? (i := 3) rfl) | exact hw _ (List.mem_of_getElem? (i := 4) rfl) | exact hw _ (List.mem_of_getElem? (i := 5) rfl) | exact hw _ (List.mem_of_getElem? (i := 6) rfl) | exact hw _ (List.mem_of_getElem? (i := 7) rfl) | exact hw _ (List.mem_of_getElem? (i := 8) rfl) | exact hw _ (List.mem_of_getElem? (i := 9) rfl) | exact hw _ (List.mem_of_getElem? (i := 10) rfl) | exact hw _ (List.mem_of_getElem? (i := 11) rfl) | exact hw _ (List.mem_of_getElem? (i := 12) rfl) | exact hw _ (List.mem_of_getElem? (i := 13) rfl) | exact hw _ (List.mem_of_getElem? (i := 14) rfl) | exact hw _ (List.mem_of_getElem? (i := 15) rfl) | exact hw _ (List.mem_of_getElem? (i := 16) rfl) | exact hw _ (List.mem_of_getElem? (i := 17) rfl) | exact hw _ (List.mem_of_getElem? (i := 18) rfl) | exact hw _ (List.mem_of_getElem? (i := 19) rfl) | exact hw _ (List.mem_of_getElem? (i := 20) rfl) | exact hw _ (List.mem_of_getElem? (i := 21) rfl) | exact hw _ (List.mem_of_getElem? (i := 22) rfl) | exact hw _ (List.mem_of_getElem? (i := 23) rfl) | exact hw _ (List.mem_of_getElem? (i := 24) rfl) | exact hw _ (List.mem_of_getElem? (i := 25) rfl) | exact hw _ (List.mem_of_getElem? (i := 26) rfl) | exact hw _ (List.mem_of_getElem? (i := 27) rfl) | exact hw _ (List.mem_of_getElem? (i := 28) rfl) | exact hw _ (List.mem_of_getElem? (i := 29) rfl) | exact hw _ (List.mem_of_getElem? (i := 30) rfl) | exact hw _ (List.mem_of_getElem? (i := 31) rfl) | exact hw _ (List.mem_of_getElem? (i := 32) rfl) | exact hw _ (List.mem_of_getElem? (i := 33) rfl) | exact hw _ (List.mem_of_getElem? (i := 34) rfl) | exact hw _ (List.mem_of_getElem? (i := 35) rfl) | exact hw _ (List.mem_of_getElem? (i := 36) rfl) | exact hw _ (List.mem_of_getElem? (i := 37) rfl) | exact hw _ (List.mem_of_getElem? (i := 38) rfl) | exact hw _ (List.mem_of_getElem? (i := 39) rfl) | exact hw _ (List.mem_of_getElem? (i := 40) rfl) | exact hw _ (List.mem_of_getElem? (i := 41) rfl)

theorem own_lsw {tb : Tables} [Ours tb] {e : Env} {below : List Frame} {T target : State} {m : MethodId} {c : Code} {g : JFrame} (h : At T m c below) (hx : tb.exec = Jvm.exec) (hg : g.method = m) {dflt : Int} {prs : Array (Int × Int)} {len : Nat} {o : Int} {pc0 pc' : Nat} (hpc : g.pc = pc0) (hd : decode c.code g.pc = .ok (.lookupswitch dflt prs, len)) {i : Int32} {rest : List Value} (hs : g.stack = .int i :: rest)
    (hoff : lookupswitch.offset prs.toList dflt i.toInt = o) (ho : 0 ≤ (pc0 : Int) + o) (hp : ((pc0 : Int) + o).toNat = pc')
    (hso : ∀ (a b a_1 b_1 : Int), ((a, b), a_1, b_1) ∈ prs.toList.zip prs.toList.tail → a < a_1)
    (hr : Steps tb e below (T.setTop { g with pc := pc', stack := rest }) target) : Steps tb e below (T.setTop g) target := by
  subst hg hpc hp
  jvm_step h [h.top, hx, hd, hs, hoff, ho, lookupswitch.wp_chain]
  exact ⟨hso, hr⟩
theorem own_so : ∀ (a b a_1 b_1 : Int), ((a, b), a_1, b_1) ∈ (#[(34, 75), (36, 75), (64, 75), (92, 75), (96, 75), (110, 79), (114, 84), (116, 89)] : Array (Int × Int)).toList.zip (#[(34, 75), (36, 75), (64, 75), (92, 75), (96, 75), (110, 79), (114, 84), (116, 89)] : Array (Int × Int)).toList.tail → a < a_1 := by
  intro a b a_1 b_1 h
  simp at h
  omega
theorem own_nk {p k : Int32} {z : Int} (h : ¬ p = k) (hk : k.toInt = z) : ¬ z = p.toInt := fun e => h (Int32.toInt_inj.mp (e.symm.trans hk.symm))

theorem d2_0 : decode jdk_42_method_154_code 0 = .ok (.getstatic 38, 3) := by decide +kernel
theorem d2_3 : decode jdk_42_method_154_code 3 = .ok (.ifCond .eq 14, 3) := by decide +kernel
theorem d2_6 : decode jdk_42_method_154_code 6 = .ok (.aload_n 0, 1) := by decide +kernel
theorem d2_7 : decode jdk_42_method_154_code 7 = .ok (.getfield 15, 3) := by decide +kernel
theorem d2_10 : decode jdk_42_method_154_code 10 = .ok (.ifCond .ne 7, 3) := by decide +kernel
theorem d2_13 : decode jdk_42_method_154_code 13 = .ok (.iconst 1, 1) := by decide +kernel
theorem d2_14 : decode jdk_42_method_154_code 14 = .ok (.goto 4, 3) := by decide +kernel
theorem d2_18 : decode jdk_42_method_154_code 18 = .ok (.ireturn, 1) := by decide +kernel
theorem pn_2 : plainName "java/lang/String" = true := by first | (simp [plainName, overriddenIn]; done) | decide +kernel
theorem ef_rmLatin (m : MethodId) (a0 : Addr) : entryFrame m #[(.ref a0)] 1 = mkF m 0 #[.val (.ref a0)] [] := by first | (simp [entryFrame, mkF, argsToLocals, Value.category]; done) | rfl
def jLatin (co : Int32) : Int32 := (1 : Int32)
def Q_rmLatin (Z : State) (a0 : Addr) (co : Int32) (cs : Int32) (h0 : Heap) (n0 : Nat) (v : Option Value) (h : Heap) (L : List Loc) : Prop := v = some (.int (jLatin co)) ∧ Fr n0 L ∧ h = h0
abbrev F_rmLatin (Z : State) (a0 : Addr) (co : Int32) (cs : Int32) (h0 : Heap) (n0 : Nat) (s : State) (o : Outcome) (U : State) : Prop := ∃ v L, o = .returned v ∧ Q_rmLatin Z a0 co cs h0 n0 v U.heap L ∧ FrameEnd s o U L 0 0
set_option maxRecDepth 65536 in
set_option maxHeartbeats 40000000 in
theorem rmLatin (l : Launch) (Z : State) (aZ : Array Value) (hw : ∀ d ∈ tables_1, d.before aZ Z = true) (ws : List Jvm.Cond) (a0 : Addr) (co : Int32) (cs : Int32) (h0 : Heap) (n0 : Nat) (hcs : ¬ cs = 0) (hco : co = 0) (F_co : Fld Z h0 a0 "java/lang/String" "coder" "B" (.int co)) (S_cs : Sta Z h0 "java/lang/String" "COMPACT_STRINGS" "Z" (.int cs)) :
    MetFree l (⟨"java/lang/String", "isLatin1", "()Z"⟩ : MethodName) (head1 (Jvm.Cond.code (⟨"java/lang/String", "isLatin1", "()Z"⟩ : MethodName) jdk_42_method_154_code 1 (some .boolean) :: ws) ({ frames := 0, cells := 0, slots := 0, locals := 0 } : Room)) (fun a U => a = #[(.ref a0)] ∧ Z.Warmed39 U.vm ∧ U.heap = h0) (fun _ _ _ _ _ => True) (fun _ U o U' => ∃ v L, o = .returned v ∧ Q_rmLatin Z a0 co cs h0 n0 v U'.heap L ∧ FrameEnd U o U' L 0 0) := by
  refine MetFree.of_bodySF (plainFor_of_name pn_2) hisR ?_
  intro p e s m args below meth c s₁ Bd hml0 hP hK
  obtain ⟨rfl, hZ, hh⟩ := hP
  have hx := Bd.exec
  have hby := Bd.bytes
  have hml : c.maxLocals = 1 := hml0
  have hown : s.vm.findClass "java/lang/String" = some m.cls := findClass_of_methodNamed Bd.named
  have hnm := (name_of_methodNamed Bd.named Bd.method).1
  have X0 : Stand p l e ({ frames := 0, cells := 0, slots := 0, locals := 0 } : Room) s m #[(.ref a0)] below meth c s₁ [] 0 0 := Stand.of_body Bd
  have e0 : s₁.heap = h0 := by rw [← hh, Bd.state]; rfl
  have N0 := Fr.nil n0
  refine Go.st (fun _ k => castTop (ef_rmLatin m a0) k) ?_
  show Go p e below _ (s₁.setTop (mkF m 0 #[.val (.ref a0)] []))
  obtain ⟨T1, X1, e1, st1⟩ := getS2 X0 hx hZ hown (host := "") (Or.inl (hw _ (List.mem_of_getElem? (i := 19) rfl))) Via.refl e0 S_cs (g := (mkF m 0 #[.val (.ref a0)] [])) rfl (hb hby d2_0)
  refine Go.st (fun _ k => st1 _ k) ?_
  show Go p e below _ (T1.setTop (mkF m 3 #[.val (.ref a0)] [(.int cs)]))
  refine Go.st (fun _ k => XS.ifNo X1.here hx rfl (hb hby d2_3) rfl ((if0 _ _).trans (feq hcs).1) k) ?_
  show Go p e below _ (T1.setTop (mkF m 6 #[.val (.ref a0)] []))
  refine Go.st (fun _ k => XS.aloadN X1.here hx rfl (hb hby d2_6) rfl rfl k) ?_
  obtain ⟨T2, X2, e2, st2⟩ := getF X1 hx hZ hown (host := "") (Or.inl (hw _ (List.mem_of_getElem? (i := 20) rfl))) Via.refl e1 F_co (g := (mkF m 7 #[.val (.ref a0)] [(.ref a0)])) rfl rfl (hb hby d2_7)
  refine Go.st (fun _ k => st2 _ k) ?_
  show Go p e below _ (T2.setTop (mkF m 10 #[.val (.ref a0)] [(.int co)]))
  refine Go.st (fun _ k => XS.ifNo X2.here hx rfl (hb hby d2_10) rfl ((if0 _ _).trans (teq hco).2) k) ?_
  show Go p e below _ (T2.setTop (mkF m 13 #[.val (.ref a0)] []))
  refine Go.st (fun _ k => XS.iconst X2.here hx rfl (hb hby d2_13) k) ?_
  refine Go.st (fun _ k => XS.goto X2.here hx rfl (pc0 := 14) (pc' := 18) rfl (hb hby d2_14) (by decide) (by decide) k) ?_
  show Go p e below _ (T2.setTop (mkF m 18 #[.val (.ref a0)] [(.int (1 : Int32))]))
  obtain ⟨fs, hr, hrun, hended, hW, hsame⟩ := X2.leave (v := some (.int (1 : Int32))) (fun h => by rw [Bd.returns] at h; cases h)
  refine ⟨_, _, retN X2 hx (t := .boolean) Bd.returns (by simp) (hb hby d2_18) hr, hrun, hended, _, _, rfl, ?_, ⟨_, rfl⟩, hW, hsame.mono (by decide) (by decide)⟩
  show Q_rmLatin Z a0 co cs h0 n0 _ T2.heap _
  rw [e2]
  refine ⟨?_, N0, rfl⟩
  unfold jLatin
  rfl
theorem d5_0 : decode jdk_41_method_11_code 0 = .ok (.iload_n 0, 1) := by decide +kernel
theorem d5_1 : decode jdk_41_method_11_code 1 = .ok (.ifCond .lt 8, 3) := by decide +kernel
theorem d5_4 : decode jdk_41_method_11_code 4 = .ok (.iload_n 0, 1) := by decide +kernel
theorem d5_5 : decode jdk_41_method_11_code 5 = .ok (.iload_n 1, 1) := by decide +kernel
theorem d5_6 : decode jdk_41_method_11_code 6 = .ok (.if_icmp .lt 10, 3) := by decide +kernel
theorem d5_16 : decode jdk_41_method_11_code 16 = .ok (.iload_n 0, 1) := by decide +kernel
theorem d5_17 : decode jdk_41_method_11_code 17 = .ok (.ireturn, 1) := by decide +kernel
theorem pn_5 : plainName "jdk/internal/util/Preconditions" = true := by first | (simp [plainName, overriddenIn]; done) | decide +kernel
theorem ef_rmPre (m : MethodId) (p0 : Int32) (p1 : Int32) (vf : Value) (hvf : vf.isRef = true) : entryFrame m #[(.int p0), (.int p1), vf] 3 = mkF m 0 #[.val (.int p0), .val (.int p1), .val vf] [] := by cases vf <;> simp [Value.isRef] at hvf <;> first | (simp [entryFrame, mkF, argsToLocals, Value.category]; done) | rfl
def jPre (p0 : Int32) (p1 : Int32) : Int32 := p0
def Q_rmPre (Z : State) (p0 : Int32) (p1 : Int32) (vf : Value) (h0 : Heap) (n0 : Nat) (v : Option Value) (h : Heap) (L : List Loc) : Prop := v = some (.int (jPre p0 p1)) ∧ Fr n0 L ∧ h = h0
abbrev F_rmPre (Z : State) (p0 : Int32) (p1 : Int32) (vf : Value) (h0 : Heap) (n0 : Nat) (s : State) (o : Outcome) (U : State) : Prop := ∃ v L, o = .returned v ∧ Q_rmPre Z p0 p1 vf h0 n0 v U.heap L ∧ FrameEnd s o U L 0 0
set_option maxRecDepth 65536 in
set_option maxHeartbeats 40000000 in
theorem rmPre (l : Launch) (Z : State) (aZ : Array Value) (hw : ∀ d ∈ tables_1, d.before aZ Z = true) (ws : List Jvm.Cond) (p0 : Int32) (p1 : Int32) (vf : Value) (h0 : Heap) (n0 : Nat) (hvf : vf.isRef = true) (hi : ¬ p0 < 0 ∧ p0 < p1) :
    MetFree l (⟨"jdk/internal/util/Preconditions", "checkIndex", "(IILjava/util/function/BiFunction;)I"⟩ : MethodName) (head1 (Jvm.Cond.code (⟨"jdk/internal/util/Preconditions", "checkIndex", "(IILjava/util/function/BiFunction;)I"⟩ : MethodName) jdk_41_method_11_code 3 (some .int) :: ws) ({ frames := 0, cells := 0, slots := 0, locals := 0 } : Room)) (fun a U => a = #[(.int p0), (.int p1), vf] ∧ Z.Warmed39 U.vm ∧ U.heap = h0) (fun _ _ _ _ _ => True) (fun _ U o U' => ∃ v L, o = .returned v ∧ Q_rmPre Z p0 p1 vf h0 n0 v U'.heap L ∧ FrameEnd U o U' L 0 0) := by
  refine MetFree.of_bodySF (plainFor_of_name pn_5) hisR ?_
  intro p e s m args below meth c s₁ Bd hml0 hP hK
  obtain ⟨rfl, hZ, hh⟩ := hP
  have hx := Bd.exec
  have hby := Bd.bytes
  have hml : c.maxLocals = 3 := hml0
  have hown : s.vm.findClass "jdk/internal/util/Preconditions" = some m.cls := findClass_of_methodNamed Bd.named
  have hnm := (name_of_methodNamed Bd.named Bd.method).1
  have X0 : Stand p l e ({ frames := 0, cells := 0, slots := 0, locals := 0 } : Room) s m #[(.int p0), (.int p1), vf] below meth c s₁ [] 0 0 := Stand.of_body Bd
  have e0 : s₁.heap = h0 := by rw [← hh, Bd.state]; rfl
  have N0 := Fr.nil n0
  refine Go.st (fun _ k => castTop (ef_rmPre m p0 p1 vf hvf) k) ?_
  show Go p e below _ (s₁.setTop (mkF m 0 #[.val (.int p0), .val (.int p1), .val vf] []))
  refine Go.st (fun _ k => XS.iloadN X0.here hx rfl (hb hby d5_0) rfl k) ?_
  refine Go.st (fun _ k => XS.ifNo X0.here hx rfl (hb hby d5_1) rfl ((if0 _ _).trans (flt hi.1).1) k) ?_
  show Go p e below _ (s₁.setTop (mkF m 4 #[.val (.int p0), .val (.int p1), .val vf] []))
  refine Go.st (fun _ k => XS.iloadN X0.here hx rfl (hb hby d5_4) rfl k) ?_
  refine Go.st (fun _ k => XS.iloadN X0.here hx rfl (hb hby d5_5) rfl k) ?_
  refine Go.st (fun _ k => XS.icmpYes X0.here hx rfl (pc0 := 6) (pc' := 16) rfl (hb hby d5_6) rfl (tlt hi.2).1 (by decide) (by decide) k) ?_
  show Go p e below _ (s₁.setTop (mkF m 16 #[.val (.int p0), .val (.int p1), .val vf] []))
  refine Go.st (fun _ k => XS.iloadN X0.here hx rfl (hb hby d5_16) rfl k) ?_
  obtain ⟨fs, hr, hrun, hended, hW, hsame⟩ := X0.leave (v := some (.int p0)) (fun h => by rw [Bd.returns] at h; cases h)
  refine ⟨_, _, retI X0 hx Bd.returns (hb hby d5_17) hr, hrun, hended, _, _, rfl, ?_, ⟨_, rfl⟩, hW, hsame.mono (by decide) (by decide)⟩
  show Q_rmPre Z p0 p1 vf h0 n0 _ s₁.heap _
  rw [e0]
  refine ⟨?_, N0, rfl⟩
  unfold jPre
  rfl
theorem d4_0 : decode jdk_42_method_155_code 0 = .ok (.iload_n 0, 1) := by decide +kernel
theorem d4_1 : decode jdk_42_method_155_code 1 = .ok (.iload_n 1, 1) := by decide +kernel
theorem d4_2 : decode jdk_42_method_155_code 2 = .ok (.getstatic 1053, 3) := by decide +kernel
theorem d4_5 : decode jdk_42_method_155_code 5 = .ok (.invokestatic 1059, 3) := by decide +kernel
theorem d4_8 : decode jdk_42_method_155_code 8 = .ok (.pop, 1) := by decide +kernel
theorem d4_9 : decode jdk_42_method_155_code 9 = .ok (.return_, 1) := by decide +kernel
theorem pn_4 : plainName "java/lang/String" = true := by first | (simp [plainName, overriddenIn]; done) | decide +kernel
theorem pd5443ac75 : parseMethodDescriptor "(IILjava/util/function/BiFunction;)I" = some ⟨[.int, .int, (.object "java/util/function/BiFunction")], some .int⟩ := by decide +kernel
theorem ef_rmChk (m : MethodId) (p0 : Int32) (p1 : Int32) : entryFrame m #[(.int p0), (.int p1)] 2 = mkF m 0 #[.val (.int p0), .val (.int p1)] [] := by first | (simp [entryFrame, mkF, argsToLocals, Value.category]; done) | rfl
def Q_rmChk (Z : State) (p0 : Int32) (p1 : Int32) (vf : Value) (h0 : Heap) (n0 : Nat) (v : Option Value) (h : Heap) (L : List Loc) : Prop := v = none ∧ Fr n0 L ∧ h = h0
abbrev F_rmChk (Z : State) (p0 : Int32) (p1 : Int32) (vf : Value) (h0 : Heap) (n0 : Nat) (s : State) (o : Outcome) (U : State) : Prop := ∃ v L, o = .returned v ∧ Q_rmChk Z p0 p1 vf h0 n0 v U.heap L ∧ FrameEnd s o U L 0 0
set_option maxRecDepth 65536 in
set_option maxHeartbeats 40000000 in
theorem rmChk (l : Launch) (Z : State) (aZ : Array Value) (hw : ∀ d ∈ tables_1, d.before aZ Z = true) (ws : List Jvm.Cond) (p0 : Int32) (p1 : Int32) (vf : Value) (h0 : Heap) (n0 : Nat) (hvf : vf.isRef = true) (hi : ¬ p0 < 0 ∧ p0 < p1) (S_vf : Sta Z h0 "jdk/internal/util/Preconditions" "SIOOBE_FORMATTER" "Ljava/util/function/BiFunction;" vf) :
    MetFree l (⟨"java/lang/String", "checkIndex", "(II)V"⟩ : MethodName) (head1 (Jvm.Cond.code (⟨"java/lang/String", "checkIndex", "(II)V"⟩ : MethodName) jdk_42_method_155_code 2 none :: ws) ({ frames := 1, cells := 0, slots := 0, locals := 14 } : Room)) (fun a U => a = #[(.int p0), (.int p1)] ∧ Z.Warmed39 U.vm ∧ U.heap = h0) (fun _ _ _ _ _ => True) (fun _ U o U' => ∃ v L, o = .returned v ∧ Q_rmChk Z p0 p1 vf h0 n0 v U'.heap L ∧ FrameEnd U o U' L 0 0) := by
  refine MetFree.of_bodySF (plainFor_of_name pn_4) hisR ?_
  intro p e s m args below meth c s₁ Bd hml0 hP hK
  obtain ⟨rfl, hZ, hh⟩ := hP
  have hx := Bd.exec
  have hby := Bd.bytes
  have hml : c.maxLocals = 2 := hml0
  have hown : s.vm.findClass "java/lang/String" = some m.cls := findClass_of_methodNamed Bd.named
  have hnm := (name_of_methodNamed Bd.named Bd.method).1
  have X0 : Stand p l e ({ frames := 1, cells := 0, slots := 0, locals := 14 } : Room) s m #[(.int p0), (.int p1)] below meth c s₁ [] 0 0 := Stand.of_body Bd
  have e0 : s₁.heap = h0 := by rw [← hh, Bd.state]; rfl
  have N0 := Fr.nil n0
  refine Go.st (fun _ k => castTop (ef_rmChk m p0 p1) k) ?_
  show Go p e below _ (s₁.setTop (mkF m 0 #[.val (.int p0), .val (.int p1)] []))
  refine Go.st (fun _ k => XS.iloadN X0.here hx rfl (hb hby d4_0) rfl k) ?_
  refine Go.st (fun _ k => XS.iloadN X0.here hx rfl (hb hby d4_1) rfl k) ?_
  obtain ⟨T1, X1, e1, st1⟩ := getS2 X0 hx hZ hown (host := "") (Or.inl (hw _ (List.mem_of_getElem? (i := 29) rfl))) Via.refl e0 S_vf (g := (mkF m 2 #[.val (.int p0), .val (.int p1)] [(.int p1), (.int p0)])) rfl (hb hby d4_2)
  refine Go.st (fun _ k => st1 _ k) ?_
  show Go p e below _ (T1.setTop (mkF m 5 #[.val (.int p0), .val (.int p1)] [vf, (.int p1), (.int p0)]))
  obtain ⟨_, _, ⟨T2, L2, k2, n2⟩, -, X2, ⟨Lc2, hQ2, l2, y2, z2⟩, st2⟩ := Jvm.LawKit.callS X1 hx (y := (⟨"jdk/internal/util/Preconditions", "checkIndex", "(IILjava/util/function/BiFunction;)I"⟩ : MethodName)) hown (mvT hZ (hw _ (List.mem_of_getElem? (i := 31) rfl))) (mvT hZ (hw _ (List.mem_of_getElem? (i := 32) rfl))) (mvT hZ (hw _ (List.mem_of_getElem? (i := 30) rfl))) (mvT hZ (hw _ (List.mem_of_getElem? (i := 33) rfl))) (by decide) (backOf (W := 0) (rmPre l Z aZ hw [] p0 p1 vf h0 n0 hvf hi) hZ (hw _ (List.mem_of_getElem? (i := 33) rfl)) (hw _ (List.mem_of_getElem? (i := 30) rfl)) (by decide) (by decide)) (g := (mkF m 5 #[.val (.int p0), .val (.int p1)] [vf, (.int p1), (.int p0)])) rfl (by rw [hml]; rfl) (argsL := [(.int p0), (.int p1), vf]) (rest := []) (lenOf pd5443ac75 rfl) rfl (by show 2 * 0 + _ ≤ _; exact Nat.le_of_eq rfl) (hb hby d4_5) (fun _ _ => ⟨rfl, e1, (by decide : 0 + 0 ≤ _), (by decide : 0 + 0 ≤ _)⟩)
  dsimp only [Pt.U, Pt.locs, Pt.cells, Pt.slots] at X2 l2 y2 z2 st2 hQ2
  subst l2 y2 z2
  obtain ⟨rfl, N2q, e2⟩ := hQ2
  have N2 := Fr.app N0 N2q
  refine Go.st (fun _ k => st2 _ k) ?_
  show Go p e below _ (T2.setTop (mkF m 8 #[.val (.int p0), .val (.int p1)] [(.int (jPre p0 p1))]))
  refine Go.st (fun _ k => XS.pop X2.here hx rfl (hb hby d4_8) rfl rfl k) ?_
  show Go p e below _ (T2.setTop (mkF m 9 #[.val (.int p0), .val (.int p1)] []))
  obtain ⟨fs, hr, hrun, hended, hW, hsame⟩ := X2.leave (v := none) (fun _ => rfl)
  refine ⟨_, _, X2.returnOut hx Bd.returns (hb hby d4_9) hr, hrun, hended, _, _, rfl, ?_, ⟨_, rfl⟩, hW, hsame.mono (by decide) (by decide)⟩
  show Q_rmChk Z p0 p1 vf h0 n0 _ T2.heap _
  rw [e2]
  refine ⟨?_, N2, rfl⟩
  rfl
theorem d3_0 : decode jdk_43_method_2_code 0 = .ok (.iload_n 1, 1) := by decide +kernel
theorem d3_1 : decode jdk_43_method_2_code 1 = .ok (.aload_n 0, 1) := by decide +kernel
theorem d3_2 : decode jdk_43_method_2_code 2 = .ok (.arraylength, 1) := by decide +kernel
theorem d3_3 : decode jdk_43_method_2_code 3 = .ok (.invokestatic 9, 3) := by decide +kernel
theorem d3_6 : decode jdk_43_method_2_code 6 = .ok (.aload_n 0, 1) := by decide +kernel
theorem d3_7 : decode jdk_43_method_2_code 7 = .ok (.iload_n 1, 1) := by decide +kernel
theorem d3_8 : decode jdk_43_method_2_code 8 = .ok (.baload, 1) := by decide +kernel
theorem d3_9 : decode jdk_43_method_2_code 9 = .ok (.sipush 255, 3) := by decide +kernel
theorem d3_12 : decode jdk_43_method_2_code 12 = .ok (.iand, 1) := by decide +kernel
theorem d3_13 : decode jdk_43_method_2_code 13 = .ok (.i2c, 1) := by decide +kernel
theorem d3_14 : decode jdk_43_method_2_code 14 = .ok (.ireturn, 1) := by decide +kernel
theorem pn_3 : plainName "java/lang/StringLatin1" = true := by first | (simp [plainName, overriddenIn]; done) | decide +kernel
theorem pdc7ffd0bd : parseMethodDescriptor "(II)V" = some ⟨[.int, .int], none⟩ := by decide +kernel
theorem ef_rmL1 (m : MethodId) (a0 : Addr) (p1 : Int32) : entryFrame m #[(.ref a0), (.int p1)] 2 = mkF m 0 #[.val (.ref a0), .val (.int p1)] [] := by first | (simp [entryFrame, mkF, argsToLocals, Value.category]; done) | rfl
def jByte (x : Int32) : Int32 := (nar .char ((x &&& (255 : Int32)).toUInt32.toUInt16.toUInt32.toInt32))
def Q_rmL1 (Z : State) (x : Int32) (a0 : Addr) (p1 : Int32) (vf : Value) (kk : ClassId) (z : Int32) (vs : List Value) (h0 : Heap) (n0 : Nat) (v : Option Value) (h : Heap) (L : List Loc) : Prop := v = some (.int (jByte x)) ∧ Fr n0 L ∧ h = h0
abbrev F_rmL1 (Z : State) (x : Int32) (a0 : Addr) (p1 : Int32) (vf : Value) (kk : ClassId) (z : Int32) (vs : List Value) (h0 : Heap) (n0 : Nat) (s : State) (o : Outcome) (U : State) : Prop := ∃ v L, o = .returned v ∧ Q_rmL1 Z x a0 p1 vf kk z vs h0 n0 v U.heap L ∧ FrameEnd s o U L 0 0
set_option maxRecDepth 65536 in
set_option maxHeartbeats 40000000 in
theorem rmL1 (l : Launch) (Z : State) (aZ : Array Value) (hw : ∀ d ∈ tables_1, d.before aZ Z = true) (ws : List Jvm.Cond) (x : Int32) (a0 : Addr) (p1 : Int32) (vf : Value) (kk : ClassId) (z : Int32) (vs : List Value) (h0 : Heap) (n0 : Nat) (hvf : vf.isRef = true) (hi : ¬ p1 < 0 ∧ p1 < z) (hx0 : vs.getD p1.toNatClampNeg (.int (0 : Int32)) = .int x) (S_vf : Sta Z h0 "jdk/internal/util/Preconditions" "SIOOBE_FORMATTER" "Ljava/util/function/BiFunction;" vf) (V_kk : Arv Z h0 a0 kk .byte z vs (.int (0 : Int32))) :
    MetFree l (⟨"java/lang/StringLatin1", "charAt", "([BI)C"⟩ : MethodName) (head1 (Jvm.Cond.code (⟨"java/lang/StringLatin1", "charAt", "([BI)C"⟩ : MethodName) jdk_43_method_2_code 2 (some .char) :: ws) ({ frames := 2, cells := 0, slots := 0, locals := 27 } : Room)) (fun a U => a = #[(.ref a0), (.int p1)] ∧ Z.Warmed39 U.vm ∧ U.heap = h0) (fun _ _ _ _ _ => True) (fun _ U o U' => ∃ v L, o = .returned v ∧ Q_rmL1 Z x a0 p1 vf kk z vs h0 n0 v U'.heap L ∧ FrameEnd U o U' L 0 0) := by
  refine MetFree.of_bodySF (plainFor_of_name pn_3) hisR ?_
  intro p e s m args below meth c s₁ Bd hml0 hP hK
  obtain ⟨rfl, hZ, hh⟩ := hP
  have hx := Bd.exec
  have hby := Bd.bytes
  have hml : c.maxLocals = 2 := hml0
  have hown : s.vm.findClass "java/lang/StringLatin1" = some m.cls := findClass_of_methodNamed Bd.named
  have hnm := (name_of_methodNamed Bd.named Bd.method).1
  have X0 : Stand p l e ({ frames := 2, cells := 0, slots := 0, locals := 27 } : Room) s m #[(.ref a0), (.int p1)] below meth c s₁ [] 0 0 := Stand.of_body Bd
  have e0 : s₁.heap = h0 := by rw [← hh, Bd.state]; rfl
  have N0 := Fr.nil n0
  refine Go.st (fun _ k => castTop (ef_rmL1 m a0 p1) k) ?_
  show Go p e below _ (s₁.setTop (mkF m 0 #[.val (.ref a0), .val (.int p1)] []))
  refine Go.st (fun _ k => XS.iloadN X0.here hx rfl (hb hby d3_0) rfl k) ?_
  refine Go.st (fun _ k => XS.aloadN X0.here hx rfl (hb hby d3_1) rfl rfl k) ?_
  obtain ⟨cl1, Ar1, ck1, Sz1, Nn1, Hs1, Gs1⟩ := id V_kk
  refine Go.st (fun _ k => X0.arraylength hx (by rw [e0]; exact Ar1.1) (State.isArrayOf_alike hZ.alike Ar1.2.1) (g := (mkF m 2 #[.val (.ref a0), .val (.int p1)] [(.ref a0), (.int p1)])) rfl rfl (hb hby d3_2) _ k) ?_
  rw [len_of Sz1 Nn1]
  show Go p e below _ (s₁.setTop (mkF m 3 #[.val (.ref a0), .val (.int p1)] [(.int z), (.int p1)]))
  obtain ⟨_, _, ⟨T2, L2, k2, n2⟩, -, X2, ⟨Lc2, hQ2, l2, y2, z2⟩, st2⟩ := Jvm.LawKit.callS X0 hx (y := (⟨"java/lang/String", "checkIndex", "(II)V"⟩ : MethodName)) hown (mvT hZ (hw _ (List.mem_of_getElem? (i := 26) rfl))) (mvT hZ (hw _ (List.mem_of_getElem? (i := 27) rfl))) (mvT hZ (hw _ (List.mem_of_getElem? (i := 1) rfl))) (mvT hZ (hw _ (List.mem_of_getElem? (i := 28) rfl))) (by decide) (backOf (W := 0) (rmChk l Z aZ hw [] p1 z vf h0 n0 hvf hi S_vf) hZ (hw _ (List.mem_of_getElem? (i := 28) rfl)) (hw _ (List.mem_of_getElem? (i := 1) rfl)) (by decide) (by decide)) (g := (mkF m 3 #[.val (.ref a0), .val (.int p1)] [(.int z), (.int p1)])) rfl (by rw [hml]; rfl) (argsL := [(.int p1), (.int z)]) (rest := []) (lenOf pdc7ffd0bd rfl) rfl (by show 2 * 0 + _ ≤ _; exact Nat.le_of_eq rfl) (hb hby d3_3) (fun _ _ => ⟨rfl, e0, (by decide : 0 + 0 ≤ _), (by decide : 0 + 0 ≤ _)⟩)
  dsimp only [Pt.U, Pt.locs, Pt.cells, Pt.slots] at X2 l2 y2 z2 st2 hQ2
  subst l2 y2 z2
  obtain ⟨rfl, N2q, e2⟩ := hQ2
  have N2 := Fr.app N0 N2q
  refine Go.st (fun _ k => st2 _ k) ?_
  show Go p e below _ (T2.setTop (mkF m 6 #[.val (.ref a0), .val (.int p1)] []))
  refine Go.st (fun _ k => XS.aloadN X2.here hx rfl (hb hby d3_6) rfl rfl k) ?_
  refine Go.st (fun _ k => XS.iloadN X2.here hx rfl (hb hby d3_7) rfl k) ?_
  show Go p e below _ (T2.setTop (mkF m 8 #[.val (.ref a0), .val (.int p1)] [(.int p1), (.ref a0)]))
  obtain ⟨cl3, Ar3, ck3, Sz3, Nn3, Hs3, Gs3⟩ := id V_kk
  have hin3 : ¬ (p1 < 0 ∨ cl3.slots.size ≤ (p1).toNatClampNeg) := inb_of Sz3 hi
  have hat3 : cl3.slots[(p1).toNatClampNeg]? = some (.int x) := Hs3.at hin3 hx0
  refine Go.st (fun _ k => X2.baloadBytes hx (j := p1) (v := (.int x)) (by rw [e2]; exact Ar3.1) (State.isArrayOf_alike hZ.alike Ar3.2.1) Ar3.2.2 hin3 hat3 (g := (mkF m 8 #[.val (.ref a0), .val (.int p1)] [(.int p1), (.ref a0)])) rfl rfl (hb hby d3_8) _ k) ?_
  show Go p e below _ (T2.setTop (mkF m 9 #[.val (.ref a0), .val (.int p1)] [(.int x)]))
  refine Go.st (fun _ k => XS.sipush X2.here hx rfl (hb hby d3_9) k) ?_
  refine Go.st (fun _ k => XS.iand X2.here hx rfl (hb hby d3_12) rfl k) ?_
  refine Go.st (fun _ k => XS.i2c X2.here hx rfl (hb hby d3_13) rfl k) ?_
  show Go p e below _ (T2.setTop (mkF m 14 #[.val (.ref a0), .val (.int p1)] [(.int ((x &&& (255 : Int32)).toUInt32.toUInt16.toUInt32.toInt32))]))
  obtain ⟨fs, hr, hrun, hended, hW, hsame⟩ := X2.leave (v := some (.int (nar .char ((x &&& (255 : Int32)).toUInt32.toUInt16.toUInt32.toInt32)))) (fun h => by rw [Bd.returns] at h; cases h)
  refine ⟨_, _, retN X2 hx (t := .char) Bd.returns (by simp) (hb hby d3_14) hr, hrun, hended, _, _, rfl, ?_, ⟨_, rfl⟩, hW, hsame.mono (by decide) (by decide)⟩
  show Q_rmL1 Z x a0 p1 vf kk z vs h0 n0 _ T2.heap _
  rw [e2]
  refine ⟨?_, N2, rfl⟩
  unfold jByte
  rfl
theorem d1_0 : decode jdk_42_method_56_code 0 = .ok (.aload_n 0, 1) := by decide +kernel
theorem d1_1 : decode jdk_42_method_56_code 1 = .ok (.invokevirtual 492, 3) := by decide +kernel
theorem d1_4 : decode jdk_42_method_56_code 4 = .ok (.ifCond .eq 12, 3) := by decide +kernel
theorem d1_7 : decode jdk_42_method_56_code 7 = .ok (.aload_n 0, 1) := by decide +kernel
theorem d1_8 : decode jdk_42_method_56_code 8 = .ok (.getfield 9, 3) := by decide +kernel
theorem d1_11 : decode jdk_42_method_56_code 11 = .ok (.iload_n 1, 1) := by decide +kernel
theorem d1_12 : decode jdk_42_method_56_code 12 = .ok (.invokestatic 495, 3) := by decide +kernel
theorem d1_15 : decode jdk_42_method_56_code 15 = .ok (.ireturn, 1) := by decide +kernel
theorem pn_1 : plainName "java/lang/String" = true := by first | (simp [plainName, overriddenIn]; done) | decide +kernel
theorem pda8ebd : parseMethodDescriptor "()Z" = some ⟨[], some .boolean⟩ := by decide +kernel
theorem pd92f6cd88 : parseMethodDescriptor "([BI)C" = some ⟨[(.array .byte), .int], some .char⟩ := by decide +kernel
theorem ef_rmChar (m : MethodId) (a0 : Addr) (p1 : Int32) : entryFrame m #[(.ref a0), (.int p1)] 2 = mkF m 0 #[.val (.ref a0), .val (.int p1)] [] := by first | (simp [entryFrame, mkF, argsToLocals, Value.category]; done) | rfl
def jChar (x : Int32) : Int32 := (nar .char (jByte x))
def Q_rmChar (Z : State) (x : Int32) (a0 : Addr) (p1 : Int32) (bb : Addr) (co : Int32) (cs : Int32) (vf : Value) (kk : ClassId) (z : Int32) (vs : List Value) (h0 : Heap) (n0 : Nat) (v : Option Value) (h : Heap) (L : List Loc) : Prop := v = some (.int (jChar x)) ∧ Fr n0 L ∧ h = h0
abbrev F_rmChar (Z : State) (x : Int32) (a0 : Addr) (p1 : Int32) (bb : Addr) (co : Int32) (cs : Int32) (vf : Value) (kk : ClassId) (z : Int32) (vs : List Value) (h0 : Heap) (n0 : Nat) (s : State) (o : Outcome) (U : State) : Prop := ∃ v L, o = .returned v ∧ Q_rmChar Z x a0 p1 bb co cs vf kk z vs h0 n0 v U.heap L ∧ FrameEnd s o U L 0 0
set_option maxRecDepth 65536 in
set_option maxHeartbeats 40000000 in
theorem rmChar (l : Launch) (Z : State) (aZ : Array Value) (hw : ∀ d ∈ tables_1, d.before aZ Z = true) (ws : List Jvm.Cond) (x : Int32) (a0 : Addr) (p1 : Int32) (bb : Addr) (co : Int32) (cs : Int32) (vf : Value) (kk : ClassId) (z : Int32) (vs : List Value) (h0 : Heap) (n0 : Nat) (hcs : ¬ cs = 0) (hco : co = 0) (hvf : vf.isRef = true) (hi : ¬ p1 < 0 ∧ p1 < z) (hx0 : vs.getD p1.toNatClampNeg (.int (0 : Int32)) = .int x) (F_bb : Fld Z h0 a0 "java/lang/String" "value" "[B" (.ref bb)) (F_co : Fld Z h0 a0 "java/lang/String" "coder" "B" (.int co)) (E_a0 : Exa Z h0 a0 "java/lang/String") (S_cs : Sta Z h0 "java/lang/String" "COMPACT_STRINGS" "Z" (.int cs)) (S_vf : Sta Z h0 "jdk/internal/util/Preconditions" "SIOOBE_FORMATTER" "Ljava/util/function/BiFunction;" vf) (V_kk : Arv Z h0 bb kk .byte z vs (.int (0 : Int32))) :
    MetFree l (⟨"java/lang/String", "charAt", "(I)C"⟩ : MethodName) (head1 (Jvm.Cond.code (⟨"java/lang/String", "charAt", "(I)C"⟩ : MethodName) jdk_42_method_56_code 2 (some .char) :: ws) ({ frames := 3, cells := 0, slots := 0, locals := 40 } : Room)) (fun a U => a = #[(.ref a0), (.int p1)] ∧ Z.Warmed39 U.vm ∧ U.heap = h0) (fun _ _ _ _ _ => True) (fun _ U o U' => ∃ v L, o = .returned v ∧ Q_rmChar Z x a0 p1 bb co cs vf kk z vs h0 n0 v U'.heap L ∧ FrameEnd U o U' L 0 0) := by
  refine MetFree.of_bodySF (plainFor_of_name pn_1) hisR ?_
  intro p e s m args below meth c s₁ Bd hml0 hP hK
  obtain ⟨rfl, hZ, hh⟩ := hP
  have hx := Bd.exec
  have hby := Bd.bytes
  have hml : c.maxLocals = 2 := hml0
  have hown : s.vm.findClass "java/lang/String" = some m.cls := findClass_of_methodNamed Bd.named
  have hnm := (name_of_methodNamed Bd.named Bd.method).1
  have X0 : Stand p l e ({ frames := 3, cells := 0, slots := 0, locals := 40 } : Room) s m #[(.ref a0), (.int p1)] below meth c s₁ [] 0 0 := Stand.of_body Bd
  have e0 : s₁.heap = h0 := by rw [← hh, Bd.state]; rfl
  have N0 := Fr.nil n0
  refine Go.st (fun _ k => castTop (ef_rmChar m a0 p1) k) ?_
  show Go p e below _ (s₁.setTop (mkF m 0 #[.val (.ref a0), .val (.int p1)] []))
  refine Go.st (fun _ k => XS.aloadN X0.here hx rfl (hb hby d1_0) rfl rfl k) ?_
  obtain ⟨cq1, kq1, q1a, q1b, q1c⟩ := isOf hZ e0 E_a0
  obtain ⟨_, _, ⟨T1, L1, k1, n1⟩, -, X1, ⟨Lc1, hQ1, l1, y1, z1⟩, st1⟩ := X0.virtualBack hx (y := (⟨"java/lang/String", "isLatin1", "()Z"⟩ : MethodName)) (z := (⟨"java/lang/String", "isLatin1", "()Z"⟩ : MethodName)) hown (mvT hZ (hw _ (List.mem_of_getElem? (i := 14) rfl))) (mvT hZ (hw _ (List.mem_of_getElem? (i := 15) rfl))) (notFace_of_selects (args := #[]) (mvT hZ (hw _ (List.mem_of_getElem? (i := 17) rfl)))) (mvT hZ (hw _ (List.mem_of_getElem? (i := 17) rfl))) (mvT hZ (hw _ (List.mem_of_getElem? (i := 16) rfl))) (by decide) (backOf (W := 0) (rmLatin l Z aZ hw [] a0 co cs h0 n0 hcs hco F_co S_cs) hZ (hw _ (List.mem_of_getElem? (i := 18) rfl)) (hw _ (List.mem_of_getElem? (i := 1) rfl)) (by decide) (by decide)) q1a q1c (g := (mkF m 1 #[.val (.ref a0), .val (.int p1)] [(.ref a0)])) rfl (by rw [hml]; rfl) (Steps.refl _) (argsL := []) (rest := []) (lenOf pda8ebd rfl) rfl (by show 2 * 0 + _ ≤ _; exact Nat.le_of_eq rfl) (hb hby d1_1) (fun _ _ => ⟨rfl, e0, (by decide : 0 + 0 ≤ _), (by decide : 0 + 0 ≤ _)⟩)
  dsimp only [Pt.U, Pt.locs, Pt.cells, Pt.slots] at X1 l1 y1 z1 st1 hQ1
  subst l1 y1 z1
  obtain ⟨rfl, N1q, e1⟩ := hQ1
  have N1 := Fr.app N0 N1q
  refine Go.st (fun _ k => st1.trans k) ?_
  show Go p e below _ (T1.setTop (mkF m 4 #[.val (.ref a0), .val (.int p1)] [(.int (jLatin co))]))
  refine Go.st (fun _ k => XS.ifNo X1.here hx rfl (hb hby d1_4) rfl ((if0 _ _).trans (feq (by unfold jLatin; decide)).1) k) ?_
  show Go p e below _ (T1.setTop (mkF m 7 #[.val (.ref a0), .val (.int p1)] []))
  refine Go.st (fun _ k => XS.aloadN X1.here hx rfl (hb hby d1_7) rfl rfl k) ?_
  obtain ⟨T2, X2, e2, st2⟩ := getF X1 hx hZ hown (host := "") (Or.inl (hw _ (List.mem_of_getElem? (i := 21) rfl))) Via.refl e1 F_bb (g := (mkF m 8 #[.val (.ref a0), .val (.int p1)] [(.ref a0)])) rfl rfl (hb hby d1_8)
  refine Go.st (fun _ k => st2 _ k) ?_
  show Go p e below _ (T2.setTop (mkF m 11 #[.val (.ref a0), .val (.int p1)] [(.ref bb)]))
  refine Go.st (fun _ k => XS.iloadN X2.here hx rfl (hb hby d1_11) rfl k) ?_
  obtain ⟨_, _, ⟨T3, L3, k3, n3⟩, -, X3, ⟨Lc3, hQ3, l3, y3, z3⟩, st3⟩ := Jvm.LawKit.callS X2 hx (y := (⟨"java/lang/StringLatin1", "charAt", "([BI)C"⟩ : MethodName)) hown (mvT hZ (hw _ (List.mem_of_getElem? (i := 22) rfl))) (mvT hZ (hw _ (List.mem_of_getElem? (i := 23) rfl))) (mvT hZ (hw _ (List.mem_of_getElem? (i := 24) rfl))) (mvT hZ (hw _ (List.mem_of_getElem? (i := 25) rfl))) (by decide) (backOf (W := 0) (rmL1 l Z aZ hw [] x bb p1 vf kk z vs h0 n0 hvf hi hx0 S_vf V_kk) hZ (hw _ (List.mem_of_getElem? (i := 25) rfl)) (hw _ (List.mem_of_getElem? (i := 24) rfl)) (by decide) (by decide)) (g := (mkF m 12 #[.val (.ref a0), .val (.int p1)] [(.int p1), (.ref bb)])) rfl (by rw [hml]; rfl) (argsL := [(.ref bb), (.int p1)]) (rest := []) (lenOf pd92f6cd88 rfl) rfl (by show 2 * 0 + _ ≤ _; exact Nat.le_of_eq rfl) (hb hby d1_12) (fun _ _ => ⟨rfl, e2, (by decide : 0 + 0 ≤ _), (by decide : 0 + 0 ≤ _)⟩)
  dsimp only [Pt.U, Pt.locs, Pt.cells, Pt.slots] at X3 l3 y3 z3 st3 hQ3
  subst l3 y3 z3
  obtain ⟨rfl, N3q, e3⟩ := hQ3
  have N3 := Fr.app N1 N3q
  refine Go.st (fun _ k => st3 _ k) ?_
  show Go p e below _ (T3.setTop (mkF m 15 #[.val (.ref a0), .val (.int p1)] [(.int (jByte x))]))
  obtain ⟨fs, hr, hrun, hended, hW, hsame⟩ := X3.leave (v := some (.int (nar .char (jByte x)))) (fun h => by rw [Bd.returns] at h; cases h)
  refine ⟨_, _, retN X3 hx (t := .char) Bd.returns (by simp) (hb hby d1_15) hr, hrun, hended, _, _, rfl, ?_, ⟨_, rfl⟩, hW, hsame.mono (by decide) (by decide)⟩
  show Q_rmChar Z x a0 p1 bb co cs vf kk z vs h0 n0 _ T3.heap _
  rw [e3]
  refine ⟨?_, N3, rfl⟩
  unfold jChar
  rfl
theorem d6_0 : decode prog_21_method_2_code 0 = .ok (.iload_n 0, 1) := by decide +kernel
theorem d6_1 : decode prog_21_method_2_code 1 = .ok (.lookupswitch 94 #[(34, 75), (36, 75), (64, 75), (92, 75), (96, 75), (110, 79), (114, 84), (116, 89)], 75) := by decide +kernel
theorem d6_76 : decode prog_21_method_2_code 76 = .ok (.iload_n 0, 1) := by decide +kernel
theorem d6_77 : decode prog_21_method_2_code 77 = .ok (.goto 19, 3) := by decide +kernel
theorem d6_80 : decode prog_21_method_2_code 80 = .ok (.bipush 10, 2) := by decide +kernel
theorem d6_82 : decode prog_21_method_2_code 82 = .ok (.goto 14, 3) := by decide +kernel
theorem d6_85 : decode prog_21_method_2_code 85 = .ok (.bipush 13, 2) := by decide +kernel
theorem d6_87 : decode prog_21_method_2_code 87 = .ok (.goto 9, 3) := by decide +kernel
theorem d6_90 : decode prog_21_method_2_code 90 = .ok (.bipush 9, 2) := by decide +kernel
theorem d6_92 : decode prog_21_method_2_code 92 = .ok (.goto 4, 3) := by decide +kernel
theorem d6_95 : decode prog_21_method_2_code 95 = .ok (.iconst (-1), 1) := by decide +kernel
theorem d6_96 : decode prog_21_method_2_code 96 = .ok (.ireturn, 1) := by decide +kernel
theorem pn_6 : plainName "com/example/tokenloom/tokenloom/typespec/StringValue" = true := by first | (simp [plainName, overriddenIn]; done) | decide +kernel
theorem ef_rm6 (m : MethodId) (p0 : Int32) : entryFrame m #[(.int p0)] 1 = mkF m 0 #[.val (.int p0)] [] := by first | (simp [entryFrame, mkF, argsToLocals, Value.category]; done) | rfl
def fDec (p0 : Int32) : Int32 := if p0 = (34 : Int32) then p0 else (if p0 = (36 : Int32) then p0 else (if p0 = (64 : Int32) then p0 else (if p0 = (92 : Int32) then p0 else (if p0 = (96 : Int32) then p0 else (if p0 = (110 : Int32) then (10 : Int32) else (if p0 = (114 : Int32) then (13 : Int32) else (if p0 = (116 : Int32) then (9 : Int32) else (-1 : Int32))))))))
def Q_rm6 (Z : State) (p0 : Int32) (h0 : Heap) (n0 : Nat) (v : Option Value) (h : Heap) (L : List Loc) : Prop := v = some (.int (fDec p0)) ∧ Fr n0 L ∧ h = h0
abbrev F_rm6 (Z : State) (p0 : Int32) (h0 : Heap) (n0 : Nat) (s : State) (o : Outcome) (U : State) : Prop := ∃ v L, o = .returned v ∧ Q_rm6 Z p0 h0 n0 v U.heap L ∧ FrameEnd s o U L 0 0
set_option maxRecDepth 65536 in
set_option maxHeartbeats 40000000 in
theorem rm6 (l : Launch) (Z : State) (aZ : Array Value) (hw : ∀ d ∈ tables_1, d.before aZ Z = true) (ws : List Jvm.Cond) (p0 : Int32) (h0 : Heap) (n0 : Nat) :
    MetFree l (⟨"com/example/tokenloom/tokenloom/typespec/StringValue", "decodeEscape", "(I)I"⟩ : MethodName) (head1 (Jvm.Cond.code (⟨"com/example/tokenloom/tokenloom/typespec/StringValue", "decodeEscape", "(I)I"⟩ : MethodName) prog_21_method_2_code 1 (some .int) :: ws) ({ frames := 0, cells := 0, slots := 0, locals := 0 } : Room)) (fun a U => a = #[(.int p0)] ∧ Z.Warmed39 U.vm ∧ U.heap = h0) (fun _ _ _ _ _ => True) (fun _ U o U' => ∃ v L, o = .returned v ∧ Q_rm6 Z p0 h0 n0 v U'.heap L ∧ FrameEnd U o U' L 0 0) := by
  refine MetFree.of_bodySF (plainFor_of_name pn_6) hisR ?_
  intro p e s m args below meth c s₁ Bd hml0 hP hK
  obtain ⟨rfl, hZ, hh⟩ := hP
  have hx := Bd.exec
  have hby := Bd.bytes
  have hml : c.maxLocals = 1 := hml0
  have hown : s.vm.findClass "com/example/tokenloom/tokenloom/typespec/StringValue" = some m.cls := findClass_of_methodNamed Bd.named
  have hnm := (name_of_methodNamed Bd.named Bd.method).1
  have X0 : Stand p l e ({ frames := 0, cells := 0, slots := 0, locals := 0 } : Room) s m #[(.int p0)] below meth c s₁ [] 0 0 := Stand.of_body Bd
  have e0 : s₁.heap = h0 := by rw [← hh, Bd.state]; rfl
  have N0 := Fr.nil n0
  refine Go.st (fun _ k => castTop (ef_rm6 m p0) k) ?_
  show Go p e below _ (s₁.setTop (mkF m 0 #[.val (.int p0)] []))
  refine Go.st (fun _ k => XS.iloadN X0.here hx rfl (hb hby d6_0) rfl k) ?_
  show Go p e below _ (s₁.setTop (mkF m 1 #[.val (.int p0)] [(.int p0)]))
  by_cases hc1 : p0 = (34 : Int32)
  · skip
    refine Go.st (fun _ k => own_lsw X0.here hx rfl (pc0 := 1) (pc' := 76) rfl (hb hby d6_1) rfl (o := 75) (by rw [hc1]; decide) (by decide) (by decide) own_so k) ?_
    show Go p e below _ (s₁.setTop (mkF m 76 #[.val (.int p0)] []))
    refine Go.st (fun _ k => XS.iloadN X0.here hx rfl (hb hby d6_76) rfl k) ?_
    refine Go.st (fun _ k => XS.goto X0.here hx rfl (pc0 := 77) (pc' := 96) rfl (hb hby d6_77) (by decide) (by decide) k) ?_
    show Go p e below _ (s₁.setTop (mkF m 96 #[.val (.int p0)] [(.int p0)]))
    obtain ⟨fs, hr, hrun, hended, hW, hsame⟩ := X0.leave (v := some (.int p0)) (fun h => by rw [Bd.returns] at h; cases h)
    refine ⟨_, _, retI X0 hx Bd.returns (hb hby d6_96) hr, hrun, hended, _, _, rfl, ?_, ⟨_, rfl⟩, hW, hsame.mono (by decide) (by decide)⟩
    show Q_rm6 Z p0 h0 n0 _ s₁.heap _
    rw [e0]
    refine ⟨?_, N0, rfl⟩
    unfold fDec
    rw [if_pos hc1]
  · skip
    by_cases hc2 : p0 = (36 : Int32)
    · skip
      refine Go.st (fun _ k => own_lsw X0.here hx rfl (pc0 := 1) (pc' := 76) rfl (hb hby d6_1) rfl (o := 75) (by rw [hc2]; decide) (by decide) (by decide) own_so k) ?_
      show Go p e below _ (s₁.setTop (mkF m 76 #[.val (.int p0)] []))
      refine Go.st (fun _ k => XS.iloadN X0.here hx rfl (hb hby d6_76) rfl k) ?_
      refine Go.st (fun _ k => XS.goto X0.here hx rfl (pc0 := 77) (pc' := 96) rfl (hb hby d6_77) (by decide) (by decide) k) ?_
      show Go p e below _ (s₁.setTop (mkF m 96 #[.val (.int p0)] [(.int p0)]))
      obtain ⟨fs, hr, hrun, hended, hW, hsame⟩ := X0.leave (v := some (.int p0)) (fun h => by rw [Bd.returns] at h; cases h)
      refine ⟨_, _, retI X0 hx Bd.returns (hb hby d6_96) hr, hrun, hended, _, _, rfl, ?_, ⟨_, rfl⟩, hW, hsame.mono (by decide) (by decide)⟩
      show Q_rm6 Z p0 h0 n0 _ s₁.heap _
      rw [e0]
      refine ⟨?_, N0, rfl⟩
      unfold fDec
      rw [if_neg hc1, if_pos hc2]
    · skip
      by_cases hc3 : p0 = (64 : Int32)
      · skip
        refine Go.st (fun _ k => own_lsw X0.here hx rfl (pc0 := 1) (pc' := 76) rfl (hb hby d6_1) rfl (o := 75) (by rw [hc3]; decide) (by decide) (by decide) own_so k) ?_
        show Go p e below _ (s₁.setTop (mkF m 76 #[.val (.int p0)] []))
        refine Go.st (fun _ k => XS.iloadN X0.here hx rfl (hb hby d6_76) rfl k) ?_
        refine Go.st (fun _ k => XS.goto X0.here hx rfl (pc0 := 77) (pc' := 96) rfl (hb hby d6_77) (by decide) (by decide) k) ?_
        show Go p e below _ (s₁.setTop (mkF m 96 #[.val (.int p0)] [(.int p0)]))
        obtain ⟨fs, hr, hrun, hended, hW, hsame⟩ := X0.leave (v := some (.int p0)) (fun h => by rw [Bd.returns] at h; cases h)
        refine ⟨_, _, retI X0 hx Bd.returns (hb hby d6_96) hr, hrun, hended, _, _, rfl, ?_, ⟨_, rfl⟩, hW, hsame.mono (by decide) (by decide)⟩
        show Q_rm6 Z p0 h0 n0 _ s₁.heap _
        rw [e0]
        refine ⟨?_, N0, rfl⟩
        unfold fDec
        rw [if_neg hc1, if_neg hc2, if_pos hc3]
      · skip
        by_cases hc4 : p0 = (92 : Int32)
        · skip
          refine Go.st (fun _ k => own_lsw X0.here hx rfl (pc0 := 1) (pc' := 76) rfl (hb hby d6_1) rfl (o := 75) (by rw [hc4]; decide) (by decide) (by decide) own_so k) ?_
          show Go p e below _ (s₁.setTop (mkF m 76 #[.val (.int p0)] []))
          refine Go.st (fun _ k => XS.iloadN X0.here hx rfl (hb hby d6_76) rfl k) ?_
          refine Go.st (fun _ k => XS.goto X0.here hx rfl (pc0 := 77) (pc' := 96) rfl (hb hby d6_77) (by decide) (by decide) k) ?_
          show Go p e below _ (s₁.setTop (mkF m 96 #[.val (.int p0)] [(.int p0)]))
          obtain ⟨fs, hr, hrun, hended, hW, hsame⟩ := X0.leave (v := some (.int p0)) (fun h => by rw [Bd.returns] at h; cases h)
          refine ⟨_, _, retI X0 hx Bd.returns (hb hby d6_96) hr, hrun, hended, _, _, rfl, ?_, ⟨_, rfl⟩, hW, hsame.mono (by decide) (by decide)⟩
          show Q_rm6 Z p0 h0 n0 _ s₁.heap _
          rw [e0]
          refine ⟨?_, N0, rfl⟩
          unfold fDec
          rw [if_neg hc1, if_neg hc2, if_neg hc3, if_pos hc4]
        · skip
          by_cases hc5 : p0 = (96 : Int32)
          · skip
            refine Go.st (fun _ k => own_lsw X0.here hx rfl (pc0 := 1) (pc' := 76) rfl (hb hby d6_1) rfl (o := 75) (by rw [hc5]; decide) (by decide) (by decide) own_so k) ?_
            show Go p e below _ (s₁.setTop (mkF m 76 #[.val (.int p0)] []))
            refine Go.st (fun _ k => XS.iloadN X0.here hx rfl (hb hby d6_76) rfl k) ?_
            refine Go.st (fun _ k => XS.goto X0.here hx rfl (pc0 := 77) (pc' := 96) rfl (hb hby d6_77) (by decide) (by decide) k) ?_
            show Go p e below _ (s₁.setTop (mkF m 96 #[.val (.int p0)] [(.int p0)]))
            obtain ⟨fs, hr, hrun, hended, hW, hsame⟩ := X0.leave (v := some (.int p0)) (fun h => by rw [Bd.returns] at h; cases h)
            refine ⟨_, _, retI X0 hx Bd.returns (hb hby d6_96) hr, hrun, hended, _, _, rfl, ?_, ⟨_, rfl⟩, hW, hsame.mono (by decide) (by decide)⟩
            show Q_rm6 Z p0 h0 n0 _ s₁.heap _
            rw [e0]
            refine ⟨?_, N0, rfl⟩
            unfold fDec
            rw [if_neg hc1, if_neg hc2, if_neg hc3, if_neg hc4, if_pos hc5]
          · skip
            by_cases hc6 : p0 = (110 : Int32)
            · skip
              refine Go.st (fun _ k => own_lsw X0.here hx rfl (pc0 := 1) (pc' := 80) rfl (hb hby d6_1) rfl (o := 79) (by rw [hc6]; decide) (by decide) (by decide) own_so k) ?_
              show Go p e below _ (s₁.setTop (mkF m 80 #[.val (.int p0)] []))
              refine Go.st (fun _ k => XS.bipush X0.here hx rfl (hb hby d6_80) k) ?_
              refine Go.st (fun _ k => XS.goto X0.here hx rfl (pc0 := 82) (pc' := 96) rfl (hb hby d6_82) (by decide) (by decide) k) ?_
              show Go p e below _ (s₁.setTop (mkF m 96 #[.val (.int p0)] [(.int (10 : Int32))]))
              obtain ⟨fs, hr, hrun, hended, hW, hsame⟩ := X0.leave (v := some (.int (10 : Int32))) (fun h => by rw [Bd.returns] at h; cases h)
              refine ⟨_, _, retI X0 hx Bd.returns (hb hby d6_96) hr, hrun, hended, _, _, rfl, ?_, ⟨_, rfl⟩, hW, hsame.mono (by decide) (by decide)⟩
              show Q_rm6 Z p0 h0 n0 _ s₁.heap _
              rw [e0]
              refine ⟨?_, N0, rfl⟩
              unfold fDec
              rw [if_neg hc1, if_neg hc2, if_neg hc3, if_neg hc4, if_neg hc5, if_pos hc6]
            · skip
              by_cases hc7 : p0 = (114 : Int32)
              · skip
                refine Go.st (fun _ k => own_lsw X0.here hx rfl (pc0 := 1) (pc' := 85) rfl (hb hby d6_1) rfl (o := 84) (by rw [hc7]; decide) (by decide) (by decide) own_so k) ?_
                show Go p e below _ (s₁.setTop (mkF m 85 #[.val (.int p0)] []))
                refine Go.st (fun _ k => XS.bipush X0.here hx rfl (hb hby d6_85) k) ?_
                refine Go.st (fun _ k => XS.goto X0.here hx rfl (pc0 := 87) (pc' := 96) rfl (hb hby d6_87) (by decide) (by decide) k) ?_
                show Go p e below _ (s₁.setTop (mkF m 96 #[.val (.int p0)] [(.int (13 : Int32))]))
                obtain ⟨fs, hr, hrun, hended, hW, hsame⟩ := X0.leave (v := some (.int (13 : Int32))) (fun h => by rw [Bd.returns] at h; cases h)
                refine ⟨_, _, retI X0 hx Bd.returns (hb hby d6_96) hr, hrun, hended, _, _, rfl, ?_, ⟨_, rfl⟩, hW, hsame.mono (by decide) (by decide)⟩
                show Q_rm6 Z p0 h0 n0 _ s₁.heap _
                rw [e0]
                refine ⟨?_, N0, rfl⟩
                unfold fDec
                rw [if_neg hc1, if_neg hc2, if_neg hc3, if_neg hc4, if_neg hc5, if_neg hc6, if_pos hc7]
              · skip
                by_cases hc8 : p0 = (116 : Int32)
                · skip
                  refine Go.st (fun _ k => own_lsw X0.here hx rfl (pc0 := 1) (pc' := 90) rfl (hb hby d6_1) rfl (o := 89) (by rw [hc8]; decide) (by decide) (by decide) own_so k) ?_
                  show Go p e below _ (s₁.setTop (mkF m 90 #[.val (.int p0)] []))
                  refine Go.st (fun _ k => XS.bipush X0.here hx rfl (hb hby d6_90) k) ?_
                  refine Go.st (fun _ k => XS.goto X0.here hx rfl (pc0 := 92) (pc' := 96) rfl (hb hby d6_92) (by decide) (by decide) k) ?_
                  show Go p e below _ (s₁.setTop (mkF m 96 #[.val (.int p0)] [(.int (9 : Int32))]))
                  obtain ⟨fs, hr, hrun, hended, hW, hsame⟩ := X0.leave (v := some (.int (9 : Int32))) (fun h => by rw [Bd.returns] at h; cases h)
                  refine ⟨_, _, retI X0 hx Bd.returns (hb hby d6_96) hr, hrun, hended, _, _, rfl, ?_, ⟨_, rfl⟩, hW, hsame.mono (by decide) (by decide)⟩
                  show Q_rm6 Z p0 h0 n0 _ s₁.heap _
                  rw [e0]
                  refine ⟨?_, N0, rfl⟩
                  unfold fDec
                  rw [if_neg hc1, if_neg hc2, if_neg hc3, if_neg hc4, if_neg hc5, if_neg hc6, if_neg hc7, if_pos hc8]
                · skip
                  refine Go.st (fun _ k => own_lsw X0.here hx rfl (pc0 := 1) (pc' := 95) rfl (hb hby d6_1) rfl (o := 94) (by simp only [lookupswitch.offset]; rw [if_neg (own_nk hc1 (by decide)), if_neg (own_nk hc2 (by decide)), if_neg (own_nk hc3 (by decide)), if_neg (own_nk hc4 (by decide)), if_neg (own_nk hc5 (by decide)), if_neg (own_nk hc6 (by decide)), if_neg (own_nk hc7 (by decide)), if_neg (own_nk hc8 (by decide))]) (by decide) (by decide) own_so k) ?_
                  show Go p e below _ (s₁.setTop (mkF m 95 #[.val (.int p0)] []))
                  refine Go.st (fun _ k => XS.iconst X0.here hx rfl (hb hby d6_95) k) ?_
                  obtain ⟨fs, hr, hrun, hended, hW, hsame⟩ := X0.leave (v := some (.int (-1 : Int32))) (fun h => by rw [Bd.returns] at h; cases h)
                  refine ⟨_, _, retI X0 hx Bd.returns (hb hby d6_96) hr, hrun, hended, _, _, rfl, ?_, ⟨_, rfl⟩, hW, hsame.mono (by decide) (by decide)⟩
                  show Q_rm6 Z p0 h0 n0 _ s₁.heap _
                  rw [e0]
                  refine ⟨?_, N0, rfl⟩
                  unfold fDec
                  rw [if_neg hc1, if_neg hc2, if_neg hc3, if_neg hc4, if_neg hc5, if_neg hc6, if_neg hc7, if_neg hc8]
theorem d7_0 : decode method_3_code 0 = .ok (.iconst (-1), 1) := by decide +kernel
theorem d7_1 : decode method_3_code 1 = .ok (.istore_n 3, 1) := by decide +kernel
theorem d7_2 : decode method_3_code 2 = .ok (.iload_n 0, 1) := by decide +kernel
theorem d7_3 : decode method_3_code 3 = .ok (.aload_n 1, 1) := by decide +kernel
theorem d7_4 : decode method_3_code 4 = .ok (.iconst 0, 1) := by decide +kernel
theorem d7_5 : decode method_3_code 5 = .ok (.invokevirtual 11, 3) := by decide +kernel
theorem d7_8 : decode method_3_code 8 = .ok (.if_icmp .ne 9, 3) := by decide +kernel
theorem d7_11 : decode method_3_code 11 = .ok (.aload_n 2, 1) := by decide +kernel
theorem d7_12 : decode method_3_code 12 = .ok (.iconst 0, 1) := by decide +kernel
theorem d7_13 : decode method_3_code 13 = .ok (.invokevirtual 11, 3) := by decide +kernel
theorem d7_16 : decode method_3_code 16 = .ok (.istore_n 3, 1) := by decide +kernel
theorem d7_17 : decode method_3_code 17 = .ok (.iload_n 0, 1) := by decide +kernel
theorem d7_18 : decode method_3_code 18 = .ok (.aload_n 1, 1) := by decide +kernel
theorem d7_19 : decode method_3_code 19 = .ok (.iconst 1, 1) := by decide +kernel
theorem d7_20 : decode method_3_code 20 = .ok (.invokevirtual 11, 3) := by decide +kernel
theorem d7_23 : decode method_3_code 23 = .ok (.if_icmp .ne 9, 3) := by decide +kernel
theorem d7_26 : decode method_3_code 26 = .ok (.aload_n 2, 1) := by decide +kernel
theorem d7_27 : decode method_3_code 27 = .ok (.iconst 1, 1) := by decide +kernel
theorem d7_28 : decode method_3_code 28 = .ok (.invokevirtual 11, 3) := by decide +kernel
theorem d7_31 : decode method_3_code 31 = .ok (.istore_n 3, 1) := by decide +kernel
theorem d7_32 : decode method_3_code 32 = .ok (.iload_n 0, 1) := by decide +kernel
theorem d7_33 : decode method_3_code 33 = .ok (.aload_n 1, 1) := by decide +kernel
theorem d7_34 : decode method_3_code 34 = .ok (.iconst 2, 1) := by decide +kernel
theorem d7_35 : decode method_3_code 35 = .ok (.invokevirtual 11, 3) := by decide +kernel
theorem d7_38 : decode method_3_code 38 = .ok (.if_icmp .ne 9, 3) := by decide +kernel
theorem d7_41 : decode method_3_code 41 = .ok (.aload_n 2, 1) := by decide +kernel
theorem d7_42 : decode method_3_code 42 = .ok (.iconst 2, 1) := by decide +kernel
theorem d7_43 : decode method_3_code 43 = .ok (.invokevirtual 11, 3) := by decide +kernel
theorem d7_46 : decode method_3_code 46 = .ok (.istore_n 3, 1) := by decide +kernel
theorem d7_47 : decode method_3_code 47 = .ok (.iload_n 0, 1) := by decide +kernel
theorem d7_48 : decode method_3_code 48 = .ok (.aload_n 1, 1) := by decide +kernel
theorem d7_49 : decode method_3_code 49 = .ok (.iconst 3, 1) := by decide +kernel
theorem d7_50 : decode method_3_code 50 = .ok (.invokevirtual 11, 3) := by decide +kernel
theorem d7_53 : decode method_3_code 53 = .ok (.if_icmp .ne 9, 3) := by decide +kernel
theorem d7_56 : decode method_3_code 56 = .ok (.aload_n 2, 1) := by decide +kernel
theorem d7_57 : decode method_3_code 57 = .ok (.iconst 3, 1) := by decide +kernel
theorem d7_58 : decode method_3_code 58 = .ok (.invokevirtual 11, 3) := by decide +kernel
theorem d7_61 : decode method_3_code 61 = .ok (.istore_n 3, 1) := by decide +kernel
theorem d7_62 : decode method_3_code 62 = .ok (.iload_n 0, 1) := by decide +kernel
theorem d7_63 : decode method_3_code 63 = .ok (.aload_n 1, 1) := by decide +kernel
theorem d7_64 : decode method_3_code 64 = .ok (.iconst 4, 1) := by decide +kernel
theorem d7_65 : decode method_3_code 65 = .ok (.invokevirtual 11, 3) := by decide +kernel
theorem d7_68 : decode method_3_code 68 = .ok (.if_icmp .ne 9, 3) := by decide +kernel
theorem d7_71 : decode method_3_code 71 = .ok (.aload_n 2, 1) := by decide +kernel
theorem d7_72 : decode method_3_code 72 = .ok (.iconst 4, 1) := by decide +kernel
theorem d7_73 : decode method_3_code 73 = .ok (.invokevirtual 11, 3) := by decide +kernel
theorem d7_76 : decode method_3_code 76 = .ok (.istore_n 3, 1) := by decide +kernel
theorem d7_77 : decode method_3_code 77 = .ok (.iload_n 0, 1) := by decide +kernel
theorem d7_78 : decode method_3_code 78 = .ok (.aload_n 1, 1) := by decide +kernel
theorem d7_79 : decode method_3_code 79 = .ok (.iconst 5, 1) := by decide +kernel
theorem d7_80 : decode method_3_code 80 = .ok (.invokevirtual 11, 3) := by decide +kernel
theorem d7_83 : decode method_3_code 83 = .ok (.if_icmp .ne 9, 3) := by decide +kernel
theorem d7_86 : decode method_3_code 86 = .ok (.aload_n 2, 1) := by decide +kernel
theorem d7_87 : decode method_3_code 87 = .ok (.iconst 5, 1) := by decide +kernel
theorem d7_88 : decode method_3_code 88 = .ok (.invokevirtual 11, 3) := by decide +kernel
theorem d7_91 : decode method_3_code 91 = .ok (.istore_n 3, 1) := by decide +kernel
theorem d7_92 : decode method_3_code 92 = .ok (.iload_n 0, 1) := by decide +kernel
theorem d7_93 : decode method_3_code 93 = .ok (.aload_n 1, 1) := by decide +kernel
theorem d7_94 : decode method_3_code 94 = .ok (.bipush 6, 2) := by decide +kernel
theorem d7_96 : decode method_3_code 96 = .ok (.invokevirtual 11, 3) := by decide +kernel
theorem d7_99 : decode method_3_code 99 = .ok (.if_icmp .ne 10, 3) := by decide +kernel
theorem d7_102 : decode method_3_code 102 = .ok (.aload_n 2, 1) := by decide +kernel
theorem d7_103 : decode method_3_code 103 = .ok (.bipush 6, 2) := by decide +kernel
theorem d7_105 : decode method_3_code 105 = .ok (.invokevirtual 11, 3) := by decide +kernel
theorem d7_108 : decode method_3_code 108 = .ok (.istore_n 3, 1) := by decide +kernel
theorem d7_109 : decode method_3_code 109 = .ok (.iload_n 0, 1) := by decide +kernel
theorem d7_110 : decode method_3_code 110 = .ok (.aload_n 1, 1) := by decide +kernel
theorem d7_111 : decode method_3_code 111 = .ok (.bipush 7, 2) := by decide +kernel
theorem d7_113 : decode method_3_code 113 = .ok (.invokevirtual 11, 3) := by decide +kernel
theorem d7_116 : decode method_3_code 116 = .ok (.if_icmp .ne 10, 3) := by decide +kernel
theorem d7_119 : decode method_3_code 119 = .ok (.aload_n 2, 1) := by decide +kernel
theorem d7_120 : decode method_3_code 120 = .ok (.bipush 7, 2) := by decide +kernel
theorem d7_122 : decode method_3_code 122 = .ok (.invokevirtual 11, 3) := by decide +kernel
theorem d7_125 : decode method_3_code 125 = .ok (.istore_n 3, 1) := by decide +kernel
theorem d7_126 : decode method_3_code 126 = .ok (.iload_n 3, 1) := by decide +kernel
theorem d7_127 : decode method_3_code 127 = .ok (.ireturn, 1) := by decide +kernel
theorem pn_7 : plainName "com/example/tokenloom/tokenloom/typespec/StringValueDecodeEscapePinLaw" = true := by first | (simp [plainName, overriddenIn]; done) | decide +kernel
theorem pd56f5307 : parseMethodDescriptor "(I)C" = some ⟨[.int], some .char⟩ := by decide +kernel
theorem ef_rmExp (m : MethodId) (p0 : Int32) (a1 : Addr) (a2 : Addr) : entryFrame m #[(.int p0), (.ref a1), (.ref a2)] 4 = mkF m 0 #[.val (.int p0), .val (.ref a1), .val (.ref a2), .unset] [] := by first | (simp [entryFrame, mkF, argsToLocals, Value.category]; done) | rfl
def fExp (p0 : Int32) : Int32 := if p0 = (34 : Int32) then (34 : Int32) else (if p0 = (92 : Int32) then (92 : Int32) else (if p0 = (36 : Int32) then (36 : Int32) else (if p0 = (64 : Int32) then (64 : Int32) else (if p0 = (96 : Int32) then (96 : Int32) else (if p0 = (110 : Int32) then (10 : Int32) else (if p0 = (114 : Int32) then (13 : Int32) else (if p0 = (116 : Int32) then (9 : Int32) else (-1 : Int32))))))))
def Q_rmExp (Z : State) (p0 : Int32) (a1 : Addr) (a2 : Addr) (b1 : Addr) (k1 : ClassId) (b2 : Addr) (k2 : ClassId) (cs : Int32) (vf : Value) (h0 : Heap) (n0 : Nat) (v : Option Value) (h : Heap) (L : List Loc) : Prop := v = some (.int (fExp p0)) ∧ Fr n0 L ∧ h = h0
abbrev F_rmExp (Z : State) (p0 : Int32) (a1 : Addr) (a2 : Addr) (b1 : Addr) (k1 : ClassId) (b2 : Addr) (k2 : ClassId) (cs : Int32) (vf : Value) (h0 : Heap) (n0 : Nat) (s : State) (o : Outcome) (U : State) : Prop := ∃ v L, o = .returned v ∧ Q_rmExp Z p0 a1 a2 b1 k1 b2 k2 cs vf h0 n0 v U.heap L ∧ FrameEnd s o U L 0 0
set_option maxRecDepth 65536 in
set_option maxHeartbeats 40000000 in
theorem rmExp (l : Launch) (Z : State) (aZ : Array Value) (hw : ∀ d ∈ tables_1, d.before aZ Z = true) (ws : List Jvm.Cond) (p0 : Int32) (a1 : Addr) (a2 : Addr) (b1 : Addr) (k1 : ClassId) (b2 : Addr) (k2 : ClassId) (cs : Int32) (vf : Value) (h0 : Heap) (n0 : Nat) (hcs : ¬ cs = 0) (hvf : vf.isRef = true) (S_cs : Sta Z h0 "java/lang/String" "COMPACT_STRINGS" "Z" (.int cs)) (S_vf : Sta Z h0 "jdk/internal/util/Preconditions" "SIOOBE_FORMATTER" "Ljava/util/function/BiFunction;" vf) (E_a1 : Exa Z h0 a1 "java/lang/String") (Fc_a1 : Fld Z h0 a1 "java/lang/String" "coder" "B" (.int (0 : Int32))) (Fv_a1 : Fld Z h0 a1 "java/lang/String" "value" "[B" (.ref b1)) (Va_a1 : Arv Z h0 b1 k1 .byte (8 : Int32) [(.int (34 : Int32)), (.int (92 : Int32)), (.int (36 : Int32)), (.int (64 : Int32)), (.int (96 : Int32)), (.int (110 : Int32)), (.int (114 : Int32)), (.int (116 : Int32))] (.int (0 : Int32))) (E_a2 : Exa Z h0 a2 "java/lang/String") (Fc_a2 : Fld Z h0 a2 "java/lang/String" "coder" "B" (.int (0 : Int32))) (Fv_a2 : Fld Z h0 a2 "java/lang/String" "value" "[B" (.ref b2)) (Va_a2 : Arv Z h0 b2 k2 .byte (8 : Int32) [(.int (34 : Int32)), (.int (92 : Int32)), (.int (36 : Int32)), (.int (64 : Int32)), (.int (96 : Int32)), (.int (10 : Int32)), (.int (13 : Int32)), (.int (9 : Int32))] (.int (0 : Int32))) :
    MetFree l (⟨"com/example/tokenloom/tokenloom/typespec/StringValueDecodeEscapePinLaw", "expected", "(ILjava/lang/String;Ljava/lang/String;)I"⟩ : MethodName) (head1 (Jvm.Cond.code (⟨"com/example/tokenloom/tokenloom/typespec/StringValueDecodeEscapePinLaw", "expected", "(ILjava/lang/String;Ljava/lang/String;)I"⟩ : MethodName) method_3_code 4 (some .int) :: ws) ({ frames := 4, cells := 0, slots := 0, locals := 54 } : Room)) (fun a U => a = #[(.int p0), (.ref a1), (.ref a2)] ∧ Z.Warmed39 U.vm ∧ U.heap = h0) (fun _ _ _ _ _ => True) (fun _ U o U' => ∃ v L, o = .returned v ∧ Q_rmExp Z p0 a1 a2 b1 k1 b2 k2 cs vf h0 n0 v U'.heap L ∧ FrameEnd U o U' L 0 0) := by
  refine MetFree.of_bodySF (plainFor_of_name pn_7) hisR ?_
  intro p e s m args below meth c s₁ Bd hml0 hP hK
  obtain ⟨rfl, hZ, hh⟩ := hP
  have hx := Bd.exec
  have hby := Bd.bytes
  have hml : c.maxLocals = 4 := hml0
  have hown : s.vm.findClass "com/example/tokenloom/tokenloom/typespec/StringValueDecodeEscapePinLaw" = some m.cls := findClass_of_methodNamed Bd.named
  have hnm := (name_of_methodNamed Bd.named Bd.method).1
  have X0 : Stand p l e ({ frames := 4, cells := 0, slots := 0, locals := 54 } : Room) s m #[(.int p0), (.ref a1), (.ref a2)] below meth c s₁ [] 0 0 := Stand.of_body Bd
  have e0 : s₁.heap = h0 := by rw [← hh, Bd.state]; rfl
  have N0 := Fr.nil n0
  refine Go.st (fun _ k => castTop (ef_rmExp m p0 a1 a2) k) ?_
  show Go p e below _ (s₁.setTop (mkF m 0 #[.val (.int p0), .val (.ref a1), .val (.ref a2), .unset] []))
  refine Go.st (fun _ k => XS.iconst X0.here hx rfl (hb hby d7_0) k) ?_
  refine Go.st (fun _ k => XS.istoreN X0.here hx rfl (hb hby d7_1) rfl (l' := #[.val (.int p0), .val (.ref a1), .val (.ref a2), .val (.int (-1 : Int32))]) rfl k) ?_
  show Go p e below _ (s₁.setTop (mkF m 2 #[.val (.int p0), .val (.ref a1), .val (.ref a2), .val (.int (-1 : Int32))] []))
  refine Go.st (fun _ k => XS.iloadN X0.here hx rfl (hb hby d7_2) rfl k) ?_
  refine Go.st (fun _ k => XS.aloadN X0.here hx rfl (hb hby d7_3) rfl rfl k) ?_
  refine Go.st (fun _ k => XS.iconst X0.here hx rfl (hb hby d7_4) k) ?_
  obtain ⟨cq1, kq1, q1a, q1b, q1c⟩ := isOf hZ e0 E_a1
  obtain ⟨_, _, ⟨T1, L1, k1, n1⟩, -, X1, ⟨Lc1, hQ1, l1, y1, z1⟩, st1⟩ := X0.virtualBack hx (y := (⟨"java/lang/String", "charAt", "(I)C"⟩ : MethodName)) (z := (⟨"java/lang/String", "charAt", "(I)C"⟩ : MethodName)) hown (mvT hZ (hw _ (List.mem_of_getElem? (i := 9) rfl))) (mvT hZ (hw _ (List.mem_of_getElem? (i := 10) rfl))) (notFace_of_selects (args := #[]) (mvT hZ (hw _ (List.mem_of_getElem? (i := 12) rfl)))) (mvT hZ (hw _ (List.mem_of_getElem? (i := 12) rfl))) (mvT hZ (hw _ (List.mem_of_getElem? (i := 11) rfl))) (by decide) (backOf (W := 1) (rmChar l Z aZ hw [] (34 : Int32) a1 (0 : Int32) b1 (0 : Int32) cs vf k1 (8 : Int32) [(.int (34 : Int32)), (.int (92 : Int32)), (.int (36 : Int32)), (.int (64 : Int32)), (.int (96 : Int32)), (.int (110 : Int32)), (.int (114 : Int32)), (.int (116 : Int32))] h0 n0 hcs rfl hvf ⟨by decide, by decide⟩ rfl Fv_a1 Fc_a1 E_a1 S_cs S_vf Va_a1) hZ (hw _ (List.mem_of_getElem? (i := 13) rfl)) (hw _ (List.mem_of_getElem? (i := 1) rfl)) (by decide) (by decide)) q1a q1c (g := (mkF m 5 #[.val (.int p0), .val (.ref a1), .val (.ref a2), .val (.int (-1 : Int32))] [(.int (0 : Int32)), (.ref a1), (.int p0)])) rfl (by rw [hml]; rfl) (Steps.refl _) (argsL := [(.int (0 : Int32))]) (rest := [(.int p0)]) (lenOf pd56f5307 rfl) rfl (by show 2 * 0 + _ ≤ _; exact Nat.le_of_eq rfl) (hb hby d7_5) (fun _ _ => ⟨rfl, e0, (by decide : 0 + 0 ≤ _), (by decide : 0 + 0 ≤ _)⟩)
  dsimp only [Pt.U, Pt.locs, Pt.cells, Pt.slots] at X1 l1 y1 z1 st1 hQ1
  subst l1 y1 z1
  obtain ⟨rfl, N1q, e1⟩ := hQ1
  have N1 := Fr.app N0 N1q
  refine Go.st (fun _ k => st1.trans k) ?_
  show Go p e below _ (T1.setTop (mkF m 8 #[.val (.int p0), .val (.ref a1), .val (.ref a2), .val (.int (-1 : Int32))] [(.int (jChar (34 : Int32))), (.int p0)]))
  have hs2 : (jChar (34 : Int32)) = (34 : Int32) := (by decide +kernel)
  rw [hs2]
  show Go p e below _ (T1.setTop (mkF m 8 #[.val (.int p0), .val (.ref a1), .val (.ref a2), .val (.int (-1 : Int32))] [(.int (34 : Int32)), (.int p0)]))
  by_cases hc3 : p0 = (34 : Int32)
  · show Go p e below _ (T1.setTop (mkF m 8 #[.val (.int p0), .val (.ref a1), .val (.ref a2), .val (.int (-1 : Int32))] [(.int (34 : Int32)), (.int p0)]))
    refine Go.st (fun _ k => XS.icmpNo X1.here hx rfl (hb hby d7_8) rfl (teq hc3).2 k) ?_
    show Go p e below _ (T1.setTop (mkF m 11 #[.val (.int p0), .val (.ref a1), .val (.ref a2), .val (.int (-1 : Int32))] []))
    refine Go.st (fun _ k => XS.aloadN X1.here hx rfl (hb hby d7_11) rfl rfl k) ?_
    refine Go.st (fun _ k => XS.iconst X1.here hx rfl (hb hby d7_12) k) ?_
    obtain ⟨cq4, kq4, q4a, q4b, q4c⟩ := isOf hZ e1 E_a2
    obtain ⟨_, _, ⟨T4, L4, k4, n4⟩, -, X4, ⟨Lc4, hQ4, l4, y4, z4⟩, st4⟩ := X1.virtualBack hx (y := (⟨"java/lang/String", "charAt", "(I)C"⟩ : MethodName)) (z := (⟨"java/lang/String", "charAt", "(I)C"⟩ : MethodName)) hown (mvT hZ (hw _ (List.mem_of_getElem? (i := 9) rfl))) (mvT hZ (hw _ (List.mem_of_getElem? (i := 10) rfl))) (notFace_of_selects (args := #[]) (mvT hZ (hw _ (List.mem_of_getElem? (i := 12) rfl)))) (mvT hZ (hw _ (List.mem_of_getElem? (i := 12) rfl))) (mvT hZ (hw _ (List.mem_of_getElem? (i := 11) rfl))) (by decide) (backOf (W := 0) (rmChar l Z aZ hw [] (34 : Int32) a2 (0 : Int32) b2 (0 : Int32) cs vf k2 (8 : Int32) [(.int (34 : Int32)), (.int (92 : Int32)), (.int (36 : Int32)), (.int (64 : Int32)), (.int (96 : Int32)), (.int (10 : Int32)), (.int (13 : Int32)), (.int (9 : Int32))] h0 n0 hcs rfl hvf ⟨by decide, by decide⟩ rfl Fv_a2 Fc_a2 E_a2 S_cs S_vf Va_a2) hZ (hw _ (List.mem_of_getElem? (i := 13) rfl)) (hw _ (List.mem_of_getElem? (i := 1) rfl)) (by decide) (by decide)) q4a q4c (g := (mkF m 13 #[.val (.int p0), .val (.ref a1), .val (.ref a2), .val (.int (-1 : Int32))] [(.int (0 : Int32)), (.ref a2)])) rfl (by rw [hml]; rfl) (Steps.refl _) (argsL := [(.int (0 : Int32))]) (rest := []) (lenOf pd56f5307 rfl) rfl (by show 2 * 0 + _ ≤ _; exact Nat.le_of_eq rfl) (hb hby d7_13) (fun _ _ => ⟨rfl, e1, (by decide : 0 + 0 ≤ _), (by decide : 0 + 0 ≤ _)⟩)
    dsimp only [Pt.U, Pt.locs, Pt.cells, Pt.slots] at X4 l4 y4 z4 st4 hQ4
    subst l4 y4 z4
    obtain ⟨rfl, N4q, e4⟩ := hQ4
    have N4 := Fr.app N1 N4q
    refine Go.st (fun _ k => st4.trans k) ?_
    show Go p e below _ (T4.setTop (mkF m 16 #[.val (.int p0), .val (.ref a1), .val (.ref a2), .val (.int (-1 : Int32))] [(.int (jChar (34 : Int32)))]))
    have hs5 : (jChar (34 : Int32)) = (34 : Int32) := (by decide +kernel)
    rw [hs5]
    show Go p e below _ (T4.setTop (mkF m 16 #[.val (.int p0), .val (.ref a1), .val (.ref a2), .val (.int (-1 : Int32))] [(.int (34 : Int32))]))
    refine Go.st (fun _ k => XS.istoreN X4.here hx rfl (hb hby d7_16) rfl (l' := #[.val (.int p0), .val (.ref a1), .val (.ref a2), .val (.int (34 : Int32))]) rfl k) ?_
    show Go p e below _ (T4.setTop (mkF m 17 #[.val (.int p0), .val (.ref a1), .val (.ref a2), .val (.int (34 : Int32))] []))
    refine Go.st (fun _ k => XS.iloadN X4.here hx rfl (hb hby d7_17) rfl k) ?_
    refine Go.st (fun _ k => XS.aloadN X4.here hx rfl (hb hby d7_18) rfl rfl k) ?_
    refine Go.st (fun _ k => XS.iconst X4.here hx rfl (hb hby d7_19) k) ?_
    obtain ⟨cq6, kq6, q6a, q6b, q6c⟩ := isOf hZ e4 E_a1
    obtain ⟨_, _, ⟨T6, L6, k6, n6⟩, -, X6, ⟨Lc6, hQ6, l6, y6, z6⟩, st6⟩ := X4.virtualBack hx (y := (⟨"java/lang/String", "charAt", "(I)C"⟩ : MethodName)) (z := (⟨"java/lang/String", "charAt", "(I)C"⟩ : MethodName)) hown (mvT hZ (hw _ (List.mem_of_getElem? (i := 9) rfl))) (mvT hZ (hw _ (List.mem_of_getElem? (i := 10) rfl))) (notFace_of_selects (args := #[]) (mvT hZ (hw _ (List.mem_of_getElem? (i := 12) rfl)))) (mvT hZ (hw _ (List.mem_of_getElem? (i := 12) rfl))) (mvT hZ (hw _ (List.mem_of_getElem? (i := 11) rfl))) (by decide) (backOf (W := 1) (rmChar l Z aZ hw [] (92 : Int32) a1 (1 : Int32) b1 (0 : Int32) cs vf k1 (8 : Int32) [(.int (34 : Int32)), (.int (92 : Int32)), (.int (36 : Int32)), (.int (64 : Int32)), (.int (96 : Int32)), (.int (110 : Int32)), (.int (114 : Int32)), (.int (116 : Int32))] h0 n0 hcs rfl hvf ⟨by decide, by decide⟩ rfl Fv_a1 Fc_a1 E_a1 S_cs S_vf Va_a1) hZ (hw _ (List.mem_of_getElem? (i := 13) rfl)) (hw _ (List.mem_of_getElem? (i := 1) rfl)) (by decide) (by decide)) q6a q6c (g := (mkF m 20 #[.val (.int p0), .val (.ref a1), .val (.ref a2), .val (.int (34 : Int32))] [(.int (1 : Int32)), (.ref a1), (.int p0)])) rfl (by rw [hml]; rfl) (Steps.refl _) (argsL := [(.int (1 : Int32))]) (rest := [(.int p0)]) (lenOf pd56f5307 rfl) rfl (by show 2 * 0 + _ ≤ _; exact Nat.le_of_eq rfl) (hb hby d7_20) (fun _ _ => ⟨rfl, e4, (by decide : 0 + 0 ≤ _), (by decide : 0 + 0 ≤ _)⟩)
    dsimp only [Pt.U, Pt.locs, Pt.cells, Pt.slots] at X6 l6 y6 z6 st6 hQ6
    subst l6 y6 z6
    obtain ⟨rfl, N6q, e6⟩ := hQ6
    have N6 := Fr.app N4 N6q
    refine Go.st (fun _ k => st6.trans k) ?_
    show Go p e below _ (T6.setTop (mkF m 23 #[.val (.int p0), .val (.ref a1), .val (.ref a2), .val (.int (34 : Int32))] [(.int (jChar (92 : Int32))), (.int p0)]))
    have hs7 : (jChar (92 : Int32)) = (92 : Int32) := (by decide +kernel)
    rw [hs7]
    show Go p e below _ (T6.setTop (mkF m 23 #[.val (.int p0), .val (.ref a1), .val (.ref a2), .val (.int (34 : Int32))] [(.int (92 : Int32)), (.int p0)]))
    refine Go.st (fun _ k => XS.icmpYes X6.here hx rfl (pc0 := 23) (pc' := 32) rfl (hb hby d7_23) rfl (feq (by rw [hc3]; decide)).2 (by decide) (by decide) k) ?_
    show Go p e below _ (T6.setTop (mkF m 32 #[.val (.int p0), .val (.ref a1), .val (.ref a2), .val (.int (34 : Int32))] []))
    refine Go.st (fun _ k => XS.iloadN X6.here hx rfl (hb hby d7_32) rfl k) ?_
    refine Go.st (fun _ k => XS.aloadN X6.here hx rfl (hb hby d7_33) rfl rfl k) ?_
    refine Go.st (fun _ k => XS.iconst X6.here hx rfl (hb hby d7_34) k) ?_
    obtain ⟨cq8, kq8, q8a, q8b, q8c⟩ := isOf hZ e6 E_a1
    obtain ⟨_, _, ⟨T8, L8, k8, n8⟩, -, X8, ⟨Lc8, hQ8, l8, y8, z8⟩, st8⟩ := X6.virtualBack hx (y := (⟨"java/lang/String", "charAt", "(I)C"⟩ : MethodName)) (z := (⟨"java/lang/String", "charAt", "(I)C"⟩ : MethodName)) hown (mvT hZ (hw _ (List.mem_of_getElem? (i := 9) rfl))) (mvT hZ (hw _ (List.mem_of_getElem? (i := 10) rfl))) (notFace_of_selects (args := #[]) (mvT hZ (hw _ (List.mem_of_getElem? (i := 12) rfl)))) (mvT hZ (hw _ (List.mem_of_getElem? (i := 12) rfl))) (mvT hZ (hw _ (List.mem_of_getElem? (i := 11) rfl))) (by decide) (backOf (W := 1) (rmChar l Z aZ hw [] (36 : Int32) a1 (2 : Int32) b1 (0 : Int32) cs vf k1 (8 : Int32) [(.int (34 : Int32)), (.int (92 : Int32)), (.int (36 : Int32)), (.int (64 : Int32)), (.int (96 : Int32)), (.int (110 : Int32)), (.int (114 : Int32)), (.int (116 : Int32))] h0 n0 hcs rfl hvf ⟨by decide, by decide⟩ rfl Fv_a1 Fc_a1 E_a1 S_cs S_vf Va_a1) hZ (hw _ (List.mem_of_getElem? (i := 13) rfl)) (hw _ (List.mem_of_getElem? (i := 1) rfl)) (by decide) (by decide)) q8a q8c (g := (mkF m 35 #[.val (.int p0), .val (.ref a1), .val (.ref a2), .val (.int (34 : Int32))] [(.int (2 : Int32)), (.ref a1), (.int p0)])) rfl (by rw [hml]; rfl) (Steps.refl _) (argsL := [(.int (2 : Int32))]) (rest := [(.int p0)]) (lenOf pd56f5307 rfl) rfl (by show 2 * 0 + _ ≤ _; exact Nat.le_of_eq rfl) (hb hby d7_35) (fun _ _ => ⟨rfl, e6, (by decide : 0 + 0 ≤ _), (by decide : 0 + 0 ≤ _)⟩)
    dsimp only [Pt.U, Pt.locs, Pt.cells, Pt.slots] at X8 l8 y8 z8 st8 hQ8
    subst l8 y8 z8
    obtain ⟨rfl, N8q, e8⟩ := hQ8
    have N8 := Fr.app N6 N8q
    refine Go.st (fun _ k => st8.trans k) ?_
    show Go p e below _ (T8.setTop (mkF m 38 #[.val (.int p0), .val (.ref a1), .val (.ref a2), .val (.int (34 : Int32))] [(.int (jChar (36 : Int32))), (.int p0)]))
    have hs9 : (jChar (36 : Int32)) = (36 : Int32) := (by decide +kernel)
    rw [hs9]
    show Go p e below _ (T8.setTop (mkF m 38 #[.val (.int p0), .val (.ref a1), .val (.ref a2), .val (.int (34 : Int32))] [(.int (36 : Int32)), (.int p0)]))
    refine Go.st (fun _ k => XS.icmpYes X8.here hx rfl (pc0 := 38) (pc' := 47) rfl (hb hby d7_38) rfl (feq (by rw [hc3]; decide)).2 (by decide) (by decide) k) ?_
    show Go p e below _ (T8.setTop (mkF m 47 #[.val (.int p0), .val (.ref a1), .val (.ref a2), .val (.int (34 : Int32))] []))
    refine Go.st (fun _ k => XS.iloadN X8.here hx rfl (hb hby d7_47) rfl k) ?_
    refine Go.st (fun _ k => XS.aloadN X8.here hx rfl (hb hby d7_48) rfl rfl k) ?_
    refine Go.st (fun _ k => XS.iconst X8.here hx rfl (hb hby d7_49) k) ?_
    obtain ⟨cq10, kq10, q10a, q10b, q10c⟩ := isOf hZ e8 E_a1
    obtain ⟨_, _, ⟨T10, L10, k10, n10⟩, -, X10, ⟨Lc10, hQ10, l10, y10, z10⟩, st10⟩ := X8.virtualBack hx (y := (⟨"java/lang/String", "charAt", "(I)C"⟩ : MethodName)) (z := (⟨"java/lang/String", "charAt", "(I)C"⟩ : MethodName)) hown (mvT hZ (hw _ (List.mem_of_getElem? (i := 9) rfl))) (mvT hZ (hw _ (List.mem_of_getElem? (i := 10) rfl))) (notFace_of_selects (args := #[]) (mvT hZ (hw _ (List.mem_of_getElem? (i := 12) rfl)))) (mvT hZ (hw _ (List.mem_of_getElem? (i := 12) rfl))) (mvT hZ (hw _ (List.mem_of_getElem? (i := 11) rfl))) (by decide) (backOf (W := 1) (rmChar l Z aZ hw [] (64 : Int32) a1 (3 : Int32) b1 (0 : Int32) cs vf k1 (8 : Int32) [(.int (34 : Int32)), (.int (92 : Int32)), (.int (36 : Int32)), (.int (64 : Int32)), (.int (96 : Int32)), (.int (110 : Int32)), (.int (114 : Int32)), (.int (116 : Int32))] h0 n0 hcs rfl hvf ⟨by decide, by decide⟩ rfl Fv_a1 Fc_a1 E_a1 S_cs S_vf Va_a1) hZ (hw _ (List.mem_of_getElem? (i := 13) rfl)) (hw _ (List.mem_of_getElem? (i := 1) rfl)) (by decide) (by decide)) q10a q10c (g := (mkF m 50 #[.val (.int p0), .val (.ref a1), .val (.ref a2), .val (.int (34 : Int32))] [(.int (3 : Int32)), (.ref a1), (.int p0)])) rfl (by rw [hml]; rfl) (Steps.refl _) (argsL := [(.int (3 : Int32))]) (rest := [(.int p0)]) (lenOf pd56f5307 rfl) rfl (by show 2 * 0 + _ ≤ _; exact Nat.le_of_eq rfl) (hb hby d7_50) (fun _ _ => ⟨rfl, e8, (by decide : 0 + 0 ≤ _), (by decide : 0 + 0 ≤ _)⟩)
    dsimp only [Pt.U, Pt.locs, Pt.cells, Pt.slots] at X10 l10 y10 z10 st10 hQ10
    subst l10 y10 z10
    obtain ⟨rfl, N10q, e10⟩ := hQ10
    have N10 := Fr.app N8 N10q
    refine Go.st (fun _ k => st10.trans k) ?_
    show Go p e below _ (T10.setTop (mkF m 53 #[.val (.int p0), .val (.ref a1), .val (.ref a2), .val (.int (34 : Int32))] [(.int (jChar (64 : Int32))), (.int p0)]))
    have hs11 : (jChar (64 : Int32)) = (64 : Int32) := (by decide +kernel)
    rw [hs11]
    show Go p e below _ (T10.setTop (mkF m 53 #[.val (.int p0), .val (.ref a1), .val (.ref a2), .val (.int (34 : Int32))] [(.int (64 : Int32)), (.int p0)]))
    refine Go.st (fun _ k => XS.icmpYes X10.here hx rfl (pc0 := 53) (pc' := 62) rfl (hb hby d7_53) rfl (feq (by rw [hc3]; decide)).2 (by decide) (by decide) k) ?_
    show Go p e below _ (T10.setTop (mkF m 62 #[.val (.int p0), .val (.ref a1), .val (.ref a2), .val (.int (34 : Int32))] []))
    refine Go.st (fun _ k => XS.iloadN X10.here hx rfl (hb hby d7_62) rfl k) ?_
    refine Go.st (fun _ k => XS.aloadN X10.here hx rfl (hb hby d7_63) rfl rfl k) ?_
    refine Go.st (fun _ k => XS.iconst X10.here hx rfl (hb hby d7_64) k) ?_
    obtain ⟨cq12, kq12, q12a, q12b, q12c⟩ := isOf hZ e10 E_a1
    obtain ⟨_, _, ⟨T12, L12, k12, n12⟩, -, X12, ⟨Lc12, hQ12, l12, y12, z12⟩, st12⟩ := X10.virtualBack hx (y := (⟨"java/lang/String", "charAt", "(I)C"⟩ : MethodName)) (z := (⟨"java/lang/String", "charAt", "(I)C"⟩ : MethodName)) hown (mvT hZ (hw _ (List.mem_of_getElem? (i := 9) rfl))) (mvT hZ (hw _ (List.mem_of_getElem? (i := 10) rfl))) (notFace_of_selects (args := #[]) (mvT hZ (hw _ (List.mem_of_getElem? (i := 12) rfl)))) (mvT hZ (hw _ (List.mem_of_getElem? (i := 12) rfl))) (mvT hZ (hw _ (List.mem_of_getElem? (i := 11) rfl))) (by decide) (backOf (W := 1) (rmChar l Z aZ hw [] (96 : Int32) a1 (4 : Int32) b1 (0 : Int32) cs vf k1 (8 : Int32) [(.int (34 : Int32)), (.int (92 : Int32)), (.int (36 : Int32)), (.int (64 : Int32)), (.int (96 : Int32)), (.int (110 : Int32)), (.int (114 : Int32)), (.int (116 : Int32))] h0 n0 hcs rfl hvf ⟨by decide, by decide⟩ rfl Fv_a1 Fc_a1 E_a1 S_cs S_vf Va_a1) hZ (hw _ (List.mem_of_getElem? (i := 13) rfl)) (hw _ (List.mem_of_getElem? (i := 1) rfl)) (by decide) (by decide)) q12a q12c (g := (mkF m 65 #[.val (.int p0), .val (.ref a1), .val (.ref a2), .val (.int (34 : Int32))] [(.int (4 : Int32)), (.ref a1), (.int p0)])) rfl (by rw [hml]; rfl) (Steps.refl _) (argsL := [(.int (4 : Int32))]) (rest := [(.int p0)]) (lenOf pd56f5307 rfl) rfl (by show 2 * 0 + _ ≤ _; exact Nat.le_of_eq rfl) (hb hby d7_65) (fun _ _ => ⟨rfl, e10, (by decide : 0 + 0 ≤ _), (by decide : 0 + 0 ≤ _)⟩)
    dsimp only [Pt.U, Pt.locs, Pt.cells, Pt.slots] at X12 l12 y12 z12 st12 hQ12
    subst l12 y12 z12
    obtain ⟨rfl, N12q, e12⟩ := hQ12
    have N12 := Fr.app N10 N12q
    refine Go.st (fun _ k => st12.trans k) ?_
    show Go p e below _ (T12.setTop (mkF m 68 #[.val (.int p0), .val (.ref a1), .val (.ref a2), .val (.int (34 : Int32))] [(.int (jChar (96 : Int32))), (.int p0)]))
    have hs13 : (jChar (96 : Int32)) = (96 : Int32) := (by decide +kernel)
    rw [hs13]
    show Go p e below _ (T12.setTop (mkF m 68 #[.val (.int p0), .val (.ref a1), .val (.ref a2), .val (.int (34 : Int32))] [(.int (96 : Int32)), (.int p0)]))
    refine Go.st (fun _ k => XS.icmpYes X12.here hx rfl (pc0 := 68) (pc' := 77) rfl (hb hby d7_68) rfl (feq (by rw [hc3]; decide)).2 (by decide) (by decide) k) ?_
    show Go p e below _ (T12.setTop (mkF m 77 #[.val (.int p0), .val (.ref a1), .val (.ref a2), .val (.int (34 : Int32))] []))
    refine Go.st (fun _ k => XS.iloadN X12.here hx rfl (hb hby d7_77) rfl k) ?_
    refine Go.st (fun _ k => XS.aloadN X12.here hx rfl (hb hby d7_78) rfl rfl k) ?_
    refine Go.st (fun _ k => XS.iconst X12.here hx rfl (hb hby d7_79) k) ?_
    obtain ⟨cq14, kq14, q14a, q14b, q14c⟩ := isOf hZ e12 E_a1
    obtain ⟨_, _, ⟨T14, L14, k14, n14⟩, -, X14, ⟨Lc14, hQ14, l14, y14, z14⟩, st14⟩ := X12.virtualBack hx (y := (⟨"java/lang/String", "charAt", "(I)C"⟩ : MethodName)) (z := (⟨"java/lang/String", "charAt", "(I)C"⟩ : MethodName)) hown (mvT hZ (hw _ (List.mem_of_getElem? (i := 9) rfl))) (mvT hZ (hw _ (List.mem_of_getElem? (i := 10) rfl))) (notFace_of_selects (args := #[]) (mvT hZ (hw _ (List.mem_of_getElem? (i := 12) rfl)))) (mvT hZ (hw _ (List.mem_of_getElem? (i := 12) rfl))) (mvT hZ (hw _ (List.mem_of_getElem? (i := 11) rfl))) (by decide) (backOf (W := 1) (rmChar l Z aZ hw [] (110 : Int32) a1 (5 : Int32) b1 (0 : Int32) cs vf k1 (8 : Int32) [(.int (34 : Int32)), (.int (92 : Int32)), (.int (36 : Int32)), (.int (64 : Int32)), (.int (96 : Int32)), (.int (110 : Int32)), (.int (114 : Int32)), (.int (116 : Int32))] h0 n0 hcs rfl hvf ⟨by decide, by decide⟩ rfl Fv_a1 Fc_a1 E_a1 S_cs S_vf Va_a1) hZ (hw _ (List.mem_of_getElem? (i := 13) rfl)) (hw _ (List.mem_of_getElem? (i := 1) rfl)) (by decide) (by decide)) q14a q14c (g := (mkF m 80 #[.val (.int p0), .val (.ref a1), .val (.ref a2), .val (.int (34 : Int32))] [(.int (5 : Int32)), (.ref a1), (.int p0)])) rfl (by rw [hml]; rfl) (Steps.refl _) (argsL := [(.int (5 : Int32))]) (rest := [(.int p0)]) (lenOf pd56f5307 rfl) rfl (by show 2 * 0 + _ ≤ _; exact Nat.le_of_eq rfl) (hb hby d7_80) (fun _ _ => ⟨rfl, e12, (by decide : 0 + 0 ≤ _), (by decide : 0 + 0 ≤ _)⟩)
    dsimp only [Pt.U, Pt.locs, Pt.cells, Pt.slots] at X14 l14 y14 z14 st14 hQ14
    subst l14 y14 z14
    obtain ⟨rfl, N14q, e14⟩ := hQ14
    have N14 := Fr.app N12 N14q
    refine Go.st (fun _ k => st14.trans k) ?_
    show Go p e below _ (T14.setTop (mkF m 83 #[.val (.int p0), .val (.ref a1), .val (.ref a2), .val (.int (34 : Int32))] [(.int (jChar (110 : Int32))), (.int p0)]))
    have hs15 : (jChar (110 : Int32)) = (110 : Int32) := (by decide +kernel)
    rw [hs15]
    show Go p e below _ (T14.setTop (mkF m 83 #[.val (.int p0), .val (.ref a1), .val (.ref a2), .val (.int (34 : Int32))] [(.int (110 : Int32)), (.int p0)]))
    refine Go.st (fun _ k => XS.icmpYes X14.here hx rfl (pc0 := 83) (pc' := 92) rfl (hb hby d7_83) rfl (feq (by rw [hc3]; decide)).2 (by decide) (by decide) k) ?_
    show Go p e below _ (T14.setTop (mkF m 92 #[.val (.int p0), .val (.ref a1), .val (.ref a2), .val (.int (34 : Int32))] []))
    refine Go.st (fun _ k => XS.iloadN X14.here hx rfl (hb hby d7_92) rfl k) ?_
    refine Go.st (fun _ k => XS.aloadN X14.here hx rfl (hb hby d7_93) rfl rfl k) ?_
    refine Go.st (fun _ k => XS.bipush X14.here hx rfl (hb hby d7_94) k) ?_
    obtain ⟨cq16, kq16, q16a, q16b, q16c⟩ := isOf hZ e14 E_a1
    obtain ⟨_, _, ⟨T16, L16, k16, n16⟩, -, X16, ⟨Lc16, hQ16, l16, y16, z16⟩, st16⟩ := X14.virtualBack hx (y := (⟨"java/lang/String", "charAt", "(I)C"⟩ : MethodName)) (z := (⟨"java/lang/String", "charAt", "(I)C"⟩ : MethodName)) hown (mvT hZ (hw _ (List.mem_of_getElem? (i := 9) rfl))) (mvT hZ (hw _ (List.mem_of_getElem? (i := 10) rfl))) (notFace_of_selects (args := #[]) (mvT hZ (hw _ (List.mem_of_getElem? (i := 12) rfl)))) (mvT hZ (hw _ (List.mem_of_getElem? (i := 12) rfl))) (mvT hZ (hw _ (List.mem_of_getElem? (i := 11) rfl))) (by decide) (backOf (W := 1) (rmChar l Z aZ hw [] (114 : Int32) a1 (6 : Int32) b1 (0 : Int32) cs vf k1 (8 : Int32) [(.int (34 : Int32)), (.int (92 : Int32)), (.int (36 : Int32)), (.int (64 : Int32)), (.int (96 : Int32)), (.int (110 : Int32)), (.int (114 : Int32)), (.int (116 : Int32))] h0 n0 hcs rfl hvf ⟨by decide, by decide⟩ rfl Fv_a1 Fc_a1 E_a1 S_cs S_vf Va_a1) hZ (hw _ (List.mem_of_getElem? (i := 13) rfl)) (hw _ (List.mem_of_getElem? (i := 1) rfl)) (by decide) (by decide)) q16a q16c (g := (mkF m 96 #[.val (.int p0), .val (.ref a1), .val (.ref a2), .val (.int (34 : Int32))] [(.int (6 : Int32)), (.ref a1), (.int p0)])) rfl (by rw [hml]; rfl) (Steps.refl _) (argsL := [(.int (6 : Int32))]) (rest := [(.int p0)]) (lenOf pd56f5307 rfl) rfl (by show 2 * 0 + _ ≤ _; exact Nat.le_of_eq rfl) (hb hby d7_96) (fun _ _ => ⟨rfl, e14, (by decide : 0 + 0 ≤ _), (by decide : 0 + 0 ≤ _)⟩)
    dsimp only [Pt.U, Pt.locs, Pt.cells, Pt.slots] at X16 l16 y16 z16 st16 hQ16
    subst l16 y16 z16
    obtain ⟨rfl, N16q, e16⟩ := hQ16
    have N16 := Fr.app N14 N16q
    refine Go.st (fun _ k => st16.trans k) ?_
    show Go p e below _ (T16.setTop (mkF m 99 #[.val (.int p0), .val (.ref a1), .val (.ref a2), .val (.int (34 : Int32))] [(.int (jChar (114 : Int32))), (.int p0)]))
    have hs17 : (jChar (114 : Int32)) = (114 : Int32) := (by decide +kernel)
    rw [hs17]
    show Go p e below _ (T16.setTop (mkF m 99 #[.val (.int p0), .val (.ref a1), .val (.ref a2), .val (.int (34 : Int32))] [(.int (114 : Int32)), (.int p0)]))
    refine Go.st (fun _ k => XS.icmpYes X16.here hx rfl (pc0 := 99) (pc' := 109) rfl (hb hby d7_99) rfl (feq (by rw [hc3]; decide)).2 (by decide) (by decide) k) ?_
    show Go p e below _ (T16.setTop (mkF m 109 #[.val (.int p0), .val (.ref a1), .val (.ref a2), .val (.int (34 : Int32))] []))
    refine Go.st (fun _ k => XS.iloadN X16.here hx rfl (hb hby d7_109) rfl k) ?_
    refine Go.st (fun _ k => XS.aloadN X16.here hx rfl (hb hby d7_110) rfl rfl k) ?_
    refine Go.st (fun _ k => XS.bipush X16.here hx rfl (hb hby d7_111) k) ?_
    obtain ⟨cq18, kq18, q18a, q18b, q18c⟩ := isOf hZ e16 E_a1
    obtain ⟨_, _, ⟨T18, L18, k18, n18⟩, -, X18, ⟨Lc18, hQ18, l18, y18, z18⟩, st18⟩ := X16.virtualBack hx (y := (⟨"java/lang/String", "charAt", "(I)C"⟩ : MethodName)) (z := (⟨"java/lang/String", "charAt", "(I)C"⟩ : MethodName)) hown (mvT hZ (hw _ (List.mem_of_getElem? (i := 9) rfl))) (mvT hZ (hw _ (List.mem_of_getElem? (i := 10) rfl))) (notFace_of_selects (args := #[]) (mvT hZ (hw _ (List.mem_of_getElem? (i := 12) rfl)))) (mvT hZ (hw _ (List.mem_of_getElem? (i := 12) rfl))) (mvT hZ (hw _ (List.mem_of_getElem? (i := 11) rfl))) (by decide) (backOf (W := 1) (rmChar l Z aZ hw [] (116 : Int32) a1 (7 : Int32) b1 (0 : Int32) cs vf k1 (8 : Int32) [(.int (34 : Int32)), (.int (92 : Int32)), (.int (36 : Int32)), (.int (64 : Int32)), (.int (96 : Int32)), (.int (110 : Int32)), (.int (114 : Int32)), (.int (116 : Int32))] h0 n0 hcs rfl hvf ⟨by decide, by decide⟩ rfl Fv_a1 Fc_a1 E_a1 S_cs S_vf Va_a1) hZ (hw _ (List.mem_of_getElem? (i := 13) rfl)) (hw _ (List.mem_of_getElem? (i := 1) rfl)) (by decide) (by decide)) q18a q18c (g := (mkF m 113 #[.val (.int p0), .val (.ref a1), .val (.ref a2), .val (.int (34 : Int32))] [(.int (7 : Int32)), (.ref a1), (.int p0)])) rfl (by rw [hml]; rfl) (Steps.refl _) (argsL := [(.int (7 : Int32))]) (rest := [(.int p0)]) (lenOf pd56f5307 rfl) rfl (by show 2 * 0 + _ ≤ _; exact Nat.le_of_eq rfl) (hb hby d7_113) (fun _ _ => ⟨rfl, e16, (by decide : 0 + 0 ≤ _), (by decide : 0 + 0 ≤ _)⟩)
    dsimp only [Pt.U, Pt.locs, Pt.cells, Pt.slots] at X18 l18 y18 z18 st18 hQ18
    subst l18 y18 z18
    obtain ⟨rfl, N18q, e18⟩ := hQ18
    have N18 := Fr.app N16 N18q
    refine Go.st (fun _ k => st18.trans k) ?_
    show Go p e below _ (T18.setTop (mkF m 116 #[.val (.int p0), .val (.ref a1), .val (.ref a2), .val (.int (34 : Int32))] [(.int (jChar (116 : Int32))), (.int p0)]))
    have hs19 : (jChar (116 : Int32)) = (116 : Int32) := (by decide +kernel)
    rw [hs19]
    show Go p e below _ (T18.setTop (mkF m 116 #[.val (.int p0), .val (.ref a1), .val (.ref a2), .val (.int (34 : Int32))] [(.int (116 : Int32)), (.int p0)]))
    refine Go.st (fun _ k => XS.icmpYes X18.here hx rfl (pc0 := 116) (pc' := 126) rfl (hb hby d7_116) rfl (feq (by rw [hc3]; decide)).2 (by decide) (by decide) k) ?_
    show Go p e below _ (T18.setTop (mkF m 126 #[.val (.int p0), .val (.ref a1), .val (.ref a2), .val (.int (34 : Int32))] []))
    refine Go.st (fun _ k => XS.iloadN X18.here hx rfl (hb hby d7_126) rfl k) ?_
    obtain ⟨fs, hr, hrun, hended, hW, hsame⟩ := X18.leave (v := some (.int (34 : Int32))) (fun h => by rw [Bd.returns] at h; cases h)
    refine ⟨_, _, retI X18 hx Bd.returns (hb hby d7_127) hr, hrun, hended, _, _, rfl, ?_, ⟨_, rfl⟩, hW, hsame.mono (by decide) (by decide)⟩
    show Q_rmExp Z p0 a1 a2 b1 k1 b2 k2 cs vf h0 n0 _ T18.heap _
    rw [e18]
    refine ⟨?_, N18, rfl⟩
    unfold fExp
    rw [if_pos hc3]
  · show Go p e below _ (T1.setTop (mkF m 8 #[.val (.int p0), .val (.ref a1), .val (.ref a2), .val (.int (-1 : Int32))] [(.int (34 : Int32)), (.int p0)]))
    refine Go.st (fun _ k => XS.icmpYes X1.here hx rfl (pc0 := 8) (pc' := 17) rfl (hb hby d7_8) rfl (feq hc3).2 (by decide) (by decide) k) ?_
    show Go p e below _ (T1.setTop (mkF m 17 #[.val (.int p0), .val (.ref a1), .val (.ref a2), .val (.int (-1 : Int32))] []))
    refine Go.st (fun _ k => XS.iloadN X1.here hx rfl (hb hby d7_17) rfl k) ?_
    refine Go.st (fun _ k => XS.aloadN X1.here hx rfl (hb hby d7_18) rfl rfl k) ?_
    refine Go.st (fun _ k => XS.iconst X1.here hx rfl (hb hby d7_19) k) ?_
    obtain ⟨cq20, kq20, q20a, q20b, q20c⟩ := isOf hZ e1 E_a1
    obtain ⟨_, _, ⟨T20, L20, k20, n20⟩, -, X20, ⟨Lc20, hQ20, l20, y20, z20⟩, st20⟩ := X1.virtualBack hx (y := (⟨"java/lang/String", "charAt", "(I)C"⟩ : MethodName)) (z := (⟨"java/lang/String", "charAt", "(I)C"⟩ : MethodName)) hown (mvT hZ (hw _ (List.mem_of_getElem? (i := 9) rfl))) (mvT hZ (hw _ (List.mem_of_getElem? (i := 10) rfl))) (notFace_of_selects (args := #[]) (mvT hZ (hw _ (List.mem_of_getElem? (i := 12) rfl)))) (mvT hZ (hw _ (List.mem_of_getElem? (i := 12) rfl))) (mvT hZ (hw _ (List.mem_of_getElem? (i := 11) rfl))) (by decide) (backOf (W := 1) (rmChar l Z aZ hw [] (92 : Int32) a1 (1 : Int32) b1 (0 : Int32) cs vf k1 (8 : Int32) [(.int (34 : Int32)), (.int (92 : Int32)), (.int (36 : Int32)), (.int (64 : Int32)), (.int (96 : Int32)), (.int (110 : Int32)), (.int (114 : Int32)), (.int (116 : Int32))] h0 n0 hcs rfl hvf ⟨by decide, by decide⟩ rfl Fv_a1 Fc_a1 E_a1 S_cs S_vf Va_a1) hZ (hw _ (List.mem_of_getElem? (i := 13) rfl)) (hw _ (List.mem_of_getElem? (i := 1) rfl)) (by decide) (by decide)) q20a q20c (g := (mkF m 20 #[.val (.int p0), .val (.ref a1), .val (.ref a2), .val (.int (-1 : Int32))] [(.int (1 : Int32)), (.ref a1), (.int p0)])) rfl (by rw [hml]; rfl) (Steps.refl _) (argsL := [(.int (1 : Int32))]) (rest := [(.int p0)]) (lenOf pd56f5307 rfl) rfl (by show 2 * 0 + _ ≤ _; exact Nat.le_of_eq rfl) (hb hby d7_20) (fun _ _ => ⟨rfl, e1, (by decide : 0 + 0 ≤ _), (by decide : 0 + 0 ≤ _)⟩)
    dsimp only [Pt.U, Pt.locs, Pt.cells, Pt.slots] at X20 l20 y20 z20 st20 hQ20
    subst l20 y20 z20
    obtain ⟨rfl, N20q, e20⟩ := hQ20
    have N20 := Fr.app N1 N20q
    refine Go.st (fun _ k => st20.trans k) ?_
    show Go p e below _ (T20.setTop (mkF m 23 #[.val (.int p0), .val (.ref a1), .val (.ref a2), .val (.int (-1 : Int32))] [(.int (jChar (92 : Int32))), (.int p0)]))
    have hs21 : (jChar (92 : Int32)) = (92 : Int32) := (by decide +kernel)
    rw [hs21]
    show Go p e below _ (T20.setTop (mkF m 23 #[.val (.int p0), .val (.ref a1), .val (.ref a2), .val (.int (-1 : Int32))] [(.int (92 : Int32)), (.int p0)]))
    by_cases hc22 : p0 = (92 : Int32)
    · show Go p e below _ (T20.setTop (mkF m 23 #[.val (.int p0), .val (.ref a1), .val (.ref a2), .val (.int (-1 : Int32))] [(.int (92 : Int32)), (.int p0)]))
      refine Go.st (fun _ k => XS.icmpNo X20.here hx rfl (hb hby d7_23) rfl (teq hc22).2 k) ?_
      show Go p e below _ (T20.setTop (mkF m 26 #[.val (.int p0), .val (.ref a1), .val (.ref a2), .val (.int (-1 : Int32))] []))
      refine Go.st (fun _ k => XS.aloadN X20.here hx rfl (hb hby d7_26) rfl rfl k) ?_
      refine Go.st (fun _ k => XS.iconst X20.here hx rfl (hb hby d7_27) k) ?_
      obtain ⟨cq23, kq23, q23a, q23b, q23c⟩ := isOf hZ e20 E_a2
      obtain ⟨_, _, ⟨T23, L23, k23, n23⟩, -, X23, ⟨Lc23, hQ23, l23, y23, z23⟩, st23⟩ := X20.virtualBack hx (y := (⟨"java/lang/String", "charAt", "(I)C"⟩ : MethodName)) (z := (⟨"java/lang/String", "charAt", "(I)C"⟩ : MethodName)) hown (mvT hZ (hw _ (List.mem_of_getElem? (i := 9) rfl))) (mvT hZ (hw _ (List.mem_of_getElem? (i := 10) rfl))) (notFace_of_selects (args := #[]) (mvT hZ (hw _ (List.mem_of_getElem? (i := 12) rfl)))) (mvT hZ (hw _ (List.mem_of_getElem? (i := 12) rfl))) (mvT hZ (hw _ (List.mem_of_getElem? (i := 11) rfl))) (by decide) (backOf (W := 0) (rmChar l Z aZ hw [] (92 : Int32) a2 (1 : Int32) b2 (0 : Int32) cs vf k2 (8 : Int32) [(.int (34 : Int32)), (.int (92 : Int32)), (.int (36 : Int32)), (.int (64 : Int32)), (.int (96 : Int32)), (.int (10 : Int32)), (.int (13 : Int32)), (.int (9 : Int32))] h0 n0 hcs rfl hvf ⟨by decide, by decide⟩ rfl Fv_a2 Fc_a2 E_a2 S_cs S_vf Va_a2) hZ (hw _ (List.mem_of_getElem? (i := 13) rfl)) (hw _ (List.mem_of_getElem? (i := 1) rfl)) (by decide) (by decide)) q23a q23c (g := (mkF m 28 #[.val (.int p0), .val (.ref a1), .val (.ref a2), .val (.int (-1 : Int32))] [(.int (1 : Int32)), (.ref a2)])) rfl (by rw [hml]; rfl) (Steps.refl _) (argsL := [(.int (1 : Int32))]) (rest := []) (lenOf pd56f5307 rfl) rfl (by show 2 * 0 + _ ≤ _; exact Nat.le_of_eq rfl) (hb hby d7_28) (fun _ _ => ⟨rfl, e20, (by decide : 0 + 0 ≤ _), (by decide : 0 + 0 ≤ _)⟩)
      dsimp only [Pt.U, Pt.locs, Pt.cells, Pt.slots] at X23 l23 y23 z23 st23 hQ23
      subst l23 y23 z23
      obtain ⟨rfl, N23q, e23⟩ := hQ23
      have N23 := Fr.app N20 N23q
      refine Go.st (fun _ k => st23.trans k) ?_
      show Go p e below _ (T23.setTop (mkF m 31 #[.val (.int p0), .val (.ref a1), .val (.ref a2), .val (.int (-1 : Int32))] [(.int (jChar (92 : Int32)))]))
      have hs24 : (jChar (92 : Int32)) = (92 : Int32) := (by decide +kernel)
      rw [hs24]
      show Go p e below _ (T23.setTop (mkF m 31 #[.val (.int p0), .val (.ref a1), .val (.ref a2), .val (.int (-1 : Int32))] [(.int (92 : Int32))]))
      refine Go.st (fun _ k => XS.istoreN X23.here hx rfl (hb hby d7_31) rfl (l' := #[.val (.int p0), .val (.ref a1), .val (.ref a2), .val (.int (92 : Int32))]) rfl k) ?_
      show Go p e below _ (T23.setTop (mkF m 32 #[.val (.int p0), .val (.ref a1), .val (.ref a2), .val (.int (92 : Int32))] []))
      refine Go.st (fun _ k => XS.iloadN X23.here hx rfl (hb hby d7_32) rfl k) ?_
      refine Go.st (fun _ k => XS.aloadN X23.here hx rfl (hb hby d7_33) rfl rfl k) ?_
      refine Go.st (fun _ k => XS.iconst X23.here hx rfl (hb hby d7_34) k) ?_
      obtain ⟨cq25, kq25, q25a, q25b, q25c⟩ := isOf hZ e23 E_a1
      obtain ⟨_, _, ⟨T25, L25, k25, n25⟩, -, X25, ⟨Lc25, hQ25, l25, y25, z25⟩, st25⟩ := X23.virtualBack hx (y := (⟨"java/lang/String", "charAt", "(I)C"⟩ : MethodName)) (z := (⟨"java/lang/String", "charAt", "(I)C"⟩ : MethodName)) hown (mvT hZ (hw _ (List.mem_of_getElem? (i := 9) rfl))) (mvT hZ (hw _ (List.mem_of_getElem? (i := 10) rfl))) (notFace_of_selects (args := #[]) (mvT hZ (hw _ (List.mem_of_getElem? (i := 12) rfl)))) (mvT hZ (hw _ (List.mem_of_getElem? (i := 12) rfl))) (mvT hZ (hw _ (List.mem_of_getElem? (i := 11) rfl))) (by decide) (backOf (W := 1) (rmChar l Z aZ hw [] (36 : Int32) a1 (2 : Int32) b1 (0 : Int32) cs vf k1 (8 : Int32) [(.int (34 : Int32)), (.int (92 : Int32)), (.int (36 : Int32)), (.int (64 : Int32)), (.int (96 : Int32)), (.int (110 : Int32)), (.int (114 : Int32)), (.int (116 : Int32))] h0 n0 hcs rfl hvf ⟨by decide, by decide⟩ rfl Fv_a1 Fc_a1 E_a1 S_cs S_vf Va_a1) hZ (hw _ (List.mem_of_getElem? (i := 13) rfl)) (hw _ (List.mem_of_getElem? (i := 1) rfl)) (by decide) (by decide)) q25a q25c (g := (mkF m 35 #[.val (.int p0), .val (.ref a1), .val (.ref a2), .val (.int (92 : Int32))] [(.int (2 : Int32)), (.ref a1), (.int p0)])) rfl (by rw [hml]; rfl) (Steps.refl _) (argsL := [(.int (2 : Int32))]) (rest := [(.int p0)]) (lenOf pd56f5307 rfl) rfl (by show 2 * 0 + _ ≤ _; exact Nat.le_of_eq rfl) (hb hby d7_35) (fun _ _ => ⟨rfl, e23, (by decide : 0 + 0 ≤ _), (by decide : 0 + 0 ≤ _)⟩)
      dsimp only [Pt.U, Pt.locs, Pt.cells, Pt.slots] at X25 l25 y25 z25 st25 hQ25
      subst l25 y25 z25
      obtain ⟨rfl, N25q, e25⟩ := hQ25
      have N25 := Fr.app N23 N25q
      refine Go.st (fun _ k => st25.trans k) ?_
      show Go p e below _ (T25.setTop (mkF m 38 #[.val (.int p0), .val (.ref a1), .val (.ref a2), .val (.int (92 : Int32))] [(.int (jChar (36 : Int32))), (.int p0)]))
      have hs26 : (jChar (36 : Int32)) = (36 : Int32) := (by decide +kernel)
      rw [hs26]
      show Go p e below _ (T25.setTop (mkF m 38 #[.val (.int p0), .val (.ref a1), .val (.ref a2), .val (.int (92 : Int32))] [(.int (36 : Int32)), (.int p0)]))
      refine Go.st (fun _ k => XS.icmpYes X25.here hx rfl (pc0 := 38) (pc' := 47) rfl (hb hby d7_38) rfl (feq (by rw [hc22]; decide)).2 (by decide) (by decide) k) ?_
      show Go p e below _ (T25.setTop (mkF m 47 #[.val (.int p0), .val (.ref a1), .val (.ref a2), .val (.int (92 : Int32))] []))
      refine Go.st (fun _ k => XS.iloadN X25.here hx rfl (hb hby d7_47) rfl k) ?_
      refine Go.st (fun _ k => XS.aloadN X25.here hx rfl (hb hby d7_48) rfl rfl k) ?_
      refine Go.st (fun _ k => XS.iconst X25.here hx rfl (hb hby d7_49) k) ?_
      obtain ⟨cq27, kq27, q27a, q27b, q27c⟩ := isOf hZ e25 E_a1
      obtain ⟨_, _, ⟨T27, L27, k27, n27⟩, -, X27, ⟨Lc27, hQ27, l27, y27, z27⟩, st27⟩ := X25.virtualBack hx (y := (⟨"java/lang/String", "charAt", "(I)C"⟩ : MethodName)) (z := (⟨"java/lang/String", "charAt", "(I)C"⟩ : MethodName)) hown (mvT hZ (hw _ (List.mem_of_getElem? (i := 9) rfl))) (mvT hZ (hw _ (List.mem_of_getElem? (i := 10) rfl))) (notFace_of_selects (args := #[]) (mvT hZ (hw _ (List.mem_of_getElem? (i := 12) rfl)))) (mvT hZ (hw _ (List.mem_of_getElem? (i := 12) rfl))) (mvT hZ (hw _ (List.mem_of_getElem? (i := 11) rfl))) (by decide) (backOf (W := 1) (rmChar l Z aZ hw [] (64 : Int32) a1 (3 : Int32) b1 (0 : Int32) cs vf k1 (8 : Int32) [(.int (34 : Int32)), (.int (92 : Int32)), (.int (36 : Int32)), (.int (64 : Int32)), (.int (96 : Int32)), (.int (110 : Int32)), (.int (114 : Int32)), (.int (116 : Int32))] h0 n0 hcs rfl hvf ⟨by decide, by decide⟩ rfl Fv_a1 Fc_a1 E_a1 S_cs S_vf Va_a1) hZ (hw _ (List.mem_of_getElem? (i := 13) rfl)) (hw _ (List.mem_of_getElem? (i := 1) rfl)) (by decide) (by decide)) q27a q27c (g := (mkF m 50 #[.val (.int p0), .val (.ref a1), .val (.ref a2), .val (.int (92 : Int32))] [(.int (3 : Int32)), (.ref a1), (.int p0)])) rfl (by rw [hml]; rfl) (Steps.refl _) (argsL := [(.int (3 : Int32))]) (rest := [(.int p0)]) (lenOf pd56f5307 rfl) rfl (by show 2 * 0 + _ ≤ _; exact Nat.le_of_eq rfl) (hb hby d7_50) (fun _ _ => ⟨rfl, e25, (by decide : 0 + 0 ≤ _), (by decide : 0 + 0 ≤ _)⟩)
      dsimp only [Pt.U, Pt.locs, Pt.cells, Pt.slots] at X27 l27 y27 z27 st27 hQ27
      subst l27 y27 z27
      obtain ⟨rfl, N27q, e27⟩ := hQ27
      have N27 := Fr.app N25 N27q
      refine Go.st (fun _ k => st27.trans k) ?_
      show Go p e below _ (T27.setTop (mkF m 53 #[.val (.int p0), .val (.ref a1), .val (.ref a2), .val (.int (92 : Int32))] [(.int (jChar (64 : Int32))), (.int p0)]))
      have hs28 : (jChar (64 : Int32)) = (64 : Int32) := (by decide +kernel)
      rw [hs28]
      show Go p e below _ (T27.setTop (mkF m 53 #[.val (.int p0), .val (.ref a1), .val (.ref a2), .val (.int (92 : Int32))] [(.int (64 : Int32)), (.int p0)]))
      refine Go.st (fun _ k => XS.icmpYes X27.here hx rfl (pc0 := 53) (pc' := 62) rfl (hb hby d7_53) rfl (feq (by rw [hc22]; decide)).2 (by decide) (by decide) k) ?_
      show Go p e below _ (T27.setTop (mkF m 62 #[.val (.int p0), .val (.ref a1), .val (.ref a2), .val (.int (92 : Int32))] []))
      refine Go.st (fun _ k => XS.iloadN X27.here hx rfl (hb hby d7_62) rfl k) ?_
      refine Go.st (fun _ k => XS.aloadN X27.here hx rfl (hb hby d7_63) rfl rfl k) ?_
      refine Go.st (fun _ k => XS.iconst X27.here hx rfl (hb hby d7_64) k) ?_
      obtain ⟨cq29, kq29, q29a, q29b, q29c⟩ := isOf hZ e27 E_a1
      obtain ⟨_, _, ⟨T29, L29, k29, n29⟩, -, X29, ⟨Lc29, hQ29, l29, y29, z29⟩, st29⟩ := X27.virtualBack hx (y := (⟨"java/lang/String", "charAt", "(I)C"⟩ : MethodName)) (z := (⟨"java/lang/String", "charAt", "(I)C"⟩ : MethodName)) hown (mvT hZ (hw _ (List.mem_of_getElem? (i := 9) rfl))) (mvT hZ (hw _ (List.mem_of_getElem? (i := 10) rfl))) (notFace_of_selects (args := #[]) (mvT hZ (hw _ (List.mem_of_getElem? (i := 12) rfl)))) (mvT hZ (hw _ (List.mem_of_getElem? (i := 12) rfl))) (mvT hZ (hw _ (List.mem_of_getElem? (i := 11) rfl))) (by decide) (backOf (W := 1) (rmChar l Z aZ hw [] (96 : Int32) a1 (4 : Int32) b1 (0 : Int32) cs vf k1 (8 : Int32) [(.int (34 : Int32)), (.int (92 : Int32)), (.int (36 : Int32)), (.int (64 : Int32)), (.int (96 : Int32)), (.int (110 : Int32)), (.int (114 : Int32)), (.int (116 : Int32))] h0 n0 hcs rfl hvf ⟨by decide, by decide⟩ rfl Fv_a1 Fc_a1 E_a1 S_cs S_vf Va_a1) hZ (hw _ (List.mem_of_getElem? (i := 13) rfl)) (hw _ (List.mem_of_getElem? (i := 1) rfl)) (by decide) (by decide)) q29a q29c (g := (mkF m 65 #[.val (.int p0), .val (.ref a1), .val (.ref a2), .val (.int (92 : Int32))] [(.int (4 : Int32)), (.ref a1), (.int p0)])) rfl (by rw [hml]; rfl) (Steps.refl _) (argsL := [(.int (4 : Int32))]) (rest := [(.int p0)]) (lenOf pd56f5307 rfl) rfl (by show 2 * 0 + _ ≤ _; exact Nat.le_of_eq rfl) (hb hby d7_65) (fun _ _ => ⟨rfl, e27, (by decide : 0 + 0 ≤ _), (by decide : 0 + 0 ≤ _)⟩)
      dsimp only [Pt.U, Pt.locs, Pt.cells, Pt.slots] at X29 l29 y29 z29 st29 hQ29
      subst l29 y29 z29
      obtain ⟨rfl, N29q, e29⟩ := hQ29
      have N29 := Fr.app N27 N29q
      refine Go.st (fun _ k => st29.trans k) ?_
      show Go p e below _ (T29.setTop (mkF m 68 #[.val (.int p0), .val (.ref a1), .val (.ref a2), .val (.int (92 : Int32))] [(.int (jChar (96 : Int32))), (.int p0)]))
      have hs30 : (jChar (96 : Int32)) = (96 : Int32) := (by decide +kernel)
      rw [hs30]
      show Go p e below _ (T29.setTop (mkF m 68 #[.val (.int p0), .val (.ref a1), .val (.ref a2), .val (.int (92 : Int32))] [(.int (96 : Int32)), (.int p0)]))
      refine Go.st (fun _ k => XS.icmpYes X29.here hx rfl (pc0 := 68) (pc' := 77) rfl (hb hby d7_68) rfl (feq (by rw [hc22]; decide)).2 (by decide) (by decide) k) ?_
      show Go p e below _ (T29.setTop (mkF m 77 #[.val (.int p0), .val (.ref a1), .val (.ref a2), .val (.int (92 : Int32))] []))
      refine Go.st (fun _ k => XS.iloadN X29.here hx rfl (hb hby d7_77) rfl k) ?_
      refine Go.st (fun _ k => XS.aloadN X29.here hx rfl (hb hby d7_78) rfl rfl k) ?_
      refine Go.st (fun _ k => XS.iconst X29.here hx rfl (hb hby d7_79) k) ?_
      obtain ⟨cq31, kq31, q31a, q31b, q31c⟩ := isOf hZ e29 E_a1
      obtain ⟨_, _, ⟨T31, L31, k31, n31⟩, -, X31, ⟨Lc31, hQ31, l31, y31, z31⟩, st31⟩ := X29.virtualBack hx (y := (⟨"java/lang/String", "charAt", "(I)C"⟩ : MethodName)) (z := (⟨"java/lang/String", "charAt", "(I)C"⟩ : MethodName)) hown (mvT hZ (hw _ (List.mem_of_getElem? (i := 9) rfl))) (mvT hZ (hw _ (List.mem_of_getElem? (i := 10) rfl))) (notFace_of_selects (args := #[]) (mvT hZ (hw _ (List.mem_of_getElem? (i := 12) rfl)))) (mvT hZ (hw _ (List.mem_of_getElem? (i := 12) rfl))) (mvT hZ (hw _ (List.mem_of_getElem? (i := 11) rfl))) (by decide) (backOf (W := 1) (rmChar l Z aZ hw [] (110 : Int32) a1 (5 : Int32) b1 (0 : Int32) cs vf k1 (8 : Int32) [(.int (34 : Int32)), (.int (92 : Int32)), (.int (36 : Int32)), (.int (64 : Int32)), (.int (96 : Int32)), (.int (110 : Int32)), (.int (114 : Int32)), (.int (116 : Int32))] h0 n0 hcs rfl hvf ⟨by decide, by decide⟩ rfl Fv_a1 Fc_a1 E_a1 S_cs S_vf Va_a1) hZ (hw _ (List.mem_of_getElem? (i := 13) rfl)) (hw _ (List.mem_of_getElem? (i := 1) rfl)) (by decide) (by decide)) q31a q31c (g := (mkF m 80 #[.val (.int p0), .val (.ref a1), .val (.ref a2), .val (.int (92 : Int32))] [(.int (5 : Int32)), (.ref a1), (.int p0)])) rfl (by rw [hml]; rfl) (Steps.refl _) (argsL := [(.int (5 : Int32))]) (rest := [(.int p0)]) (lenOf pd56f5307 rfl) rfl (by show 2 * 0 + _ ≤ _; exact Nat.le_of_eq rfl) (hb hby d7_80) (fun _ _ => ⟨rfl, e29, (by decide : 0 + 0 ≤ _), (by decide : 0 + 0 ≤ _)⟩)
      dsimp only [Pt.U, Pt.locs, Pt.cells, Pt.slots] at X31 l31 y31 z31 st31 hQ31
      subst l31 y31 z31
      obtain ⟨rfl, N31q, e31⟩ := hQ31
      have N31 := Fr.app N29 N31q
      refine Go.st (fun _ k => st31.trans k) ?_
      show Go p e below _ (T31.setTop (mkF m 83 #[.val (.int p0), .val (.ref a1), .val (.ref a2), .val (.int (92 : Int32))] [(.int (jChar (110 : Int32))), (.int p0)]))
      have hs32 : (jChar (110 : Int32)) = (110 : Int32) := (by decide +kernel)
      rw [hs32]
      show Go p e below _ (T31.setTop (mkF m 83 #[.val (.int p0), .val (.ref a1), .val (.ref a2), .val (.int (92 : Int32))] [(.int (110 : Int32)), (.int p0)]))
      refine Go.st (fun _ k => XS.icmpYes X31.here hx rfl (pc0 := 83) (pc' := 92) rfl (hb hby d7_83) rfl (feq (by rw [hc22]; decide)).2 (by decide) (by decide) k) ?_
      show Go p e below _ (T31.setTop (mkF m 92 #[.val (.int p0), .val (.ref a1), .val (.ref a2), .val (.int (92 : Int32))] []))
      refine Go.st (fun _ k => XS.iloadN X31.here hx rfl (hb hby d7_92) rfl k) ?_
      refine Go.st (fun _ k => XS.aloadN X31.here hx rfl (hb hby d7_93) rfl rfl k) ?_
      refine Go.st (fun _ k => XS.bipush X31.here hx rfl (hb hby d7_94) k) ?_
      obtain ⟨cq33, kq33, q33a, q33b, q33c⟩ := isOf hZ e31 E_a1
      obtain ⟨_, _, ⟨T33, L33, k33, n33⟩, -, X33, ⟨Lc33, hQ33, l33, y33, z33⟩, st33⟩ := X31.virtualBack hx (y := (⟨"java/lang/String", "charAt", "(I)C"⟩ : MethodName)) (z := (⟨"java/lang/String", "charAt", "(I)C"⟩ : MethodName)) hown (mvT hZ (hw _ (List.mem_of_getElem? (i := 9) rfl))) (mvT hZ (hw _ (List.mem_of_getElem? (i := 10) rfl))) (notFace_of_selects (args := #[]) (mvT hZ (hw _ (List.mem_of_getElem? (i := 12) rfl)))) (mvT hZ (hw _ (List.mem_of_getElem? (i := 12) rfl))) (mvT hZ (hw _ (List.mem_of_getElem? (i := 11) rfl))) (by decide) (backOf (W := 1) (rmChar l Z aZ hw [] (114 : Int32) a1 (6 : Int32) b1 (0 : Int32) cs vf k1 (8 : Int32) [(.int (34 : Int32)), (.int (92 : Int32)), (.int (36 : Int32)), (.int (64 : Int32)), (.int (96 : Int32)), (.int (110 : Int32)), (.int (114 : Int32)), (.int (116 : Int32))] h0 n0 hcs rfl hvf ⟨by decide, by decide⟩ rfl Fv_a1 Fc_a1 E_a1 S_cs S_vf Va_a1) hZ (hw _ (List.mem_of_getElem? (i := 13) rfl)) (hw _ (List.mem_of_getElem? (i := 1) rfl)) (by decide) (by decide)) q33a q33c (g := (mkF m 96 #[.val (.int p0), .val (.ref a1), .val (.ref a2), .val (.int (92 : Int32))] [(.int (6 : Int32)), (.ref a1), (.int p0)])) rfl (by rw [hml]; rfl) (Steps.refl _) (argsL := [(.int (6 : Int32))]) (rest := [(.int p0)]) (lenOf pd56f5307 rfl) rfl (by show 2 * 0 + _ ≤ _; exact Nat.le_of_eq rfl) (hb hby d7_96) (fun _ _ => ⟨rfl, e31, (by decide : 0 + 0 ≤ _), (by decide : 0 + 0 ≤ _)⟩)
      dsimp only [Pt.U, Pt.locs, Pt.cells, Pt.slots] at X33 l33 y33 z33 st33 hQ33
      subst l33 y33 z33
      obtain ⟨rfl, N33q, e33⟩ := hQ33
      have N33 := Fr.app N31 N33q
      refine Go.st (fun _ k => st33.trans k) ?_
      show Go p e below _ (T33.setTop (mkF m 99 #[.val (.int p0), .val (.ref a1), .val (.ref a2), .val (.int (92 : Int32))] [(.int (jChar (114 : Int32))), (.int p0)]))
      have hs34 : (jChar (114 : Int32)) = (114 : Int32) := (by decide +kernel)
      rw [hs34]
      show Go p e below _ (T33.setTop (mkF m 99 #[.val (.int p0), .val (.ref a1), .val (.ref a2), .val (.int (92 : Int32))] [(.int (114 : Int32)), (.int p0)]))
      refine Go.st (fun _ k => XS.icmpYes X33.here hx rfl (pc0 := 99) (pc' := 109) rfl (hb hby d7_99) rfl (feq (by rw [hc22]; decide)).2 (by decide) (by decide) k) ?_
      show Go p e below _ (T33.setTop (mkF m 109 #[.val (.int p0), .val (.ref a1), .val (.ref a2), .val (.int (92 : Int32))] []))
      refine Go.st (fun _ k => XS.iloadN X33.here hx rfl (hb hby d7_109) rfl k) ?_
      refine Go.st (fun _ k => XS.aloadN X33.here hx rfl (hb hby d7_110) rfl rfl k) ?_
      refine Go.st (fun _ k => XS.bipush X33.here hx rfl (hb hby d7_111) k) ?_
      obtain ⟨cq35, kq35, q35a, q35b, q35c⟩ := isOf hZ e33 E_a1
      obtain ⟨_, _, ⟨T35, L35, k35, n35⟩, -, X35, ⟨Lc35, hQ35, l35, y35, z35⟩, st35⟩ := X33.virtualBack hx (y := (⟨"java/lang/String", "charAt", "(I)C"⟩ : MethodName)) (z := (⟨"java/lang/String", "charAt", "(I)C"⟩ : MethodName)) hown (mvT hZ (hw _ (List.mem_of_getElem? (i := 9) rfl))) (mvT hZ (hw _ (List.mem_of_getElem? (i := 10) rfl))) (notFace_of_selects (args := #[]) (mvT hZ (hw _ (List.mem_of_getElem? (i := 12) rfl)))) (mvT hZ (hw _ (List.mem_of_getElem? (i := 12) rfl))) (mvT hZ (hw _ (List.mem_of_getElem? (i := 11) rfl))) (by decide) (backOf (W := 1) (rmChar l Z aZ hw [] (116 : Int32) a1 (7 : Int32) b1 (0 : Int32) cs vf k1 (8 : Int32) [(.int (34 : Int32)), (.int (92 : Int32)), (.int (36 : Int32)), (.int (64 : Int32)), (.int (96 : Int32)), (.int (110 : Int32)), (.int (114 : Int32)), (.int (116 : Int32))] h0 n0 hcs rfl hvf ⟨by decide, by decide⟩ rfl Fv_a1 Fc_a1 E_a1 S_cs S_vf Va_a1) hZ (hw _ (List.mem_of_getElem? (i := 13) rfl)) (hw _ (List.mem_of_getElem? (i := 1) rfl)) (by decide) (by decide)) q35a q35c (g := (mkF m 113 #[.val (.int p0), .val (.ref a1), .val (.ref a2), .val (.int (92 : Int32))] [(.int (7 : Int32)), (.ref a1), (.int p0)])) rfl (by rw [hml]; rfl) (Steps.refl _) (argsL := [(.int (7 : Int32))]) (rest := [(.int p0)]) (lenOf pd56f5307 rfl) rfl (by show 2 * 0 + _ ≤ _; exact Nat.le_of_eq rfl) (hb hby d7_113) (fun _ _ => ⟨rfl, e33, (by decide : 0 + 0 ≤ _), (by decide : 0 + 0 ≤ _)⟩)
      dsimp only [Pt.U, Pt.locs, Pt.cells, Pt.slots] at X35 l35 y35 z35 st35 hQ35
      subst l35 y35 z35
      obtain ⟨rfl, N35q, e35⟩ := hQ35
      have N35 := Fr.app N33 N35q
      refine Go.st (fun _ k => st35.trans k) ?_
      show Go p e below _ (T35.setTop (mkF m 116 #[.val (.int p0), .val (.ref a1), .val (.ref a2), .val (.int (92 : Int32))] [(.int (jChar (116 : Int32))), (.int p0)]))
      have hs36 : (jChar (116 : Int32)) = (116 : Int32) := (by decide +kernel)
      rw [hs36]
      show Go p e below _ (T35.setTop (mkF m 116 #[.val (.int p0), .val (.ref a1), .val (.ref a2), .val (.int (92 : Int32))] [(.int (116 : Int32)), (.int p0)]))
      refine Go.st (fun _ k => XS.icmpYes X35.here hx rfl (pc0 := 116) (pc' := 126) rfl (hb hby d7_116) rfl (feq (by rw [hc22]; decide)).2 (by decide) (by decide) k) ?_
      show Go p e below _ (T35.setTop (mkF m 126 #[.val (.int p0), .val (.ref a1), .val (.ref a2), .val (.int (92 : Int32))] []))
      refine Go.st (fun _ k => XS.iloadN X35.here hx rfl (hb hby d7_126) rfl k) ?_
      obtain ⟨fs, hr, hrun, hended, hW, hsame⟩ := X35.leave (v := some (.int (92 : Int32))) (fun h => by rw [Bd.returns] at h; cases h)
      refine ⟨_, _, retI X35 hx Bd.returns (hb hby d7_127) hr, hrun, hended, _, _, rfl, ?_, ⟨_, rfl⟩, hW, hsame.mono (by decide) (by decide)⟩
      show Q_rmExp Z p0 a1 a2 b1 k1 b2 k2 cs vf h0 n0 _ T35.heap _
      rw [e35]
      refine ⟨?_, N35, rfl⟩
      unfold fExp
      rw [if_neg hc3, if_pos hc22]
    · show Go p e below _ (T20.setTop (mkF m 23 #[.val (.int p0), .val (.ref a1), .val (.ref a2), .val (.int (-1 : Int32))] [(.int (92 : Int32)), (.int p0)]))
      refine Go.st (fun _ k => XS.icmpYes X20.here hx rfl (pc0 := 23) (pc' := 32) rfl (hb hby d7_23) rfl (feq hc22).2 (by decide) (by decide) k) ?_
      show Go p e below _ (T20.setTop (mkF m 32 #[.val (.int p0), .val (.ref a1), .val (.ref a2), .val (.int (-1 : Int32))] []))
      refine Go.st (fun _ k => XS.iloadN X20.here hx rfl (hb hby d7_32) rfl k) ?_
      refine Go.st (fun _ k => XS.aloadN X20.here hx rfl (hb hby d7_33) rfl rfl k) ?_
      refine Go.st (fun _ k => XS.iconst X20.here hx rfl (hb hby d7_34) k) ?_
      obtain ⟨cq37, kq37, q37a, q37b, q37c⟩ := isOf hZ e20 E_a1
      obtain ⟨_, _, ⟨T37, L37, k37, n37⟩, -, X37, ⟨Lc37, hQ37, l37, y37, z37⟩, st37⟩ := X20.virtualBack hx (y := (⟨"java/lang/String", "charAt", "(I)C"⟩ : MethodName)) (z := (⟨"java/lang/String", "charAt", "(I)C"⟩ : MethodName)) hown (mvT hZ (hw _ (List.mem_of_getElem? (i := 9) rfl))) (mvT hZ (hw _ (List.mem_of_getElem? (i := 10) rfl))) (notFace_of_selects (args := #[]) (mvT hZ (hw _ (List.mem_of_getElem? (i := 12) rfl)))) (mvT hZ (hw _ (List.mem_of_getElem? (i := 12) rfl))) (mvT hZ (hw _ (List.mem_of_getElem? (i := 11) rfl))) (by decide) (backOf (W := 1) (rmChar l Z aZ hw [] (36 : Int32) a1 (2 : Int32) b1 (0 : Int32) cs vf k1 (8 : Int32) [(.int (34 : Int32)), (.int (92 : Int32)), (.int (36 : Int32)), (.int (64 : Int32)), (.int (96 : Int32)), (.int (110 : Int32)), (.int (114 : Int32)), (.int (116 : Int32))] h0 n0 hcs rfl hvf ⟨by decide, by decide⟩ rfl Fv_a1 Fc_a1 E_a1 S_cs S_vf Va_a1) hZ (hw _ (List.mem_of_getElem? (i := 13) rfl)) (hw _ (List.mem_of_getElem? (i := 1) rfl)) (by decide) (by decide)) q37a q37c (g := (mkF m 35 #[.val (.int p0), .val (.ref a1), .val (.ref a2), .val (.int (-1 : Int32))] [(.int (2 : Int32)), (.ref a1), (.int p0)])) rfl (by rw [hml]; rfl) (Steps.refl _) (argsL := [(.int (2 : Int32))]) (rest := [(.int p0)]) (lenOf pd56f5307 rfl) rfl (by show 2 * 0 + _ ≤ _; exact Nat.le_of_eq rfl) (hb hby d7_35) (fun _ _ => ⟨rfl, e20, (by decide : 0 + 0 ≤ _), (by decide : 0 + 0 ≤ _)⟩)
      dsimp only [Pt.U, Pt.locs, Pt.cells, Pt.slots] at X37 l37 y37 z37 st37 hQ37
      subst l37 y37 z37
      obtain ⟨rfl, N37q, e37⟩ := hQ37
      have N37 := Fr.app N20 N37q
      refine Go.st (fun _ k => st37.trans k) ?_
      show Go p e below _ (T37.setTop (mkF m 38 #[.val (.int p0), .val (.ref a1), .val (.ref a2), .val (.int (-1 : Int32))] [(.int (jChar (36 : Int32))), (.int p0)]))
      have hs38 : (jChar (36 : Int32)) = (36 : Int32) := (by decide +kernel)
      rw [hs38]
      show Go p e below _ (T37.setTop (mkF m 38 #[.val (.int p0), .val (.ref a1), .val (.ref a2), .val (.int (-1 : Int32))] [(.int (36 : Int32)), (.int p0)]))
      by_cases hc39 : p0 = (36 : Int32)
      · show Go p e below _ (T37.setTop (mkF m 38 #[.val (.int p0), .val (.ref a1), .val (.ref a2), .val (.int (-1 : Int32))] [(.int (36 : Int32)), (.int p0)]))
        refine Go.st (fun _ k => XS.icmpNo X37.here hx rfl (hb hby d7_38) rfl (teq hc39).2 k) ?_
        show Go p e below _ (T37.setTop (mkF m 41 #[.val (.int p0), .val (.ref a1), .val (.ref a2), .val (.int (-1 : Int32))] []))
        refine Go.st (fun _ k => XS.aloadN X37.here hx rfl (hb hby d7_41) rfl rfl k) ?_
        refine Go.st (fun _ k => XS.iconst X37.here hx rfl (hb hby d7_42) k) ?_
        obtain ⟨cq40, kq40, q40a, q40b, q40c⟩ := isOf hZ e37 E_a2
        obtain ⟨_, _, ⟨T40, L40, k40, n40⟩, -, X40, ⟨Lc40, hQ40, l40, y40, z40⟩, st40⟩ := X37.virtualBack hx (y := (⟨"java/lang/String", "charAt", "(I)C"⟩ : MethodName)) (z := (⟨"java/lang/String", "charAt", "(I)C"⟩ : MethodName)) hown (mvT hZ (hw _ (List.mem_of_getElem? (i := 9) rfl))) (mvT hZ (hw _ (List.mem_of_getElem? (i := 10) rfl))) (notFace_of_selects (args := #[]) (mvT hZ (hw _ (List.mem_of_getElem? (i := 12) rfl)))) (mvT hZ (hw _ (List.mem_of_getElem? (i := 12) rfl))) (mvT hZ (hw _ (List.mem_of_getElem? (i := 11) rfl))) (by decide) (backOf (W := 0) (rmChar l Z aZ hw [] (36 : Int32) a2 (2 : Int32) b2 (0 : Int32) cs vf k2 (8 : Int32) [(.int (34 : Int32)), (.int (92 : Int32)), (.int (36 : Int32)), (.int (64 : Int32)), (.int (96 : Int32)), (.int (10 : Int32)), (.int (13 : Int32)), (.int (9 : Int32))] h0 n0 hcs rfl hvf ⟨by decide, by decide⟩ rfl Fv_a2 Fc_a2 E_a2 S_cs S_vf Va_a2) hZ (hw _ (List.mem_of_getElem? (i := 13) rfl)) (hw _ (List.mem_of_getElem? (i := 1) rfl)) (by decide) (by decide)) q40a q40c (g := (mkF m 43 #[.val (.int p0), .val (.ref a1), .val (.ref a2), .val (.int (-1 : Int32))] [(.int (2 : Int32)), (.ref a2)])) rfl (by rw [hml]; rfl) (Steps.refl _) (argsL := [(.int (2 : Int32))]) (rest := []) (lenOf pd56f5307 rfl) rfl (by show 2 * 0 + _ ≤ _; exact Nat.le_of_eq rfl) (hb hby d7_43) (fun _ _ => ⟨rfl, e37, (by decide : 0 + 0 ≤ _), (by decide : 0 + 0 ≤ _)⟩)
        dsimp only [Pt.U, Pt.locs, Pt.cells, Pt.slots] at X40 l40 y40 z40 st40 hQ40
        subst l40 y40 z40
        obtain ⟨rfl, N40q, e40⟩ := hQ40
        have N40 := Fr.app N37 N40q
        refine Go.st (fun _ k => st40.trans k) ?_
        show Go p e below _ (T40.setTop (mkF m 46 #[.val (.int p0), .val (.ref a1), .val (.ref a2), .val (.int (-1 : Int32))] [(.int (jChar (36 : Int32)))]))
        have hs41 : (jChar (36 : Int32)) = (36 : Int32) := (by decide +kernel)
        rw [hs41]
        show Go p e below _ (T40.setTop (mkF m 46 #[.val (.int p0), .val (.ref a1), .val (.ref a2), .val (.int (-1 : Int32))] [(.int (36 : Int32))]))
        refine Go.st (fun _ k => XS.istoreN X40.here hx rfl (hb hby d7_46) rfl (l' := #[.val (.int p0), .val (.ref a1), .val (.ref a2), .val (.int (36 : Int32))]) rfl k) ?_
        show Go p e below _ (T40.setTop (mkF m 47 #[.val (.int p0), .val (.ref a1), .val (.ref a2), .val (.int (36 : Int32))] []))
        refine Go.st (fun _ k => XS.iloadN X40.here hx rfl (hb hby d7_47) rfl k) ?_
        refine Go.st (fun _ k => XS.aloadN X40.here hx rfl (hb hby d7_48) rfl rfl k) ?_
        refine Go.st (fun _ k => XS.iconst X40.here hx rfl (hb hby d7_49) k) ?_
        obtain ⟨cq42, kq42, q42a, q42b, q42c⟩ := isOf hZ e40 E_a1
        obtain ⟨_, _, ⟨T42, L42, k42, n42⟩, -, X42, ⟨Lc42, hQ42, l42, y42, z42⟩, st42⟩ := X40.virtualBack hx (y := (⟨"java/lang/String", "charAt", "(I)C"⟩ : MethodName)) (z := (⟨"java/lang/String", "charAt", "(I)C"⟩ : MethodName)) hown (mvT hZ (hw _ (List.mem_of_getElem? (i := 9) rfl))) (mvT hZ (hw _ (List.mem_of_getElem? (i := 10) rfl))) (notFace_of_selects (args := #[]) (mvT hZ (hw _ (List.mem_of_getElem? (i := 12) rfl)))) (mvT hZ (hw _ (List.mem_of_getElem? (i := 12) rfl))) (mvT hZ (hw _ (List.mem_of_getElem? (i := 11) rfl))) (by decide) (backOf (W := 1) (rmChar l Z aZ hw [] (64 : Int32) a1 (3 : Int32) b1 (0 : Int32) cs vf k1 (8 : Int32) [(.int (34 : Int32)), (.int (92 : Int32)), (.int (36 : Int32)), (.int (64 : Int32)), (.int (96 : Int32)), (.int (110 : Int32)), (.int (114 : Int32)), (.int (116 : Int32))] h0 n0 hcs rfl hvf ⟨by decide, by decide⟩ rfl Fv_a1 Fc_a1 E_a1 S_cs S_vf Va_a1) hZ (hw _ (List.mem_of_getElem? (i := 13) rfl)) (hw _ (List.mem_of_getElem? (i := 1) rfl)) (by decide) (by decide)) q42a q42c (g := (mkF m 50 #[.val (.int p0), .val (.ref a1), .val (.ref a2), .val (.int (36 : Int32))] [(.int (3 : Int32)), (.ref a1), (.int p0)])) rfl (by rw [hml]; rfl) (Steps.refl _) (argsL := [(.int (3 : Int32))]) (rest := [(.int p0)]) (lenOf pd56f5307 rfl) rfl (by show 2 * 0 + _ ≤ _; exact Nat.le_of_eq rfl) (hb hby d7_50) (fun _ _ => ⟨rfl, e40, (by decide : 0 + 0 ≤ _), (by decide : 0 + 0 ≤ _)⟩)
        dsimp only [Pt.U, Pt.locs, Pt.cells, Pt.slots] at X42 l42 y42 z42 st42 hQ42
        subst l42 y42 z42
        obtain ⟨rfl, N42q, e42⟩ := hQ42
        have N42 := Fr.app N40 N42q
        refine Go.st (fun _ k => st42.trans k) ?_
        show Go p e below _ (T42.setTop (mkF m 53 #[.val (.int p0), .val (.ref a1), .val (.ref a2), .val (.int (36 : Int32))] [(.int (jChar (64 : Int32))), (.int p0)]))
        have hs43 : (jChar (64 : Int32)) = (64 : Int32) := (by decide +kernel)
        rw [hs43]
        show Go p e below _ (T42.setTop (mkF m 53 #[.val (.int p0), .val (.ref a1), .val (.ref a2), .val (.int (36 : Int32))] [(.int (64 : Int32)), (.int p0)]))
        refine Go.st (fun _ k => XS.icmpYes X42.here hx rfl (pc0 := 53) (pc' := 62) rfl (hb hby d7_53) rfl (feq (by rw [hc39]; decide)).2 (by decide) (by decide) k) ?_
        show Go p e below _ (T42.setTop (mkF m 62 #[.val (.int p0), .val (.ref a1), .val (.ref a2), .val (.int (36 : Int32))] []))
        refine Go.st (fun _ k => XS.iloadN X42.here hx rfl (hb hby d7_62) rfl k) ?_
        refine Go.st (fun _ k => XS.aloadN X42.here hx rfl (hb hby d7_63) rfl rfl k) ?_
        refine Go.st (fun _ k => XS.iconst X42.here hx rfl (hb hby d7_64) k) ?_
        obtain ⟨cq44, kq44, q44a, q44b, q44c⟩ := isOf hZ e42 E_a1
        obtain ⟨_, _, ⟨T44, L44, k44, n44⟩, -, X44, ⟨Lc44, hQ44, l44, y44, z44⟩, st44⟩ := X42.virtualBack hx (y := (⟨"java/lang/String", "charAt", "(I)C"⟩ : MethodName)) (z := (⟨"java/lang/String", "charAt", "(I)C"⟩ : MethodName)) hown (mvT hZ (hw _ (List.mem_of_getElem? (i := 9) rfl))) (mvT hZ (hw _ (List.mem_of_getElem? (i := 10) rfl))) (notFace_of_selects (args := #[]) (mvT hZ (hw _ (List.mem_of_getElem? (i := 12) rfl)))) (mvT hZ (hw _ (List.mem_of_getElem? (i := 12) rfl))) (mvT hZ (hw _ (List.mem_of_getElem? (i := 11) rfl))) (by decide) (backOf (W := 1) (rmChar l Z aZ hw [] (96 : Int32) a1 (4 : Int32) b1 (0 : Int32) cs vf k1 (8 : Int32) [(.int (34 : Int32)), (.int (92 : Int32)), (.int (36 : Int32)), (.int (64 : Int32)), (.int (96 : Int32)), (.int (110 : Int32)), (.int (114 : Int32)), (.int (116 : Int32))] h0 n0 hcs rfl hvf ⟨by decide, by decide⟩ rfl Fv_a1 Fc_a1 E_a1 S_cs S_vf Va_a1) hZ (hw _ (List.mem_of_getElem? (i := 13) rfl)) (hw _ (List.mem_of_getElem? (i := 1) rfl)) (by decide) (by decide)) q44a q44c (g := (mkF m 65 #[.val (.int p0), .val (.ref a1), .val (.ref a2), .val (.int (36 : Int32))] [(.int (4 : Int32)), (.ref a1), (.int p0)])) rfl (by rw [hml]; rfl) (Steps.refl _) (argsL := [(.int (4 : Int32))]) (rest := [(.int p0)]) (lenOf pd56f5307 rfl) rfl (by show 2 * 0 + _ ≤ _; exact Nat.le_of_eq rfl) (hb hby d7_65) (fun _ _ => ⟨rfl, e42, (by decide : 0 + 0 ≤ _), (by decide : 0 + 0 ≤ _)⟩)
        dsimp only [Pt.U, Pt.locs, Pt.cells, Pt.slots] at X44 l44 y44 z44 st44 hQ44
        subst l44 y44 z44
        obtain ⟨rfl, N44q, e44⟩ := hQ44
        have N44 := Fr.app N42 N44q
        refine Go.st (fun _ k => st44.trans k) ?_
        show Go p e below _ (T44.setTop (mkF m 68 #[.val (.int p0), .val (.ref a1), .val (.ref a2), .val (.int (36 : Int32))] [(.int (jChar (96 : Int32))), (.int p0)]))
        have hs45 : (jChar (96 : Int32)) = (96 : Int32) := (by decide +kernel)
        rw [hs45]
        show Go p e below _ (T44.setTop (mkF m 68 #[.val (.int p0), .val (.ref a1), .val (.ref a2), .val (.int (36 : Int32))] [(.int (96 : Int32)), (.int p0)]))
        refine Go.st (fun _ k => XS.icmpYes X44.here hx rfl (pc0 := 68) (pc' := 77) rfl (hb hby d7_68) rfl (feq (by rw [hc39]; decide)).2 (by decide) (by decide) k) ?_
        show Go p e below _ (T44.setTop (mkF m 77 #[.val (.int p0), .val (.ref a1), .val (.ref a2), .val (.int (36 : Int32))] []))
        refine Go.st (fun _ k => XS.iloadN X44.here hx rfl (hb hby d7_77) rfl k) ?_
        refine Go.st (fun _ k => XS.aloadN X44.here hx rfl (hb hby d7_78) rfl rfl k) ?_
        refine Go.st (fun _ k => XS.iconst X44.here hx rfl (hb hby d7_79) k) ?_
        obtain ⟨cq46, kq46, q46a, q46b, q46c⟩ := isOf hZ e44 E_a1
        obtain ⟨_, _, ⟨T46, L46, k46, n46⟩, -, X46, ⟨Lc46, hQ46, l46, y46, z46⟩, st46⟩ := X44.virtualBack hx (y := (⟨"java/lang/String", "charAt", "(I)C"⟩ : MethodName)) (z := (⟨"java/lang/String", "charAt", "(I)C"⟩ : MethodName)) hown (mvT hZ (hw _ (List.mem_of_getElem? (i := 9) rfl))) (mvT hZ (hw _ (List.mem_of_getElem? (i := 10) rfl))) (notFace_of_selects (args := #[]) (mvT hZ (hw _ (List.mem_of_getElem? (i := 12) rfl)))) (mvT hZ (hw _ (List.mem_of_getElem? (i := 12) rfl))) (mvT hZ (hw _ (List.mem_of_getElem? (i := 11) rfl))) (by decide) (backOf (W := 1) (rmChar l Z aZ hw [] (110 : Int32) a1 (5 : Int32) b1 (0 : Int32) cs vf k1 (8 : Int32) [(.int (34 : Int32)), (.int (92 : Int32)), (.int (36 : Int32)), (.int (64 : Int32)), (.int (96 : Int32)), (.int (110 : Int32)), (.int (114 : Int32)), (.int (116 : Int32))] h0 n0 hcs rfl hvf ⟨by decide, by decide⟩ rfl Fv_a1 Fc_a1 E_a1 S_cs S_vf Va_a1) hZ (hw _ (List.mem_of_getElem? (i := 13) rfl)) (hw _ (List.mem_of_getElem? (i := 1) rfl)) (by decide) (by decide)) q46a q46c (g := (mkF m 80 #[.val (.int p0), .val (.ref a1), .val (.ref a2), .val (.int (36 : Int32))] [(.int (5 : Int32)), (.ref a1), (.int p0)])) rfl (by rw [hml]; rfl) (Steps.refl _) (argsL := [(.int (5 : Int32))]) (rest := [(.int p0)]) (lenOf pd56f5307 rfl) rfl (by show 2 * 0 + _ ≤ _; exact Nat.le_of_eq rfl) (hb hby d7_80) (fun _ _ => ⟨rfl, e44, (by decide : 0 + 0 ≤ _), (by decide : 0 + 0 ≤ _)⟩)
        dsimp only [Pt.U, Pt.locs, Pt.cells, Pt.slots] at X46 l46 y46 z46 st46 hQ46
        subst l46 y46 z46
        obtain ⟨rfl, N46q, e46⟩ := hQ46
        have N46 := Fr.app N44 N46q
        refine Go.st (fun _ k => st46.trans k) ?_
        show Go p e below _ (T46.setTop (mkF m 83 #[.val (.int p0), .val (.ref a1), .val (.ref a2), .val (.int (36 : Int32))] [(.int (jChar (110 : Int32))), (.int p0)]))
        have hs47 : (jChar (110 : Int32)) = (110 : Int32) := (by decide +kernel)
        rw [hs47]
        show Go p e below _ (T46.setTop (mkF m 83 #[.val (.int p0), .val (.ref a1), .val (.ref a2), .val (.int (36 : Int32))] [(.int (110 : Int32)), (.int p0)]))
        refine Go.st (fun _ k => XS.icmpYes X46.here hx rfl (pc0 := 83) (pc' := 92) rfl (hb hby d7_83) rfl (feq (by rw [hc39]; decide)).2 (by decide) (by decide) k) ?_
        show Go p e below _ (T46.setTop (mkF m 92 #[.val (.int p0), .val (.ref a1), .val (.ref a2), .val (.int (36 : Int32))] []))
        refine Go.st (fun _ k => XS.iloadN X46.here hx rfl (hb hby d7_92) rfl k) ?_
        refine Go.st (fun _ k => XS.aloadN X46.here hx rfl (hb hby d7_93) rfl rfl k) ?_
        refine Go.st (fun _ k => XS.bipush X46.here hx rfl (hb hby d7_94) k) ?_
        obtain ⟨cq48, kq48, q48a, q48b, q48c⟩ := isOf hZ e46 E_a1
        obtain ⟨_, _, ⟨T48, L48, k48, n48⟩, -, X48, ⟨Lc48, hQ48, l48, y48, z48⟩, st48⟩ := X46.virtualBack hx (y := (⟨"java/lang/String", "charAt", "(I)C"⟩ : MethodName)) (z := (⟨"java/lang/String", "charAt", "(I)C"⟩ : MethodName)) hown (mvT hZ (hw _ (List.mem_of_getElem? (i := 9) rfl))) (mvT hZ (hw _ (List.mem_of_getElem? (i := 10) rfl))) (notFace_of_selects (args := #[]) (mvT hZ (hw _ (List.mem_of_getElem? (i := 12) rfl)))) (mvT hZ (hw _ (List.mem_of_getElem? (i := 12) rfl))) (mvT hZ (hw _ (List.mem_of_getElem? (i := 11) rfl))) (by decide) (backOf (W := 1) (rmChar l Z aZ hw [] (114 : Int32) a1 (6 : Int32) b1 (0 : Int32) cs vf k1 (8 : Int32) [(.int (34 : Int32)), (.int (92 : Int32)), (.int (36 : Int32)), (.int (64 : Int32)), (.int (96 : Int32)), (.int (110 : Int32)), (.int (114 : Int32)), (.int (116 : Int32))] h0 n0 hcs rfl hvf ⟨by decide, by decide⟩ rfl Fv_a1 Fc_a1 E_a1 S_cs S_vf Va_a1) hZ (hw _ (List.mem_of_getElem? (i := 13) rfl)) (hw _ (List.mem_of_getElem? (i := 1) rfl)) (by decide) (by decide)) q48a q48c (g := (mkF m 96 #[.val (.int p0), .val (.ref a1), .val (.ref a2), .val (.int (36 : Int32))] [(.int (6 : Int32)), (.ref a1), (.int p0)])) rfl (by rw [hml]; rfl) (Steps.refl _) (argsL := [(.int (6 : Int32))]) (rest := [(.int p0)]) (lenOf pd56f5307 rfl) rfl (by show 2 * 0 + _ ≤ _; exact Nat.le_of_eq rfl) (hb hby d7_96) (fun _ _ => ⟨rfl, e46, (by decide : 0 + 0 ≤ _), (by decide : 0 + 0 ≤ _)⟩)
        dsimp only [Pt.U, Pt.locs, Pt.cells, Pt.slots] at X48 l48 y48 z48 st48 hQ48
        subst l48 y48 z48
        obtain ⟨rfl, N48q, e48⟩ := hQ48
        have N48 := Fr.app N46 N48q
        refine Go.st (fun _ k => st48.trans k) ?_
        show Go p e below _ (T48.setTop (mkF m 99 #[.val (.int p0), .val (.ref a1), .val (.ref a2), .val (.int (36 : Int32))] [(.int (jChar (114 : Int32))), (.int p0)]))
        have hs49 : (jChar (114 : Int32)) = (114 : Int32) := (by decide +kernel)
        rw [hs49]
        show Go p e below _ (T48.setTop (mkF m 99 #[.val (.int p0), .val (.ref a1), .val (.ref a2), .val (.int (36 : Int32))] [(.int (114 : Int32)), (.int p0)]))
        refine Go.st (fun _ k => XS.icmpYes X48.here hx rfl (pc0 := 99) (pc' := 109) rfl (hb hby d7_99) rfl (feq (by rw [hc39]; decide)).2 (by decide) (by decide) k) ?_
        show Go p e below _ (T48.setTop (mkF m 109 #[.val (.int p0), .val (.ref a1), .val (.ref a2), .val (.int (36 : Int32))] []))
        refine Go.st (fun _ k => XS.iloadN X48.here hx rfl (hb hby d7_109) rfl k) ?_
        refine Go.st (fun _ k => XS.aloadN X48.here hx rfl (hb hby d7_110) rfl rfl k) ?_
        refine Go.st (fun _ k => XS.bipush X48.here hx rfl (hb hby d7_111) k) ?_
        obtain ⟨cq50, kq50, q50a, q50b, q50c⟩ := isOf hZ e48 E_a1
        obtain ⟨_, _, ⟨T50, L50, k50, n50⟩, -, X50, ⟨Lc50, hQ50, l50, y50, z50⟩, st50⟩ := X48.virtualBack hx (y := (⟨"java/lang/String", "charAt", "(I)C"⟩ : MethodName)) (z := (⟨"java/lang/String", "charAt", "(I)C"⟩ : MethodName)) hown (mvT hZ (hw _ (List.mem_of_getElem? (i := 9) rfl))) (mvT hZ (hw _ (List.mem_of_getElem? (i := 10) rfl))) (notFace_of_selects (args := #[]) (mvT hZ (hw _ (List.mem_of_getElem? (i := 12) rfl)))) (mvT hZ (hw _ (List.mem_of_getElem? (i := 12) rfl))) (mvT hZ (hw _ (List.mem_of_getElem? (i := 11) rfl))) (by decide) (backOf (W := 1) (rmChar l Z aZ hw [] (116 : Int32) a1 (7 : Int32) b1 (0 : Int32) cs vf k1 (8 : Int32) [(.int (34 : Int32)), (.int (92 : Int32)), (.int (36 : Int32)), (.int (64 : Int32)), (.int (96 : Int32)), (.int (110 : Int32)), (.int (114 : Int32)), (.int (116 : Int32))] h0 n0 hcs rfl hvf ⟨by decide, by decide⟩ rfl Fv_a1 Fc_a1 E_a1 S_cs S_vf Va_a1) hZ (hw _ (List.mem_of_getElem? (i := 13) rfl)) (hw _ (List.mem_of_getElem? (i := 1) rfl)) (by decide) (by decide)) q50a q50c (g := (mkF m 113 #[.val (.int p0), .val (.ref a1), .val (.ref a2), .val (.int (36 : Int32))] [(.int (7 : Int32)), (.ref a1), (.int p0)])) rfl (by rw [hml]; rfl) (Steps.refl _) (argsL := [(.int (7 : Int32))]) (rest := [(.int p0)]) (lenOf pd56f5307 rfl) rfl (by show 2 * 0 + _ ≤ _; exact Nat.le_of_eq rfl) (hb hby d7_113) (fun _ _ => ⟨rfl, e48, (by decide : 0 + 0 ≤ _), (by decide : 0 + 0 ≤ _)⟩)
        dsimp only [Pt.U, Pt.locs, Pt.cells, Pt.slots] at X50 l50 y50 z50 st50 hQ50
        subst l50 y50 z50
        obtain ⟨rfl, N50q, e50⟩ := hQ50
        have N50 := Fr.app N48 N50q
        refine Go.st (fun _ k => st50.trans k) ?_
        show Go p e below _ (T50.setTop (mkF m 116 #[.val (.int p0), .val (.ref a1), .val (.ref a2), .val (.int (36 : Int32))] [(.int (jChar (116 : Int32))), (.int p0)]))
        have hs51 : (jChar (116 : Int32)) = (116 : Int32) := (by decide +kernel)
        rw [hs51]
        show Go p e below _ (T50.setTop (mkF m 116 #[.val (.int p0), .val (.ref a1), .val (.ref a2), .val (.int (36 : Int32))] [(.int (116 : Int32)), (.int p0)]))
        refine Go.st (fun _ k => XS.icmpYes X50.here hx rfl (pc0 := 116) (pc' := 126) rfl (hb hby d7_116) rfl (feq (by rw [hc39]; decide)).2 (by decide) (by decide) k) ?_
        show Go p e below _ (T50.setTop (mkF m 126 #[.val (.int p0), .val (.ref a1), .val (.ref a2), .val (.int (36 : Int32))] []))
        refine Go.st (fun _ k => XS.iloadN X50.here hx rfl (hb hby d7_126) rfl k) ?_
        obtain ⟨fs, hr, hrun, hended, hW, hsame⟩ := X50.leave (v := some (.int (36 : Int32))) (fun h => by rw [Bd.returns] at h; cases h)
        refine ⟨_, _, retI X50 hx Bd.returns (hb hby d7_127) hr, hrun, hended, _, _, rfl, ?_, ⟨_, rfl⟩, hW, hsame.mono (by decide) (by decide)⟩
        show Q_rmExp Z p0 a1 a2 b1 k1 b2 k2 cs vf h0 n0 _ T50.heap _
        rw [e50]
        refine ⟨?_, N50, rfl⟩
        unfold fExp
        rw [if_neg hc3, if_neg hc22, if_pos hc39]
      · show Go p e below _ (T37.setTop (mkF m 38 #[.val (.int p0), .val (.ref a1), .val (.ref a2), .val (.int (-1 : Int32))] [(.int (36 : Int32)), (.int p0)]))
        refine Go.st (fun _ k => XS.icmpYes X37.here hx rfl (pc0 := 38) (pc' := 47) rfl (hb hby d7_38) rfl (feq hc39).2 (by decide) (by decide) k) ?_
        show Go p e below _ (T37.setTop (mkF m 47 #[.val (.int p0), .val (.ref a1), .val (.ref a2), .val (.int (-1 : Int32))] []))
        refine Go.st (fun _ k => XS.iloadN X37.here hx rfl (hb hby d7_47) rfl k) ?_
        refine Go.st (fun _ k => XS.aloadN X37.here hx rfl (hb hby d7_48) rfl rfl k) ?_
        refine Go.st (fun _ k => XS.iconst X37.here hx rfl (hb hby d7_49) k) ?_
        obtain ⟨cq52, kq52, q52a, q52b, q52c⟩ := isOf hZ e37 E_a1
        obtain ⟨_, _, ⟨T52, L52, k52, n52⟩, -, X52, ⟨Lc52, hQ52, l52, y52, z52⟩, st52⟩ := X37.virtualBack hx (y := (⟨"java/lang/String", "charAt", "(I)C"⟩ : MethodName)) (z := (⟨"java/lang/String", "charAt", "(I)C"⟩ : MethodName)) hown (mvT hZ (hw _ (List.mem_of_getElem? (i := 9) rfl))) (mvT hZ (hw _ (List.mem_of_getElem? (i := 10) rfl))) (notFace_of_selects (args := #[]) (mvT hZ (hw _ (List.mem_of_getElem? (i := 12) rfl)))) (mvT hZ (hw _ (List.mem_of_getElem? (i := 12) rfl))) (mvT hZ (hw _ (List.mem_of_getElem? (i := 11) rfl))) (by decide) (backOf (W := 1) (rmChar l Z aZ hw [] (64 : Int32) a1 (3 : Int32) b1 (0 : Int32) cs vf k1 (8 : Int32) [(.int (34 : Int32)), (.int (92 : Int32)), (.int (36 : Int32)), (.int (64 : Int32)), (.int (96 : Int32)), (.int (110 : Int32)), (.int (114 : Int32)), (.int (116 : Int32))] h0 n0 hcs rfl hvf ⟨by decide, by decide⟩ rfl Fv_a1 Fc_a1 E_a1 S_cs S_vf Va_a1) hZ (hw _ (List.mem_of_getElem? (i := 13) rfl)) (hw _ (List.mem_of_getElem? (i := 1) rfl)) (by decide) (by decide)) q52a q52c (g := (mkF m 50 #[.val (.int p0), .val (.ref a1), .val (.ref a2), .val (.int (-1 : Int32))] [(.int (3 : Int32)), (.ref a1), (.int p0)])) rfl (by rw [hml]; rfl) (Steps.refl _) (argsL := [(.int (3 : Int32))]) (rest := [(.int p0)]) (lenOf pd56f5307 rfl) rfl (by show 2 * 0 + _ ≤ _; exact Nat.le_of_eq rfl) (hb hby d7_50) (fun _ _ => ⟨rfl, e37, (by decide : 0 + 0 ≤ _), (by decide : 0 + 0 ≤ _)⟩)
        dsimp only [Pt.U, Pt.locs, Pt.cells, Pt.slots] at X52 l52 y52 z52 st52 hQ52
        subst l52 y52 z52
        obtain ⟨rfl, N52q, e52⟩ := hQ52
        have N52 := Fr.app N37 N52q
        refine Go.st (fun _ k => st52.trans k) ?_
        show Go p e below _ (T52.setTop (mkF m 53 #[.val (.int p0), .val (.ref a1), .val (.ref a2), .val (.int (-1 : Int32))] [(.int (jChar (64 : Int32))), (.int p0)]))
        have hs53 : (jChar (64 : Int32)) = (64 : Int32) := (by decide +kernel)
        rw [hs53]
        show Go p e below _ (T52.setTop (mkF m 53 #[.val (.int p0), .val (.ref a1), .val (.ref a2), .val (.int (-1 : Int32))] [(.int (64 : Int32)), (.int p0)]))
        by_cases hc54 : p0 = (64 : Int32)
        · show Go p e below _ (T52.setTop (mkF m 53 #[.val (.int p0), .val (.ref a1), .val (.ref a2), .val (.int (-1 : Int32))] [(.int (64 : Int32)), (.int p0)]))
          refine Go.st (fun _ k => XS.icmpNo X52.here hx rfl (hb hby d7_53) rfl (teq hc54).2 k) ?_
          show Go p e below _ (T52.setTop (mkF m 56 #[.val (.int p0), .val (.ref a1), .val (.ref a2), .val (.int (-1 : Int32))] []))
          refine Go.st (fun _ k => XS.aloadN X52.here hx rfl (hb hby d7_56) rfl rfl k) ?_
          refine Go.st (fun _ k => XS.iconst X52.here hx rfl (hb hby d7_57) k) ?_
          obtain ⟨cq55, kq55, q55a, q55b, q55c⟩ := isOf hZ e52 E_a2
          obtain ⟨_, _, ⟨T55, L55, k55, n55⟩, -, X55, ⟨Lc55, hQ55, l55, y55, z55⟩, st55⟩ := X52.virtualBack hx (y := (⟨"java/lang/String", "charAt", "(I)C"⟩ : MethodName)) (z := (⟨"java/lang/String", "charAt", "(I)C"⟩ : MethodName)) hown (mvT hZ (hw _ (List.mem_of_getElem? (i := 9) rfl))) (mvT hZ (hw _ (List.mem_of_getElem? (i := 10) rfl))) (notFace_of_selects (args := #[]) (mvT hZ (hw _ (List.mem_of_getElem? (i := 12) rfl)))) (mvT hZ (hw _ (List.mem_of_getElem? (i := 12) rfl))) (mvT hZ (hw _ (List.mem_of_getElem? (i := 11) rfl))) (by decide) (backOf (W := 0) (rmChar l Z aZ hw [] (64 : Int32) a2 (3 : Int32) b2 (0 : Int32) cs vf k2 (8 : Int32) [(.int (34 : Int32)), (.int (92 : Int32)), (.int (36 : Int32)), (.int (64 : Int32)), (.int (96 : Int32)), (.int (10 : Int32)), (.int (13 : Int32)), (.int (9 : Int32))] h0 n0 hcs rfl hvf ⟨by decide, by decide⟩ rfl Fv_a2 Fc_a2 E_a2 S_cs S_vf Va_a2) hZ (hw _ (List.mem_of_getElem? (i := 13) rfl)) (hw _ (List.mem_of_getElem? (i := 1) rfl)) (by decide) (by decide)) q55a q55c (g := (mkF m 58 #[.val (.int p0), .val (.ref a1), .val (.ref a2), .val (.int (-1 : Int32))] [(.int (3 : Int32)), (.ref a2)])) rfl (by rw [hml]; rfl) (Steps.refl _) (argsL := [(.int (3 : Int32))]) (rest := []) (lenOf pd56f5307 rfl) rfl (by show 2 * 0 + _ ≤ _; exact Nat.le_of_eq rfl) (hb hby d7_58) (fun _ _ => ⟨rfl, e52, (by decide : 0 + 0 ≤ _), (by decide : 0 + 0 ≤ _)⟩)
          dsimp only [Pt.U, Pt.locs, Pt.cells, Pt.slots] at X55 l55 y55 z55 st55 hQ55
          subst l55 y55 z55
          obtain ⟨rfl, N55q, e55⟩ := hQ55
          have N55 := Fr.app N52 N55q
          refine Go.st (fun _ k => st55.trans k) ?_
          show Go p e below _ (T55.setTop (mkF m 61 #[.val (.int p0), .val (.ref a1), .val (.ref a2), .val (.int (-1 : Int32))] [(.int (jChar (64 : Int32)))]))
          have hs56 : (jChar (64 : Int32)) = (64 : Int32) := (by decide +kernel)
          rw [hs56]
          show Go p e below _ (T55.setTop (mkF m 61 #[.val (.int p0), .val (.ref a1), .val (.ref a2), .val (.int (-1 : Int32))] [(.int (64 : Int32))]))
          refine Go.st (fun _ k => XS.istoreN X55.here hx rfl (hb hby d7_61) rfl (l' := #[.val (.int p0), .val (.ref a1), .val (.ref a2), .val (.int (64 : Int32))]) rfl k) ?_
          show Go p e below _ (T55.setTop (mkF m 62 #[.val (.int p0), .val (.ref a1), .val (.ref a2), .val (.int (64 : Int32))] []))
          refine Go.st (fun _ k => XS.iloadN X55.here hx rfl (hb hby d7_62) rfl k) ?_
          refine Go.st (fun _ k => XS.aloadN X55.here hx rfl (hb hby d7_63) rfl rfl k) ?_
          refine Go.st (fun _ k => XS.iconst X55.here hx rfl (hb hby d7_64) k) ?_
          obtain ⟨cq57, kq57, q57a, q57b, q57c⟩ := isOf hZ e55 E_a1
          obtain ⟨_, _, ⟨T57, L57, k57, n57⟩, -, X57, ⟨Lc57, hQ57, l57, y57, z57⟩, st57⟩ := X55.virtualBack hx (y := (⟨"java/lang/String", "charAt", "(I)C"⟩ : MethodName)) (z := (⟨"java/lang/String", "charAt", "(I)C"⟩ : MethodName)) hown (mvT hZ (hw _ (List.mem_of_getElem? (i := 9) rfl))) (mvT hZ (hw _ (List.mem_of_getElem? (i := 10) rfl))) (notFace_of_selects (args := #[]) (mvT hZ (hw _ (List.mem_of_getElem? (i := 12) rfl)))) (mvT hZ (hw _ (List.mem_of_getElem? (i := 12) rfl))) (mvT hZ (hw _ (List.mem_of_getElem? (i := 11) rfl))) (by decide) (backOf (W := 1) (rmChar l Z aZ hw [] (96 : Int32) a1 (4 : Int32) b1 (0 : Int32) cs vf k1 (8 : Int32) [(.int (34 : Int32)), (.int (92 : Int32)), (.int (36 : Int32)), (.int (64 : Int32)), (.int (96 : Int32)), (.int (110 : Int32)), (.int (114 : Int32)), (.int (116 : Int32))] h0 n0 hcs rfl hvf ⟨by decide, by decide⟩ rfl Fv_a1 Fc_a1 E_a1 S_cs S_vf Va_a1) hZ (hw _ (List.mem_of_getElem? (i := 13) rfl)) (hw _ (List.mem_of_getElem? (i := 1) rfl)) (by decide) (by decide)) q57a q57c (g := (mkF m 65 #[.val (.int p0), .val (.ref a1), .val (.ref a2), .val (.int (64 : Int32))] [(.int (4 : Int32)), (.ref a1), (.int p0)])) rfl (by rw [hml]; rfl) (Steps.refl _) (argsL := [(.int (4 : Int32))]) (rest := [(.int p0)]) (lenOf pd56f5307 rfl) rfl (by show 2 * 0 + _ ≤ _; exact Nat.le_of_eq rfl) (hb hby d7_65) (fun _ _ => ⟨rfl, e55, (by decide : 0 + 0 ≤ _), (by decide : 0 + 0 ≤ _)⟩)
          dsimp only [Pt.U, Pt.locs, Pt.cells, Pt.slots] at X57 l57 y57 z57 st57 hQ57
          subst l57 y57 z57
          obtain ⟨rfl, N57q, e57⟩ := hQ57
          have N57 := Fr.app N55 N57q
          refine Go.st (fun _ k => st57.trans k) ?_
          show Go p e below _ (T57.setTop (mkF m 68 #[.val (.int p0), .val (.ref a1), .val (.ref a2), .val (.int (64 : Int32))] [(.int (jChar (96 : Int32))), (.int p0)]))
          have hs58 : (jChar (96 : Int32)) = (96 : Int32) := (by decide +kernel)
          rw [hs58]
          show Go p e below _ (T57.setTop (mkF m 68 #[.val (.int p0), .val (.ref a1), .val (.ref a2), .val (.int (64 : Int32))] [(.int (96 : Int32)), (.int p0)]))
          refine Go.st (fun _ k => XS.icmpYes X57.here hx rfl (pc0 := 68) (pc' := 77) rfl (hb hby d7_68) rfl (feq (by rw [hc54]; decide)).2 (by decide) (by decide) k) ?_
          show Go p e below _ (T57.setTop (mkF m 77 #[.val (.int p0), .val (.ref a1), .val (.ref a2), .val (.int (64 : Int32))] []))
          refine Go.st (fun _ k => XS.iloadN X57.here hx rfl (hb hby d7_77) rfl k) ?_
          refine Go.st (fun _ k => XS.aloadN X57.here hx rfl (hb hby d7_78) rfl rfl k) ?_
          refine Go.st (fun _ k => XS.iconst X57.here hx rfl (hb hby d7_79) k) ?_
          obtain ⟨cq59, kq59, q59a, q59b, q59c⟩ := isOf hZ e57 E_a1
          obtain ⟨_, _, ⟨T59, L59, k59, n59⟩, -, X59, ⟨Lc59, hQ59, l59, y59, z59⟩, st59⟩ := X57.virtualBack hx (y := (⟨"java/lang/String", "charAt", "(I)C"⟩ : MethodName)) (z := (⟨"java/lang/String", "charAt", "(I)C"⟩ : MethodName)) hown (mvT hZ (hw _ (List.mem_of_getElem? (i := 9) rfl))) (mvT hZ (hw _ (List.mem_of_getElem? (i := 10) rfl))) (notFace_of_selects (args := #[]) (mvT hZ (hw _ (List.mem_of_getElem? (i := 12) rfl)))) (mvT hZ (hw _ (List.mem_of_getElem? (i := 12) rfl))) (mvT hZ (hw _ (List.mem_of_getElem? (i := 11) rfl))) (by decide) (backOf (W := 1) (rmChar l Z aZ hw [] (110 : Int32) a1 (5 : Int32) b1 (0 : Int32) cs vf k1 (8 : Int32) [(.int (34 : Int32)), (.int (92 : Int32)), (.int (36 : Int32)), (.int (64 : Int32)), (.int (96 : Int32)), (.int (110 : Int32)), (.int (114 : Int32)), (.int (116 : Int32))] h0 n0 hcs rfl hvf ⟨by decide, by decide⟩ rfl Fv_a1 Fc_a1 E_a1 S_cs S_vf Va_a1) hZ (hw _ (List.mem_of_getElem? (i := 13) rfl)) (hw _ (List.mem_of_getElem? (i := 1) rfl)) (by decide) (by decide)) q59a q59c (g := (mkF m 80 #[.val (.int p0), .val (.ref a1), .val (.ref a2), .val (.int (64 : Int32))] [(.int (5 : Int32)), (.ref a1), (.int p0)])) rfl (by rw [hml]; rfl) (Steps.refl _) (argsL := [(.int (5 : Int32))]) (rest := [(.int p0)]) (lenOf pd56f5307 rfl) rfl (by show 2 * 0 + _ ≤ _; exact Nat.le_of_eq rfl) (hb hby d7_80) (fun _ _ => ⟨rfl, e57, (by decide : 0 + 0 ≤ _), (by decide : 0 + 0 ≤ _)⟩)
          dsimp only [Pt.U, Pt.locs, Pt.cells, Pt.slots] at X59 l59 y59 z59 st59 hQ59
          subst l59 y59 z59
          obtain ⟨rfl, N59q, e59⟩ := hQ59
          have N59 := Fr.app N57 N59q
          refine Go.st (fun _ k => st59.trans k) ?_
          show Go p e below _ (T59.setTop (mkF m 83 #[.val (.int p0), .val (.ref a1), .val (.ref a2), .val (.int (64 : Int32))] [(.int (jChar (110 : Int32))), (.int p0)]))
          have hs60 : (jChar (110 : Int32)) = (110 : Int32) := (by decide +kernel)
          rw [hs60]
          show Go p e below _ (T59.setTop (mkF m 83 #[.val (.int p0), .val (.ref a1), .val (.ref a2), .val (.int (64 : Int32))] [(.int (110 : Int32)), (.int p0)]))
          refine Go.st (fun _ k => XS.icmpYes X59.here hx rfl (pc0 := 83) (pc' := 92) rfl (hb hby d7_83) rfl (feq (by rw [hc54]; decide)).2 (by decide) (by decide) k) ?_
          show Go p e below _ (T59.setTop (mkF m 92 #[.val (.int p0), .val (.ref a1), .val (.ref a2), .val (.int (64 : Int32))] []))
          refine Go.st (fun _ k => XS.iloadN X59.here hx rfl (hb hby d7_92) rfl k) ?_
          refine Go.st (fun _ k => XS.aloadN X59.here hx rfl (hb hby d7_93) rfl rfl k) ?_
          refine Go.st (fun _ k => XS.bipush X59.here hx rfl (hb hby d7_94) k) ?_
          obtain ⟨cq61, kq61, q61a, q61b, q61c⟩ := isOf hZ e59 E_a1
          obtain ⟨_, _, ⟨T61, L61, k61, n61⟩, -, X61, ⟨Lc61, hQ61, l61, y61, z61⟩, st61⟩ := X59.virtualBack hx (y := (⟨"java/lang/String", "charAt", "(I)C"⟩ : MethodName)) (z := (⟨"java/lang/String", "charAt", "(I)C"⟩ : MethodName)) hown (mvT hZ (hw _ (List.mem_of_getElem? (i := 9) rfl))) (mvT hZ (hw _ (List.mem_of_getElem? (i := 10) rfl))) (notFace_of_selects (args := #[]) (mvT hZ (hw _ (List.mem_of_getElem? (i := 12) rfl)))) (mvT hZ (hw _ (List.mem_of_getElem? (i := 12) rfl))) (mvT hZ (hw _ (List.mem_of_getElem? (i := 11) rfl))) (by decide) (backOf (W := 1) (rmChar l Z aZ hw [] (114 : Int32) a1 (6 : Int32) b1 (0 : Int32) cs vf k1 (8 : Int32) [(.int (34 : Int32)), (.int (92 : Int32)), (.int (36 : Int32)), (.int (64 : Int32)), (.int (96 : Int32)), (.int (110 : Int32)), (.int (114 : Int32)), (.int (116 : Int32))] h0 n0 hcs rfl hvf ⟨by decide, by decide⟩ rfl Fv_a1 Fc_a1 E_a1 S_cs S_vf Va_a1) hZ (hw _ (List.mem_of_getElem? (i := 13) rfl)) (hw _ (List.mem_of_getElem? (i := 1) rfl)) (by decide) (by decide)) q61a q61c (g := (mkF m 96 #[.val (.int p0), .val (.ref a1), .val (.ref a2), .val (.int (64 : Int32))] [(.int (6 : Int32)), (.ref a1), (.int p0)])) rfl (by rw [hml]; rfl) (Steps.refl _) (argsL := [(.int (6 : Int32))]) (rest := [(.int p0)]) (lenOf pd56f5307 rfl) rfl (by show 2 * 0 + _ ≤ _; exact Nat.le_of_eq rfl) (hb hby d7_96) (fun _ _ => ⟨rfl, e59, (by decide : 0 + 0 ≤ _), (by decide : 0 + 0 ≤ _)⟩)
          dsimp only [Pt.U, Pt.locs, Pt.cells, Pt.slots] at X61 l61 y61 z61 st61 hQ61
          subst l61 y61 z61
          obtain ⟨rfl, N61q, e61⟩ := hQ61
          have N61 := Fr.app N59 N61q
          refine Go.st (fun _ k => st61.trans k) ?_
          show Go p e below _ (T61.setTop (mkF m 99 #[.val (.int p0), .val (.ref a1), .val (.ref a2), .val (.int (64 : Int32))] [(.int (jChar (114 : Int32))), (.int p0)]))
          have hs62 : (jChar (114 : Int32)) = (114 : Int32) := (by decide +kernel)
          rw [hs62]
          show Go p e below _ (T61.setTop (mkF m 99 #[.val (.int p0), .val (.ref a1), .val (.ref a2), .val (.int (64 : Int32))] [(.int (114 : Int32)), (.int p0)]))
          refine Go.st (fun _ k => XS.icmpYes X61.here hx rfl (pc0 := 99) (pc' := 109) rfl (hb hby d7_99) rfl (feq (by rw [hc54]; decide)).2 (by decide) (by decide) k) ?_
          show Go p e below _ (T61.setTop (mkF m 109 #[.val (.int p0), .val (.ref a1), .val (.ref a2), .val (.int (64 : Int32))] []))
          refine Go.st (fun _ k => XS.iloadN X61.here hx rfl (hb hby d7_109) rfl k) ?_
          refine Go.st (fun _ k => XS.aloadN X61.here hx rfl (hb hby d7_110) rfl rfl k) ?_
          refine Go.st (fun _ k => XS.bipush X61.here hx rfl (hb hby d7_111) k) ?_
          obtain ⟨cq63, kq63, q63a, q63b, q63c⟩ := isOf hZ e61 E_a1
          obtain ⟨_, _, ⟨T63, L63, k63, n63⟩, -, X63, ⟨Lc63, hQ63, l63, y63, z63⟩, st63⟩ := X61.virtualBack hx (y := (⟨"java/lang/String", "charAt", "(I)C"⟩ : MethodName)) (z := (⟨"java/lang/String", "charAt", "(I)C"⟩ : MethodName)) hown (mvT hZ (hw _ (List.mem_of_getElem? (i := 9) rfl))) (mvT hZ (hw _ (List.mem_of_getElem? (i := 10) rfl))) (notFace_of_selects (args := #[]) (mvT hZ (hw _ (List.mem_of_getElem? (i := 12) rfl)))) (mvT hZ (hw _ (List.mem_of_getElem? (i := 12) rfl))) (mvT hZ (hw _ (List.mem_of_getElem? (i := 11) rfl))) (by decide) (backOf (W := 1) (rmChar l Z aZ hw [] (116 : Int32) a1 (7 : Int32) b1 (0 : Int32) cs vf k1 (8 : Int32) [(.int (34 : Int32)), (.int (92 : Int32)), (.int (36 : Int32)), (.int (64 : Int32)), (.int (96 : Int32)), (.int (110 : Int32)), (.int (114 : Int32)), (.int (116 : Int32))] h0 n0 hcs rfl hvf ⟨by decide, by decide⟩ rfl Fv_a1 Fc_a1 E_a1 S_cs S_vf Va_a1) hZ (hw _ (List.mem_of_getElem? (i := 13) rfl)) (hw _ (List.mem_of_getElem? (i := 1) rfl)) (by decide) (by decide)) q63a q63c (g := (mkF m 113 #[.val (.int p0), .val (.ref a1), .val (.ref a2), .val (.int (64 : Int32))] [(.int (7 : Int32)), (.ref a1), (.int p0)])) rfl (by rw [hml]; rfl) (Steps.refl _) (argsL := [(.int (7 : Int32))]) (rest := [(.int p0)]) (lenOf pd56f5307 rfl) rfl (by show 2 * 0 + _ ≤ _; exact Nat.le_of_eq rfl) (hb hby d7_113) (fun _ _ => ⟨rfl, e61, (by decide : 0 + 0 ≤ _), (by decide : 0 + 0 ≤ _)⟩)
          dsimp only [Pt.U, Pt.locs, Pt.cells, Pt.slots] at X63 l63 y63 z63 st63 hQ63
          subst l63 y63 z63
          obtain ⟨rfl, N63q, e63⟩ := hQ63
          have N63 := Fr.app N61 N63q
          refine Go.st (fun _ k => st63.trans k) ?_
          show Go p e below _ (T63.setTop (mkF m 116 #[.val (.int p0), .val (.ref a1), .val (.ref a2), .val (.int (64 : Int32))] [(.int (jChar (116 : Int32))), (.int p0)]))
          have hs64 : (jChar (116 : Int32)) = (116 : Int32) := (by decide +kernel)
          rw [hs64]
          show Go p e below _ (T63.setTop (mkF m 116 #[.val (.int p0), .val (.ref a1), .val (.ref a2), .val (.int (64 : Int32))] [(.int (116 : Int32)), (.int p0)]))
          refine Go.st (fun _ k => XS.icmpYes X63.here hx rfl (pc0 := 116) (pc' := 126) rfl (hb hby d7_116) rfl (feq (by rw [hc54]; decide)).2 (by decide) (by decide) k) ?_
          show Go p e below _ (T63.setTop (mkF m 126 #[.val (.int p0), .val (.ref a1), .val (.ref a2), .val (.int (64 : Int32))] []))
          refine Go.st (fun _ k => XS.iloadN X63.here hx rfl (hb hby d7_126) rfl k) ?_
          obtain ⟨fs, hr, hrun, hended, hW, hsame⟩ := X63.leave (v := some (.int (64 : Int32))) (fun h => by rw [Bd.returns] at h; cases h)
          refine ⟨_, _, retI X63 hx Bd.returns (hb hby d7_127) hr, hrun, hended, _, _, rfl, ?_, ⟨_, rfl⟩, hW, hsame.mono (by decide) (by decide)⟩
          show Q_rmExp Z p0 a1 a2 b1 k1 b2 k2 cs vf h0 n0 _ T63.heap _
          rw [e63]
          refine ⟨?_, N63, rfl⟩
          unfold fExp
          rw [if_neg hc3, if_neg hc22, if_neg hc39, if_pos hc54]
        · show Go p e below _ (T52.setTop (mkF m 53 #[.val (.int p0), .val (.ref a1), .val (.ref a2), .val (.int (-1 : Int32))] [(.int (64 : Int32)), (.int p0)]))
          refine Go.st (fun _ k => XS.icmpYes X52.here hx rfl (pc0 := 53) (pc' := 62) rfl (hb hby d7_53) rfl (feq hc54).2 (by decide) (by decide) k) ?_
          show Go p e below _ (T52.setTop (mkF m 62 #[.val (.int p0), .val (.ref a1), .val (.ref a2), .val (.int (-1 : Int32))] []))
          refine Go.st (fun _ k => XS.iloadN X52.here hx rfl (hb hby d7_62) rfl k) ?_
          refine Go.st (fun _ k => XS.aloadN X52.here hx rfl (hb hby d7_63) rfl rfl k) ?_
          refine Go.st (fun _ k => XS.iconst X52.here hx rfl (hb hby d7_64) k) ?_
          obtain ⟨cq65, kq65, q65a, q65b, q65c⟩ := isOf hZ e52 E_a1
          obtain ⟨_, _, ⟨T65, L65, k65, n65⟩, -, X65, ⟨Lc65, hQ65, l65, y65, z65⟩, st65⟩ := X52.virtualBack hx (y := (⟨"java/lang/String", "charAt", "(I)C"⟩ : MethodName)) (z := (⟨"java/lang/String", "charAt", "(I)C"⟩ : MethodName)) hown (mvT hZ (hw _ (List.mem_of_getElem? (i := 9) rfl))) (mvT hZ (hw _ (List.mem_of_getElem? (i := 10) rfl))) (notFace_of_selects (args := #[]) (mvT hZ (hw _ (List.mem_of_getElem? (i := 12) rfl)))) (mvT hZ (hw _ (List.mem_of_getElem? (i := 12) rfl))) (mvT hZ (hw _ (List.mem_of_getElem? (i := 11) rfl))) (by decide) (backOf (W := 1) (rmChar l Z aZ hw [] (96 : Int32) a1 (4 : Int32) b1 (0 : Int32) cs vf k1 (8 : Int32) [(.int (34 : Int32)), (.int (92 : Int32)), (.int (36 : Int32)), (.int (64 : Int32)), (.int (96 : Int32)), (.int (110 : Int32)), (.int (114 : Int32)), (.int (116 : Int32))] h0 n0 hcs rfl hvf ⟨by decide, by decide⟩ rfl Fv_a1 Fc_a1 E_a1 S_cs S_vf Va_a1) hZ (hw _ (List.mem_of_getElem? (i := 13) rfl)) (hw _ (List.mem_of_getElem? (i := 1) rfl)) (by decide) (by decide)) q65a q65c (g := (mkF m 65 #[.val (.int p0), .val (.ref a1), .val (.ref a2), .val (.int (-1 : Int32))] [(.int (4 : Int32)), (.ref a1), (.int p0)])) rfl (by rw [hml]; rfl) (Steps.refl _) (argsL := [(.int (4 : Int32))]) (rest := [(.int p0)]) (lenOf pd56f5307 rfl) rfl (by show 2 * 0 + _ ≤ _; exact Nat.le_of_eq rfl) (hb hby d7_65) (fun _ _ => ⟨rfl, e52, (by decide : 0 + 0 ≤ _), (by decide : 0 + 0 ≤ _)⟩)
          dsimp only [Pt.U, Pt.locs, Pt.cells, Pt.slots] at X65 l65 y65 z65 st65 hQ65
          subst l65 y65 z65
          obtain ⟨rfl, N65q, e65⟩ := hQ65
          have N65 := Fr.app N52 N65q
          refine Go.st (fun _ k => st65.trans k) ?_
          show Go p e below _ (T65.setTop (mkF m 68 #[.val (.int p0), .val (.ref a1), .val (.ref a2), .val (.int (-1 : Int32))] [(.int (jChar (96 : Int32))), (.int p0)]))
          have hs66 : (jChar (96 : Int32)) = (96 : Int32) := (by decide +kernel)
          rw [hs66]
          show Go p e below _ (T65.setTop (mkF m 68 #[.val (.int p0), .val (.ref a1), .val (.ref a2), .val (.int (-1 : Int32))] [(.int (96 : Int32)), (.int p0)]))
          by_cases hc67 : p0 = (96 : Int32)
          · show Go p e below _ (T65.setTop (mkF m 68 #[.val (.int p0), .val (.ref a1), .val (.ref a2), .val (.int (-1 : Int32))] [(.int (96 : Int32)), (.int p0)]))
            refine Go.st (fun _ k => XS.icmpNo X65.here hx rfl (hb hby d7_68) rfl (teq hc67).2 k) ?_
            show Go p e below _ (T65.setTop (mkF m 71 #[.val (.int p0), .val (.ref a1), .val (.ref a2), .val (.int (-1 : Int32))] []))
            refine Go.st (fun _ k => XS.aloadN X65.here hx rfl (hb hby d7_71) rfl rfl k) ?_
            refine Go.st (fun _ k => XS.iconst X65.here hx rfl (hb hby d7_72) k) ?_
            obtain ⟨cq68, kq68, q68a, q68b, q68c⟩ := isOf hZ e65 E_a2
            obtain ⟨_, _, ⟨T68, L68, k68, n68⟩, -, X68, ⟨Lc68, hQ68, l68, y68, z68⟩, st68⟩ := X65.virtualBack hx (y := (⟨"java/lang/String", "charAt", "(I)C"⟩ : MethodName)) (z := (⟨"java/lang/String", "charAt", "(I)C"⟩ : MethodName)) hown (mvT hZ (hw _ (List.mem_of_getElem? (i := 9) rfl))) (mvT hZ (hw _ (List.mem_of_getElem? (i := 10) rfl))) (notFace_of_selects (args := #[]) (mvT hZ (hw _ (List.mem_of_getElem? (i := 12) rfl)))) (mvT hZ (hw _ (List.mem_of_getElem? (i := 12) rfl))) (mvT hZ (hw _ (List.mem_of_getElem? (i := 11) rfl))) (by decide) (backOf (W := 0) (rmChar l Z aZ hw [] (96 : Int32) a2 (4 : Int32) b2 (0 : Int32) cs vf k2 (8 : Int32) [(.int (34 : Int32)), (.int (92 : Int32)), (.int (36 : Int32)), (.int (64 : Int32)), (.int (96 : Int32)), (.int (10 : Int32)), (.int (13 : Int32)), (.int (9 : Int32))] h0 n0 hcs rfl hvf ⟨by decide, by decide⟩ rfl Fv_a2 Fc_a2 E_a2 S_cs S_vf Va_a2) hZ (hw _ (List.mem_of_getElem? (i := 13) rfl)) (hw _ (List.mem_of_getElem? (i := 1) rfl)) (by decide) (by decide)) q68a q68c (g := (mkF m 73 #[.val (.int p0), .val (.ref a1), .val (.ref a2), .val (.int (-1 : Int32))] [(.int (4 : Int32)), (.ref a2)])) rfl (by rw [hml]; rfl) (Steps.refl _) (argsL := [(.int (4 : Int32))]) (rest := []) (lenOf pd56f5307 rfl) rfl (by show 2 * 0 + _ ≤ _; exact Nat.le_of_eq rfl) (hb hby d7_73) (fun _ _ => ⟨rfl, e65, (by decide : 0 + 0 ≤ _), (by decide : 0 + 0 ≤ _)⟩)
            dsimp only [Pt.U, Pt.locs, Pt.cells, Pt.slots] at X68 l68 y68 z68 st68 hQ68
            subst l68 y68 z68
            obtain ⟨rfl, N68q, e68⟩ := hQ68
            have N68 := Fr.app N65 N68q
            refine Go.st (fun _ k => st68.trans k) ?_
            show Go p e below _ (T68.setTop (mkF m 76 #[.val (.int p0), .val (.ref a1), .val (.ref a2), .val (.int (-1 : Int32))] [(.int (jChar (96 : Int32)))]))
            have hs69 : (jChar (96 : Int32)) = (96 : Int32) := (by decide +kernel)
            rw [hs69]
            show Go p e below _ (T68.setTop (mkF m 76 #[.val (.int p0), .val (.ref a1), .val (.ref a2), .val (.int (-1 : Int32))] [(.int (96 : Int32))]))
            refine Go.st (fun _ k => XS.istoreN X68.here hx rfl (hb hby d7_76) rfl (l' := #[.val (.int p0), .val (.ref a1), .val (.ref a2), .val (.int (96 : Int32))]) rfl k) ?_
            show Go p e below _ (T68.setTop (mkF m 77 #[.val (.int p0), .val (.ref a1), .val (.ref a2), .val (.int (96 : Int32))] []))
            refine Go.st (fun _ k => XS.iloadN X68.here hx rfl (hb hby d7_77) rfl k) ?_
            refine Go.st (fun _ k => XS.aloadN X68.here hx rfl (hb hby d7_78) rfl rfl k) ?_
            refine Go.st (fun _ k => XS.iconst X68.here hx rfl (hb hby d7_79) k) ?_
            obtain ⟨cq70, kq70, q70a, q70b, q70c⟩ := isOf hZ e68 E_a1
            obtain ⟨_, _, ⟨T70, L70, k70, n70⟩, -, X70, ⟨Lc70, hQ70, l70, y70, z70⟩, st70⟩ := X68.virtualBack hx (y := (⟨"java/lang/String", "charAt", "(I)C"⟩ : MethodName)) (z := (⟨"java/lang/String", "charAt", "(I)C"⟩ : MethodName)) hown (mvT hZ (hw _ (List.mem_of_getElem? (i := 9) rfl))) (mvT hZ (hw _ (List.mem_of_getElem? (i := 10) rfl))) (notFace_of_selects (args := #[]) (mvT hZ (hw _ (List.mem_of_getElem? (i := 12) rfl)))) (mvT hZ (hw _ (List.mem_of_getElem? (i := 12) rfl))) (mvT hZ (hw _ (List.mem_of_getElem? (i := 11) rfl))) (by decide) (backOf (W := 1) (rmChar l Z aZ hw [] (110 : Int32) a1 (5 : Int32) b1 (0 : Int32) cs vf k1 (8 : Int32) [(.int (34 : Int32)), (.int (92 : Int32)), (.int (36 : Int32)), (.int (64 : Int32)), (.int (96 : Int32)), (.int (110 : Int32)), (.int (114 : Int32)), (.int (116 : Int32))] h0 n0 hcs rfl hvf ⟨by decide, by decide⟩ rfl Fv_a1 Fc_a1 E_a1 S_cs S_vf Va_a1) hZ (hw _ (List.mem_of_getElem? (i := 13) rfl)) (hw _ (List.mem_of_getElem? (i := 1) rfl)) (by decide) (by decide)) q70a q70c (g := (mkF m 80 #[.val (.int p0), .val (.ref a1), .val (.ref a2), .val (.int (96 : Int32))] [(.int (5 : Int32)), (.ref a1), (.int p0)])) rfl (by rw [hml]; rfl) (Steps.refl _) (argsL := [(.int (5 : Int32))]) (rest := [(.int p0)]) (lenOf pd56f5307 rfl) rfl (by show 2 * 0 + _ ≤ _; exact Nat.le_of_eq rfl) (hb hby d7_80) (fun _ _ => ⟨rfl, e68, (by decide : 0 + 0 ≤ _), (by decide : 0 + 0 ≤ _)⟩)
            dsimp only [Pt.U, Pt.locs, Pt.cells, Pt.slots] at X70 l70 y70 z70 st70 hQ70
            subst l70 y70 z70
            obtain ⟨rfl, N70q, e70⟩ := hQ70
            have N70 := Fr.app N68 N70q
            refine Go.st (fun _ k => st70.trans k) ?_
            show Go p e below _ (T70.setTop (mkF m 83 #[.val (.int p0), .val (.ref a1), .val (.ref a2), .val (.int (96 : Int32))] [(.int (jChar (110 : Int32))), (.int p0)]))
            have hs71 : (jChar (110 : Int32)) = (110 : Int32) := (by decide +kernel)
            rw [hs71]
            show Go p e below _ (T70.setTop (mkF m 83 #[.val (.int p0), .val (.ref a1), .val (.ref a2), .val (.int (96 : Int32))] [(.int (110 : Int32)), (.int p0)]))
            refine Go.st (fun _ k => XS.icmpYes X70.here hx rfl (pc0 := 83) (pc' := 92) rfl (hb hby d7_83) rfl (feq (by rw [hc67]; decide)).2 (by decide) (by decide) k) ?_
            show Go p e below _ (T70.setTop (mkF m 92 #[.val (.int p0), .val (.ref a1), .val (.ref a2), .val (.int (96 : Int32))] []))
            refine Go.st (fun _ k => XS.iloadN X70.here hx rfl (hb hby d7_92) rfl k) ?_
            refine Go.st (fun _ k => XS.aloadN X70.here hx rfl (hb hby d7_93) rfl rfl k) ?_
            refine Go.st (fun _ k => XS.bipush X70.here hx rfl (hb hby d7_94) k) ?_
            obtain ⟨cq72, kq72, q72a, q72b, q72c⟩ := isOf hZ e70 E_a1
            obtain ⟨_, _, ⟨T72, L72, k72, n72⟩, -, X72, ⟨Lc72, hQ72, l72, y72, z72⟩, st72⟩ := X70.virtualBack hx (y := (⟨"java/lang/String", "charAt", "(I)C"⟩ : MethodName)) (z := (⟨"java/lang/String", "charAt", "(I)C"⟩ : MethodName)) hown (mvT hZ (hw _ (List.mem_of_getElem? (i := 9) rfl))) (mvT hZ (hw _ (List.mem_of_getElem? (i := 10) rfl))) (notFace_of_selects (args := #[]) (mvT hZ (hw _ (List.mem_of_getElem? (i := 12) rfl)))) (mvT hZ (hw _ (List.mem_of_getElem? (i := 12) rfl))) (mvT hZ (hw _ (List.mem_of_getElem? (i := 11) rfl))) (by decide) (backOf (W := 1) (rmChar l Z aZ hw [] (114 : Int32) a1 (6 : Int32) b1 (0 : Int32) cs vf k1 (8 : Int32) [(.int (34 : Int32)), (.int (92 : Int32)), (.int (36 : Int32)), (.int (64 : Int32)), (.int (96 : Int32)), (.int (110 : Int32)), (.int (114 : Int32)), (.int (116 : Int32))] h0 n0 hcs rfl hvf ⟨by decide, by decide⟩ rfl Fv_a1 Fc_a1 E_a1 S_cs S_vf Va_a1) hZ (hw _ (List.mem_of_getElem? (i := 13) rfl)) (hw _ (List.mem_of_getElem? (i := 1) rfl)) (by decide) (by decide)) q72a q72c (g := (mkF m 96 #[.val (.int p0), .val (.ref a1), .val (.ref a2), .val (.int (96 : Int32))] [(.int (6 : Int32)), (.ref a1), (.int p0)])) rfl (by rw [hml]; rfl) (Steps.refl _) (argsL := [(.int (6 : Int32))]) (rest := [(.int p0)]) (lenOf pd56f5307 rfl) rfl (by show 2 * 0 + _ ≤ _; exact Nat.le_of_eq rfl) (hb hby d7_96) (fun _ _ => ⟨rfl, e70, (by decide : 0 + 0 ≤ _), (by decide : 0 + 0 ≤ _)⟩)
            dsimp only [Pt.U, Pt.locs, Pt.cells, Pt.slots] at X72 l72 y72 z72 st72 hQ72
            subst l72 y72 z72
            obtain ⟨rfl, N72q, e72⟩ := hQ72
            have N72 := Fr.app N70 N72q
            refine Go.st (fun _ k => st72.trans k) ?_
            show Go p e below _ (T72.setTop (mkF m 99 #[.val (.int p0), .val (.ref a1), .val (.ref a2), .val (.int (96 : Int32))] [(.int (jChar (114 : Int32))), (.int p0)]))
            have hs73 : (jChar (114 : Int32)) = (114 : Int32) := (by decide +kernel)
            rw [hs73]
            show Go p e below _ (T72.setTop (mkF m 99 #[.val (.int p0), .val (.ref a1), .val (.ref a2), .val (.int (96 : Int32))] [(.int (114 : Int32)), (.int p0)]))
            refine Go.st (fun _ k => XS.icmpYes X72.here hx rfl (pc0 := 99) (pc' := 109) rfl (hb hby d7_99) rfl (feq (by rw [hc67]; decide)).2 (by decide) (by decide) k) ?_
            show Go p e below _ (T72.setTop (mkF m 109 #[.val (.int p0), .val (.ref a1), .val (.ref a2), .val (.int (96 : Int32))] []))
            refine Go.st (fun _ k => XS.iloadN X72.here hx rfl (hb hby d7_109) rfl k) ?_
            refine Go.st (fun _ k => XS.aloadN X72.here hx rfl (hb hby d7_110) rfl rfl k) ?_
            refine Go.st (fun _ k => XS.bipush X72.here hx rfl (hb hby d7_111) k) ?_
            obtain ⟨cq74, kq74, q74a, q74b, q74c⟩ := isOf hZ e72 E_a1
            obtain ⟨_, _, ⟨T74, L74, k74, n74⟩, -, X74, ⟨Lc74, hQ74, l74, y74, z74⟩, st74⟩ := X72.virtualBack hx (y := (⟨"java/lang/String", "charAt", "(I)C"⟩ : MethodName)) (z := (⟨"java/lang/String", "charAt", "(I)C"⟩ : MethodName)) hown (mvT hZ (hw _ (List.mem_of_getElem? (i := 9) rfl))) (mvT hZ (hw _ (List.mem_of_getElem? (i := 10) rfl))) (notFace_of_selects (args := #[]) (mvT hZ (hw _ (List.mem_of_getElem? (i := 12) rfl)))) (mvT hZ (hw _ (List.mem_of_getElem? (i := 12) rfl))) (mvT hZ (hw _ (List.mem_of_getElem? (i := 11) rfl))) (by decide) (backOf (W := 1) (rmChar l Z aZ hw [] (116 : Int32) a1 (7 : Int32) b1 (0 : Int32) cs vf k1 (8 : Int32) [(.int (34 : Int32)), (.int (92 : Int32)), (.int (36 : Int32)), (.int (64 : Int32)), (.int (96 : Int32)), (.int (110 : Int32)), (.int (114 : Int32)), (.int (116 : Int32))] h0 n0 hcs rfl hvf ⟨by decide, by decide⟩ rfl Fv_a1 Fc_a1 E_a1 S_cs S_vf Va_a1) hZ (hw _ (List.mem_of_getElem? (i := 13) rfl)) (hw _ (List.mem_of_getElem? (i := 1) rfl)) (by decide) (by decide)) q74a q74c (g := (mkF m 113 #[.val (.int p0), .val (.ref a1), .val (.ref a2), .val (.int (96 : Int32))] [(.int (7 : Int32)), (.ref a1), (.int p0)])) rfl (by rw [hml]; rfl) (Steps.refl _) (argsL := [(.int (7 : Int32))]) (rest := [(.int p0)]) (lenOf pd56f5307 rfl) rfl (by show 2 * 0 + _ ≤ _; exact Nat.le_of_eq rfl) (hb hby d7_113) (fun _ _ => ⟨rfl, e72, (by decide : 0 + 0 ≤ _), (by decide : 0 + 0 ≤ _)⟩)
            dsimp only [Pt.U, Pt.locs, Pt.cells, Pt.slots] at X74 l74 y74 z74 st74 hQ74
            subst l74 y74 z74
            obtain ⟨rfl, N74q, e74⟩ := hQ74
            have N74 := Fr.app N72 N74q
            refine Go.st (fun _ k => st74.trans k) ?_
            show Go p e below _ (T74.setTop (mkF m 116 #[.val (.int p0), .val (.ref a1), .val (.ref a2), .val (.int (96 : Int32))] [(.int (jChar (116 : Int32))), (.int p0)]))
            have hs75 : (jChar (116 : Int32)) = (116 : Int32) := (by decide +kernel)
            rw [hs75]
            show Go p e below _ (T74.setTop (mkF m 116 #[.val (.int p0), .val (.ref a1), .val (.ref a2), .val (.int (96 : Int32))] [(.int (116 : Int32)), (.int p0)]))
            refine Go.st (fun _ k => XS.icmpYes X74.here hx rfl (pc0 := 116) (pc' := 126) rfl (hb hby d7_116) rfl (feq (by rw [hc67]; decide)).2 (by decide) (by decide) k) ?_
            show Go p e below _ (T74.setTop (mkF m 126 #[.val (.int p0), .val (.ref a1), .val (.ref a2), .val (.int (96 : Int32))] []))
            refine Go.st (fun _ k => XS.iloadN X74.here hx rfl (hb hby d7_126) rfl k) ?_
            obtain ⟨fs, hr, hrun, hended, hW, hsame⟩ := X74.leave (v := some (.int (96 : Int32))) (fun h => by rw [Bd.returns] at h; cases h)
            refine ⟨_, _, retI X74 hx Bd.returns (hb hby d7_127) hr, hrun, hended, _, _, rfl, ?_, ⟨_, rfl⟩, hW, hsame.mono (by decide) (by decide)⟩
            show Q_rmExp Z p0 a1 a2 b1 k1 b2 k2 cs vf h0 n0 _ T74.heap _
            rw [e74]
            refine ⟨?_, N74, rfl⟩
            unfold fExp
            rw [if_neg hc3, if_neg hc22, if_neg hc39, if_neg hc54, if_pos hc67]
          · show Go p e below _ (T65.setTop (mkF m 68 #[.val (.int p0), .val (.ref a1), .val (.ref a2), .val (.int (-1 : Int32))] [(.int (96 : Int32)), (.int p0)]))
            refine Go.st (fun _ k => XS.icmpYes X65.here hx rfl (pc0 := 68) (pc' := 77) rfl (hb hby d7_68) rfl (feq hc67).2 (by decide) (by decide) k) ?_
            show Go p e below _ (T65.setTop (mkF m 77 #[.val (.int p0), .val (.ref a1), .val (.ref a2), .val (.int (-1 : Int32))] []))
            refine Go.st (fun _ k => XS.iloadN X65.here hx rfl (hb hby d7_77) rfl k) ?_
            refine Go.st (fun _ k => XS.aloadN X65.here hx rfl (hb hby d7_78) rfl rfl k) ?_
            refine Go.st (fun _ k => XS.iconst X65.here hx rfl (hb hby d7_79) k) ?_
            obtain ⟨cq76, kq76, q76a, q76b, q76c⟩ := isOf hZ e65 E_a1
            obtain ⟨_, _, ⟨T76, L76, k76, n76⟩, -, X76, ⟨Lc76, hQ76, l76, y76, z76⟩, st76⟩ := X65.virtualBack hx (y := (⟨"java/lang/String", "charAt", "(I)C"⟩ : MethodName)) (z := (⟨"java/lang/String", "charAt", "(I)C"⟩ : MethodName)) hown (mvT hZ (hw _ (List.mem_of_getElem? (i := 9) rfl))) (mvT hZ (hw _ (List.mem_of_getElem? (i := 10) rfl))) (notFace_of_selects (args := #[]) (mvT hZ (hw _ (List.mem_of_getElem? (i := 12) rfl)))) (mvT hZ (hw _ (List.mem_of_getElem? (i := 12) rfl))) (mvT hZ (hw _ (List.mem_of_getElem? (i := 11) rfl))) (by decide) (backOf (W := 1) (rmChar l Z aZ hw [] (110 : Int32) a1 (5 : Int32) b1 (0 : Int32) cs vf k1 (8 : Int32) [(.int (34 : Int32)), (.int (92 : Int32)), (.int (36 : Int32)), (.int (64 : Int32)), (.int (96 : Int32)), (.int (110 : Int32)), (.int (114 : Int32)), (.int (116 : Int32))] h0 n0 hcs rfl hvf ⟨by decide, by decide⟩ rfl Fv_a1 Fc_a1 E_a1 S_cs S_vf Va_a1) hZ (hw _ (List.mem_of_getElem? (i := 13) rfl)) (hw _ (List.mem_of_getElem? (i := 1) rfl)) (by decide) (by decide)) q76a q76c (g := (mkF m 80 #[.val (.int p0), .val (.ref a1), .val (.ref a2), .val (.int (-1 : Int32))] [(.int (5 : Int32)), (.ref a1), (.int p0)])) rfl (by rw [hml]; rfl) (Steps.refl _) (argsL := [(.int (5 : Int32))]) (rest := [(.int p0)]) (lenOf pd56f5307 rfl) rfl (by show 2 * 0 + _ ≤ _; exact Nat.le_of_eq rfl) (hb hby d7_80) (fun _ _ => ⟨rfl, e65, (by decide : 0 + 0 ≤ _), (by decide : 0 + 0 ≤ _)⟩)
            dsimp only [Pt.U, Pt.locs, Pt.cells, Pt.slots] at X76 l76 y76 z76 st76 hQ76
            subst l76 y76 z76
            obtain ⟨rfl, N76q, e76⟩ := hQ76
            have N76 := Fr.app N65 N76q
            refine Go.st (fun _ k => st76.trans k) ?_
            show Go p e below _ (T76.setTop (mkF m 83 #[.val (.int p0), .val (.ref a1), .val (.ref a2), .val (.int (-1 : Int32))] [(.int (jChar (110 : Int32))), (.int p0)]))
            have hs77 : (jChar (110 : Int32)) = (110 : Int32) := (by decide +kernel)
            rw [hs77]
            show Go p e below _ (T76.setTop (mkF m 83 #[.val (.int p0), .val (.ref a1), .val (.ref a2), .val (.int (-1 : Int32))] [(.int (110 : Int32)), (.int p0)]))
            by_cases hc78 : p0 = (110 : Int32)
            · show Go p e below _ (T76.setTop (mkF m 83 #[.val (.int p0), .val (.ref a1), .val (.ref a2), .val (.int (-1 : Int32))] [(.int (110 : Int32)), (.int p0)]))
              refine Go.st (fun _ k => XS.icmpNo X76.here hx rfl (hb hby d7_83) rfl (teq hc78).2 k) ?_
              show Go p e below _ (T76.setTop (mkF m 86 #[.val (.int p0), .val (.ref a1), .val (.ref a2), .val (.int (-1 : Int32))] []))
              refine Go.st (fun _ k => XS.aloadN X76.here hx rfl (hb hby d7_86) rfl rfl k) ?_
              refine Go.st (fun _ k => XS.iconst X76.here hx rfl (hb hby d7_87) k) ?_
              obtain ⟨cq79, kq79, q79a, q79b, q79c⟩ := isOf hZ e76 E_a2
              obtain ⟨_, _, ⟨T79, L79, k79, n79⟩, -, X79, ⟨Lc79, hQ79, l79, y79, z79⟩, st79⟩ := X76.virtualBack hx (y := (⟨"java/lang/String", "charAt", "(I)C"⟩ : MethodName)) (z := (⟨"java/lang/String", "charAt", "(I)C"⟩ : MethodName)) hown (mvT hZ (hw _ (List.mem_of_getElem? (i := 9) rfl))) (mvT hZ (hw _ (List.mem_of_getElem? (i := 10) rfl))) (notFace_of_selects (args := #[]) (mvT hZ (hw _ (List.mem_of_getElem? (i := 12) rfl)))) (mvT hZ (hw _ (List.mem_of_getElem? (i := 12) rfl))) (mvT hZ (hw _ (List.mem_of_getElem? (i := 11) rfl))) (by decide) (backOf (W := 0) (rmChar l Z aZ hw [] (10 : Int32) a2 (5 : Int32) b2 (0 : Int32) cs vf k2 (8 : Int32) [(.int (34 : Int32)), (.int (92 : Int32)), (.int (36 : Int32)), (.int (64 : Int32)), (.int (96 : Int32)), (.int (10 : Int32)), (.int (13 : Int32)), (.int (9 : Int32))] h0 n0 hcs rfl hvf ⟨by decide, by decide⟩ rfl Fv_a2 Fc_a2 E_a2 S_cs S_vf Va_a2) hZ (hw _ (List.mem_of_getElem? (i := 13) rfl)) (hw _ (List.mem_of_getElem? (i := 1) rfl)) (by decide) (by decide)) q79a q79c (g := (mkF m 88 #[.val (.int p0), .val (.ref a1), .val (.ref a2), .val (.int (-1 : Int32))] [(.int (5 : Int32)), (.ref a2)])) rfl (by rw [hml]; rfl) (Steps.refl _) (argsL := [(.int (5 : Int32))]) (rest := []) (lenOf pd56f5307 rfl) rfl (by show 2 * 0 + _ ≤ _; exact Nat.le_of_eq rfl) (hb hby d7_88) (fun _ _ => ⟨rfl, e76, (by decide : 0 + 0 ≤ _), (by decide : 0 + 0 ≤ _)⟩)
              dsimp only [Pt.U, Pt.locs, Pt.cells, Pt.slots] at X79 l79 y79 z79 st79 hQ79
              subst l79 y79 z79
              obtain ⟨rfl, N79q, e79⟩ := hQ79
              have N79 := Fr.app N76 N79q
              refine Go.st (fun _ k => st79.trans k) ?_
              show Go p e below _ (T79.setTop (mkF m 91 #[.val (.int p0), .val (.ref a1), .val (.ref a2), .val (.int (-1 : Int32))] [(.int (jChar (10 : Int32)))]))
              have hs80 : (jChar (10 : Int32)) = (10 : Int32) := (by decide +kernel)
              rw [hs80]
              show Go p e below _ (T79.setTop (mkF m 91 #[.val (.int p0), .val (.ref a1), .val (.ref a2), .val (.int (-1 : Int32))] [(.int (10 : Int32))]))
              refine Go.st (fun _ k => XS.istoreN X79.here hx rfl (hb hby d7_91) rfl (l' := #[.val (.int p0), .val (.ref a1), .val (.ref a2), .val (.int (10 : Int32))]) rfl k) ?_
              show Go p e below _ (T79.setTop (mkF m 92 #[.val (.int p0), .val (.ref a1), .val (.ref a2), .val (.int (10 : Int32))] []))
              refine Go.st (fun _ k => XS.iloadN X79.here hx rfl (hb hby d7_92) rfl k) ?_
              refine Go.st (fun _ k => XS.aloadN X79.here hx rfl (hb hby d7_93) rfl rfl k) ?_
              refine Go.st (fun _ k => XS.bipush X79.here hx rfl (hb hby d7_94) k) ?_
              obtain ⟨cq81, kq81, q81a, q81b, q81c⟩ := isOf hZ e79 E_a1
              obtain ⟨_, _, ⟨T81, L81, k81, n81⟩, -, X81, ⟨Lc81, hQ81, l81, y81, z81⟩, st81⟩ := X79.virtualBack hx (y := (⟨"java/lang/String", "charAt", "(I)C"⟩ : MethodName)) (z := (⟨"java/lang/String", "charAt", "(I)C"⟩ : MethodName)) hown (mvT hZ (hw _ (List.mem_of_getElem? (i := 9) rfl))) (mvT hZ (hw _ (List.mem_of_getElem? (i := 10) rfl))) (notFace_of_selects (args := #[]) (mvT hZ (hw _ (List.mem_of_getElem? (i := 12) rfl)))) (mvT hZ (hw _ (List.mem_of_getElem? (i := 12) rfl))) (mvT hZ (hw _ (List.mem_of_getElem? (i := 11) rfl))) (by decide) (backOf (W := 1) (rmChar l Z aZ hw [] (114 : Int32) a1 (6 : Int32) b1 (0 : Int32) cs vf k1 (8 : Int32) [(.int (34 : Int32)), (.int (92 : Int32)), (.int (36 : Int32)), (.int (64 : Int32)), (.int (96 : Int32)), (.int (110 : Int32)), (.int (114 : Int32)), (.int (116 : Int32))] h0 n0 hcs rfl hvf ⟨by decide, by decide⟩ rfl Fv_a1 Fc_a1 E_a1 S_cs S_vf Va_a1) hZ (hw _ (List.mem_of_getElem? (i := 13) rfl)) (hw _ (List.mem_of_getElem? (i := 1) rfl)) (by decide) (by decide)) q81a q81c (g := (mkF m 96 #[.val (.int p0), .val (.ref a1), .val (.ref a2), .val (.int (10 : Int32))] [(.int (6 : Int32)), (.ref a1), (.int p0)])) rfl (by rw [hml]; rfl) (Steps.refl _) (argsL := [(.int (6 : Int32))]) (rest := [(.int p0)]) (lenOf pd56f5307 rfl) rfl (by show 2 * 0 + _ ≤ _; exact Nat.le_of_eq rfl) (hb hby d7_96) (fun _ _ => ⟨rfl, e79, (by decide : 0 + 0 ≤ _), (by decide : 0 + 0 ≤ _)⟩)
              dsimp only [Pt.U, Pt.locs, Pt.cells, Pt.slots] at X81 l81 y81 z81 st81 hQ81
              subst l81 y81 z81
              obtain ⟨rfl, N81q, e81⟩ := hQ81
              have N81 := Fr.app N79 N81q
              refine Go.st (fun _ k => st81.trans k) ?_
              show Go p e below _ (T81.setTop (mkF m 99 #[.val (.int p0), .val (.ref a1), .val (.ref a2), .val (.int (10 : Int32))] [(.int (jChar (114 : Int32))), (.int p0)]))
              have hs82 : (jChar (114 : Int32)) = (114 : Int32) := (by decide +kernel)
              rw [hs82]
              show Go p e below _ (T81.setTop (mkF m 99 #[.val (.int p0), .val (.ref a1), .val (.ref a2), .val (.int (10 : Int32))] [(.int (114 : Int32)), (.int p0)]))
              refine Go.st (fun _ k => XS.icmpYes X81.here hx rfl (pc0 := 99) (pc' := 109) rfl (hb hby d7_99) rfl (feq (by rw [hc78]; decide)).2 (by decide) (by decide) k) ?_
              show Go p e below _ (T81.setTop (mkF m 109 #[.val (.int p0), .val (.ref a1), .val (.ref a2), .val (.int (10 : Int32))] []))
              refine Go.st (fun _ k => XS.iloadN X81.here hx rfl (hb hby d7_109) rfl k) ?_
              refine Go.st (fun _ k => XS.aloadN X81.here hx rfl (hb hby d7_110) rfl rfl k) ?_
              refine Go.st (fun _ k => XS.bipush X81.here hx rfl (hb hby d7_111) k) ?_
              obtain ⟨cq83, kq83, q83a, q83b, q83c⟩ := isOf hZ e81 E_a1
              obtain ⟨_, _, ⟨T83, L83, k83, n83⟩, -, X83, ⟨Lc83, hQ83, l83, y83, z83⟩, st83⟩ := X81.virtualBack hx (y := (⟨"java/lang/String", "charAt", "(I)C"⟩ : MethodName)) (z := (⟨"java/lang/String", "charAt", "(I)C"⟩ : MethodName)) hown (mvT hZ (hw _ (List.mem_of_getElem? (i := 9) rfl))) (mvT hZ (hw _ (List.mem_of_getElem? (i := 10) rfl))) (notFace_of_selects (args := #[]) (mvT hZ (hw _ (List.mem_of_getElem? (i := 12) rfl)))) (mvT hZ (hw _ (List.mem_of_getElem? (i := 12) rfl))) (mvT hZ (hw _ (List.mem_of_getElem? (i := 11) rfl))) (by decide) (backOf (W := 1) (rmChar l Z aZ hw [] (116 : Int32) a1 (7 : Int32) b1 (0 : Int32) cs vf k1 (8 : Int32) [(.int (34 : Int32)), (.int (92 : Int32)), (.int (36 : Int32)), (.int (64 : Int32)), (.int (96 : Int32)), (.int (110 : Int32)), (.int (114 : Int32)), (.int (116 : Int32))] h0 n0 hcs rfl hvf ⟨by decide, by decide⟩ rfl Fv_a1 Fc_a1 E_a1 S_cs S_vf Va_a1) hZ (hw _ (List.mem_of_getElem? (i := 13) rfl)) (hw _ (List.mem_of_getElem? (i := 1) rfl)) (by decide) (by decide)) q83a q83c (g := (mkF m 113 #[.val (.int p0), .val (.ref a1), .val (.ref a2), .val (.int (10 : Int32))] [(.int (7 : Int32)), (.ref a1), (.int p0)])) rfl (by rw [hml]; rfl) (Steps.refl _) (argsL := [(.int (7 : Int32))]) (rest := [(.int p0)]) (lenOf pd56f5307 rfl) rfl (by show 2 * 0 + _ ≤ _; exact Nat.le_of_eq rfl) (hb hby d7_113) (fun _ _ => ⟨rfl, e81, (by decide : 0 + 0 ≤ _), (by decide : 0 + 0 ≤ _)⟩)
              dsimp only [Pt.U, Pt.locs, Pt.cells, Pt.slots] at X83 l83 y83 z83 st83 hQ83
              subst l83 y83 z83
              obtain ⟨rfl, N83q, e83⟩ := hQ83
              have N83 := Fr.app N81 N83q
              refine Go.st (fun _ k => st83.trans k) ?_
              show Go p e below _ (T83.setTop (mkF m 116 #[.val (.int p0), .val (.ref a1), .val (.ref a2), .val (.int (10 : Int32))] [(.int (jChar (116 : Int32))), (.int p0)]))
              have hs84 : (jChar (116 : Int32)) = (116 : Int32) := (by decide +kernel)
              rw [hs84]
              show Go p e below _ (T83.setTop (mkF m 116 #[.val (.int p0), .val (.ref a1), .val (.ref a2), .val (.int (10 : Int32))] [(.int (116 : Int32)), (.int p0)]))
              refine Go.st (fun _ k => XS.icmpYes X83.here hx rfl (pc0 := 116) (pc' := 126) rfl (hb hby d7_116) rfl (feq (by rw [hc78]; decide)).2 (by decide) (by decide) k) ?_
              show Go p e below _ (T83.setTop (mkF m 126 #[.val (.int p0), .val (.ref a1), .val (.ref a2), .val (.int (10 : Int32))] []))
              refine Go.st (fun _ k => XS.iloadN X83.here hx rfl (hb hby d7_126) rfl k) ?_
              obtain ⟨fs, hr, hrun, hended, hW, hsame⟩ := X83.leave (v := some (.int (10 : Int32))) (fun h => by rw [Bd.returns] at h; cases h)
              refine ⟨_, _, retI X83 hx Bd.returns (hb hby d7_127) hr, hrun, hended, _, _, rfl, ?_, ⟨_, rfl⟩, hW, hsame.mono (by decide) (by decide)⟩
              show Q_rmExp Z p0 a1 a2 b1 k1 b2 k2 cs vf h0 n0 _ T83.heap _
              rw [e83]
              refine ⟨?_, N83, rfl⟩
              unfold fExp
              rw [if_neg hc3, if_neg hc22, if_neg hc39, if_neg hc54, if_neg hc67, if_pos hc78]
            · show Go p e below _ (T76.setTop (mkF m 83 #[.val (.int p0), .val (.ref a1), .val (.ref a2), .val (.int (-1 : Int32))] [(.int (110 : Int32)), (.int p0)]))
              refine Go.st (fun _ k => XS.icmpYes X76.here hx rfl (pc0 := 83) (pc' := 92) rfl (hb hby d7_83) rfl (feq hc78).2 (by decide) (by decide) k) ?_
              show Go p e below _ (T76.setTop (mkF m 92 #[.val (.int p0), .val (.ref a1), .val (.ref a2), .val (.int (-1 : Int32))] []))
              refine Go.st (fun _ k => XS.iloadN X76.here hx rfl (hb hby d7_92) rfl k) ?_
              refine Go.st (fun _ k => XS.aloadN X76.here hx rfl (hb hby d7_93) rfl rfl k) ?_
              refine Go.st (fun _ k => XS.bipush X76.here hx rfl (hb hby d7_94) k) ?_
              obtain ⟨cq85, kq85, q85a, q85b, q85c⟩ := isOf hZ e76 E_a1
              obtain ⟨_, _, ⟨T85, L85, k85, n85⟩, -, X85, ⟨Lc85, hQ85, l85, y85, z85⟩, st85⟩ := X76.virtualBack hx (y := (⟨"java/lang/String", "charAt", "(I)C"⟩ : MethodName)) (z := (⟨"java/lang/String", "charAt", "(I)C"⟩ : MethodName)) hown (mvT hZ (hw _ (List.mem_of_getElem? (i := 9) rfl))) (mvT hZ (hw _ (List.mem_of_getElem? (i := 10) rfl))) (notFace_of_selects (args := #[]) (mvT hZ (hw _ (List.mem_of_getElem? (i := 12) rfl)))) (mvT hZ (hw _ (List.mem_of_getElem? (i := 12) rfl))) (mvT hZ (hw _ (List.mem_of_getElem? (i := 11) rfl))) (by decide) (backOf (W := 1) (rmChar l Z aZ hw [] (114 : Int32) a1 (6 : Int32) b1 (0 : Int32) cs vf k1 (8 : Int32) [(.int (34 : Int32)), (.int (92 : Int32)), (.int (36 : Int32)), (.int (64 : Int32)), (.int (96 : Int32)), (.int (110 : Int32)), (.int (114 : Int32)), (.int (116 : Int32))] h0 n0 hcs rfl hvf ⟨by decide, by decide⟩ rfl Fv_a1 Fc_a1 E_a1 S_cs S_vf Va_a1) hZ (hw _ (List.mem_of_getElem? (i := 13) rfl)) (hw _ (List.mem_of_getElem? (i := 1) rfl)) (by decide) (by decide)) q85a q85c (g := (mkF m 96 #[.val (.int p0), .val (.ref a1), .val (.ref a2), .val (.int (-1 : Int32))] [(.int (6 : Int32)), (.ref a1), (.int p0)])) rfl (by rw [hml]; rfl) (Steps.refl _) (argsL := [(.int (6 : Int32))]) (rest := [(.int p0)]) (lenOf pd56f5307 rfl) rfl (by show 2 * 0 + _ ≤ _; exact Nat.le_of_eq rfl) (hb hby d7_96) (fun _ _ => ⟨rfl, e76, (by decide : 0 + 0 ≤ _), (by decide : 0 + 0 ≤ _)⟩)
              dsimp only [Pt.U, Pt.locs, Pt.cells, Pt.slots] at X85 l85 y85 z85 st85 hQ85
              subst l85 y85 z85
              obtain ⟨rfl, N85q, e85⟩ := hQ85
              have N85 := Fr.app N76 N85q
              refine Go.st (fun _ k => st85.trans k) ?_
              show Go p e below _ (T85.setTop (mkF m 99 #[.val (.int p0), .val (.ref a1), .val (.ref a2), .val (.int (-1 : Int32))] [(.int (jChar (114 : Int32))), (.int p0)]))
              have hs86 : (jChar (114 : Int32)) = (114 : Int32) := (by decide +kernel)
              rw [hs86]
              show Go p e below _ (T85.setTop (mkF m 99 #[.val (.int p0), .val (.ref a1), .val (.ref a2), .val (.int (-1 : Int32))] [(.int (114 : Int32)), (.int p0)]))
              by_cases hc87 : p0 = (114 : Int32)
              · show Go p e below _ (T85.setTop (mkF m 99 #[.val (.int p0), .val (.ref a1), .val (.ref a2), .val (.int (-1 : Int32))] [(.int (114 : Int32)), (.int p0)]))
                refine Go.st (fun _ k => XS.icmpNo X85.here hx rfl (hb hby d7_99) rfl (teq hc87).2 k) ?_
                show Go p e below _ (T85.setTop (mkF m 102 #[.val (.int p0), .val (.ref a1), .val (.ref a2), .val (.int (-1 : Int32))] []))
                refine Go.st (fun _ k => XS.aloadN X85.here hx rfl (hb hby d7_102) rfl rfl k) ?_
                refine Go.st (fun _ k => XS.bipush X85.here hx rfl (hb hby d7_103) k) ?_
                obtain ⟨cq88, kq88, q88a, q88b, q88c⟩ := isOf hZ e85 E_a2
                obtain ⟨_, _, ⟨T88, L88, k88, n88⟩, -, X88, ⟨Lc88, hQ88, l88, y88, z88⟩, st88⟩ := X85.virtualBack hx (y := (⟨"java/lang/String", "charAt", "(I)C"⟩ : MethodName)) (z := (⟨"java/lang/String", "charAt", "(I)C"⟩ : MethodName)) hown (mvT hZ (hw _ (List.mem_of_getElem? (i := 9) rfl))) (mvT hZ (hw _ (List.mem_of_getElem? (i := 10) rfl))) (notFace_of_selects (args := #[]) (mvT hZ (hw _ (List.mem_of_getElem? (i := 12) rfl)))) (mvT hZ (hw _ (List.mem_of_getElem? (i := 12) rfl))) (mvT hZ (hw _ (List.mem_of_getElem? (i := 11) rfl))) (by decide) (backOf (W := 0) (rmChar l Z aZ hw [] (13 : Int32) a2 (6 : Int32) b2 (0 : Int32) cs vf k2 (8 : Int32) [(.int (34 : Int32)), (.int (92 : Int32)), (.int (36 : Int32)), (.int (64 : Int32)), (.int (96 : Int32)), (.int (10 : Int32)), (.int (13 : Int32)), (.int (9 : Int32))] h0 n0 hcs rfl hvf ⟨by decide, by decide⟩ rfl Fv_a2 Fc_a2 E_a2 S_cs S_vf Va_a2) hZ (hw _ (List.mem_of_getElem? (i := 13) rfl)) (hw _ (List.mem_of_getElem? (i := 1) rfl)) (by decide) (by decide)) q88a q88c (g := (mkF m 105 #[.val (.int p0), .val (.ref a1), .val (.ref a2), .val (.int (-1 : Int32))] [(.int (6 : Int32)), (.ref a2)])) rfl (by rw [hml]; rfl) (Steps.refl _) (argsL := [(.int (6 : Int32))]) (rest := []) (lenOf pd56f5307 rfl) rfl (by show 2 * 0 + _ ≤ _; exact Nat.le_of_eq rfl) (hb hby d7_105) (fun _ _ => ⟨rfl, e85, (by decide : 0 + 0 ≤ _), (by decide : 0 + 0 ≤ _)⟩)
                dsimp only [Pt.U, Pt.locs, Pt.cells, Pt.slots] at X88 l88 y88 z88 st88 hQ88
                subst l88 y88 z88
                obtain ⟨rfl, N88q, e88⟩ := hQ88
                have N88 := Fr.app N85 N88q
                refine Go.st (fun _ k => st88.trans k) ?_
                show Go p e below _ (T88.setTop (mkF m 108 #[.val (.int p0), .val (.ref a1), .val (.ref a2), .val (.int (-1 : Int32))] [(.int (jChar (13 : Int32)))]))
                have hs89 : (jChar (13 : Int32)) = (13 : Int32) := (by decide +kernel)
                rw [hs89]
                show Go p e below _ (T88.setTop (mkF m 108 #[.val (.int p0), .val (.ref a1), .val (.ref a2), .val (.int (-1 : Int32))] [(.int (13 : Int32))]))
                refine Go.st (fun _ k => XS.istoreN X88.here hx rfl (hb hby d7_108) rfl (l' := #[.val (.int p0), .val (.ref a1), .val (.ref a2), .val (.int (13 : Int32))]) rfl k) ?_
                show Go p e below _ (T88.setTop (mkF m 109 #[.val (.int p0), .val (.ref a1), .val (.ref a2), .val (.int (13 : Int32))] []))
                refine Go.st (fun _ k => XS.iloadN X88.here hx rfl (hb hby d7_109) rfl k) ?_
                refine Go.st (fun _ k => XS.aloadN X88.here hx rfl (hb hby d7_110) rfl rfl k) ?_
                refine Go.st (fun _ k => XS.bipush X88.here hx rfl (hb hby d7_111) k) ?_
                obtain ⟨cq90, kq90, q90a, q90b, q90c⟩ := isOf hZ e88 E_a1
                obtain ⟨_, _, ⟨T90, L90, k90, n90⟩, -, X90, ⟨Lc90, hQ90, l90, y90, z90⟩, st90⟩ := X88.virtualBack hx (y := (⟨"java/lang/String", "charAt", "(I)C"⟩ : MethodName)) (z := (⟨"java/lang/String", "charAt", "(I)C"⟩ : MethodName)) hown (mvT hZ (hw _ (List.mem_of_getElem? (i := 9) rfl))) (mvT hZ (hw _ (List.mem_of_getElem? (i := 10) rfl))) (notFace_of_selects (args := #[]) (mvT hZ (hw _ (List.mem_of_getElem? (i := 12) rfl)))) (mvT hZ (hw _ (List.mem_of_getElem? (i := 12) rfl))) (mvT hZ (hw _ (List.mem_of_getElem? (i := 11) rfl))) (by decide) (backOf (W := 1) (rmChar l Z aZ hw [] (116 : Int32) a1 (7 : Int32) b1 (0 : Int32) cs vf k1 (8 : Int32) [(.int (34 : Int32)), (.int (92 : Int32)), (.int (36 : Int32)), (.int (64 : Int32)), (.int (96 : Int32)), (.int (110 : Int32)), (.int (114 : Int32)), (.int (116 : Int32))] h0 n0 hcs rfl hvf ⟨by decide, by decide⟩ rfl Fv_a1 Fc_a1 E_a1 S_cs S_vf Va_a1) hZ (hw _ (List.mem_of_getElem? (i := 13) rfl)) (hw _ (List.mem_of_getElem? (i := 1) rfl)) (by decide) (by decide)) q90a q90c (g := (mkF m 113 #[.val (.int p0), .val (.ref a1), .val (.ref a2), .val (.int (13 : Int32))] [(.int (7 : Int32)), (.ref a1), (.int p0)])) rfl (by rw [hml]; rfl) (Steps.refl _) (argsL := [(.int (7 : Int32))]) (rest := [(.int p0)]) (lenOf pd56f5307 rfl) rfl (by show 2 * 0 + _ ≤ _; exact Nat.le_of_eq rfl) (hb hby d7_113) (fun _ _ => ⟨rfl, e88, (by decide : 0 + 0 ≤ _), (by decide : 0 + 0 ≤ _)⟩)
                dsimp only [Pt.U, Pt.locs, Pt.cells, Pt.slots] at X90 l90 y90 z90 st90 hQ90
                subst l90 y90 z90
                obtain ⟨rfl, N90q, e90⟩ := hQ90
                have N90 := Fr.app N88 N90q
                refine Go.st (fun _ k => st90.trans k) ?_
                show Go p e below _ (T90.setTop (mkF m 116 #[.val (.int p0), .val (.ref a1), .val (.ref a2), .val (.int (13 : Int32))] [(.int (jChar (116 : Int32))), (.int p0)]))
                have hs91 : (jChar (116 : Int32)) = (116 : Int32) := (by decide +kernel)
                rw [hs91]
                show Go p e below _ (T90.setTop (mkF m 116 #[.val (.int p0), .val (.ref a1), .val (.ref a2), .val (.int (13 : Int32))] [(.int (116 : Int32)), (.int p0)]))
                refine Go.st (fun _ k => XS.icmpYes X90.here hx rfl (pc0 := 116) (pc' := 126) rfl (hb hby d7_116) rfl (feq (by rw [hc87]; decide)).2 (by decide) (by decide) k) ?_
                show Go p e below _ (T90.setTop (mkF m 126 #[.val (.int p0), .val (.ref a1), .val (.ref a2), .val (.int (13 : Int32))] []))
                refine Go.st (fun _ k => XS.iloadN X90.here hx rfl (hb hby d7_126) rfl k) ?_
                obtain ⟨fs, hr, hrun, hended, hW, hsame⟩ := X90.leave (v := some (.int (13 : Int32))) (fun h => by rw [Bd.returns] at h; cases h)
                refine ⟨_, _, retI X90 hx Bd.returns (hb hby d7_127) hr, hrun, hended, _, _, rfl, ?_, ⟨_, rfl⟩, hW, hsame.mono (by decide) (by decide)⟩
                show Q_rmExp Z p0 a1 a2 b1 k1 b2 k2 cs vf h0 n0 _ T90.heap _
                rw [e90]
                refine ⟨?_, N90, rfl⟩
                unfold fExp
                rw [if_neg hc3, if_neg hc22, if_neg hc39, if_neg hc54, if_neg hc67, if_neg hc78, if_pos hc87]
              · show Go p e below _ (T85.setTop (mkF m 99 #[.val (.int p0), .val (.ref a1), .val (.ref a2), .val (.int (-1 : Int32))] [(.int (114 : Int32)), (.int p0)]))
                refine Go.st (fun _ k => XS.icmpYes X85.here hx rfl (pc0 := 99) (pc' := 109) rfl (hb hby d7_99) rfl (feq hc87).2 (by decide) (by decide) k) ?_
                show Go p e below _ (T85.setTop (mkF m 109 #[.val (.int p0), .val (.ref a1), .val (.ref a2), .val (.int (-1 : Int32))] []))
                refine Go.st (fun _ k => XS.iloadN X85.here hx rfl (hb hby d7_109) rfl k) ?_
                refine Go.st (fun _ k => XS.aloadN X85.here hx rfl (hb hby d7_110) rfl rfl k) ?_
                refine Go.st (fun _ k => XS.bipush X85.here hx rfl (hb hby d7_111) k) ?_
                obtain ⟨cq92, kq92, q92a, q92b, q92c⟩ := isOf hZ e85 E_a1
                obtain ⟨_, _, ⟨T92, L92, k92, n92⟩, -, X92, ⟨Lc92, hQ92, l92, y92, z92⟩, st92⟩ := X85.virtualBack hx (y := (⟨"java/lang/String", "charAt", "(I)C"⟩ : MethodName)) (z := (⟨"java/lang/String", "charAt", "(I)C"⟩ : MethodName)) hown (mvT hZ (hw _ (List.mem_of_getElem? (i := 9) rfl))) (mvT hZ (hw _ (List.mem_of_getElem? (i := 10) rfl))) (notFace_of_selects (args := #[]) (mvT hZ (hw _ (List.mem_of_getElem? (i := 12) rfl)))) (mvT hZ (hw _ (List.mem_of_getElem? (i := 12) rfl))) (mvT hZ (hw _ (List.mem_of_getElem? (i := 11) rfl))) (by decide) (backOf (W := 1) (rmChar l Z aZ hw [] (116 : Int32) a1 (7 : Int32) b1 (0 : Int32) cs vf k1 (8 : Int32) [(.int (34 : Int32)), (.int (92 : Int32)), (.int (36 : Int32)), (.int (64 : Int32)), (.int (96 : Int32)), (.int (110 : Int32)), (.int (114 : Int32)), (.int (116 : Int32))] h0 n0 hcs rfl hvf ⟨by decide, by decide⟩ rfl Fv_a1 Fc_a1 E_a1 S_cs S_vf Va_a1) hZ (hw _ (List.mem_of_getElem? (i := 13) rfl)) (hw _ (List.mem_of_getElem? (i := 1) rfl)) (by decide) (by decide)) q92a q92c (g := (mkF m 113 #[.val (.int p0), .val (.ref a1), .val (.ref a2), .val (.int (-1 : Int32))] [(.int (7 : Int32)), (.ref a1), (.int p0)])) rfl (by rw [hml]; rfl) (Steps.refl _) (argsL := [(.int (7 : Int32))]) (rest := [(.int p0)]) (lenOf pd56f5307 rfl) rfl (by show 2 * 0 + _ ≤ _; exact Nat.le_of_eq rfl) (hb hby d7_113) (fun _ _ => ⟨rfl, e85, (by decide : 0 + 0 ≤ _), (by decide : 0 + 0 ≤ _)⟩)
                dsimp only [Pt.U, Pt.locs, Pt.cells, Pt.slots] at X92 l92 y92 z92 st92 hQ92
                subst l92 y92 z92
                obtain ⟨rfl, N92q, e92⟩ := hQ92
                have N92 := Fr.app N85 N92q
                refine Go.st (fun _ k => st92.trans k) ?_
                show Go p e below _ (T92.setTop (mkF m 116 #[.val (.int p0), .val (.ref a1), .val (.ref a2), .val (.int (-1 : Int32))] [(.int (jChar (116 : Int32))), (.int p0)]))
                have hs93 : (jChar (116 : Int32)) = (116 : Int32) := (by decide +kernel)
                rw [hs93]
                show Go p e below _ (T92.setTop (mkF m 116 #[.val (.int p0), .val (.ref a1), .val (.ref a2), .val (.int (-1 : Int32))] [(.int (116 : Int32)), (.int p0)]))
                by_cases hc94 : p0 = (116 : Int32)
                · show Go p e below _ (T92.setTop (mkF m 116 #[.val (.int p0), .val (.ref a1), .val (.ref a2), .val (.int (-1 : Int32))] [(.int (116 : Int32)), (.int p0)]))
                  refine Go.st (fun _ k => XS.icmpNo X92.here hx rfl (hb hby d7_116) rfl (teq hc94).2 k) ?_
                  show Go p e below _ (T92.setTop (mkF m 119 #[.val (.int p0), .val (.ref a1), .val (.ref a2), .val (.int (-1 : Int32))] []))
                  refine Go.st (fun _ k => XS.aloadN X92.here hx rfl (hb hby d7_119) rfl rfl k) ?_
                  refine Go.st (fun _ k => XS.bipush X92.here hx rfl (hb hby d7_120) k) ?_
                  obtain ⟨cq95, kq95, q95a, q95b, q95c⟩ := isOf hZ e92 E_a2
                  obtain ⟨_, _, ⟨T95, L95, k95, n95⟩, -, X95, ⟨Lc95, hQ95, l95, y95, z95⟩, st95⟩ := X92.virtualBack hx (y := (⟨"java/lang/String", "charAt", "(I)C"⟩ : MethodName)) (z := (⟨"java/lang/String", "charAt", "(I)C"⟩ : MethodName)) hown (mvT hZ (hw _ (List.mem_of_getElem? (i := 9) rfl))) (mvT hZ (hw _ (List.mem_of_getElem? (i := 10) rfl))) (notFace_of_selects (args := #[]) (mvT hZ (hw _ (List.mem_of_getElem? (i := 12) rfl)))) (mvT hZ (hw _ (List.mem_of_getElem? (i := 12) rfl))) (mvT hZ (hw _ (List.mem_of_getElem? (i := 11) rfl))) (by decide) (backOf (W := 0) (rmChar l Z aZ hw [] (9 : Int32) a2 (7 : Int32) b2 (0 : Int32) cs vf k2 (8 : Int32) [(.int (34 : Int32)), (.int (92 : Int32)), (.int (36 : Int32)), (.int (64 : Int32)), (.int (96 : Int32)), (.int (10 : Int32)), (.int (13 : Int32)), (.int (9 : Int32))] h0 n0 hcs rfl hvf ⟨by decide, by decide⟩ rfl Fv_a2 Fc_a2 E_a2 S_cs S_vf Va_a2) hZ (hw _ (List.mem_of_getElem? (i := 13) rfl)) (hw _ (List.mem_of_getElem? (i := 1) rfl)) (by decide) (by decide)) q95a q95c (g := (mkF m 122 #[.val (.int p0), .val (.ref a1), .val (.ref a2), .val (.int (-1 : Int32))] [(.int (7 : Int32)), (.ref a2)])) rfl (by rw [hml]; rfl) (Steps.refl _) (argsL := [(.int (7 : Int32))]) (rest := []) (lenOf pd56f5307 rfl) rfl (by show 2 * 0 + _ ≤ _; exact Nat.le_of_eq rfl) (hb hby d7_122) (fun _ _ => ⟨rfl, e92, (by decide : 0 + 0 ≤ _), (by decide : 0 + 0 ≤ _)⟩)
                  dsimp only [Pt.U, Pt.locs, Pt.cells, Pt.slots] at X95 l95 y95 z95 st95 hQ95
                  subst l95 y95 z95
                  obtain ⟨rfl, N95q, e95⟩ := hQ95
                  have N95 := Fr.app N92 N95q
                  refine Go.st (fun _ k => st95.trans k) ?_
                  show Go p e below _ (T95.setTop (mkF m 125 #[.val (.int p0), .val (.ref a1), .val (.ref a2), .val (.int (-1 : Int32))] [(.int (jChar (9 : Int32)))]))
                  have hs96 : (jChar (9 : Int32)) = (9 : Int32) := (by decide +kernel)
                  rw [hs96]
                  show Go p e below _ (T95.setTop (mkF m 125 #[.val (.int p0), .val (.ref a1), .val (.ref a2), .val (.int (-1 : Int32))] [(.int (9 : Int32))]))
                  refine Go.st (fun _ k => XS.istoreN X95.here hx rfl (hb hby d7_125) rfl (l' := #[.val (.int p0), .val (.ref a1), .val (.ref a2), .val (.int (9 : Int32))]) rfl k) ?_
                  show Go p e below _ (T95.setTop (mkF m 126 #[.val (.int p0), .val (.ref a1), .val (.ref a2), .val (.int (9 : Int32))] []))
                  refine Go.st (fun _ k => XS.iloadN X95.here hx rfl (hb hby d7_126) rfl k) ?_
                  obtain ⟨fs, hr, hrun, hended, hW, hsame⟩ := X95.leave (v := some (.int (9 : Int32))) (fun h => by rw [Bd.returns] at h; cases h)
                  refine ⟨_, _, retI X95 hx Bd.returns (hb hby d7_127) hr, hrun, hended, _, _, rfl, ?_, ⟨_, rfl⟩, hW, hsame.mono (by decide) (by decide)⟩
                  show Q_rmExp Z p0 a1 a2 b1 k1 b2 k2 cs vf h0 n0 _ T95.heap _
                  rw [e95]
                  refine ⟨?_, N95, rfl⟩
                  unfold fExp
                  rw [if_neg hc3, if_neg hc22, if_neg hc39, if_neg hc54, if_neg hc67, if_neg hc78, if_neg hc87, if_pos hc94]
                · show Go p e below _ (T92.setTop (mkF m 116 #[.val (.int p0), .val (.ref a1), .val (.ref a2), .val (.int (-1 : Int32))] [(.int (116 : Int32)), (.int p0)]))
                  refine Go.st (fun _ k => XS.icmpYes X92.here hx rfl (pc0 := 116) (pc' := 126) rfl (hb hby d7_116) rfl (feq hc94).2 (by decide) (by decide) k) ?_
                  show Go p e below _ (T92.setTop (mkF m 126 #[.val (.int p0), .val (.ref a1), .val (.ref a2), .val (.int (-1 : Int32))] []))
                  refine Go.st (fun _ k => XS.iloadN X92.here hx rfl (hb hby d7_126) rfl k) ?_
                  obtain ⟨fs, hr, hrun, hended, hW, hsame⟩ := X92.leave (v := some (.int (-1 : Int32))) (fun h => by rw [Bd.returns] at h; cases h)
                  refine ⟨_, _, retI X92 hx Bd.returns (hb hby d7_127) hr, hrun, hended, _, _, rfl, ?_, ⟨_, rfl⟩, hW, hsame.mono (by decide) (by decide)⟩
                  show Q_rmExp Z p0 a1 a2 b1 k1 b2 k2 cs vf h0 n0 _ T92.heap _
                  rw [e92]
                  refine ⟨?_, N92, rfl⟩
                  unfold fExp
                  rw [if_neg hc3, if_neg hc22, if_neg hc39, if_neg hc54, if_neg hc67, if_neg hc78, if_neg hc87, if_neg hc94]
theorem own_and7 (k : Int32) : (k &&& (7 : Int32)) = 0 ∨ (k &&& (7 : Int32)) = 1 ∨ (k &&& (7 : Int32)) = 2 ∨ (k &&& (7 : Int32)) = 3 ∨ (k &&& (7 : Int32)) = 4 ∨ (k &&& (7 : Int32)) = 5 ∨ (k &&& (7 : Int32)) = 6 ∨ (k &&& (7 : Int32)) = 7 := by
  have e := Jvm.Kit.i32_mask k 7 (k := 3) (by decide) (by decide)
  have c0 : (0 : Int32).toInt = 0 := by decide
  have c1 : (1 : Int32).toInt = 1 := by decide
  have c2 : (2 : Int32).toInt = 2 := by decide
  have c3 : (3 : Int32).toInt = 3 := by decide
  have c4 : (4 : Int32).toInt = 4 := by decide
  have c5 : (5 : Int32).toInt = 5 := by decide
  have c6 : (6 : Int32).toInt = 6 := by decide
  have c7 : (7 : Int32).toInt = 7 := by decide
  simp only [← Int32.toInt_inj, c0, c1, c2, c3, c4, c5, c6, c7]
  omega
theorem own_same (y : Int32) : fDec y = fExp y := by
  by_cases h1 : y = (34 : Int32)
  · subst h1; decide +kernel
  by_cases h2 : y = (36 : Int32)
  · subst h2; decide +kernel
  by_cases h3 : y = (64 : Int32)
  · subst h3; decide +kernel
  by_cases h4 : y = (92 : Int32)
  · subst h4; decide +kernel
  by_cases h5 : y = (96 : Int32)
  · subst h5; decide +kernel
  by_cases h6 : y = (110 : Int32)
  · subst h6; decide +kernel
  by_cases h7 : y = (114 : Int32)
  · subst h7; decide +kernel
  by_cases h8 : y = (116 : Int32)
  · subst h8; decide +kernel
  unfold fDec fExp
  simp only [h1, h2, h3, h4, h5, h6, h7, h8, if_false]

theorem pn_0 : plainName "com/example/tokenloom/tokenloom/typespec/StringValueDecodeEscapePinLaw" = true := by first | (simp [plainName, overriddenIn]; done) | decide +kernel
theorem pd56f530d : parseMethodDescriptor "(I)I" = some ⟨[.int], some .int⟩ := by decide +kernel
theorem pda0c35829 : parseMethodDescriptor "(ILjava/lang/String;Ljava/lang/String;)I" = some ⟨[.int, (.object "java/lang/String"), (.object "java/lang/String")], some .int⟩ := by decide +kernel
theorem ef_rm0 (m : MethodId) (p0 : Int32) (p1 : Int32) : entryFrame m #[(.int p0), (.int p1)] maxLocals = mkF m 0 #[.val (.int p0), .val (.int p1), .unset, .unset, .unset, .unset, .unset, .unset, .unset, .unset] [] := by first | (simp [entryFrame, mkF, argsToLocals, Value.category, maxLocals]; done) | rfl
def Q_rm0 (Z : State) (p0 : Int32) (p1 : Int32) (cs : Int32) (vf : Value) (h0 : Heap) (n0 : Nat) (v : Option Value) (h : Heap) (L : List Loc) : Prop := v = some (.int 1) ∧ Fr n0 L
abbrev F_rm0 (Z : State) (p0 : Int32) (p1 : Int32) (cs : Int32) (vf : Value) (h0 : Heap) (n0 : Nat) (s : State) (o : Outcome) (U : State) : Prop := ∃ v L, o = .returned v ∧ Q_rm0 Z p0 p1 cs vf h0 n0 v U.heap L ∧ ReturnedEndW s o U L room_1.cells room_1.slots
set_option maxRecDepth 65536 in
set_option maxHeartbeats 40000000 in
theorem rm0 (l : Launch) (Z : State) (aZ : Array Value) (hw : ∀ d ∈ tables_1, d.before aZ Z = true) (ws : List Jvm.Cond) (p0 : Int32) (p1 : Int32) (cs : Int32) (vf : Value) (h0 : Heap) (n0 : Nat) (Z0 : n0 ≤ h0.size) (hn0 : n0 = h0.size) (hcw : Jvm.Lit.compactW.before aZ Z = true) (hheld7 : Jvm.Lit.constHeld Z "com/example/tokenloom/tokenloom/typespec/StringValueDecodeEscapePinLaw" 7) (hheld9 : Jvm.Lit.constHeld Z "com/example/tokenloom/tokenloom/typespec/StringValueDecodeEscapePinLaw" 9) (hcs : ¬ cs = 0) (hvf : vf.isRef = true) (S_cs : Sta Z h0 "java/lang/String" "COMPACT_STRINGS" "Z" (.int cs)) (S_vf : Sta Z h0 "jdk/internal/util/Preconditions" "SIOOBE_FORMATTER" "Ljava/util/function/BiFunction;" vf) :
    MetFree l x (head1 (Jvm.Cond.code x code maxLocals ret :: ws) room_1) (fun a U => a = #[(.int p0), (.int p1)] ∧ Z.Warmed39 U.vm ∧ U.heap = h0 ∧ U = Z) (fun _ _ _ _ _ => True) (fun _ U o U' => ∃ v L, o = .returned v ∧ Q_rm0 Z p0 p1 cs vf h0 n0 v U'.heap L ∧ ReturnedEndW U o U' L room_1.cells room_1.slots) := by
  refine MetFree.of_bodySF (plainFor_of_name pn_0) hisR ?_
  intro p e s m args below meth c s₁ Bd hml0 hP hK
  obtain ⟨rfl, hZ, hh, hUZ⟩ := hP
  have hx := Bd.exec
  have hby := Bd.bytes
  have hml : c.maxLocals = 10 := hml0
  have hown : s.vm.findClass "com/example/tokenloom/tokenloom/typespec/StringValueDecodeEscapePinLaw" = some m.cls := findClass_of_methodNamed Bd.named
  have hnm := (name_of_methodNamed Bd.named Bd.method).1
  have X0 : Stand p l e room_1 s m #[(.int p0), (.int p1)] below meth c s₁ [] 0 0 := Stand.of_body Bd
  have e0 : s₁.heap = h0 := by rw [← hh, Bd.state]; rfl
  have N0 := Fr.nil n0
  refine Go.st (fun _ k => castTop (ef_rm0 m p0 p1) k) ?_
  have hkeep : ∀ (b : Addr) (cl : Cell), Z.heap[b]? = some cl → s.heap[b]? = some cl := fun b cl h => by rw [hUZ]; exact h
  have hsz : n0 = s.heap.size := by rw [hn0, ← hh]
  have hIB : IB Z s.vm [] := by rw [hUZ]; exact IB.start
  show Go p e below _ (s₁.setTop (mkF m 0 #[.val (.int p0), .val (.int p1), .unset, .unset, .unset, .unset, .unset, .unset, .unset, .unset] []))
  have X1 : Stand p l e room_1 (s.setVm s.vm) m #[(.int p0), (.int p1)] below meth c s₁ _ _ _ := X0
  obtain ⟨a2, T2, h2, kk2, b2, kc2, X2, e2, E2, hS2, hk2, hZ2, hown2, Es2, Fc2, Fv2, Va2, la2, lb2, IB2, st2⟩ := ldcSV (s := s) (vm0 := s.vm) X1 hx hZ hown (hw _ (List.mem_of_getElem? (i := 0) rfl)) (own_wS hw) e0 ((State.WarmedH.refl s).since h0.size) (Nat.le_refl _) (hsz ▸ N0) hkeep hIB (by decide +kernel) hheld7 hcw (vs := [(.int (34 : Int32)), (.int (92 : Int32)), (.int (36 : Int32)), (.int (64 : Int32)), (.int (96 : Int32)), (.int (110 : Int32)), (.int (114 : Int32)), (.int (116 : Int32))]) (z := (8 : Int32)) ⟨by decide +kernel, by decide +kernel⟩ (by decide) (by decide) (g := (mkF m 0 #[.val (.int p0), .val (.int p1), .unset, .unset, .unset, .unset, .unset, .unset, .unset, .unset] [])) rfl (hb hby at_0) (n := 32) (by decide +kernel) (by decide) (by decide) (by decide)
  have hZ := hZ2
  have hown := hown2
  have F2_S_COMPACT_STRINGS := S_cs.ext E2
  have F2_S_SIOOBE_FORMATTER := S_vf.ext E2
  have Z2 : n0 ≤ h2.size := Nat.le_trans Z0 E2.1
  refine Go.st (fun _ k => st2 _ k) ?_
  show Go p e below _ (T2.setTop (mkF m 2 #[.val (.int p0), .val (.int p1), .unset, .unset, .unset, .unset, .unset, .unset, .unset, .unset] [(.ref a2)]))
  refine Go.st (fun _ k => XS.astoreN X2.here hx rfl (hb hby at_2) rfl rfl (l' := #[.val (.int p0), .val (.int p1), .val (.ref a2), .unset, .unset, .unset, .unset, .unset, .unset, .unset]) rfl k) ?_
  show Go p e below _ (T2.setTop (mkF m 3 #[.val (.int p0), .val (.int p1), .val (.ref a2), .unset, .unset, .unset, .unset, .unset, .unset, .unset] []))
  obtain ⟨a3, T3, h3, kk3, b3, kc3, X3, e3, E3, hS3, hk3, hZ3, hown3, Es3, Fc3, Fv3, Va3, la3, lb3, IB3, st3⟩ := ldcSV (s := s) (vm0 := T2.vm) X2 hx hZ hown (hw _ (List.mem_of_getElem? (i := 8) rfl)) (own_wS hw) e2 hS2 hk2 (hsz ▸ N0) hkeep IB2 (by decide +kernel) hheld9 hcw (vs := [(.int (34 : Int32)), (.int (92 : Int32)), (.int (36 : Int32)), (.int (64 : Int32)), (.int (96 : Int32)), (.int (10 : Int32)), (.int (13 : Int32)), (.int (9 : Int32))]) (z := (8 : Int32)) ⟨by decide +kernel, by decide +kernel⟩ (by decide) (by decide) (g := (mkF m 3 #[.val (.int p0), .val (.int p1), .val (.ref a2), .unset, .unset, .unset, .unset, .unset, .unset, .unset] [])) rfl (hb hby at_3) (n := 32) (by decide +kernel) (by decide) (by decide) (by decide)
  have hZ := hZ3
  have hown := hown3
  have F3_S_COMPACT_STRINGS := F2_S_COMPACT_STRINGS.ext E3
  have F3_S_SIOOBE_FORMATTER := F2_S_SIOOBE_FORMATTER.ext E3
  have F3_E_a2 := Es2.ext E3
  have F3_F_a2_coder := Fc2.ext E3
  have F3_F_a2_value := Fv2.ext E3
  have F3_V_b2 := Va2.ext E3
  have Z3 : n0 ≤ h3.size := Nat.le_trans Z2 E3.1
  refine Go.st (fun _ k => st3 _ k) ?_
  show Go p e below _ (T3.setTop (mkF m 5 #[.val (.int p0), .val (.int p1), .val (.ref a2), .unset, .unset, .unset, .unset, .unset, .unset, .unset] [(.ref a3)]))
  refine Go.st (fun _ k => XS.astoreN X3.here hx rfl (hb hby at_5) rfl rfl (l' := #[.val (.int p0), .val (.int p1), .val (.ref a2), .val (.ref a3), .unset, .unset, .unset, .unset, .unset, .unset]) rfl k) ?_
  show Go p e below _ (T3.setTop (mkF m 6 #[.val (.int p0), .val (.int p1), .val (.ref a2), .val (.ref a3), .unset, .unset, .unset, .unset, .unset, .unset] []))
  refine Go.st (fun _ k => XS.iloadN X3.here hx rfl (hb hby at_6) rfl k) ?_
  refine Go.st (fun _ k => XS.bipush X3.here hx rfl (hb hby at_7) k) ?_
  refine Go.st (fun _ k => XS.iand X3.here hx rfl (hb hby at_9) rfl k) ?_
  show Go p e below _ (T3.setTop (mkF m 10 #[.val (.int p0), .val (.int p1), .val (.ref a2), .val (.ref a3), .unset, .unset, .unset, .unset, .unset, .unset] [(.int (p1 &&& (7 : Int32)))]))
  rcases own_and7 p1 with hr4 | hr4 | hr4 | hr4 | hr4 | hr4 | hr4 | hr4
  · rw [hr4]
    show Go p e below _ (T3.setTop (mkF m 10 #[.val (.int p0), .val (.int p1), .val (.ref a2), .val (.ref a3), .unset, .unset, .unset, .unset, .unset, .unset] [(.int (0 : Int32))]))
    refine Go.st (fun _ k => XS.istore X3.here hx rfl (hb hby at_10) rfl (l' := #[.val (.int p0), .val (.int p1), .val (.ref a2), .val (.ref a3), .val (.int (0 : Int32)), .unset, .unset, .unset, .unset, .unset]) rfl k) ?_
    show Go p e below _ (T3.setTop (mkF m 12 #[.val (.int p0), .val (.int p1), .val (.ref a2), .val (.ref a3), .val (.int (0 : Int32)), .unset, .unset, .unset, .unset, .unset] []))
    refine Go.st (fun _ k => XS.aloadN X3.here hx rfl (hb hby at_12) rfl rfl k) ?_
    refine Go.st (fun _ k => XS.iload X3.here hx rfl (hb hby at_13) rfl k) ?_
    obtain ⟨cq5, kq5, q5a, q5b, q5c⟩ := isOf hZ e3 F3_E_a2
    obtain ⟨_, _, ⟨T5, L5, k5, n5⟩, -, X5, ⟨Lc5, hQ5, l5, y5, z5⟩, st5⟩ := X3.virtualBack hx (y := (⟨"java/lang/String", "charAt", "(I)C"⟩ : MethodName)) (z := (⟨"java/lang/String", "charAt", "(I)C"⟩ : MethodName)) hown (mvT hZ (hw _ (List.mem_of_getElem? (i := 9) rfl))) (mvT hZ (hw _ (List.mem_of_getElem? (i := 10) rfl))) (notFace_of_selects (args := #[]) (mvT hZ (hw _ (List.mem_of_getElem? (i := 12) rfl)))) (mvT hZ (hw _ (List.mem_of_getElem? (i := 12) rfl))) (mvT hZ (hw _ (List.mem_of_getElem? (i := 11) rfl))) (by decide) (backOf (W := 0) (rmChar l Z aZ hw [] (34 : Int32) a2 (0 : Int32) b2 (0 : Int32) cs vf kc2 (8 : Int32) [(.int (34 : Int32)), (.int (92 : Int32)), (.int (36 : Int32)), (.int (64 : Int32)), (.int (96 : Int32)), (.int (110 : Int32)), (.int (114 : Int32)), (.int (116 : Int32))] h3 n0 hcs rfl hvf ⟨by decide, by decide⟩ rfl F3_F_a2_value F3_F_a2_coder F3_E_a2 F3_S_COMPACT_STRINGS F3_S_SIOOBE_FORMATTER F3_V_b2) hZ (hw _ (List.mem_of_getElem? (i := 13) rfl)) (hw _ (List.mem_of_getElem? (i := 1) rfl)) (by decide) (by decide)) q5a q5c (g := (mkF m 15 #[.val (.int p0), .val (.int p1), .val (.ref a2), .val (.ref a3), .val (.int (0 : Int32)), .unset, .unset, .unset, .unset, .unset] [(.int (0 : Int32)), (.ref a2)])) rfl (by rw [hml]; rfl) (Steps.refl _) (argsL := [(.int (0 : Int32))]) (rest := []) (lenOf pd56f5307 rfl) rfl (by show 2 * 0 + _ ≤ _; exact Nat.le_of_eq rfl) (hb hby at_15) (fun _ _ => ⟨rfl, e3, (by decide : 4 + 0 ≤ _), (by decide : 72 + 0 ≤ _)⟩)
    dsimp only [Pt.U, Pt.locs, Pt.cells, Pt.slots] at X5 l5 y5 z5 st5 hQ5
    subst l5 y5 z5
    obtain ⟨rfl, N5q, e5⟩ := hQ5
    have N5 := Fr.app N0 N5q
    refine Go.st (fun _ k => st5.trans k) ?_
    show Go p e below _ (T5.setTop (mkF m 18 #[.val (.int p0), .val (.int p1), .val (.ref a2), .val (.ref a3), .val (.int (0 : Int32)), .unset, .unset, .unset, .unset, .unset] [(.int (jChar (34 : Int32)))]))
    have hs6 : (jChar (34 : Int32)) = (34 : Int32) := (by decide +kernel)
    rw [hs6]
    show Go p e below _ (T5.setTop (mkF m 18 #[.val (.int p0), .val (.int p1), .val (.ref a2), .val (.ref a3), .val (.int (0 : Int32)), .unset, .unset, .unset, .unset, .unset] [(.int (34 : Int32))]))
    refine Go.st (fun _ k => XS.istore X5.here hx rfl (hb hby at_18) rfl (l' := #[.val (.int p0), .val (.int p1), .val (.ref a2), .val (.ref a3), .val (.int (0 : Int32)), .val (.int (34 : Int32)), .unset, .unset, .unset, .unset]) rfl k) ?_
    show Go p e below _ (T5.setTop (mkF m 20 #[.val (.int p0), .val (.int p1), .val (.ref a2), .val (.ref a3), .val (.int (0 : Int32)), .val (.int (34 : Int32)), .unset, .unset, .unset, .unset] []))
    refine Go.st (fun _ k => XS.iload X5.here hx rfl (hb hby at_20) rfl k) ?_
    obtain ⟨_, _, ⟨T7, L7, k7, n7⟩, -, X7, ⟨Lc7, hQ7, l7, y7, z7⟩, st7⟩ := Jvm.LawKit.callS X5 hx (y := (⟨"com/example/tokenloom/tokenloom/typespec/StringValue", "decodeEscape", "(I)I"⟩ : MethodName)) hown (mvT hZ (hw _ (List.mem_of_getElem? (i := 34) rfl))) (mvT hZ (hw _ (List.mem_of_getElem? (i := 35) rfl))) (mvT hZ (hw _ (List.mem_of_getElem? (i := 36) rfl))) (mvT hZ (hw _ (List.mem_of_getElem? (i := 37) rfl))) (by decide) (backOf (W := 0) (rm6 l Z aZ hw [] (34 : Int32) h3 n0 ) hZ (hw _ (List.mem_of_getElem? (i := 37) rfl)) (hw _ (List.mem_of_getElem? (i := 36) rfl)) (by decide) (by decide)) (g := (mkF m 22 #[.val (.int p0), .val (.int p1), .val (.ref a2), .val (.ref a3), .val (.int (0 : Int32)), .val (.int (34 : Int32)), .unset, .unset, .unset, .unset] [(.int (34 : Int32))])) rfl (by rw [hml]; rfl) (argsL := [(.int (34 : Int32))]) (rest := []) (lenOf pd56f530d rfl) rfl (by show 2 * 0 + _ ≤ _; exact Nat.le_of_eq rfl) (hb hby at_22) (fun _ _ => ⟨rfl, e5, (by decide : 4 + 0 ≤ _), (by decide : 72 + 0 ≤ _)⟩)
    dsimp only [Pt.U, Pt.locs, Pt.cells, Pt.slots] at X7 l7 y7 z7 st7 hQ7
    subst l7 y7 z7
    obtain ⟨rfl, N7q, e7⟩ := hQ7
    have N7 := Fr.app N5 N7q
    refine Go.st (fun _ k => st7 _ k) ?_
    show Go p e below _ (T7.setTop (mkF m 25 #[.val (.int p0), .val (.int p1), .val (.ref a2), .val (.ref a3), .val (.int (0 : Int32)), .val (.int (34 : Int32)), .unset, .unset, .unset, .unset] [(.int (fDec (34 : Int32)))]))
    have hs8 : (fDec (34 : Int32)) = (34 : Int32) := (by decide +kernel)
    rw [hs8]
    show Go p e below _ (T7.setTop (mkF m 25 #[.val (.int p0), .val (.int p1), .val (.ref a2), .val (.ref a3), .val (.int (0 : Int32)), .val (.int (34 : Int32)), .unset, .unset, .unset, .unset] [(.int (34 : Int32))]))
    refine Go.st (fun _ k => XS.aloadN X7.here hx rfl (hb hby at_25) rfl rfl k) ?_
    refine Go.st (fun _ k => XS.iload X7.here hx rfl (hb hby at_26) rfl k) ?_
    obtain ⟨cq9, kq9, q9a, q9b, q9c⟩ := isOf hZ e7 Es3
    obtain ⟨_, _, ⟨T9, L9, k9, n9⟩, -, X9, ⟨Lc9, hQ9, l9, y9, z9⟩, st9⟩ := X7.virtualBack hx (y := (⟨"java/lang/String", "charAt", "(I)C"⟩ : MethodName)) (z := (⟨"java/lang/String", "charAt", "(I)C"⟩ : MethodName)) hown (mvT hZ (hw _ (List.mem_of_getElem? (i := 9) rfl))) (mvT hZ (hw _ (List.mem_of_getElem? (i := 10) rfl))) (notFace_of_selects (args := #[]) (mvT hZ (hw _ (List.mem_of_getElem? (i := 12) rfl)))) (mvT hZ (hw _ (List.mem_of_getElem? (i := 12) rfl))) (mvT hZ (hw _ (List.mem_of_getElem? (i := 11) rfl))) (by decide) (backOf (W := 1) (rmChar l Z aZ hw [] (34 : Int32) a3 (0 : Int32) b3 (0 : Int32) cs vf kc3 (8 : Int32) [(.int (34 : Int32)), (.int (92 : Int32)), (.int (36 : Int32)), (.int (64 : Int32)), (.int (96 : Int32)), (.int (10 : Int32)), (.int (13 : Int32)), (.int (9 : Int32))] h3 n0 hcs rfl hvf ⟨by decide, by decide⟩ rfl Fv3 Fc3 Es3 F3_S_COMPACT_STRINGS F3_S_SIOOBE_FORMATTER Va3) hZ (hw _ (List.mem_of_getElem? (i := 13) rfl)) (hw _ (List.mem_of_getElem? (i := 1) rfl)) (by decide) (by decide)) q9a q9c (g := (mkF m 28 #[.val (.int p0), .val (.int p1), .val (.ref a2), .val (.ref a3), .val (.int (0 : Int32)), .val (.int (34 : Int32)), .unset, .unset, .unset, .unset] [(.int (0 : Int32)), (.ref a3), (.int (34 : Int32))])) rfl (by rw [hml]; rfl) (Steps.refl _) (argsL := [(.int (0 : Int32))]) (rest := [(.int (34 : Int32))]) (lenOf pd56f5307 rfl) rfl (by show 2 * 0 + _ ≤ _; exact Nat.le_of_eq rfl) (hb hby at_28) (fun _ _ => ⟨rfl, e7, (by decide : 4 + 0 ≤ _), (by decide : 72 + 0 ≤ _)⟩)
    dsimp only [Pt.U, Pt.locs, Pt.cells, Pt.slots] at X9 l9 y9 z9 st9 hQ9
    subst l9 y9 z9
    obtain ⟨rfl, N9q, e9⟩ := hQ9
    have N9 := Fr.app N7 N9q
    refine Go.st (fun _ k => st9.trans k) ?_
    show Go p e below _ (T9.setTop (mkF m 31 #[.val (.int p0), .val (.int p1), .val (.ref a2), .val (.ref a3), .val (.int (0 : Int32)), .val (.int (34 : Int32)), .unset, .unset, .unset, .unset] [(.int (jChar (34 : Int32))), (.int (34 : Int32))]))
    have hs10 : (jChar (34 : Int32)) = (34 : Int32) := (by decide +kernel)
    rw [hs10]
    show Go p e below _ (T9.setTop (mkF m 31 #[.val (.int p0), .val (.int p1), .val (.ref a2), .val (.ref a3), .val (.int (0 : Int32)), .val (.int (34 : Int32)), .unset, .unset, .unset, .unset] [(.int (34 : Int32)), (.int (34 : Int32))]))
    refine Go.st (fun _ k => XS.icmpNo X9.here hx rfl (hb hby at_31) rfl (teq (by decide : ((34 : Int32) = (34 : Int32)))).2 k) ?_
    show Go p e below _ (T9.setTop (mkF m 34 #[.val (.int p0), .val (.int p1), .val (.ref a2), .val (.ref a3), .val (.int (0 : Int32)), .val (.int (34 : Int32)), .unset, .unset, .unset, .unset] []))
    refine Go.st (fun _ k => XS.iconst X9.here hx rfl (hb hby at_34) k) ?_
    refine Go.st (fun _ k => XS.goto X9.here hx rfl (pc0 := 35) (pc' := 39) rfl (hb hby at_35) (by decide) (by decide) k) ?_
    show Go p e below _ (T9.setTop (mkF m 39 #[.val (.int p0), .val (.int p1), .val (.ref a2), .val (.ref a3), .val (.int (0 : Int32)), .val (.int (34 : Int32)), .unset, .unset, .unset, .unset] [(.int (1 : Int32))]))
    refine Go.st (fun _ k => XS.istore X9.here hx rfl (hb hby at_39) rfl (l' := #[.val (.int p0), .val (.int p1), .val (.ref a2), .val (.ref a3), .val (.int (0 : Int32)), .val (.int (34 : Int32)), .val (.int (1 : Int32)), .unset, .unset, .unset]) rfl k) ?_
    show Go p e below _ (T9.setTop (mkF m 41 #[.val (.int p0), .val (.int p1), .val (.ref a2), .val (.ref a3), .val (.int (0 : Int32)), .val (.int (34 : Int32)), .val (.int (1 : Int32)), .unset, .unset, .unset] []))
    refine Go.st (fun _ k => XS.iloadN X9.here hx rfl (hb hby at_41) rfl k) ?_
    refine Go.st (fun _ k => XS.iconst X9.here hx rfl (hb hby at_42) k) ?_
    refine Go.st (fun _ k => XS.iushr X9.here hx rfl (hb hby at_43) rfl k) ?_
    show Go p e below _ (T9.setTop (mkF m 44 #[.val (.int p0), .val (.int p1), .val (.ref a2), .val (.ref a3), .val (.int (0 : Int32)), .val (.int (34 : Int32)), .val (.int (1 : Int32)), .unset, .unset, .unset] [(.int ((p1.toUInt32 >>> ((3 : Int32) &&& 31).toUInt32).toInt32))]))
    refine Go.st (fun _ k => XS.iconst X9.here hx rfl (hb hby at_44) k) ?_
    refine Go.st (fun _ k => XS.iand X9.here hx rfl (hb hby at_45) rfl k) ?_
    show Go p e below _ (T9.setTop (mkF m 46 #[.val (.int p0), .val (.int p1), .val (.ref a2), .val (.ref a3), .val (.int (0 : Int32)), .val (.int (34 : Int32)), .val (.int (1 : Int32)), .unset, .unset, .unset] [(.int (((p1.toUInt32 >>> ((3 : Int32) &&& 31).toUInt32).toInt32) &&& (3 : Int32)))]))
    generalize hv11 : (((p1.toUInt32 >>> ((3 : Int32) &&& 31).toUInt32).toInt32) &&& (3 : Int32)) = v11
    refine Go.st (fun _ k => XS.istore X9.here hx rfl (hb hby at_46) rfl (l' := #[.val (.int p0), .val (.int p1), .val (.ref a2), .val (.ref a3), .val (.int (0 : Int32)), .val (.int (34 : Int32)), .val (.int (1 : Int32)), .val (.int v11), .unset, .unset]) rfl k) ?_
    show Go p e below _ (T9.setTop (mkF m 48 #[.val (.int p0), .val (.int p1), .val (.ref a2), .val (.ref a3), .val (.int (0 : Int32)), .val (.int (34 : Int32)), .val (.int (1 : Int32)), .val (.int v11), .unset, .unset] []))
    refine Go.st (fun _ k => XS.iload X9.here hx rfl (hb hby at_48) rfl k) ?_
    by_cases hc12 : v11 = (0 : Int32)
    · show Go p e below _ (T9.setTop (mkF m 50 #[.val (.int p0), .val (.int p1), .val (.ref a2), .val (.ref a3), .val (.int (0 : Int32)), .val (.int (34 : Int32)), .val (.int (1 : Int32)), .val (.int v11), .unset, .unset] [(.int v11)]))
      refine Go.st (fun _ k => XS.ifNo X9.here hx rfl (hb hby at_50) rfl ((if0 _ _).trans (teq hc12).2) k) ?_
      show Go p e below _ (T9.setTop (mkF m 53 #[.val (.int p0), .val (.int p1), .val (.ref a2), .val (.ref a3), .val (.int (0 : Int32)), .val (.int (34 : Int32)), .val (.int (1 : Int32)), .val (.int v11), .unset, .unset] []))
      refine Go.st (fun _ k => XS.iload X9.here hx rfl (hb hby at_53) rfl k) ?_
      refine Go.st (fun _ k => XS.iconst X9.here hx rfl (hb hby at_55) k) ?_
      refine Go.st (fun _ k => XS.isub X9.here hx rfl (hb hby at_56) rfl k) ?_
      refine Go.st (fun _ k => XS.istore X9.here hx rfl (hb hby at_57) rfl (l' := #[.val (.int p0), .val (.int p1), .val (.ref a2), .val (.ref a3), .val (.int (0 : Int32)), .val (.int (34 : Int32)), .val (.int (1 : Int32)), .val (.int v11), .val (.int (33 : Int32)), .unset]) rfl k) ?_
      show Go p e below _ (T9.setTop (mkF m 59 #[.val (.int p0), .val (.int p1), .val (.ref a2), .val (.ref a3), .val (.int (0 : Int32)), .val (.int (34 : Int32)), .val (.int (1 : Int32)), .val (.int v11), .val (.int (33 : Int32)), .unset] []))
      refine Go.st (fun _ k => XS.goto X9.here hx rfl (pc0 := 59) (pc' := 80) rfl (hb hby at_59) (by decide) (by decide) k) ?_
      show Go p e below _ (T9.setTop (mkF m 80 #[.val (.int p0), .val (.int p1), .val (.ref a2), .val (.ref a3), .val (.int (0 : Int32)), .val (.int (34 : Int32)), .val (.int (1 : Int32)), .val (.int v11), .val (.int (33 : Int32)), .unset] []))
      refine Go.st (fun _ k => XS.iload X9.here hx rfl (hb hby at_80) rfl k) ?_
      obtain ⟨_, _, ⟨T13, L13, k13, n13⟩, -, X13, ⟨Lc13, hQ13, l13, y13, z13⟩, st13⟩ := Jvm.LawKit.callS X9 hx (y := (⟨"com/example/tokenloom/tokenloom/typespec/StringValue", "decodeEscape", "(I)I"⟩ : MethodName)) hown (mvT hZ (hw _ (List.mem_of_getElem? (i := 34) rfl))) (mvT hZ (hw _ (List.mem_of_getElem? (i := 35) rfl))) (mvT hZ (hw _ (List.mem_of_getElem? (i := 36) rfl))) (mvT hZ (hw _ (List.mem_of_getElem? (i := 37) rfl))) (by decide) (backOf (W := 0) (rm6 l Z aZ hw [] (33 : Int32) h3 n0 ) hZ (hw _ (List.mem_of_getElem? (i := 37) rfl)) (hw _ (List.mem_of_getElem? (i := 36) rfl)) (by decide) (by decide)) (g := (mkF m 82 #[.val (.int p0), .val (.int p1), .val (.ref a2), .val (.ref a3), .val (.int (0 : Int32)), .val (.int (34 : Int32)), .val (.int (1 : Int32)), .val (.int v11), .val (.int (33 : Int32)), .unset] [(.int (33 : Int32))])) rfl (by rw [hml]; rfl) (argsL := [(.int (33 : Int32))]) (rest := []) (lenOf pd56f530d rfl) rfl (by show 2 * 0 + _ ≤ _; exact Nat.le_of_eq rfl) (hb hby at_82) (fun _ _ => ⟨rfl, e9, (by decide : 4 + 0 ≤ _), (by decide : 72 + 0 ≤ _)⟩)
      dsimp only [Pt.U, Pt.locs, Pt.cells, Pt.slots] at X13 l13 y13 z13 st13 hQ13
      subst l13 y13 z13
      obtain ⟨rfl, N13q, e13⟩ := hQ13
      have N13 := Fr.app N9 N13q
      refine Go.st (fun _ k => st13 _ k) ?_
      show Go p e below _ (T13.setTop (mkF m 85 #[.val (.int p0), .val (.int p1), .val (.ref a2), .val (.ref a3), .val (.int (0 : Int32)), .val (.int (34 : Int32)), .val (.int (1 : Int32)), .val (.int v11), .val (.int (33 : Int32)), .unset] [(.int (fDec (33 : Int32)))]))
      refine Go.st (fun _ k => XS.istore X13.here hx rfl (hb hby at_85) rfl (l' := #[.val (.int p0), .val (.int p1), .val (.ref a2), .val (.ref a3), .val (.int (0 : Int32)), .val (.int (34 : Int32)), .val (.int (1 : Int32)), .val (.int v11), .val (.int (33 : Int32)), .val (.int (fDec (33 : Int32)))]) rfl k) ?_
      show Go p e below _ (T13.setTop (mkF m 87 #[.val (.int p0), .val (.int p1), .val (.ref a2), .val (.ref a3), .val (.int (0 : Int32)), .val (.int (34 : Int32)), .val (.int (1 : Int32)), .val (.int v11), .val (.int (33 : Int32)), .val (.int (fDec (33 : Int32)))] []))
      refine Go.st (fun _ k => XS.iload X13.here hx rfl (hb hby at_87) rfl k) ?_
      refine Go.st (fun _ k => XS.ifNo X13.here hx rfl (hb hby at_89) rfl ((if0 _ _).trans (feq (by decide : ¬ ((1 : Int32) = (0 : Int32)))).1) k) ?_
      show Go p e below _ (T13.setTop (mkF m 92 #[.val (.int p0), .val (.int p1), .val (.ref a2), .val (.ref a3), .val (.int (0 : Int32)), .val (.int (34 : Int32)), .val (.int (1 : Int32)), .val (.int v11), .val (.int (33 : Int32)), .val (.int (fDec (33 : Int32)))] []))
      refine Go.st (fun _ k => XS.iload X13.here hx rfl (hb hby at_92) rfl k) ?_
      refine Go.st (fun _ k => XS.iload X13.here hx rfl (hb hby at_94) rfl k) ?_
      refine Go.st (fun _ k => XS.aloadN X13.here hx rfl (hb hby at_96) rfl rfl k) ?_
      refine Go.st (fun _ k => XS.aloadN X13.here hx rfl (hb hby at_97) rfl rfl k) ?_
      obtain ⟨_, _, ⟨T14, L14, k14, n14⟩, -, X14, ⟨Lc14, hQ14, l14, y14, z14⟩, st14⟩ := Jvm.LawKit.callS X13 hx (y := (⟨"com/example/tokenloom/tokenloom/typespec/StringValueDecodeEscapePinLaw", "expected", "(ILjava/lang/String;Ljava/lang/String;)I"⟩ : MethodName)) hown (mvT hZ (hw _ (List.mem_of_getElem? (i := 38) rfl))) (mvT hZ (hw _ (List.mem_of_getElem? (i := 39) rfl))) (mvT hZ (hw _ (List.mem_of_getElem? (i := 40) rfl))) (mvT hZ (hw _ (List.mem_of_getElem? (i := 41) rfl))) (by decide) (backOf (W := 1) (rmExp l Z aZ hw [] (33 : Int32) a2 a3 b2 kc2 b3 kc3 cs vf h3 n0 hcs hvf F3_S_COMPACT_STRINGS F3_S_SIOOBE_FORMATTER F3_E_a2 F3_F_a2_coder F3_F_a2_value F3_V_b2 Es3 Fc3 Fv3 Va3) hZ (hw _ (List.mem_of_getElem? (i := 41) rfl)) (hw _ (List.mem_of_getElem? (i := 40) rfl)) (by decide) (by decide)) (g := (mkF m 98 #[.val (.int p0), .val (.int p1), .val (.ref a2), .val (.ref a3), .val (.int (0 : Int32)), .val (.int (34 : Int32)), .val (.int (1 : Int32)), .val (.int v11), .val (.int (33 : Int32)), .val (.int (fDec (33 : Int32)))] [(.ref a3), (.ref a2), (.int (33 : Int32)), (.int (fDec (33 : Int32)))])) rfl (by rw [hml]; rfl) (argsL := [(.int (33 : Int32)), (.ref a2), (.ref a3)]) (rest := [(.int (fDec (33 : Int32)))]) (lenOf pda0c35829 rfl) rfl (by show 2 * 0 + _ ≤ _; exact Nat.le_of_eq rfl) (hb hby at_98) (fun _ _ => ⟨rfl, e13, (by decide : 4 + 0 ≤ _), (by decide : 72 + 0 ≤ _)⟩)
      dsimp only [Pt.U, Pt.locs, Pt.cells, Pt.slots] at X14 l14 y14 z14 st14 hQ14
      subst l14 y14 z14
      obtain ⟨rfl, N14q, e14⟩ := hQ14
      have N14 := Fr.app N13 N14q
      refine Go.st (fun _ k => st14 _ k) ?_
      show Go p e below _ (T14.setTop (mkF m 101 #[.val (.int p0), .val (.int p1), .val (.ref a2), .val (.ref a3), .val (.int (0 : Int32)), .val (.int (34 : Int32)), .val (.int (1 : Int32)), .val (.int v11), .val (.int (33 : Int32)), .val (.int (fDec (33 : Int32)))] [(.int (fExp (33 : Int32))), (.int (fDec (33 : Int32)))]))
      refine Go.st (fun _ k => XS.icmpNo X14.here hx rfl (hb hby at_101) rfl (teq (own_same (33 : Int32))).2 k) ?_
      show Go p e below _ (T14.setTop (mkF m 104 #[.val (.int p0), .val (.int p1), .val (.ref a2), .val (.ref a3), .val (.int (0 : Int32)), .val (.int (34 : Int32)), .val (.int (1 : Int32)), .val (.int v11), .val (.int (33 : Int32)), .val (.int (fDec (33 : Int32)))] []))
      refine Go.st (fun _ k => XS.iconst X14.here hx rfl (hb hby at_104) k) ?_
      refine Go.st (fun _ k => XS.goto X14.here hx rfl (pc0 := 105) (pc' := 109) rfl (hb hby at_105) (by decide) (by decide) k) ?_
      show Go p e below _ (T14.setTop (mkF m 109 #[.val (.int p0), .val (.int p1), .val (.ref a2), .val (.ref a3), .val (.int (0 : Int32)), .val (.int (34 : Int32)), .val (.int (1 : Int32)), .val (.int v11), .val (.int (33 : Int32)), .val (.int (fDec (33 : Int32)))] [(.int (1 : Int32))]))
      obtain ⟨fs, hr, hrun, hended, -, hW, hB, hsame⟩ := X14.leaveW (v := some (.int (1 : Int32))) hS3 (by rw [e14]; exact hk3) (fun h => by rw [Bd.returns] at h; cases h)
      refine ⟨_, _, retN X14 hx (t := .boolean) Bd.returns (by simp) (hb hby at_109) hr, hrun, hended, _, _, rfl, ?_, ⟨_, rfl⟩, hW, hB, hsame.mono (by decide) (by decide)⟩
      show Q_rm0 Z p0 p1 cs vf h0 n0 _ T14.heap _
      rw [e14]
      exact ⟨rfl, N14⟩
    · show Go p e below _ (T9.setTop (mkF m 50 #[.val (.int p0), .val (.int p1), .val (.ref a2), .val (.ref a3), .val (.int (0 : Int32)), .val (.int (34 : Int32)), .val (.int (1 : Int32)), .val (.int v11), .unset, .unset] [(.int v11)]))
      refine Go.st (fun _ k => XS.ifYes X9.here hx rfl (pc0 := 50) (pc' := 62) rfl (hb hby at_50) rfl ((if0 _ _).trans (feq hc12).2) (by decide) (by decide) k) ?_
      show Go p e below _ (T9.setTop (mkF m 62 #[.val (.int p0), .val (.int p1), .val (.ref a2), .val (.ref a3), .val (.int (0 : Int32)), .val (.int (34 : Int32)), .val (.int (1 : Int32)), .val (.int v11), .unset, .unset] []))
      refine Go.st (fun _ k => XS.iload X9.here hx rfl (hb hby at_62) rfl k) ?_
      refine Go.st (fun _ k => XS.iconst X9.here hx rfl (hb hby at_64) k) ?_
      by_cases hc15 : v11 = (1 : Int32)
      · show Go p e below _ (T9.setTop (mkF m 65 #[.val (.int p0), .val (.int p1), .val (.ref a2), .val (.ref a3), .val (.int (0 : Int32)), .val (.int (34 : Int32)), .val (.int (1 : Int32)), .val (.int v11), .unset, .unset] [(.int (1 : Int32)), (.int v11)]))
        refine Go.st (fun _ k => XS.icmpNo X9.here hx rfl (hb hby at_65) rfl (teq hc15).2 k) ?_
        show Go p e below _ (T9.setTop (mkF m 68 #[.val (.int p0), .val (.int p1), .val (.ref a2), .val (.ref a3), .val (.int (0 : Int32)), .val (.int (34 : Int32)), .val (.int (1 : Int32)), .val (.int v11), .unset, .unset] []))
        refine Go.st (fun _ k => XS.iload X9.here hx rfl (hb hby at_68) rfl k) ?_
        refine Go.st (fun _ k => XS.iconst X9.here hx rfl (hb hby at_70) k) ?_
        refine Go.st (fun _ k => XS.iadd X9.here hx rfl (hb hby at_71) rfl k) ?_
        refine Go.st (fun _ k => XS.istore X9.here hx rfl (hb hby at_72) rfl (l' := #[.val (.int p0), .val (.int p1), .val (.ref a2), .val (.ref a3), .val (.int (0 : Int32)), .val (.int (34 : Int32)), .val (.int (1 : Int32)), .val (.int v11), .val (.int (35 : Int32)), .unset]) rfl k) ?_
        show Go p e below _ (T9.setTop (mkF m 74 #[.val (.int p0), .val (.int p1), .val (.ref a2), .val (.ref a3), .val (.int (0 : Int32)), .val (.int (34 : Int32)), .val (.int (1 : Int32)), .val (.int v11), .val (.int (35 : Int32)), .unset] []))
        refine Go.st (fun _ k => XS.goto X9.here hx rfl (pc0 := 74) (pc' := 80) rfl (hb hby at_74) (by decide) (by decide) k) ?_
        show Go p e below _ (T9.setTop (mkF m 80 #[.val (.int p0), .val (.int p1), .val (.ref a2), .val (.ref a3), .val (.int (0 : Int32)), .val (.int (34 : Int32)), .val (.int (1 : Int32)), .val (.int v11), .val (.int (35 : Int32)), .unset] []))
        refine Go.st (fun _ k => XS.iload X9.here hx rfl (hb hby at_80) rfl k) ?_
        obtain ⟨_, _, ⟨T16, L16, k16, n16⟩, -, X16, ⟨Lc16, hQ16, l16, y16, z16⟩, st16⟩ := Jvm.LawKit.callS X9 hx (y := (⟨"com/example/tokenloom/tokenloom/typespec/StringValue", "decodeEscape", "(I)I"⟩ : MethodName)) hown (mvT hZ (hw _ (List.mem_of_getElem? (i := 34) rfl))) (mvT hZ (hw _ (List.mem_of_getElem? (i := 35) rfl))) (mvT hZ (hw _ (List.mem_of_getElem? (i := 36) rfl))) (mvT hZ (hw _ (List.mem_of_getElem? (i := 37) rfl))) (by decide) (backOf (W := 0) (rm6 l Z aZ hw [] (35 : Int32) h3 n0 ) hZ (hw _ (List.mem_of_getElem? (i := 37) rfl)) (hw _ (List.mem_of_getElem? (i := 36) rfl)) (by decide) (by decide)) (g := (mkF m 82 #[.val (.int p0), .val (.int p1), .val (.ref a2), .val (.ref a3), .val (.int (0 : Int32)), .val (.int (34 : Int32)), .val (.int (1 : Int32)), .val (.int v11), .val (.int (35 : Int32)), .unset] [(.int (35 : Int32))])) rfl (by rw [hml]; rfl) (argsL := [(.int (35 : Int32))]) (rest := []) (lenOf pd56f530d rfl) rfl (by show 2 * 0 + _ ≤ _; exact Nat.le_of_eq rfl) (hb hby at_82) (fun _ _ => ⟨rfl, e9, (by decide : 4 + 0 ≤ _), (by decide : 72 + 0 ≤ _)⟩)
        dsimp only [Pt.U, Pt.locs, Pt.cells, Pt.slots] at X16 l16 y16 z16 st16 hQ16
        subst l16 y16 z16
        obtain ⟨rfl, N16q, e16⟩ := hQ16
        have N16 := Fr.app N9 N16q
        refine Go.st (fun _ k => st16 _ k) ?_
        show Go p e below _ (T16.setTop (mkF m 85 #[.val (.int p0), .val (.int p1), .val (.ref a2), .val (.ref a3), .val (.int (0 : Int32)), .val (.int (34 : Int32)), .val (.int (1 : Int32)), .val (.int v11), .val (.int (35 : Int32)), .unset] [(.int (fDec (35 : Int32)))]))
        refine Go.st (fun _ k => XS.istore X16.here hx rfl (hb hby at_85) rfl (l' := #[.val (.int p0), .val (.int p1), .val (.ref a2), .val (.ref a3), .val (.int (0 : Int32)), .val (.int (34 : Int32)), .val (.int (1 : Int32)), .val (.int v11), .val (.int (35 : Int32)), .val (.int (fDec (35 : Int32)))]) rfl k) ?_
        show Go p e below _ (T16.setTop (mkF m 87 #[.val (.int p0), .val (.int p1), .val (.ref a2), .val (.ref a3), .val (.int (0 : Int32)), .val (.int (34 : Int32)), .val (.int (1 : Int32)), .val (.int v11), .val (.int (35 : Int32)), .val (.int (fDec (35 : Int32)))] []))
        refine Go.st (fun _ k => XS.iload X16.here hx rfl (hb hby at_87) rfl k) ?_
        refine Go.st (fun _ k => XS.ifNo X16.here hx rfl (hb hby at_89) rfl ((if0 _ _).trans (feq (by decide : ¬ ((1 : Int32) = (0 : Int32)))).1) k) ?_
        show Go p e below _ (T16.setTop (mkF m 92 #[.val (.int p0), .val (.int p1), .val (.ref a2), .val (.ref a3), .val (.int (0 : Int32)), .val (.int (34 : Int32)), .val (.int (1 : Int32)), .val (.int v11), .val (.int (35 : Int32)), .val (.int (fDec (35 : Int32)))] []))
        refine Go.st (fun _ k => XS.iload X16.here hx rfl (hb hby at_92) rfl k) ?_
        refine Go.st (fun _ k => XS.iload X16.here hx rfl (hb hby at_94) rfl k) ?_
        refine Go.st (fun _ k => XS.aloadN X16.here hx rfl (hb hby at_96) rfl rfl k) ?_
        refine Go.st (fun _ k => XS.aloadN X16.here hx rfl (hb hby at_97) rfl rfl k) ?_
        obtain ⟨_, _, ⟨T17, L17, k17, n17⟩, -, X17, ⟨Lc17, hQ17, l17, y17, z17⟩, st17⟩ := Jvm.LawKit.callS X16 hx (y := (⟨"com/example/tokenloom/tokenloom/typespec/StringValueDecodeEscapePinLaw", "expected", "(ILjava/lang/String;Ljava/lang/String;)I"⟩ : MethodName)) hown (mvT hZ (hw _ (List.mem_of_getElem? (i := 38) rfl))) (mvT hZ (hw _ (List.mem_of_getElem? (i := 39) rfl))) (mvT hZ (hw _ (List.mem_of_getElem? (i := 40) rfl))) (mvT hZ (hw _ (List.mem_of_getElem? (i := 41) rfl))) (by decide) (backOf (W := 1) (rmExp l Z aZ hw [] (35 : Int32) a2 a3 b2 kc2 b3 kc3 cs vf h3 n0 hcs hvf F3_S_COMPACT_STRINGS F3_S_SIOOBE_FORMATTER F3_E_a2 F3_F_a2_coder F3_F_a2_value F3_V_b2 Es3 Fc3 Fv3 Va3) hZ (hw _ (List.mem_of_getElem? (i := 41) rfl)) (hw _ (List.mem_of_getElem? (i := 40) rfl)) (by decide) (by decide)) (g := (mkF m 98 #[.val (.int p0), .val (.int p1), .val (.ref a2), .val (.ref a3), .val (.int (0 : Int32)), .val (.int (34 : Int32)), .val (.int (1 : Int32)), .val (.int v11), .val (.int (35 : Int32)), .val (.int (fDec (35 : Int32)))] [(.ref a3), (.ref a2), (.int (35 : Int32)), (.int (fDec (35 : Int32)))])) rfl (by rw [hml]; rfl) (argsL := [(.int (35 : Int32)), (.ref a2), (.ref a3)]) (rest := [(.int (fDec (35 : Int32)))]) (lenOf pda0c35829 rfl) rfl (by show 2 * 0 + _ ≤ _; exact Nat.le_of_eq rfl) (hb hby at_98) (fun _ _ => ⟨rfl, e16, (by decide : 4 + 0 ≤ _), (by decide : 72 + 0 ≤ _)⟩)
        dsimp only [Pt.U, Pt.locs, Pt.cells, Pt.slots] at X17 l17 y17 z17 st17 hQ17
        subst l17 y17 z17
        obtain ⟨rfl, N17q, e17⟩ := hQ17
        have N17 := Fr.app N16 N17q
        refine Go.st (fun _ k => st17 _ k) ?_
        show Go p e below _ (T17.setTop (mkF m 101 #[.val (.int p0), .val (.int p1), .val (.ref a2), .val (.ref a3), .val (.int (0 : Int32)), .val (.int (34 : Int32)), .val (.int (1 : Int32)), .val (.int v11), .val (.int (35 : Int32)), .val (.int (fDec (35 : Int32)))] [(.int (fExp (35 : Int32))), (.int (fDec (35 : Int32)))]))
        refine Go.st (fun _ k => XS.icmpNo X17.here hx rfl (hb hby at_101) rfl (teq (own_same (35 : Int32))).2 k) ?_
        show Go p e below _ (T17.setTop (mkF m 104 #[.val (.int p0), .val (.int p1), .val (.ref a2), .val (.ref a3), .val (.int (0 : Int32)), .val (.int (34 : Int32)), .val (.int (1 : Int32)), .val (.int v11), .val (.int (35 : Int32)), .val (.int (fDec (35 : Int32)))] []))
        refine Go.st (fun _ k => XS.iconst X17.here hx rfl (hb hby at_104) k) ?_
        refine Go.st (fun _ k => XS.goto X17.here hx rfl (pc0 := 105) (pc' := 109) rfl (hb hby at_105) (by decide) (by decide) k) ?_
        show Go p e below _ (T17.setTop (mkF m 109 #[.val (.int p0), .val (.int p1), .val (.ref a2), .val (.ref a3), .val (.int (0 : Int32)), .val (.int (34 : Int32)), .val (.int (1 : Int32)), .val (.int v11), .val (.int (35 : Int32)), .val (.int (fDec (35 : Int32)))] [(.int (1 : Int32))]))
        obtain ⟨fs, hr, hrun, hended, -, hW, hB, hsame⟩ := X17.leaveW (v := some (.int (1 : Int32))) hS3 (by rw [e17]; exact hk3) (fun h => by rw [Bd.returns] at h; cases h)
        refine ⟨_, _, retN X17 hx (t := .boolean) Bd.returns (by simp) (hb hby at_109) hr, hrun, hended, _, _, rfl, ?_, ⟨_, rfl⟩, hW, hB, hsame.mono (by decide) (by decide)⟩
        show Q_rm0 Z p0 p1 cs vf h0 n0 _ T17.heap _
        rw [e17]
        exact ⟨rfl, N17⟩
      · show Go p e below _ (T9.setTop (mkF m 65 #[.val (.int p0), .val (.int p1), .val (.ref a2), .val (.ref a3), .val (.int (0 : Int32)), .val (.int (34 : Int32)), .val (.int (1 : Int32)), .val (.int v11), .unset, .unset] [(.int (1 : Int32)), (.int v11)]))
        refine Go.st (fun _ k => XS.icmpYes X9.here hx rfl (pc0 := 65) (pc' := 77) rfl (hb hby at_65) rfl (feq hc15).2 (by decide) (by decide) k) ?_
        show Go p e below _ (T9.setTop (mkF m 77 #[.val (.int p0), .val (.int p1), .val (.ref a2), .val (.ref a3), .val (.int (0 : Int32)), .val (.int (34 : Int32)), .val (.int (1 : Int32)), .val (.int v11), .unset, .unset] []))
        refine Go.st (fun _ k => XS.iloadN X9.here hx rfl (hb hby at_77) rfl k) ?_
        refine Go.st (fun _ k => XS.istore X9.here hx rfl (hb hby at_78) rfl (l' := #[.val (.int p0), .val (.int p1), .val (.ref a2), .val (.ref a3), .val (.int (0 : Int32)), .val (.int (34 : Int32)), .val (.int (1 : Int32)), .val (.int v11), .val (.int p0), .unset]) rfl k) ?_
        show Go p e below _ (T9.setTop (mkF m 80 #[.val (.int p0), .val (.int p1), .val (.ref a2), .val (.ref a3), .val (.int (0 : Int32)), .val (.int (34 : Int32)), .val (.int (1 : Int32)), .val (.int v11), .val (.int p0), .unset] []))
        refine Go.st (fun _ k => XS.iload X9.here hx rfl (hb hby at_80) rfl k) ?_
        obtain ⟨_, _, ⟨T18, L18, k18, n18⟩, -, X18, ⟨Lc18, hQ18, l18, y18, z18⟩, st18⟩ := Jvm.LawKit.callS X9 hx (y := (⟨"com/example/tokenloom/tokenloom/typespec/StringValue", "decodeEscape", "(I)I"⟩ : MethodName)) hown (mvT hZ (hw _ (List.mem_of_getElem? (i := 34) rfl))) (mvT hZ (hw _ (List.mem_of_getElem? (i := 35) rfl))) (mvT hZ (hw _ (List.mem_of_getElem? (i := 36) rfl))) (mvT hZ (hw _ (List.mem_of_getElem? (i := 37) rfl))) (by decide) (backOf (W := 0) (rm6 l Z aZ hw [] p0 h3 n0 ) hZ (hw _ (List.mem_of_getElem? (i := 37) rfl)) (hw _ (List.mem_of_getElem? (i := 36) rfl)) (by decide) (by decide)) (g := (mkF m 82 #[.val (.int p0), .val (.int p1), .val (.ref a2), .val (.ref a3), .val (.int (0 : Int32)), .val (.int (34 : Int32)), .val (.int (1 : Int32)), .val (.int v11), .val (.int p0), .unset] [(.int p0)])) rfl (by rw [hml]; rfl) (argsL := [(.int p0)]) (rest := []) (lenOf pd56f530d rfl) rfl (by show 2 * 0 + _ ≤ _; exact Nat.le_of_eq rfl) (hb hby at_82) (fun _ _ => ⟨rfl, e9, (by decide : 4 + 0 ≤ _), (by decide : 72 + 0 ≤ _)⟩)
        dsimp only [Pt.U, Pt.locs, Pt.cells, Pt.slots] at X18 l18 y18 z18 st18 hQ18
        subst l18 y18 z18
        obtain ⟨rfl, N18q, e18⟩ := hQ18
        have N18 := Fr.app N9 N18q
        refine Go.st (fun _ k => st18 _ k) ?_
        show Go p e below _ (T18.setTop (mkF m 85 #[.val (.int p0), .val (.int p1), .val (.ref a2), .val (.ref a3), .val (.int (0 : Int32)), .val (.int (34 : Int32)), .val (.int (1 : Int32)), .val (.int v11), .val (.int p0), .unset] [(.int (fDec p0))]))
        refine Go.st (fun _ k => XS.istore X18.here hx rfl (hb hby at_85) rfl (l' := #[.val (.int p0), .val (.int p1), .val (.ref a2), .val (.ref a3), .val (.int (0 : Int32)), .val (.int (34 : Int32)), .val (.int (1 : Int32)), .val (.int v11), .val (.int p0), .val (.int (fDec p0))]) rfl k) ?_
        show Go p e below _ (T18.setTop (mkF m 87 #[.val (.int p0), .val (.int p1), .val (.ref a2), .val (.ref a3), .val (.int (0 : Int32)), .val (.int (34 : Int32)), .val (.int (1 : Int32)), .val (.int v11), .val (.int p0), .val (.int (fDec p0))] []))
        refine Go.st (fun _ k => XS.iload X18.here hx rfl (hb hby at_87) rfl k) ?_
        refine Go.st (fun _ k => XS.ifNo X18.here hx rfl (hb hby at_89) rfl ((if0 _ _).trans (feq (by decide : ¬ ((1 : Int32) = (0 : Int32)))).1) k) ?_
        show Go p e below _ (T18.setTop (mkF m 92 #[.val (.int p0), .val (.int p1), .val (.ref a2), .val (.ref a3), .val (.int (0 : Int32)), .val (.int (34 : Int32)), .val (.int (1 : Int32)), .val (.int v11), .val (.int p0), .val (.int (fDec p0))] []))
        refine Go.st (fun _ k => XS.iload X18.here hx rfl (hb hby at_92) rfl k) ?_
        refine Go.st (fun _ k => XS.iload X18.here hx rfl (hb hby at_94) rfl k) ?_
        refine Go.st (fun _ k => XS.aloadN X18.here hx rfl (hb hby at_96) rfl rfl k) ?_
        refine Go.st (fun _ k => XS.aloadN X18.here hx rfl (hb hby at_97) rfl rfl k) ?_
        obtain ⟨_, _, ⟨T19, L19, k19, n19⟩, -, X19, ⟨Lc19, hQ19, l19, y19, z19⟩, st19⟩ := Jvm.LawKit.callS X18 hx (y := (⟨"com/example/tokenloom/tokenloom/typespec/StringValueDecodeEscapePinLaw", "expected", "(ILjava/lang/String;Ljava/lang/String;)I"⟩ : MethodName)) hown (mvT hZ (hw _ (List.mem_of_getElem? (i := 38) rfl))) (mvT hZ (hw _ (List.mem_of_getElem? (i := 39) rfl))) (mvT hZ (hw _ (List.mem_of_getElem? (i := 40) rfl))) (mvT hZ (hw _ (List.mem_of_getElem? (i := 41) rfl))) (by decide) (backOf (W := 1) (rmExp l Z aZ hw [] p0 a2 a3 b2 kc2 b3 kc3 cs vf h3 n0 hcs hvf F3_S_COMPACT_STRINGS F3_S_SIOOBE_FORMATTER F3_E_a2 F3_F_a2_coder F3_F_a2_value F3_V_b2 Es3 Fc3 Fv3 Va3) hZ (hw _ (List.mem_of_getElem? (i := 41) rfl)) (hw _ (List.mem_of_getElem? (i := 40) rfl)) (by decide) (by decide)) (g := (mkF m 98 #[.val (.int p0), .val (.int p1), .val (.ref a2), .val (.ref a3), .val (.int (0 : Int32)), .val (.int (34 : Int32)), .val (.int (1 : Int32)), .val (.int v11), .val (.int p0), .val (.int (fDec p0))] [(.ref a3), (.ref a2), (.int p0), (.int (fDec p0))])) rfl (by rw [hml]; rfl) (argsL := [(.int p0), (.ref a2), (.ref a3)]) (rest := [(.int (fDec p0))]) (lenOf pda0c35829 rfl) rfl (by show 2 * 0 + _ ≤ _; exact Nat.le_of_eq rfl) (hb hby at_98) (fun _ _ => ⟨rfl, e18, (by decide : 4 + 0 ≤ _), (by decide : 72 + 0 ≤ _)⟩)
        dsimp only [Pt.U, Pt.locs, Pt.cells, Pt.slots] at X19 l19 y19 z19 st19 hQ19
        subst l19 y19 z19
        obtain ⟨rfl, N19q, e19⟩ := hQ19
        have N19 := Fr.app N18 N19q
        refine Go.st (fun _ k => st19 _ k) ?_
        show Go p e below _ (T19.setTop (mkF m 101 #[.val (.int p0), .val (.int p1), .val (.ref a2), .val (.ref a3), .val (.int (0 : Int32)), .val (.int (34 : Int32)), .val (.int (1 : Int32)), .val (.int v11), .val (.int p0), .val (.int (fDec p0))] [(.int (fExp p0)), (.int (fDec p0))]))
        refine Go.st (fun _ k => XS.icmpNo X19.here hx rfl (hb hby at_101) rfl (teq (own_same p0)).2 k) ?_
        show Go p e below _ (T19.setTop (mkF m 104 #[.val (.int p0), .val (.int p1), .val (.ref a2), .val (.ref a3), .val (.int (0 : Int32)), .val (.int (34 : Int32)), .val (.int (1 : Int32)), .val (.int v11), .val (.int p0), .val (.int (fDec p0))] []))
        refine Go.st (fun _ k => XS.iconst X19.here hx rfl (hb hby at_104) k) ?_
        refine Go.st (fun _ k => XS.goto X19.here hx rfl (pc0 := 105) (pc' := 109) rfl (hb hby at_105) (by decide) (by decide) k) ?_
        show Go p e below _ (T19.setTop (mkF m 109 #[.val (.int p0), .val (.int p1), .val (.ref a2), .val (.ref a3), .val (.int (0 : Int32)), .val (.int (34 : Int32)), .val (.int (1 : Int32)), .val (.int v11), .val (.int p0), .val (.int (fDec p0))] [(.int (1 : Int32))]))
        obtain ⟨fs, hr, hrun, hended, -, hW, hB, hsame⟩ := X19.leaveW (v := some (.int (1 : Int32))) hS3 (by rw [e19]; exact hk3) (fun h => by rw [Bd.returns] at h; cases h)
        refine ⟨_, _, retN X19 hx (t := .boolean) Bd.returns (by simp) (hb hby at_109) hr, hrun, hended, _, _, rfl, ?_, ⟨_, rfl⟩, hW, hB, hsame.mono (by decide) (by decide)⟩
        show Q_rm0 Z p0 p1 cs vf h0 n0 _ T19.heap _
        rw [e19]
        exact ⟨rfl, N19⟩
  · rw [hr4]
    show Go p e below _ (T3.setTop (mkF m 10 #[.val (.int p0), .val (.int p1), .val (.ref a2), .val (.ref a3), .unset, .unset, .unset, .unset, .unset, .unset] [(.int (1 : Int32))]))
    refine Go.st (fun _ k => XS.istore X3.here hx rfl (hb hby at_10) rfl (l' := #[.val (.int p0), .val (.int p1), .val (.ref a2), .val (.ref a3), .val (.int (1 : Int32)), .unset, .unset, .unset, .unset, .unset]) rfl k) ?_
    show Go p e below _ (T3.setTop (mkF m 12 #[.val (.int p0), .val (.int p1), .val (.ref a2), .val (.ref a3), .val (.int (1 : Int32)), .unset, .unset, .unset, .unset, .unset] []))
    refine Go.st (fun _ k => XS.aloadN X3.here hx rfl (hb hby at_12) rfl rfl k) ?_
    refine Go.st (fun _ k => XS.iload X3.here hx rfl (hb hby at_13) rfl k) ?_
    obtain ⟨cq20, kq20, q20a, q20b, q20c⟩ := isOf hZ e3 F3_E_a2
    obtain ⟨_, _, ⟨T20, L20, k20, n20⟩, -, X20, ⟨Lc20, hQ20, l20, y20, z20⟩, st20⟩ := X3.virtualBack hx (y := (⟨"java/lang/String", "charAt", "(I)C"⟩ : MethodName)) (z := (⟨"java/lang/String", "charAt", "(I)C"⟩ : MethodName)) hown (mvT hZ (hw _ (List.mem_of_getElem? (i := 9) rfl))) (mvT hZ (hw _ (List.mem_of_getElem? (i := 10) rfl))) (notFace_of_selects (args := #[]) (mvT hZ (hw _ (List.mem_of_getElem? (i := 12) rfl)))) (mvT hZ (hw _ (List.mem_of_getElem? (i := 12) rfl))) (mvT hZ (hw _ (List.mem_of_getElem? (i := 11) rfl))) (by decide) (backOf (W := 0) (rmChar l Z aZ hw [] (92 : Int32) a2 (1 : Int32) b2 (0 : Int32) cs vf kc2 (8 : Int32) [(.int (34 : Int32)), (.int (92 : Int32)), (.int (36 : Int32)), (.int (64 : Int32)), (.int (96 : Int32)), (.int (110 : Int32)), (.int (114 : Int32)), (.int (116 : Int32))] h3 n0 hcs rfl hvf ⟨by decide, by decide⟩ rfl F3_F_a2_value F3_F_a2_coder F3_E_a2 F3_S_COMPACT_STRINGS F3_S_SIOOBE_FORMATTER F3_V_b2) hZ (hw _ (List.mem_of_getElem? (i := 13) rfl)) (hw _ (List.mem_of_getElem? (i := 1) rfl)) (by decide) (by decide)) q20a q20c (g := (mkF m 15 #[.val (.int p0), .val (.int p1), .val (.ref a2), .val (.ref a3), .val (.int (1 : Int32)), .unset, .unset, .unset, .unset, .unset] [(.int (1 : Int32)), (.ref a2)])) rfl (by rw [hml]; rfl) (Steps.refl _) (argsL := [(.int (1 : Int32))]) (rest := []) (lenOf pd56f5307 rfl) rfl (by show 2 * 0 + _ ≤ _; exact Nat.le_of_eq rfl) (hb hby at_15) (fun _ _ => ⟨rfl, e3, (by decide : 4 + 0 ≤ _), (by decide : 72 + 0 ≤ _)⟩)
    dsimp only [Pt.U, Pt.locs, Pt.cells, Pt.slots] at X20 l20 y20 z20 st20 hQ20
    subst l20 y20 z20
    obtain ⟨rfl, N20q, e20⟩ := hQ20
    have N20 := Fr.app N0 N20q
    refine Go.st (fun _ k => st20.trans k) ?_
    show Go p e below _ (T20.setTop (mkF m 18 #[.val (.int p0), .val (.int p1), .val (.ref a2), .val (.ref a3), .val (.int (1 : Int32)), .unset, .unset, .unset, .unset, .unset] [(.int (jChar (92 : Int32)))]))
    have hs21 : (jChar (92 : Int32)) = (92 : Int32) := (by decide +kernel)
    rw [hs21]
    show Go p e below _ (T20.setTop (mkF m 18 #[.val (.int p0), .val (.int p1), .val (.ref a2), .val (.ref a3), .val (.int (1 : Int32)), .unset, .unset, .unset, .unset, .unset] [(.int (92 : Int32))]))
    refine Go.st (fun _ k => XS.istore X20.here hx rfl (hb hby at_18) rfl (l' := #[.val (.int p0), .val (.int p1), .val (.ref a2), .val (.ref a3), .val (.int (1 : Int32)), .val (.int (92 : Int32)), .unset, .unset, .unset, .unset]) rfl k) ?_
    show Go p e below _ (T20.setTop (mkF m 20 #[.val (.int p0), .val (.int p1), .val (.ref a2), .val (.ref a3), .val (.int (1 : Int32)), .val (.int (92 : Int32)), .unset, .unset, .unset, .unset] []))
    refine Go.st (fun _ k => XS.iload X20.here hx rfl (hb hby at_20) rfl k) ?_
    obtain ⟨_, _, ⟨T22, L22, k22, n22⟩, -, X22, ⟨Lc22, hQ22, l22, y22, z22⟩, st22⟩ := Jvm.LawKit.callS X20 hx (y := (⟨"com/example/tokenloom/tokenloom/typespec/StringValue", "decodeEscape", "(I)I"⟩ : MethodName)) hown (mvT hZ (hw _ (List.mem_of_getElem? (i := 34) rfl))) (mvT hZ (hw _ (List.mem_of_getElem? (i := 35) rfl))) (mvT hZ (hw _ (List.mem_of_getElem? (i := 36) rfl))) (mvT hZ (hw _ (List.mem_of_getElem? (i := 37) rfl))) (by decide) (backOf (W := 0) (rm6 l Z aZ hw [] (92 : Int32) h3 n0 ) hZ (hw _ (List.mem_of_getElem? (i := 37) rfl)) (hw _ (List.mem_of_getElem? (i := 36) rfl)) (by decide) (by decide)) (g := (mkF m 22 #[.val (.int p0), .val (.int p1), .val (.ref a2), .val (.ref a3), .val (.int (1 : Int32)), .val (.int (92 : Int32)), .unset, .unset, .unset, .unset] [(.int (92 : Int32))])) rfl (by rw [hml]; rfl) (argsL := [(.int (92 : Int32))]) (rest := []) (lenOf pd56f530d rfl) rfl (by show 2 * 0 + _ ≤ _; exact Nat.le_of_eq rfl) (hb hby at_22) (fun _ _ => ⟨rfl, e20, (by decide : 4 + 0 ≤ _), (by decide : 72 + 0 ≤ _)⟩)
    dsimp only [Pt.U, Pt.locs, Pt.cells, Pt.slots] at X22 l22 y22 z22 st22 hQ22
    subst l22 y22 z22
    obtain ⟨rfl, N22q, e22⟩ := hQ22
    have N22 := Fr.app N20 N22q
    refine Go.st (fun _ k => st22 _ k) ?_
    show Go p e below _ (T22.setTop (mkF m 25 #[.val (.int p0), .val (.int p1), .val (.ref a2), .val (.ref a3), .val (.int (1 : Int32)), .val (.int (92 : Int32)), .unset, .unset, .unset, .unset] [(.int (fDec (92 : Int32)))]))
    have hs23 : (fDec (92 : Int32)) = (92 : Int32) := (by decide +kernel)
    rw [hs23]
    show Go p e below _ (T22.setTop (mkF m 25 #[.val (.int p0), .val (.int p1), .val (.ref a2), .val (.ref a3), .val (.int (1 : Int32)), .val (.int (92 : Int32)), .unset, .unset, .unset, .unset] [(.int (92 : Int32))]))
    refine Go.st (fun _ k => XS.aloadN X22.here hx rfl (hb hby at_25) rfl rfl k) ?_
    refine Go.st (fun _ k => XS.iload X22.here hx rfl (hb hby at_26) rfl k) ?_
    obtain ⟨cq24, kq24, q24a, q24b, q24c⟩ := isOf hZ e22 Es3
    obtain ⟨_, _, ⟨T24, L24, k24, n24⟩, -, X24, ⟨Lc24, hQ24, l24, y24, z24⟩, st24⟩ := X22.virtualBack hx (y := (⟨"java/lang/String", "charAt", "(I)C"⟩ : MethodName)) (z := (⟨"java/lang/String", "charAt", "(I)C"⟩ : MethodName)) hown (mvT hZ (hw _ (List.mem_of_getElem? (i := 9) rfl))) (mvT hZ (hw _ (List.mem_of_getElem? (i := 10) rfl))) (notFace_of_selects (args := #[]) (mvT hZ (hw _ (List.mem_of_getElem? (i := 12) rfl)))) (mvT hZ (hw _ (List.mem_of_getElem? (i := 12) rfl))) (mvT hZ (hw _ (List.mem_of_getElem? (i := 11) rfl))) (by decide) (backOf (W := 1) (rmChar l Z aZ hw [] (92 : Int32) a3 (1 : Int32) b3 (0 : Int32) cs vf kc3 (8 : Int32) [(.int (34 : Int32)), (.int (92 : Int32)), (.int (36 : Int32)), (.int (64 : Int32)), (.int (96 : Int32)), (.int (10 : Int32)), (.int (13 : Int32)), (.int (9 : Int32))] h3 n0 hcs rfl hvf ⟨by decide, by decide⟩ rfl Fv3 Fc3 Es3 F3_S_COMPACT_STRINGS F3_S_SIOOBE_FORMATTER Va3) hZ (hw _ (List.mem_of_getElem? (i := 13) rfl)) (hw _ (List.mem_of_getElem? (i := 1) rfl)) (by decide) (by decide)) q24a q24c (g := (mkF m 28 #[.val (.int p0), .val (.int p1), .val (.ref a2), .val (.ref a3), .val (.int (1 : Int32)), .val (.int (92 : Int32)), .unset, .unset, .unset, .unset] [(.int (1 : Int32)), (.ref a3), (.int (92 : Int32))])) rfl (by rw [hml]; rfl) (Steps.refl _) (argsL := [(.int (1 : Int32))]) (rest := [(.int (92 : Int32))]) (lenOf pd56f5307 rfl) rfl (by show 2 * 0 + _ ≤ _; exact Nat.le_of_eq rfl) (hb hby at_28) (fun _ _ => ⟨rfl, e22, (by decide : 4 + 0 ≤ _), (by decide : 72 + 0 ≤ _)⟩)
    dsimp only [Pt.U, Pt.locs, Pt.cells, Pt.slots] at X24 l24 y24 z24 st24 hQ24
    subst l24 y24 z24
    obtain ⟨rfl, N24q, e24⟩ := hQ24
    have N24 := Fr.app N22 N24q
    refine Go.st (fun _ k => st24.trans k) ?_
    show Go p e below _ (T24.setTop (mkF m 31 #[.val (.int p0), .val (.int p1), .val (.ref a2), .val (.ref a3), .val (.int (1 : Int32)), .val (.int (92 : Int32)), .unset, .unset, .unset, .unset] [(.int (jChar (92 : Int32))), (.int (92 : Int32))]))
    have hs25 : (jChar (92 : Int32)) = (92 : Int32) := (by decide +kernel)
    rw [hs25]
    show Go p e below _ (T24.setTop (mkF m 31 #[.val (.int p0), .val (.int p1), .val (.ref a2), .val (.ref a3), .val (.int (1 : Int32)), .val (.int (92 : Int32)), .unset, .unset, .unset, .unset] [(.int (92 : Int32)), (.int (92 : Int32))]))
    refine Go.st (fun _ k => XS.icmpNo X24.here hx rfl (hb hby at_31) rfl (teq (by decide : ((92 : Int32) = (92 : Int32)))).2 k) ?_
    show Go p e below _ (T24.setTop (mkF m 34 #[.val (.int p0), .val (.int p1), .val (.ref a2), .val (.ref a3), .val (.int (1 : Int32)), .val (.int (92 : Int32)), .unset, .unset, .unset, .unset] []))
    refine Go.st (fun _ k => XS.iconst X24.here hx rfl (hb hby at_34) k) ?_
    refine Go.st (fun _ k => XS.goto X24.here hx rfl (pc0 := 35) (pc' := 39) rfl (hb hby at_35) (by decide) (by decide) k) ?_
    show Go p e below _ (T24.setTop (mkF m 39 #[.val (.int p0), .val (.int p1), .val (.ref a2), .val (.ref a3), .val (.int (1 : Int32)), .val (.int (92 : Int32)), .unset, .unset, .unset, .unset] [(.int (1 : Int32))]))
    refine Go.st (fun _ k => XS.istore X24.here hx rfl (hb hby at_39) rfl (l' := #[.val (.int p0), .val (.int p1), .val (.ref a2), .val (.ref a3), .val (.int (1 : Int32)), .val (.int (92 : Int32)), .val (.int (1 : Int32)), .unset, .unset, .unset]) rfl k) ?_
    show Go p e below _ (T24.setTop (mkF m 41 #[.val (.int p0), .val (.int p1), .val (.ref a2), .val (.ref a3), .val (.int (1 : Int32)), .val (.int (92 : Int32)), .val (.int (1 : Int32)), .unset, .unset, .unset] []))
    refine Go.st (fun _ k => XS.iloadN X24.here hx rfl (hb hby at_41) rfl k) ?_
    refine Go.st (fun _ k => XS.iconst X24.here hx rfl (hb hby at_42) k) ?_
    refine Go.st (fun _ k => XS.iushr X24.here hx rfl (hb hby at_43) rfl k) ?_
    show Go p e below _ (T24.setTop (mkF m 44 #[.val (.int p0), .val (.int p1), .val (.ref a2), .val (.ref a3), .val (.int (1 : Int32)), .val (.int (92 : Int32)), .val (.int (1 : Int32)), .unset, .unset, .unset] [(.int ((p1.toUInt32 >>> ((3 : Int32) &&& 31).toUInt32).toInt32))]))
    refine Go.st (fun _ k => XS.iconst X24.here hx rfl (hb hby at_44) k) ?_
    refine Go.st (fun _ k => XS.iand X24.here hx rfl (hb hby at_45) rfl k) ?_
    show Go p e below _ (T24.setTop (mkF m 46 #[.val (.int p0), .val (.int p1), .val (.ref a2), .val (.ref a3), .val (.int (1 : Int32)), .val (.int (92 : Int32)), .val (.int (1 : Int32)), .unset, .unset, .unset] [(.int (((p1.toUInt32 >>> ((3 : Int32) &&& 31).toUInt32).toInt32) &&& (3 : Int32)))]))
    generalize hv26 : (((p1.toUInt32 >>> ((3 : Int32) &&& 31).toUInt32).toInt32) &&& (3 : Int32)) = v26
    refine Go.st (fun _ k => XS.istore X24.here hx rfl (hb hby at_46) rfl (l' := #[.val (.int p0), .val (.int p1), .val (.ref a2), .val (.ref a3), .val (.int (1 : Int32)), .val (.int (92 : Int32)), .val (.int (1 : Int32)), .val (.int v26), .unset, .unset]) rfl k) ?_
    show Go p e below _ (T24.setTop (mkF m 48 #[.val (.int p0), .val (.int p1), .val (.ref a2), .val (.ref a3), .val (.int (1 : Int32)), .val (.int (92 : Int32)), .val (.int (1 : Int32)), .val (.int v26), .unset, .unset] []))
    refine Go.st (fun _ k => XS.iload X24.here hx rfl (hb hby at_48) rfl k) ?_
    by_cases hc27 : v26 = (0 : Int32)
    · show Go p e below _ (T24.setTop (mkF m 50 #[.val (.int p0), .val (.int p1), .val (.ref a2), .val (.ref a3), .val (.int (1 : Int32)), .val (.int (92 : Int32)), .val (.int (1 : Int32)), .val (.int v26), .unset, .unset] [(.int v26)]))
      refine Go.st (fun _ k => XS.ifNo X24.here hx rfl (hb hby at_50) rfl ((if0 _ _).trans (teq hc27).2) k) ?_
      show Go p e below _ (T24.setTop (mkF m 53 #[.val (.int p0), .val (.int p1), .val (.ref a2), .val (.ref a3), .val (.int (1 : Int32)), .val (.int (92 : Int32)), .val (.int (1 : Int32)), .val (.int v26), .unset, .unset] []))
      refine Go.st (fun _ k => XS.iload X24.here hx rfl (hb hby at_53) rfl k) ?_
      refine Go.st (fun _ k => XS.iconst X24.here hx rfl (hb hby at_55) k) ?_
      refine Go.st (fun _ k => XS.isub X24.here hx rfl (hb hby at_56) rfl k) ?_
      refine Go.st (fun _ k => XS.istore X24.here hx rfl (hb hby at_57) rfl (l' := #[.val (.int p0), .val (.int p1), .val (.ref a2), .val (.ref a3), .val (.int (1 : Int32)), .val (.int (92 : Int32)), .val (.int (1 : Int32)), .val (.int v26), .val (.int (91 : Int32)), .unset]) rfl k) ?_
      show Go p e below _ (T24.setTop (mkF m 59 #[.val (.int p0), .val (.int p1), .val (.ref a2), .val (.ref a3), .val (.int (1 : Int32)), .val (.int (92 : Int32)), .val (.int (1 : Int32)), .val (.int v26), .val (.int (91 : Int32)), .unset] []))
      refine Go.st (fun _ k => XS.goto X24.here hx rfl (pc0 := 59) (pc' := 80) rfl (hb hby at_59) (by decide) (by decide) k) ?_
      show Go p e below _ (T24.setTop (mkF m 80 #[.val (.int p0), .val (.int p1), .val (.ref a2), .val (.ref a3), .val (.int (1 : Int32)), .val (.int (92 : Int32)), .val (.int (1 : Int32)), .val (.int v26), .val (.int (91 : Int32)), .unset] []))
      refine Go.st (fun _ k => XS.iload X24.here hx rfl (hb hby at_80) rfl k) ?_
      obtain ⟨_, _, ⟨T28, L28, k28, n28⟩, -, X28, ⟨Lc28, hQ28, l28, y28, z28⟩, st28⟩ := Jvm.LawKit.callS X24 hx (y := (⟨"com/example/tokenloom/tokenloom/typespec/StringValue", "decodeEscape", "(I)I"⟩ : MethodName)) hown (mvT hZ (hw _ (List.mem_of_getElem? (i := 34) rfl))) (mvT hZ (hw _ (List.mem_of_getElem? (i := 35) rfl))) (mvT hZ (hw _ (List.mem_of_getElem? (i := 36) rfl))) (mvT hZ (hw _ (List.mem_of_getElem? (i := 37) rfl))) (by decide) (backOf (W := 0) (rm6 l Z aZ hw [] (91 : Int32) h3 n0 ) hZ (hw _ (List.mem_of_getElem? (i := 37) rfl)) (hw _ (List.mem_of_getElem? (i := 36) rfl)) (by decide) (by decide)) (g := (mkF m 82 #[.val (.int p0), .val (.int p1), .val (.ref a2), .val (.ref a3), .val (.int (1 : Int32)), .val (.int (92 : Int32)), .val (.int (1 : Int32)), .val (.int v26), .val (.int (91 : Int32)), .unset] [(.int (91 : Int32))])) rfl (by rw [hml]; rfl) (argsL := [(.int (91 : Int32))]) (rest := []) (lenOf pd56f530d rfl) rfl (by show 2 * 0 + _ ≤ _; exact Nat.le_of_eq rfl) (hb hby at_82) (fun _ _ => ⟨rfl, e24, (by decide : 4 + 0 ≤ _), (by decide : 72 + 0 ≤ _)⟩)
      dsimp only [Pt.U, Pt.locs, Pt.cells, Pt.slots] at X28 l28 y28 z28 st28 hQ28
      subst l28 y28 z28
      obtain ⟨rfl, N28q, e28⟩ := hQ28
      have N28 := Fr.app N24 N28q
      refine Go.st (fun _ k => st28 _ k) ?_
      show Go p e below _ (T28.setTop (mkF m 85 #[.val (.int p0), .val (.int p1), .val (.ref a2), .val (.ref a3), .val (.int (1 : Int32)), .val (.int (92 : Int32)), .val (.int (1 : Int32)), .val (.int v26), .val (.int (91 : Int32)), .unset] [(.int (fDec (91 : Int32)))]))
      refine Go.st (fun _ k => XS.istore X28.here hx rfl (hb hby at_85) rfl (l' := #[.val (.int p0), .val (.int p1), .val (.ref a2), .val (.ref a3), .val (.int (1 : Int32)), .val (.int (92 : Int32)), .val (.int (1 : Int32)), .val (.int v26), .val (.int (91 : Int32)), .val (.int (fDec (91 : Int32)))]) rfl k) ?_
      show Go p e below _ (T28.setTop (mkF m 87 #[.val (.int p0), .val (.int p1), .val (.ref a2), .val (.ref a3), .val (.int (1 : Int32)), .val (.int (92 : Int32)), .val (.int (1 : Int32)), .val (.int v26), .val (.int (91 : Int32)), .val (.int (fDec (91 : Int32)))] []))
      refine Go.st (fun _ k => XS.iload X28.here hx rfl (hb hby at_87) rfl k) ?_
      refine Go.st (fun _ k => XS.ifNo X28.here hx rfl (hb hby at_89) rfl ((if0 _ _).trans (feq (by decide : ¬ ((1 : Int32) = (0 : Int32)))).1) k) ?_
      show Go p e below _ (T28.setTop (mkF m 92 #[.val (.int p0), .val (.int p1), .val (.ref a2), .val (.ref a3), .val (.int (1 : Int32)), .val (.int (92 : Int32)), .val (.int (1 : Int32)), .val (.int v26), .val (.int (91 : Int32)), .val (.int (fDec (91 : Int32)))] []))
      refine Go.st (fun _ k => XS.iload X28.here hx rfl (hb hby at_92) rfl k) ?_
      refine Go.st (fun _ k => XS.iload X28.here hx rfl (hb hby at_94) rfl k) ?_
      refine Go.st (fun _ k => XS.aloadN X28.here hx rfl (hb hby at_96) rfl rfl k) ?_
      refine Go.st (fun _ k => XS.aloadN X28.here hx rfl (hb hby at_97) rfl rfl k) ?_
      obtain ⟨_, _, ⟨T29, L29, k29, n29⟩, -, X29, ⟨Lc29, hQ29, l29, y29, z29⟩, st29⟩ := Jvm.LawKit.callS X28 hx (y := (⟨"com/example/tokenloom/tokenloom/typespec/StringValueDecodeEscapePinLaw", "expected", "(ILjava/lang/String;Ljava/lang/String;)I"⟩ : MethodName)) hown (mvT hZ (hw _ (List.mem_of_getElem? (i := 38) rfl))) (mvT hZ (hw _ (List.mem_of_getElem? (i := 39) rfl))) (mvT hZ (hw _ (List.mem_of_getElem? (i := 40) rfl))) (mvT hZ (hw _ (List.mem_of_getElem? (i := 41) rfl))) (by decide) (backOf (W := 1) (rmExp l Z aZ hw [] (91 : Int32) a2 a3 b2 kc2 b3 kc3 cs vf h3 n0 hcs hvf F3_S_COMPACT_STRINGS F3_S_SIOOBE_FORMATTER F3_E_a2 F3_F_a2_coder F3_F_a2_value F3_V_b2 Es3 Fc3 Fv3 Va3) hZ (hw _ (List.mem_of_getElem? (i := 41) rfl)) (hw _ (List.mem_of_getElem? (i := 40) rfl)) (by decide) (by decide)) (g := (mkF m 98 #[.val (.int p0), .val (.int p1), .val (.ref a2), .val (.ref a3), .val (.int (1 : Int32)), .val (.int (92 : Int32)), .val (.int (1 : Int32)), .val (.int v26), .val (.int (91 : Int32)), .val (.int (fDec (91 : Int32)))] [(.ref a3), (.ref a2), (.int (91 : Int32)), (.int (fDec (91 : Int32)))])) rfl (by rw [hml]; rfl) (argsL := [(.int (91 : Int32)), (.ref a2), (.ref a3)]) (rest := [(.int (fDec (91 : Int32)))]) (lenOf pda0c35829 rfl) rfl (by show 2 * 0 + _ ≤ _; exact Nat.le_of_eq rfl) (hb hby at_98) (fun _ _ => ⟨rfl, e28, (by decide : 4 + 0 ≤ _), (by decide : 72 + 0 ≤ _)⟩)
      dsimp only [Pt.U, Pt.locs, Pt.cells, Pt.slots] at X29 l29 y29 z29 st29 hQ29
      subst l29 y29 z29
      obtain ⟨rfl, N29q, e29⟩ := hQ29
      have N29 := Fr.app N28 N29q
      refine Go.st (fun _ k => st29 _ k) ?_
      show Go p e below _ (T29.setTop (mkF m 101 #[.val (.int p0), .val (.int p1), .val (.ref a2), .val (.ref a3), .val (.int (1 : Int32)), .val (.int (92 : Int32)), .val (.int (1 : Int32)), .val (.int v26), .val (.int (91 : Int32)), .val (.int (fDec (91 : Int32)))] [(.int (fExp (91 : Int32))), (.int (fDec (91 : Int32)))]))
      refine Go.st (fun _ k => XS.icmpNo X29.here hx rfl (hb hby at_101) rfl (teq (own_same (91 : Int32))).2 k) ?_
      show Go p e below _ (T29.setTop (mkF m 104 #[.val (.int p0), .val (.int p1), .val (.ref a2), .val (.ref a3), .val (.int (1 : Int32)), .val (.int (92 : Int32)), .val (.int (1 : Int32)), .val (.int v26), .val (.int (91 : Int32)), .val (.int (fDec (91 : Int32)))] []))
      refine Go.st (fun _ k => XS.iconst X29.here hx rfl (hb hby at_104) k) ?_
      refine Go.st (fun _ k => XS.goto X29.here hx rfl (pc0 := 105) (pc' := 109) rfl (hb hby at_105) (by decide) (by decide) k) ?_
      show Go p e below _ (T29.setTop (mkF m 109 #[.val (.int p0), .val (.int p1), .val (.ref a2), .val (.ref a3), .val (.int (1 : Int32)), .val (.int (92 : Int32)), .val (.int (1 : Int32)), .val (.int v26), .val (.int (91 : Int32)), .val (.int (fDec (91 : Int32)))] [(.int (1 : Int32))]))
      obtain ⟨fs, hr, hrun, hended, -, hW, hB, hsame⟩ := X29.leaveW (v := some (.int (1 : Int32))) hS3 (by rw [e29]; exact hk3) (fun h => by rw [Bd.returns] at h; cases h)
      refine ⟨_, _, retN X29 hx (t := .boolean) Bd.returns (by simp) (hb hby at_109) hr, hrun, hended, _, _, rfl, ?_, ⟨_, rfl⟩, hW, hB, hsame.mono (by decide) (by decide)⟩
      show Q_rm0 Z p0 p1 cs vf h0 n0 _ T29.heap _
      rw [e29]
      exact ⟨rfl, N29⟩
    · show Go p e below _ (T24.setTop (mkF m 50 #[.val (.int p0), .val (.int p1), .val (.ref a2), .val (.ref a3), .val (.int (1 : Int32)), .val (.int (92 : Int32)), .val (.int (1 : Int32)), .val (.int v26), .unset, .unset] [(.int v26)]))
      refine Go.st (fun _ k => XS.ifYes X24.here hx rfl (pc0 := 50) (pc' := 62) rfl (hb hby at_50) rfl ((if0 _ _).trans (feq hc27).2) (by decide) (by decide) k) ?_
      show Go p e below _ (T24.setTop (mkF m 62 #[.val (.int p0), .val (.int p1), .val (.ref a2), .val (.ref a3), .val (.int (1 : Int32)), .val (.int (92 : Int32)), .val (.int (1 : Int32)), .val (.int v26), .unset, .unset] []))
      refine Go.st (fun _ k => XS.iload X24.here hx rfl (hb hby at_62) rfl k) ?_
      refine Go.st (fun _ k => XS.iconst X24.here hx rfl (hb hby at_64) k) ?_
      by_cases hc30 : v26 = (1 : Int32)
      · show Go p e below _ (T24.setTop (mkF m 65 #[.val (.int p0), .val (.int p1), .val (.ref a2), .val (.ref a3), .val (.int (1 : Int32)), .val (.int (92 : Int32)), .val (.int (1 : Int32)), .val (.int v26), .unset, .unset] [(.int (1 : Int32)), (.int v26)]))
        refine Go.st (fun _ k => XS.icmpNo X24.here hx rfl (hb hby at_65) rfl (teq hc30).2 k) ?_
        show Go p e below _ (T24.setTop (mkF m 68 #[.val (.int p0), .val (.int p1), .val (.ref a2), .val (.ref a3), .val (.int (1 : Int32)), .val (.int (92 : Int32)), .val (.int (1 : Int32)), .val (.int v26), .unset, .unset] []))
        refine Go.st (fun _ k => XS.iload X24.here hx rfl (hb hby at_68) rfl k) ?_
        refine Go.st (fun _ k => XS.iconst X24.here hx rfl (hb hby at_70) k) ?_
        refine Go.st (fun _ k => XS.iadd X24.here hx rfl (hb hby at_71) rfl k) ?_
        refine Go.st (fun _ k => XS.istore X24.here hx rfl (hb hby at_72) rfl (l' := #[.val (.int p0), .val (.int p1), .val (.ref a2), .val (.ref a3), .val (.int (1 : Int32)), .val (.int (92 : Int32)), .val (.int (1 : Int32)), .val (.int v26), .val (.int (93 : Int32)), .unset]) rfl k) ?_
        show Go p e below _ (T24.setTop (mkF m 74 #[.val (.int p0), .val (.int p1), .val (.ref a2), .val (.ref a3), .val (.int (1 : Int32)), .val (.int (92 : Int32)), .val (.int (1 : Int32)), .val (.int v26), .val (.int (93 : Int32)), .unset] []))
        refine Go.st (fun _ k => XS.goto X24.here hx rfl (pc0 := 74) (pc' := 80) rfl (hb hby at_74) (by decide) (by decide) k) ?_
        show Go p e below _ (T24.setTop (mkF m 80 #[.val (.int p0), .val (.int p1), .val (.ref a2), .val (.ref a3), .val (.int (1 : Int32)), .val (.int (92 : Int32)), .val (.int (1 : Int32)), .val (.int v26), .val (.int (93 : Int32)), .unset] []))
        refine Go.st (fun _ k => XS.iload X24.here hx rfl (hb hby at_80) rfl k) ?_
        obtain ⟨_, _, ⟨T31, L31, k31, n31⟩, -, X31, ⟨Lc31, hQ31, l31, y31, z31⟩, st31⟩ := Jvm.LawKit.callS X24 hx (y := (⟨"com/example/tokenloom/tokenloom/typespec/StringValue", "decodeEscape", "(I)I"⟩ : MethodName)) hown (mvT hZ (hw _ (List.mem_of_getElem? (i := 34) rfl))) (mvT hZ (hw _ (List.mem_of_getElem? (i := 35) rfl))) (mvT hZ (hw _ (List.mem_of_getElem? (i := 36) rfl))) (mvT hZ (hw _ (List.mem_of_getElem? (i := 37) rfl))) (by decide) (backOf (W := 0) (rm6 l Z aZ hw [] (93 : Int32) h3 n0 ) hZ (hw _ (List.mem_of_getElem? (i := 37) rfl)) (hw _ (List.mem_of_getElem? (i := 36) rfl)) (by decide) (by decide)) (g := (mkF m 82 #[.val (.int p0), .val (.int p1), .val (.ref a2), .val (.ref a3), .val (.int (1 : Int32)), .val (.int (92 : Int32)), .val (.int (1 : Int32)), .val (.int v26), .val (.int (93 : Int32)), .unset] [(.int (93 : Int32))])) rfl (by rw [hml]; rfl) (argsL := [(.int (93 : Int32))]) (rest := []) (lenOf pd56f530d rfl) rfl (by show 2 * 0 + _ ≤ _; exact Nat.le_of_eq rfl) (hb hby at_82) (fun _ _ => ⟨rfl, e24, (by decide : 4 + 0 ≤ _), (by decide : 72 + 0 ≤ _)⟩)
        dsimp only [Pt.U, Pt.locs, Pt.cells, Pt.slots] at X31 l31 y31 z31 st31 hQ31
        subst l31 y31 z31
        obtain ⟨rfl, N31q, e31⟩ := hQ31
        have N31 := Fr.app N24 N31q
        refine Go.st (fun _ k => st31 _ k) ?_
        show Go p e below _ (T31.setTop (mkF m 85 #[.val (.int p0), .val (.int p1), .val (.ref a2), .val (.ref a3), .val (.int (1 : Int32)), .val (.int (92 : Int32)), .val (.int (1 : Int32)), .val (.int v26), .val (.int (93 : Int32)), .unset] [(.int (fDec (93 : Int32)))]))
        refine Go.st (fun _ k => XS.istore X31.here hx rfl (hb hby at_85) rfl (l' := #[.val (.int p0), .val (.int p1), .val (.ref a2), .val (.ref a3), .val (.int (1 : Int32)), .val (.int (92 : Int32)), .val (.int (1 : Int32)), .val (.int v26), .val (.int (93 : Int32)), .val (.int (fDec (93 : Int32)))]) rfl k) ?_
        show Go p e below _ (T31.setTop (mkF m 87 #[.val (.int p0), .val (.int p1), .val (.ref a2), .val (.ref a3), .val (.int (1 : Int32)), .val (.int (92 : Int32)), .val (.int (1 : Int32)), .val (.int v26), .val (.int (93 : Int32)), .val (.int (fDec (93 : Int32)))] []))
        refine Go.st (fun _ k => XS.iload X31.here hx rfl (hb hby at_87) rfl k) ?_
        refine Go.st (fun _ k => XS.ifNo X31.here hx rfl (hb hby at_89) rfl ((if0 _ _).trans (feq (by decide : ¬ ((1 : Int32) = (0 : Int32)))).1) k) ?_
        show Go p e below _ (T31.setTop (mkF m 92 #[.val (.int p0), .val (.int p1), .val (.ref a2), .val (.ref a3), .val (.int (1 : Int32)), .val (.int (92 : Int32)), .val (.int (1 : Int32)), .val (.int v26), .val (.int (93 : Int32)), .val (.int (fDec (93 : Int32)))] []))
        refine Go.st (fun _ k => XS.iload X31.here hx rfl (hb hby at_92) rfl k) ?_
        refine Go.st (fun _ k => XS.iload X31.here hx rfl (hb hby at_94) rfl k) ?_
        refine Go.st (fun _ k => XS.aloadN X31.here hx rfl (hb hby at_96) rfl rfl k) ?_
        refine Go.st (fun _ k => XS.aloadN X31.here hx rfl (hb hby at_97) rfl rfl k) ?_
        obtain ⟨_, _, ⟨T32, L32, k32, n32⟩, -, X32, ⟨Lc32, hQ32, l32, y32, z32⟩, st32⟩ := Jvm.LawKit.callS X31 hx (y := (⟨"com/example/tokenloom/tokenloom/typespec/StringValueDecodeEscapePinLaw", "expected", "(ILjava/lang/String;Ljava/lang/String;)I"⟩ : MethodName)) hown (mvT hZ (hw _ (List.mem_of_getElem? (i := 38) rfl))) (mvT hZ (hw _ (List.mem_of_getElem? (i := 39) rfl))) (mvT hZ (hw _ (List.mem_of_getElem? (i := 40) rfl))) (mvT hZ (hw _ (List.mem_of_getElem? (i := 41) rfl))) (by decide) (backOf (W := 1) (rmExp l Z aZ hw [] (93 : Int32) a2 a3 b2 kc2 b3 kc3 cs vf h3 n0 hcs hvf F3_S_COMPACT_STRINGS F3_S_SIOOBE_FORMATTER F3_E_a2 F3_F_a2_coder F3_F_a2_value F3_V_b2 Es3 Fc3 Fv3 Va3) hZ (hw _ (List.mem_of_getElem? (i := 41) rfl)) (hw _ (List.mem_of_getElem? (i := 40) rfl)) (by decide) (by decide)) (g := (mkF m 98 #[.val (.int p0), .val (.int p1), .val (.ref a2), .val (.ref a3), .val (.int (1 : Int32)), .val (.int (92 : Int32)), .val (.int (1 : Int32)), .val (.int v26), .val (.int (93 : Int32)), .val (.int (fDec (93 : Int32)))] [(.ref a3), (.ref a2), (.int (93 : Int32)), (.int (fDec (93 : Int32)))])) rfl (by rw [hml]; rfl) (argsL := [(.int (93 : Int32)), (.ref a2), (.ref a3)]) (rest := [(.int (fDec (93 : Int32)))]) (lenOf pda0c35829 rfl) rfl (by show 2 * 0 + _ ≤ _; exact Nat.le_of_eq rfl) (hb hby at_98) (fun _ _ => ⟨rfl, e31, (by decide : 4 + 0 ≤ _), (by decide : 72 + 0 ≤ _)⟩)
        dsimp only [Pt.U, Pt.locs, Pt.cells, Pt.slots] at X32 l32 y32 z32 st32 hQ32
        subst l32 y32 z32
        obtain ⟨rfl, N32q, e32⟩ := hQ32
        have N32 := Fr.app N31 N32q
        refine Go.st (fun _ k => st32 _ k) ?_
        show Go p e below _ (T32.setTop (mkF m 101 #[.val (.int p0), .val (.int p1), .val (.ref a2), .val (.ref a3), .val (.int (1 : Int32)), .val (.int (92 : Int32)), .val (.int (1 : Int32)), .val (.int v26), .val (.int (93 : Int32)), .val (.int (fDec (93 : Int32)))] [(.int (fExp (93 : Int32))), (.int (fDec (93 : Int32)))]))
        refine Go.st (fun _ k => XS.icmpNo X32.here hx rfl (hb hby at_101) rfl (teq (own_same (93 : Int32))).2 k) ?_
        show Go p e below _ (T32.setTop (mkF m 104 #[.val (.int p0), .val (.int p1), .val (.ref a2), .val (.ref a3), .val (.int (1 : Int32)), .val (.int (92 : Int32)), .val (.int (1 : Int32)), .val (.int v26), .val (.int (93 : Int32)), .val (.int (fDec (93 : Int32)))] []))
        refine Go.st (fun _ k => XS.iconst X32.here hx rfl (hb hby at_104) k) ?_
        refine Go.st (fun _ k => XS.goto X32.here hx rfl (pc0 := 105) (pc' := 109) rfl (hb hby at_105) (by decide) (by decide) k) ?_
        show Go p e below _ (T32.setTop (mkF m 109 #[.val (.int p0), .val (.int p1), .val (.ref a2), .val (.ref a3), .val (.int (1 : Int32)), .val (.int (92 : Int32)), .val (.int (1 : Int32)), .val (.int v26), .val (.int (93 : Int32)), .val (.int (fDec (93 : Int32)))] [(.int (1 : Int32))]))
        obtain ⟨fs, hr, hrun, hended, -, hW, hB, hsame⟩ := X32.leaveW (v := some (.int (1 : Int32))) hS3 (by rw [e32]; exact hk3) (fun h => by rw [Bd.returns] at h; cases h)
        refine ⟨_, _, retN X32 hx (t := .boolean) Bd.returns (by simp) (hb hby at_109) hr, hrun, hended, _, _, rfl, ?_, ⟨_, rfl⟩, hW, hB, hsame.mono (by decide) (by decide)⟩
        show Q_rm0 Z p0 p1 cs vf h0 n0 _ T32.heap _
        rw [e32]
        exact ⟨rfl, N32⟩
      · show Go p e below _ (T24.setTop (mkF m 65 #[.val (.int p0), .val (.int p1), .val (.ref a2), .val (.ref a3), .val (.int (1 : Int32)), .val (.int (92 : Int32)), .val (.int (1 : Int32)), .val (.int v26), .unset, .unset] [(.int (1 : Int32)), (.int v26)]))
        refine Go.st (fun _ k => XS.icmpYes X24.here hx rfl (pc0 := 65) (pc' := 77) rfl (hb hby at_65) rfl (feq hc30).2 (by decide) (by decide) k) ?_
        show Go p e below _ (T24.setTop (mkF m 77 #[.val (.int p0), .val (.int p1), .val (.ref a2), .val (.ref a3), .val (.int (1 : Int32)), .val (.int (92 : Int32)), .val (.int (1 : Int32)), .val (.int v26), .unset, .unset] []))
        refine Go.st (fun _ k => XS.iloadN X24.here hx rfl (hb hby at_77) rfl k) ?_
        refine Go.st (fun _ k => XS.istore X24.here hx rfl (hb hby at_78) rfl (l' := #[.val (.int p0), .val (.int p1), .val (.ref a2), .val (.ref a3), .val (.int (1 : Int32)), .val (.int (92 : Int32)), .val (.int (1 : Int32)), .val (.int v26), .val (.int p0), .unset]) rfl k) ?_
        show Go p e below _ (T24.setTop (mkF m 80 #[.val (.int p0), .val (.int p1), .val (.ref a2), .val (.ref a3), .val (.int (1 : Int32)), .val (.int (92 : Int32)), .val (.int (1 : Int32)), .val (.int v26), .val (.int p0), .unset] []))
        refine Go.st (fun _ k => XS.iload X24.here hx rfl (hb hby at_80) rfl k) ?_
        obtain ⟨_, _, ⟨T33, L33, k33, n33⟩, -, X33, ⟨Lc33, hQ33, l33, y33, z33⟩, st33⟩ := Jvm.LawKit.callS X24 hx (y := (⟨"com/example/tokenloom/tokenloom/typespec/StringValue", "decodeEscape", "(I)I"⟩ : MethodName)) hown (mvT hZ (hw _ (List.mem_of_getElem? (i := 34) rfl))) (mvT hZ (hw _ (List.mem_of_getElem? (i := 35) rfl))) (mvT hZ (hw _ (List.mem_of_getElem? (i := 36) rfl))) (mvT hZ (hw _ (List.mem_of_getElem? (i := 37) rfl))) (by decide) (backOf (W := 0) (rm6 l Z aZ hw [] p0 h3 n0 ) hZ (hw _ (List.mem_of_getElem? (i := 37) rfl)) (hw _ (List.mem_of_getElem? (i := 36) rfl)) (by decide) (by decide)) (g := (mkF m 82 #[.val (.int p0), .val (.int p1), .val (.ref a2), .val (.ref a3), .val (.int (1 : Int32)), .val (.int (92 : Int32)), .val (.int (1 : Int32)), .val (.int v26), .val (.int p0), .unset] [(.int p0)])) rfl (by rw [hml]; rfl) (argsL := [(.int p0)]) (rest := []) (lenOf pd56f530d rfl) rfl (by show 2 * 0 + _ ≤ _; exact Nat.le_of_eq rfl) (hb hby at_82) (fun _ _ => ⟨rfl, e24, (by decide : 4 + 0 ≤ _), (by decide : 72 + 0 ≤ _)⟩)
        dsimp only [Pt.U, Pt.locs, Pt.cells, Pt.slots] at X33 l33 y33 z33 st33 hQ33
        subst l33 y33 z33
        obtain ⟨rfl, N33q, e33⟩ := hQ33
        have N33 := Fr.app N24 N33q
        refine Go.st (fun _ k => st33 _ k) ?_
        show Go p e below _ (T33.setTop (mkF m 85 #[.val (.int p0), .val (.int p1), .val (.ref a2), .val (.ref a3), .val (.int (1 : Int32)), .val (.int (92 : Int32)), .val (.int (1 : Int32)), .val (.int v26), .val (.int p0), .unset] [(.int (fDec p0))]))
        refine Go.st (fun _ k => XS.istore X33.here hx rfl (hb hby at_85) rfl (l' := #[.val (.int p0), .val (.int p1), .val (.ref a2), .val (.ref a3), .val (.int (1 : Int32)), .val (.int (92 : Int32)), .val (.int (1 : Int32)), .val (.int v26), .val (.int p0), .val (.int (fDec p0))]) rfl k) ?_
        show Go p e below _ (T33.setTop (mkF m 87 #[.val (.int p0), .val (.int p1), .val (.ref a2), .val (.ref a3), .val (.int (1 : Int32)), .val (.int (92 : Int32)), .val (.int (1 : Int32)), .val (.int v26), .val (.int p0), .val (.int (fDec p0))] []))
        refine Go.st (fun _ k => XS.iload X33.here hx rfl (hb hby at_87) rfl k) ?_
        refine Go.st (fun _ k => XS.ifNo X33.here hx rfl (hb hby at_89) rfl ((if0 _ _).trans (feq (by decide : ¬ ((1 : Int32) = (0 : Int32)))).1) k) ?_
        show Go p e below _ (T33.setTop (mkF m 92 #[.val (.int p0), .val (.int p1), .val (.ref a2), .val (.ref a3), .val (.int (1 : Int32)), .val (.int (92 : Int32)), .val (.int (1 : Int32)), .val (.int v26), .val (.int p0), .val (.int (fDec p0))] []))
        refine Go.st (fun _ k => XS.iload X33.here hx rfl (hb hby at_92) rfl k) ?_
        refine Go.st (fun _ k => XS.iload X33.here hx rfl (hb hby at_94) rfl k) ?_
        refine Go.st (fun _ k => XS.aloadN X33.here hx rfl (hb hby at_96) rfl rfl k) ?_
        refine Go.st (fun _ k => XS.aloadN X33.here hx rfl (hb hby at_97) rfl rfl k) ?_
        obtain ⟨_, _, ⟨T34, L34, k34, n34⟩, -, X34, ⟨Lc34, hQ34, l34, y34, z34⟩, st34⟩ := Jvm.LawKit.callS X33 hx (y := (⟨"com/example/tokenloom/tokenloom/typespec/StringValueDecodeEscapePinLaw", "expected", "(ILjava/lang/String;Ljava/lang/String;)I"⟩ : MethodName)) hown (mvT hZ (hw _ (List.mem_of_getElem? (i := 38) rfl))) (mvT hZ (hw _ (List.mem_of_getElem? (i := 39) rfl))) (mvT hZ (hw _ (List.mem_of_getElem? (i := 40) rfl))) (mvT hZ (hw _ (List.mem_of_getElem? (i := 41) rfl))) (by decide) (backOf (W := 1) (rmExp l Z aZ hw [] p0 a2 a3 b2 kc2 b3 kc3 cs vf h3 n0 hcs hvf F3_S_COMPACT_STRINGS F3_S_SIOOBE_FORMATTER F3_E_a2 F3_F_a2_coder F3_F_a2_value F3_V_b2 Es3 Fc3 Fv3 Va3) hZ (hw _ (List.mem_of_getElem? (i := 41) rfl)) (hw _ (List.mem_of_getElem? (i := 40) rfl)) (by decide) (by decide)) (g := (mkF m 98 #[.val (.int p0), .val (.int p1), .val (.ref a2), .val (.ref a3), .val (.int (1 : Int32)), .val (.int (92 : Int32)), .val (.int (1 : Int32)), .val (.int v26), .val (.int p0), .val (.int (fDec p0))] [(.ref a3), (.ref a2), (.int p0), (.int (fDec p0))])) rfl (by rw [hml]; rfl) (argsL := [(.int p0), (.ref a2), (.ref a3)]) (rest := [(.int (fDec p0))]) (lenOf pda0c35829 rfl) rfl (by show 2 * 0 + _ ≤ _; exact Nat.le_of_eq rfl) (hb hby at_98) (fun _ _ => ⟨rfl, e33, (by decide : 4 + 0 ≤ _), (by decide : 72 + 0 ≤ _)⟩)
        dsimp only [Pt.U, Pt.locs, Pt.cells, Pt.slots] at X34 l34 y34 z34 st34 hQ34
        subst l34 y34 z34
        obtain ⟨rfl, N34q, e34⟩ := hQ34
        have N34 := Fr.app N33 N34q
        refine Go.st (fun _ k => st34 _ k) ?_
        show Go p e below _ (T34.setTop (mkF m 101 #[.val (.int p0), .val (.int p1), .val (.ref a2), .val (.ref a3), .val (.int (1 : Int32)), .val (.int (92 : Int32)), .val (.int (1 : Int32)), .val (.int v26), .val (.int p0), .val (.int (fDec p0))] [(.int (fExp p0)), (.int (fDec p0))]))
        refine Go.st (fun _ k => XS.icmpNo X34.here hx rfl (hb hby at_101) rfl (teq (own_same p0)).2 k) ?_
        show Go p e below _ (T34.setTop (mkF m 104 #[.val (.int p0), .val (.int p1), .val (.ref a2), .val (.ref a3), .val (.int (1 : Int32)), .val (.int (92 : Int32)), .val (.int (1 : Int32)), .val (.int v26), .val (.int p0), .val (.int (fDec p0))] []))
        refine Go.st (fun _ k => XS.iconst X34.here hx rfl (hb hby at_104) k) ?_
        refine Go.st (fun _ k => XS.goto X34.here hx rfl (pc0 := 105) (pc' := 109) rfl (hb hby at_105) (by decide) (by decide) k) ?_
        show Go p e below _ (T34.setTop (mkF m 109 #[.val (.int p0), .val (.int p1), .val (.ref a2), .val (.ref a3), .val (.int (1 : Int32)), .val (.int (92 : Int32)), .val (.int (1 : Int32)), .val (.int v26), .val (.int p0), .val (.int (fDec p0))] [(.int (1 : Int32))]))
        obtain ⟨fs, hr, hrun, hended, -, hW, hB, hsame⟩ := X34.leaveW (v := some (.int (1 : Int32))) hS3 (by rw [e34]; exact hk3) (fun h => by rw [Bd.returns] at h; cases h)
        refine ⟨_, _, retN X34 hx (t := .boolean) Bd.returns (by simp) (hb hby at_109) hr, hrun, hended, _, _, rfl, ?_, ⟨_, rfl⟩, hW, hB, hsame.mono (by decide) (by decide)⟩
        show Q_rm0 Z p0 p1 cs vf h0 n0 _ T34.heap _
        rw [e34]
        exact ⟨rfl, N34⟩
  · rw [hr4]
    show Go p e below _ (T3.setTop (mkF m 10 #[.val (.int p0), .val (.int p1), .val (.ref a2), .val (.ref a3), .unset, .unset, .unset, .unset, .unset, .unset] [(.int (2 : Int32))]))
    refine Go.st (fun _ k => XS.istore X3.here hx rfl (hb hby at_10) rfl (l' := #[.val (.int p0), .val (.int p1), .val (.ref a2), .val (.ref a3), .val (.int (2 : Int32)), .unset, .unset, .unset, .unset, .unset]) rfl k) ?_
    show Go p e below _ (T3.setTop (mkF m 12 #[.val (.int p0), .val (.int p1), .val (.ref a2), .val (.ref a3), .val (.int (2 : Int32)), .unset, .unset, .unset, .unset, .unset] []))
    refine Go.st (fun _ k => XS.aloadN X3.here hx rfl (hb hby at_12) rfl rfl k) ?_
    refine Go.st (fun _ k => XS.iload X3.here hx rfl (hb hby at_13) rfl k) ?_
    obtain ⟨cq35, kq35, q35a, q35b, q35c⟩ := isOf hZ e3 F3_E_a2
    obtain ⟨_, _, ⟨T35, L35, k35, n35⟩, -, X35, ⟨Lc35, hQ35, l35, y35, z35⟩, st35⟩ := X3.virtualBack hx (y := (⟨"java/lang/String", "charAt", "(I)C"⟩ : MethodName)) (z := (⟨"java/lang/String", "charAt", "(I)C"⟩ : MethodName)) hown (mvT hZ (hw _ (List.mem_of_getElem? (i := 9) rfl))) (mvT hZ (hw _ (List.mem_of_getElem? (i := 10) rfl))) (notFace_of_selects (args := #[]) (mvT hZ (hw _ (List.mem_of_getElem? (i := 12) rfl)))) (mvT hZ (hw _ (List.mem_of_getElem? (i := 12) rfl))) (mvT hZ (hw _ (List.mem_of_getElem? (i := 11) rfl))) (by decide) (backOf (W := 0) (rmChar l Z aZ hw [] (36 : Int32) a2 (2 : Int32) b2 (0 : Int32) cs vf kc2 (8 : Int32) [(.int (34 : Int32)), (.int (92 : Int32)), (.int (36 : Int32)), (.int (64 : Int32)), (.int (96 : Int32)), (.int (110 : Int32)), (.int (114 : Int32)), (.int (116 : Int32))] h3 n0 hcs rfl hvf ⟨by decide, by decide⟩ rfl F3_F_a2_value F3_F_a2_coder F3_E_a2 F3_S_COMPACT_STRINGS F3_S_SIOOBE_FORMATTER F3_V_b2) hZ (hw _ (List.mem_of_getElem? (i := 13) rfl)) (hw _ (List.mem_of_getElem? (i := 1) rfl)) (by decide) (by decide)) q35a q35c (g := (mkF m 15 #[.val (.int p0), .val (.int p1), .val (.ref a2), .val (.ref a3), .val (.int (2 : Int32)), .unset, .unset, .unset, .unset, .unset] [(.int (2 : Int32)), (.ref a2)])) rfl (by rw [hml]; rfl) (Steps.refl _) (argsL := [(.int (2 : Int32))]) (rest := []) (lenOf pd56f5307 rfl) rfl (by show 2 * 0 + _ ≤ _; exact Nat.le_of_eq rfl) (hb hby at_15) (fun _ _ => ⟨rfl, e3, (by decide : 4 + 0 ≤ _), (by decide : 72 + 0 ≤ _)⟩)
    dsimp only [Pt.U, Pt.locs, Pt.cells, Pt.slots] at X35 l35 y35 z35 st35 hQ35
    subst l35 y35 z35
    obtain ⟨rfl, N35q, e35⟩ := hQ35
    have N35 := Fr.app N0 N35q
    refine Go.st (fun _ k => st35.trans k) ?_
    show Go p e below _ (T35.setTop (mkF m 18 #[.val (.int p0), .val (.int p1), .val (.ref a2), .val (.ref a3), .val (.int (2 : Int32)), .unset, .unset, .unset, .unset, .unset] [(.int (jChar (36 : Int32)))]))
    have hs36 : (jChar (36 : Int32)) = (36 : Int32) := (by decide +kernel)
    rw [hs36]
    show Go p e below _ (T35.setTop (mkF m 18 #[.val (.int p0), .val (.int p1), .val (.ref a2), .val (.ref a3), .val (.int (2 : Int32)), .unset, .unset, .unset, .unset, .unset] [(.int (36 : Int32))]))
    refine Go.st (fun _ k => XS.istore X35.here hx rfl (hb hby at_18) rfl (l' := #[.val (.int p0), .val (.int p1), .val (.ref a2), .val (.ref a3), .val (.int (2 : Int32)), .val (.int (36 : Int32)), .unset, .unset, .unset, .unset]) rfl k) ?_
    show Go p e below _ (T35.setTop (mkF m 20 #[.val (.int p0), .val (.int p1), .val (.ref a2), .val (.ref a3), .val (.int (2 : Int32)), .val (.int (36 : Int32)), .unset, .unset, .unset, .unset] []))
    refine Go.st (fun _ k => XS.iload X35.here hx rfl (hb hby at_20) rfl k) ?_
    obtain ⟨_, _, ⟨T37, L37, k37, n37⟩, -, X37, ⟨Lc37, hQ37, l37, y37, z37⟩, st37⟩ := Jvm.LawKit.callS X35 hx (y := (⟨"com/example/tokenloom/tokenloom/typespec/StringValue", "decodeEscape", "(I)I"⟩ : MethodName)) hown (mvT hZ (hw _ (List.mem_of_getElem? (i := 34) rfl))) (mvT hZ (hw _ (List.mem_of_getElem? (i := 35) rfl))) (mvT hZ (hw _ (List.mem_of_getElem? (i := 36) rfl))) (mvT hZ (hw _ (List.mem_of_getElem? (i := 37) rfl))) (by decide) (backOf (W := 0) (rm6 l Z aZ hw [] (36 : Int32) h3 n0 ) hZ (hw _ (List.mem_of_getElem? (i := 37) rfl)) (hw _ (List.mem_of_getElem? (i := 36) rfl)) (by decide) (by decide)) (g := (mkF m 22 #[.val (.int p0), .val (.int p1), .val (.ref a2), .val (.ref a3), .val (.int (2 : Int32)), .val (.int (36 : Int32)), .unset, .unset, .unset, .unset] [(.int (36 : Int32))])) rfl (by rw [hml]; rfl) (argsL := [(.int (36 : Int32))]) (rest := []) (lenOf pd56f530d rfl) rfl (by show 2 * 0 + _ ≤ _; exact Nat.le_of_eq rfl) (hb hby at_22) (fun _ _ => ⟨rfl, e35, (by decide : 4 + 0 ≤ _), (by decide : 72 + 0 ≤ _)⟩)
    dsimp only [Pt.U, Pt.locs, Pt.cells, Pt.slots] at X37 l37 y37 z37 st37 hQ37
    subst l37 y37 z37
    obtain ⟨rfl, N37q, e37⟩ := hQ37
    have N37 := Fr.app N35 N37q
    refine Go.st (fun _ k => st37 _ k) ?_
    show Go p e below _ (T37.setTop (mkF m 25 #[.val (.int p0), .val (.int p1), .val (.ref a2), .val (.ref a3), .val (.int (2 : Int32)), .val (.int (36 : Int32)), .unset, .unset, .unset, .unset] [(.int (fDec (36 : Int32)))]))
    have hs38 : (fDec (36 : Int32)) = (36 : Int32) := (by decide +kernel)
    rw [hs38]
    show Go p e below _ (T37.setTop (mkF m 25 #[.val (.int p0), .val (.int p1), .val (.ref a2), .val (.ref a3), .val (.int (2 : Int32)), .val (.int (36 : Int32)), .unset, .unset, .unset, .unset] [(.int (36 : Int32))]))
    refine Go.st (fun _ k => XS.aloadN X37.here hx rfl (hb hby at_25) rfl rfl k) ?_
    refine Go.st (fun _ k => XS.iload X37.here hx rfl (hb hby at_26) rfl k) ?_
    obtain ⟨cq39, kq39, q39a, q39b, q39c⟩ := isOf hZ e37 Es3
    obtain ⟨_, _, ⟨T39, L39, k39, n39⟩, -, X39, ⟨Lc39, hQ39, l39, y39, z39⟩, st39⟩ := X37.virtualBack hx (y := (⟨"java/lang/String", "charAt", "(I)C"⟩ : MethodName)) (z := (⟨"java/lang/String", "charAt", "(I)C"⟩ : MethodName)) hown (mvT hZ (hw _ (List.mem_of_getElem? (i := 9) rfl))) (mvT hZ (hw _ (List.mem_of_getElem? (i := 10) rfl))) (notFace_of_selects (args := #[]) (mvT hZ (hw _ (List.mem_of_getElem? (i := 12) rfl)))) (mvT hZ (hw _ (List.mem_of_getElem? (i := 12) rfl))) (mvT hZ (hw _ (List.mem_of_getElem? (i := 11) rfl))) (by decide) (backOf (W := 1) (rmChar l Z aZ hw [] (36 : Int32) a3 (2 : Int32) b3 (0 : Int32) cs vf kc3 (8 : Int32) [(.int (34 : Int32)), (.int (92 : Int32)), (.int (36 : Int32)), (.int (64 : Int32)), (.int (96 : Int32)), (.int (10 : Int32)), (.int (13 : Int32)), (.int (9 : Int32))] h3 n0 hcs rfl hvf ⟨by decide, by decide⟩ rfl Fv3 Fc3 Es3 F3_S_COMPACT_STRINGS F3_S_SIOOBE_FORMATTER Va3) hZ (hw _ (List.mem_of_getElem? (i := 13) rfl)) (hw _ (List.mem_of_getElem? (i := 1) rfl)) (by decide) (by decide)) q39a q39c (g := (mkF m 28 #[.val (.int p0), .val (.int p1), .val (.ref a2), .val (.ref a3), .val (.int (2 : Int32)), .val (.int (36 : Int32)), .unset, .unset, .unset, .unset] [(.int (2 : Int32)), (.ref a3), (.int (36 : Int32))])) rfl (by rw [hml]; rfl) (Steps.refl _) (argsL := [(.int (2 : Int32))]) (rest := [(.int (36 : Int32))]) (lenOf pd56f5307 rfl) rfl (by show 2 * 0 + _ ≤ _; exact Nat.le_of_eq rfl) (hb hby at_28) (fun _ _ => ⟨rfl, e37, (by decide : 4 + 0 ≤ _), (by decide : 72 + 0 ≤ _)⟩)
    dsimp only [Pt.U, Pt.locs, Pt.cells, Pt.slots] at X39 l39 y39 z39 st39 hQ39
    subst l39 y39 z39
    obtain ⟨rfl, N39q, e39⟩ := hQ39
    have N39 := Fr.app N37 N39q
    refine Go.st (fun _ k => st39.trans k) ?_
    show Go p e below _ (T39.setTop (mkF m 31 #[.val (.int p0), .val (.int p1), .val (.ref a2), .val (.ref a3), .val (.int (2 : Int32)), .val (.int (36 : Int32)), .unset, .unset, .unset, .unset] [(.int (jChar (36 : Int32))), (.int (36 : Int32))]))
    have hs40 : (jChar (36 : Int32)) = (36 : Int32) := (by decide +kernel)
    rw [hs40]
    show Go p e below _ (T39.setTop (mkF m 31 #[.val (.int p0), .val (.int p1), .val (.ref a2), .val (.ref a3), .val (.int (2 : Int32)), .val (.int (36 : Int32)), .unset, .unset, .unset, .unset] [(.int (36 : Int32)), (.int (36 : Int32))]))
    refine Go.st (fun _ k => XS.icmpNo X39.here hx rfl (hb hby at_31) rfl (teq (by decide : ((36 : Int32) = (36 : Int32)))).2 k) ?_
    show Go p e below _ (T39.setTop (mkF m 34 #[.val (.int p0), .val (.int p1), .val (.ref a2), .val (.ref a3), .val (.int (2 : Int32)), .val (.int (36 : Int32)), .unset, .unset, .unset, .unset] []))
    refine Go.st (fun _ k => XS.iconst X39.here hx rfl (hb hby at_34) k) ?_
    refine Go.st (fun _ k => XS.goto X39.here hx rfl (pc0 := 35) (pc' := 39) rfl (hb hby at_35) (by decide) (by decide) k) ?_
    show Go p e below _ (T39.setTop (mkF m 39 #[.val (.int p0), .val (.int p1), .val (.ref a2), .val (.ref a3), .val (.int (2 : Int32)), .val (.int (36 : Int32)), .unset, .unset, .unset, .unset] [(.int (1 : Int32))]))
    refine Go.st (fun _ k => XS.istore X39.here hx rfl (hb hby at_39) rfl (l' := #[.val (.int p0), .val (.int p1), .val (.ref a2), .val (.ref a3), .val (.int (2 : Int32)), .val (.int (36 : Int32)), .val (.int (1 : Int32)), .unset, .unset, .unset]) rfl k) ?_
    show Go p e below _ (T39.setTop (mkF m 41 #[.val (.int p0), .val (.int p1), .val (.ref a2), .val (.ref a3), .val (.int (2 : Int32)), .val (.int (36 : Int32)), .val (.int (1 : Int32)), .unset, .unset, .unset] []))
    refine Go.st (fun _ k => XS.iloadN X39.here hx rfl (hb hby at_41) rfl k) ?_
    refine Go.st (fun _ k => XS.iconst X39.here hx rfl (hb hby at_42) k) ?_
    refine Go.st (fun _ k => XS.iushr X39.here hx rfl (hb hby at_43) rfl k) ?_
    show Go p e below _ (T39.setTop (mkF m 44 #[.val (.int p0), .val (.int p1), .val (.ref a2), .val (.ref a3), .val (.int (2 : Int32)), .val (.int (36 : Int32)), .val (.int (1 : Int32)), .unset, .unset, .unset] [(.int ((p1.toUInt32 >>> ((3 : Int32) &&& 31).toUInt32).toInt32))]))
    refine Go.st (fun _ k => XS.iconst X39.here hx rfl (hb hby at_44) k) ?_
    refine Go.st (fun _ k => XS.iand X39.here hx rfl (hb hby at_45) rfl k) ?_
    show Go p e below _ (T39.setTop (mkF m 46 #[.val (.int p0), .val (.int p1), .val (.ref a2), .val (.ref a3), .val (.int (2 : Int32)), .val (.int (36 : Int32)), .val (.int (1 : Int32)), .unset, .unset, .unset] [(.int (((p1.toUInt32 >>> ((3 : Int32) &&& 31).toUInt32).toInt32) &&& (3 : Int32)))]))
    generalize hv41 : (((p1.toUInt32 >>> ((3 : Int32) &&& 31).toUInt32).toInt32) &&& (3 : Int32)) = v41
    refine Go.st (fun _ k => XS.istore X39.here hx rfl (hb hby at_46) rfl (l' := #[.val (.int p0), .val (.int p1), .val (.ref a2), .val (.ref a3), .val (.int (2 : Int32)), .val (.int (36 : Int32)), .val (.int (1 : Int32)), .val (.int v41), .unset, .unset]) rfl k) ?_
    show Go p e below _ (T39.setTop (mkF m 48 #[.val (.int p0), .val (.int p1), .val (.ref a2), .val (.ref a3), .val (.int (2 : Int32)), .val (.int (36 : Int32)), .val (.int (1 : Int32)), .val (.int v41), .unset, .unset] []))
    refine Go.st (fun _ k => XS.iload X39.here hx rfl (hb hby at_48) rfl k) ?_
    by_cases hc42 : v41 = (0 : Int32)
    · show Go p e below _ (T39.setTop (mkF m 50 #[.val (.int p0), .val (.int p1), .val (.ref a2), .val (.ref a3), .val (.int (2 : Int32)), .val (.int (36 : Int32)), .val (.int (1 : Int32)), .val (.int v41), .unset, .unset] [(.int v41)]))
      refine Go.st (fun _ k => XS.ifNo X39.here hx rfl (hb hby at_50) rfl ((if0 _ _).trans (teq hc42).2) k) ?_
      show Go p e below _ (T39.setTop (mkF m 53 #[.val (.int p0), .val (.int p1), .val (.ref a2), .val (.ref a3), .val (.int (2 : Int32)), .val (.int (36 : Int32)), .val (.int (1 : Int32)), .val (.int v41), .unset, .unset] []))
      refine Go.st (fun _ k => XS.iload X39.here hx rfl (hb hby at_53) rfl k) ?_
      refine Go.st (fun _ k => XS.iconst X39.here hx rfl (hb hby at_55) k) ?_
      refine Go.st (fun _ k => XS.isub X39.here hx rfl (hb hby at_56) rfl k) ?_
      refine Go.st (fun _ k => XS.istore X39.here hx rfl (hb hby at_57) rfl (l' := #[.val (.int p0), .val (.int p1), .val (.ref a2), .val (.ref a3), .val (.int (2 : Int32)), .val (.int (36 : Int32)), .val (.int (1 : Int32)), .val (.int v41), .val (.int (35 : Int32)), .unset]) rfl k) ?_
      show Go p e below _ (T39.setTop (mkF m 59 #[.val (.int p0), .val (.int p1), .val (.ref a2), .val (.ref a3), .val (.int (2 : Int32)), .val (.int (36 : Int32)), .val (.int (1 : Int32)), .val (.int v41), .val (.int (35 : Int32)), .unset] []))
      refine Go.st (fun _ k => XS.goto X39.here hx rfl (pc0 := 59) (pc' := 80) rfl (hb hby at_59) (by decide) (by decide) k) ?_
      show Go p e below _ (T39.setTop (mkF m 80 #[.val (.int p0), .val (.int p1), .val (.ref a2), .val (.ref a3), .val (.int (2 : Int32)), .val (.int (36 : Int32)), .val (.int (1 : Int32)), .val (.int v41), .val (.int (35 : Int32)), .unset] []))
      refine Go.st (fun _ k => XS.iload X39.here hx rfl (hb hby at_80) rfl k) ?_
      obtain ⟨_, _, ⟨T43, L43, k43, n43⟩, -, X43, ⟨Lc43, hQ43, l43, y43, z43⟩, st43⟩ := Jvm.LawKit.callS X39 hx (y := (⟨"com/example/tokenloom/tokenloom/typespec/StringValue", "decodeEscape", "(I)I"⟩ : MethodName)) hown (mvT hZ (hw _ (List.mem_of_getElem? (i := 34) rfl))) (mvT hZ (hw _ (List.mem_of_getElem? (i := 35) rfl))) (mvT hZ (hw _ (List.mem_of_getElem? (i := 36) rfl))) (mvT hZ (hw _ (List.mem_of_getElem? (i := 37) rfl))) (by decide) (backOf (W := 0) (rm6 l Z aZ hw [] (35 : Int32) h3 n0 ) hZ (hw _ (List.mem_of_getElem? (i := 37) rfl)) (hw _ (List.mem_of_getElem? (i := 36) rfl)) (by decide) (by decide)) (g := (mkF m 82 #[.val (.int p0), .val (.int p1), .val (.ref a2), .val (.ref a3), .val (.int (2 : Int32)), .val (.int (36 : Int32)), .val (.int (1 : Int32)), .val (.int v41), .val (.int (35 : Int32)), .unset] [(.int (35 : Int32))])) rfl (by rw [hml]; rfl) (argsL := [(.int (35 : Int32))]) (rest := []) (lenOf pd56f530d rfl) rfl (by show 2 * 0 + _ ≤ _; exact Nat.le_of_eq rfl) (hb hby at_82) (fun _ _ => ⟨rfl, e39, (by decide : 4 + 0 ≤ _), (by decide : 72 + 0 ≤ _)⟩)
      dsimp only [Pt.U, Pt.locs, Pt.cells, Pt.slots] at X43 l43 y43 z43 st43 hQ43
      subst l43 y43 z43
      obtain ⟨rfl, N43q, e43⟩ := hQ43
      have N43 := Fr.app N39 N43q
      refine Go.st (fun _ k => st43 _ k) ?_
      show Go p e below _ (T43.setTop (mkF m 85 #[.val (.int p0), .val (.int p1), .val (.ref a2), .val (.ref a3), .val (.int (2 : Int32)), .val (.int (36 : Int32)), .val (.int (1 : Int32)), .val (.int v41), .val (.int (35 : Int32)), .unset] [(.int (fDec (35 : Int32)))]))
      refine Go.st (fun _ k => XS.istore X43.here hx rfl (hb hby at_85) rfl (l' := #[.val (.int p0), .val (.int p1), .val (.ref a2), .val (.ref a3), .val (.int (2 : Int32)), .val (.int (36 : Int32)), .val (.int (1 : Int32)), .val (.int v41), .val (.int (35 : Int32)), .val (.int (fDec (35 : Int32)))]) rfl k) ?_
      show Go p e below _ (T43.setTop (mkF m 87 #[.val (.int p0), .val (.int p1), .val (.ref a2), .val (.ref a3), .val (.int (2 : Int32)), .val (.int (36 : Int32)), .val (.int (1 : Int32)), .val (.int v41), .val (.int (35 : Int32)), .val (.int (fDec (35 : Int32)))] []))
      refine Go.st (fun _ k => XS.iload X43.here hx rfl (hb hby at_87) rfl k) ?_
      refine Go.st (fun _ k => XS.ifNo X43.here hx rfl (hb hby at_89) rfl ((if0 _ _).trans (feq (by decide : ¬ ((1 : Int32) = (0 : Int32)))).1) k) ?_
      show Go p e below _ (T43.setTop (mkF m 92 #[.val (.int p0), .val (.int p1), .val (.ref a2), .val (.ref a3), .val (.int (2 : Int32)), .val (.int (36 : Int32)), .val (.int (1 : Int32)), .val (.int v41), .val (.int (35 : Int32)), .val (.int (fDec (35 : Int32)))] []))
      refine Go.st (fun _ k => XS.iload X43.here hx rfl (hb hby at_92) rfl k) ?_
      refine Go.st (fun _ k => XS.iload X43.here hx rfl (hb hby at_94) rfl k) ?_
      refine Go.st (fun _ k => XS.aloadN X43.here hx rfl (hb hby at_96) rfl rfl k) ?_
      refine Go.st (fun _ k => XS.aloadN X43.here hx rfl (hb hby at_97) rfl rfl k) ?_
      obtain ⟨_, _, ⟨T44, L44, k44, n44⟩, -, X44, ⟨Lc44, hQ44, l44, y44, z44⟩, st44⟩ := Jvm.LawKit.callS X43 hx (y := (⟨"com/example/tokenloom/tokenloom/typespec/StringValueDecodeEscapePinLaw", "expected", "(ILjava/lang/String;Ljava/lang/String;)I"⟩ : MethodName)) hown (mvT hZ (hw _ (List.mem_of_getElem? (i := 38) rfl))) (mvT hZ (hw _ (List.mem_of_getElem? (i := 39) rfl))) (mvT hZ (hw _ (List.mem_of_getElem? (i := 40) rfl))) (mvT hZ (hw _ (List.mem_of_getElem? (i := 41) rfl))) (by decide) (backOf (W := 1) (rmExp l Z aZ hw [] (35 : Int32) a2 a3 b2 kc2 b3 kc3 cs vf h3 n0 hcs hvf F3_S_COMPACT_STRINGS F3_S_SIOOBE_FORMATTER F3_E_a2 F3_F_a2_coder F3_F_a2_value F3_V_b2 Es3 Fc3 Fv3 Va3) hZ (hw _ (List.mem_of_getElem? (i := 41) rfl)) (hw _ (List.mem_of_getElem? (i := 40) rfl)) (by decide) (by decide)) (g := (mkF m 98 #[.val (.int p0), .val (.int p1), .val (.ref a2), .val (.ref a3), .val (.int (2 : Int32)), .val (.int (36 : Int32)), .val (.int (1 : Int32)), .val (.int v41), .val (.int (35 : Int32)), .val (.int (fDec (35 : Int32)))] [(.ref a3), (.ref a2), (.int (35 : Int32)), (.int (fDec (35 : Int32)))])) rfl (by rw [hml]; rfl) (argsL := [(.int (35 : Int32)), (.ref a2), (.ref a3)]) (rest := [(.int (fDec (35 : Int32)))]) (lenOf pda0c35829 rfl) rfl (by show 2 * 0 + _ ≤ _; exact Nat.le_of_eq rfl) (hb hby at_98) (fun _ _ => ⟨rfl, e43, (by decide : 4 + 0 ≤ _), (by decide : 72 + 0 ≤ _)⟩)
      dsimp only [Pt.U, Pt.locs, Pt.cells, Pt.slots] at X44 l44 y44 z44 st44 hQ44
      subst l44 y44 z44
      obtain ⟨rfl, N44q, e44⟩ := hQ44
      have N44 := Fr.app N43 N44q
      refine Go.st (fun _ k => st44 _ k) ?_
      show Go p e below _ (T44.setTop (mkF m 101 #[.val (.int p0), .val (.int p1), .val (.ref a2), .val (.ref a3), .val (.int (2 : Int32)), .val (.int (36 : Int32)), .val (.int (1 : Int32)), .val (.int v41), .val (.int (35 : Int32)), .val (.int (fDec (35 : Int32)))] [(.int (fExp (35 : Int32))), (.int (fDec (35 : Int32)))]))
      refine Go.st (fun _ k => XS.icmpNo X44.here hx rfl (hb hby at_101) rfl (teq (own_same (35 : Int32))).2 k) ?_
      show Go p e below _ (T44.setTop (mkF m 104 #[.val (.int p0), .val (.int p1), .val (.ref a2), .val (.ref a3), .val (.int (2 : Int32)), .val (.int (36 : Int32)), .val (.int (1 : Int32)), .val (.int v41), .val (.int (35 : Int32)), .val (.int (fDec (35 : Int32)))] []))
      refine Go.st (fun _ k => XS.iconst X44.here hx rfl (hb hby at_104) k) ?_
      refine Go.st (fun _ k => XS.goto X44.here hx rfl (pc0 := 105) (pc' := 109) rfl (hb hby at_105) (by decide) (by decide) k) ?_
      show Go p e below _ (T44.setTop (mkF m 109 #[.val (.int p0), .val (.int p1), .val (.ref a2), .val (.ref a3), .val (.int (2 : Int32)), .val (.int (36 : Int32)), .val (.int (1 : Int32)), .val (.int v41), .val (.int (35 : Int32)), .val (.int (fDec (35 : Int32)))] [(.int (1 : Int32))]))
      obtain ⟨fs, hr, hrun, hended, -, hW, hB, hsame⟩ := X44.leaveW (v := some (.int (1 : Int32))) hS3 (by rw [e44]; exact hk3) (fun h => by rw [Bd.returns] at h; cases h)
      refine ⟨_, _, retN X44 hx (t := .boolean) Bd.returns (by simp) (hb hby at_109) hr, hrun, hended, _, _, rfl, ?_, ⟨_, rfl⟩, hW, hB, hsame.mono (by decide) (by decide)⟩
      show Q_rm0 Z p0 p1 cs vf h0 n0 _ T44.heap _
      rw [e44]
      exact ⟨rfl, N44⟩
    · show Go p e below _ (T39.setTop (mkF m 50 #[.val (.int p0), .val (.int p1), .val (.ref a2), .val (.ref a3), .val (.int (2 : Int32)), .val (.int (36 : Int32)), .val (.int (1 : Int32)), .val (.int v41), .unset, .unset] [(.int v41)]))
      refine Go.st (fun _ k => XS.ifYes X39.here hx rfl (pc0 := 50) (pc' := 62) rfl (hb hby at_50) rfl ((if0 _ _).trans (feq hc42).2) (by decide) (by decide) k) ?_
      show Go p e below _ (T39.setTop (mkF m 62 #[.val (.int p0), .val (.int p1), .val (.ref a2), .val (.ref a3), .val (.int (2 : Int32)), .val (.int (36 : Int32)), .val (.int (1 : Int32)), .val (.int v41), .unset, .unset] []))
      refine Go.st (fun _ k => XS.iload X39.here hx rfl (hb hby at_62) rfl k) ?_
      refine Go.st (fun _ k => XS.iconst X39.here hx rfl (hb hby at_64) k) ?_
      by_cases hc45 : v41 = (1 : Int32)
      · show Go p e below _ (T39.setTop (mkF m 65 #[.val (.int p0), .val (.int p1), .val (.ref a2), .val (.ref a3), .val (.int (2 : Int32)), .val (.int (36 : Int32)), .val (.int (1 : Int32)), .val (.int v41), .unset, .unset] [(.int (1 : Int32)), (.int v41)]))
        refine Go.st (fun _ k => XS.icmpNo X39.here hx rfl (hb hby at_65) rfl (teq hc45).2 k) ?_
        show Go p e below _ (T39.setTop (mkF m 68 #[.val (.int p0), .val (.int p1), .val (.ref a2), .val (.ref a3), .val (.int (2 : Int32)), .val (.int (36 : Int32)), .val (.int (1 : Int32)), .val (.int v41), .unset, .unset] []))
        refine Go.st (fun _ k => XS.iload X39.here hx rfl (hb hby at_68) rfl k) ?_
        refine Go.st (fun _ k => XS.iconst X39.here hx rfl (hb hby at_70) k) ?_
        refine Go.st (fun _ k => XS.iadd X39.here hx rfl (hb hby at_71) rfl k) ?_
        refine Go.st (fun _ k => XS.istore X39.here hx rfl (hb hby at_72) rfl (l' := #[.val (.int p0), .val (.int p1), .val (.ref a2), .val (.ref a3), .val (.int (2 : Int32)), .val (.int (36 : Int32)), .val (.int (1 : Int32)), .val (.int v41), .val (.int (37 : Int32)), .unset]) rfl k) ?_
        show Go p e below _ (T39.setTop (mkF m 74 #[.val (.int p0), .val (.int p1), .val (.ref a2), .val (.ref a3), .val (.int (2 : Int32)), .val (.int (36 : Int32)), .val (.int (1 : Int32)), .val (.int v41), .val (.int (37 : Int32)), .unset] []))
        refine Go.st (fun _ k => XS.goto X39.here hx rfl (pc0 := 74) (pc' := 80) rfl (hb hby at_74) (by decide) (by decide) k) ?_
        show Go p e below _ (T39.setTop (mkF m 80 #[.val (.int p0), .val (.int p1), .val (.ref a2), .val (.ref a3), .val (.int (2 : Int32)), .val (.int (36 : Int32)), .val (.int (1 : Int32)), .val (.int v41), .val (.int (37 : Int32)), .unset] []))
        refine Go.st (fun _ k => XS.iload X39.here hx rfl (hb hby at_80) rfl k) ?_
        obtain ⟨_, _, ⟨T46, L46, k46, n46⟩, -, X46, ⟨Lc46, hQ46, l46, y46, z46⟩, st46⟩ := Jvm.LawKit.callS X39 hx (y := (⟨"com/example/tokenloom/tokenloom/typespec/StringValue", "decodeEscape", "(I)I"⟩ : MethodName)) hown (mvT hZ (hw _ (List.mem_of_getElem? (i := 34) rfl))) (mvT hZ (hw _ (List.mem_of_getElem? (i := 35) rfl))) (mvT hZ (hw _ (List.mem_of_getElem? (i := 36) rfl))) (mvT hZ (hw _ (List.mem_of_getElem? (i := 37) rfl))) (by decide) (backOf (W := 0) (rm6 l Z aZ hw [] (37 : Int32) h3 n0 ) hZ (hw _ (List.mem_of_getElem? (i := 37) rfl)) (hw _ (List.mem_of_getElem? (i := 36) rfl)) (by decide) (by decide)) (g := (mkF m 82 #[.val (.int p0), .val (.int p1), .val (.ref a2), .val (.ref a3), .val (.int (2 : Int32)), .val (.int (36 : Int32)), .val (.int (1 : Int32)), .val (.int v41), .val (.int (37 : Int32)), .unset] [(.int (37 : Int32))])) rfl (by rw [hml]; rfl) (argsL := [(.int (37 : Int32))]) (rest := []) (lenOf pd56f530d rfl) rfl (by show 2 * 0 + _ ≤ _; exact Nat.le_of_eq rfl) (hb hby at_82) (fun _ _ => ⟨rfl, e39, (by decide : 4 + 0 ≤ _), (by decide : 72 + 0 ≤ _)⟩)
        dsimp only [Pt.U, Pt.locs, Pt.cells, Pt.slots] at X46 l46 y46 z46 st46 hQ46
        subst l46 y46 z46
        obtain ⟨rfl, N46q, e46⟩ := hQ46
        have N46 := Fr.app N39 N46q
        refine Go.st (fun _ k => st46 _ k) ?_
        show Go p e below _ (T46.setTop (mkF m 85 #[.val (.int p0), .val (.int p1), .val (.ref a2), .val (.ref a3), .val (.int (2 : Int32)), .val (.int (36 : Int32)), .val (.int (1 : Int32)), .val (.int v41), .val (.int (37 : Int32)), .unset] [(.int (fDec (37 : Int32)))]))
        refine Go.st (fun _ k => XS.istore X46.here hx rfl (hb hby at_85) rfl (l' := #[.val (.int p0), .val (.int p1), .val (.ref a2), .val (.ref a3), .val (.int (2 : Int32)), .val (.int (36 : Int32)), .val (.int (1 : Int32)), .val (.int v41), .val (.int (37 : Int32)), .val (.int (fDec (37 : Int32)))]) rfl k) ?_
        show Go p e below _ (T46.setTop (mkF m 87 #[.val (.int p0), .val (.int p1), .val (.ref a2), .val (.ref a3), .val (.int (2 : Int32)), .val (.int (36 : Int32)), .val (.int (1 : Int32)), .val (.int v41), .val (.int (37 : Int32)), .val (.int (fDec (37 : Int32)))] []))
        refine Go.st (fun _ k => XS.iload X46.here hx rfl (hb hby at_87) rfl k) ?_
        refine Go.st (fun _ k => XS.ifNo X46.here hx rfl (hb hby at_89) rfl ((if0 _ _).trans (feq (by decide : ¬ ((1 : Int32) = (0 : Int32)))).1) k) ?_
        show Go p e below _ (T46.setTop (mkF m 92 #[.val (.int p0), .val (.int p1), .val (.ref a2), .val (.ref a3), .val (.int (2 : Int32)), .val (.int (36 : Int32)), .val (.int (1 : Int32)), .val (.int v41), .val (.int (37 : Int32)), .val (.int (fDec (37 : Int32)))] []))
        refine Go.st (fun _ k => XS.iload X46.here hx rfl (hb hby at_92) rfl k) ?_
        refine Go.st (fun _ k => XS.iload X46.here hx rfl (hb hby at_94) rfl k) ?_
        refine Go.st (fun _ k => XS.aloadN X46.here hx rfl (hb hby at_96) rfl rfl k) ?_
        refine Go.st (fun _ k => XS.aloadN X46.here hx rfl (hb hby at_97) rfl rfl k) ?_
        obtain ⟨_, _, ⟨T47, L47, k47, n47⟩, -, X47, ⟨Lc47, hQ47, l47, y47, z47⟩, st47⟩ := Jvm.LawKit.callS X46 hx (y := (⟨"com/example/tokenloom/tokenloom/typespec/StringValueDecodeEscapePinLaw", "expected", "(ILjava/lang/String;Ljava/lang/String;)I"⟩ : MethodName)) hown (mvT hZ (hw _ (List.mem_of_getElem? (i := 38) rfl))) (mvT hZ (hw _ (List.mem_of_getElem? (i := 39) rfl))) (mvT hZ (hw _ (List.mem_of_getElem? (i := 40) rfl))) (mvT hZ (hw _ (List.mem_of_getElem? (i := 41) rfl))) (by decide) (backOf (W := 1) (rmExp l Z aZ hw [] (37 : Int32) a2 a3 b2 kc2 b3 kc3 cs vf h3 n0 hcs hvf F3_S_COMPACT_STRINGS F3_S_SIOOBE_FORMATTER F3_E_a2 F3_F_a2_coder F3_F_a2_value F3_V_b2 Es3 Fc3 Fv3 Va3) hZ (hw _ (List.mem_of_getElem? (i := 41) rfl)) (hw _ (List.mem_of_getElem? (i := 40) rfl)) (by decide) (by decide)) (g := (mkF m 98 #[.val (.int p0), .val (.int p1), .val (.ref a2), .val (.ref a3), .val (.int (2 : Int32)), .val (.int (36 : Int32)), .val (.int (1 : Int32)), .val (.int v41), .val (.int (37 : Int32)), .val (.int (fDec (37 : Int32)))] [(.ref a3), (.ref a2), (.int (37 : Int32)), (.int (fDec (37 : Int32)))])) rfl (by rw [hml]; rfl) (argsL := [(.int (37 : Int32)), (.ref a2), (.ref a3)]) (rest := [(.int (fDec (37 : Int32)))]) (lenOf pda0c35829 rfl) rfl (by show 2 * 0 + _ ≤ _; exact Nat.le_of_eq rfl) (hb hby at_98) (fun _ _ => ⟨rfl, e46, (by decide : 4 + 0 ≤ _), (by decide : 72 + 0 ≤ _)⟩)
        dsimp only [Pt.U, Pt.locs, Pt.cells, Pt.slots] at X47 l47 y47 z47 st47 hQ47
        subst l47 y47 z47
        obtain ⟨rfl, N47q, e47⟩ := hQ47
        have N47 := Fr.app N46 N47q
        refine Go.st (fun _ k => st47 _ k) ?_
        show Go p e below _ (T47.setTop (mkF m 101 #[.val (.int p0), .val (.int p1), .val (.ref a2), .val (.ref a3), .val (.int (2 : Int32)), .val (.int (36 : Int32)), .val (.int (1 : Int32)), .val (.int v41), .val (.int (37 : Int32)), .val (.int (fDec (37 : Int32)))] [(.int (fExp (37 : Int32))), (.int (fDec (37 : Int32)))]))
        refine Go.st (fun _ k => XS.icmpNo X47.here hx rfl (hb hby at_101) rfl (teq (own_same (37 : Int32))).2 k) ?_
        show Go p e below _ (T47.setTop (mkF m 104 #[.val (.int p0), .val (.int p1), .val (.ref a2), .val (.ref a3), .val (.int (2 : Int32)), .val (.int (36 : Int32)), .val (.int (1 : Int32)), .val (.int v41), .val (.int (37 : Int32)), .val (.int (fDec (37 : Int32)))] []))
        refine Go.st (fun _ k => XS.iconst X47.here hx rfl (hb hby at_104) k) ?_
        refine Go.st (fun _ k => XS.goto X47.here hx rfl (pc0 := 105) (pc' := 109) rfl (hb hby at_105) (by decide) (by decide) k) ?_
        show Go p e below _ (T47.setTop (mkF m 109 #[.val (.int p0), .val (.int p1), .val (.ref a2), .val (.ref a3), .val (.int (2 : Int32)), .val (.int (36 : Int32)), .val (.int (1 : Int32)), .val (.int v41), .val (.int (37 : Int32)), .val (.int (fDec (37 : Int32)))] [(.int (1 : Int32))]))
        obtain ⟨fs, hr, hrun, hended, -, hW, hB, hsame⟩ := X47.leaveW (v := some (.int (1 : Int32))) hS3 (by rw [e47]; exact hk3) (fun h => by rw [Bd.returns] at h; cases h)
        refine ⟨_, _, retN X47 hx (t := .boolean) Bd.returns (by simp) (hb hby at_109) hr, hrun, hended, _, _, rfl, ?_, ⟨_, rfl⟩, hW, hB, hsame.mono (by decide) (by decide)⟩
        show Q_rm0 Z p0 p1 cs vf h0 n0 _ T47.heap _
        rw [e47]
        exact ⟨rfl, N47⟩
      · show Go p e below _ (T39.setTop (mkF m 65 #[.val (.int p0), .val (.int p1), .val (.ref a2), .val (.ref a3), .val (.int (2 : Int32)), .val (.int (36 : Int32)), .val (.int (1 : Int32)), .val (.int v41), .unset, .unset] [(.int (1 : Int32)), (.int v41)]))
        refine Go.st (fun _ k => XS.icmpYes X39.here hx rfl (pc0 := 65) (pc' := 77) rfl (hb hby at_65) rfl (feq hc45).2 (by decide) (by decide) k) ?_
        show Go p e below _ (T39.setTop (mkF m 77 #[.val (.int p0), .val (.int p1), .val (.ref a2), .val (.ref a3), .val (.int (2 : Int32)), .val (.int (36 : Int32)), .val (.int (1 : Int32)), .val (.int v41), .unset, .unset] []))
        refine Go.st (fun _ k => XS.iloadN X39.here hx rfl (hb hby at_77) rfl k) ?_
        refine Go.st (fun _ k => XS.istore X39.here hx rfl (hb hby at_78) rfl (l' := #[.val (.int p0), .val (.int p1), .val (.ref a2), .val (.ref a3), .val (.int (2 : Int32)), .val (.int (36 : Int32)), .val (.int (1 : Int32)), .val (.int v41), .val (.int p0), .unset]) rfl k) ?_
        show Go p e below _ (T39.setTop (mkF m 80 #[.val (.int p0), .val (.int p1), .val (.ref a2), .val (.ref a3), .val (.int (2 : Int32)), .val (.int (36 : Int32)), .val (.int (1 : Int32)), .val (.int v41), .val (.int p0), .unset] []))
        refine Go.st (fun _ k => XS.iload X39.here hx rfl (hb hby at_80) rfl k) ?_
        obtain ⟨_, _, ⟨T48, L48, k48, n48⟩, -, X48, ⟨Lc48, hQ48, l48, y48, z48⟩, st48⟩ := Jvm.LawKit.callS X39 hx (y := (⟨"com/example/tokenloom/tokenloom/typespec/StringValue", "decodeEscape", "(I)I"⟩ : MethodName)) hown (mvT hZ (hw _ (List.mem_of_getElem? (i := 34) rfl))) (mvT hZ (hw _ (List.mem_of_getElem? (i := 35) rfl))) (mvT hZ (hw _ (List.mem_of_getElem? (i := 36) rfl))) (mvT hZ (hw _ (List.mem_of_getElem? (i := 37) rfl))) (by decide) (backOf (W := 0) (rm6 l Z aZ hw [] p0 h3 n0 ) hZ (hw _ (List.mem_of_getElem? (i := 37) rfl)) (hw _ (List.mem_of_getElem? (i := 36) rfl)) (by decide) (by decide)) (g := (mkF m 82 #[.val (.int p0), .val (.int p1), .val (.ref a2), .val (.ref a3), .val (.int (2 : Int32)), .val (.int (36 : Int32)), .val (.int (1 : Int32)), .val (.int v41), .val (.int p0), .unset] [(.int p0)])) rfl (by rw [hml]; rfl) (argsL := [(.int p0)]) (rest := []) (lenOf pd56f530d rfl) rfl (by show 2 * 0 + _ ≤ _; exact Nat.le_of_eq rfl) (hb hby at_82) (fun _ _ => ⟨rfl, e39, (by decide : 4 + 0 ≤ _), (by decide : 72 + 0 ≤ _)⟩)
        dsimp only [Pt.U, Pt.locs, Pt.cells, Pt.slots] at X48 l48 y48 z48 st48 hQ48
        subst l48 y48 z48
        obtain ⟨rfl, N48q, e48⟩ := hQ48
        have N48 := Fr.app N39 N48q
        refine Go.st (fun _ k => st48 _ k) ?_
        show Go p e below _ (T48.setTop (mkF m 85 #[.val (.int p0), .val (.int p1), .val (.ref a2), .val (.ref a3), .val (.int (2 : Int32)), .val (.int (36 : Int32)), .val (.int (1 : Int32)), .val (.int v41), .val (.int p0), .unset] [(.int (fDec p0))]))
        refine Go.st (fun _ k => XS.istore X48.here hx rfl (hb hby at_85) rfl (l' := #[.val (.int p0), .val (.int p1), .val (.ref a2), .val (.ref a3), .val (.int (2 : Int32)), .val (.int (36 : Int32)), .val (.int (1 : Int32)), .val (.int v41), .val (.int p0), .val (.int (fDec p0))]) rfl k) ?_
        show Go p e below _ (T48.setTop (mkF m 87 #[.val (.int p0), .val (.int p1), .val (.ref a2), .val (.ref a3), .val (.int (2 : Int32)), .val (.int (36 : Int32)), .val (.int (1 : Int32)), .val (.int v41), .val (.int p0), .val (.int (fDec p0))] []))
        refine Go.st (fun _ k => XS.iload X48.here hx rfl (hb hby at_87) rfl k) ?_
        refine Go.st (fun _ k => XS.ifNo X48.here hx rfl (hb hby at_89) rfl ((if0 _ _).trans (feq (by decide : ¬ ((1 : Int32) = (0 : Int32)))).1) k) ?_
        show Go p e below _ (T48.setTop (mkF m 92 #[.val (.int p0), .val (.int p1), .val (.ref a2), .val (.ref a3), .val (.int (2 : Int32)), .val (.int (36 : Int32)), .val (.int (1 : Int32)), .val (.int v41), .val (.int p0), .val (.int (fDec p0))] []))
        refine Go.st (fun _ k => XS.iload X48.here hx rfl (hb hby at_92) rfl k) ?_
        refine Go.st (fun _ k => XS.iload X48.here hx rfl (hb hby at_94) rfl k) ?_
        refine Go.st (fun _ k => XS.aloadN X48.here hx rfl (hb hby at_96) rfl rfl k) ?_
        refine Go.st (fun _ k => XS.aloadN X48.here hx rfl (hb hby at_97) rfl rfl k) ?_
        obtain ⟨_, _, ⟨T49, L49, k49, n49⟩, -, X49, ⟨Lc49, hQ49, l49, y49, z49⟩, st49⟩ := Jvm.LawKit.callS X48 hx (y := (⟨"com/example/tokenloom/tokenloom/typespec/StringValueDecodeEscapePinLaw", "expected", "(ILjava/lang/String;Ljava/lang/String;)I"⟩ : MethodName)) hown (mvT hZ (hw _ (List.mem_of_getElem? (i := 38) rfl))) (mvT hZ (hw _ (List.mem_of_getElem? (i := 39) rfl))) (mvT hZ (hw _ (List.mem_of_getElem? (i := 40) rfl))) (mvT hZ (hw _ (List.mem_of_getElem? (i := 41) rfl))) (by decide) (backOf (W := 1) (rmExp l Z aZ hw [] p0 a2 a3 b2 kc2 b3 kc3 cs vf h3 n0 hcs hvf F3_S_COMPACT_STRINGS F3_S_SIOOBE_FORMATTER F3_E_a2 F3_F_a2_coder F3_F_a2_value F3_V_b2 Es3 Fc3 Fv3 Va3) hZ (hw _ (List.mem_of_getElem? (i := 41) rfl)) (hw _ (List.mem_of_getElem? (i := 40) rfl)) (by decide) (by decide)) (g := (mkF m 98 #[.val (.int p0), .val (.int p1), .val (.ref a2), .val (.ref a3), .val (.int (2 : Int32)), .val (.int (36 : Int32)), .val (.int (1 : Int32)), .val (.int v41), .val (.int p0), .val (.int (fDec p0))] [(.ref a3), (.ref a2), (.int p0), (.int (fDec p0))])) rfl (by rw [hml]; rfl) (argsL := [(.int p0), (.ref a2), (.ref a3)]) (rest := [(.int (fDec p0))]) (lenOf pda0c35829 rfl) rfl (by show 2 * 0 + _ ≤ _; exact Nat.le_of_eq rfl) (hb hby at_98) (fun _ _ => ⟨rfl, e48, (by decide : 4 + 0 ≤ _), (by decide : 72 + 0 ≤ _)⟩)
        dsimp only [Pt.U, Pt.locs, Pt.cells, Pt.slots] at X49 l49 y49 z49 st49 hQ49
        subst l49 y49 z49
        obtain ⟨rfl, N49q, e49⟩ := hQ49
        have N49 := Fr.app N48 N49q
        refine Go.st (fun _ k => st49 _ k) ?_
        show Go p e below _ (T49.setTop (mkF m 101 #[.val (.int p0), .val (.int p1), .val (.ref a2), .val (.ref a3), .val (.int (2 : Int32)), .val (.int (36 : Int32)), .val (.int (1 : Int32)), .val (.int v41), .val (.int p0), .val (.int (fDec p0))] [(.int (fExp p0)), (.int (fDec p0))]))
        refine Go.st (fun _ k => XS.icmpNo X49.here hx rfl (hb hby at_101) rfl (teq (own_same p0)).2 k) ?_
        show Go p e below _ (T49.setTop (mkF m 104 #[.val (.int p0), .val (.int p1), .val (.ref a2), .val (.ref a3), .val (.int (2 : Int32)), .val (.int (36 : Int32)), .val (.int (1 : Int32)), .val (.int v41), .val (.int p0), .val (.int (fDec p0))] []))
        refine Go.st (fun _ k => XS.iconst X49.here hx rfl (hb hby at_104) k) ?_
        refine Go.st (fun _ k => XS.goto X49.here hx rfl (pc0 := 105) (pc' := 109) rfl (hb hby at_105) (by decide) (by decide) k) ?_
        show Go p e below _ (T49.setTop (mkF m 109 #[.val (.int p0), .val (.int p1), .val (.ref a2), .val (.ref a3), .val (.int (2 : Int32)), .val (.int (36 : Int32)), .val (.int (1 : Int32)), .val (.int v41), .val (.int p0), .val (.int (fDec p0))] [(.int (1 : Int32))]))
        obtain ⟨fs, hr, hrun, hended, -, hW, hB, hsame⟩ := X49.leaveW (v := some (.int (1 : Int32))) hS3 (by rw [e49]; exact hk3) (fun h => by rw [Bd.returns] at h; cases h)
        refine ⟨_, _, retN X49 hx (t := .boolean) Bd.returns (by simp) (hb hby at_109) hr, hrun, hended, _, _, rfl, ?_, ⟨_, rfl⟩, hW, hB, hsame.mono (by decide) (by decide)⟩
        show Q_rm0 Z p0 p1 cs vf h0 n0 _ T49.heap _
        rw [e49]
        exact ⟨rfl, N49⟩
  · rw [hr4]
    show Go p e below _ (T3.setTop (mkF m 10 #[.val (.int p0), .val (.int p1), .val (.ref a2), .val (.ref a3), .unset, .unset, .unset, .unset, .unset, .unset] [(.int (3 : Int32))]))
    refine Go.st (fun _ k => XS.istore X3.here hx rfl (hb hby at_10) rfl (l' := #[.val (.int p0), .val (.int p1), .val (.ref a2), .val (.ref a3), .val (.int (3 : Int32)), .unset, .unset, .unset, .unset, .unset]) rfl k) ?_
    show Go p e below _ (T3.setTop (mkF m 12 #[.val (.int p0), .val (.int p1), .val (.ref a2), .val (.ref a3), .val (.int (3 : Int32)), .unset, .unset, .unset, .unset, .unset] []))
    refine Go.st (fun _ k => XS.aloadN X3.here hx rfl (hb hby at_12) rfl rfl k) ?_
    refine Go.st (fun _ k => XS.iload X3.here hx rfl (hb hby at_13) rfl k) ?_
    obtain ⟨cq50, kq50, q50a, q50b, q50c⟩ := isOf hZ e3 F3_E_a2
    obtain ⟨_, _, ⟨T50, L50, k50, n50⟩, -, X50, ⟨Lc50, hQ50, l50, y50, z50⟩, st50⟩ := X3.virtualBack hx (y := (⟨"java/lang/String", "charAt", "(I)C"⟩ : MethodName)) (z := (⟨"java/lang/String", "charAt", "(I)C"⟩ : MethodName)) hown (mvT hZ (hw _ (List.mem_of_getElem? (i := 9) rfl))) (mvT hZ (hw _ (List.mem_of_getElem? (i := 10) rfl))) (notFace_of_selects (args := #[]) (mvT hZ (hw _ (List.mem_of_getElem? (i := 12) rfl)))) (mvT hZ (hw _ (List.mem_of_getElem? (i := 12) rfl))) (mvT hZ (hw _ (List.mem_of_getElem? (i := 11) rfl))) (by decide) (backOf (W := 0) (rmChar l Z aZ hw [] (64 : Int32) a2 (3 : Int32) b2 (0 : Int32) cs vf kc2 (8 : Int32) [(.int (34 : Int32)), (.int (92 : Int32)), (.int (36 : Int32)), (.int (64 : Int32)), (.int (96 : Int32)), (.int (110 : Int32)), (.int (114 : Int32)), (.int (116 : Int32))] h3 n0 hcs rfl hvf ⟨by decide, by decide⟩ rfl F3_F_a2_value F3_F_a2_coder F3_E_a2 F3_S_COMPACT_STRINGS F3_S_SIOOBE_FORMATTER F3_V_b2) hZ (hw _ (List.mem_of_getElem? (i := 13) rfl)) (hw _ (List.mem_of_getElem? (i := 1) rfl)) (by decide) (by decide)) q50a q50c (g := (mkF m 15 #[.val (.int p0), .val (.int p1), .val (.ref a2), .val (.ref a3), .val (.int (3 : Int32)), .unset, .unset, .unset, .unset, .unset] [(.int (3 : Int32)), (.ref a2)])) rfl (by rw [hml]; rfl) (Steps.refl _) (argsL := [(.int (3 : Int32))]) (rest := []) (lenOf pd56f5307 rfl) rfl (by show 2 * 0 + _ ≤ _; exact Nat.le_of_eq rfl) (hb hby at_15) (fun _ _ => ⟨rfl, e3, (by decide : 4 + 0 ≤ _), (by decide : 72 + 0 ≤ _)⟩)
    dsimp only [Pt.U, Pt.locs, Pt.cells, Pt.slots] at X50 l50 y50 z50 st50 hQ50
    subst l50 y50 z50
    obtain ⟨rfl, N50q, e50⟩ := hQ50
    have N50 := Fr.app N0 N50q
    refine Go.st (fun _ k => st50.trans k) ?_
    show Go p e below _ (T50.setTop (mkF m 18 #[.val (.int p0), .val (.int p1), .val (.ref a2), .val (.ref a3), .val (.int (3 : Int32)), .unset, .unset, .unset, .unset, .unset] [(.int (jChar (64 : Int32)))]))
    have hs51 : (jChar (64 : Int32)) = (64 : Int32) := (by decide +kernel)
    rw [hs51]
    show Go p e below _ (T50.setTop (mkF m 18 #[.val (.int p0), .val (.int p1), .val (.ref a2), .val (.ref a3), .val (.int (3 : Int32)), .unset, .unset, .unset, .unset, .unset] [(.int (64 : Int32))]))
    refine Go.st (fun _ k => XS.istore X50.here hx rfl (hb hby at_18) rfl (l' := #[.val (.int p0), .val (.int p1), .val (.ref a2), .val (.ref a3), .val (.int (3 : Int32)), .val (.int (64 : Int32)), .unset, .unset, .unset, .unset]) rfl k) ?_
    show Go p e below _ (T50.setTop (mkF m 20 #[.val (.int p0), .val (.int p1), .val (.ref a2), .val (.ref a3), .val (.int (3 : Int32)), .val (.int (64 : Int32)), .unset, .unset, .unset, .unset] []))
    refine Go.st (fun _ k => XS.iload X50.here hx rfl (hb hby at_20) rfl k) ?_
    obtain ⟨_, _, ⟨T52, L52, k52, n52⟩, -, X52, ⟨Lc52, hQ52, l52, y52, z52⟩, st52⟩ := Jvm.LawKit.callS X50 hx (y := (⟨"com/example/tokenloom/tokenloom/typespec/StringValue", "decodeEscape", "(I)I"⟩ : MethodName)) hown (mvT hZ (hw _ (List.mem_of_getElem? (i := 34) rfl))) (mvT hZ (hw _ (List.mem_of_getElem? (i := 35) rfl))) (mvT hZ (hw _ (List.mem_of_getElem? (i := 36) rfl))) (mvT hZ (hw _ (List.mem_of_getElem? (i := 37) rfl))) (by decide) (backOf (W := 0) (rm6 l Z aZ hw [] (64 : Int32) h3 n0 ) hZ (hw _ (List.mem_of_getElem? (i := 37) rfl)) (hw _ (List.mem_of_getElem? (i := 36) rfl)) (by decide) (by decide)) (g := (mkF m 22 #[.val (.int p0), .val (.int p1), .val (.ref a2), .val (.ref a3), .val (.int (3 : Int32)), .val (.int (64 : Int32)), .unset, .unset, .unset, .unset] [(.int (64 : Int32))])) rfl (by rw [hml]; rfl) (argsL := [(.int (64 : Int32))]) (rest := []) (lenOf pd56f530d rfl) rfl (by show 2 * 0 + _ ≤ _; exact Nat.le_of_eq rfl) (hb hby at_22) (fun _ _ => ⟨rfl, e50, (by decide : 4 + 0 ≤ _), (by decide : 72 + 0 ≤ _)⟩)
    dsimp only [Pt.U, Pt.locs, Pt.cells, Pt.slots] at X52 l52 y52 z52 st52 hQ52
    subst l52 y52 z52
    obtain ⟨rfl, N52q, e52⟩ := hQ52
    have N52 := Fr.app N50 N52q
    refine Go.st (fun _ k => st52 _ k) ?_
    show Go p e below _ (T52.setTop (mkF m 25 #[.val (.int p0), .val (.int p1), .val (.ref a2), .val (.ref a3), .val (.int (3 : Int32)), .val (.int (64 : Int32)), .unset, .unset, .unset, .unset] [(.int (fDec (64 : Int32)))]))
    have hs53 : (fDec (64 : Int32)) = (64 : Int32) := (by decide +kernel)
    rw [hs53]
    show Go p e below _ (T52.setTop (mkF m 25 #[.val (.int p0), .val (.int p1), .val (.ref a2), .val (.ref a3), .val (.int (3 : Int32)), .val (.int (64 : Int32)), .unset, .unset, .unset, .unset] [(.int (64 : Int32))]))
    refine Go.st (fun _ k => XS.aloadN X52.here hx rfl (hb hby at_25) rfl rfl k) ?_
    refine Go.st (fun _ k => XS.iload X52.here hx rfl (hb hby at_26) rfl k) ?_
    obtain ⟨cq54, kq54, q54a, q54b, q54c⟩ := isOf hZ e52 Es3
    obtain ⟨_, _, ⟨T54, L54, k54, n54⟩, -, X54, ⟨Lc54, hQ54, l54, y54, z54⟩, st54⟩ := X52.virtualBack hx (y := (⟨"java/lang/String", "charAt", "(I)C"⟩ : MethodName)) (z := (⟨"java/lang/String", "charAt", "(I)C"⟩ : MethodName)) hown (mvT hZ (hw _ (List.mem_of_getElem? (i := 9) rfl))) (mvT hZ (hw _ (List.mem_of_getElem? (i := 10) rfl))) (notFace_of_selects (args := #[]) (mvT hZ (hw _ (List.mem_of_getElem? (i := 12) rfl)))) (mvT hZ (hw _ (List.mem_of_getElem? (i := 12) rfl))) (mvT hZ (hw _ (List.mem_of_getElem? (i := 11) rfl))) (by decide) (backOf (W := 1) (rmChar l Z aZ hw [] (64 : Int32) a3 (3 : Int32) b3 (0 : Int32) cs vf kc3 (8 : Int32) [(.int (34 : Int32)), (.int (92 : Int32)), (.int (36 : Int32)), (.int (64 : Int32)), (.int (96 : Int32)), (.int (10 : Int32)), (.int (13 : Int32)), (.int (9 : Int32))] h3 n0 hcs rfl hvf ⟨by decide, by decide⟩ rfl Fv3 Fc3 Es3 F3_S_COMPACT_STRINGS F3_S_SIOOBE_FORMATTER Va3) hZ (hw _ (List.mem_of_getElem? (i := 13) rfl)) (hw _ (List.mem_of_getElem? (i := 1) rfl)) (by decide) (by decide)) q54a q54c (g := (mkF m 28 #[.val (.int p0), .val (.int p1), .val (.ref a2), .val (.ref a3), .val (.int (3 : Int32)), .val (.int (64 : Int32)), .unset, .unset, .unset, .unset] [(.int (3 : Int32)), (.ref a3), (.int (64 : Int32))])) rfl (by rw [hml]; rfl) (Steps.refl _) (argsL := [(.int (3 : Int32))]) (rest := [(.int (64 : Int32))]) (lenOf pd56f5307 rfl) rfl (by show 2 * 0 + _ ≤ _; exact Nat.le_of_eq rfl) (hb hby at_28) (fun _ _ => ⟨rfl, e52, (by decide : 4 + 0 ≤ _), (by decide : 72 + 0 ≤ _)⟩)
    dsimp only [Pt.U, Pt.locs, Pt.cells, Pt.slots] at X54 l54 y54 z54 st54 hQ54
    subst l54 y54 z54
    obtain ⟨rfl, N54q, e54⟩ := hQ54
    have N54 := Fr.app N52 N54q
    refine Go.st (fun _ k => st54.trans k) ?_
    show Go p e below _ (T54.setTop (mkF m 31 #[.val (.int p0), .val (.int p1), .val (.ref a2), .val (.ref a3), .val (.int (3 : Int32)), .val (.int (64 : Int32)), .unset, .unset, .unset, .unset] [(.int (jChar (64 : Int32))), (.int (64 : Int32))]))
    have hs55 : (jChar (64 : Int32)) = (64 : Int32) := (by decide +kernel)
    rw [hs55]
    show Go p e below _ (T54.setTop (mkF m 31 #[.val (.int p0), .val (.int p1), .val (.ref a2), .val (.ref a3), .val (.int (3 : Int32)), .val (.int (64 : Int32)), .unset, .unset, .unset, .unset] [(.int (64 : Int32)), (.int (64 : Int32))]))
    refine Go.st (fun _ k => XS.icmpNo X54.here hx rfl (hb hby at_31) rfl (teq (by decide : ((64 : Int32) = (64 : Int32)))).2 k) ?_
    show Go p e below _ (T54.setTop (mkF m 34 #[.val (.int p0), .val (.int p1), .val (.ref a2), .val (.ref a3), .val (.int (3 : Int32)), .val (.int (64 : Int32)), .unset, .unset, .unset, .unset] []))
    refine Go.st (fun _ k => XS.iconst X54.here hx rfl (hb hby at_34) k) ?_
    refine Go.st (fun _ k => XS.goto X54.here hx rfl (pc0 := 35) (pc' := 39) rfl (hb hby at_35) (by decide) (by decide) k) ?_
    show Go p e below _ (T54.setTop (mkF m 39 #[.val (.int p0), .val (.int p1), .val (.ref a2), .val (.ref a3), .val (.int (3 : Int32)), .val (.int (64 : Int32)), .unset, .unset, .unset, .unset] [(.int (1 : Int32))]))
    refine Go.st (fun _ k => XS.istore X54.here hx rfl (hb hby at_39) rfl (l' := #[.val (.int p0), .val (.int p1), .val (.ref a2), .val (.ref a3), .val (.int (3 : Int32)), .val (.int (64 : Int32)), .val (.int (1 : Int32)), .unset, .unset, .unset]) rfl k) ?_
    show Go p e below _ (T54.setTop (mkF m 41 #[.val (.int p0), .val (.int p1), .val (.ref a2), .val (.ref a3), .val (.int (3 : Int32)), .val (.int (64 : Int32)), .val (.int (1 : Int32)), .unset, .unset, .unset] []))
    refine Go.st (fun _ k => XS.iloadN X54.here hx rfl (hb hby at_41) rfl k) ?_
    refine Go.st (fun _ k => XS.iconst X54.here hx rfl (hb hby at_42) k) ?_
    refine Go.st (fun _ k => XS.iushr X54.here hx rfl (hb hby at_43) rfl k) ?_
    show Go p e below _ (T54.setTop (mkF m 44 #[.val (.int p0), .val (.int p1), .val (.ref a2), .val (.ref a3), .val (.int (3 : Int32)), .val (.int (64 : Int32)), .val (.int (1 : Int32)), .unset, .unset, .unset] [(.int ((p1.toUInt32 >>> ((3 : Int32) &&& 31).toUInt32).toInt32))]))
    refine Go.st (fun _ k => XS.iconst X54.here hx rfl (hb hby at_44) k) ?_
    refine Go.st (fun _ k => XS.iand X54.here hx rfl (hb hby at_45) rfl k) ?_
    show Go p e below _ (T54.setTop (mkF m 46 #[.val (.int p0), .val (.int p1), .val (.ref a2), .val (.ref a3), .val (.int (3 : Int32)), .val (.int (64 : Int32)), .val (.int (1 : Int32)), .unset, .unset, .unset] [(.int (((p1.toUInt32 >>> ((3 : Int32) &&& 31).toUInt32).toInt32) &&& (3 : Int32)))]))
    generalize hv56 : (((p1.toUInt32 >>> ((3 : Int32) &&& 31).toUInt32).toInt32) &&& (3 : Int32)) = v56
    refine Go.st (fun _ k => XS.istore X54.here hx rfl (hb hby at_46) rfl (l' := #[.val (.int p0), .val (.int p1), .val (.ref a2), .val (.ref a3), .val (.int (3 : Int32)), .val (.int (64 : Int32)), .val (.int (1 : Int32)), .val (.int v56), .unset, .unset]) rfl k) ?_
    show Go p e below _ (T54.setTop (mkF m 48 #[.val (.int p0), .val (.int p1), .val (.ref a2), .val (.ref a3), .val (.int (3 : Int32)), .val (.int (64 : Int32)), .val (.int (1 : Int32)), .val (.int v56), .unset, .unset] []))
    refine Go.st (fun _ k => XS.iload X54.here hx rfl (hb hby at_48) rfl k) ?_
    by_cases hc57 : v56 = (0 : Int32)
    · show Go p e below _ (T54.setTop (mkF m 50 #[.val (.int p0), .val (.int p1), .val (.ref a2), .val (.ref a3), .val (.int (3 : Int32)), .val (.int (64 : Int32)), .val (.int (1 : Int32)), .val (.int v56), .unset, .unset] [(.int v56)]))
      refine Go.st (fun _ k => XS.ifNo X54.here hx rfl (hb hby at_50) rfl ((if0 _ _).trans (teq hc57).2) k) ?_
      show Go p e below _ (T54.setTop (mkF m 53 #[.val (.int p0), .val (.int p1), .val (.ref a2), .val (.ref a3), .val (.int (3 : Int32)), .val (.int (64 : Int32)), .val (.int (1 : Int32)), .val (.int v56), .unset, .unset] []))
      refine Go.st (fun _ k => XS.iload X54.here hx rfl (hb hby at_53) rfl k) ?_
      refine Go.st (fun _ k => XS.iconst X54.here hx rfl (hb hby at_55) k) ?_
      refine Go.st (fun _ k => XS.isub X54.here hx rfl (hb hby at_56) rfl k) ?_
      refine Go.st (fun _ k => XS.istore X54.here hx rfl (hb hby at_57) rfl (l' := #[.val (.int p0), .val (.int p1), .val (.ref a2), .val (.ref a3), .val (.int (3 : Int32)), .val (.int (64 : Int32)), .val (.int (1 : Int32)), .val (.int v56), .val (.int (63 : Int32)), .unset]) rfl k) ?_
      show Go p e below _ (T54.setTop (mkF m 59 #[.val (.int p0), .val (.int p1), .val (.ref a2), .val (.ref a3), .val (.int (3 : Int32)), .val (.int (64 : Int32)), .val (.int (1 : Int32)), .val (.int v56), .val (.int (63 : Int32)), .unset] []))
      refine Go.st (fun _ k => XS.goto X54.here hx rfl (pc0 := 59) (pc' := 80) rfl (hb hby at_59) (by decide) (by decide) k) ?_
      show Go p e below _ (T54.setTop (mkF m 80 #[.val (.int p0), .val (.int p1), .val (.ref a2), .val (.ref a3), .val (.int (3 : Int32)), .val (.int (64 : Int32)), .val (.int (1 : Int32)), .val (.int v56), .val (.int (63 : Int32)), .unset] []))
      refine Go.st (fun _ k => XS.iload X54.here hx rfl (hb hby at_80) rfl k) ?_
      obtain ⟨_, _, ⟨T58, L58, k58, n58⟩, -, X58, ⟨Lc58, hQ58, l58, y58, z58⟩, st58⟩ := Jvm.LawKit.callS X54 hx (y := (⟨"com/example/tokenloom/tokenloom/typespec/StringValue", "decodeEscape", "(I)I"⟩ : MethodName)) hown (mvT hZ (hw _ (List.mem_of_getElem? (i := 34) rfl))) (mvT hZ (hw _ (List.mem_of_getElem? (i := 35) rfl))) (mvT hZ (hw _ (List.mem_of_getElem? (i := 36) rfl))) (mvT hZ (hw _ (List.mem_of_getElem? (i := 37) rfl))) (by decide) (backOf (W := 0) (rm6 l Z aZ hw [] (63 : Int32) h3 n0 ) hZ (hw _ (List.mem_of_getElem? (i := 37) rfl)) (hw _ (List.mem_of_getElem? (i := 36) rfl)) (by decide) (by decide)) (g := (mkF m 82 #[.val (.int p0), .val (.int p1), .val (.ref a2), .val (.ref a3), .val (.int (3 : Int32)), .val (.int (64 : Int32)), .val (.int (1 : Int32)), .val (.int v56), .val (.int (63 : Int32)), .unset] [(.int (63 : Int32))])) rfl (by rw [hml]; rfl) (argsL := [(.int (63 : Int32))]) (rest := []) (lenOf pd56f530d rfl) rfl (by show 2 * 0 + _ ≤ _; exact Nat.le_of_eq rfl) (hb hby at_82) (fun _ _ => ⟨rfl, e54, (by decide : 4 + 0 ≤ _), (by decide : 72 + 0 ≤ _)⟩)
      dsimp only [Pt.U, Pt.locs, Pt.cells, Pt.slots] at X58 l58 y58 z58 st58 hQ58
      subst l58 y58 z58
      obtain ⟨rfl, N58q, e58⟩ := hQ58
      have N58 := Fr.app N54 N58q
      refine Go.st (fun _ k => st58 _ k) ?_
      show Go p e below _ (T58.setTop (mkF m 85 #[.val (.int p0), .val (.int p1), .val (.ref a2), .val (.ref a3), .val (.int (3 : Int32)), .val (.int (64 : Int32)), .val (.int (1 : Int32)), .val (.int v56), .val (.int (63 : Int32)), .unset] [(.int (fDec (63 : Int32)))]))
      refine Go.st (fun _ k => XS.istore X58.here hx rfl (hb hby at_85) rfl (l' := #[.val (.int p0), .val (.int p1), .val (.ref a2), .val (.ref a3), .val (.int (3 : Int32)), .val (.int (64 : Int32)), .val (.int (1 : Int32)), .val (.int v56), .val (.int (63 : Int32)), .val (.int (fDec (63 : Int32)))]) rfl k) ?_
      show Go p e below _ (T58.setTop (mkF m 87 #[.val (.int p0), .val (.int p1), .val (.ref a2), .val (.ref a3), .val (.int (3 : Int32)), .val (.int (64 : Int32)), .val (.int (1 : Int32)), .val (.int v56), .val (.int (63 : Int32)), .val (.int (fDec (63 : Int32)))] []))
      refine Go.st (fun _ k => XS.iload X58.here hx rfl (hb hby at_87) rfl k) ?_
      refine Go.st (fun _ k => XS.ifNo X58.here hx rfl (hb hby at_89) rfl ((if0 _ _).trans (feq (by decide : ¬ ((1 : Int32) = (0 : Int32)))).1) k) ?_
      show Go p e below _ (T58.setTop (mkF m 92 #[.val (.int p0), .val (.int p1), .val (.ref a2), .val (.ref a3), .val (.int (3 : Int32)), .val (.int (64 : Int32)), .val (.int (1 : Int32)), .val (.int v56), .val (.int (63 : Int32)), .val (.int (fDec (63 : Int32)))] []))
      refine Go.st (fun _ k => XS.iload X58.here hx rfl (hb hby at_92) rfl k) ?_
      refine Go.st (fun _ k => XS.iload X58.here hx rfl (hb hby at_94) rfl k) ?_
      refine Go.st (fun _ k => XS.aloadN X58.here hx rfl (hb hby at_96) rfl rfl k) ?_
      refine Go.st (fun _ k => XS.aloadN X58.here hx rfl (hb hby at_97) rfl rfl k) ?_
      obtain ⟨_, _, ⟨T59, L59, k59, n59⟩, -, X59, ⟨Lc59, hQ59, l59, y59, z59⟩, st59⟩ := Jvm.LawKit.callS X58 hx (y := (⟨"com/example/tokenloom/tokenloom/typespec/StringValueDecodeEscapePinLaw", "expected", "(ILjava/lang/String;Ljava/lang/String;)I"⟩ : MethodName)) hown (mvT hZ (hw _ (List.mem_of_getElem? (i := 38) rfl))) (mvT hZ (hw _ (List.mem_of_getElem? (i := 39) rfl))) (mvT hZ (hw _ (List.mem_of_getElem? (i := 40) rfl))) (mvT hZ (hw _ (List.mem_of_getElem? (i := 41) rfl))) (by decide) (backOf (W := 1) (rmExp l Z aZ hw [] (63 : Int32) a2 a3 b2 kc2 b3 kc3 cs vf h3 n0 hcs hvf F3_S_COMPACT_STRINGS F3_S_SIOOBE_FORMATTER F3_E_a2 F3_F_a2_coder F3_F_a2_value F3_V_b2 Es3 Fc3 Fv3 Va3) hZ (hw _ (List.mem_of_getElem? (i := 41) rfl)) (hw _ (List.mem_of_getElem? (i := 40) rfl)) (by decide) (by decide)) (g := (mkF m 98 #[.val (.int p0), .val (.int p1), .val (.ref a2), .val (.ref a3), .val (.int (3 : Int32)), .val (.int (64 : Int32)), .val (.int (1 : Int32)), .val (.int v56), .val (.int (63 : Int32)), .val (.int (fDec (63 : Int32)))] [(.ref a3), (.ref a2), (.int (63 : Int32)), (.int (fDec (63 : Int32)))])) rfl (by rw [hml]; rfl) (argsL := [(.int (63 : Int32)), (.ref a2), (.ref a3)]) (rest := [(.int (fDec (63 : Int32)))]) (lenOf pda0c35829 rfl) rfl (by show 2 * 0 + _ ≤ _; exact Nat.le_of_eq rfl) (hb hby at_98) (fun _ _ => ⟨rfl, e58, (by decide : 4 + 0 ≤ _), (by decide : 72 + 0 ≤ _)⟩)
      dsimp only [Pt.U, Pt.locs, Pt.cells, Pt.slots] at X59 l59 y59 z59 st59 hQ59
      subst l59 y59 z59
      obtain ⟨rfl, N59q, e59⟩ := hQ59
      have N59 := Fr.app N58 N59q
      refine Go.st (fun _ k => st59 _ k) ?_
      show Go p e below _ (T59.setTop (mkF m 101 #[.val (.int p0), .val (.int p1), .val (.ref a2), .val (.ref a3), .val (.int (3 : Int32)), .val (.int (64 : Int32)), .val (.int (1 : Int32)), .val (.int v56), .val (.int (63 : Int32)), .val (.int (fDec (63 : Int32)))] [(.int (fExp (63 : Int32))), (.int (fDec (63 : Int32)))]))
      refine Go.st (fun _ k => XS.icmpNo X59.here hx rfl (hb hby at_101) rfl (teq (own_same (63 : Int32))).2 k) ?_
      show Go p e below _ (T59.setTop (mkF m 104 #[.val (.int p0), .val (.int p1), .val (.ref a2), .val (.ref a3), .val (.int (3 : Int32)), .val (.int (64 : Int32)), .val (.int (1 : Int32)), .val (.int v56), .val (.int (63 : Int32)), .val (.int (fDec (63 : Int32)))] []))
      refine Go.st (fun _ k => XS.iconst X59.here hx rfl (hb hby at_104) k) ?_
      refine Go.st (fun _ k => XS.goto X59.here hx rfl (pc0 := 105) (pc' := 109) rfl (hb hby at_105) (by decide) (by decide) k) ?_
      show Go p e below _ (T59.setTop (mkF m 109 #[.val (.int p0), .val (.int p1), .val (.ref a2), .val (.ref a3), .val (.int (3 : Int32)), .val (.int (64 : Int32)), .val (.int (1 : Int32)), .val (.int v56), .val (.int (63 : Int32)), .val (.int (fDec (63 : Int32)))] [(.int (1 : Int32))]))
      obtain ⟨fs, hr, hrun, hended, -, hW, hB, hsame⟩ := X59.leaveW (v := some (.int (1 : Int32))) hS3 (by rw [e59]; exact hk3) (fun h => by rw [Bd.returns] at h; cases h)
      refine ⟨_, _, retN X59 hx (t := .boolean) Bd.returns (by simp) (hb hby at_109) hr, hrun, hended, _, _, rfl, ?_, ⟨_, rfl⟩, hW, hB, hsame.mono (by decide) (by decide)⟩
      show Q_rm0 Z p0 p1 cs vf h0 n0 _ T59.heap _
      rw [e59]
      exact ⟨rfl, N59⟩
    · show Go p e below _ (T54.setTop (mkF m 50 #[.val (.int p0), .val (.int p1), .val (.ref a2), .val (.ref a3), .val (.int (3 : Int32)), .val (.int (64 : Int32)), .val (.int (1 : Int32)), .val (.int v56), .unset, .unset] [(.int v56)]))
      refine Go.st (fun _ k => XS.ifYes X54.here hx rfl (pc0 := 50) (pc' := 62) rfl (hb hby at_50) rfl ((if0 _ _).trans (feq hc57).2) (by decide) (by decide) k) ?_
      show Go p e below _ (T54.setTop (mkF m 62 #[.val (.int p0), .val (.int p1), .val (.ref a2), .val (.ref a3), .val (.int (3 : Int32)), .val (.int (64 : Int32)), .val (.int (1 : Int32)), .val (.int v56), .unset, .unset] []))
      refine Go.st (fun _ k => XS.iload X54.here hx rfl (hb hby at_62) rfl k) ?_
      refine Go.st (fun _ k => XS.iconst X54.here hx rfl (hb hby at_64) k) ?_
      by_cases hc60 : v56 = (1 : Int32)
      · show Go p e below _ (T54.setTop (mkF m 65 #[.val (.int p0), .val (.int p1), .val (.ref a2), .val (.ref a3), .val (.int (3 : Int32)), .val (.int (64 : Int32)), .val (.int (1 : Int32)), .val (.int v56), .unset, .unset] [(.int (1 : Int32)), (.int v56)]))
        refine Go.st (fun _ k => XS.icmpNo X54.here hx rfl (hb hby at_65) rfl (teq hc60).2 k) ?_
        show Go p e below _ (T54.setTop (mkF m 68 #[.val (.int p0), .val (.int p1), .val (.ref a2), .val (.ref a3), .val (.int (3 : Int32)), .val (.int (64 : Int32)), .val (.int (1 : Int32)), .val (.int v56), .unset, .unset] []))
        refine Go.st (fun _ k => XS.iload X54.here hx rfl (hb hby at_68) rfl k) ?_
        refine Go.st (fun _ k => XS.iconst X54.here hx rfl (hb hby at_70) k) ?_
        refine Go.st (fun _ k => XS.iadd X54.here hx rfl (hb hby at_71) rfl k) ?_
        refine Go.st (fun _ k => XS.istore X54.here hx rfl (hb hby at_72) rfl (l' := #[.val (.int p0), .val (.int p1), .val (.ref a2), .val (.ref a3), .val (.int (3 : Int32)), .val (.int (64 : Int32)), .val (.int (1 : Int32)), .val (.int v56), .val (.int (65 : Int32)), .unset]) rfl k) ?_
        show Go p e below _ (T54.setTop (mkF m 74 #[.val (.int p0), .val (.int p1), .val (.ref a2), .val (.ref a3), .val (.int (3 : Int32)), .val (.int (64 : Int32)), .val (.int (1 : Int32)), .val (.int v56), .val (.int (65 : Int32)), .unset] []))
        refine Go.st (fun _ k => XS.goto X54.here hx rfl (pc0 := 74) (pc' := 80) rfl (hb hby at_74) (by decide) (by decide) k) ?_
        show Go p e below _ (T54.setTop (mkF m 80 #[.val (.int p0), .val (.int p1), .val (.ref a2), .val (.ref a3), .val (.int (3 : Int32)), .val (.int (64 : Int32)), .val (.int (1 : Int32)), .val (.int v56), .val (.int (65 : Int32)), .unset] []))
        refine Go.st (fun _ k => XS.iload X54.here hx rfl (hb hby at_80) rfl k) ?_
        obtain ⟨_, _, ⟨T61, L61, k61, n61⟩, -, X61, ⟨Lc61, hQ61, l61, y61, z61⟩, st61⟩ := Jvm.LawKit.callS X54 hx (y := (⟨"com/example/tokenloom/tokenloom/typespec/StringValue", "decodeEscape", "(I)I"⟩ : MethodName)) hown (mvT hZ (hw _ (List.mem_of_getElem? (i := 34) rfl))) (mvT hZ (hw _ (List.mem_of_getElem? (i := 35) rfl))) (mvT hZ (hw _ (List.mem_of_getElem? (i := 36) rfl))) (mvT hZ (hw _ (List.mem_of_getElem? (i := 37) rfl))) (by decide) (backOf (W := 0) (rm6 l Z aZ hw [] (65 : Int32) h3 n0 ) hZ (hw _ (List.mem_of_getElem? (i := 37) rfl)) (hw _ (List.mem_of_getElem? (i := 36) rfl)) (by decide) (by decide)) (g := (mkF m 82 #[.val (.int p0), .val (.int p1), .val (.ref a2), .val (.ref a3), .val (.int (3 : Int32)), .val (.int (64 : Int32)), .val (.int (1 : Int32)), .val (.int v56), .val (.int (65 : Int32)), .unset] [(.int (65 : Int32))])) rfl (by rw [hml]; rfl) (argsL := [(.int (65 : Int32))]) (rest := []) (lenOf pd56f530d rfl) rfl (by show 2 * 0 + _ ≤ _; exact Nat.le_of_eq rfl) (hb hby at_82) (fun _ _ => ⟨rfl, e54, (by decide : 4 + 0 ≤ _), (by decide : 72 + 0 ≤ _)⟩)
        dsimp only [Pt.U, Pt.locs, Pt.cells, Pt.slots] at X61 l61 y61 z61 st61 hQ61
        subst l61 y61 z61
        obtain ⟨rfl, N61q, e61⟩ := hQ61
        have N61 := Fr.app N54 N61q
        refine Go.st (fun _ k => st61 _ k) ?_
        show Go p e below _ (T61.setTop (mkF m 85 #[.val (.int p0), .val (.int p1), .val (.ref a2), .val (.ref a3), .val (.int (3 : Int32)), .val (.int (64 : Int32)), .val (.int (1 : Int32)), .val (.int v56), .val (.int (65 : Int32)), .unset] [(.int (fDec (65 : Int32)))]))
        refine Go.st (fun _ k => XS.istore X61.here hx rfl (hb hby at_85) rfl (l' := #[.val (.int p0), .val (.int p1), .val (.ref a2), .val (.ref a3), .val (.int (3 : Int32)), .val (.int (64 : Int32)), .val (.int (1 : Int32)), .val (.int v56), .val (.int (65 : Int32)), .val (.int (fDec (65 : Int32)))]) rfl k) ?_
        show Go p e below _ (T61.setTop (mkF m 87 #[.val (.int p0), .val (.int p1), .val (.ref a2), .val (.ref a3), .val (.int (3 : Int32)), .val (.int (64 : Int32)), .val (.int (1 : Int32)), .val (.int v56), .val (.int (65 : Int32)), .val (.int (fDec (65 : Int32)))] []))
        refine Go.st (fun _ k => XS.iload X61.here hx rfl (hb hby at_87) rfl k) ?_
        refine Go.st (fun _ k => XS.ifNo X61.here hx rfl (hb hby at_89) rfl ((if0 _ _).trans (feq (by decide : ¬ ((1 : Int32) = (0 : Int32)))).1) k) ?_
        show Go p e below _ (T61.setTop (mkF m 92 #[.val (.int p0), .val (.int p1), .val (.ref a2), .val (.ref a3), .val (.int (3 : Int32)), .val (.int (64 : Int32)), .val (.int (1 : Int32)), .val (.int v56), .val (.int (65 : Int32)), .val (.int (fDec (65 : Int32)))] []))
        refine Go.st (fun _ k => XS.iload X61.here hx rfl (hb hby at_92) rfl k) ?_
        refine Go.st (fun _ k => XS.iload X61.here hx rfl (hb hby at_94) rfl k) ?_
        refine Go.st (fun _ k => XS.aloadN X61.here hx rfl (hb hby at_96) rfl rfl k) ?_
        refine Go.st (fun _ k => XS.aloadN X61.here hx rfl (hb hby at_97) rfl rfl k) ?_
        obtain ⟨_, _, ⟨T62, L62, k62, n62⟩, -, X62, ⟨Lc62, hQ62, l62, y62, z62⟩, st62⟩ := Jvm.LawKit.callS X61 hx (y := (⟨"com/example/tokenloom/tokenloom/typespec/StringValueDecodeEscapePinLaw", "expected", "(ILjava/lang/String;Ljava/lang/String;)I"⟩ : MethodName)) hown (mvT hZ (hw _ (List.mem_of_getElem? (i := 38) rfl))) (mvT hZ (hw _ (List.mem_of_getElem? (i := 39) rfl))) (mvT hZ (hw _ (List.mem_of_getElem? (i := 40) rfl))) (mvT hZ (hw _ (List.mem_of_getElem? (i := 41) rfl))) (by decide) (backOf (W := 1) (rmExp l Z aZ hw [] (65 : Int32) a2 a3 b2 kc2 b3 kc3 cs vf h3 n0 hcs hvf F3_S_COMPACT_STRINGS F3_S_SIOOBE_FORMATTER F3_E_a2 F3_F_a2_coder F3_F_a2_value F3_V_b2 Es3 Fc3 Fv3 Va3) hZ (hw _ (List.mem_of_getElem? (i := 41) rfl)) (hw _ (List.mem_of_getElem? (i := 40) rfl)) (by decide) (by decide)) (g := (mkF m 98 #[.val (.int p0), .val (.int p1), .val (.ref a2), .val (.ref a3), .val (.int (3 : Int32)), .val (.int (64 : Int32)), .val (.int (1 : Int32)), .val (.int v56), .val (.int (65 : Int32)), .val (.int (fDec (65 : Int32)))] [(.ref a3), (.ref a2), (.int (65 : Int32)), (.int (fDec (65 : Int32)))])) rfl (by rw [hml]; rfl) (argsL := [(.int (65 : Int32)), (.ref a2), (.ref a3)]) (rest := [(.int (fDec (65 : Int32)))]) (lenOf pda0c35829 rfl) rfl (by show 2 * 0 + _ ≤ _; exact Nat.le_of_eq rfl) (hb hby at_98) (fun _ _ => ⟨rfl, e61, (by decide : 4 + 0 ≤ _), (by decide : 72 + 0 ≤ _)⟩)
        dsimp only [Pt.U, Pt.locs, Pt.cells, Pt.slots] at X62 l62 y62 z62 st62 hQ62
        subst l62 y62 z62
        obtain ⟨rfl, N62q, e62⟩ := hQ62
        have N62 := Fr.app N61 N62q
        refine Go.st (fun _ k => st62 _ k) ?_
        show Go p e below _ (T62.setTop (mkF m 101 #[.val (.int p0), .val (.int p1), .val (.ref a2), .val (.ref a3), .val (.int (3 : Int32)), .val (.int (64 : Int32)), .val (.int (1 : Int32)), .val (.int v56), .val (.int (65 : Int32)), .val (.int (fDec (65 : Int32)))] [(.int (fExp (65 : Int32))), (.int (fDec (65 : Int32)))]))
        refine Go.st (fun _ k => XS.icmpNo X62.here hx rfl (hb hby at_101) rfl (teq (own_same (65 : Int32))).2 k) ?_
        show Go p e below _ (T62.setTop (mkF m 104 #[.val (.int p0), .val (.int p1), .val (.ref a2), .val (.ref a3), .val (.int (3 : Int32)), .val (.int (64 : Int32)), .val (.int (1 : Int32)), .val (.int v56), .val (.int (65 : Int32)), .val (.int (fDec (65 : Int32)))] []))
        refine Go.st (fun _ k => XS.iconst X62.here hx rfl (hb hby at_104) k) ?_
        refine Go.st (fun _ k => XS.goto X62.here hx rfl (pc0 := 105) (pc' := 109) rfl (hb hby at_105) (by decide) (by decide) k) ?_
        show Go p e below _ (T62.setTop (mkF m 109 #[.val (.int p0), .val (.int p1), .val (.ref a2), .val (.ref a3), .val (.int (3 : Int32)), .val (.int (64 : Int32)), .val (.int (1 : Int32)), .val (.int v56), .val (.int (65 : Int32)), .val (.int (fDec (65 : Int32)))] [(.int (1 : Int32))]))
        obtain ⟨fs, hr, hrun, hended, -, hW, hB, hsame⟩ := X62.leaveW (v := some (.int (1 : Int32))) hS3 (by rw [e62]; exact hk3) (fun h => by rw [Bd.returns] at h; cases h)
        refine ⟨_, _, retN X62 hx (t := .boolean) Bd.returns (by simp) (hb hby at_109) hr, hrun, hended, _, _, rfl, ?_, ⟨_, rfl⟩, hW, hB, hsame.mono (by decide) (by decide)⟩
        show Q_rm0 Z p0 p1 cs vf h0 n0 _ T62.heap _
        rw [e62]
        exact ⟨rfl, N62⟩
      · show Go p e below _ (T54.setTop (mkF m 65 #[.val (.int p0), .val (.int p1), .val (.ref a2), .val (.ref a3), .val (.int (3 : Int32)), .val (.int (64 : Int32)), .val (.int (1 : Int32)), .val (.int v56), .unset, .unset] [(.int (1 : Int32)), (.int v56)]))
        refine Go.st (fun _ k => XS.icmpYes X54.here hx rfl (pc0 := 65) (pc' := 77) rfl (hb hby at_65) rfl (feq hc60).2 (by decide) (by decide) k) ?_
        show Go p e below _ (T54.setTop (mkF m 77 #[.val (.int p0), .val (.int p1), .val (.ref a2), .val (.ref a3), .val (.int (3 : Int32)), .val (.int (64 : Int32)), .val (.int (1 : Int32)), .val (.int v56), .unset, .unset] []))
        refine Go.st (fun _ k => XS.iloadN X54.here hx rfl (hb hby at_77) rfl k) ?_
        refine Go.st (fun _ k => XS.istore X54.here hx rfl (hb hby at_78) rfl (l' := #[.val (.int p0), .val (.int p1), .val (.ref a2), .val (.ref a3), .val (.int (3 : Int32)), .val (.int (64 : Int32)), .val (.int (1 : Int32)), .val (.int v56), .val (.int p0), .unset]) rfl k) ?_
        show Go p e below _ (T54.setTop (mkF m 80 #[.val (.int p0), .val (.int p1), .val (.ref a2), .val (.ref a3), .val (.int (3 : Int32)), .val (.int (64 : Int32)), .val (.int (1 : Int32)), .val (.int v56), .val (.int p0), .unset] []))
        refine Go.st (fun _ k => XS.iload X54.here hx rfl (hb hby at_80) rfl k) ?_
        obtain ⟨_, _, ⟨T63, L63, k63, n63⟩, -, X63, ⟨Lc63, hQ63, l63, y63, z63⟩, st63⟩ := Jvm.LawKit.callS X54 hx (y := (⟨"com/example/tokenloom/tokenloom/typespec/StringValue", "decodeEscape", "(I)I"⟩ : MethodName)) hown (mvT hZ (hw _ (List.mem_of_getElem? (i := 34) rfl))) (mvT hZ (hw _ (List.mem_of_getElem? (i := 35) rfl))) (mvT hZ (hw _ (List.mem_of_getElem? (i := 36) rfl))) (mvT hZ (hw _ (List.mem_of_getElem? (i := 37) rfl))) (by decide) (backOf (W := 0) (rm6 l Z aZ hw [] p0 h3 n0 ) hZ (hw _ (List.mem_of_getElem? (i := 37) rfl)) (hw _ (List.mem_of_getElem? (i := 36) rfl)) (by decide) (by decide)) (g := (mkF m 82 #[.val (.int p0), .val (.int p1), .val (.ref a2), .val (.ref a3), .val (.int (3 : Int32)), .val (.int (64 : Int32)), .val (.int (1 : Int32)), .val (.int v56), .val (.int p0), .unset] [(.int p0)])) rfl (by rw [hml]; rfl) (argsL := [(.int p0)]) (rest := []) (lenOf pd56f530d rfl) rfl (by show 2 * 0 + _ ≤ _; exact Nat.le_of_eq rfl) (hb hby at_82) (fun _ _ => ⟨rfl, e54, (by decide : 4 + 0 ≤ _), (by decide : 72 + 0 ≤ _)⟩)
        dsimp only [Pt.U, Pt.locs, Pt.cells, Pt.slots] at X63 l63 y63 z63 st63 hQ63
        subst l63 y63 z63
        obtain ⟨rfl, N63q, e63⟩ := hQ63
        have N63 := Fr.app N54 N63q
        refine Go.st (fun _ k => st63 _ k) ?_
        show Go p e below _ (T63.setTop (mkF m 85 #[.val (.int p0), .val (.int p1), .val (.ref a2), .val (.ref a3), .val (.int (3 : Int32)), .val (.int (64 : Int32)), .val (.int (1 : Int32)), .val (.int v56), .val (.int p0), .unset] [(.int (fDec p0))]))
        refine Go.st (fun _ k => XS.istore X63.here hx rfl (hb hby at_85) rfl (l' := #[.val (.int p0), .val (.int p1), .val (.ref a2), .val (.ref a3), .val (.int (3 : Int32)), .val (.int (64 : Int32)), .val (.int (1 : Int32)), .val (.int v56), .val (.int p0), .val (.int (fDec p0))]) rfl k) ?_
        show Go p e below _ (T63.setTop (mkF m 87 #[.val (.int p0), .val (.int p1), .val (.ref a2), .val (.ref a3), .val (.int (3 : Int32)), .val (.int (64 : Int32)), .val (.int (1 : Int32)), .val (.int v56), .val (.int p0), .val (.int (fDec p0))] []))
        refine Go.st (fun _ k => XS.iload X63.here hx rfl (hb hby at_87) rfl k) ?_
        refine Go.st (fun _ k => XS.ifNo X63.here hx rfl (hb hby at_89) rfl ((if0 _ _).trans (feq (by decide : ¬ ((1 : Int32) = (0 : Int32)))).1) k) ?_
        show Go p e below _ (T63.setTop (mkF m 92 #[.val (.int p0), .val (.int p1), .val (.ref a2), .val (.ref a3), .val (.int (3 : Int32)), .val (.int (64 : Int32)), .val (.int (1 : Int32)), .val (.int v56), .val (.int p0), .val (.int (fDec p0))] []))
        refine Go.st (fun _ k => XS.iload X63.here hx rfl (hb hby at_92) rfl k) ?_
        refine Go.st (fun _ k => XS.iload X63.here hx rfl (hb hby at_94) rfl k) ?_
        refine Go.st (fun _ k => XS.aloadN X63.here hx rfl (hb hby at_96) rfl rfl k) ?_
        refine Go.st (fun _ k => XS.aloadN X63.here hx rfl (hb hby at_97) rfl rfl k) ?_
        obtain ⟨_, _, ⟨T64, L64, k64, n64⟩, -, X64, ⟨Lc64, hQ64, l64, y64, z64⟩, st64⟩ := Jvm.LawKit.callS X63 hx (y := (⟨"com/example/tokenloom/tokenloom/typespec/StringValueDecodeEscapePinLaw", "expected", "(ILjava/lang/String;Ljava/lang/String;)I"⟩ : MethodName)) hown (mvT hZ (hw _ (List.mem_of_getElem? (i := 38) rfl))) (mvT hZ (hw _ (List.mem_of_getElem? (i := 39) rfl))) (mvT hZ (hw _ (List.mem_of_getElem? (i := 40) rfl))) (mvT hZ (hw _ (List.mem_of_getElem? (i := 41) rfl))) (by decide) (backOf (W := 1) (rmExp l Z aZ hw [] p0 a2 a3 b2 kc2 b3 kc3 cs vf h3 n0 hcs hvf F3_S_COMPACT_STRINGS F3_S_SIOOBE_FORMATTER F3_E_a2 F3_F_a2_coder F3_F_a2_value F3_V_b2 Es3 Fc3 Fv3 Va3) hZ (hw _ (List.mem_of_getElem? (i := 41) rfl)) (hw _ (List.mem_of_getElem? (i := 40) rfl)) (by decide) (by decide)) (g := (mkF m 98 #[.val (.int p0), .val (.int p1), .val (.ref a2), .val (.ref a3), .val (.int (3 : Int32)), .val (.int (64 : Int32)), .val (.int (1 : Int32)), .val (.int v56), .val (.int p0), .val (.int (fDec p0))] [(.ref a3), (.ref a2), (.int p0), (.int (fDec p0))])) rfl (by rw [hml]; rfl) (argsL := [(.int p0), (.ref a2), (.ref a3)]) (rest := [(.int (fDec p0))]) (lenOf pda0c35829 rfl) rfl (by show 2 * 0 + _ ≤ _; exact Nat.le_of_eq rfl) (hb hby at_98) (fun _ _ => ⟨rfl, e63, (by decide : 4 + 0 ≤ _), (by decide : 72 + 0 ≤ _)⟩)
        dsimp only [Pt.U, Pt.locs, Pt.cells, Pt.slots] at X64 l64 y64 z64 st64 hQ64
        subst l64 y64 z64
        obtain ⟨rfl, N64q, e64⟩ := hQ64
        have N64 := Fr.app N63 N64q
        refine Go.st (fun _ k => st64 _ k) ?_
        show Go p e below _ (T64.setTop (mkF m 101 #[.val (.int p0), .val (.int p1), .val (.ref a2), .val (.ref a3), .val (.int (3 : Int32)), .val (.int (64 : Int32)), .val (.int (1 : Int32)), .val (.int v56), .val (.int p0), .val (.int (fDec p0))] [(.int (fExp p0)), (.int (fDec p0))]))
        refine Go.st (fun _ k => XS.icmpNo X64.here hx rfl (hb hby at_101) rfl (teq (own_same p0)).2 k) ?_
        show Go p e below _ (T64.setTop (mkF m 104 #[.val (.int p0), .val (.int p1), .val (.ref a2), .val (.ref a3), .val (.int (3 : Int32)), .val (.int (64 : Int32)), .val (.int (1 : Int32)), .val (.int v56), .val (.int p0), .val (.int (fDec p0))] []))
        refine Go.st (fun _ k => XS.iconst X64.here hx rfl (hb hby at_104) k) ?_
        refine Go.st (fun _ k => XS.goto X64.here hx rfl (pc0 := 105) (pc' := 109) rfl (hb hby at_105) (by decide) (by decide) k) ?_
        show Go p e below _ (T64.setTop (mkF m 109 #[.val (.int p0), .val (.int p1), .val (.ref a2), .val (.ref a3), .val (.int (3 : Int32)), .val (.int (64 : Int32)), .val (.int (1 : Int32)), .val (.int v56), .val (.int p0), .val (.int (fDec p0))] [(.int (1 : Int32))]))
        obtain ⟨fs, hr, hrun, hended, -, hW, hB, hsame⟩ := X64.leaveW (v := some (.int (1 : Int32))) hS3 (by rw [e64]; exact hk3) (fun h => by rw [Bd.returns] at h; cases h)
        refine ⟨_, _, retN X64 hx (t := .boolean) Bd.returns (by simp) (hb hby at_109) hr, hrun, hended, _, _, rfl, ?_, ⟨_, rfl⟩, hW, hB, hsame.mono (by decide) (by decide)⟩
        show Q_rm0 Z p0 p1 cs vf h0 n0 _ T64.heap _
        rw [e64]
        exact ⟨rfl, N64⟩
  · rw [hr4]
    show Go p e below _ (T3.setTop (mkF m 10 #[.val (.int p0), .val (.int p1), .val (.ref a2), .val (.ref a3), .unset, .unset, .unset, .unset, .unset, .unset] [(.int (4 : Int32))]))
    refine Go.st (fun _ k => XS.istore X3.here hx rfl (hb hby at_10) rfl (l' := #[.val (.int p0), .val (.int p1), .val (.ref a2), .val (.ref a3), .val (.int (4 : Int32)), .unset, .unset, .unset, .unset, .unset]) rfl k) ?_
    show Go p e below _ (T3.setTop (mkF m 12 #[.val (.int p0), .val (.int p1), .val (.ref a2), .val (.ref a3), .val (.int (4 : Int32)), .unset, .unset, .unset, .unset, .unset] []))
    refine Go.st (fun _ k => XS.aloadN X3.here hx rfl (hb hby at_12) rfl rfl k) ?_
    refine Go.st (fun _ k => XS.iload X3.here hx rfl (hb hby at_13) rfl k) ?_
    obtain ⟨cq65, kq65, q65a, q65b, q65c⟩ := isOf hZ e3 F3_E_a2
    obtain ⟨_, _, ⟨T65, L65, k65, n65⟩, -, X65, ⟨Lc65, hQ65, l65, y65, z65⟩, st65⟩ := X3.virtualBack hx (y := (⟨"java/lang/String", "charAt", "(I)C"⟩ : MethodName)) (z := (⟨"java/lang/String", "charAt", "(I)C"⟩ : MethodName)) hown (mvT hZ (hw _ (List.mem_of_getElem? (i := 9) rfl))) (mvT hZ (hw _ (List.mem_of_getElem? (i := 10) rfl))) (notFace_of_selects (args := #[]) (mvT hZ (hw _ (List.mem_of_getElem? (i := 12) rfl)))) (mvT hZ (hw _ (List.mem_of_getElem? (i := 12) rfl))) (mvT hZ (hw _ (List.mem_of_getElem? (i := 11) rfl))) (by decide) (backOf (W := 0) (rmChar l Z aZ hw [] (96 : Int32) a2 (4 : Int32) b2 (0 : Int32) cs vf kc2 (8 : Int32) [(.int (34 : Int32)), (.int (92 : Int32)), (.int (36 : Int32)), (.int (64 : Int32)), (.int (96 : Int32)), (.int (110 : Int32)), (.int (114 : Int32)), (.int (116 : Int32))] h3 n0 hcs rfl hvf ⟨by decide, by decide⟩ rfl F3_F_a2_value F3_F_a2_coder F3_E_a2 F3_S_COMPACT_STRINGS F3_S_SIOOBE_FORMATTER F3_V_b2) hZ (hw _ (List.mem_of_getElem? (i := 13) rfl)) (hw _ (List.mem_of_getElem? (i := 1) rfl)) (by decide) (by decide)) q65a q65c (g := (mkF m 15 #[.val (.int p0), .val (.int p1), .val (.ref a2), .val (.ref a3), .val (.int (4 : Int32)), .unset, .unset, .unset, .unset, .unset] [(.int (4 : Int32)), (.ref a2)])) rfl (by rw [hml]; rfl) (Steps.refl _) (argsL := [(.int (4 : Int32))]) (rest := []) (lenOf pd56f5307 rfl) rfl (by show 2 * 0 + _ ≤ _; exact Nat.le_of_eq rfl) (hb hby at_15) (fun _ _ => ⟨rfl, e3, (by decide : 4 + 0 ≤ _), (by decide : 72 + 0 ≤ _)⟩)
    dsimp only [Pt.U, Pt.locs, Pt.cells, Pt.slots] at X65 l65 y65 z65 st65 hQ65
    subst l65 y65 z65
    obtain ⟨rfl, N65q, e65⟩ := hQ65
    have N65 := Fr.app N0 N65q
    refine Go.st (fun _ k => st65.trans k) ?_
    show Go p e below _ (T65.setTop (mkF m 18 #[.val (.int p0), .val (.int p1), .val (.ref a2), .val (.ref a3), .val (.int (4 : Int32)), .unset, .unset, .unset, .unset, .unset] [(.int (jChar (96 : Int32)))]))
    have hs66 : (jChar (96 : Int32)) = (96 : Int32) := (by decide +kernel)
    rw [hs66]
    show Go p e below _ (T65.setTop (mkF m 18 #[.val (.int p0), .val (.int p1), .val (.ref a2), .val (.ref a3), .val (.int (4 : Int32)), .unset, .unset, .unset, .unset, .unset] [(.int (96 : Int32))]))
    refine Go.st (fun _ k => XS.istore X65.here hx rfl (hb hby at_18) rfl (l' := #[.val (.int p0), .val (.int p1), .val (.ref a2), .val (.ref a3), .val (.int (4 : Int32)), .val (.int (96 : Int32)), .unset, .unset, .unset, .unset]) rfl k) ?_
    show Go p e below _ (T65.setTop (mkF m 20 #[.val (.int p0), .val (.int p1), .val (.ref a2), .val (.ref a3), .val (.int (4 : Int32)), .val (.int (96 : Int32)), .unset, .unset, .unset, .unset] []))
    refine Go.st (fun _ k => XS.iload X65.here hx rfl (hb hby at_20) rfl k) ?_
    obtain ⟨_, _, ⟨T67, L67, k67, n67⟩, -, X67, ⟨Lc67, hQ67, l67, y67, z67⟩, st67⟩ := Jvm.LawKit.callS X65 hx (y := (⟨"com/example/tokenloom/tokenloom/typespec/StringValue", "decodeEscape", "(I)I"⟩ : MethodName)) hown (mvT hZ (hw _ (List.mem_of_getElem? (i := 34) rfl))) (mvT hZ (hw _ (List.mem_of_getElem? (i := 35) rfl))) (mvT hZ (hw _ (List.mem_of_getElem? (i := 36) rfl))) (mvT hZ (hw _ (List.mem_of_getElem? (i := 37) rfl))) (by decide) (backOf (W := 0) (rm6 l Z aZ hw [] (96 : Int32) h3 n0 ) hZ (hw _ (List.mem_of_getElem? (i := 37) rfl)) (hw _ (List.mem_of_getElem? (i := 36) rfl)) (by decide) (by decide)) (g := (mkF m 22 #[.val (.int p0), .val (.int p1), .val (.ref a2), .val (.ref a3), .val (.int (4 : Int32)), .val (.int (96 : Int32)), .unset, .unset, .unset, .unset] [(.int (96 : Int32))])) rfl (by rw [hml]; rfl) (argsL := [(.int (96 : Int32))]) (rest := []) (lenOf pd56f530d rfl) rfl (by show 2 * 0 + _ ≤ _; exact Nat.le_of_eq rfl) (hb hby at_22) (fun _ _ => ⟨rfl, e65, (by decide : 4 + 0 ≤ _), (by decide : 72 + 0 ≤ _)⟩)
    dsimp only [Pt.U, Pt.locs, Pt.cells, Pt.slots] at X67 l67 y67 z67 st67 hQ67
    subst l67 y67 z67
    obtain ⟨rfl, N67q, e67⟩ := hQ67
    have N67 := Fr.app N65 N67q
    refine Go.st (fun _ k => st67 _ k) ?_
    show Go p e below _ (T67.setTop (mkF m 25 #[.val (.int p0), .val (.int p1), .val (.ref a2), .val (.ref a3), .val (.int (4 : Int32)), .val (.int (96 : Int32)), .unset, .unset, .unset, .unset] [(.int (fDec (96 : Int32)))]))
    have hs68 : (fDec (96 : Int32)) = (96 : Int32) := (by decide +kernel)
    rw [hs68]
    show Go p e below _ (T67.setTop (mkF m 25 #[.val (.int p0), .val (.int p1), .val (.ref a2), .val (.ref a3), .val (.int (4 : Int32)), .val (.int (96 : Int32)), .unset, .unset, .unset, .unset] [(.int (96 : Int32))]))
    refine Go.st (fun _ k => XS.aloadN X67.here hx rfl (hb hby at_25) rfl rfl k) ?_
    refine Go.st (fun _ k => XS.iload X67.here hx rfl (hb hby at_26) rfl k) ?_
    obtain ⟨cq69, kq69, q69a, q69b, q69c⟩ := isOf hZ e67 Es3
    obtain ⟨_, _, ⟨T69, L69, k69, n69⟩, -, X69, ⟨Lc69, hQ69, l69, y69, z69⟩, st69⟩ := X67.virtualBack hx (y := (⟨"java/lang/String", "charAt", "(I)C"⟩ : MethodName)) (z := (⟨"java/lang/String", "charAt", "(I)C"⟩ : MethodName)) hown (mvT hZ (hw _ (List.mem_of_getElem? (i := 9) rfl))) (mvT hZ (hw _ (List.mem_of_getElem? (i := 10) rfl))) (notFace_of_selects (args := #[]) (mvT hZ (hw _ (List.mem_of_getElem? (i := 12) rfl)))) (mvT hZ (hw _ (List.mem_of_getElem? (i := 12) rfl))) (mvT hZ (hw _ (List.mem_of_getElem? (i := 11) rfl))) (by decide) (backOf (W := 1) (rmChar l Z aZ hw [] (96 : Int32) a3 (4 : Int32) b3 (0 : Int32) cs vf kc3 (8 : Int32) [(.int (34 : Int32)), (.int (92 : Int32)), (.int (36 : Int32)), (.int (64 : Int32)), (.int (96 : Int32)), (.int (10 : Int32)), (.int (13 : Int32)), (.int (9 : Int32))] h3 n0 hcs rfl hvf ⟨by decide, by decide⟩ rfl Fv3 Fc3 Es3 F3_S_COMPACT_STRINGS F3_S_SIOOBE_FORMATTER Va3) hZ (hw _ (List.mem_of_getElem? (i := 13) rfl)) (hw _ (List.mem_of_getElem? (i := 1) rfl)) (by decide) (by decide)) q69a q69c (g := (mkF m 28 #[.val (.int p0), .val (.int p1), .val (.ref a2), .val (.ref a3), .val (.int (4 : Int32)), .val (.int (96 : Int32)), .unset, .unset, .unset, .unset] [(.int (4 : Int32)), (.ref a3), (.int (96 : Int32))])) rfl (by rw [hml]; rfl) (Steps.refl _) (argsL := [(.int (4 : Int32))]) (rest := [(.int (96 : Int32))]) (lenOf pd56f5307 rfl) rfl (by show 2 * 0 + _ ≤ _; exact Nat.le_of_eq rfl) (hb hby at_28) (fun _ _ => ⟨rfl, e67, (by decide : 4 + 0 ≤ _), (by decide : 72 + 0 ≤ _)⟩)
    dsimp only [Pt.U, Pt.locs, Pt.cells, Pt.slots] at X69 l69 y69 z69 st69 hQ69
    subst l69 y69 z69
    obtain ⟨rfl, N69q, e69⟩ := hQ69
    have N69 := Fr.app N67 N69q
    refine Go.st (fun _ k => st69.trans k) ?_
    show Go p e below _ (T69.setTop (mkF m 31 #[.val (.int p0), .val (.int p1), .val (.ref a2), .val (.ref a3), .val (.int (4 : Int32)), .val (.int (96 : Int32)), .unset, .unset, .unset, .unset] [(.int (jChar (96 : Int32))), (.int (96 : Int32))]))
    have hs70 : (jChar (96 : Int32)) = (96 : Int32) := (by decide +kernel)
    rw [hs70]
    show Go p e below _ (T69.setTop (mkF m 31 #[.val (.int p0), .val (.int p1), .val (.ref a2), .val (.ref a3), .val (.int (4 : Int32)), .val (.int (96 : Int32)), .unset, .unset, .unset, .unset] [(.int (96 : Int32)), (.int (96 : Int32))]))
    refine Go.st (fun _ k => XS.icmpNo X69.here hx rfl (hb hby at_31) rfl (teq (by decide : ((96 : Int32) = (96 : Int32)))).2 k) ?_
    show Go p e below _ (T69.setTop (mkF m 34 #[.val (.int p0), .val (.int p1), .val (.ref a2), .val (.ref a3), .val (.int (4 : Int32)), .val (.int (96 : Int32)), .unset, .unset, .unset, .unset] []))
    refine Go.st (fun _ k => XS.iconst X69.here hx rfl (hb hby at_34) k) ?_
    refine Go.st (fun _ k => XS.goto X69.here hx rfl (pc0 := 35) (pc' := 39) rfl (hb hby at_35) (by decide) (by decide) k) ?_
    show Go p e below _ (T69.setTop (mkF m 39 #[.val (.int p0), .val (.int p1), .val (.ref a2), .val (.ref a3), .val (.int (4 : Int32)), .val (.int (96 : Int32)), .unset, .unset, .unset, .unset] [(.int (1 : Int32))]))
    refine Go.st (fun _ k => XS.istore X69.here hx rfl (hb hby at_39) rfl (l' := #[.val (.int p0), .val (.int p1), .val (.ref a2), .val (.ref a3), .val (.int (4 : Int32)), .val (.int (96 : Int32)), .val (.int (1 : Int32)), .unset, .unset, .unset]) rfl k) ?_
    show Go p e below _ (T69.setTop (mkF m 41 #[.val (.int p0), .val (.int p1), .val (.ref a2), .val (.ref a3), .val (.int (4 : Int32)), .val (.int (96 : Int32)), .val (.int (1 : Int32)), .unset, .unset, .unset] []))
    refine Go.st (fun _ k => XS.iloadN X69.here hx rfl (hb hby at_41) rfl k) ?_
    refine Go.st (fun _ k => XS.iconst X69.here hx rfl (hb hby at_42) k) ?_
    refine Go.st (fun _ k => XS.iushr X69.here hx rfl (hb hby at_43) rfl k) ?_
    show Go p e below _ (T69.setTop (mkF m 44 #[.val (.int p0), .val (.int p1), .val (.ref a2), .val (.ref a3), .val (.int (4 : Int32)), .val (.int (96 : Int32)), .val (.int (1 : Int32)), .unset, .unset, .unset] [(.int ((p1.toUInt32 >>> ((3 : Int32) &&& 31).toUInt32).toInt32))]))
    refine Go.st (fun _ k => XS.iconst X69.here hx rfl (hb hby at_44) k) ?_
    refine Go.st (fun _ k => XS.iand X69.here hx rfl (hb hby at_45) rfl k) ?_
    show Go p e below _ (T69.setTop (mkF m 46 #[.val (.int p0), .val (.int p1), .val (.ref a2), .val (.ref a3), .val (.int (4 : Int32)), .val (.int (96 : Int32)), .val (.int (1 : Int32)), .unset, .unset, .unset] [(.int (((p1.toUInt32 >>> ((3 : Int32) &&& 31).toUInt32).toInt32) &&& (3 : Int32)))]))
    generalize hv71 : (((p1.toUInt32 >>> ((3 : Int32) &&& 31).toUInt32).toInt32) &&& (3 : Int32)) = v71
    refine Go.st (fun _ k => XS.istore X69.here hx rfl (hb hby at_46) rfl (l' := #[.val (.int p0), .val (.int p1), .val (.ref a2), .val (.ref a3), .val (.int (4 : Int32)), .val (.int (96 : Int32)), .val (.int (1 : Int32)), .val (.int v71), .unset, .unset]) rfl k) ?_
    show Go p e below _ (T69.setTop (mkF m 48 #[.val (.int p0), .val (.int p1), .val (.ref a2), .val (.ref a3), .val (.int (4 : Int32)), .val (.int (96 : Int32)), .val (.int (1 : Int32)), .val (.int v71), .unset, .unset] []))
    refine Go.st (fun _ k => XS.iload X69.here hx rfl (hb hby at_48) rfl k) ?_
    by_cases hc72 : v71 = (0 : Int32)
    · show Go p e below _ (T69.setTop (mkF m 50 #[.val (.int p0), .val (.int p1), .val (.ref a2), .val (.ref a3), .val (.int (4 : Int32)), .val (.int (96 : Int32)), .val (.int (1 : Int32)), .val (.int v71), .unset, .unset] [(.int v71)]))
      refine Go.st (fun _ k => XS.ifNo X69.here hx rfl (hb hby at_50) rfl ((if0 _ _).trans (teq hc72).2) k) ?_
      show Go p e below _ (T69.setTop (mkF m 53 #[.val (.int p0), .val (.int p1), .val (.ref a2), .val (.ref a3), .val (.int (4 : Int32)), .val (.int (96 : Int32)), .val (.int (1 : Int32)), .val (.int v71), .unset, .unset] []))
      refine Go.st (fun _ k => XS.iload X69.here hx rfl (hb hby at_53) rfl k) ?_
      refine Go.st (fun _ k => XS.iconst X69.here hx rfl (hb hby at_55) k) ?_
      refine Go.st (fun _ k => XS.isub X69.here hx rfl (hb hby at_56) rfl k) ?_
      refine Go.st (fun _ k => XS.istore X69.here hx rfl (hb hby at_57) rfl (l' := #[.val (.int p0), .val (.int p1), .val (.ref a2), .val (.ref a3), .val (.int (4 : Int32)), .val (.int (96 : Int32)), .val (.int (1 : Int32)), .val (.int v71), .val (.int (95 : Int32)), .unset]) rfl k) ?_
      show Go p e below _ (T69.setTop (mkF m 59 #[.val (.int p0), .val (.int p1), .val (.ref a2), .val (.ref a3), .val (.int (4 : Int32)), .val (.int (96 : Int32)), .val (.int (1 : Int32)), .val (.int v71), .val (.int (95 : Int32)), .unset] []))
      refine Go.st (fun _ k => XS.goto X69.here hx rfl (pc0 := 59) (pc' := 80) rfl (hb hby at_59) (by decide) (by decide) k) ?_
      show Go p e below _ (T69.setTop (mkF m 80 #[.val (.int p0), .val (.int p1), .val (.ref a2), .val (.ref a3), .val (.int (4 : Int32)), .val (.int (96 : Int32)), .val (.int (1 : Int32)), .val (.int v71), .val (.int (95 : Int32)), .unset] []))
      refine Go.st (fun _ k => XS.iload X69.here hx rfl (hb hby at_80) rfl k) ?_
      obtain ⟨_, _, ⟨T73, L73, k73, n73⟩, -, X73, ⟨Lc73, hQ73, l73, y73, z73⟩, st73⟩ := Jvm.LawKit.callS X69 hx (y := (⟨"com/example/tokenloom/tokenloom/typespec/StringValue", "decodeEscape", "(I)I"⟩ : MethodName)) hown (mvT hZ (hw _ (List.mem_of_getElem? (i := 34) rfl))) (mvT hZ (hw _ (List.mem_of_getElem? (i := 35) rfl))) (mvT hZ (hw _ (List.mem_of_getElem? (i := 36) rfl))) (mvT hZ (hw _ (List.mem_of_getElem? (i := 37) rfl))) (by decide) (backOf (W := 0) (rm6 l Z aZ hw [] (95 : Int32) h3 n0 ) hZ (hw _ (List.mem_of_getElem? (i := 37) rfl)) (hw _ (List.mem_of_getElem? (i := 36) rfl)) (by decide) (by decide)) (g := (mkF m 82 #[.val (.int p0), .val (.int p1), .val (.ref a2), .val (.ref a3), .val (.int (4 : Int32)), .val (.int (96 : Int32)), .val (.int (1 : Int32)), .val (.int v71), .val (.int (95 : Int32)), .unset] [(.int (95 : Int32))])) rfl (by rw [hml]; rfl) (argsL := [(.int (95 : Int32))]) (rest := []) (lenOf pd56f530d rfl) rfl (by show 2 * 0 + _ ≤ _; exact Nat.le_of_eq rfl) (hb hby at_82) (fun _ _ => ⟨rfl, e69, (by decide : 4 + 0 ≤ _), (by decide : 72 + 0 ≤ _)⟩)
      dsimp only [Pt.U, Pt.locs, Pt.cells, Pt.slots] at X73 l73 y73 z73 st73 hQ73
      subst l73 y73 z73
      obtain ⟨rfl, N73q, e73⟩ := hQ73
      have N73 := Fr.app N69 N73q
      refine Go.st (fun _ k => st73 _ k) ?_
      show Go p e below _ (T73.setTop (mkF m 85 #[.val (.int p0), .val (.int p1), .val (.ref a2), .val (.ref a3), .val (.int (4 : Int32)), .val (.int (96 : Int32)), .val (.int (1 : Int32)), .val (.int v71), .val (.int (95 : Int32)), .unset] [(.int (fDec (95 : Int32)))]))
      refine Go.st (fun _ k => XS.istore X73.here hx rfl (hb hby at_85) rfl (l' := #[.val (.int p0), .val (.int p1), .val (.ref a2), .val (.ref a3), .val (.int (4 : Int32)), .val (.int (96 : Int32)), .val (.int (1 : Int32)), .val (.int v71), .val (.int (95 : Int32)), .val (.int (fDec (95 : Int32)))]) rfl k) ?_
      show Go p e below _ (T73.setTop (mkF m 87 #[.val (.int p0), .val (.int p1), .val (.ref a2), .val (.ref a3), .val (.int (4 : Int32)), .val (.int (96 : Int32)), .val (.int (1 : Int32)), .val (.int v71), .val (.int (95 : Int32)), .val (.int (fDec (95 : Int32)))] []))
      refine Go.st (fun _ k => XS.iload X73.here hx rfl (hb hby at_87) rfl k) ?_
      refine Go.st (fun _ k => XS.ifNo X73.here hx rfl (hb hby at_89) rfl ((if0 _ _).trans (feq (by decide : ¬ ((1 : Int32) = (0 : Int32)))).1) k) ?_
      show Go p e below _ (T73.setTop (mkF m 92 #[.val (.int p0), .val (.int p1), .val (.ref a2), .val (.ref a3), .val (.int (4 : Int32)), .val (.int (96 : Int32)), .val (.int (1 : Int32)), .val (.int v71), .val (.int (95 : Int32)), .val (.int (fDec (95 : Int32)))] []))
      refine Go.st (fun _ k => XS.iload X73.here hx rfl (hb hby at_92) rfl k) ?_
      refine Go.st (fun _ k => XS.iload X73.here hx rfl (hb hby at_94) rfl k) ?_
      refine Go.st (fun _ k => XS.aloadN X73.here hx rfl (hb hby at_96) rfl rfl k) ?_
      refine Go.st (fun _ k => XS.aloadN X73.here hx rfl (hb hby at_97) rfl rfl k) ?_
      obtain ⟨_, _, ⟨T74, L74, k74, n74⟩, -, X74, ⟨Lc74, hQ74, l74, y74, z74⟩, st74⟩ := Jvm.LawKit.callS X73 hx (y := (⟨"com/example/tokenloom/tokenloom/typespec/StringValueDecodeEscapePinLaw", "expected", "(ILjava/lang/String;Ljava/lang/String;)I"⟩ : MethodName)) hown (mvT hZ (hw _ (List.mem_of_getElem? (i := 38) rfl))) (mvT hZ (hw _ (List.mem_of_getElem? (i := 39) rfl))) (mvT hZ (hw _ (List.mem_of_getElem? (i := 40) rfl))) (mvT hZ (hw _ (List.mem_of_getElem? (i := 41) rfl))) (by decide) (backOf (W := 1) (rmExp l Z aZ hw [] (95 : Int32) a2 a3 b2 kc2 b3 kc3 cs vf h3 n0 hcs hvf F3_S_COMPACT_STRINGS F3_S_SIOOBE_FORMATTER F3_E_a2 F3_F_a2_coder F3_F_a2_value F3_V_b2 Es3 Fc3 Fv3 Va3) hZ (hw _ (List.mem_of_getElem? (i := 41) rfl)) (hw _ (List.mem_of_getElem? (i := 40) rfl)) (by decide) (by decide)) (g := (mkF m 98 #[.val (.int p0), .val (.int p1), .val (.ref a2), .val (.ref a3), .val (.int (4 : Int32)), .val (.int (96 : Int32)), .val (.int (1 : Int32)), .val (.int v71), .val (.int (95 : Int32)), .val (.int (fDec (95 : Int32)))] [(.ref a3), (.ref a2), (.int (95 : Int32)), (.int (fDec (95 : Int32)))])) rfl (by rw [hml]; rfl) (argsL := [(.int (95 : Int32)), (.ref a2), (.ref a3)]) (rest := [(.int (fDec (95 : Int32)))]) (lenOf pda0c35829 rfl) rfl (by show 2 * 0 + _ ≤ _; exact Nat.le_of_eq rfl) (hb hby at_98) (fun _ _ => ⟨rfl, e73, (by decide : 4 + 0 ≤ _), (by decide : 72 + 0 ≤ _)⟩)
      dsimp only [Pt.U, Pt.locs, Pt.cells, Pt.slots] at X74 l74 y74 z74 st74 hQ74
      subst l74 y74 z74
      obtain ⟨rfl, N74q, e74⟩ := hQ74
      have N74 := Fr.app N73 N74q
      refine Go.st (fun _ k => st74 _ k) ?_
      show Go p e below _ (T74.setTop (mkF m 101 #[.val (.int p0), .val (.int p1), .val (.ref a2), .val (.ref a3), .val (.int (4 : Int32)), .val (.int (96 : Int32)), .val (.int (1 : Int32)), .val (.int v71), .val (.int (95 : Int32)), .val (.int (fDec (95 : Int32)))] [(.int (fExp (95 : Int32))), (.int (fDec (95 : Int32)))]))
      refine Go.st (fun _ k => XS.icmpNo X74.here hx rfl (hb hby at_101) rfl (teq (own_same (95 : Int32))).2 k) ?_
      show Go p e below _ (T74.setTop (mkF m 104 #[.val (.int p0), .val (.int p1), .val (.ref a2), .val (.ref a3), .val (.int (4 : Int32)), .val (.int (96 : Int32)), .val (.int (1 : Int32)), .val (.int v71), .val (.int (95 : Int32)), .val (.int (fDec (95 : Int32)))] []))
      refine Go.st (fun _ k => XS.iconst X74.here hx rfl (hb hby at_104) k) ?_
      refine Go.st (fun _ k => XS.goto X74.here hx rfl (pc0 := 105) (pc' := 109) rfl (hb hby at_105) (by decide) (by decide) k) ?_
      show Go p e below _ (T74.setTop (mkF m 109 #[.val (.int p0), .val (.int p1), .val (.ref a2), .val (.ref a3), .val (.int (4 : Int32)), .val (.int (96 : Int32)), .val (.int (1 : Int32)), .val (.int v71), .val (.int (95 : Int32)), .val (.int (fDec (95 : Int32)))] [(.int (1 : Int32))]))
      obtain ⟨fs, hr, hrun, hended, -, hW, hB, hsame⟩ := X74.leaveW (v := some (.int (1 : Int32))) hS3 (by rw [e74]; exact hk3) (fun h => by rw [Bd.returns] at h; cases h)
      refine ⟨_, _, retN X74 hx (t := .boolean) Bd.returns (by simp) (hb hby at_109) hr, hrun, hended, _, _, rfl, ?_, ⟨_, rfl⟩, hW, hB, hsame.mono (by decide) (by decide)⟩
      show Q_rm0 Z p0 p1 cs vf h0 n0 _ T74.heap _
      rw [e74]
      exact ⟨rfl, N74⟩
    · show Go p e below _ (T69.setTop (mkF m 50 #[.val (.int p0), .val (.int p1), .val (.ref a2), .val (.ref a3), .val (.int (4 : Int32)), .val (.int (96 : Int32)), .val (.int (1 : Int32)), .val (.int v71), .unset, .unset] [(.int v71)]))
      refine Go.st (fun _ k => XS.ifYes X69.here hx rfl (pc0 := 50) (pc' := 62) rfl (hb hby at_50) rfl ((if0 _ _).trans (feq hc72).2) (by decide) (by decide) k) ?_
      show Go p e below _ (T69.setTop (mkF m 62 #[.val (.int p0), .val (.int p1), .val (.ref a2), .val (.ref a3), .val (.int (4 : Int32)), .val (.int (96 : Int32)), .val (.int (1 : Int32)), .val (.int v71), .unset, .unset] []))
      refine Go.st (fun _ k => XS.iload X69.here hx rfl (hb hby at_62) rfl k) ?_
      refine Go.st (fun _ k => XS.iconst X69.here hx rfl (hb hby at_64) k) ?_
      by_cases hc75 : v71 = (1 : Int32)
      · show Go p e below _ (T69.setTop (mkF m 65 #[.val (.int p0), .val (.int p1), .val (.ref a2), .val (.ref a3), .val (.int (4 : Int32)), .val (.int (96 : Int32)), .val (.int (1 : Int32)), .val (.int v71), .unset, .unset] [(.int (1 : Int32)), (.int v71)]))
        refine Go.st (fun _ k => XS.icmpNo X69.here hx rfl (hb hby at_65) rfl (teq hc75).2 k) ?_
        show Go p e below _ (T69.setTop (mkF m 68 #[.val (.int p0), .val (.int p1), .val (.ref a2), .val (.ref a3), .val (.int (4 : Int32)), .val (.int (96 : Int32)), .val (.int (1 : Int32)), .val (.int v71), .unset, .unset] []))
        refine Go.st (fun _ k => XS.iload X69.here hx rfl (hb hby at_68) rfl k) ?_
        refine Go.st (fun _ k => XS.iconst X69.here hx rfl (hb hby at_70) k) ?_
        refine Go.st (fun _ k => XS.iadd X69.here hx rfl (hb hby at_71) rfl k) ?_
        refine Go.st (fun _ k => XS.istore X69.here hx rfl (hb hby at_72) rfl (l' := #[.val (.int p0), .val (.int p1), .val (.ref a2), .val (.ref a3), .val (.int (4 : Int32)), .val (.int (96 : Int32)), .val (.int (1 : Int32)), .val (.int v71), .val (.int (97 : Int32)), .unset]) rfl k) ?_
        show Go p e below _ (T69.setTop (mkF m 74 #[.val (.int p0), .val (.int p1), .val (.ref a2), .val (.ref a3), .val (.int (4 : Int32)), .val (.int (96 : Int32)), .val (.int (1 : Int32)), .val (.int v71), .val (.int (97 : Int32)), .unset] []))
        refine Go.st (fun _ k => XS.goto X69.here hx rfl (pc0 := 74) (pc' := 80) rfl (hb hby at_74) (by decide) (by decide) k) ?_
        show Go p e below _ (T69.setTop (mkF m 80 #[.val (.int p0), .val (.int p1), .val (.ref a2), .val (.ref a3), .val (.int (4 : Int32)), .val (.int (96 : Int32)), .val (.int (1 : Int32)), .val (.int v71), .val (.int (97 : Int32)), .unset] []))
        refine Go.st (fun _ k => XS.iload X69.here hx rfl (hb hby at_80) rfl k) ?_
        obtain ⟨_, _, ⟨T76, L76, k76, n76⟩, -, X76, ⟨Lc76, hQ76, l76, y76, z76⟩, st76⟩ := Jvm.LawKit.callS X69 hx (y := (⟨"com/example/tokenloom/tokenloom/typespec/StringValue", "decodeEscape", "(I)I"⟩ : MethodName)) hown (mvT hZ (hw _ (List.mem_of_getElem? (i := 34) rfl))) (mvT hZ (hw _ (List.mem_of_getElem? (i := 35) rfl))) (mvT hZ (hw _ (List.mem_of_getElem? (i := 36) rfl))) (mvT hZ (hw _ (List.mem_of_getElem? (i := 37) rfl))) (by decide) (backOf (W := 0) (rm6 l Z aZ hw [] (97 : Int32) h3 n0 ) hZ (hw _ (List.mem_of_getElem? (i := 37) rfl)) (hw _ (List.mem_of_getElem? (i := 36) rfl)) (by decide) (by decide)) (g := (mkF m 82 #[.val (.int p0), .val (.int p1), .val (.ref a2), .val (.ref a3), .val (.int (4 : Int32)), .val (.int (96 : Int32)), .val (.int (1 : Int32)), .val (.int v71), .val (.int (97 : Int32)), .unset] [(.int (97 : Int32))])) rfl (by rw [hml]; rfl) (argsL := [(.int (97 : Int32))]) (rest := []) (lenOf pd56f530d rfl) rfl (by show 2 * 0 + _ ≤ _; exact Nat.le_of_eq rfl) (hb hby at_82) (fun _ _ => ⟨rfl, e69, (by decide : 4 + 0 ≤ _), (by decide : 72 + 0 ≤ _)⟩)
        dsimp only [Pt.U, Pt.locs, Pt.cells, Pt.slots] at X76 l76 y76 z76 st76 hQ76
        subst l76 y76 z76
        obtain ⟨rfl, N76q, e76⟩ := hQ76
        have N76 := Fr.app N69 N76q
        refine Go.st (fun _ k => st76 _ k) ?_
        show Go p e below _ (T76.setTop (mkF m 85 #[.val (.int p0), .val (.int p1), .val (.ref a2), .val (.ref a3), .val (.int (4 : Int32)), .val (.int (96 : Int32)), .val (.int (1 : Int32)), .val (.int v71), .val (.int (97 : Int32)), .unset] [(.int (fDec (97 : Int32)))]))
        refine Go.st (fun _ k => XS.istore X76.here hx rfl (hb hby at_85) rfl (l' := #[.val (.int p0), .val (.int p1), .val (.ref a2), .val (.ref a3), .val (.int (4 : Int32)), .val (.int (96 : Int32)), .val (.int (1 : Int32)), .val (.int v71), .val (.int (97 : Int32)), .val (.int (fDec (97 : Int32)))]) rfl k) ?_
        show Go p e below _ (T76.setTop (mkF m 87 #[.val (.int p0), .val (.int p1), .val (.ref a2), .val (.ref a3), .val (.int (4 : Int32)), .val (.int (96 : Int32)), .val (.int (1 : Int32)), .val (.int v71), .val (.int (97 : Int32)), .val (.int (fDec (97 : Int32)))] []))
        refine Go.st (fun _ k => XS.iload X76.here hx rfl (hb hby at_87) rfl k) ?_
        refine Go.st (fun _ k => XS.ifNo X76.here hx rfl (hb hby at_89) rfl ((if0 _ _).trans (feq (by decide : ¬ ((1 : Int32) = (0 : Int32)))).1) k) ?_
        show Go p e below _ (T76.setTop (mkF m 92 #[.val (.int p0), .val (.int p1), .val (.ref a2), .val (.ref a3), .val (.int (4 : Int32)), .val (.int (96 : Int32)), .val (.int (1 : Int32)), .val (.int v71), .val (.int (97 : Int32)), .val (.int (fDec (97 : Int32)))] []))
        refine Go.st (fun _ k => XS.iload X76.here hx rfl (hb hby at_92) rfl k) ?_
        refine Go.st (fun _ k => XS.iload X76.here hx rfl (hb hby at_94) rfl k) ?_
        refine Go.st (fun _ k => XS.aloadN X76.here hx rfl (hb hby at_96) rfl rfl k) ?_
        refine Go.st (fun _ k => XS.aloadN X76.here hx rfl (hb hby at_97) rfl rfl k) ?_
        obtain ⟨_, _, ⟨T77, L77, k77, n77⟩, -, X77, ⟨Lc77, hQ77, l77, y77, z77⟩, st77⟩ := Jvm.LawKit.callS X76 hx (y := (⟨"com/example/tokenloom/tokenloom/typespec/StringValueDecodeEscapePinLaw", "expected", "(ILjava/lang/String;Ljava/lang/String;)I"⟩ : MethodName)) hown (mvT hZ (hw _ (List.mem_of_getElem? (i := 38) rfl))) (mvT hZ (hw _ (List.mem_of_getElem? (i := 39) rfl))) (mvT hZ (hw _ (List.mem_of_getElem? (i := 40) rfl))) (mvT hZ (hw _ (List.mem_of_getElem? (i := 41) rfl))) (by decide) (backOf (W := 1) (rmExp l Z aZ hw [] (97 : Int32) a2 a3 b2 kc2 b3 kc3 cs vf h3 n0 hcs hvf F3_S_COMPACT_STRINGS F3_S_SIOOBE_FORMATTER F3_E_a2 F3_F_a2_coder F3_F_a2_value F3_V_b2 Es3 Fc3 Fv3 Va3) hZ (hw _ (List.mem_of_getElem? (i := 41) rfl)) (hw _ (List.mem_of_getElem? (i := 40) rfl)) (by decide) (by decide)) (g := (mkF m 98 #[.val (.int p0), .val (.int p1), .val (.ref a2), .val (.ref a3), .val (.int (4 : Int32)), .val (.int (96 : Int32)), .val (.int (1 : Int32)), .val (.int v71), .val (.int (97 : Int32)), .val (.int (fDec (97 : Int32)))] [(.ref a3), (.ref a2), (.int (97 : Int32)), (.int (fDec (97 : Int32)))])) rfl (by rw [hml]; rfl) (argsL := [(.int (97 : Int32)), (.ref a2), (.ref a3)]) (rest := [(.int (fDec (97 : Int32)))]) (lenOf pda0c35829 rfl) rfl (by show 2 * 0 + _ ≤ _; exact Nat.le_of_eq rfl) (hb hby at_98) (fun _ _ => ⟨rfl, e76, (by decide : 4 + 0 ≤ _), (by decide : 72 + 0 ≤ _)⟩)
        dsimp only [Pt.U, Pt.locs, Pt.cells, Pt.slots] at X77 l77 y77 z77 st77 hQ77
        subst l77 y77 z77
        obtain ⟨rfl, N77q, e77⟩ := hQ77
        have N77 := Fr.app N76 N77q
        refine Go.st (fun _ k => st77 _ k) ?_
        show Go p e below _ (T77.setTop (mkF m 101 #[.val (.int p0), .val (.int p1), .val (.ref a2), .val (.ref a3), .val (.int (4 : Int32)), .val (.int (96 : Int32)), .val (.int (1 : Int32)), .val (.int v71), .val (.int (97 : Int32)), .val (.int (fDec (97 : Int32)))] [(.int (fExp (97 : Int32))), (.int (fDec (97 : Int32)))]))
        refine Go.st (fun _ k => XS.icmpNo X77.here hx rfl (hb hby at_101) rfl (teq (own_same (97 : Int32))).2 k) ?_
        show Go p e below _ (T77.setTop (mkF m 104 #[.val (.int p0), .val (.int p1), .val (.ref a2), .val (.ref a3), .val (.int (4 : Int32)), .val (.int (96 : Int32)), .val (.int (1 : Int32)), .val (.int v71), .val (.int (97 : Int32)), .val (.int (fDec (97 : Int32)))] []))
        refine Go.st (fun _ k => XS.iconst X77.here hx rfl (hb hby at_104) k) ?_
        refine Go.st (fun _ k => XS.goto X77.here hx rfl (pc0 := 105) (pc' := 109) rfl (hb hby at_105) (by decide) (by decide) k) ?_
        show Go p e below _ (T77.setTop (mkF m 109 #[.val (.int p0), .val (.int p1), .val (.ref a2), .val (.ref a3), .val (.int (4 : Int32)), .val (.int (96 : Int32)), .val (.int (1 : Int32)), .val (.int v71), .val (.int (97 : Int32)), .val (.int (fDec (97 : Int32)))] [(.int (1 : Int32))]))
        obtain ⟨fs, hr, hrun, hended, -, hW, hB, hsame⟩ := X77.leaveW (v := some (.int (1 : Int32))) hS3 (by rw [e77]; exact hk3) (fun h => by rw [Bd.returns] at h; cases h)
        refine ⟨_, _, retN X77 hx (t := .boolean) Bd.returns (by simp) (hb hby at_109) hr, hrun, hended, _, _, rfl, ?_, ⟨_, rfl⟩, hW, hB, hsame.mono (by decide) (by decide)⟩
        show Q_rm0 Z p0 p1 cs vf h0 n0 _ T77.heap _
        rw [e77]
        exact ⟨rfl, N77⟩
      · show Go p e below _ (T69.setTop (mkF m 65 #[.val (.int p0), .val (.int p1), .val (.ref a2), .val (.ref a3), .val (.int (4 : Int32)), .val (.int (96 : Int32)), .val (.int (1 : Int32)), .val (.int v71), .unset, .unset] [(.int (1 : Int32)), (.int v71)]))
        refine Go.st (fun _ k => XS.icmpYes X69.here hx rfl (pc0 := 65) (pc' := 77) rfl (hb hby at_65) rfl (feq hc75).2 (by decide) (by decide) k) ?_
        show Go p e below _ (T69.setTop (mkF m 77 #[.val (.int p0), .val (.int p1), .val (.ref a2), .val (.ref a3), .val (.int (4 : Int32)), .val (.int (96 : Int32)), .val (.int (1 : Int32)), .val (.int v71), .unset, .unset] []))
        refine Go.st (fun _ k => XS.iloadN X69.here hx rfl (hb hby at_77) rfl k) ?_
        refine Go.st (fun _ k => XS.istore X69.here hx rfl (hb hby at_78) rfl (l' := #[.val (.int p0), .val (.int p1), .val (.ref a2), .val (.ref a3), .val (.int (4 : Int32)), .val (.int (96 : Int32)), .val (.int (1 : Int32)), .val (.int v71), .val (.int p0), .unset]) rfl k) ?_
        show Go p e below _ (T69.setTop (mkF m 80 #[.val (.int p0), .val (.int p1), .val (.ref a2), .val (.ref a3), .val (.int (4 : Int32)), .val (.int (96 : Int32)), .val (.int (1 : Int32)), .val (.int v71), .val (.int p0), .unset] []))
        refine Go.st (fun _ k => XS.iload X69.here hx rfl (hb hby at_80) rfl k) ?_
        obtain ⟨_, _, ⟨T78, L78, k78, n78⟩, -, X78, ⟨Lc78, hQ78, l78, y78, z78⟩, st78⟩ := Jvm.LawKit.callS X69 hx (y := (⟨"com/example/tokenloom/tokenloom/typespec/StringValue", "decodeEscape", "(I)I"⟩ : MethodName)) hown (mvT hZ (hw _ (List.mem_of_getElem? (i := 34) rfl))) (mvT hZ (hw _ (List.mem_of_getElem? (i := 35) rfl))) (mvT hZ (hw _ (List.mem_of_getElem? (i := 36) rfl))) (mvT hZ (hw _ (List.mem_of_getElem? (i := 37) rfl))) (by decide) (backOf (W := 0) (rm6 l Z aZ hw [] p0 h3 n0 ) hZ (hw _ (List.mem_of_getElem? (i := 37) rfl)) (hw _ (List.mem_of_getElem? (i := 36) rfl)) (by decide) (by decide)) (g := (mkF m 82 #[.val (.int p0), .val (.int p1), .val (.ref a2), .val (.ref a3), .val (.int (4 : Int32)), .val (.int (96 : Int32)), .val (.int (1 : Int32)), .val (.int v71), .val (.int p0), .unset] [(.int p0)])) rfl (by rw [hml]; rfl) (argsL := [(.int p0)]) (rest := []) (lenOf pd56f530d rfl) rfl (by show 2 * 0 + _ ≤ _; exact Nat.le_of_eq rfl) (hb hby at_82) (fun _ _ => ⟨rfl, e69, (by decide : 4 + 0 ≤ _), (by decide : 72 + 0 ≤ _)⟩)
        dsimp only [Pt.U, Pt.locs, Pt.cells, Pt.slots] at X78 l78 y78 z78 st78 hQ78
        subst l78 y78 z78
        obtain ⟨rfl, N78q, e78⟩ := hQ78
        have N78 := Fr.app N69 N78q
        refine Go.st (fun _ k => st78 _ k) ?_
        show Go p e below _ (T78.setTop (mkF m 85 #[.val (.int p0), .val (.int p1), .val (.ref a2), .val (.ref a3), .val (.int (4 : Int32)), .val (.int (96 : Int32)), .val (.int (1 : Int32)), .val (.int v71), .val (.int p0), .unset] [(.int (fDec p0))]))
        refine Go.st (fun _ k => XS.istore X78.here hx rfl (hb hby at_85) rfl (l' := #[.val (.int p0), .val (.int p1), .val (.ref a2), .val (.ref a3), .val (.int (4 : Int32)), .val (.int (96 : Int32)), .val (.int (1 : Int32)), .val (.int v71), .val (.int p0), .val (.int (fDec p0))]) rfl k) ?_
        show Go p e below _ (T78.setTop (mkF m 87 #[.val (.int p0), .val (.int p1), .val (.ref a2), .val (.ref a3), .val (.int (4 : Int32)), .val (.int (96 : Int32)), .val (.int (1 : Int32)), .val (.int v71), .val (.int p0), .val (.int (fDec p0))] []))
        refine Go.st (fun _ k => XS.iload X78.here hx rfl (hb hby at_87) rfl k) ?_
        refine Go.st (fun _ k => XS.ifNo X78.here hx rfl (hb hby at_89) rfl ((if0 _ _).trans (feq (by decide : ¬ ((1 : Int32) = (0 : Int32)))).1) k) ?_
        show Go p e below _ (T78.setTop (mkF m 92 #[.val (.int p0), .val (.int p1), .val (.ref a2), .val (.ref a3), .val (.int (4 : Int32)), .val (.int (96 : Int32)), .val (.int (1 : Int32)), .val (.int v71), .val (.int p0), .val (.int (fDec p0))] []))
        refine Go.st (fun _ k => XS.iload X78.here hx rfl (hb hby at_92) rfl k) ?_
        refine Go.st (fun _ k => XS.iload X78.here hx rfl (hb hby at_94) rfl k) ?_
        refine Go.st (fun _ k => XS.aloadN X78.here hx rfl (hb hby at_96) rfl rfl k) ?_
        refine Go.st (fun _ k => XS.aloadN X78.here hx rfl (hb hby at_97) rfl rfl k) ?_
        obtain ⟨_, _, ⟨T79, L79, k79, n79⟩, -, X79, ⟨Lc79, hQ79, l79, y79, z79⟩, st79⟩ := Jvm.LawKit.callS X78 hx (y := (⟨"com/example/tokenloom/tokenloom/typespec/StringValueDecodeEscapePinLaw", "expected", "(ILjava/lang/String;Ljava/lang/String;)I"⟩ : MethodName)) hown (mvT hZ (hw _ (List.mem_of_getElem? (i := 38) rfl))) (mvT hZ (hw _ (List.mem_of_getElem? (i := 39) rfl))) (mvT hZ (hw _ (List.mem_of_getElem? (i := 40) rfl))) (mvT hZ (hw _ (List.mem_of_getElem? (i := 41) rfl))) (by decide) (backOf (W := 1) (rmExp l Z aZ hw [] p0 a2 a3 b2 kc2 b3 kc3 cs vf h3 n0 hcs hvf F3_S_COMPACT_STRINGS F3_S_SIOOBE_FORMATTER F3_E_a2 F3_F_a2_coder F3_F_a2_value F3_V_b2 Es3 Fc3 Fv3 Va3) hZ (hw _ (List.mem_of_getElem? (i := 41) rfl)) (hw _ (List.mem_of_getElem? (i := 40) rfl)) (by decide) (by decide)) (g := (mkF m 98 #[.val (.int p0), .val (.int p1), .val (.ref a2), .val (.ref a3), .val (.int (4 : Int32)), .val (.int (96 : Int32)), .val (.int (1 : Int32)), .val (.int v71), .val (.int p0), .val (.int (fDec p0))] [(.ref a3), (.ref a2), (.int p0), (.int (fDec p0))])) rfl (by rw [hml]; rfl) (argsL := [(.int p0), (.ref a2), (.ref a3)]) (rest := [(.int (fDec p0))]) (lenOf pda0c35829 rfl) rfl (by show 2 * 0 + _ ≤ _; exact Nat.le_of_eq rfl) (hb hby at_98) (fun _ _ => ⟨rfl, e78, (by decide : 4 + 0 ≤ _), (by decide : 72 + 0 ≤ _)⟩)
        dsimp only [Pt.U, Pt.locs, Pt.cells, Pt.slots] at X79 l79 y79 z79 st79 hQ79
        subst l79 y79 z79
        obtain ⟨rfl, N79q, e79⟩ := hQ79
        have N79 := Fr.app N78 N79q
        refine Go.st (fun _ k => st79 _ k) ?_
        show Go p e below _ (T79.setTop (mkF m 101 #[.val (.int p0), .val (.int p1), .val (.ref a2), .val (.ref a3), .val (.int (4 : Int32)), .val (.int (96 : Int32)), .val (.int (1 : Int32)), .val (.int v71), .val (.int p0), .val (.int (fDec p0))] [(.int (fExp p0)), (.int (fDec p0))]))
        refine Go.st (fun _ k => XS.icmpNo X79.here hx rfl (hb hby at_101) rfl (teq (own_same p0)).2 k) ?_
        show Go p e below _ (T79.setTop (mkF m 104 #[.val (.int p0), .val (.int p1), .val (.ref a2), .val (.ref a3), .val (.int (4 : Int32)), .val (.int (96 : Int32)), .val (.int (1 : Int32)), .val (.int v71), .val (.int p0), .val (.int (fDec p0))] []))
        refine Go.st (fun _ k => XS.iconst X79.here hx rfl (hb hby at_104) k) ?_
        refine Go.st (fun _ k => XS.goto X79.here hx rfl (pc0 := 105) (pc' := 109) rfl (hb hby at_105) (by decide) (by decide) k) ?_
        show Go p e below _ (T79.setTop (mkF m 109 #[.val (.int p0), .val (.int p1), .val (.ref a2), .val (.ref a3), .val (.int (4 : Int32)), .val (.int (96 : Int32)), .val (.int (1 : Int32)), .val (.int v71), .val (.int p0), .val (.int (fDec p0))] [(.int (1 : Int32))]))
        obtain ⟨fs, hr, hrun, hended, -, hW, hB, hsame⟩ := X79.leaveW (v := some (.int (1 : Int32))) hS3 (by rw [e79]; exact hk3) (fun h => by rw [Bd.returns] at h; cases h)
        refine ⟨_, _, retN X79 hx (t := .boolean) Bd.returns (by simp) (hb hby at_109) hr, hrun, hended, _, _, rfl, ?_, ⟨_, rfl⟩, hW, hB, hsame.mono (by decide) (by decide)⟩
        show Q_rm0 Z p0 p1 cs vf h0 n0 _ T79.heap _
        rw [e79]
        exact ⟨rfl, N79⟩
  · rw [hr4]
    show Go p e below _ (T3.setTop (mkF m 10 #[.val (.int p0), .val (.int p1), .val (.ref a2), .val (.ref a3), .unset, .unset, .unset, .unset, .unset, .unset] [(.int (5 : Int32))]))
    refine Go.st (fun _ k => XS.istore X3.here hx rfl (hb hby at_10) rfl (l' := #[.val (.int p0), .val (.int p1), .val (.ref a2), .val (.ref a3), .val (.int (5 : Int32)), .unset, .unset, .unset, .unset, .unset]) rfl k) ?_
    show Go p e below _ (T3.setTop (mkF m 12 #[.val (.int p0), .val (.int p1), .val (.ref a2), .val (.ref a3), .val (.int (5 : Int32)), .unset, .unset, .unset, .unset, .unset] []))
    refine Go.st (fun _ k => XS.aloadN X3.here hx rfl (hb hby at_12) rfl rfl k) ?_
    refine Go.st (fun _ k => XS.iload X3.here hx rfl (hb hby at_13) rfl k) ?_
    obtain ⟨cq80, kq80, q80a, q80b, q80c⟩ := isOf hZ e3 F3_E_a2
    obtain ⟨_, _, ⟨T80, L80, k80, n80⟩, -, X80, ⟨Lc80, hQ80, l80, y80, z80⟩, st80⟩ := X3.virtualBack hx (y := (⟨"java/lang/String", "charAt", "(I)C"⟩ : MethodName)) (z := (⟨"java/lang/String", "charAt", "(I)C"⟩ : MethodName)) hown (mvT hZ (hw _ (List.mem_of_getElem? (i := 9) rfl))) (mvT hZ (hw _ (List.mem_of_getElem? (i := 10) rfl))) (notFace_of_selects (args := #[]) (mvT hZ (hw _ (List.mem_of_getElem? (i := 12) rfl)))) (mvT hZ (hw _ (List.mem_of_getElem? (i := 12) rfl))) (mvT hZ (hw _ (List.mem_of_getElem? (i := 11) rfl))) (by decide) (backOf (W := 0) (rmChar l Z aZ hw [] (110 : Int32) a2 (5 : Int32) b2 (0 : Int32) cs vf kc2 (8 : Int32) [(.int (34 : Int32)), (.int (92 : Int32)), (.int (36 : Int32)), (.int (64 : Int32)), (.int (96 : Int32)), (.int (110 : Int32)), (.int (114 : Int32)), (.int (116 : Int32))] h3 n0 hcs rfl hvf ⟨by decide, by decide⟩ rfl F3_F_a2_value F3_F_a2_coder F3_E_a2 F3_S_COMPACT_STRINGS F3_S_SIOOBE_FORMATTER F3_V_b2) hZ (hw _ (List.mem_of_getElem? (i := 13) rfl)) (hw _ (List.mem_of_getElem? (i := 1) rfl)) (by decide) (by decide)) q80a q80c (g := (mkF m 15 #[.val (.int p0), .val (.int p1), .val (.ref a2), .val (.ref a3), .val (.int (5 : Int32)), .unset, .unset, .unset, .unset, .unset] [(.int (5 : Int32)), (.ref a2)])) rfl (by rw [hml]; rfl) (Steps.refl _) (argsL := [(.int (5 : Int32))]) (rest := []) (lenOf pd56f5307 rfl) rfl (by show 2 * 0 + _ ≤ _; exact Nat.le_of_eq rfl) (hb hby at_15) (fun _ _ => ⟨rfl, e3, (by decide : 4 + 0 ≤ _), (by decide : 72 + 0 ≤ _)⟩)
    dsimp only [Pt.U, Pt.locs, Pt.cells, Pt.slots] at X80 l80 y80 z80 st80 hQ80
    subst l80 y80 z80
    obtain ⟨rfl, N80q, e80⟩ := hQ80
    have N80 := Fr.app N0 N80q
    refine Go.st (fun _ k => st80.trans k) ?_
    show Go p e below _ (T80.setTop (mkF m 18 #[.val (.int p0), .val (.int p1), .val (.ref a2), .val (.ref a3), .val (.int (5 : Int32)), .unset, .unset, .unset, .unset, .unset] [(.int (jChar (110 : Int32)))]))
    have hs81 : (jChar (110 : Int32)) = (110 : Int32) := (by decide +kernel)
    rw [hs81]
    show Go p e below _ (T80.setTop (mkF m 18 #[.val (.int p0), .val (.int p1), .val (.ref a2), .val (.ref a3), .val (.int (5 : Int32)), .unset, .unset, .unset, .unset, .unset] [(.int (110 : Int32))]))
    refine Go.st (fun _ k => XS.istore X80.here hx rfl (hb hby at_18) rfl (l' := #[.val (.int p0), .val (.int p1), .val (.ref a2), .val (.ref a3), .val (.int (5 : Int32)), .val (.int (110 : Int32)), .unset, .unset, .unset, .unset]) rfl k) ?_
    show Go p e below _ (T80.setTop (mkF m 20 #[.val (.int p0), .val (.int p1), .val (.ref a2), .val (.ref a3), .val (.int (5 : Int32)), .val (.int (110 : Int32)), .unset, .unset, .unset, .unset] []))
    refine Go.st (fun _ k => XS.iload X80.here hx rfl (hb hby at_20) rfl k) ?_
    obtain ⟨_, _, ⟨T82, L82, k82, n82⟩, -, X82, ⟨Lc82, hQ82, l82, y82, z82⟩, st82⟩ := Jvm.LawKit.callS X80 hx (y := (⟨"com/example/tokenloom/tokenloom/typespec/StringValue", "decodeEscape", "(I)I"⟩ : MethodName)) hown (mvT hZ (hw _ (List.mem_of_getElem? (i := 34) rfl))) (mvT hZ (hw _ (List.mem_of_getElem? (i := 35) rfl))) (mvT hZ (hw _ (List.mem_of_getElem? (i := 36) rfl))) (mvT hZ (hw _ (List.mem_of_getElem? (i := 37) rfl))) (by decide) (backOf (W := 0) (rm6 l Z aZ hw [] (110 : Int32) h3 n0 ) hZ (hw _ (List.mem_of_getElem? (i := 37) rfl)) (hw _ (List.mem_of_getElem? (i := 36) rfl)) (by decide) (by decide)) (g := (mkF m 22 #[.val (.int p0), .val (.int p1), .val (.ref a2), .val (.ref a3), .val (.int (5 : Int32)), .val (.int (110 : Int32)), .unset, .unset, .unset, .unset] [(.int (110 : Int32))])) rfl (by rw [hml]; rfl) (argsL := [(.int (110 : Int32))]) (rest := []) (lenOf pd56f530d rfl) rfl (by show 2 * 0 + _ ≤ _; exact Nat.le_of_eq rfl) (hb hby at_22) (fun _ _ => ⟨rfl, e80, (by decide : 4 + 0 ≤ _), (by decide : 72 + 0 ≤ _)⟩)
    dsimp only [Pt.U, Pt.locs, Pt.cells, Pt.slots] at X82 l82 y82 z82 st82 hQ82
    subst l82 y82 z82
    obtain ⟨rfl, N82q, e82⟩ := hQ82
    have N82 := Fr.app N80 N82q
    refine Go.st (fun _ k => st82 _ k) ?_
    show Go p e below _ (T82.setTop (mkF m 25 #[.val (.int p0), .val (.int p1), .val (.ref a2), .val (.ref a3), .val (.int (5 : Int32)), .val (.int (110 : Int32)), .unset, .unset, .unset, .unset] [(.int (fDec (110 : Int32)))]))
    have hs83 : (fDec (110 : Int32)) = (10 : Int32) := (by decide +kernel)
    rw [hs83]
    show Go p e below _ (T82.setTop (mkF m 25 #[.val (.int p0), .val (.int p1), .val (.ref a2), .val (.ref a3), .val (.int (5 : Int32)), .val (.int (110 : Int32)), .unset, .unset, .unset, .unset] [(.int (10 : Int32))]))
    refine Go.st (fun _ k => XS.aloadN X82.here hx rfl (hb hby at_25) rfl rfl k) ?_
    refine Go.st (fun _ k => XS.iload X82.here hx rfl (hb hby at_26) rfl k) ?_
    obtain ⟨cq84, kq84, q84a, q84b, q84c⟩ := isOf hZ e82 Es3
    obtain ⟨_, _, ⟨T84, L84, k84, n84⟩, -, X84, ⟨Lc84, hQ84, l84, y84, z84⟩, st84⟩ := X82.virtualBack hx (y := (⟨"java/lang/String", "charAt", "(I)C"⟩ : MethodName)) (z := (⟨"java/lang/String", "charAt", "(I)C"⟩ : MethodName)) hown (mvT hZ (hw _ (List.mem_of_getElem? (i := 9) rfl))) (mvT hZ (hw _ (List.mem_of_getElem? (i := 10) rfl))) (notFace_of_selects (args := #[]) (mvT hZ (hw _ (List.mem_of_getElem? (i := 12) rfl)))) (mvT hZ (hw _ (List.mem_of_getElem? (i := 12) rfl))) (mvT hZ (hw _ (List.mem_of_getElem? (i := 11) rfl))) (by decide) (backOf (W := 1) (rmChar l Z aZ hw [] (10 : Int32) a3 (5 : Int32) b3 (0 : Int32) cs vf kc3 (8 : Int32) [(.int (34 : Int32)), (.int (92 : Int32)), (.int (36 : Int32)), (.int (64 : Int32)), (.int (96 : Int32)), (.int (10 : Int32)), (.int (13 : Int32)), (.int (9 : Int32))] h3 n0 hcs rfl hvf ⟨by decide, by decide⟩ rfl Fv3 Fc3 Es3 F3_S_COMPACT_STRINGS F3_S_SIOOBE_FORMATTER Va3) hZ (hw _ (List.mem_of_getElem? (i := 13) rfl)) (hw _ (List.mem_of_getElem? (i := 1) rfl)) (by decide) (by decide)) q84a q84c (g := (mkF m 28 #[.val (.int p0), .val (.int p1), .val (.ref a2), .val (.ref a3), .val (.int (5 : Int32)), .val (.int (110 : Int32)), .unset, .unset, .unset, .unset] [(.int (5 : Int32)), (.ref a3), (.int (10 : Int32))])) rfl (by rw [hml]; rfl) (Steps.refl _) (argsL := [(.int (5 : Int32))]) (rest := [(.int (10 : Int32))]) (lenOf pd56f5307 rfl) rfl (by show 2 * 0 + _ ≤ _; exact Nat.le_of_eq rfl) (hb hby at_28) (fun _ _ => ⟨rfl, e82, (by decide : 4 + 0 ≤ _), (by decide : 72 + 0 ≤ _)⟩)
    dsimp only [Pt.U, Pt.locs, Pt.cells, Pt.slots] at X84 l84 y84 z84 st84 hQ84
    subst l84 y84 z84
    obtain ⟨rfl, N84q, e84⟩ := hQ84
    have N84 := Fr.app N82 N84q
    refine Go.st (fun _ k => st84.trans k) ?_
    show Go p e below _ (T84.setTop (mkF m 31 #[.val (.int p0), .val (.int p1), .val (.ref a2), .val (.ref a3), .val (.int (5 : Int32)), .val (.int (110 : Int32)), .unset, .unset, .unset, .unset] [(.int (jChar (10 : Int32))), (.int (10 : Int32))]))
    have hs85 : (jChar (10 : Int32)) = (10 : Int32) := (by decide +kernel)
    rw [hs85]
    show Go p e below _ (T84.setTop (mkF m 31 #[.val (.int p0), .val (.int p1), .val (.ref a2), .val (.ref a3), .val (.int (5 : Int32)), .val (.int (110 : Int32)), .unset, .unset, .unset, .unset] [(.int (10 : Int32)), (.int (10 : Int32))]))
    refine Go.st (fun _ k => XS.icmpNo X84.here hx rfl (hb hby at_31) rfl (teq (by decide : ((10 : Int32) = (10 : Int32)))).2 k) ?_
    show Go p e below _ (T84.setTop (mkF m 34 #[.val (.int p0), .val (.int p1), .val (.ref a2), .val (.ref a3), .val (.int (5 : Int32)), .val (.int (110 : Int32)), .unset, .unset, .unset, .unset] []))
    refine Go.st (fun _ k => XS.iconst X84.here hx rfl (hb hby at_34) k) ?_
    refine Go.st (fun _ k => XS.goto X84.here hx rfl (pc0 := 35) (pc' := 39) rfl (hb hby at_35) (by decide) (by decide) k) ?_
    show Go p e below _ (T84.setTop (mkF m 39 #[.val (.int p0), .val (.int p1), .val (.ref a2), .val (.ref a3), .val (.int (5 : Int32)), .val (.int (110 : Int32)), .unset, .unset, .unset, .unset] [(.int (1 : Int32))]))
    refine Go.st (fun _ k => XS.istore X84.here hx rfl (hb hby at_39) rfl (l' := #[.val (.int p0), .val (.int p1), .val (.ref a2), .val (.ref a3), .val (.int (5 : Int32)), .val (.int (110 : Int32)), .val (.int (1 : Int32)), .unset, .unset, .unset]) rfl k) ?_
    show Go p e below _ (T84.setTop (mkF m 41 #[.val (.int p0), .val (.int p1), .val (.ref a2), .val (.ref a3), .val (.int (5 : Int32)), .val (.int (110 : Int32)), .val (.int (1 : Int32)), .unset, .unset, .unset] []))
    refine Go.st (fun _ k => XS.iloadN X84.here hx rfl (hb hby at_41) rfl k) ?_
    refine Go.st (fun _ k => XS.iconst X84.here hx rfl (hb hby at_42) k) ?_
    refine Go.st (fun _ k => XS.iushr X84.here hx rfl (hb hby at_43) rfl k) ?_
    show Go p e below _ (T84.setTop (mkF m 44 #[.val (.int p0), .val (.int p1), .val (.ref a2), .val (.ref a3), .val (.int (5 : Int32)), .val (.int (110 : Int32)), .val (.int (1 : Int32)), .unset, .unset, .unset] [(.int ((p1.toUInt32 >>> ((3 : Int32) &&& 31).toUInt32).toInt32))]))
    refine Go.st (fun _ k => XS.iconst X84.here hx rfl (hb hby at_44) k) ?_
    refine Go.st (fun _ k => XS.iand X84.here hx rfl (hb hby at_45) rfl k) ?_
    show Go p e below _ (T84.setTop (mkF m 46 #[.val (.int p0), .val (.int p1), .val (.ref a2), .val (.ref a3), .val (.int (5 : Int32)), .val (.int (110 : Int32)), .val (.int (1 : Int32)), .unset, .unset, .unset] [(.int (((p1.toUInt32 >>> ((3 : Int32) &&& 31).toUInt32).toInt32) &&& (3 : Int32)))]))
    generalize hv86 : (((p1.toUInt32 >>> ((3 : Int32) &&& 31).toUInt32).toInt32) &&& (3 : Int32)) = v86
    refine Go.st (fun _ k => XS.istore X84.here hx rfl (hb hby at_46) rfl (l' := #[.val (.int p0), .val (.int p1), .val (.ref a2), .val (.ref a3), .val (.int (5 : Int32)), .val (.int (110 : Int32)), .val (.int (1 : Int32)), .val (.int v86), .unset, .unset]) rfl k) ?_
    show Go p e below _ (T84.setTop (mkF m 48 #[.val (.int p0), .val (.int p1), .val (.ref a2), .val (.ref a3), .val (.int (5 : Int32)), .val (.int (110 : Int32)), .val (.int (1 : Int32)), .val (.int v86), .unset, .unset] []))
    refine Go.st (fun _ k => XS.iload X84.here hx rfl (hb hby at_48) rfl k) ?_
    by_cases hc87 : v86 = (0 : Int32)
    · show Go p e below _ (T84.setTop (mkF m 50 #[.val (.int p0), .val (.int p1), .val (.ref a2), .val (.ref a3), .val (.int (5 : Int32)), .val (.int (110 : Int32)), .val (.int (1 : Int32)), .val (.int v86), .unset, .unset] [(.int v86)]))
      refine Go.st (fun _ k => XS.ifNo X84.here hx rfl (hb hby at_50) rfl ((if0 _ _).trans (teq hc87).2) k) ?_
      show Go p e below _ (T84.setTop (mkF m 53 #[.val (.int p0), .val (.int p1), .val (.ref a2), .val (.ref a3), .val (.int (5 : Int32)), .val (.int (110 : Int32)), .val (.int (1 : Int32)), .val (.int v86), .unset, .unset] []))
      refine Go.st (fun _ k => XS.iload X84.here hx rfl (hb hby at_53) rfl k) ?_
      refine Go.st (fun _ k => XS.iconst X84.here hx rfl (hb hby at_55) k) ?_
      refine Go.st (fun _ k => XS.isub X84.here hx rfl (hb hby at_56) rfl k) ?_
      refine Go.st (fun _ k => XS.istore X84.here hx rfl (hb hby at_57) rfl (l' := #[.val (.int p0), .val (.int p1), .val (.ref a2), .val (.ref a3), .val (.int (5 : Int32)), .val (.int (110 : Int32)), .val (.int (1 : Int32)), .val (.int v86), .val (.int (109 : Int32)), .unset]) rfl k) ?_
      show Go p e below _ (T84.setTop (mkF m 59 #[.val (.int p0), .val (.int p1), .val (.ref a2), .val (.ref a3), .val (.int (5 : Int32)), .val (.int (110 : Int32)), .val (.int (1 : Int32)), .val (.int v86), .val (.int (109 : Int32)), .unset] []))
      refine Go.st (fun _ k => XS.goto X84.here hx rfl (pc0 := 59) (pc' := 80) rfl (hb hby at_59) (by decide) (by decide) k) ?_
      show Go p e below _ (T84.setTop (mkF m 80 #[.val (.int p0), .val (.int p1), .val (.ref a2), .val (.ref a3), .val (.int (5 : Int32)), .val (.int (110 : Int32)), .val (.int (1 : Int32)), .val (.int v86), .val (.int (109 : Int32)), .unset] []))
      refine Go.st (fun _ k => XS.iload X84.here hx rfl (hb hby at_80) rfl k) ?_
      obtain ⟨_, _, ⟨T88, L88, k88, n88⟩, -, X88, ⟨Lc88, hQ88, l88, y88, z88⟩, st88⟩ := Jvm.LawKit.callS X84 hx (y := (⟨"com/example/tokenloom/tokenloom/typespec/StringValue", "decodeEscape", "(I)I"⟩ : MethodName)) hown (mvT hZ (hw _ (List.mem_of_getElem? (i := 34) rfl))) (mvT hZ (hw _ (List.mem_of_getElem? (i := 35) rfl))) (mvT hZ (hw _ (List.mem_of_getElem? (i := 36) rfl))) (mvT hZ (hw _ (List.mem_of_getElem? (i := 37) rfl))) (by decide) (backOf (W := 0) (rm6 l Z aZ hw [] (109 : Int32) h3 n0 ) hZ (hw _ (List.mem_of_getElem? (i := 37) rfl)) (hw _ (List.mem_of_getElem? (i := 36) rfl)) (by decide) (by decide)) (g := (mkF m 82 #[.val (.int p0), .val (.int p1), .val (.ref a2), .val (.ref a3), .val (.int (5 : Int32)), .val (.int (110 : Int32)), .val (.int (1 : Int32)), .val (.int v86), .val (.int (109 : Int32)), .unset] [(.int (109 : Int32))])) rfl (by rw [hml]; rfl) (argsL := [(.int (109 : Int32))]) (rest := []) (lenOf pd56f530d rfl) rfl (by show 2 * 0 + _ ≤ _; exact Nat.le_of_eq rfl) (hb hby at_82) (fun _ _ => ⟨rfl, e84, (by decide : 4 + 0 ≤ _), (by decide : 72 + 0 ≤ _)⟩)
      dsimp only [Pt.U, Pt.locs, Pt.cells, Pt.slots] at X88 l88 y88 z88 st88 hQ88
      subst l88 y88 z88
      obtain ⟨rfl, N88q, e88⟩ := hQ88
      have N88 := Fr.app N84 N88q
      refine Go.st (fun _ k => st88 _ k) ?_
      show Go p e below _ (T88.setTop (mkF m 85 #[.val (.int p0), .val (.int p1), .val (.ref a2), .val (.ref a3), .val (.int (5 : Int32)), .val (.int (110 : Int32)), .val (.int (1 : Int32)), .val (.int v86), .val (.int (109 : Int32)), .unset] [(.int (fDec (109 : Int32)))]))
      refine Go.st (fun _ k => XS.istore X88.here hx rfl (hb hby at_85) rfl (l' := #[.val (.int p0), .val (.int p1), .val (.ref a2), .val (.ref a3), .val (.int (5 : Int32)), .val (.int (110 : Int32)), .val (.int (1 : Int32)), .val (.int v86), .val (.int (109 : Int32)), .val (.int (fDec (109 : Int32)))]) rfl k) ?_
      show Go p e below _ (T88.setTop (mkF m 87 #[.val (.int p0), .val (.int p1), .val (.ref a2), .val (.ref a3), .val (.int (5 : Int32)), .val (.int (110 : Int32)), .val (.int (1 : Int32)), .val (.int v86), .val (.int (109 : Int32)), .val (.int (fDec (109 : Int32)))] []))
      refine Go.st (fun _ k => XS.iload X88.here hx rfl (hb hby at_87) rfl k) ?_
      refine Go.st (fun _ k => XS.ifNo X88.here hx rfl (hb hby at_89) rfl ((if0 _ _).trans (feq (by decide : ¬ ((1 : Int32) = (0 : Int32)))).1) k) ?_
      show Go p e below _ (T88.setTop (mkF m 92 #[.val (.int p0), .val (.int p1), .val (.ref a2), .val (.ref a3), .val (.int (5 : Int32)), .val (.int (110 : Int32)), .val (.int (1 : Int32)), .val (.int v86), .val (.int (109 : Int32)), .val (.int (fDec (109 : Int32)))] []))
      refine Go.st (fun _ k => XS.iload X88.here hx rfl (hb hby at_92) rfl k) ?_
      refine Go.st (fun _ k => XS.iload X88.here hx rfl (hb hby at_94) rfl k) ?_
      refine Go.st (fun _ k => XS.aloadN X88.here hx rfl (hb hby at_96) rfl rfl k) ?_
      refine Go.st (fun _ k => XS.aloadN X88.here hx rfl (hb hby at_97) rfl rfl k) ?_
      obtain ⟨_, _, ⟨T89, L89, k89, n89⟩, -, X89, ⟨Lc89, hQ89, l89, y89, z89⟩, st89⟩ := Jvm.LawKit.callS X88 hx (y := (⟨"com/example/tokenloom/tokenloom/typespec/StringValueDecodeEscapePinLaw", "expected", "(ILjava/lang/String;Ljava/lang/String;)I"⟩ : MethodName)) hown (mvT hZ (hw _ (List.mem_of_getElem? (i := 38) rfl))) (mvT hZ (hw _ (List.mem_of_getElem? (i := 39) rfl))) (mvT hZ (hw _ (List.mem_of_getElem? (i := 40) rfl))) (mvT hZ (hw _ (List.mem_of_getElem? (i := 41) rfl))) (by decide) (backOf (W := 1) (rmExp l Z aZ hw [] (109 : Int32) a2 a3 b2 kc2 b3 kc3 cs vf h3 n0 hcs hvf F3_S_COMPACT_STRINGS F3_S_SIOOBE_FORMATTER F3_E_a2 F3_F_a2_coder F3_F_a2_value F3_V_b2 Es3 Fc3 Fv3 Va3) hZ (hw _ (List.mem_of_getElem? (i := 41) rfl)) (hw _ (List.mem_of_getElem? (i := 40) rfl)) (by decide) (by decide)) (g := (mkF m 98 #[.val (.int p0), .val (.int p1), .val (.ref a2), .val (.ref a3), .val (.int (5 : Int32)), .val (.int (110 : Int32)), .val (.int (1 : Int32)), .val (.int v86), .val (.int (109 : Int32)), .val (.int (fDec (109 : Int32)))] [(.ref a3), (.ref a2), (.int (109 : Int32)), (.int (fDec (109 : Int32)))])) rfl (by rw [hml]; rfl) (argsL := [(.int (109 : Int32)), (.ref a2), (.ref a3)]) (rest := [(.int (fDec (109 : Int32)))]) (lenOf pda0c35829 rfl) rfl (by show 2 * 0 + _ ≤ _; exact Nat.le_of_eq rfl) (hb hby at_98) (fun _ _ => ⟨rfl, e88, (by decide : 4 + 0 ≤ _), (by decide : 72 + 0 ≤ _)⟩)
      dsimp only [Pt.U, Pt.locs, Pt.cells, Pt.slots] at X89 l89 y89 z89 st89 hQ89
      subst l89 y89 z89
      obtain ⟨rfl, N89q, e89⟩ := hQ89
      have N89 := Fr.app N88 N89q
      refine Go.st (fun _ k => st89 _ k) ?_
      show Go p e below _ (T89.setTop (mkF m 101 #[.val (.int p0), .val (.int p1), .val (.ref a2), .val (.ref a3), .val (.int (5 : Int32)), .val (.int (110 : Int32)), .val (.int (1 : Int32)), .val (.int v86), .val (.int (109 : Int32)), .val (.int (fDec (109 : Int32)))] [(.int (fExp (109 : Int32))), (.int (fDec (109 : Int32)))]))
      refine Go.st (fun _ k => XS.icmpNo X89.here hx rfl (hb hby at_101) rfl (teq (own_same (109 : Int32))).2 k) ?_
      show Go p e below _ (T89.setTop (mkF m 104 #[.val (.int p0), .val (.int p1), .val (.ref a2), .val (.ref a3), .val (.int (5 : Int32)), .val (.int (110 : Int32)), .val (.int (1 : Int32)), .val (.int v86), .val (.int (109 : Int32)), .val (.int (fDec (109 : Int32)))] []))
      refine Go.st (fun _ k => XS.iconst X89.here hx rfl (hb hby at_104) k) ?_
      refine Go.st (fun _ k => XS.goto X89.here hx rfl (pc0 := 105) (pc' := 109) rfl (hb hby at_105) (by decide) (by decide) k) ?_
      show Go p e below _ (T89.setTop (mkF m 109 #[.val (.int p0), .val (.int p1), .val (.ref a2), .val (.ref a3), .val (.int (5 : Int32)), .val (.int (110 : Int32)), .val (.int (1 : Int32)), .val (.int v86), .val (.int (109 : Int32)), .val (.int (fDec (109 : Int32)))] [(.int (1 : Int32))]))
      obtain ⟨fs, hr, hrun, hended, -, hW, hB, hsame⟩ := X89.leaveW (v := some (.int (1 : Int32))) hS3 (by rw [e89]; exact hk3) (fun h => by rw [Bd.returns] at h; cases h)
      refine ⟨_, _, retN X89 hx (t := .boolean) Bd.returns (by simp) (hb hby at_109) hr, hrun, hended, _, _, rfl, ?_, ⟨_, rfl⟩, hW, hB, hsame.mono (by decide) (by decide)⟩
      show Q_rm0 Z p0 p1 cs vf h0 n0 _ T89.heap _
      rw [e89]
      exact ⟨rfl, N89⟩
    · show Go p e below _ (T84.setTop (mkF m 50 #[.val (.int p0), .val (.int p1), .val (.ref a2), .val (.ref a3), .val (.int (5 : Int32)), .val (.int (110 : Int32)), .val (.int (1 : Int32)), .val (.int v86), .unset, .unset] [(.int v86)]))
      refine Go.st (fun _ k => XS.ifYes X84.here hx rfl (pc0 := 50) (pc' := 62) rfl (hb hby at_50) rfl ((if0 _ _).trans (feq hc87).2) (by decide) (by decide) k) ?_
      show Go p e below _ (T84.setTop (mkF m 62 #[.val (.int p0), .val (.int p1), .val (.ref a2), .val (.ref a3), .val (.int (5 : Int32)), .val (.int (110 : Int32)), .val (.int (1 : Int32)), .val (.int v86), .unset, .unset] []))
      refine Go.st (fun _ k => XS.iload X84.here hx rfl (hb hby at_62) rfl k) ?_
      refine Go.st (fun _ k => XS.iconst X84.here hx rfl (hb hby at_64) k) ?_
      by_cases hc90 : v86 = (1 : Int32)
      · show Go p e below _ (T84.setTop (mkF m 65 #[.val (.int p0), .val (.int p1), .val (.ref a2), .val (.ref a3), .val (.int (5 : Int32)), .val (.int (110 : Int32)), .val (.int (1 : Int32)), .val (.int v86), .unset, .unset] [(.int (1 : Int32)), (.int v86)]))
        refine Go.st (fun _ k => XS.icmpNo X84.here hx rfl (hb hby at_65) rfl (teq hc90).2 k) ?_
        show Go p e below _ (T84.setTop (mkF m 68 #[.val (.int p0), .val (.int p1), .val (.ref a2), .val (.ref a3), .val (.int (5 : Int32)), .val (.int (110 : Int32)), .val (.int (1 : Int32)), .val (.int v86), .unset, .unset] []))
        refine Go.st (fun _ k => XS.iload X84.here hx rfl (hb hby at_68) rfl k) ?_
        refine Go.st (fun _ k => XS.iconst X84.here hx rfl (hb hby at_70) k) ?_
        refine Go.st (fun _ k => XS.iadd X84.here hx rfl (hb hby at_71) rfl k) ?_
        refine Go.st (fun _ k => XS.istore X84.here hx rfl (hb hby at_72) rfl (l' := #[.val (.int p0), .val (.int p1), .val (.ref a2), .val (.ref a3), .val (.int (5 : Int32)), .val (.int (110 : Int32)), .val (.int (1 : Int32)), .val (.int v86), .val (.int (111 : Int32)), .unset]) rfl k) ?_
        show Go p e below _ (T84.setTop (mkF m 74 #[.val (.int p0), .val (.int p1), .val (.ref a2), .val (.ref a3), .val (.int (5 : Int32)), .val (.int (110 : Int32)), .val (.int (1 : Int32)), .val (.int v86), .val (.int (111 : Int32)), .unset] []))
        refine Go.st (fun _ k => XS.goto X84.here hx rfl (pc0 := 74) (pc' := 80) rfl (hb hby at_74) (by decide) (by decide) k) ?_
        show Go p e below _ (T84.setTop (mkF m 80 #[.val (.int p0), .val (.int p1), .val (.ref a2), .val (.ref a3), .val (.int (5 : Int32)), .val (.int (110 : Int32)), .val (.int (1 : Int32)), .val (.int v86), .val (.int (111 : Int32)), .unset] []))
        refine Go.st (fun _ k => XS.iload X84.here hx rfl (hb hby at_80) rfl k) ?_
        obtain ⟨_, _, ⟨T91, L91, k91, n91⟩, -, X91, ⟨Lc91, hQ91, l91, y91, z91⟩, st91⟩ := Jvm.LawKit.callS X84 hx (y := (⟨"com/example/tokenloom/tokenloom/typespec/StringValue", "decodeEscape", "(I)I"⟩ : MethodName)) hown (mvT hZ (hw _ (List.mem_of_getElem? (i := 34) rfl))) (mvT hZ (hw _ (List.mem_of_getElem? (i := 35) rfl))) (mvT hZ (hw _ (List.mem_of_getElem? (i := 36) rfl))) (mvT hZ (hw _ (List.mem_of_getElem? (i := 37) rfl))) (by decide) (backOf (W := 0) (rm6 l Z aZ hw [] (111 : Int32) h3 n0 ) hZ (hw _ (List.mem_of_getElem? (i := 37) rfl)) (hw _ (List.mem_of_getElem? (i := 36) rfl)) (by decide) (by decide)) (g := (mkF m 82 #[.val (.int p0), .val (.int p1), .val (.ref a2), .val (.ref a3), .val (.int (5 : Int32)), .val (.int (110 : Int32)), .val (.int (1 : Int32)), .val (.int v86), .val (.int (111 : Int32)), .unset] [(.int (111 : Int32))])) rfl (by rw [hml]; rfl) (argsL := [(.int (111 : Int32))]) (rest := []) (lenOf pd56f530d rfl) rfl (by show 2 * 0 + _ ≤ _; exact Nat.le_of_eq rfl) (hb hby at_82) (fun _ _ => ⟨rfl, e84, (by decide : 4 + 0 ≤ _), (by decide : 72 + 0 ≤ _)⟩)
        dsimp only [Pt.U, Pt.locs, Pt.cells, Pt.slots] at X91 l91 y91 z91 st91 hQ91
        subst l91 y91 z91
        obtain ⟨rfl, N91q, e91⟩ := hQ91
        have N91 := Fr.app N84 N91q
        refine Go.st (fun _ k => st91 _ k) ?_
        show Go p e below _ (T91.setTop (mkF m 85 #[.val (.int p0), .val (.int p1), .val (.ref a2), .val (.ref a3), .val (.int (5 : Int32)), .val (.int (110 : Int32)), .val (.int (1 : Int32)), .val (.int v86), .val (.int (111 : Int32)), .unset] [(.int (fDec (111 : Int32)))]))
        refine Go.st (fun _ k => XS.istore X91.here hx rfl (hb hby at_85) rfl (l' := #[.val (.int p0), .val (.int p1), .val (.ref a2), .val (.ref a3), .val (.int (5 : Int32)), .val (.int (110 : Int32)), .val (.int (1 : Int32)), .val (.int v86), .val (.int (111 : Int32)), .val (.int (fDec (111 : Int32)))]) rfl k) ?_
        show Go p e below _ (T91.setTop (mkF m 87 #[.val (.int p0), .val (.int p1), .val (.ref a2), .val (.ref a3), .val (.int (5 : Int32)), .val (.int (110 : Int32)), .val (.int (1 : Int32)), .val (.int v86), .val (.int (111 : Int32)), .val (.int (fDec (111 : Int32)))] []))
        refine Go.st (fun _ k => XS.iload X91.here hx rfl (hb hby at_87) rfl k) ?_
        refine Go.st (fun _ k => XS.ifNo X91.here hx rfl (hb hby at_89) rfl ((if0 _ _).trans (feq (by decide : ¬ ((1 : Int32) = (0 : Int32)))).1) k) ?_
        show Go p e below _ (T91.setTop (mkF m 92 #[.val (.int p0), .val (.int p1), .val (.ref a2), .val (.ref a3), .val (.int (5 : Int32)), .val (.int (110 : Int32)), .val (.int (1 : Int32)), .val (.int v86), .val (.int (111 : Int32)), .val (.int (fDec (111 : Int32)))] []))
        refine Go.st (fun _ k => XS.iload X91.here hx rfl (hb hby at_92) rfl k) ?_
        refine Go.st (fun _ k => XS.iload X91.here hx rfl (hb hby at_94) rfl k) ?_
        refine Go.st (fun _ k => XS.aloadN X91.here hx rfl (hb hby at_96) rfl rfl k) ?_
        refine Go.st (fun _ k => XS.aloadN X91.here hx rfl (hb hby at_97) rfl rfl k) ?_
        obtain ⟨_, _, ⟨T92, L92, k92, n92⟩, -, X92, ⟨Lc92, hQ92, l92, y92, z92⟩, st92⟩ := Jvm.LawKit.callS X91 hx (y := (⟨"com/example/tokenloom/tokenloom/typespec/StringValueDecodeEscapePinLaw", "expected", "(ILjava/lang/String;Ljava/lang/String;)I"⟩ : MethodName)) hown (mvT hZ (hw _ (List.mem_of_getElem? (i := 38) rfl))) (mvT hZ (hw _ (List.mem_of_getElem? (i := 39) rfl))) (mvT hZ (hw _ (List.mem_of_getElem? (i := 40) rfl))) (mvT hZ (hw _ (List.mem_of_getElem? (i := 41) rfl))) (by decide) (backOf (W := 1) (rmExp l Z aZ hw [] (111 : Int32) a2 a3 b2 kc2 b3 kc3 cs vf h3 n0 hcs hvf F3_S_COMPACT_STRINGS F3_S_SIOOBE_FORMATTER F3_E_a2 F3_F_a2_coder F3_F_a2_value F3_V_b2 Es3 Fc3 Fv3 Va3) hZ (hw _ (List.mem_of_getElem? (i := 41) rfl)) (hw _ (List.mem_of_getElem? (i := 40) rfl)) (by decide) (by decide)) (g := (mkF m 98 #[.val (.int p0), .val (.int p1), .val (.ref a2), .val (.ref a3), .val (.int (5 : Int32)), .val (.int (110 : Int32)), .val (.int (1 : Int32)), .val (.int v86), .val (.int (111 : Int32)), .val (.int (fDec (111 : Int32)))] [(.ref a3), (.ref a2), (.int (111 : Int32)), (.int (fDec (111 : Int32)))])) rfl (by rw [hml]; rfl) (argsL := [(.int (111 : Int32)), (.ref a2), (.ref a3)]) (rest := [(.int (fDec (111 : Int32)))]) (lenOf pda0c35829 rfl) rfl (by show 2 * 0 + _ ≤ _; exact Nat.le_of_eq rfl) (hb hby at_98) (fun _ _ => ⟨rfl, e91, (by decide : 4 + 0 ≤ _), (by decide : 72 + 0 ≤ _)⟩)
        dsimp only [Pt.U, Pt.locs, Pt.cells, Pt.slots] at X92 l92 y92 z92 st92 hQ92
        subst l92 y92 z92
        obtain ⟨rfl, N92q, e92⟩ := hQ92
        have N92 := Fr.app N91 N92q
        refine Go.st (fun _ k => st92 _ k) ?_
        show Go p e below _ (T92.setTop (mkF m 101 #[.val (.int p0), .val (.int p1), .val (.ref a2), .val (.ref a3), .val (.int (5 : Int32)), .val (.int (110 : Int32)), .val (.int (1 : Int32)), .val (.int v86), .val (.int (111 : Int32)), .val (.int (fDec (111 : Int32)))] [(.int (fExp (111 : Int32))), (.int (fDec (111 : Int32)))]))
        refine Go.st (fun _ k => XS.icmpNo X92.here hx rfl (hb hby at_101) rfl (teq (own_same (111 : Int32))).2 k) ?_
        show Go p e below _ (T92.setTop (mkF m 104 #[.val (.int p0), .val (.int p1), .val (.ref a2), .val (.ref a3), .val (.int (5 : Int32)), .val (.int (110 : Int32)), .val (.int (1 : Int32)), .val (.int v86), .val (.int (111 : Int32)), .val (.int (fDec (111 : Int32)))] []))
        refine Go.st (fun _ k => XS.iconst X92.here hx rfl (hb hby at_104) k) ?_
        refine Go.st (fun _ k => XS.goto X92.here hx rfl (pc0 := 105) (pc' := 109) rfl (hb hby at_105) (by decide) (by decide) k) ?_
        show Go p e below _ (T92.setTop (mkF m 109 #[.val (.int p0), .val (.int p1), .val (.ref a2), .val (.ref a3), .val (.int (5 : Int32)), .val (.int (110 : Int32)), .val (.int (1 : Int32)), .val (.int v86), .val (.int (111 : Int32)), .val (.int (fDec (111 : Int32)))] [(.int (1 : Int32))]))
        obtain ⟨fs, hr, hrun, hended, -, hW, hB, hsame⟩ := X92.leaveW (v := some (.int (1 : Int32))) hS3 (by rw [e92]; exact hk3) (fun h => by rw [Bd.returns] at h; cases h)
        refine ⟨_, _, retN X92 hx (t := .boolean) Bd.returns (by simp) (hb hby at_109) hr, hrun, hended, _, _, rfl, ?_, ⟨_, rfl⟩, hW, hB, hsame.mono (by decide) (by decide)⟩
        show Q_rm0 Z p0 p1 cs vf h0 n0 _ T92.heap _
        rw [e92]
        exact ⟨rfl, N92⟩
      · show Go p e below _ (T84.setTop (mkF m 65 #[.val (.int p0), .val (.int p1), .val (.ref a2), .val (.ref a3), .val (.int (5 : Int32)), .val (.int (110 : Int32)), .val (.int (1 : Int32)), .val (.int v86), .unset, .unset] [(.int (1 : Int32)), (.int v86)]))
        refine Go.st (fun _ k => XS.icmpYes X84.here hx rfl (pc0 := 65) (pc' := 77) rfl (hb hby at_65) rfl (feq hc90).2 (by decide) (by decide) k) ?_
        show Go p e below _ (T84.setTop (mkF m 77 #[.val (.int p0), .val (.int p1), .val (.ref a2), .val (.ref a3), .val (.int (5 : Int32)), .val (.int (110 : Int32)), .val (.int (1 : Int32)), .val (.int v86), .unset, .unset] []))
        refine Go.st (fun _ k => XS.iloadN X84.here hx rfl (hb hby at_77) rfl k) ?_
        refine Go.st (fun _ k => XS.istore X84.here hx rfl (hb hby at_78) rfl (l' := #[.val (.int p0), .val (.int p1), .val (.ref a2), .val (.ref a3), .val (.int (5 : Int32)), .val (.int (110 : Int32)), .val (.int (1 : Int32)), .val (.int v86), .val (.int p0), .unset]) rfl k) ?_
        show Go p e below _ (T84.setTop (mkF m 80 #[.val (.int p0), .val (.int p1), .val (.ref a2), .val (.ref a3), .val (.int (5 : Int32)), .val (.int (110 : Int32)), .val (.int (1 : Int32)), .val (.int v86), .val (.int p0), .unset] []))
        refine Go.st (fun _ k => XS.iload X84.here hx rfl (hb hby at_80) rfl k) ?_
        obtain ⟨_, _, ⟨T93, L93, k93, n93⟩, -, X93, ⟨Lc93, hQ93, l93, y93, z93⟩, st93⟩ := Jvm.LawKit.callS X84 hx (y := (⟨"com/example/tokenloom/tokenloom/typespec/StringValue", "decodeEscape", "(I)I"⟩ : MethodName)) hown (mvT hZ (hw _ (List.mem_of_getElem? (i := 34) rfl))) (mvT hZ (hw _ (List.mem_of_getElem? (i := 35) rfl))) (mvT hZ (hw _ (List.mem_of_getElem? (i := 36) rfl))) (mvT hZ (hw _ (List.mem_of_getElem? (i := 37) rfl))) (by decide) (backOf (W := 0) (rm6 l Z aZ hw [] p0 h3 n0 ) hZ (hw _ (List.mem_of_getElem? (i := 37) rfl)) (hw _ (List.mem_of_getElem? (i := 36) rfl)) (by decide) (by decide)) (g := (mkF m 82 #[.val (.int p0), .val (.int p1), .val (.ref a2), .val (.ref a3), .val (.int (5 : Int32)), .val (.int (110 : Int32)), .val (.int (1 : Int32)), .val (.int v86), .val (.int p0), .unset] [(.int p0)])) rfl (by rw [hml]; rfl) (argsL := [(.int p0)]) (rest := []) (lenOf pd56f530d rfl) rfl (by show 2 * 0 + _ ≤ _; exact Nat.le_of_eq rfl) (hb hby at_82) (fun _ _ => ⟨rfl, e84, (by decide : 4 + 0 ≤ _), (by decide : 72 + 0 ≤ _)⟩)
        dsimp only [Pt.U, Pt.locs, Pt.cells, Pt.slots] at X93 l93 y93 z93 st93 hQ93
        subst l93 y93 z93
        obtain ⟨rfl, N93q, e93⟩ := hQ93
        have N93 := Fr.app N84 N93q
        refine Go.st (fun _ k => st93 _ k) ?_
        show Go p e below _ (T93.setTop (mkF m 85 #[.val (.int p0), .val (.int p1), .val (.ref a2), .val (.ref a3), .val (.int (5 : Int32)), .val (.int (110 : Int32)), .val (.int (1 : Int32)), .val (.int v86), .val (.int p0), .unset] [(.int (fDec p0))]))
        refine Go.st (fun _ k => XS.istore X93.here hx rfl (hb hby at_85) rfl (l' := #[.val (.int p0), .val (.int p1), .val (.ref a2), .val (.ref a3), .val (.int (5 : Int32)), .val (.int (110 : Int32)), .val (.int (1 : Int32)), .val (.int v86), .val (.int p0), .val (.int (fDec p0))]) rfl k) ?_
        show Go p e below _ (T93.setTop (mkF m 87 #[.val (.int p0), .val (.int p1), .val (.ref a2), .val (.ref a3), .val (.int (5 : Int32)), .val (.int (110 : Int32)), .val (.int (1 : Int32)), .val (.int v86), .val (.int p0), .val (.int (fDec p0))] []))
        refine Go.st (fun _ k => XS.iload X93.here hx rfl (hb hby at_87) rfl k) ?_
        refine Go.st (fun _ k => XS.ifNo X93.here hx rfl (hb hby at_89) rfl ((if0 _ _).trans (feq (by decide : ¬ ((1 : Int32) = (0 : Int32)))).1) k) ?_
        show Go p e below _ (T93.setTop (mkF m 92 #[.val (.int p0), .val (.int p1), .val (.ref a2), .val (.ref a3), .val (.int (5 : Int32)), .val (.int (110 : Int32)), .val (.int (1 : Int32)), .val (.int v86), .val (.int p0), .val (.int (fDec p0))] []))
        refine Go.st (fun _ k => XS.iload X93.here hx rfl (hb hby at_92) rfl k) ?_
        refine Go.st (fun _ k => XS.iload X93.here hx rfl (hb hby at_94) rfl k) ?_
        refine Go.st (fun _ k => XS.aloadN X93.here hx rfl (hb hby at_96) rfl rfl k) ?_
        refine Go.st (fun _ k => XS.aloadN X93.here hx rfl (hb hby at_97) rfl rfl k) ?_
        obtain ⟨_, _, ⟨T94, L94, k94, n94⟩, -, X94, ⟨Lc94, hQ94, l94, y94, z94⟩, st94⟩ := Jvm.LawKit.callS X93 hx (y := (⟨"com/example/tokenloom/tokenloom/typespec/StringValueDecodeEscapePinLaw", "expected", "(ILjava/lang/String;Ljava/lang/String;)I"⟩ : MethodName)) hown (mvT hZ (hw _ (List.mem_of_getElem? (i := 38) rfl))) (mvT hZ (hw _ (List.mem_of_getElem? (i := 39) rfl))) (mvT hZ (hw _ (List.mem_of_getElem? (i := 40) rfl))) (mvT hZ (hw _ (List.mem_of_getElem? (i := 41) rfl))) (by decide) (backOf (W := 1) (rmExp l Z aZ hw [] p0 a2 a3 b2 kc2 b3 kc3 cs vf h3 n0 hcs hvf F3_S_COMPACT_STRINGS F3_S_SIOOBE_FORMATTER F3_E_a2 F3_F_a2_coder F3_F_a2_value F3_V_b2 Es3 Fc3 Fv3 Va3) hZ (hw _ (List.mem_of_getElem? (i := 41) rfl)) (hw _ (List.mem_of_getElem? (i := 40) rfl)) (by decide) (by decide)) (g := (mkF m 98 #[.val (.int p0), .val (.int p1), .val (.ref a2), .val (.ref a3), .val (.int (5 : Int32)), .val (.int (110 : Int32)), .val (.int (1 : Int32)), .val (.int v86), .val (.int p0), .val (.int (fDec p0))] [(.ref a3), (.ref a2), (.int p0), (.int (fDec p0))])) rfl (by rw [hml]; rfl) (argsL := [(.int p0), (.ref a2), (.ref a3)]) (rest := [(.int (fDec p0))]) (lenOf pda0c35829 rfl) rfl (by show 2 * 0 + _ ≤ _; exact Nat.le_of_eq rfl) (hb hby at_98) (fun _ _ => ⟨rfl, e93, (by decide : 4 + 0 ≤ _), (by decide : 72 + 0 ≤ _)⟩)
        dsimp only [Pt.U, Pt.locs, Pt.cells, Pt.slots] at X94 l94 y94 z94 st94 hQ94
        subst l94 y94 z94
        obtain ⟨rfl, N94q, e94⟩ := hQ94
        have N94 := Fr.app N93 N94q
        refine Go.st (fun _ k => st94 _ k) ?_
        show Go p e below _ (T94.setTop (mkF m 101 #[.val (.int p0), .val (.int p1), .val (.ref a2), .val (.ref a3), .val (.int (5 : Int32)), .val (.int (110 : Int32)), .val (.int (1 : Int32)), .val (.int v86), .val (.int p0), .val (.int (fDec p0))] [(.int (fExp p0)), (.int (fDec p0))]))
        refine Go.st (fun _ k => XS.icmpNo X94.here hx rfl (hb hby at_101) rfl (teq (own_same p0)).2 k) ?_
        show Go p e below _ (T94.setTop (mkF m 104 #[.val (.int p0), .val (.int p1), .val (.ref a2), .val (.ref a3), .val (.int (5 : Int32)), .val (.int (110 : Int32)), .val (.int (1 : Int32)), .val (.int v86), .val (.int p0), .val (.int (fDec p0))] []))
        refine Go.st (fun _ k => XS.iconst X94.here hx rfl (hb hby at_104) k) ?_
        refine Go.st (fun _ k => XS.goto X94.here hx rfl (pc0 := 105) (pc' := 109) rfl (hb hby at_105) (by decide) (by decide) k) ?_
        show Go p e below _ (T94.setTop (mkF m 109 #[.val (.int p0), .val (.int p1), .val (.ref a2), .val (.ref a3), .val (.int (5 : Int32)), .val (.int (110 : Int32)), .val (.int (1 : Int32)), .val (.int v86), .val (.int p0), .val (.int (fDec p0))] [(.int (1 : Int32))]))
        obtain ⟨fs, hr, hrun, hended, -, hW, hB, hsame⟩ := X94.leaveW (v := some (.int (1 : Int32))) hS3 (by rw [e94]; exact hk3) (fun h => by rw [Bd.returns] at h; cases h)
        refine ⟨_, _, retN X94 hx (t := .boolean) Bd.returns (by simp) (hb hby at_109) hr, hrun, hended, _, _, rfl, ?_, ⟨_, rfl⟩, hW, hB, hsame.mono (by decide) (by decide)⟩
        show Q_rm0 Z p0 p1 cs vf h0 n0 _ T94.heap _
        rw [e94]
        exact ⟨rfl, N94⟩
  · rw [hr4]
    show Go p e below _ (T3.setTop (mkF m 10 #[.val (.int p0), .val (.int p1), .val (.ref a2), .val (.ref a3), .unset, .unset, .unset, .unset, .unset, .unset] [(.int (6 : Int32))]))
    refine Go.st (fun _ k => XS.istore X3.here hx rfl (hb hby at_10) rfl (l' := #[.val (.int p0), .val (.int p1), .val (.ref a2), .val (.ref a3), .val (.int (6 : Int32)), .unset, .unset, .unset, .unset, .unset]) rfl k) ?_
    show Go p e below _ (T3.setTop (mkF m 12 #[.val (.int p0), .val (.int p1), .val (.ref a2), .val (.ref a3), .val (.int (6 : Int32)), .unset, .unset, .unset, .unset, .unset] []))
    refine Go.st (fun _ k => XS.aloadN X3.here hx rfl (hb hby at_12) rfl rfl k) ?_
    refine Go.st (fun _ k => XS.iload X3.here hx rfl (hb hby at_13) rfl k) ?_
    obtain ⟨cq95, kq95, q95a, q95b, q95c⟩ := isOf hZ e3 F3_E_a2
    obtain ⟨_, _, ⟨T95, L95, k95, n95⟩, -, X95, ⟨Lc95, hQ95, l95, y95, z95⟩, st95⟩ := X3.virtualBack hx (y := (⟨"java/lang/String", "charAt", "(I)C"⟩ : MethodName)) (z := (⟨"java/lang/String", "charAt", "(I)C"⟩ : MethodName)) hown (mvT hZ (hw _ (List.mem_of_getElem? (i := 9) rfl))) (mvT hZ (hw _ (List.mem_of_getElem? (i := 10) rfl))) (notFace_of_selects (args := #[]) (mvT hZ (hw _ (List.mem_of_getElem? (i := 12) rfl)))) (mvT hZ (hw _ (List.mem_of_getElem? (i := 12) rfl))) (mvT hZ (hw _ (List.mem_of_getElem? (i := 11) rfl))) (by decide) (backOf (W := 0) (rmChar l Z aZ hw [] (114 : Int32) a2 (6 : Int32) b2 (0 : Int32) cs vf kc2 (8 : Int32) [(.int (34 : Int32)), (.int (92 : Int32)), (.int (36 : Int32)), (.int (64 : Int32)), (.int (96 : Int32)), (.int (110 : Int32)), (.int (114 : Int32)), (.int (116 : Int32))] h3 n0 hcs rfl hvf ⟨by decide, by decide⟩ rfl F3_F_a2_value F3_F_a2_coder F3_E_a2 F3_S_COMPACT_STRINGS F3_S_SIOOBE_FORMATTER F3_V_b2) hZ (hw _ (List.mem_of_getElem? (i := 13) rfl)) (hw _ (List.mem_of_getElem? (i := 1) rfl)) (by decide) (by decide)) q95a q95c (g := (mkF m 15 #[.val (.int p0), .val (.int p1), .val (.ref a2), .val (.ref a3), .val (.int (6 : Int32)), .unset, .unset, .unset, .unset, .unset] [(.int (6 : Int32)), (.ref a2)])) rfl (by rw [hml]; rfl) (Steps.refl _) (argsL := [(.int (6 : Int32))]) (rest := []) (lenOf pd56f5307 rfl) rfl (by show 2 * 0 + _ ≤ _; exact Nat.le_of_eq rfl) (hb hby at_15) (fun _ _ => ⟨rfl, e3, (by decide : 4 + 0 ≤ _), (by decide : 72 + 0 ≤ _)⟩)
    dsimp only [Pt.U, Pt.locs, Pt.cells, Pt.slots] at X95 l95 y95 z95 st95 hQ95
    subst l95 y95 z95
    obtain ⟨rfl, N95q, e95⟩ := hQ95
    have N95 := Fr.app N0 N95q
    refine Go.st (fun _ k => st95.trans k) ?_
    show Go p e below _ (T95.setTop (mkF m 18 #[.val (.int p0), .val (.int p1), .val (.ref a2), .val (.ref a3), .val (.int (6 : Int32)), .unset, .unset, .unset, .unset, .unset] [(.int (jChar (114 : Int32)))]))
    have hs96 : (jChar (114 : Int32)) = (114 : Int32) := (by decide +kernel)
    rw [hs96]
    show Go p e below _ (T95.setTop (mkF m 18 #[.val (.int p0), .val (.int p1), .val (.ref a2), .val (.ref a3), .val (.int (6 : Int32)), .unset, .unset, .unset, .unset, .unset] [(.int (114 : Int32))]))
    refine Go.st (fun _ k => XS.istore X95.here hx rfl (hb hby at_18) rfl (l' := #[.val (.int p0), .val (.int p1), .val (.ref a2), .val (.ref a3), .val (.int (6 : Int32)), .val (.int (114 : Int32)), .unset, .unset, .unset, .unset]) rfl k) ?_
    show Go p e below _ (T95.setTop (mkF m 20 #[.val (.int p0), .val (.int p1), .val (.ref a2), .val (.ref a3), .val (.int (6 : Int32)), .val (.int (114 : Int32)), .unset, .unset, .unset, .unset] []))
    refine Go.st (fun _ k => XS.iload X95.here hx rfl (hb hby at_20) rfl k) ?_
    obtain ⟨_, _, ⟨T97, L97, k97, n97⟩, -, X97, ⟨Lc97, hQ97, l97, y97, z97⟩, st97⟩ := Jvm.LawKit.callS X95 hx (y := (⟨"com/example/tokenloom/tokenloom/typespec/StringValue", "decodeEscape", "(I)I"⟩ : MethodName)) hown (mvT hZ (hw _ (List.mem_of_getElem? (i := 34) rfl))) (mvT hZ (hw _ (List.mem_of_getElem? (i := 35) rfl))) (mvT hZ (hw _ (List.mem_of_getElem? (i := 36) rfl))) (mvT hZ (hw _ (List.mem_of_getElem? (i := 37) rfl))) (by decide) (backOf (W := 0) (rm6 l Z aZ hw [] (114 : Int32) h3 n0 ) hZ (hw _ (List.mem_of_getElem? (i := 37) rfl)) (hw _ (List.mem_of_getElem? (i := 36) rfl)) (by decide) (by decide)) (g := (mkF m 22 #[.val (.int p0), .val (.int p1), .val (.ref a2), .val (.ref a3), .val (.int (6 : Int32)), .val (.int (114 : Int32)), .unset, .unset, .unset, .unset] [(.int (114 : Int32))])) rfl (by rw [hml]; rfl) (argsL := [(.int (114 : Int32))]) (rest := []) (lenOf pd56f530d rfl) rfl (by show 2 * 0 + _ ≤ _; exact Nat.le_of_eq rfl) (hb hby at_22) (fun _ _ => ⟨rfl, e95, (by decide : 4 + 0 ≤ _), (by decide : 72 + 0 ≤ _)⟩)
    dsimp only [Pt.U, Pt.locs, Pt.cells, Pt.slots] at X97 l97 y97 z97 st97 hQ97
    subst l97 y97 z97
    obtain ⟨rfl, N97q, e97⟩ := hQ97
    have N97 := Fr.app N95 N97q
    refine Go.st (fun _ k => st97 _ k) ?_
    show Go p e below _ (T97.setTop (mkF m 25 #[.val (.int p0), .val (.int p1), .val (.ref a2), .val (.ref a3), .val (.int (6 : Int32)), .val (.int (114 : Int32)), .unset, .unset, .unset, .unset] [(.int (fDec (114 : Int32)))]))
    have hs98 : (fDec (114 : Int32)) = (13 : Int32) := (by decide +kernel)
    rw [hs98]
    show Go p e below _ (T97.setTop (mkF m 25 #[.val (.int p0), .val (.int p1), .val (.ref a2), .val (.ref a3), .val (.int (6 : Int32)), .val (.int (114 : Int32)), .unset, .unset, .unset, .unset] [(.int (13 : Int32))]))
    refine Go.st (fun _ k => XS.aloadN X97.here hx rfl (hb hby at_25) rfl rfl k) ?_
    refine Go.st (fun _ k => XS.iload X97.here hx rfl (hb hby at_26) rfl k) ?_
    obtain ⟨cq99, kq99, q99a, q99b, q99c⟩ := isOf hZ e97 Es3
    obtain ⟨_, _, ⟨T99, L99, k99, n99⟩, -, X99, ⟨Lc99, hQ99, l99, y99, z99⟩, st99⟩ := X97.virtualBack hx (y := (⟨"java/lang/String", "charAt", "(I)C"⟩ : MethodName)) (z := (⟨"java/lang/String", "charAt", "(I)C"⟩ : MethodName)) hown (mvT hZ (hw _ (List.mem_of_getElem? (i := 9) rfl))) (mvT hZ (hw _ (List.mem_of_getElem? (i := 10) rfl))) (notFace_of_selects (args := #[]) (mvT hZ (hw _ (List.mem_of_getElem? (i := 12) rfl)))) (mvT hZ (hw _ (List.mem_of_getElem? (i := 12) rfl))) (mvT hZ (hw _ (List.mem_of_getElem? (i := 11) rfl))) (by decide) (backOf (W := 1) (rmChar l Z aZ hw [] (13 : Int32) a3 (6 : Int32) b3 (0 : Int32) cs vf kc3 (8 : Int32) [(.int (34 : Int32)), (.int (92 : Int32)), (.int (36 : Int32)), (.int (64 : Int32)), (.int (96 : Int32)), (.int (10 : Int32)), (.int (13 : Int32)), (.int (9 : Int32))] h3 n0 hcs rfl hvf ⟨by decide, by decide⟩ rfl Fv3 Fc3 Es3 F3_S_COMPACT_STRINGS F3_S_SIOOBE_FORMATTER Va3) hZ (hw _ (List.mem_of_getElem? (i := 13) rfl)) (hw _ (List.mem_of_getElem? (i := 1) rfl)) (by decide) (by decide)) q99a q99c (g := (mkF m 28 #[.val (.int p0), .val (.int p1), .val (.ref a2), .val (.ref a3), .val (.int (6 : Int32)), .val (.int (114 : Int32)), .unset, .unset, .unset, .unset] [(.int (6 : Int32)), (.ref a3), (.int (13 : Int32))])) rfl (by rw [hml]; rfl) (Steps.refl _) (argsL := [(.int (6 : Int32))]) (rest := [(.int (13 : Int32))]) (lenOf pd56f5307 rfl) rfl (by show 2 * 0 + _ ≤ _; exact Nat.le_of_eq rfl) (hb hby at_28) (fun _ _ => ⟨rfl, e97, (by decide : 4 + 0 ≤ _), (by decide : 72 + 0 ≤ _)⟩)
    dsimp only [Pt.U, Pt.locs, Pt.cells, Pt.slots] at X99 l99 y99 z99 st99 hQ99
    subst l99 y99 z99
    obtain ⟨rfl, N99q, e99⟩ := hQ99
    have N99 := Fr.app N97 N99q
    refine Go.st (fun _ k => st99.trans k) ?_
    show Go p e below _ (T99.setTop (mkF m 31 #[.val (.int p0), .val (.int p1), .val (.ref a2), .val (.ref a3), .val (.int (6 : Int32)), .val (.int (114 : Int32)), .unset, .unset, .unset, .unset] [(.int (jChar (13 : Int32))), (.int (13 : Int32))]))
    have hs100 : (jChar (13 : Int32)) = (13 : Int32) := (by decide +kernel)
    rw [hs100]
    show Go p e below _ (T99.setTop (mkF m 31 #[.val (.int p0), .val (.int p1), .val (.ref a2), .val (.ref a3), .val (.int (6 : Int32)), .val (.int (114 : Int32)), .unset, .unset, .unset, .unset] [(.int (13 : Int32)), (.int (13 : Int32))]))
    refine Go.st (fun _ k => XS.icmpNo X99.here hx rfl (hb hby at_31) rfl (teq (by decide : ((13 : Int32) = (13 : Int32)))).2 k) ?_
    show Go p e below _ (T99.setTop (mkF m 34 #[.val (.int p0), .val (.int p1), .val (.ref a2), .val (.ref a3), .val (.int (6 : Int32)), .val (.int (114 : Int32)), .unset, .unset, .unset, .unset] []))
    refine Go.st (fun _ k => XS.iconst X99.here hx rfl (hb hby at_34) k) ?_
    refine Go.st (fun _ k => XS.goto X99.here hx rfl (pc0 := 35) (pc' := 39) rfl (hb hby at_35) (by decide) (by decide) k) ?_
    show Go p e below _ (T99.setTop (mkF m 39 #[.val (.int p0), .val (.int p1), .val (.ref a2), .val (.ref a3), .val (.int (6 : Int32)), .val (.int (114 : Int32)), .unset, .unset, .unset, .unset] [(.int (1 : Int32))]))
    refine Go.st (fun _ k => XS.istore X99.here hx rfl (hb hby at_39) rfl (l' := #[.val (.int p0), .val (.int p1), .val (.ref a2), .val (.ref a3), .val (.int (6 : Int32)), .val (.int (114 : Int32)), .val (.int (1 : Int32)), .unset, .unset, .unset]) rfl k) ?_
    show Go p e below _ (T99.setTop (mkF m 41 #[.val (.int p0), .val (.int p1), .val (.ref a2), .val (.ref a3), .val (.int (6 : Int32)), .val (.int (114 : Int32)), .val (.int (1 : Int32)), .unset, .unset, .unset] []))
    refine Go.st (fun _ k => XS.iloadN X99.here hx rfl (hb hby at_41) rfl k) ?_
    refine Go.st (fun _ k => XS.iconst X99.here hx rfl (hb hby at_42) k) ?_
    refine Go.st (fun _ k => XS.iushr X99.here hx rfl (hb hby at_43) rfl k) ?_
    show Go p e below _ (T99.setTop (mkF m 44 #[.val (.int p0), .val (.int p1), .val (.ref a2), .val (.ref a3), .val (.int (6 : Int32)), .val (.int (114 : Int32)), .val (.int (1 : Int32)), .unset, .unset, .unset] [(.int ((p1.toUInt32 >>> ((3 : Int32) &&& 31).toUInt32).toInt32))]))
    refine Go.st (fun _ k => XS.iconst X99.here hx rfl (hb hby at_44) k) ?_
    refine Go.st (fun _ k => XS.iand X99.here hx rfl (hb hby at_45) rfl k) ?_
    show Go p e below _ (T99.setTop (mkF m 46 #[.val (.int p0), .val (.int p1), .val (.ref a2), .val (.ref a3), .val (.int (6 : Int32)), .val (.int (114 : Int32)), .val (.int (1 : Int32)), .unset, .unset, .unset] [(.int (((p1.toUInt32 >>> ((3 : Int32) &&& 31).toUInt32).toInt32) &&& (3 : Int32)))]))
    generalize hv101 : (((p1.toUInt32 >>> ((3 : Int32) &&& 31).toUInt32).toInt32) &&& (3 : Int32)) = v101
    refine Go.st (fun _ k => XS.istore X99.here hx rfl (hb hby at_46) rfl (l' := #[.val (.int p0), .val (.int p1), .val (.ref a2), .val (.ref a3), .val (.int (6 : Int32)), .val (.int (114 : Int32)), .val (.int (1 : Int32)), .val (.int v101), .unset, .unset]) rfl k) ?_
    show Go p e below _ (T99.setTop (mkF m 48 #[.val (.int p0), .val (.int p1), .val (.ref a2), .val (.ref a3), .val (.int (6 : Int32)), .val (.int (114 : Int32)), .val (.int (1 : Int32)), .val (.int v101), .unset, .unset] []))
    refine Go.st (fun _ k => XS.iload X99.here hx rfl (hb hby at_48) rfl k) ?_
    by_cases hc102 : v101 = (0 : Int32)
    · show Go p e below _ (T99.setTop (mkF m 50 #[.val (.int p0), .val (.int p1), .val (.ref a2), .val (.ref a3), .val (.int (6 : Int32)), .val (.int (114 : Int32)), .val (.int (1 : Int32)), .val (.int v101), .unset, .unset] [(.int v101)]))
      refine Go.st (fun _ k => XS.ifNo X99.here hx rfl (hb hby at_50) rfl ((if0 _ _).trans (teq hc102).2) k) ?_
      show Go p e below _ (T99.setTop (mkF m 53 #[.val (.int p0), .val (.int p1), .val (.ref a2), .val (.ref a3), .val (.int (6 : Int32)), .val (.int (114 : Int32)), .val (.int (1 : Int32)), .val (.int v101), .unset, .unset] []))
      refine Go.st (fun _ k => XS.iload X99.here hx rfl (hb hby at_53) rfl k) ?_
      refine Go.st (fun _ k => XS.iconst X99.here hx rfl (hb hby at_55) k) ?_
      refine Go.st (fun _ k => XS.isub X99.here hx rfl (hb hby at_56) rfl k) ?_
      refine Go.st (fun _ k => XS.istore X99.here hx rfl (hb hby at_57) rfl (l' := #[.val (.int p0), .val (.int p1), .val (.ref a2), .val (.ref a3), .val (.int (6 : Int32)), .val (.int (114 : Int32)), .val (.int (1 : Int32)), .val (.int v101), .val (.int (113 : Int32)), .unset]) rfl k) ?_
      show Go p e below _ (T99.setTop (mkF m 59 #[.val (.int p0), .val (.int p1), .val (.ref a2), .val (.ref a3), .val (.int (6 : Int32)), .val (.int (114 : Int32)), .val (.int (1 : Int32)), .val (.int v101), .val (.int (113 : Int32)), .unset] []))
      refine Go.st (fun _ k => XS.goto X99.here hx rfl (pc0 := 59) (pc' := 80) rfl (hb hby at_59) (by decide) (by decide) k) ?_
      show Go p e below _ (T99.setTop (mkF m 80 #[.val (.int p0), .val (.int p1), .val (.ref a2), .val (.ref a3), .val (.int (6 : Int32)), .val (.int (114 : Int32)), .val (.int (1 : Int32)), .val (.int v101), .val (.int (113 : Int32)), .unset] []))
      refine Go.st (fun _ k => XS.iload X99.here hx rfl (hb hby at_80) rfl k) ?_
      obtain ⟨_, _, ⟨T103, L103, k103, n103⟩, -, X103, ⟨Lc103, hQ103, l103, y103, z103⟩, st103⟩ := Jvm.LawKit.callS X99 hx (y := (⟨"com/example/tokenloom/tokenloom/typespec/StringValue", "decodeEscape", "(I)I"⟩ : MethodName)) hown (mvT hZ (hw _ (List.mem_of_getElem? (i := 34) rfl))) (mvT hZ (hw _ (List.mem_of_getElem? (i := 35) rfl))) (mvT hZ (hw _ (List.mem_of_getElem? (i := 36) rfl))) (mvT hZ (hw _ (List.mem_of_getElem? (i := 37) rfl))) (by decide) (backOf (W := 0) (rm6 l Z aZ hw [] (113 : Int32) h3 n0 ) hZ (hw _ (List.mem_of_getElem? (i := 37) rfl)) (hw _ (List.mem_of_getElem? (i := 36) rfl)) (by decide) (by decide)) (g := (mkF m 82 #[.val (.int p0), .val (.int p1), .val (.ref a2), .val (.ref a3), .val (.int (6 : Int32)), .val (.int (114 : Int32)), .val (.int (1 : Int32)), .val (.int v101), .val (.int (113 : Int32)), .unset] [(.int (113 : Int32))])) rfl (by rw [hml]; rfl) (argsL := [(.int (113 : Int32))]) (rest := []) (lenOf pd56f530d rfl) rfl (by show 2 * 0 + _ ≤ _; exact Nat.le_of_eq rfl) (hb hby at_82) (fun _ _ => ⟨rfl, e99, (by decide : 4 + 0 ≤ _), (by decide : 72 + 0 ≤ _)⟩)
      dsimp only [Pt.U, Pt.locs, Pt.cells, Pt.slots] at X103 l103 y103 z103 st103 hQ103
      subst l103 y103 z103
      obtain ⟨rfl, N103q, e103⟩ := hQ103
      have N103 := Fr.app N99 N103q
      refine Go.st (fun _ k => st103 _ k) ?_
      show Go p e below _ (T103.setTop (mkF m 85 #[.val (.int p0), .val (.int p1), .val (.ref a2), .val (.ref a3), .val (.int (6 : Int32)), .val (.int (114 : Int32)), .val (.int (1 : Int32)), .val (.int v101), .val (.int (113 : Int32)), .unset] [(.int (fDec (113 : Int32)))]))
      refine Go.st (fun _ k => XS.istore X103.here hx rfl (hb hby at_85) rfl (l' := #[.val (.int p0), .val (.int p1), .val (.ref a2), .val (.ref a3), .val (.int (6 : Int32)), .val (.int (114 : Int32)), .val (.int (1 : Int32)), .val (.int v101), .val (.int (113 : Int32)), .val (.int (fDec (113 : Int32)))]) rfl k) ?_
      show Go p e below _ (T103.setTop (mkF m 87 #[.val (.int p0), .val (.int p1), .val (.ref a2), .val (.ref a3), .val (.int (6 : Int32)), .val (.int (114 : Int32)), .val (.int (1 : Int32)), .val (.int v101), .val (.int (113 : Int32)), .val (.int (fDec (113 : Int32)))] []))
      refine Go.st (fun _ k => XS.iload X103.here hx rfl (hb hby at_87) rfl k) ?_
      refine Go.st (fun _ k => XS.ifNo X103.here hx rfl (hb hby at_89) rfl ((if0 _ _).trans (feq (by decide : ¬ ((1 : Int32) = (0 : Int32)))).1) k) ?_
      show Go p e below _ (T103.setTop (mkF m 92 #[.val (.int p0), .val (.int p1), .val (.ref a2), .val (.ref a3), .val (.int (6 : Int32)), .val (.int (114 : Int32)), .val (.int (1 : Int32)), .val (.int v101), .val (.int (113 : Int32)), .val (.int (fDec (113 : Int32)))] []))
      refine Go.st (fun _ k => XS.iload X103.here hx rfl (hb hby at_92) rfl k) ?_
      refine Go.st (fun _ k => XS.iload X103.here hx rfl (hb hby at_94) rfl k) ?_
      refine Go.st (fun _ k => XS.aloadN X103.here hx rfl (hb hby at_96) rfl rfl k) ?_
      refine Go.st (fun _ k => XS.aloadN X103.here hx rfl (hb hby at_97) rfl rfl k) ?_
      obtain ⟨_, _, ⟨T104, L104, k104, n104⟩, -, X104, ⟨Lc104, hQ104, l104, y104, z104⟩, st104⟩ := Jvm.LawKit.callS X103 hx (y := (⟨"com/example/tokenloom/tokenloom/typespec/StringValueDecodeEscapePinLaw", "expected", "(ILjava/lang/String;Ljava/lang/String;)I"⟩ : MethodName)) hown (mvT hZ (hw _ (List.mem_of_getElem? (i := 38) rfl))) (mvT hZ (hw _ (List.mem_of_getElem? (i := 39) rfl))) (mvT hZ (hw _ (List.mem_of_getElem? (i := 40) rfl))) (mvT hZ (hw _ (List.mem_of_getElem? (i := 41) rfl))) (by decide) (backOf (W := 1) (rmExp l Z aZ hw [] (113 : Int32) a2 a3 b2 kc2 b3 kc3 cs vf h3 n0 hcs hvf F3_S_COMPACT_STRINGS F3_S_SIOOBE_FORMATTER F3_E_a2 F3_F_a2_coder F3_F_a2_value F3_V_b2 Es3 Fc3 Fv3 Va3) hZ (hw _ (List.mem_of_getElem? (i := 41) rfl)) (hw _ (List.mem_of_getElem? (i := 40) rfl)) (by decide) (by decide)) (g := (mkF m 98 #[.val (.int p0), .val (.int p1), .val (.ref a2), .val (.ref a3), .val (.int (6 : Int32)), .val (.int (114 : Int32)), .val (.int (1 : Int32)), .val (.int v101), .val (.int (113 : Int32)), .val (.int (fDec (113 : Int32)))] [(.ref a3), (.ref a2), (.int (113 : Int32)), (.int (fDec (113 : Int32)))])) rfl (by rw [hml]; rfl) (argsL := [(.int (113 : Int32)), (.ref a2), (.ref a3)]) (rest := [(.int (fDec (113 : Int32)))]) (lenOf pda0c35829 rfl) rfl (by show 2 * 0 + _ ≤ _; exact Nat.le_of_eq rfl) (hb hby at_98) (fun _ _ => ⟨rfl, e103, (by decide : 4 + 0 ≤ _), (by decide : 72 + 0 ≤ _)⟩)
      dsimp only [Pt.U, Pt.locs, Pt.cells, Pt.slots] at X104 l104 y104 z104 st104 hQ104
      subst l104 y104 z104
      obtain ⟨rfl, N104q, e104⟩ := hQ104
      have N104 := Fr.app N103 N104q
      refine Go.st (fun _ k => st104 _ k) ?_
      show Go p e below _ (T104.setTop (mkF m 101 #[.val (.int p0), .val (.int p1), .val (.ref a2), .val (.ref a3), .val (.int (6 : Int32)), .val (.int (114 : Int32)), .val (.int (1 : Int32)), .val (.int v101), .val (.int (113 : Int32)), .val (.int (fDec (113 : Int32)))] [(.int (fExp (113 : Int32))), (.int (fDec (113 : Int32)))]))
      refine Go.st (fun _ k => XS.icmpNo X104.here hx rfl (hb hby at_101) rfl (teq (own_same (113 : Int32))).2 k) ?_
      show Go p e below _ (T104.setTop (mkF m 104 #[.val (.int p0), .val (.int p1), .val (.ref a2), .val (.ref a3), .val (.int (6 : Int32)), .val (.int (114 : Int32)), .val (.int (1 : Int32)), .val (.int v101), .val (.int (113 : Int32)), .val (.int (fDec (113 : Int32)))] []))
      refine Go.st (fun _ k => XS.iconst X104.here hx rfl (hb hby at_104) k) ?_
      refine Go.st (fun _ k => XS.goto X104.here hx rfl (pc0 := 105) (pc' := 109) rfl (hb hby at_105) (by decide) (by decide) k) ?_
      show Go p e below _ (T104.setTop (mkF m 109 #[.val (.int p0), .val (.int p1), .val (.ref a2), .val (.ref a3), .val (.int (6 : Int32)), .val (.int (114 : Int32)), .val (.int (1 : Int32)), .val (.int v101), .val (.int (113 : Int32)), .val (.int (fDec (113 : Int32)))] [(.int (1 : Int32))]))
      obtain ⟨fs, hr, hrun, hended, -, hW, hB, hsame⟩ := X104.leaveW (v := some (.int (1 : Int32))) hS3 (by rw [e104]; exact hk3) (fun h => by rw [Bd.returns] at h; cases h)
      refine ⟨_, _, retN X104 hx (t := .boolean) Bd.returns (by simp) (hb hby at_109) hr, hrun, hended, _, _, rfl, ?_, ⟨_, rfl⟩, hW, hB, hsame.mono (by decide) (by decide)⟩
      show Q_rm0 Z p0 p1 cs vf h0 n0 _ T104.heap _
      rw [e104]
      exact ⟨rfl, N104⟩
    · show Go p e below _ (T99.setTop (mkF m 50 #[.val (.int p0), .val (.int p1), .val (.ref a2), .val (.ref a3), .val (.int (6 : Int32)), .val (.int (114 : Int32)), .val (.int (1 : Int32)), .val (.int v101), .unset, .unset] [(.int v101)]))
      refine Go.st (fun _ k => XS.ifYes X99.here hx rfl (pc0 := 50) (pc' := 62) rfl (hb hby at_50) rfl ((if0 _ _).trans (feq hc102).2) (by decide) (by decide) k) ?_
      show Go p e below _ (T99.setTop (mkF m 62 #[.val (.int p0), .val (.int p1), .val (.ref a2), .val (.ref a3), .val (.int (6 : Int32)), .val (.int (114 : Int32)), .val (.int (1 : Int32)), .val (.int v101), .unset, .unset] []))
      refine Go.st (fun _ k => XS.iload X99.here hx rfl (hb hby at_62) rfl k) ?_
      refine Go.st (fun _ k => XS.iconst X99.here hx rfl (hb hby at_64) k) ?_
      by_cases hc105 : v101 = (1 : Int32)
      · show Go p e below _ (T99.setTop (mkF m 65 #[.val (.int p0), .val (.int p1), .val (.ref a2), .val (.ref a3), .val (.int (6 : Int32)), .val (.int (114 : Int32)), .val (.int (1 : Int32)), .val (.int v101), .unset, .unset] [(.int (1 : Int32)), (.int v101)]))
        refine Go.st (fun _ k => XS.icmpNo X99.here hx rfl (hb hby at_65) rfl (teq hc105).2 k) ?_
        show Go p e below _ (T99.setTop (mkF m 68 #[.val (.int p0), .val (.int p1), .val (.ref a2), .val (.ref a3), .val (.int (6 : Int32)), .val (.int (114 : Int32)), .val (.int (1 : Int32)), .val (.int v101), .unset, .unset] []))
        refine Go.st (fun _ k => XS.iload X99.here hx rfl (hb hby at_68) rfl k) ?_
        refine Go.st (fun _ k => XS.iconst X99.here hx rfl (hb hby at_70) k) ?_
        refine Go.st (fun _ k => XS.iadd X99.here hx rfl (hb hby at_71) rfl k) ?_
        refine Go.st (fun _ k => XS.istore X99.here hx rfl (hb hby at_72) rfl (l' := #[.val (.int p0), .val (.int p1), .val (.ref a2), .val (.ref a3), .val (.int (6 : Int32)), .val (.int (114 : Int32)), .val (.int (1 : Int32)), .val (.int v101), .val (.int (115 : Int32)), .unset]) rfl k) ?_
        show Go p e below _ (T99.setTop (mkF m 74 #[.val (.int p0), .val (.int p1), .val (.ref a2), .val (.ref a3), .val (.int (6 : Int32)), .val (.int (114 : Int32)), .val (.int (1 : Int32)), .val (.int v101), .val (.int (115 : Int32)), .unset] []))
        refine Go.st (fun _ k => XS.goto X99.here hx rfl (pc0 := 74) (pc' := 80) rfl (hb hby at_74) (by decide) (by decide) k) ?_
        show Go p e below _ (T99.setTop (mkF m 80 #[.val (.int p0), .val (.int p1), .val (.ref a2), .val (.ref a3), .val (.int (6 : Int32)), .val (.int (114 : Int32)), .val (.int (1 : Int32)), .val (.int v101), .val (.int (115 : Int32)), .unset] []))
        refine Go.st (fun _ k => XS.iload X99.here hx rfl (hb hby at_80) rfl k) ?_
        obtain ⟨_, _, ⟨T106, L106, k106, n106⟩, -, X106, ⟨Lc106, hQ106, l106, y106, z106⟩, st106⟩ := Jvm.LawKit.callS X99 hx (y := (⟨"com/example/tokenloom/tokenloom/typespec/StringValue", "decodeEscape", "(I)I"⟩ : MethodName)) hown (mvT hZ (hw _ (List.mem_of_getElem? (i := 34) rfl))) (mvT hZ (hw _ (List.mem_of_getElem? (i := 35) rfl))) (mvT hZ (hw _ (List.mem_of_getElem? (i := 36) rfl))) (mvT hZ (hw _ (List.mem_of_getElem? (i := 37) rfl))) (by decide) (backOf (W := 0) (rm6 l Z aZ hw [] (115 : Int32) h3 n0 ) hZ (hw _ (List.mem_of_getElem? (i := 37) rfl)) (hw _ (List.mem_of_getElem? (i := 36) rfl)) (by decide) (by decide)) (g := (mkF m 82 #[.val (.int p0), .val (.int p1), .val (.ref a2), .val (.ref a3), .val (.int (6 : Int32)), .val (.int (114 : Int32)), .val (.int (1 : Int32)), .val (.int v101), .val (.int (115 : Int32)), .unset] [(.int (115 : Int32))])) rfl (by rw [hml]; rfl) (argsL := [(.int (115 : Int32))]) (rest := []) (lenOf pd56f530d rfl) rfl (by show 2 * 0 + _ ≤ _; exact Nat.le_of_eq rfl) (hb hby at_82) (fun _ _ => ⟨rfl, e99, (by decide : 4 + 0 ≤ _), (by decide : 72 + 0 ≤ _)⟩)
        dsimp only [Pt.U, Pt.locs, Pt.cells, Pt.slots] at X106 l106 y106 z106 st106 hQ106
        subst l106 y106 z106
        obtain ⟨rfl, N106q, e106⟩ := hQ106
        have N106 := Fr.app N99 N106q
        refine Go.st (fun _ k => st106 _ k) ?_
        show Go p e below _ (T106.setTop (mkF m 85 #[.val (.int p0), .val (.int p1), .val (.ref a2), .val (.ref a3), .val (.int (6 : Int32)), .val (.int (114 : Int32)), .val (.int (1 : Int32)), .val (.int v101), .val (.int (115 : Int32)), .unset] [(.int (fDec (115 : Int32)))]))
        refine Go.st (fun _ k => XS.istore X106.here hx rfl (hb hby at_85) rfl (l' := #[.val (.int p0), .val (.int p1), .val (.ref a2), .val (.ref a3), .val (.int (6 : Int32)), .val (.int (114 : Int32)), .val (.int (1 : Int32)), .val (.int v101), .val (.int (115 : Int32)), .val (.int (fDec (115 : Int32)))]) rfl k) ?_
        show Go p e below _ (T106.setTop (mkF m 87 #[.val (.int p0), .val (.int p1), .val (.ref a2), .val (.ref a3), .val (.int (6 : Int32)), .val (.int (114 : Int32)), .val (.int (1 : Int32)), .val (.int v101), .val (.int (115 : Int32)), .val (.int (fDec (115 : Int32)))] []))
        refine Go.st (fun _ k => XS.iload X106.here hx rfl (hb hby at_87) rfl k) ?_
        refine Go.st (fun _ k => XS.ifNo X106.here hx rfl (hb hby at_89) rfl ((if0 _ _).trans (feq (by decide : ¬ ((1 : Int32) = (0 : Int32)))).1) k) ?_
        show Go p e below _ (T106.setTop (mkF m 92 #[.val (.int p0), .val (.int p1), .val (.ref a2), .val (.ref a3), .val (.int (6 : Int32)), .val (.int (114 : Int32)), .val (.int (1 : Int32)), .val (.int v101), .val (.int (115 : Int32)), .val (.int (fDec (115 : Int32)))] []))
        refine Go.st (fun _ k => XS.iload X106.here hx rfl (hb hby at_92) rfl k) ?_
        refine Go.st (fun _ k => XS.iload X106.here hx rfl (hb hby at_94) rfl k) ?_
        refine Go.st (fun _ k => XS.aloadN X106.here hx rfl (hb hby at_96) rfl rfl k) ?_
        refine Go.st (fun _ k => XS.aloadN X106.here hx rfl (hb hby at_97) rfl rfl k) ?_
        obtain ⟨_, _, ⟨T107, L107, k107, n107⟩, -, X107, ⟨Lc107, hQ107, l107, y107, z107⟩, st107⟩ := Jvm.LawKit.callS X106 hx (y := (⟨"com/example/tokenloom/tokenloom/typespec/StringValueDecodeEscapePinLaw", "expected", "(ILjava/lang/String;Ljava/lang/String;)I"⟩ : MethodName)) hown (mvT hZ (hw _ (List.mem_of_getElem? (i := 38) rfl))) (mvT hZ (hw _ (List.mem_of_getElem? (i := 39) rfl))) (mvT hZ (hw _ (List.mem_of_getElem? (i := 40) rfl))) (mvT hZ (hw _ (List.mem_of_getElem? (i := 41) rfl))) (by decide) (backOf (W := 1) (rmExp l Z aZ hw [] (115 : Int32) a2 a3 b2 kc2 b3 kc3 cs vf h3 n0 hcs hvf F3_S_COMPACT_STRINGS F3_S_SIOOBE_FORMATTER F3_E_a2 F3_F_a2_coder F3_F_a2_value F3_V_b2 Es3 Fc3 Fv3 Va3) hZ (hw _ (List.mem_of_getElem? (i := 41) rfl)) (hw _ (List.mem_of_getElem? (i := 40) rfl)) (by decide) (by decide)) (g := (mkF m 98 #[.val (.int p0), .val (.int p1), .val (.ref a2), .val (.ref a3), .val (.int (6 : Int32)), .val (.int (114 : Int32)), .val (.int (1 : Int32)), .val (.int v101), .val (.int (115 : Int32)), .val (.int (fDec (115 : Int32)))] [(.ref a3), (.ref a2), (.int (115 : Int32)), (.int (fDec (115 : Int32)))])) rfl (by rw [hml]; rfl) (argsL := [(.int (115 : Int32)), (.ref a2), (.ref a3)]) (rest := [(.int (fDec (115 : Int32)))]) (lenOf pda0c35829 rfl) rfl (by show 2 * 0 + _ ≤ _; exact Nat.le_of_eq rfl) (hb hby at_98) (fun _ _ => ⟨rfl, e106, (by decide : 4 + 0 ≤ _), (by decide : 72 + 0 ≤ _)⟩)
        dsimp only [Pt.U, Pt.locs, Pt.cells, Pt.slots] at X107 l107 y107 z107 st107 hQ107
        subst l107 y107 z107
        obtain ⟨rfl, N107q, e107⟩ := hQ107
        have N107 := Fr.app N106 N107q
        refine Go.st (fun _ k => st107 _ k) ?_
        show Go p e below _ (T107.setTop (mkF m 101 #[.val (.int p0), .val (.int p1), .val (.ref a2), .val (.ref a3), .val (.int (6 : Int32)), .val (.int (114 : Int32)), .val (.int (1 : Int32)), .val (.int v101), .val (.int (115 : Int32)), .val (.int (fDec (115 : Int32)))] [(.int (fExp (115 : Int32))), (.int (fDec (115 : Int32)))]))
        refine Go.st (fun _ k => XS.icmpNo X107.here hx rfl (hb hby at_101) rfl (teq (own_same (115 : Int32))).2 k) ?_
        show Go p e below _ (T107.setTop (mkF m 104 #[.val (.int p0), .val (.int p1), .val (.ref a2), .val (.ref a3), .val (.int (6 : Int32)), .val (.int (114 : Int32)), .val (.int (1 : Int32)), .val (.int v101), .val (.int (115 : Int32)), .val (.int (fDec (115 : Int32)))] []))
        refine Go.st (fun _ k => XS.iconst X107.here hx rfl (hb hby at_104) k) ?_
        refine Go.st (fun _ k => XS.goto X107.here hx rfl (pc0 := 105) (pc' := 109) rfl (hb hby at_105) (by decide) (by decide) k) ?_
        show Go p e below _ (T107.setTop (mkF m 109 #[.val (.int p0), .val (.int p1), .val (.ref a2), .val (.ref a3), .val (.int (6 : Int32)), .val (.int (114 : Int32)), .val (.int (1 : Int32)), .val (.int v101), .val (.int (115 : Int32)), .val (.int (fDec (115 : Int32)))] [(.int (1 : Int32))]))
        obtain ⟨fs, hr, hrun, hended, -, hW, hB, hsame⟩ := X107.leaveW (v := some (.int (1 : Int32))) hS3 (by rw [e107]; exact hk3) (fun h => by rw [Bd.returns] at h; cases h)
        refine ⟨_, _, retN X107 hx (t := .boolean) Bd.returns (by simp) (hb hby at_109) hr, hrun, hended, _, _, rfl, ?_, ⟨_, rfl⟩, hW, hB, hsame.mono (by decide) (by decide)⟩
        show Q_rm0 Z p0 p1 cs vf h0 n0 _ T107.heap _
        rw [e107]
        exact ⟨rfl, N107⟩
      · show Go p e below _ (T99.setTop (mkF m 65 #[.val (.int p0), .val (.int p1), .val (.ref a2), .val (.ref a3), .val (.int (6 : Int32)), .val (.int (114 : Int32)), .val (.int (1 : Int32)), .val (.int v101), .unset, .unset] [(.int (1 : Int32)), (.int v101)]))
        refine Go.st (fun _ k => XS.icmpYes X99.here hx rfl (pc0 := 65) (pc' := 77) rfl (hb hby at_65) rfl (feq hc105).2 (by decide) (by decide) k) ?_
        show Go p e below _ (T99.setTop (mkF m 77 #[.val (.int p0), .val (.int p1), .val (.ref a2), .val (.ref a3), .val (.int (6 : Int32)), .val (.int (114 : Int32)), .val (.int (1 : Int32)), .val (.int v101), .unset, .unset] []))
        refine Go.st (fun _ k => XS.iloadN X99.here hx rfl (hb hby at_77) rfl k) ?_
        refine Go.st (fun _ k => XS.istore X99.here hx rfl (hb hby at_78) rfl (l' := #[.val (.int p0), .val (.int p1), .val (.ref a2), .val (.ref a3), .val (.int (6 : Int32)), .val (.int (114 : Int32)), .val (.int (1 : Int32)), .val (.int v101), .val (.int p0), .unset]) rfl k) ?_
        show Go p e below _ (T99.setTop (mkF m 80 #[.val (.int p0), .val (.int p1), .val (.ref a2), .val (.ref a3), .val (.int (6 : Int32)), .val (.int (114 : Int32)), .val (.int (1 : Int32)), .val (.int v101), .val (.int p0), .unset] []))
        refine Go.st (fun _ k => XS.iload X99.here hx rfl (hb hby at_80) rfl k) ?_
        obtain ⟨_, _, ⟨T108, L108, k108, n108⟩, -, X108, ⟨Lc108, hQ108, l108, y108, z108⟩, st108⟩ := Jvm.LawKit.callS X99 hx (y := (⟨"com/example/tokenloom/tokenloom/typespec/StringValue", "decodeEscape", "(I)I"⟩ : MethodName)) hown (mvT hZ (hw _ (List.mem_of_getElem? (i := 34) rfl))) (mvT hZ (hw _ (List.mem_of_getElem? (i := 35) rfl))) (mvT hZ (hw _ (List.mem_of_getElem? (i := 36) rfl))) (mvT hZ (hw _ (List.mem_of_getElem? (i := 37) rfl))) (by decide) (backOf (W := 0) (rm6 l Z aZ hw [] p0 h3 n0 ) hZ (hw _ (List.mem_of_getElem? (i := 37) rfl)) (hw _ (List.mem_of_getElem? (i := 36) rfl)) (by decide) (by decide)) (g := (mkF m 82 #[.val (.int p0), .val (.int p1), .val (.ref a2), .val (.ref a3), .val (.int (6 : Int32)), .val (.int (114 : Int32)), .val (.int (1 : Int32)), .val (.int v101), .val (.int p0), .unset] [(.int p0)])) rfl (by rw [hml]; rfl) (argsL := [(.int p0)]) (rest := []) (lenOf pd56f530d rfl) rfl (by show 2 * 0 + _ ≤ _; exact Nat.le_of_eq rfl) (hb hby at_82) (fun _ _ => ⟨rfl, e99, (by decide : 4 + 0 ≤ _), (by decide : 72 + 0 ≤ _)⟩)
        dsimp only [Pt.U, Pt.locs, Pt.cells, Pt.slots] at X108 l108 y108 z108 st108 hQ108
        subst l108 y108 z108
        obtain ⟨rfl, N108q, e108⟩ := hQ108
        have N108 := Fr.app N99 N108q
        refine Go.st (fun _ k => st108 _ k) ?_
        show Go p e below _ (T108.setTop (mkF m 85 #[.val (.int p0), .val (.int p1), .val (.ref a2), .val (.ref a3), .val (.int (6 : Int32)), .val (.int (114 : Int32)), .val (.int (1 : Int32)), .val (.int v101), .val (.int p0), .unset] [(.int (fDec p0))]))
        refine Go.st (fun _ k => XS.istore X108.here hx rfl (hb hby at_85) rfl (l' := #[.val (.int p0), .val (.int p1), .val (.ref a2), .val (.ref a3), .val (.int (6 : Int32)), .val (.int (114 : Int32)), .val (.int (1 : Int32)), .val (.int v101), .val (.int p0), .val (.int (fDec p0))]) rfl k) ?_
        show Go p e below _ (T108.setTop (mkF m 87 #[.val (.int p0), .val (.int p1), .val (.ref a2), .val (.ref a3), .val (.int (6 : Int32)), .val (.int (114 : Int32)), .val (.int (1 : Int32)), .val (.int v101), .val (.int p0), .val (.int (fDec p0))] []))
        refine Go.st (fun _ k => XS.iload X108.here hx rfl (hb hby at_87) rfl k) ?_
        refine Go.st (fun _ k => XS.ifNo X108.here hx rfl (hb hby at_89) rfl ((if0 _ _).trans (feq (by decide : ¬ ((1 : Int32) = (0 : Int32)))).1) k) ?_
        show Go p e below _ (T108.setTop (mkF m 92 #[.val (.int p0), .val (.int p1), .val (.ref a2), .val (.ref a3), .val (.int (6 : Int32)), .val (.int (114 : Int32)), .val (.int (1 : Int32)), .val (.int v101), .val (.int p0), .val (.int (fDec p0))] []))
        refine Go.st (fun _ k => XS.iload X108.here hx rfl (hb hby at_92) rfl k) ?_
        refine Go.st (fun _ k => XS.iload X108.here hx rfl (hb hby at_94) rfl k) ?_
        refine Go.st (fun _ k => XS.aloadN X108.here hx rfl (hb hby at_96) rfl rfl k) ?_
        refine Go.st (fun _ k => XS.aloadN X108.here hx rfl (hb hby at_97) rfl rfl k) ?_
        obtain ⟨_, _, ⟨T109, L109, k109, n109⟩, -, X109, ⟨Lc109, hQ109, l109, y109, z109⟩, st109⟩ := Jvm.LawKit.callS X108 hx (y := (⟨"com/example/tokenloom/tokenloom/typespec/StringValueDecodeEscapePinLaw", "expected", "(ILjava/lang/String;Ljava/lang/String;)I"⟩ : MethodName)) hown (mvT hZ (hw _ (List.mem_of_getElem? (i := 38) rfl))) (mvT hZ (hw _ (List.mem_of_getElem? (i := 39) rfl))) (mvT hZ (hw _ (List.mem_of_getElem? (i := 40) rfl))) (mvT hZ (hw _ (List.mem_of_getElem? (i := 41) rfl))) (by decide) (backOf (W := 1) (rmExp l Z aZ hw [] p0 a2 a3 b2 kc2 b3 kc3 cs vf h3 n0 hcs hvf F3_S_COMPACT_STRINGS F3_S_SIOOBE_FORMATTER F3_E_a2 F3_F_a2_coder F3_F_a2_value F3_V_b2 Es3 Fc3 Fv3 Va3) hZ (hw _ (List.mem_of_getElem? (i := 41) rfl)) (hw _ (List.mem_of_getElem? (i := 40) rfl)) (by decide) (by decide)) (g := (mkF m 98 #[.val (.int p0), .val (.int p1), .val (.ref a2), .val (.ref a3), .val (.int (6 : Int32)), .val (.int (114 : Int32)), .val (.int (1 : Int32)), .val (.int v101), .val (.int p0), .val (.int (fDec p0))] [(.ref a3), (.ref a2), (.int p0), (.int (fDec p0))])) rfl (by rw [hml]; rfl) (argsL := [(.int p0), (.ref a2), (.ref a3)]) (rest := [(.int (fDec p0))]) (lenOf pda0c35829 rfl) rfl (by show 2 * 0 + _ ≤ _; exact Nat.le_of_eq rfl) (hb hby at_98) (fun _ _ => ⟨rfl, e108, (by decide : 4 + 0 ≤ _), (by decide : 72 + 0 ≤ _)⟩)
        dsimp only [Pt.U, Pt.locs, Pt.cells, Pt.slots] at X109 l109 y109 z109 st109 hQ109
        subst l109 y109 z109
        obtain ⟨rfl, N109q, e109⟩ := hQ109
        have N109 := Fr.app N108 N109q
        refine Go.st (fun _ k => st109 _ k) ?_
        show Go p e below _ (T109.setTop (mkF m 101 #[.val (.int p0), .val (.int p1), .val (.ref a2), .val (.ref a3), .val (.int (6 : Int32)), .val (.int (114 : Int32)), .val (.int (1 : Int32)), .val (.int v101), .val (.int p0), .val (.int (fDec p0))] [(.int (fExp p0)), (.int (fDec p0))]))
        refine Go.st (fun _ k => XS.icmpNo X109.here hx rfl (hb hby at_101) rfl (teq (own_same p0)).2 k) ?_
        show Go p e below _ (T109.setTop (mkF m 104 #[.val (.int p0), .val (.int p1), .val (.ref a2), .val (.ref a3), .val (.int (6 : Int32)), .val (.int (114 : Int32)), .val (.int (1 : Int32)), .val (.int v101), .val (.int p0), .val (.int (fDec p0))] []))
        refine Go.st (fun _ k => XS.iconst X109.here hx rfl (hb hby at_104) k) ?_
        refine Go.st (fun _ k => XS.goto X109.here hx rfl (pc0 := 105) (pc' := 109) rfl (hb hby at_105) (by decide) (by decide) k) ?_
        show Go p e below _ (T109.setTop (mkF m 109 #[.val (.int p0), .val (.int p1), .val (.ref a2), .val (.ref a3), .val (.int (6 : Int32)), .val (.int (114 : Int32)), .val (.int (1 : Int32)), .val (.int v101), .val (.int p0), .val (.int (fDec p0))] [(.int (1 : Int32))]))
        obtain ⟨fs, hr, hrun, hended, -, hW, hB, hsame⟩ := X109.leaveW (v := some (.int (1 : Int32))) hS3 (by rw [e109]; exact hk3) (fun h => by rw [Bd.returns] at h; cases h)
        refine ⟨_, _, retN X109 hx (t := .boolean) Bd.returns (by simp) (hb hby at_109) hr, hrun, hended, _, _, rfl, ?_, ⟨_, rfl⟩, hW, hB, hsame.mono (by decide) (by decide)⟩
        show Q_rm0 Z p0 p1 cs vf h0 n0 _ T109.heap _
        rw [e109]
        exact ⟨rfl, N109⟩
  · rw [hr4]
    show Go p e below _ (T3.setTop (mkF m 10 #[.val (.int p0), .val (.int p1), .val (.ref a2), .val (.ref a3), .unset, .unset, .unset, .unset, .unset, .unset] [(.int (7 : Int32))]))
    refine Go.st (fun _ k => XS.istore X3.here hx rfl (hb hby at_10) rfl (l' := #[.val (.int p0), .val (.int p1), .val (.ref a2), .val (.ref a3), .val (.int (7 : Int32)), .unset, .unset, .unset, .unset, .unset]) rfl k) ?_
    show Go p e below _ (T3.setTop (mkF m 12 #[.val (.int p0), .val (.int p1), .val (.ref a2), .val (.ref a3), .val (.int (7 : Int32)), .unset, .unset, .unset, .unset, .unset] []))
    refine Go.st (fun _ k => XS.aloadN X3.here hx rfl (hb hby at_12) rfl rfl k) ?_
    refine Go.st (fun _ k => XS.iload X3.here hx rfl (hb hby at_13) rfl k) ?_
    obtain ⟨cq110, kq110, q110a, q110b, q110c⟩ := isOf hZ e3 F3_E_a2
    obtain ⟨_, _, ⟨T110, L110, k110, n110⟩, -, X110, ⟨Lc110, hQ110, l110, y110, z110⟩, st110⟩ := X3.virtualBack hx (y := (⟨"java/lang/String", "charAt", "(I)C"⟩ : MethodName)) (z := (⟨"java/lang/String", "charAt", "(I)C"⟩ : MethodName)) hown (mvT hZ (hw _ (List.mem_of_getElem? (i := 9) rfl))) (mvT hZ (hw _ (List.mem_of_getElem? (i := 10) rfl))) (notFace_of_selects (args := #[]) (mvT hZ (hw _ (List.mem_of_getElem? (i := 12) rfl)))) (mvT hZ (hw _ (List.mem_of_getElem? (i := 12) rfl))) (mvT hZ (hw _ (List.mem_of_getElem? (i := 11) rfl))) (by decide) (backOf (W := 0) (rmChar l Z aZ hw [] (116 : Int32) a2 (7 : Int32) b2 (0 : Int32) cs vf kc2 (8 : Int32) [(.int (34 : Int32)), (.int (92 : Int32)), (.int (36 : Int32)), (.int (64 : Int32)), (.int (96 : Int32)), (.int (110 : Int32)), (.int (114 : Int32)), (.int (116 : Int32))] h3 n0 hcs rfl hvf ⟨by decide, by decide⟩ rfl F3_F_a2_value F3_F_a2_coder F3_E_a2 F3_S_COMPACT_STRINGS F3_S_SIOOBE_FORMATTER F3_V_b2) hZ (hw _ (List.mem_of_getElem? (i := 13) rfl)) (hw _ (List.mem_of_getElem? (i := 1) rfl)) (by decide) (by decide)) q110a q110c (g := (mkF m 15 #[.val (.int p0), .val (.int p1), .val (.ref a2), .val (.ref a3), .val (.int (7 : Int32)), .unset, .unset, .unset, .unset, .unset] [(.int (7 : Int32)), (.ref a2)])) rfl (by rw [hml]; rfl) (Steps.refl _) (argsL := [(.int (7 : Int32))]) (rest := []) (lenOf pd56f5307 rfl) rfl (by show 2 * 0 + _ ≤ _; exact Nat.le_of_eq rfl) (hb hby at_15) (fun _ _ => ⟨rfl, e3, (by decide : 4 + 0 ≤ _), (by decide : 72 + 0 ≤ _)⟩)
    dsimp only [Pt.U, Pt.locs, Pt.cells, Pt.slots] at X110 l110 y110 z110 st110 hQ110
    subst l110 y110 z110
    obtain ⟨rfl, N110q, e110⟩ := hQ110
    have N110 := Fr.app N0 N110q
    refine Go.st (fun _ k => st110.trans k) ?_
    show Go p e below _ (T110.setTop (mkF m 18 #[.val (.int p0), .val (.int p1), .val (.ref a2), .val (.ref a3), .val (.int (7 : Int32)), .unset, .unset, .unset, .unset, .unset] [(.int (jChar (116 : Int32)))]))
    have hs111 : (jChar (116 : Int32)) = (116 : Int32) := (by decide +kernel)
    rw [hs111]
    show Go p e below _ (T110.setTop (mkF m 18 #[.val (.int p0), .val (.int p1), .val (.ref a2), .val (.ref a3), .val (.int (7 : Int32)), .unset, .unset, .unset, .unset, .unset] [(.int (116 : Int32))]))
    refine Go.st (fun _ k => XS.istore X110.here hx rfl (hb hby at_18) rfl (l' := #[.val (.int p0), .val (.int p1), .val (.ref a2), .val (.ref a3), .val (.int (7 : Int32)), .val (.int (116 : Int32)), .unset, .unset, .unset, .unset]) rfl k) ?_
    show Go p e below _ (T110.setTop (mkF m 20 #[.val (.int p0), .val (.int p1), .val (.ref a2), .val (.ref a3), .val (.int (7 : Int32)), .val (.int (116 : Int32)), .unset, .unset, .unset, .unset] []))
    refine Go.st (fun _ k => XS.iload X110.here hx rfl (hb hby at_20) rfl k) ?_
    obtain ⟨_, _, ⟨T112, L112, k112, n112⟩, -, X112, ⟨Lc112, hQ112, l112, y112, z112⟩, st112⟩ := Jvm.LawKit.callS X110 hx (y := (⟨"com/example/tokenloom/tokenloom/typespec/StringValue", "decodeEscape", "(I)I"⟩ : MethodName)) hown (mvT hZ (hw _ (List.mem_of_getElem? (i := 34) rfl))) (mvT hZ (hw _ (List.mem_of_getElem? (i := 35) rfl))) (mvT hZ (hw _ (List.mem_of_getElem? (i := 36) rfl))) (mvT hZ (hw _ (List.mem_of_getElem? (i := 37) rfl))) (by decide) (backOf (W := 0) (rm6 l Z aZ hw [] (116 : Int32) h3 n0 ) hZ (hw _ (List.mem_of_getElem? (i := 37) rfl)) (hw _ (List.mem_of_getElem? (i := 36) rfl)) (by decide) (by decide)) (g := (mkF m 22 #[.val (.int p0), .val (.int p1), .val (.ref a2), .val (.ref a3), .val (.int (7 : Int32)), .val (.int (116 : Int32)), .unset, .unset, .unset, .unset] [(.int (116 : Int32))])) rfl (by rw [hml]; rfl) (argsL := [(.int (116 : Int32))]) (rest := []) (lenOf pd56f530d rfl) rfl (by show 2 * 0 + _ ≤ _; exact Nat.le_of_eq rfl) (hb hby at_22) (fun _ _ => ⟨rfl, e110, (by decide : 4 + 0 ≤ _), (by decide : 72 + 0 ≤ _)⟩)
    dsimp only [Pt.U, Pt.locs, Pt.cells, Pt.slots] at X112 l112 y112 z112 st112 hQ112
    subst l112 y112 z112
    obtain ⟨rfl, N112q, e112⟩ := hQ112
    have N112 := Fr.app N110 N112q
    refine Go.st (fun _ k => st112 _ k) ?_
    show Go p e below _ (T112.setTop (mkF m 25 #[.val (.int p0), .val (.int p1), .val (.ref a2), .val (.ref a3), .val (.int (7 : Int32)), .val (.int (116 : Int32)), .unset, .unset, .unset, .unset] [(.int (fDec (116 : Int32)))]))
    have hs113 : (fDec (116 : Int32)) = (9 : Int32) := (by decide +kernel)
    rw [hs113]
    show Go p e below _ (T112.setTop (mkF m 25 #[.val (.int p0), .val (.int p1), .val (.ref a2), .val (.ref a3), .val (.int (7 : Int32)), .val (.int (116 : Int32)), .unset, .unset, .unset, .unset] [(.int (9 : Int32))]))
    refine Go.st (fun _ k => XS.aloadN X112.here hx rfl (hb hby at_25) rfl rfl k) ?_
    refine Go.st (fun _ k => XS.iload X112.here hx rfl (hb hby at_26) rfl k) ?_
    obtain ⟨cq114, kq114, q114a, q114b, q114c⟩ := isOf hZ e112 Es3
    obtain ⟨_, _, ⟨T114, L114, k114, n114⟩, -, X114, ⟨Lc114, hQ114, l114, y114, z114⟩, st114⟩ := X112.virtualBack hx (y := (⟨"java/lang/String", "charAt", "(I)C"⟩ : MethodName)) (z := (⟨"java/lang/String", "charAt", "(I)C"⟩ : MethodName)) hown (mvT hZ (hw _ (List.mem_of_getElem? (i := 9) rfl))) (mvT hZ (hw _ (List.mem_of_getElem? (i := 10) rfl))) (notFace_of_selects (args := #[]) (mvT hZ (hw _ (List.mem_of_getElem? (i := 12) rfl)))) (mvT hZ (hw _ (List.mem_of_getElem? (i := 12) rfl))) (mvT hZ (hw _ (List.mem_of_getElem? (i := 11) rfl))) (by decide) (backOf (W := 1) (rmChar l Z aZ hw [] (9 : Int32) a3 (7 : Int32) b3 (0 : Int32) cs vf kc3 (8 : Int32) [(.int (34 : Int32)), (.int (92 : Int32)), (.int (36 : Int32)), (.int (64 : Int32)), (.int (96 : Int32)), (.int (10 : Int32)), (.int (13 : Int32)), (.int (9 : Int32))] h3 n0 hcs rfl hvf ⟨by decide, by decide⟩ rfl Fv3 Fc3 Es3 F3_S_COMPACT_STRINGS F3_S_SIOOBE_FORMATTER Va3) hZ (hw _ (List.mem_of_getElem? (i := 13) rfl)) (hw _ (List.mem_of_getElem? (i := 1) rfl)) (by decide) (by decide)) q114a q114c (g := (mkF m 28 #[.val (.int p0), .val (.int p1), .val (.ref a2), .val (.ref a3), .val (.int (7 : Int32)), .val (.int (116 : Int32)), .unset, .unset, .unset, .unset] [(.int (7 : Int32)), (.ref a3), (.int (9 : Int32))])) rfl (by rw [hml]; rfl) (Steps.refl _) (argsL := [(.int (7 : Int32))]) (rest := [(.int (9 : Int32))]) (lenOf pd56f5307 rfl) rfl (by show 2 * 0 + _ ≤ _; exact Nat.le_of_eq rfl) (hb hby at_28) (fun _ _ => ⟨rfl, e112, (by decide : 4 + 0 ≤ _), (by decide : 72 + 0 ≤ _)⟩)
    dsimp only [Pt.U, Pt.locs, Pt.cells, Pt.slots] at X114 l114 y114 z114 st114 hQ114
    subst l114 y114 z114
    obtain ⟨rfl, N114q, e114⟩ := hQ114
    have N114 := Fr.app N112 N114q
    refine Go.st (fun _ k => st114.trans k) ?_
    show Go p e below _ (T114.setTop (mkF m 31 #[.val (.int p0), .val (.int p1), .val (.ref a2), .val (.ref a3), .val (.int (7 : Int32)), .val (.int (116 : Int32)), .unset, .unset, .unset, .unset] [(.int (jChar (9 : Int32))), (.int (9 : Int32))]))
    have hs115 : (jChar (9 : Int32)) = (9 : Int32) := (by decide +kernel)
    rw [hs115]
    show Go p e below _ (T114.setTop (mkF m 31 #[.val (.int p0), .val (.int p1), .val (.ref a2), .val (.ref a3), .val (.int (7 : Int32)), .val (.int (116 : Int32)), .unset, .unset, .unset, .unset] [(.int (9 : Int32)), (.int (9 : Int32))]))
    refine Go.st (fun _ k => XS.icmpNo X114.here hx rfl (hb hby at_31) rfl (teq (by decide : ((9 : Int32) = (9 : Int32)))).2 k) ?_
    show Go p e below _ (T114.setTop (mkF m 34 #[.val (.int p0), .val (.int p1), .val (.ref a2), .val (.ref a3), .val (.int (7 : Int32)), .val (.int (116 : Int32)), .unset, .unset, .unset, .unset] []))
    refine Go.st (fun _ k => XS.iconst X114.here hx rfl (hb hby at_34) k) ?_
    refine Go.st (fun _ k => XS.goto X114.here hx rfl (pc0 := 35) (pc' := 39) rfl (hb hby at_35) (by decide) (by decide) k) ?_
    show Go p e below _ (T114.setTop (mkF m 39 #[.val (.int p0), .val (.int p1), .val (.ref a2), .val (.ref a3), .val (.int (7 : Int32)), .val (.int (116 : Int32)), .unset, .unset, .unset, .unset] [(.int (1 : Int32))]))
    refine Go.st (fun _ k => XS.istore X114.here hx rfl (hb hby at_39) rfl (l' := #[.val (.int p0), .val (.int p1), .val (.ref a2), .val (.ref a3), .val (.int (7 : Int32)), .val (.int (116 : Int32)), .val (.int (1 : Int32)), .unset, .unset, .unset]) rfl k) ?_
    show Go p e below _ (T114.setTop (mkF m 41 #[.val (.int p0), .val (.int p1), .val (.ref a2), .val (.ref a3), .val (.int (7 : Int32)), .val (.int (116 : Int32)), .val (.int (1 : Int32)), .unset, .unset, .unset] []))
    refine Go.st (fun _ k => XS.iloadN X114.here hx rfl (hb hby at_41) rfl k) ?_
    refine Go.st (fun _ k => XS.iconst X114.here hx rfl (hb hby at_42) k) ?_
    refine Go.st (fun _ k => XS.iushr X114.here hx rfl (hb hby at_43) rfl k) ?_
    show Go p e below _ (T114.setTop (mkF m 44 #[.val (.int p0), .val (.int p1), .val (.ref a2), .val (.ref a3), .val (.int (7 : Int32)), .val (.int (116 : Int32)), .val (.int (1 : Int32)), .unset, .unset, .unset] [(.int ((p1.toUInt32 >>> ((3 : Int32) &&& 31).toUInt32).toInt32))]))
    refine Go.st (fun _ k => XS.iconst X114.here hx rfl (hb hby at_44) k) ?_
    refine Go.st (fun _ k => XS.iand X114.here hx rfl (hb hby at_45) rfl k) ?_
    show Go p e below _ (T114.setTop (mkF m 46 #[.val (.int p0), .val (.int p1), .val (.ref a2), .val (.ref a3), .val (.int (7 : Int32)), .val (.int (116 : Int32)), .val (.int (1 : Int32)), .unset, .unset, .unset] [(.int (((p1.toUInt32 >>> ((3 : Int32) &&& 31).toUInt32).toInt32) &&& (3 : Int32)))]))
    generalize hv116 : (((p1.toUInt32 >>> ((3 : Int32) &&& 31).toUInt32).toInt32) &&& (3 : Int32)) = v116
    refine Go.st (fun _ k => XS.istore X114.here hx rfl (hb hby at_46) rfl (l' := #[.val (.int p0), .val (.int p1), .val (.ref a2), .val (.ref a3), .val (.int (7 : Int32)), .val (.int (116 : Int32)), .val (.int (1 : Int32)), .val (.int v116), .unset, .unset]) rfl k) ?_
    show Go p e below _ (T114.setTop (mkF m 48 #[.val (.int p0), .val (.int p1), .val (.ref a2), .val (.ref a3), .val (.int (7 : Int32)), .val (.int (116 : Int32)), .val (.int (1 : Int32)), .val (.int v116), .unset, .unset] []))
    refine Go.st (fun _ k => XS.iload X114.here hx rfl (hb hby at_48) rfl k) ?_
    by_cases hc117 : v116 = (0 : Int32)
    · show Go p e below _ (T114.setTop (mkF m 50 #[.val (.int p0), .val (.int p1), .val (.ref a2), .val (.ref a3), .val (.int (7 : Int32)), .val (.int (116 : Int32)), .val (.int (1 : Int32)), .val (.int v116), .unset, .unset] [(.int v116)]))
      refine Go.st (fun _ k => XS.ifNo X114.here hx rfl (hb hby at_50) rfl ((if0 _ _).trans (teq hc117).2) k) ?_
      show Go p e below _ (T114.setTop (mkF m 53 #[.val (.int p0), .val (.int p1), .val (.ref a2), .val (.ref a3), .val (.int (7 : Int32)), .val (.int (116 : Int32)), .val (.int (1 : Int32)), .val (.int v116), .unset, .unset] []))
      refine Go.st (fun _ k => XS.iload X114.here hx rfl (hb hby at_53) rfl k) ?_
      refine Go.st (fun _ k => XS.iconst X114.here hx rfl (hb hby at_55) k) ?_
      refine Go.st (fun _ k => XS.isub X114.here hx rfl (hb hby at_56) rfl k) ?_
      refine Go.st (fun _ k => XS.istore X114.here hx rfl (hb hby at_57) rfl (l' := #[.val (.int p0), .val (.int p1), .val (.ref a2), .val (.ref a3), .val (.int (7 : Int32)), .val (.int (116 : Int32)), .val (.int (1 : Int32)), .val (.int v116), .val (.int (115 : Int32)), .unset]) rfl k) ?_
      show Go p e below _ (T114.setTop (mkF m 59 #[.val (.int p0), .val (.int p1), .val (.ref a2), .val (.ref a3), .val (.int (7 : Int32)), .val (.int (116 : Int32)), .val (.int (1 : Int32)), .val (.int v116), .val (.int (115 : Int32)), .unset] []))
      refine Go.st (fun _ k => XS.goto X114.here hx rfl (pc0 := 59) (pc' := 80) rfl (hb hby at_59) (by decide) (by decide) k) ?_
      show Go p e below _ (T114.setTop (mkF m 80 #[.val (.int p0), .val (.int p1), .val (.ref a2), .val (.ref a3), .val (.int (7 : Int32)), .val (.int (116 : Int32)), .val (.int (1 : Int32)), .val (.int v116), .val (.int (115 : Int32)), .unset] []))
      refine Go.st (fun _ k => XS.iload X114.here hx rfl (hb hby at_80) rfl k) ?_
      obtain ⟨_, _, ⟨T118, L118, k118, n118⟩, -, X118, ⟨Lc118, hQ118, l118, y118, z118⟩, st118⟩ := Jvm.LawKit.callS X114 hx (y := (⟨"com/example/tokenloom/tokenloom/typespec/StringValue", "decodeEscape", "(I)I"⟩ : MethodName)) hown (mvT hZ (hw _ (List.mem_of_getElem? (i := 34) rfl))) (mvT hZ (hw _ (List.mem_of_getElem? (i := 35) rfl))) (mvT hZ (hw _ (List.mem_of_getElem? (i := 36) rfl))) (mvT hZ (hw _ (List.mem_of_getElem? (i := 37) rfl))) (by decide) (backOf (W := 0) (rm6 l Z aZ hw [] (115 : Int32) h3 n0 ) hZ (hw _ (List.mem_of_getElem? (i := 37) rfl)) (hw _ (List.mem_of_getElem? (i := 36) rfl)) (by decide) (by decide)) (g := (mkF m 82 #[.val (.int p0), .val (.int p1), .val (.ref a2), .val (.ref a3), .val (.int (7 : Int32)), .val (.int (116 : Int32)), .val (.int (1 : Int32)), .val (.int v116), .val (.int (115 : Int32)), .unset] [(.int (115 : Int32))])) rfl (by rw [hml]; rfl) (argsL := [(.int (115 : Int32))]) (rest := []) (lenOf pd56f530d rfl) rfl (by show 2 * 0 + _ ≤ _; exact Nat.le_of_eq rfl) (hb hby at_82) (fun _ _ => ⟨rfl, e114, (by decide : 4 + 0 ≤ _), (by decide : 72 + 0 ≤ _)⟩)
      dsimp only [Pt.U, Pt.locs, Pt.cells, Pt.slots] at X118 l118 y118 z118 st118 hQ118
      subst l118 y118 z118
      obtain ⟨rfl, N118q, e118⟩ := hQ118
      have N118 := Fr.app N114 N118q
      refine Go.st (fun _ k => st118 _ k) ?_
      show Go p e below _ (T118.setTop (mkF m 85 #[.val (.int p0), .val (.int p1), .val (.ref a2), .val (.ref a3), .val (.int (7 : Int32)), .val (.int (116 : Int32)), .val (.int (1 : Int32)), .val (.int v116), .val (.int (115 : Int32)), .unset] [(.int (fDec (115 : Int32)))]))
      refine Go.st (fun _ k => XS.istore X118.here hx rfl (hb hby at_85) rfl (l' := #[.val (.int p0), .val (.int p1), .val (.ref a2), .val (.ref a3), .val (.int (7 : Int32)), .val (.int (116 : Int32)), .val (.int (1 : Int32)), .val (.int v116), .val (.int (115 : Int32)), .val (.int (fDec (115 : Int32)))]) rfl k) ?_
      show Go p e below _ (T118.setTop (mkF m 87 #[.val (.int p0), .val (.int p1), .val (.ref a2), .val (.ref a3), .val (.int (7 : Int32)), .val (.int (116 : Int32)), .val (.int (1 : Int32)), .val (.int v116), .val (.int (115 : Int32)), .val (.int (fDec (115 : Int32)))] []))
      refine Go.st (fun _ k => XS.iload X118.here hx rfl (hb hby at_87) rfl k) ?_
      refine Go.st (fun _ k => XS.ifNo X118.here hx rfl (hb hby at_89) rfl ((if0 _ _).trans (feq (by decide : ¬ ((1 : Int32) = (0 : Int32)))).1) k) ?_
      show Go p e below _ (T118.setTop (mkF m 92 #[.val (.int p0), .val (.int p1), .val (.ref a2), .val (.ref a3), .val (.int (7 : Int32)), .val (.int (116 : Int32)), .val (.int (1 : Int32)), .val (.int v116), .val (.int (115 : Int32)), .val (.int (fDec (115 : Int32)))] []))
      refine Go.st (fun _ k => XS.iload X118.here hx rfl (hb hby at_92) rfl k) ?_
      refine Go.st (fun _ k => XS.iload X118.here hx rfl (hb hby at_94) rfl k) ?_
      refine Go.st (fun _ k => XS.aloadN X118.here hx rfl (hb hby at_96) rfl rfl k) ?_
      refine Go.st (fun _ k => XS.aloadN X118.here hx rfl (hb hby at_97) rfl rfl k) ?_
      obtain ⟨_, _, ⟨T119, L119, k119, n119⟩, -, X119, ⟨Lc119, hQ119, l119, y119, z119⟩, st119⟩ := Jvm.LawKit.callS X118 hx (y := (⟨"com/example/tokenloom/tokenloom/typespec/StringValueDecodeEscapePinLaw", "expected", "(ILjava/lang/String;Ljava/lang/String;)I"⟩ : MethodName)) hown (mvT hZ (hw _ (List.mem_of_getElem? (i := 38) rfl))) (mvT hZ (hw _ (List.mem_of_getElem? (i := 39) rfl))) (mvT hZ (hw _ (List.mem_of_getElem? (i := 40) rfl))) (mvT hZ (hw _ (List.mem_of_getElem? (i := 41) rfl))) (by decide) (backOf (W := 1) (rmExp l Z aZ hw [] (115 : Int32) a2 a3 b2 kc2 b3 kc3 cs vf h3 n0 hcs hvf F3_S_COMPACT_STRINGS F3_S_SIOOBE_FORMATTER F3_E_a2 F3_F_a2_coder F3_F_a2_value F3_V_b2 Es3 Fc3 Fv3 Va3) hZ (hw _ (List.mem_of_getElem? (i := 41) rfl)) (hw _ (List.mem_of_getElem? (i := 40) rfl)) (by decide) (by decide)) (g := (mkF m 98 #[.val (.int p0), .val (.int p1), .val (.ref a2), .val (.ref a3), .val (.int (7 : Int32)), .val (.int (116 : Int32)), .val (.int (1 : Int32)), .val (.int v116), .val (.int (115 : Int32)), .val (.int (fDec (115 : Int32)))] [(.ref a3), (.ref a2), (.int (115 : Int32)), (.int (fDec (115 : Int32)))])) rfl (by rw [hml]; rfl) (argsL := [(.int (115 : Int32)), (.ref a2), (.ref a3)]) (rest := [(.int (fDec (115 : Int32)))]) (lenOf pda0c35829 rfl) rfl (by show 2 * 0 + _ ≤ _; exact Nat.le_of_eq rfl) (hb hby at_98) (fun _ _ => ⟨rfl, e118, (by decide : 4 + 0 ≤ _), (by decide : 72 + 0 ≤ _)⟩)
      dsimp only [Pt.U, Pt.locs, Pt.cells, Pt.slots] at X119 l119 y119 z119 st119 hQ119
      subst l119 y119 z119
      obtain ⟨rfl, N119q, e119⟩ := hQ119
      have N119 := Fr.app N118 N119q
      refine Go.st (fun _ k => st119 _ k) ?_
      show Go p e below _ (T119.setTop (mkF m 101 #[.val (.int p0), .val (.int p1), .val (.ref a2), .val (.ref a3), .val (.int (7 : Int32)), .val (.int (116 : Int32)), .val (.int (1 : Int32)), .val (.int v116), .val (.int (115 : Int32)), .val (.int (fDec (115 : Int32)))] [(.int (fExp (115 : Int32))), (.int (fDec (115 : Int32)))]))
      refine Go.st (fun _ k => XS.icmpNo X119.here hx rfl (hb hby at_101) rfl (teq (own_same (115 : Int32))).2 k) ?_
      show Go p e below _ (T119.setTop (mkF m 104 #[.val (.int p0), .val (.int p1), .val (.ref a2), .val (.ref a3), .val (.int (7 : Int32)), .val (.int (116 : Int32)), .val (.int (1 : Int32)), .val (.int v116), .val (.int (115 : Int32)), .val (.int (fDec (115 : Int32)))] []))
      refine Go.st (fun _ k => XS.iconst X119.here hx rfl (hb hby at_104) k) ?_
      refine Go.st (fun _ k => XS.goto X119.here hx rfl (pc0 := 105) (pc' := 109) rfl (hb hby at_105) (by decide) (by decide) k) ?_
      show Go p e below _ (T119.setTop (mkF m 109 #[.val (.int p0), .val (.int p1), .val (.ref a2), .val (.ref a3), .val (.int (7 : Int32)), .val (.int (116 : Int32)), .val (.int (1 : Int32)), .val (.int v116), .val (.int (115 : Int32)), .val (.int (fDec (115 : Int32)))] [(.int (1 : Int32))]))
      obtain ⟨fs, hr, hrun, hended, -, hW, hB, hsame⟩ := X119.leaveW (v := some (.int (1 : Int32))) hS3 (by rw [e119]; exact hk3) (fun h => by rw [Bd.returns] at h; cases h)
      refine ⟨_, _, retN X119 hx (t := .boolean) Bd.returns (by simp) (hb hby at_109) hr, hrun, hended, _, _, rfl, ?_, ⟨_, rfl⟩, hW, hB, hsame.mono (by decide) (by decide)⟩
      show Q_rm0 Z p0 p1 cs vf h0 n0 _ T119.heap _
      rw [e119]
      exact ⟨rfl, N119⟩
    · show Go p e below _ (T114.setTop (mkF m 50 #[.val (.int p0), .val (.int p1), .val (.ref a2), .val (.ref a3), .val (.int (7 : Int32)), .val (.int (116 : Int32)), .val (.int (1 : Int32)), .val (.int v116), .unset, .unset] [(.int v116)]))
      refine Go.st (fun _ k => XS.ifYes X114.here hx rfl (pc0 := 50) (pc' := 62) rfl (hb hby at_50) rfl ((if0 _ _).trans (feq hc117).2) (by decide) (by decide) k) ?_
      show Go p e below _ (T114.setTop (mkF m 62 #[.val (.int p0), .val (.int p1), .val (.ref a2), .val (.ref a3), .val (.int (7 : Int32)), .val (.int (116 : Int32)), .val (.int (1 : Int32)), .val (.int v116), .unset, .unset] []))
      refine Go.st (fun _ k => XS.iload X114.here hx rfl (hb hby at_62) rfl k) ?_
      refine Go.st (fun _ k => XS.iconst X114.here hx rfl (hb hby at_64) k) ?_
      by_cases hc120 : v116 = (1 : Int32)
      · show Go p e below _ (T114.setTop (mkF m 65 #[.val (.int p0), .val (.int p1), .val (.ref a2), .val (.ref a3), .val (.int (7 : Int32)), .val (.int (116 : Int32)), .val (.int (1 : Int32)), .val (.int v116), .unset, .unset] [(.int (1 : Int32)), (.int v116)]))
        refine Go.st (fun _ k => XS.icmpNo X114.here hx rfl (hb hby at_65) rfl (teq hc120).2 k) ?_
        show Go p e below _ (T114.setTop (mkF m 68 #[.val (.int p0), .val (.int p1), .val (.ref a2), .val (.ref a3), .val (.int (7 : Int32)), .val (.int (116 : Int32)), .val (.int (1 : Int32)), .val (.int v116), .unset, .unset] []))
        refine Go.st (fun _ k => XS.iload X114.here hx rfl (hb hby at_68) rfl k) ?_
        refine Go.st (fun _ k => XS.iconst X114.here hx rfl (hb hby at_70) k) ?_
        refine Go.st (fun _ k => XS.iadd X114.here hx rfl (hb hby at_71) rfl k) ?_
        refine Go.st (fun _ k => XS.istore X114.here hx rfl (hb hby at_72) rfl (l' := #[.val (.int p0), .val (.int p1), .val (.ref a2), .val (.ref a3), .val (.int (7 : Int32)), .val (.int (116 : Int32)), .val (.int (1 : Int32)), .val (.int v116), .val (.int (117 : Int32)), .unset]) rfl k) ?_
        show Go p e below _ (T114.setTop (mkF m 74 #[.val (.int p0), .val (.int p1), .val (.ref a2), .val (.ref a3), .val (.int (7 : Int32)), .val (.int (116 : Int32)), .val (.int (1 : Int32)), .val (.int v116), .val (.int (117 : Int32)), .unset] []))
        refine Go.st (fun _ k => XS.goto X114.here hx rfl (pc0 := 74) (pc' := 80) rfl (hb hby at_74) (by decide) (by decide) k) ?_
        show Go p e below _ (T114.setTop (mkF m 80 #[.val (.int p0), .val (.int p1), .val (.ref a2), .val (.ref a3), .val (.int (7 : Int32)), .val (.int (116 : Int32)), .val (.int (1 : Int32)), .val (.int v116), .val (.int (117 : Int32)), .unset] []))
        refine Go.st (fun _ k => XS.iload X114.here hx rfl (hb hby at_80) rfl k) ?_
        obtain ⟨_, _, ⟨T121, L121, k121, n121⟩, -, X121, ⟨Lc121, hQ121, l121, y121, z121⟩, st121⟩ := Jvm.LawKit.callS X114 hx (y := (⟨"com/example/tokenloom/tokenloom/typespec/StringValue", "decodeEscape", "(I)I"⟩ : MethodName)) hown (mvT hZ (hw _ (List.mem_of_getElem? (i := 34) rfl))) (mvT hZ (hw _ (List.mem_of_getElem? (i := 35) rfl))) (mvT hZ (hw _ (List.mem_of_getElem? (i := 36) rfl))) (mvT hZ (hw _ (List.mem_of_getElem? (i := 37) rfl))) (by decide) (backOf (W := 0) (rm6 l Z aZ hw [] (117 : Int32) h3 n0 ) hZ (hw _ (List.mem_of_getElem? (i := 37) rfl)) (hw _ (List.mem_of_getElem? (i := 36) rfl)) (by decide) (by decide)) (g := (mkF m 82 #[.val (.int p0), .val (.int p1), .val (.ref a2), .val (.ref a3), .val (.int (7 : Int32)), .val (.int (116 : Int32)), .val (.int (1 : Int32)), .val (.int v116), .val (.int (117 : Int32)), .unset] [(.int (117 : Int32))])) rfl (by rw [hml]; rfl) (argsL := [(.int (117 : Int32))]) (rest := []) (lenOf pd56f530d rfl) rfl (by show 2 * 0 + _ ≤ _; exact Nat.le_of_eq rfl) (hb hby at_82) (fun _ _ => ⟨rfl, e114, (by decide : 4 + 0 ≤ _), (by decide : 72 + 0 ≤ _)⟩)
        dsimp only [Pt.U, Pt.locs, Pt.cells, Pt.slots] at X121 l121 y121 z121 st121 hQ121
        subst l121 y121 z121
        obtain ⟨rfl, N121q, e121⟩ := hQ121
        have N121 := Fr.app N114 N121q
        refine Go.st (fun _ k => st121 _ k) ?_
        show Go p e below _ (T121.setTop (mkF m 85 #[.val (.int p0), .val (.int p1), .val (.ref a2), .val (.ref a3), .val (.int (7 : Int32)), .val (.int (116 : Int32)), .val (.int (1 : Int32)), .val (.int v116), .val (.int (117 : Int32)), .unset] [(.int (fDec (117 : Int32)))]))
        refine Go.st (fun _ k => XS.istore X121.here hx rfl (hb hby at_85) rfl (l' := #[.val (.int p0), .val (.int p1), .val (.ref a2), .val (.ref a3), .val (.int (7 : Int32)), .val (.int (116 : Int32)), .val (.int (1 : Int32)), .val (.int v116), .val (.int (117 : Int32)), .val (.int (fDec (117 : Int32)))]) rfl k) ?_
        show Go p e below _ (T121.setTop (mkF m 87 #[.val (.int p0), .val (.int p1), .val (.ref a2), .val (.ref a3), .val (.int (7 : Int32)), .val (.int (116 : Int32)), .val (.int (1 : Int32)), .val (.int v116), .val (.int (117 : Int32)), .val (.int (fDec (117 : Int32)))] []))
        refine Go.st (fun _ k => XS.iload X121.here hx rfl (hb hby at_87) rfl k) ?_
        refine Go.st (fun _ k => XS.ifNo X121.here hx rfl (hb hby at_89) rfl ((if0 _ _).trans (feq (by decide : ¬ ((1 : Int32) = (0 : Int32)))).1) k) ?_
        show Go p e below _ (T121.setTop (mkF m 92 #[.val (.int p0), .val (.int p1), .val (.ref a2), .val (.ref a3), .val (.int (7 : Int32)), .val (.int (116 : Int32)), .val (.int (1 : Int32)), .val (.int v116), .val (.int (117 : Int32)), .val (.int (fDec (117 : Int32)))] []))
        refine Go.st (fun _ k => XS.iload X121.here hx rfl (hb hby at_92) rfl k) ?_
        refine Go.st (fun _ k => XS.iload X121.here hx rfl (hb hby at_94) rfl k) ?_
        refine Go.st (fun _ k => XS.aloadN X121.here hx rfl (hb hby at_96) rfl rfl k) ?_
        refine Go.st (fun _ k => XS.aloadN X121.here hx rfl (hb hby at_97) rfl rfl k) ?_
        obtain ⟨_, _, ⟨T122, L122, k122, n122⟩, -, X122, ⟨Lc122, hQ122, l122, y122, z122⟩, st122⟩ := Jvm.LawKit.callS X121 hx (y := (⟨"com/example/tokenloom/tokenloom/typespec/StringValueDecodeEscapePinLaw", "expected", "(ILjava/lang/String;Ljava/lang/String;)I"⟩ : MethodName)) hown (mvT hZ (hw _ (List.mem_of_getElem? (i := 38) rfl))) (mvT hZ (hw _ (List.mem_of_getElem? (i := 39) rfl))) (mvT hZ (hw _ (List.mem_of_getElem? (i := 40) rfl))) (mvT hZ (hw _ (List.mem_of_getElem? (i := 41) rfl))) (by decide) (backOf (W := 1) (rmExp l Z aZ hw [] (117 : Int32) a2 a3 b2 kc2 b3 kc3 cs vf h3 n0 hcs hvf F3_S_COMPACT_STRINGS F3_S_SIOOBE_FORMATTER F3_E_a2 F3_F_a2_coder F3_F_a2_value F3_V_b2 Es3 Fc3 Fv3 Va3) hZ (hw _ (List.mem_of_getElem? (i := 41) rfl)) (hw _ (List.mem_of_getElem? (i := 40) rfl)) (by decide) (by decide)) (g := (mkF m 98 #[.val (.int p0), .val (.int p1), .val (.ref a2), .val (.ref a3), .val (.int (7 : Int32)), .val (.int (116 : Int32)), .val (.int (1 : Int32)), .val (.int v116), .val (.int (117 : Int32)), .val (.int (fDec (117 : Int32)))] [(.ref a3), (.ref a2), (.int (117 : Int32)), (.int (fDec (117 : Int32)))])) rfl (by rw [hml]; rfl) (argsL := [(.int (117 : Int32)), (.ref a2), (.ref a3)]) (rest := [(.int (fDec (117 : Int32)))]) (lenOf pda0c35829 rfl) rfl (by show 2 * 0 + _ ≤ _; exact Nat.le_of_eq rfl) (hb hby at_98) (fun _ _ => ⟨rfl, e121, (by decide : 4 + 0 ≤ _), (by decide : 72 + 0 ≤ _)⟩)
        dsimp only [Pt.U, Pt.locs, Pt.cells, Pt.slots] at X122 l122 y122 z122 st122 hQ122
        subst l122 y122 z122
        obtain ⟨rfl, N122q, e122⟩ := hQ122
        have N122 := Fr.app N121 N122q
        refine Go.st (fun _ k => st122 _ k) ?_
        show Go p e below _ (T122.setTop (mkF m 101 #[.val (.int p0), .val (.int p1), .val (.ref a2), .val (.ref a3), .val (.int (7 : Int32)), .val (.int (116 : Int32)), .val (.int (1 : Int32)), .val (.int v116), .val (.int (117 : Int32)), .val (.int (fDec (117 : Int32)))] [(.int (fExp (117 : Int32))), (.int (fDec (117 : Int32)))]))
        refine Go.st (fun _ k => XS.icmpNo X122.here hx rfl (hb hby at_101) rfl (teq (own_same (117 : Int32))).2 k) ?_
        show Go p e below _ (T122.setTop (mkF m 104 #[.val (.int p0), .val (.int p1), .val (.ref a2), .val (.ref a3), .val (.int (7 : Int32)), .val (.int (116 : Int32)), .val (.int (1 : Int32)), .val (.int v116), .val (.int (117 : Int32)), .val (.int (fDec (117 : Int32)))] []))
        refine Go.st (fun _ k => XS.iconst X122.here hx rfl (hb hby at_104) k) ?_
        refine Go.st (fun _ k => XS.goto X122.here hx rfl (pc0 := 105) (pc' := 109) rfl (hb hby at_105) (by decide) (by decide) k) ?_
        show Go p e below _ (T122.setTop (mkF m 109 #[.val (.int p0), .val (.int p1), .val (.ref a2), .val (.ref a3), .val (.int (7 : Int32)), .val (.int (116 : Int32)), .val (.int (1 : Int32)), .val (.int v116), .val (.int (117 : Int32)), .val (.int (fDec (117 : Int32)))] [(.int (1 : Int32))]))
        obtain ⟨fs, hr, hrun, hended, -, hW, hB, hsame⟩ := X122.leaveW (v := some (.int (1 : Int32))) hS3 (by rw [e122]; exact hk3) (fun h => by rw [Bd.returns] at h; cases h)
        refine ⟨_, _, retN X122 hx (t := .boolean) Bd.returns (by simp) (hb hby at_109) hr, hrun, hended, _, _, rfl, ?_, ⟨_, rfl⟩, hW, hB, hsame.mono (by decide) (by decide)⟩
        show Q_rm0 Z p0 p1 cs vf h0 n0 _ T122.heap _
        rw [e122]
        exact ⟨rfl, N122⟩
      · show Go p e below _ (T114.setTop (mkF m 65 #[.val (.int p0), .val (.int p1), .val (.ref a2), .val (.ref a3), .val (.int (7 : Int32)), .val (.int (116 : Int32)), .val (.int (1 : Int32)), .val (.int v116), .unset, .unset] [(.int (1 : Int32)), (.int v116)]))
        refine Go.st (fun _ k => XS.icmpYes X114.here hx rfl (pc0 := 65) (pc' := 77) rfl (hb hby at_65) rfl (feq hc120).2 (by decide) (by decide) k) ?_
        show Go p e below _ (T114.setTop (mkF m 77 #[.val (.int p0), .val (.int p1), .val (.ref a2), .val (.ref a3), .val (.int (7 : Int32)), .val (.int (116 : Int32)), .val (.int (1 : Int32)), .val (.int v116), .unset, .unset] []))
        refine Go.st (fun _ k => XS.iloadN X114.here hx rfl (hb hby at_77) rfl k) ?_
        refine Go.st (fun _ k => XS.istore X114.here hx rfl (hb hby at_78) rfl (l' := #[.val (.int p0), .val (.int p1), .val (.ref a2), .val (.ref a3), .val (.int (7 : Int32)), .val (.int (116 : Int32)), .val (.int (1 : Int32)), .val (.int v116), .val (.int p0), .unset]) rfl k) ?_
        show Go p e below _ (T114.setTop (mkF m 80 #[.val (.int p0), .val (.int p1), .val (.ref a2), .val (.ref a3), .val (.int (7 : Int32)), .val (.int (116 : Int32)), .val (.int (1 : Int32)), .val (.int v116), .val (.int p0), .unset] []))
        refine Go.st (fun _ k => XS.iload X114.here hx rfl (hb hby at_80) rfl k) ?_
        obtain ⟨_, _, ⟨T123, L123, k123, n123⟩, -, X123, ⟨Lc123, hQ123, l123, y123, z123⟩, st123⟩ := Jvm.LawKit.callS X114 hx (y := (⟨"com/example/tokenloom/tokenloom/typespec/StringValue", "decodeEscape", "(I)I"⟩ : MethodName)) hown (mvT hZ (hw _ (List.mem_of_getElem? (i := 34) rfl))) (mvT hZ (hw _ (List.mem_of_getElem? (i := 35) rfl))) (mvT hZ (hw _ (List.mem_of_getElem? (i := 36) rfl))) (mvT hZ (hw _ (List.mem_of_getElem? (i := 37) rfl))) (by decide) (backOf (W := 0) (rm6 l Z aZ hw [] p0 h3 n0 ) hZ (hw _ (List.mem_of_getElem? (i := 37) rfl)) (hw _ (List.mem_of_getElem? (i := 36) rfl)) (by decide) (by decide)) (g := (mkF m 82 #[.val (.int p0), .val (.int p1), .val (.ref a2), .val (.ref a3), .val (.int (7 : Int32)), .val (.int (116 : Int32)), .val (.int (1 : Int32)), .val (.int v116), .val (.int p0), .unset] [(.int p0)])) rfl (by rw [hml]; rfl) (argsL := [(.int p0)]) (rest := []) (lenOf pd56f530d rfl) rfl (by show 2 * 0 + _ ≤ _; exact Nat.le_of_eq rfl) (hb hby at_82) (fun _ _ => ⟨rfl, e114, (by decide : 4 + 0 ≤ _), (by decide : 72 + 0 ≤ _)⟩)
        dsimp only [Pt.U, Pt.locs, Pt.cells, Pt.slots] at X123 l123 y123 z123 st123 hQ123
        subst l123 y123 z123
        obtain ⟨rfl, N123q, e123⟩ := hQ123
        have N123 := Fr.app N114 N123q
        refine Go.st (fun _ k => st123 _ k) ?_
        show Go p e below _ (T123.setTop (mkF m 85 #[.val (.int p0), .val (.int p1), .val (.ref a2), .val (.ref a3), .val (.int (7 : Int32)), .val (.int (116 : Int32)), .val (.int (1 : Int32)), .val (.int v116), .val (.int p0), .unset] [(.int (fDec p0))]))
        refine Go.st (fun _ k => XS.istore X123.here hx rfl (hb hby at_85) rfl (l' := #[.val (.int p0), .val (.int p1), .val (.ref a2), .val (.ref a3), .val (.int (7 : Int32)), .val (.int (116 : Int32)), .val (.int (1 : Int32)), .val (.int v116), .val (.int p0), .val (.int (fDec p0))]) rfl k) ?_
        show Go p e below _ (T123.setTop (mkF m 87 #[.val (.int p0), .val (.int p1), .val (.ref a2), .val (.ref a3), .val (.int (7 : Int32)), .val (.int (116 : Int32)), .val (.int (1 : Int32)), .val (.int v116), .val (.int p0), .val (.int (fDec p0))] []))
        refine Go.st (fun _ k => XS.iload X123.here hx rfl (hb hby at_87) rfl k) ?_
        refine Go.st (fun _ k => XS.ifNo X123.here hx rfl (hb hby at_89) rfl ((if0 _ _).trans (feq (by decide : ¬ ((1 : Int32) = (0 : Int32)))).1) k) ?_
        show Go p e below _ (T123.setTop (mkF m 92 #[.val (.int p0), .val (.int p1), .val (.ref a2), .val (.ref a3), .val (.int (7 : Int32)), .val (.int (116 : Int32)), .val (.int (1 : Int32)), .val (.int v116), .val (.int p0), .val (.int (fDec p0))] []))
        refine Go.st (fun _ k => XS.iload X123.here hx rfl (hb hby at_92) rfl k) ?_
        refine Go.st (fun _ k => XS.iload X123.here hx rfl (hb hby at_94) rfl k) ?_
        refine Go.st (fun _ k => XS.aloadN X123.here hx rfl (hb hby at_96) rfl rfl k) ?_
        refine Go.st (fun _ k => XS.aloadN X123.here hx rfl (hb hby at_97) rfl rfl k) ?_
        obtain ⟨_, _, ⟨T124, L124, k124, n124⟩, -, X124, ⟨Lc124, hQ124, l124, y124, z124⟩, st124⟩ := Jvm.LawKit.callS X123 hx (y := (⟨"com/example/tokenloom/tokenloom/typespec/StringValueDecodeEscapePinLaw", "expected", "(ILjava/lang/String;Ljava/lang/String;)I"⟩ : MethodName)) hown (mvT hZ (hw _ (List.mem_of_getElem? (i := 38) rfl))) (mvT hZ (hw _ (List.mem_of_getElem? (i := 39) rfl))) (mvT hZ (hw _ (List.mem_of_getElem? (i := 40) rfl))) (mvT hZ (hw _ (List.mem_of_getElem? (i := 41) rfl))) (by decide) (backOf (W := 1) (rmExp l Z aZ hw [] p0 a2 a3 b2 kc2 b3 kc3 cs vf h3 n0 hcs hvf F3_S_COMPACT_STRINGS F3_S_SIOOBE_FORMATTER F3_E_a2 F3_F_a2_coder F3_F_a2_value F3_V_b2 Es3 Fc3 Fv3 Va3) hZ (hw _ (List.mem_of_getElem? (i := 41) rfl)) (hw _ (List.mem_of_getElem? (i := 40) rfl)) (by decide) (by decide)) (g := (mkF m 98 #[.val (.int p0), .val (.int p1), .val (.ref a2), .val (.ref a3), .val (.int (7 : Int32)), .val (.int (116 : Int32)), .val (.int (1 : Int32)), .val (.int v116), .val (.int p0), .val (.int (fDec p0))] [(.ref a3), (.ref a2), (.int p0), (.int (fDec p0))])) rfl (by rw [hml]; rfl) (argsL := [(.int p0), (.ref a2), (.ref a3)]) (rest := [(.int (fDec p0))]) (lenOf pda0c35829 rfl) rfl (by show 2 * 0 + _ ≤ _; exact Nat.le_of_eq rfl) (hb hby at_98) (fun _ _ => ⟨rfl, e123, (by decide : 4 + 0 ≤ _), (by decide : 72 + 0 ≤ _)⟩)
        dsimp only [Pt.U, Pt.locs, Pt.cells, Pt.slots] at X124 l124 y124 z124 st124 hQ124
        subst l124 y124 z124
        obtain ⟨rfl, N124q, e124⟩ := hQ124
        have N124 := Fr.app N123 N124q
        refine Go.st (fun _ k => st124 _ k) ?_
        show Go p e below _ (T124.setTop (mkF m 101 #[.val (.int p0), .val (.int p1), .val (.ref a2), .val (.ref a3), .val (.int (7 : Int32)), .val (.int (116 : Int32)), .val (.int (1 : Int32)), .val (.int v116), .val (.int p0), .val (.int (fDec p0))] [(.int (fExp p0)), (.int (fDec p0))]))
        refine Go.st (fun _ k => XS.icmpNo X124.here hx rfl (hb hby at_101) rfl (teq (own_same p0)).2 k) ?_
        show Go p e below _ (T124.setTop (mkF m 104 #[.val (.int p0), .val (.int p1), .val (.ref a2), .val (.ref a3), .val (.int (7 : Int32)), .val (.int (116 : Int32)), .val (.int (1 : Int32)), .val (.int v116), .val (.int p0), .val (.int (fDec p0))] []))
        refine Go.st (fun _ k => XS.iconst X124.here hx rfl (hb hby at_104) k) ?_
        refine Go.st (fun _ k => XS.goto X124.here hx rfl (pc0 := 105) (pc' := 109) rfl (hb hby at_105) (by decide) (by decide) k) ?_
        show Go p e below _ (T124.setTop (mkF m 109 #[.val (.int p0), .val (.int p1), .val (.ref a2), .val (.ref a3), .val (.int (7 : Int32)), .val (.int (116 : Int32)), .val (.int (1 : Int32)), .val (.int v116), .val (.int p0), .val (.int (fDec p0))] [(.int (1 : Int32))]))
        obtain ⟨fs, hr, hrun, hended, -, hW, hB, hsame⟩ := X124.leaveW (v := some (.int (1 : Int32))) hS3 (by rw [e124]; exact hk3) (fun h => by rw [Bd.returns] at h; cases h)
        refine ⟨_, _, retN X124 hx (t := .boolean) Bd.returns (by simp) (hb hby at_109) hr, hrun, hended, _, _, rfl, ?_, ⟨_, rfl⟩, hW, hB, hsame.mono (by decide) (by decide)⟩
        show Q_rm0 Z p0 p1 cs vf h0 n0 _ T124.heap _
        rw [e124]
        exact ⟨rfl, N124⟩
set_option maxRecDepth 65536 in
set_option maxHeartbeats 40000000 in
theorem comes_1 {Post : Tables → Env → Array Value → State → Outcome → State → Prop} (hpost : ∀ tb e args s v u, (limb_1_1.after args s (.returned v) u = true ∧ limb_1_2.after args s (.returned v) u = true ∧ True) → ReturnedEndW s (.returned v) u (Jvm.fieldLocs frame_1_writes args s ++ Jvm.arrayLocs frame_1_arrays args s ++ Jvm.staticLocs frame_1_statics s) 8 2112 → Post tb e args s (.returned v) u) :
    ArmFor flags0 classFile x code maxLocals ret World_1 tables_1 room_1 Calls_1 rest_1 Pre_1 Post := by
  intro l hfl _ _ p e ha hc hk s m args below hf hA hF happ hP
  obtain ⟨hcalls, hrest, hpre⟩ := hP
  obtain ⟨-, -, -, hnamed, -, -, -, hat⟩ := (Spec.applies_iff hf).mp happ
  obtain ⟨hg, hn⟩ := and_e (Cond.before_iff.mp (show (Jvm.Cond.and given_1 narrow_1).before args s = true from hpre))
  obtain ⟨g0, gr0⟩ := and_e hg
  obtain ⟨gi0, gr1⟩ := and_e gr0
  have gi1 := gr1
  obtain ⟨w0, w1, rfl⟩ : ∃ w0 w1 : Value, args = #[w0, w1] := by
    have hs : args.size = 2 := by simpa [Cond.value, given_1] using g0
    obtain ⟨L⟩ := args
    match L, hs with
    | [w0, w1], _ => exact ⟨w0, w1, rfl⟩
  have hw := fun d (hd : d ∈ tables_1) => atoms_spec (ws := Jvm.Cond.code x code maxLocals ret :: tables_1) hat d (List.mem_cons_of_mem _ hd)
  obtain ⟨i0, ei0⟩ := is_v gi0
  obtain rfl : w0 = (.int i0) := Option.some.inj ei0
  obtain ⟨i1, ei1⟩ := is_v gi1
  obtain rfl : w1 = (.int i1) := Option.some.inj ei1
  obtain ⟨hsets, hown0⟩ := atoms_of _ (rest_1_c_eq ▸ (show rest_1_c.before _ s = true from hrest))
  have n5 := not_v (Cond.before_iff.mp (hsets _ (List.mem_of_getElem? (i := 2) rfl)))
  obtain ⟨cs, ecs⟩ := is_v (Cond.before_iff.mp (hsets _ (List.mem_of_getElem? (i := 1) rfl)))
  have S_cs : Sta s s.heap "java/lang/String" "COMPACT_STRINGS" "Z" (.int cs) := Sta.start ecs (Or.inl (hsets _ (List.mem_of_getElem? (i := 0) rfl)))
  obtain ⟨vf, evf, hvf⟩ := isR_v (Cond.before_iff.mp (hsets _ (List.mem_of_getElem? (i := 8) rfl)))
  have S_vf : Sta s s.heap "jdk/internal/util/Preconditions" "SIOOBE_FORMATTER" "Ljava/util/function/BiFunction;" vf := Sta.start evf (Or.inl (hsets _ (List.mem_of_getElem? (i := 7) rfl)))
  have hcs : ¬ (cs = (0 : Int32)) := gotF (Cond.eq_ints ecs (Term.int_eval (0))) n5
  have hcw : Jvm.Lit.compactW.before _ s = true := hsets _ (List.mem_of_getElem? (i := 2) rfl)
  obtain ⟨n, o, h1, h2, h3, _, L, rfl, ⟨rfl, N⟩, hq⟩ := rm0 l s _ hw tables_1 i0 i1 cs vf s.heap s.heap.size (Nat.le_refl _) rfl hcw (hcalls.1 _ (List.mem_of_getElem? (i := 0) rfl)) (hcalls.1 _ (List.mem_of_getElem? (i := 1) rfl)) hcs hvf S_cs S_vf p e ha hc hk s m _ below hf ((Spec.applies_iff_loose hf).mp happ).1 ⟨rfl, State.Warmed39.refl s, rfl, rfl⟩ trivial
  refine ⟨n, _, h1, h2, h3, hpost _ _ _ _ _ _ ⟨Cond.after_iff.mpr rfl, Cond.after_iff.mpr (eq_i res_at (Term.int_eval (1)) rfl), trivial⟩ ⟨hq.1, hq.2.1, hq.2.2.1, (hq.2.2.2.sift fun y hy => Or.inr (N y hy)).mono (by decide) (by decide)⟩⟩
theorem main_1_1 : Claimed_1_1 := comes_1 fun _ _ _ _ _ _ h hF => ⟨h.1, hF⟩
theorem main_1_2 : Claimed_1_2 := comes_1 fun _ _ _ _ _ _ h hF => ⟨h.2.1, hF⟩
end Jvm.Pilot.@@N@@
namespace Jvm.Pilot.@@N@@
open Jvm Jvm.ClassFile Sem Op Lib Jvm.Free Jvm.Stand Jvm.Pilot.@@N@@.Jvm.D
/-! MADE BY PROGRAM (witnessworld.py) out of the Statement's table words and the real class files: 17 classes; the members and pool entries that the words name. The judged class is class 1, her method 1. -/
namespace start1
open Jvm.ClassFile
def u (s : String) : CpInfo := .utf8 (stringToUtf16 s)
/-- a pool by its gaps: so many unusable entries, then the entry; so many at the end -/
def gap : Nat → List CpInfo → List CpInfo
  | 0, r => r
  | n + 1, r => .unusable :: gap n r
def poolList (es : List (Nat × CpInfo)) (last : Nat) : List CpInfo := es.foldr (fun e r => gap e.1 (e.2 :: r)) (gap last [])
def pool (es : List (Nat × CpInfo)) (last : Nat) : Array CpInfo := ⟨poolList es last⟩
def fileOf (pool : Array CpInfo) (this : Nat) (attrs : Array Attribute := #[]) (ms : Array MethodInfo := #[]) (fl : Nat := 33) (sup : Nat := 0) (ifs : Array Nat := #[]) (fds : Array FieldInfo := #[]) : ClassFile where
  minorVersion := 0
  majorVersion := 65
  constantPool := pool
  accessFlags := fl
  thisClass := this
  superClass := sup
  interfaces := ifs
  fields := fds
  methods := ms
  attributes := attrs
def plain (name : String) (sup : Option ClassId) : Class where
  name := name
  kind := .ordinary
  loader := none
  accessFlags := 33
  super := sup
  interfaces := #[]
  cf := none
  fields := #[]
  methods := #[]
  instanceTypes := #[]
  staticTypes := #[]
  resolved := #[]
  callSites := []
  init := .initialized
  statics := none
  mirror := none

def pool0 : Array CpInfo := pool [(5, u "<init>"), (0, u "()V"), (1, .class_ 10), (1, u "java/lang/Object")] 113

def k0m0 : Method := { name := "<init>", desc := "()V", sig := { parameters := [], returnType := none }, accessFlags := 1, code := none }
/-- java/lang/Object -/
def k0 : Class := { plain "java/lang/Object" none with
  accessFlags := 33
  interfaces := #[]
  cf := some (fileOf pool0 8 #[] #[{ accessFlags := 1, nameIndex := 5, descriptorIndex := 6, attributes := #[] }] 33 0 #[] #[])
  fields := #[]
  methods := #[k0m0]
  instanceTypes := #[]
  staticTypes := #[]
  resolved := Array.replicate 124 none
  statics := none }

def pool1 : Array CpInfo := pool [(2, .class_ 4), (1, u "java/lang/Object"), (0, u "<init>"), (0, u "()V"), (0, .string 8), (0, u "\"\\$@`nrt"), (0, .string 10), (0, u "\"\\$@`\n\r\t"), (0, .methodref 12 13), (0, .class_ 14), (0, .nameAndType 15 16), (0, u "java/lang/String"), (0, u "charAt"), (0, u "(I)C"), (0, .methodref 18 19), (0, .class_ 20), (0, .nameAndType 21 22), (0, u "com/example/tokenloom/tokenloom/typespec/StringValue"), (0, u "decodeEscape"), (0, u "(I)I"), (0, .methodref 24 25), (0, .class_ 26), (0, .nameAndType 27 28), (0, u "com/example/tokenloom/tokenloom/typespec/StringValueDecodeEscapePinLaw"), (0, u "expected"), (0, u "(ILjava/lang/String;Ljava/lang/String;)I"), (2, u "law"), (0, u "(II)Z")] 3

def k1m0 : Method := { name := "<init>", desc := "()V", sig := { parameters := [], returnType := none }, accessFlags := 1, code := none }
def k1c1 : Code := { maxStack := 4, maxLocals := 10, code := code, exceptionTable := #[], attributes := #[] }
def k1m1 : Method := { name := "law", desc := "(II)Z", sig := { parameters := [.int, .int], returnType := some .boolean }, accessFlags := 9, code := some k1c1 }
def k1c2 : Code := { maxStack := 3, maxLocals := 4, code := method_3_code, exceptionTable := #[], attributes := #[] }
def k1m2 : Method := { name := "expected", desc := "(ILjava/lang/String;Ljava/lang/String;)I", sig := { parameters := [.int, (.object "java/lang/String"), (.object "java/lang/String")], returnType := some .int }, accessFlags := 10, code := some k1c2 }
/-- com/example/tokenloom/tokenloom/typespec/StringValueDecodeEscapePinLaw -/
def k1 : Class := { plain "com/example/tokenloom/tokenloom/typespec/StringValueDecodeEscapePinLaw" (some 0) with
  accessFlags := 49
  interfaces := #[]
  cf := some (fileOf pool1 24 #[] #[{ accessFlags := 1, nameIndex := 5, descriptorIndex := 6, attributes := #[] }, { accessFlags := 9, nameIndex := 31, descriptorIndex := 32, attributes := #[] }, { accessFlags := 10, nameIndex := 27, descriptorIndex := 28, attributes := #[] }] 49 2 #[] #[])
  fields := #[]
  methods := #[k1m0, k1m1, k1m2]
  instanceTypes := #[]
  staticTypes := #[]
  resolved := Array.replicate 36 none
  statics := none }

def pool2 : Array CpInfo := pool [(1, .class_ 2), (0, u "java/io/Serializable"), (0, .class_ 4), (0, u "java/lang/Object")] 2

/-- java/io/Serializable -/
def k2 : Class := { plain "java/io/Serializable" (some 0) with
  accessFlags := 1537
  interfaces := #[]
  cf := some (fileOf pool2 1 #[] #[] 1537 3 #[] #[])
  fields := #[]
  methods := #[]
  instanceTypes := #[]
  staticTypes := #[]
  resolved := Array.replicate 7 none
  statics := none }

def pool3 : Array CpInfo := pool [(1, .class_ 2), (0, u "java/lang/Comparable"), (0, .class_ 4), (0, u "java/lang/Object")] 7

/-- java/lang/Comparable -/
def k3 : Class := { plain "java/lang/Comparable" (some 0) with
  accessFlags := 1537
  interfaces := #[]
  cf := some (fileOf pool3 1 #[] #[] 1537 3 #[] #[])
  fields := #[]
  methods := #[]
  instanceTypes := #[]
  staticTypes := #[]
  resolved := Array.replicate 12 none
  statics := none }

def pool4 : Array CpInfo := pool [(2, .class_ 4), (1, u "java/lang/CharSequence"), (42, .class_ 48), (0, u "java/lang/CharSequence$1CodePointIterator"), (10, .class_ 60), (0, u "java/lang/CharSequence$1CharIterator"), (5, .class_ 67), (0, u "java/lang/Object")] 63

/-- java/lang/CharSequence -/
def k4 : Class := { plain "java/lang/CharSequence" (some 0) with
  accessFlags := 1537
  interfaces := #[]
  cf := some (fileOf pool4 2 #[.nestMembers #[47, 59]] #[] 1537 66 #[] #[])
  fields := #[]
  methods := #[]
  instanceTypes := #[]
  staticTypes := #[]
  resolved := Array.replicate 131 none
  statics := none }

def pool5 : Array CpInfo := pool [(1, .class_ 2), (0, u "java/lang/constant/Constable"), (0, .class_ 4), (0, u "java/lang/Object")] 6

/-- java/lang/constant/Constable -/
def k5 : Class := { plain "java/lang/constant/Constable" (some 0) with
  accessFlags := 1537
  interfaces := #[]
  cf := some (fileOf pool5 1 #[] #[] 1537 3 #[] #[])
  fields := #[]
  methods := #[]
  instanceTypes := #[]
  staticTypes := #[]
  resolved := Array.replicate 11 none
  statics := none }

def pool6 : Array CpInfo := pool [(1, .class_ 2), (0, u "java/lang/constant/ConstantDesc"), (0, .class_ 4), (0, u "java/lang/Object")] 32

/-- java/lang/constant/ConstantDesc -/
def k6 : Class := { plain "java/lang/constant/ConstantDesc" (some 0) with
  accessFlags := 1537
  interfaces := #[]
  cf := some (fileOf pool6 1 #[] #[] 1537 3 #[] #[])
  fields := #[]
  methods := #[]
  instanceTypes := #[]
  staticTypes := #[]
  resolved := Array.replicate 37 none
  statics := none }

def pool7 : Array CpInfo := pool [(2, .class_ 4), (1, u "java/lang/Object"), (0, u "<init>"), (0, u "()V"), (2, .fieldref 10 11), (0, .class_ 12), (0, .nameAndType 13 14), (0, u "java/lang/String"), (0, u "value"), (0, u "[B"), (0, .fieldref 10 16), (0, .nameAndType 17 18), (0, u "coder"), (0, u "B"), (2, u "hash"), (0, u "I"), (2, u "hashIsZero"), (0, u "Z"), (11, .fieldref 10 39), (0, .nameAndType 40 26), (0, u "COMPACT_STRINGS"), (66, .class_ 109), (1, u "java/lang/StringLatin1"), (32, u "()Z"), (220, u "([BI)C"), (27, u "(II)V"), (35, u "(I)C"), (64, .methodref 10 493), (0, .nameAndType 494 142), (0, u "isLatin1"), (0, .methodref 107 496), (0, .nameAndType 497 363), (0, u "charAt"), (3, u "checkIndex"), (73, .class_ 576), (0, u "java/lang/CharSequence"), (22, u "CASE_INSENSITIVE_ORDER"), (0, u "Ljava/util/Comparator;"), (452, .fieldref 1054 1055), (0, .class_ 1056), (0, .nameAndType 1057 1058), (0, u "jdk/internal/util/Preconditions"), (0, u "SIOOBE_FORMATTER"), (0, u "Ljava/util/function/BiFunction;"), (0, .methodref 1054 1060), (0, .nameAndType 501 1061), (0, u "(IILjava/util/function/BiFunction;)I"), (39, u "serialPersistentFields"), (0, u "[Ljava/io/ObjectStreamField;"), (0, .class_ 1104), (0, u "java/lang/String$CaseInsensitiveComparator"), (1, .class_ 1107), (0, u "java/io/Serializable"), (0, .class_ 1109), (0, u "java/lang/Comparable"), (0, .class_ 1111), (0, u "java/lang/constant/Constable"), (0, .class_ 1113), (0, u "java/lang/constant/ConstantDesc"), (2, u "serialVersionUID"), (0, u "J"), (3, u "REPL"), (0, u "C"), (2, u "LATIN1"), (1, u "UTF16")] 323

def k7m0 : Method := { name := "<init>", desc := "()V", sig := { parameters := [], returnType := none }, accessFlags := 1, code := none }
def k7c1 : Code := { maxStack := 2, maxLocals := 2, code := jdk_42_method_56_code, exceptionTable := #[], attributes := #[] }
def k7m1 : Method := { name := "charAt", desc := "(I)C", sig := { parameters := [.int], returnType := some .char }, accessFlags := 1, code := some k7c1 }
def k7c2 : Code := { maxStack := 1, maxLocals := 1, code := jdk_42_method_154_code, exceptionTable := #[], attributes := #[] }
def k7m2 : Method := { name := "isLatin1", desc := "()Z", sig := { parameters := [], returnType := some .boolean }, accessFlags := 0, code := some k7c2 }
def k7c3 : Code := { maxStack := 3, maxLocals := 2, code := jdk_42_method_155_code, exceptionTable := #[], attributes := #[] }
def k7m3 : Method := { name := "checkIndex", desc := "(II)V", sig := { parameters := [.int, .int], returnType := none }, accessFlags := 8, code := some k7c3 }
/-- java/lang/String -/
def k7 : Class := { plain "java/lang/String" (some 0) with
  accessFlags := 49
  interfaces := #[2, 3, 4, 5, 6]
  cf := some (fileOf pool7 10 #[.nestMembers #[1103]] #[{ accessFlags := 1, nameIndex := 5, descriptorIndex := 6, attributes := #[] }, { accessFlags := 1, nameIndex := 497, descriptorIndex := 427, attributes := #[] }, { accessFlags := 0, nameIndex := 494, descriptorIndex := 142, attributes := #[] }, { accessFlags := 8, nameIndex := 501, descriptorIndex := 391, attributes := #[] }] 49 2 #[1106, 1108, 575, 1110, 1112] #[{ accessFlags := 18, nameIndex := 13, descriptorIndex := 14, attributes := #[] }, { accessFlags := 18, nameIndex := 17, descriptorIndex := 18, attributes := #[] }, { accessFlags := 2, nameIndex := 21, descriptorIndex := 22, attributes := #[] }, { accessFlags := 2, nameIndex := 25, descriptorIndex := 26, attributes := #[] }, { accessFlags := 26, nameIndex := 1116, descriptorIndex := 1117, attributes := #[] }, { accessFlags := 24, nameIndex := 40, descriptorIndex := 26, attributes := #[] }, { accessFlags := 26, nameIndex := 1101, descriptorIndex := 1102, attributes := #[] }, { accessFlags := 26, nameIndex := 1121, descriptorIndex := 1122, attributes := #[] }, { accessFlags := 25, nameIndex := 599, descriptorIndex := 600, attributes := #[] }, { accessFlags := 24, nameIndex := 1125, descriptorIndex := 18, attributes := #[] }, { accessFlags := 24, nameIndex := 1127, descriptorIndex := 18, attributes := #[] }])
  fields := #[{ name := "value", type := (.array .byte), accessFlags := 18, slot := 0, constantValue := 0 }, { name := "coder", type := .byte, accessFlags := 18, slot := 1, constantValue := 0 }, { name := "hash", type := .int, accessFlags := 2, slot := 2, constantValue := 0 }, { name := "hashIsZero", type := .boolean, accessFlags := 2, slot := 3, constantValue := 0 }, { name := "serialVersionUID", type := .long, accessFlags := 26, slot := 0, constantValue := 0 }, { name := "COMPACT_STRINGS", type := .boolean, accessFlags := 24, slot := 1, constantValue := 0 }, { name := "serialPersistentFields", type := (.array (.object "java/io/ObjectStreamField")), accessFlags := 26, slot := 2, constantValue := 0 }, { name := "REPL", type := .char, accessFlags := 26, slot := 3, constantValue := 0 }, { name := "CASE_INSENSITIVE_ORDER", type := (.object "java/util/Comparator"), accessFlags := 25, slot := 4, constantValue := 0 }, { name := "LATIN1", type := .byte, accessFlags := 24, slot := 5, constantValue := 0 }, { name := "UTF16", type := .byte, accessFlags := 24, slot := 6, constantValue := 0 }]
  methods := #[k7m0, k7m1, k7m2, k7m3]
  instanceTypes := #[(.array .byte), .byte, .int, .boolean]
  staticTypes := #[.long, .boolean, (.array (.object "java/io/ObjectStreamField")), .char, (.object "java/util/Comparator"), .byte, .byte]
  resolved := Array.replicate 1451 none
  statics := some 0 }

def pool8 : Array CpInfo := pool [(1, .class_ 2), (0, u "java/lang/String"), (1, .class_ 6), (1, u "java/lang/Object"), (0, u "<init>"), (0, u "()V"), (0, .methodref 1 10), (0, .nameAndType 11 12), (0, u "checkIndex"), (0, u "(II)V"), (1, .class_ 16), (1, u "java/lang/StringLatin1"), (36, u "([BI)C"), (67, u "$assertionsDisabled"), (0, u "Z"), (98, .class_ 223), (1, u "java/lang/StringLatin1$LinesSpliterator"), (28, u "charAt"), (137, .class_ 391), (0, u "java/lang/StringLatin1$CharsSpliterator")] 3

def k8m0 : Method := { name := "<init>", desc := "()V", sig := { parameters := [], returnType := none }, accessFlags := 0, code := none }
def k8c1 : Code := { maxStack := 2, maxLocals := 2, code := jdk_43_method_2_code, exceptionTable := #[], attributes := #[] }
def k8m1 : Method := { name := "charAt", desc := "([BI)C", sig := { parameters := [(.array .byte), .int], returnType := some .char }, accessFlags := 9, code := some k8c1 }
/-- java/lang/StringLatin1 -/
def k8 : Class := { plain "java/lang/StringLatin1" (some 0) with
  accessFlags := 48
  interfaces := #[]
  cf := some (fileOf pool8 14 #[.nestMembers #[390, 221]] #[{ accessFlags := 0, nameIndex := 7, descriptorIndex := 8, attributes := #[] }, { accessFlags := 9, nameIndex := 252, descriptorIndex := 53, attributes := #[] }] 48 4 #[] #[{ accessFlags := 4120, nameIndex := 121, descriptorIndex := 122, attributes := #[] }])
  fields := #[{ name := "$assertionsDisabled", type := .boolean, accessFlags := 4120, slot := 0, constantValue := 0 }]
  methods := #[k8m0, k8m1]
  instanceTypes := #[]
  staticTypes := #[.boolean]
  resolved := Array.replicate 395 none
  statics := none }

def pool9 : Array CpInfo := pool [(2, .class_ 4), (1, u "java/lang/Object"), (0, u "<init>"), (0, u "()V"), (17, .class_ 26), (1, u "jdk/internal/util/Preconditions"), (6, u "checkIndex"), (21, .class_ 56), (0, u "jdk/internal/util/Preconditions$4"), (57, .class_ 115), (0, u "jdk/internal/util/Preconditions$1"), (7, u "SIOOBE_FORMATTER"), (0, u "Ljava/util/function/BiFunction;"), (0, .class_ 126), (0, u "jdk/internal/util/Preconditions$2"), (3, u "AIOOBE_FORMATTER"), (0, .class_ 132), (0, u "jdk/internal/util/Preconditions$3"), (3, u "IOOBE_FORMATTER"), (41, u "(IILjava/util/function/BiFunction;)I")] 15

def k9m0 : Method := { name := "<init>", desc := "()V", sig := { parameters := [], returnType := none }, accessFlags := 1, code := none }
def k9c1 : Code := { maxStack := 3, maxLocals := 3, code := jdk_41_method_11_code, exceptionTable := #[], attributes := #[] }
def k9m1 : Method := { name := "checkIndex", desc := "(IILjava/util/function/BiFunction;)I", sig := { parameters := [.int, .int, (.object "java/util/function/BiFunction")], returnType := some .int }, accessFlags := 9, code := some k9c1 }
/-- jdk/internal/util/Preconditions -/
def k9 : Class := { plain "jdk/internal/util/Preconditions" (some 0) with
  accessFlags := 33
  interfaces := #[]
  cf := some (fileOf pool9 24 #[.nestMembers #[55, 131, 125, 114]] #[{ accessFlags := 1, nameIndex := 5, descriptorIndex := 6, attributes := #[] }, { accessFlags := 9, nameIndex := 33, descriptorIndex := 178, attributes := #[] }] 33 2 #[] #[{ accessFlags := 25, nameIndex := 123, descriptorIndex := 124, attributes := #[] }, { accessFlags := 25, nameIndex := 130, descriptorIndex := 124, attributes := #[] }, { accessFlags := 25, nameIndex := 136, descriptorIndex := 124, attributes := #[] }])
  fields := #[{ name := "SIOOBE_FORMATTER", type := (.object "java/util/function/BiFunction"), accessFlags := 25, slot := 0, constantValue := 0 }, { name := "AIOOBE_FORMATTER", type := (.object "java/util/function/BiFunction"), accessFlags := 25, slot := 1, constantValue := 0 }, { name := "IOOBE_FORMATTER", type := (.object "java/util/function/BiFunction"), accessFlags := 25, slot := 2, constantValue := 0 }]
  methods := #[k9m0, k9m1]
  instanceTypes := #[]
  staticTypes := #[(.object "java/util/function/BiFunction"), (.object "java/util/function/BiFunction"), (.object "java/util/function/BiFunction")]
  resolved := Array.replicate 194 none
  statics := some 1 }

def pool10 : Array CpInfo := pool [(2, .class_ 4), (1, u "java/lang/Object"), (0, u "<init>"), (0, u "()V"), (4, .class_ 13), (1, u "com/example/tokenloom/tokenloom/typespec/StringValue"), (0, u "text"), (0, u "Ljava/lang/StringBuilder;"), (2, u "escapes"), (0, u "[I"), (6, u "escapeCount"), (0, u "I"), (44, u "(I)I"), (57, u "OPENING_LINE_BREAK_MISSING"), (0, u "Ljava/lang/String;"), (1, u "CLOSING_LINE_BREAK_MISSING"), (0, u "INDENTATION_MISMATCH"), (2, u "decodeEscape")] 13

def k10m0 : Method := { name := "<init>", desc := "()V", sig := { parameters := [], returnType := none }, accessFlags := 0, code := none }
def k10c1 : Code := { maxStack := 1, maxLocals := 1, code := prog_21_method_2_code, exceptionTable := #[], attributes := #[] }
def k10m1 : Method := { name := "decodeEscape", desc := "(I)I", sig := { parameters := [.int], returnType := some .int }, accessFlags := 8, code := some k10c1 }
/-- com/example/tokenloom/tokenloom/typespec/StringValue -/
def k10 : Class := { plain "com/example/tokenloom/tokenloom/typespec/StringValue" (some 0) with
  accessFlags := 48
  interfaces := #[]
  cf := some (fileOf pool10 11 #[] #[{ accessFlags := 0, nameIndex := 5, descriptorIndex := 6, attributes := #[] }, { accessFlags := 8, nameIndex := 137, descriptorIndex := 72, attributes := #[] }] 48 2 #[] #[{ accessFlags := 26, nameIndex := 130, descriptorIndex := 131, attributes := #[] }, { accessFlags := 26, nameIndex := 133, descriptorIndex := 131, attributes := #[] }, { accessFlags := 26, nameIndex := 134, descriptorIndex := 131, attributes := #[] }, { accessFlags := 18, nameIndex := 14, descriptorIndex := 15, attributes := #[] }, { accessFlags := 2, nameIndex := 18, descriptorIndex := 19, attributes := #[] }, { accessFlags := 2, nameIndex := 26, descriptorIndex := 27, attributes := #[] }])
  fields := #[{ name := "OPENING_LINE_BREAK_MISSING", type := (.object "java/lang/String"), accessFlags := 26, slot := 0, constantValue := 0 }, { name := "CLOSING_LINE_BREAK_MISSING", type := (.object "java/lang/String"), accessFlags := 26, slot := 1, constantValue := 0 }, { name := "INDENTATION_MISMATCH", type := (.object "java/lang/String"), accessFlags := 26, slot := 2, constantValue := 0 }, { name := "text", type := (.object "java/lang/StringBuilder"), accessFlags := 18, slot := 0, constantValue := 0 }, { name := "escapes", type := (.array .int), accessFlags := 2, slot := 1, constantValue := 0 }, { name := "escapeCount", type := .int, accessFlags := 2, slot := 2, constantValue := 0 }]
  methods := #[k10m0, k10m1]
  instanceTypes := #[(.object "java/lang/StringBuilder"), (.array .int), .int]
  staticTypes := #[(.object "java/lang/String"), (.object "java/lang/String"), (.object "java/lang/String")]
  resolved := Array.replicate 151 none
  statics := none }

def pool11 : Array CpInfo := pool [(9, u "<init>"), (6, .class_ 18), (1, u "java/lang/Object"), (0, u "()V"), (1, .class_ 23), (1, u "jdk/internal/util/ArraysSupport"), (0, u "LOG2_ARRAY_LONG_INDEX_SCALE"), (0, u "I"), (2, u "U"), (0, u "Ljdk/internal/misc/Unsafe;"), (8, u "BIG_ENDIAN"), (0, u "Z"), (8, u "LOG2_BYTE_BIT_SIZE"), (4, u "LOG2_ARRAY_INT_INDEX_SCALE"), (54, u "JLA"), (0, u "Ljdk/internal/access/JavaLangAccess;"), (11, u "LOG2_ARRAY_BOOLEAN_INDEX_SCALE"), (9, u "LOG2_ARRAY_BYTE_INDEX_SCALE"), (5, u "LOG2_ARRAY_CHAR_INDEX_SCALE"), (5, u "LOG2_ARRAY_SHORT_INDEX_SCALE"), (18, u "LOG2_ARRAY_FLOAT_INDEX_SCALE"), (24, u "LOG2_ARRAY_DOUBLE_INDEX_SCALE"), (89, u "T_BOOLEAN"), (2, u "T_CHAR"), (1, u "T_FLOAT"), (1, u "T_DOUBLE"), (1, u "T_BYTE"), (1, u "T_SHORT"), (1, u "T_INT"), (1, u "T_LONG"), (1, u "SOFT_MAX_ARRAY_LENGTH")] 83

def k11m0 : Method := { name := "<init>", desc := "()V", sig := { parameters := [], returnType := none }, accessFlags := 2, code := none }
/-- jdk/internal/util/ArraysSupport -/
def k11 : Class := { plain "jdk/internal/util/ArraysSupport" (some 0) with
  accessFlags := 33
  interfaces := #[]
  cf := some (fileOf pool11 21 #[] #[{ accessFlags := 2, nameIndex := 9, descriptorIndex := 19, attributes := #[] }] 33 16 #[] #[{ accessFlags := 24, nameIndex := 28, descriptorIndex := 29, attributes := #[] }, { accessFlags := 26, nameIndex := 38, descriptorIndex := 39, attributes := #[] }, { accessFlags := 25, nameIndex := 121, descriptorIndex := 25, attributes := #[] }, { accessFlags := 25, nameIndex := 131, descriptorIndex := 25, attributes := #[] }, { accessFlags := 25, nameIndex := 137, descriptorIndex := 25, attributes := #[] }, { accessFlags := 25, nameIndex := 143, descriptorIndex := 25, attributes := #[] }, { accessFlags := 25, nameIndex := 53, descriptorIndex := 25, attributes := #[] }, { accessFlags := 25, nameIndex := 24, descriptorIndex := 25, attributes := #[] }, { accessFlags := 25, nameIndex := 162, descriptorIndex := 25, attributes := #[] }, { accessFlags := 25, nameIndex := 187, descriptorIndex := 25, attributes := #[] }, { accessFlags := 26, nameIndex := 48, descriptorIndex := 25, attributes := #[] }, { accessFlags := 25, nameIndex := 277, descriptorIndex := 25, attributes := #[] }, { accessFlags := 25, nameIndex := 280, descriptorIndex := 25, attributes := #[] }, { accessFlags := 25, nameIndex := 282, descriptorIndex := 25, attributes := #[] }, { accessFlags := 25, nameIndex := 284, descriptorIndex := 25, attributes := #[] }, { accessFlags := 25, nameIndex := 286, descriptorIndex := 25, attributes := #[] }, { accessFlags := 25, nameIndex := 288, descriptorIndex := 25, attributes := #[] }, { accessFlags := 25, nameIndex := 290, descriptorIndex := 25, attributes := #[] }, { accessFlags := 25, nameIndex := 292, descriptorIndex := 25, attributes := #[] }, { accessFlags := 26, nameIndex := 108, descriptorIndex := 109, attributes := #[] }, { accessFlags := 25, nameIndex := 294, descriptorIndex := 25, attributes := #[] }])
  fields := #[{ name := "U", type := (.object "jdk/internal/misc/Unsafe"), accessFlags := 24, slot := 0, constantValue := 0 }, { name := "BIG_ENDIAN", type := .boolean, accessFlags := 26, slot := 1, constantValue := 0 }, { name := "LOG2_ARRAY_BOOLEAN_INDEX_SCALE", type := .int, accessFlags := 25, slot := 2, constantValue := 0 }, { name := "LOG2_ARRAY_BYTE_INDEX_SCALE", type := .int, accessFlags := 25, slot := 3, constantValue := 0 }, { name := "LOG2_ARRAY_CHAR_INDEX_SCALE", type := .int, accessFlags := 25, slot := 4, constantValue := 0 }, { name := "LOG2_ARRAY_SHORT_INDEX_SCALE", type := .int, accessFlags := 25, slot := 5, constantValue := 0 }, { name := "LOG2_ARRAY_INT_INDEX_SCALE", type := .int, accessFlags := 25, slot := 6, constantValue := 0 }, { name := "LOG2_ARRAY_LONG_INDEX_SCALE", type := .int, accessFlags := 25, slot := 7, constantValue := 0 }, { name := "LOG2_ARRAY_FLOAT_INDEX_SCALE", type := .int, accessFlags := 25, slot := 8, constantValue := 0 }, { name := "LOG2_ARRAY_DOUBLE_INDEX_SCALE", type := .int, accessFlags := 25, slot := 9, constantValue := 0 }, { name := "LOG2_BYTE_BIT_SIZE", type := .int, accessFlags := 26, slot := 10, constantValue := 0 }, { name := "T_BOOLEAN", type := .int, accessFlags := 25, slot := 11, constantValue := 0 }, { name := "T_CHAR", type := .int, accessFlags := 25, slot := 12, constantValue := 0 }, { name := "T_FLOAT", type := .int, accessFlags := 25, slot := 13, constantValue := 0 }, { name := "T_DOUBLE", type := .int, accessFlags := 25, slot := 14, constantValue := 0 }, { name := "T_BYTE", type := .int, accessFlags := 25, slot := 15, constantValue := 0 }, { name := "T_SHORT", type := .int, accessFlags := 25, slot := 16, constantValue := 0 }, { name := "T_INT", type := .int, accessFlags := 25, slot := 17, constantValue := 0 }, { name := "T_LONG", type := .int, accessFlags := 25, slot := 18, constantValue := 0 }, { name := "JLA", type := (.object "jdk/internal/access/JavaLangAccess"), accessFlags := 26, slot := 19, constantValue := 0 }, { name := "SOFT_MAX_ARRAY_LENGTH", type := .int, accessFlags := 25, slot := 20, constantValue := 0 }]
  methods := #[k11m0]
  instanceTypes := #[]
  staticTypes := #[(.object "jdk/internal/misc/Unsafe"), .boolean, .int, .int, .int, .int, .int, .int, .int, .int, .int, .int, .int, .int, .int, .int, .int, .int, .int, (.object "jdk/internal/access/JavaLangAccess"), .int]
  resolved := Array.replicate 378 none
  statics := none }

def pool12 : Array CpInfo := pool [(1, u "java/lang/Cloneable"), (0, .class_ 1), (0, u "java/lang/Object"), (0, .class_ 3)] 3

/-- java/lang/Cloneable -/
def k12 : Class := { plain "java/lang/Cloneable" (some 0) with
  accessFlags := 1537
  interfaces := #[]
  cf := some (fileOf pool12 2 #[] #[] 1537 4 #[] #[])
  fields := #[]
  methods := #[]
  instanceTypes := #[]
  staticTypes := #[]
  resolved := Array.replicate 8 none
  statics := none }

/-- the primitive byte -/
def k13 : Class := { plain "byte" none with kind := .primitive 'B', accessFlags := 0x411 }
/-- [B -/
def k14 : Class := { plain "[B" (some 0) with kind := .array 13 .byte, interfaces := #[12, 2], accessFlags := 1041 }

/-- the primitive int -/
def k15 : Class := { plain "int" none with kind := .primitive 'I', accessFlags := 0x411 }
/-- [I -/
def k16 : Class := { plain "[I" (some 0) with kind := .array 15 .int, interfaces := #[12, 2], accessFlags := 1041 }

def heap : Heap := #[{ cls := 7, slots := #[.long 0, .int 1, .null, .int 0, .null, .int 0, .int 0], vm := .statics 7 },
  { cls := 9, slots := #[.null, .null, .null], vm := .statics 9 }]
def classes : Array Class := #[k0, k1, k2, k3, k4, k5, k6, k7, k8, k9, k10, k11, k12, k13, k14, k15, k16]
def interned : List (Array UInt16 × Addr) := []
def slotsUsed : Nat := 10
def theMethod : MethodId := ⟨1, 1⟩
def args0 : Array Value := #[.int 5, .int 6]
def aboutOver (below : List Frame) : State where
  vm := { classes := classes, interned := interned.toArray }
  heap := heap
  slotsUsed := slotsUsed
  threads := #[{ frames := .invoking theMethod args0 :: below }]
def below0 : List Frame := [.native { method := ⟨0, 0⟩, args := #[] }]
def about1 : State := aboutOver below0
def p0 : Program := .bare "" "" ""
def e0 : Env := launch0.env 0 0 0
theorem w_frames : about1.frames = Frame.invoking theMethod args0 :: below0 := rfl
set_option maxRecDepth 65536 in
theorem w_args : argsFit about1.vm theMethod args0 = true := by decide +kernel
set_option maxRecDepth 65536 in
theorem w_heap : heapFits about1 = true := by decide +kernel
set_option maxRecDepth 65536 in
theorem w_runnable : about1.curStatus? = some .runnable := by decide +kernel
set_option maxRecDepth 65536 in
theorem w_alone : about1.alone = true := by decide +kernel
set_option maxRecDepth 65536 in
theorem w_named : about1.methodNamed? x = some theMethod := by decide +kernel
set_option maxRecDepth 65536 in
theorem w_hears : about1.hears theMethod below0 = true := by decide +kernel
set_option maxRecDepth 65536 in
theorem w_ripe : about1.ripe theMethod args0 below0 = true := by decide +kernel
theorem w_running : about1.status = .running := rfl
set_option maxRecDepth 65536 in
theorem w_room : about1.hasRoom e0.platform room_1 = true :=
  launch0.hasRoom_least _ room_1 (by decide +kernel) (by decide +kernel) (by decide +kernel) (by decide +kernel) (by decide +kernel) (by decide +kernel)
theorem allAtoms_all (ts : List Jvm.Cond) (a : Array Jvm.Value) (st : Jvm.State) : (allAtoms ts).before a st = ts.all (fun c => c.before a st) := by
  induction ts with
  | nil => rfl
  | cons c t ih =>
    show (Jvm.Cond.and c (allAtoms t)).before a st = _
    rw [Jvm.Cond.before_and, ih, List.all_cons]
def words1 : List Jvm.Cond := Jvm.Cond.code x code maxLocals ret :: tables_1
/-- a 'code' word, met by the world's own term for the bytes: nothing is compared byte by byte -/
theorem code_word {y : MethodName} {bytes : ByteArray} {mx : Nat} {rt : Option FieldType} {a : Array Value} {s : State} {m : MethodId} {meth : Method} {c : Code} (h1 : s.methodNamed? y = some m) (h2 : s.vm.method? m = some meth) (h3 : meth.code = some c) (h4 : c.code = bytes)
    (h5 : (c.maxLocals == mx && c.exceptionTable.isEmpty && decide (c.maxStack ≤ mostOperands) && decide (meth.sig.returnType = rt) && !meth.locks && decide (parseMethodDescriptor y.desc = some meth.sig)) = true) : (Jvm.Cond.code y bytes mx rt).before a s = true := by
  simp only [Bool.and_eq_true, beq_iff_eq, Bool.not_eq_true', decide_eq_true_eq] at h5
  obtain ⟨⟨⟨⟨⟨g1, g2⟩, g3⟩, g4⟩, g5⟩, g6⟩ := h5
  simp [Cond.before, Cond.holds, Cond.value, h1, h2, h3, h4, g1, g2, g3, g4, g5, g6]
def isCode : Jvm.Cond → Bool
  | .code _ _ _ _ => true
  | _ => false
theorem all_split {L : List Jvm.Cond} {P : Jvm.Cond → Bool} (h1 : L.all (fun c => isCode c || P c) = true) (h2 : ∀ c ∈ L.filter isCode, P c = true) : L.all P = true := by
  refine List.all_eq_true.mpr fun c hc => ?_
  have h := List.all_eq_true.mp h1 c hc
  rcases Bool.eq_false_or_eq_true (isCode c) with hi | hi
  · exact h2 c (List.mem_filter.mpr ⟨hc, hi⟩)
  · simpa [hi] using h
set_option maxRecDepth 65536 in
theorem w_c0 : (Jvm.Cond.code x code maxLocals ret).before args0 about1 = true := code_word (m := ⟨1, 1⟩) (meth := k1m1) (c := k1c1) (by decide +kernel) rfl rfl rfl (by decide +kernel)
set_option maxRecDepth 65536 in
theorem w_c1 : (Jvm.Cond.code ({ cls := "java/lang/String", name := "charAt", desc := "(I)C" } : Jvm.MethodName) jdk_42_method_56_code (2 : Nat) (Option.some Jvm.ClassFile.FieldType.char)).before args0 about1 = true := code_word (m := ⟨7, 1⟩) (meth := k7m1) (c := k7c1) (by decide +kernel) rfl rfl rfl (by decide +kernel)
set_option maxRecDepth 65536 in
theorem w_c2 : (Jvm.Cond.code ({ cls := "java/lang/String", name := "isLatin1", desc := "()Z" } : Jvm.MethodName) jdk_42_method_154_code (1 : Nat) (Option.some Jvm.ClassFile.FieldType.boolean)).before args0 about1 = true := code_word (m := ⟨7, 2⟩) (meth := k7m2) (c := k7c2) (by decide +kernel) rfl rfl rfl (by decide +kernel)
set_option maxRecDepth 65536 in
theorem w_c3 : (Jvm.Cond.code ({ cls := "java/lang/StringLatin1", name := "charAt", desc := "([BI)C" } : Jvm.MethodName) jdk_43_method_2_code (2 : Nat) (Option.some Jvm.ClassFile.FieldType.char)).before args0 about1 = true := code_word (m := ⟨8, 1⟩) (meth := k8m1) (c := k8c1) (by decide +kernel) rfl rfl rfl (by decide +kernel)
set_option maxRecDepth 65536 in
theorem w_c4 : (Jvm.Cond.code ({ cls := "java/lang/String", name := "checkIndex", desc := "(II)V" } : Jvm.MethodName) jdk_42_method_155_code (2 : Nat) (Option.none : Option Jvm.ClassFile.FieldType)).before args0 about1 = true := code_word (m := ⟨7, 3⟩) (meth := k7m3) (c := k7c3) (by decide +kernel) rfl rfl rfl (by decide +kernel)
set_option maxRecDepth 65536 in
theorem w_c5 : (Jvm.Cond.code ({ cls := "jdk/internal/util/Preconditions", name := "checkIndex", desc := "(IILjava/util/function/BiFunction;)I" } : Jvm.MethodName) jdk_41_method_11_code (3 : Nat) (Option.some Jvm.ClassFile.FieldType.int)).before args0 about1 = true := code_word (m := ⟨9, 1⟩) (meth := k9m1) (c := k9c1) (by decide +kernel) rfl rfl rfl (by decide +kernel)
set_option maxRecDepth 65536 in
theorem w_c6 : (Jvm.Cond.code ({ cls := "com/example/tokenloom/tokenloom/typespec/StringValue", name := "decodeEscape", desc := "(I)I" } : Jvm.MethodName) prog_21_method_2_code (1 : Nat) (Option.some Jvm.ClassFile.FieldType.int)).before args0 about1 = true := code_word (m := ⟨10, 1⟩) (meth := k10m1) (c := k10c1) (by decide +kernel) rfl rfl rfl (by decide +kernel)
set_option maxRecDepth 65536 in
theorem w_c7 : (Jvm.Cond.code ({ cls := "com/example/tokenloom/tokenloom/typespec/StringValueDecodeEscapePinLaw", name := "expected", desc := "(ILjava/lang/String;Ljava/lang/String;)I" } : Jvm.MethodName) method_3_code (4 : Nat) (Option.some Jvm.ClassFile.FieldType.int)).before args0 about1 = true := code_word (m := ⟨1, 2⟩) (meth := k1m2) (c := k1c2) (by decide +kernel) rfl rfl rfl (by decide +kernel)
def codes1 : List Jvm.Cond := [Jvm.Cond.code x code maxLocals ret, Jvm.Cond.code ({ cls := "java/lang/String", name := "charAt", desc := "(I)C" } : Jvm.MethodName) jdk_42_method_56_code (2 : Nat) (Option.some Jvm.ClassFile.FieldType.char), Jvm.Cond.code ({ cls := "java/lang/String", name := "isLatin1", desc := "()Z" } : Jvm.MethodName) jdk_42_method_154_code (1 : Nat) (Option.some Jvm.ClassFile.FieldType.boolean), Jvm.Cond.code ({ cls := "java/lang/StringLatin1", name := "charAt", desc := "([BI)C" } : Jvm.MethodName) jdk_43_method_2_code (2 : Nat) (Option.some Jvm.ClassFile.FieldType.char), Jvm.Cond.code ({ cls := "java/lang/String", name := "checkIndex", desc := "(II)V" } : Jvm.MethodName) jdk_42_method_155_code (2 : Nat) (Option.none : Option Jvm.ClassFile.FieldType), Jvm.Cond.code ({ cls := "jdk/internal/util/Preconditions", name := "checkIndex", desc := "(IILjava/util/function/BiFunction;)I" } : Jvm.MethodName) jdk_41_method_11_code (3 : Nat) (Option.some Jvm.ClassFile.FieldType.int), Jvm.Cond.code ({ cls := "com/example/tokenloom/tokenloom/typespec/StringValue", name := "decodeEscape", desc := "(I)I" } : Jvm.MethodName) prog_21_method_2_code (1 : Nat) (Option.some Jvm.ClassFile.FieldType.int), Jvm.Cond.code ({ cls := "com/example/tokenloom/tokenloom/typespec/StringValueDecodeEscapePinLaw", name := "expected", desc := "(ILjava/lang/String;Ljava/lang/String;)I" } : Jvm.MethodName) method_3_code (4 : Nat) (Option.some Jvm.ClassFile.FieldType.int)]
set_option maxRecDepth 65536 in
theorem codes_eq : words1.filter isCode = codes1 := rfl
theorem w_codes : ∀ c ∈ words1.filter isCode, c.before args0 about1 = true := by
  rw [codes_eq]
  intro c hc
  simp only [codes1, List.mem_cons, List.not_mem_nil, or_false] at hc
  rcases hc with rfl | rfl | rfl | rfl | rfl | rfl | rfl | rfl
  · exact w_c0
  · exact w_c1
  · exact w_c2
  · exact w_c3
  · exact w_c4
  · exact w_c5
  · exact w_c6
  · exact w_c7
set_option maxRecDepth 65536 in
theorem w_t1 : (words1.take 24).all (fun c => isCode c || c.before args0 about1) = true := by decide +kernel
set_option maxRecDepth 65536 in
theorem w_t2 : (words1.drop 24).all (fun c => isCode c || c.before args0 about1) = true := by decide +kernel
theorem w_tables : (allAtoms (Jvm.Cond.code x code maxLocals ret :: tables_1)).before args0 about1 = true := by
  rw [allAtoms_all]
  show words1.all (fun c => c.before args0 about1) = true
  refine all_split ?_ w_codes
  rw [← List.take_append_drop 24 words1, List.all_append, w_t1, w_t2]
  rfl
set_option maxRecDepth 65536 in
theorem w_rest : rest_1_c.before args0 about1 = true := by decide +kernel
set_option maxRecDepth 65536 in
theorem w_case : (Jvm.Cond.and given_1 narrow_1).before args0 about1 = true := by decide +kernel
set_option maxRecDepth 65536 in
theorem w_consts : constsHeld consts_1 about1 := Jvm.Lit.constsHeldB_iff.mp (by decide +kernel)
theorem w_applies : (headSpec (Jvm.Cond.code x code maxLocals ret :: tables_1) room_1).applies x e0.platform about1 = true :=
  (Spec.applies_iff w_frames).mpr ⟨w_running, w_runnable, w_alone, w_named, w_hears, w_ripe, w_room, w_tables⟩
theorem atStart : AtStart classFile x code maxLocals ret World_1 tables_1 room_1 Calls_1 rest_1 Pre_1 launch0 p0 e0 about1 theMethod args0 below0 :=
  ⟨lists_1, trivial, launch0.admits_env _ _ _, launch0.least_env, fairChoices_fair.cas, fairChoices_fair.clock, w_frames, w_args, w_heap, w_applies, ⟨w_consts, trivial⟩, w_rest, w_case⟩
end start1
theorem witness_1 : WitnessClaimed_1 := ⟨start1.p0, start1.e0, start1.about1, start1.theMethod, start1.args0, start1.below0, start1.atStart⟩
end Jvm.Pilot.@@N@@
