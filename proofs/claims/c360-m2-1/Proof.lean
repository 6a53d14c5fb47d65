import JvmDerived
import JvmDerived.Pilot.@@N@@Statement
import JvmDerived.Pilot.@@N@@Code
set_option linter.unusedVariables false
set_option linter.unusedSimpArgs false
namespace Jvm.RoadKit
open Sem ClassFile Op Lib Jvm.Stand Jvm.Free Jvm.LawKit
section New
variable {p : Program} {l : Launch} {e : Env} {R : Room} {s : State} {m : MethodId} {args : Array Value} {below : List Frame} {meth : Method} {c : Code} {T : State} {locs : List Loc} {cells slots : Nat}
theorem retI (X : Stand p l e R s m args below meth c T locs cells slots) (hx : p.tables.exec = Jvm.exec) {pc : Nat} {Ls : Array Slot} {z : Int32} {rest : List Value} (hret : meth.sig.returnType = some .int) (hd : decode c.code pc = .ok (.ireturn, 1)) {fs : List Frame}
    (hl : ∀ (f : JFrame) (acts : List Action), f.method = m → f.locked = none → f.entered = [] → (doReturn e (T.setTop f) acts (some (.int z))).1 = T.setFrames fs) : Steps p.tables e below (T.setTop (mkF m pc Ls (.int z :: rest))) (T.setFrames fs) := by
  have hm' : T.vm.method? m = some meth := X.method'
  have hn : narrow .int (.int z) = .int z := rfl
  show Steps p.tables e below (T.setTop { method := m, pc := pc, locals := Ls, stack := _ :: rest, locked := none }) _
  jvm_step X.here [X.here.top, hx, hd, hm', hret, hn]
  first | (intro acts; rw [hl _ acts rfl rfl rfl]) | rw [hl _ _ rfl rfl rfl]
  exact Steps.refl _
theorem retJ (X : Stand p l e R s m args below meth c T locs cells slots) (hx : p.tables.exec = Jvm.exec) {pc : Nat} {Ls : Array Slot} {z : Int64} {rest : List Value} (hret : meth.sig.returnType = some .long) (hd : decode c.code pc = .ok (.lreturn, 1)) {fs : List Frame}
    (hl : ∀ (f : JFrame) (acts : List Action), f.method = m → f.locked = none → f.entered = [] → (doReturn e (T.setTop f) acts (some (.long z))).1 = T.setFrames fs) : Steps p.tables e below (T.setTop (mkF m pc Ls (.long z :: rest))) (T.setFrames fs) := by
  have hm' : T.vm.method? m = some meth := X.method'
  have hn : narrow .long (.long z) = .long z := rfl
  show Steps p.tables e below (T.setTop { method := m, pc := pc, locals := Ls, stack := _ :: rest, locked := none }) _
  jvm_step X.here [X.here.top, hx, hd, hm', hret, hn]
  first | (intro acts; rw [hl _ acts rfl rfl rfl]) | rw [hl _ _ rfl rfl rfl]
  exact Steps.refl _
theorem retA (X : Stand p l e R s m args below meth c T locs cells slots) (hx : p.tables.exec = Jvm.exec) {pc : Nat} {Ls : Array Slot} {z : Value} {t : FieldType} {rest : List Value} (hret : meth.sig.returnType = some t) (ht : t.isReference = true) (hz : z.isRef = true) (hd : decode c.code pc = .ok (.areturn, 1)) {fs : List Frame}
    (hl : ∀ (f : JFrame) (acts : List Action), f.method = m → f.locked = none → f.entered = [] → (doReturn e (T.setTop f) acts (some z)).1 = T.setFrames fs) : Steps p.tables e below (T.setTop (mkF m pc Ls (z :: rest))) (T.setFrames fs) := by
  have hm' : T.vm.method? m = some meth := X.method'
  show Steps p.tables e below (T.setTop { method := m, pc := pc, locals := Ls, stack := _ :: rest, locked := none }) _
  jvm_step X.here [X.here.top, hx, hd, hm', hret, ht, hz]
  first | (intro acts; rw [hl _ acts rfl rfl rfl]) | rw [hl _ _ rfl rfl rfl]
  exact Steps.refl _
end New
end Jvm.RoadKit
@@BLOCK:NumsL.lean.txt@@
@@BLOCK:Masks.lean.txt@@
namespace Jvm.Pilot.@@N@@
open Jvm Jvm.ClassFile Sem Op Lib Jvm.Free Jvm.Stand Jvm.LawKit Jvm.RoadKit Bundle Jvm.Pilot.@@N@@.Jvm.D
/-- the run comes from st to an end of which F holds -/
abbrev Go (p : Program) (e : Env) (below : List Frame) (F : Outcome → State → Prop) (st : State) : Prop := ∃ t o, Steps p.tables e below st t ∧ t.status = .running ∧ Ended t below o ∧ F o t
theorem Go.st {p : Program} {e : Env} {below : List Frame} {F : Outcome → State → Prop} {a b : State} (h : ∀ t, Steps p.tables e below b t → Steps p.tables e below a t) (k : Go p e below F b) : Go p e below F a := by
  obtain ⟨t, o, h1, h2⟩ := k
  exact ⟨t, o, h t h1, h2⟩
/-- Java's x % y -/
abbrev jrem (x y : Int32) : Int32 := x - (x / y) * y
abbrev jremL (x y : Int64) : Int64 := x - (x / y) * y
theorem Go.cast {p : Program} {e : Env} {below : List Frame} {F : Outcome → State → Prop} {a b : State} (h : a = b) (k : Go p e below F b) : Go p e below F a := h ▸ k
theorem d1_0 : decode prog_8_method_5_code 0 = .ok (.iload_n 0, 1) := by decide +kernel
theorem d1_1 : decode prog_8_method_5_code 1 = .ok (.bipush 97, 2) := by decide +kernel
theorem d1_3 : decode prog_8_method_5_code 3 = .ok (.if_icmp .lt 9, 3) := by decide +kernel
theorem d1_6 : decode prog_8_method_5_code 6 = .ok (.iload_n 0, 1) := by decide +kernel
theorem d1_7 : decode prog_8_method_5_code 7 = .ok (.bipush 122, 2) := by decide +kernel
theorem d1_9 : decode prog_8_method_5_code 9 = .ok (.if_icmp .le 15, 3) := by decide +kernel
theorem d1_12 : decode prog_8_method_5_code 12 = .ok (.iload_n 0, 1) := by decide +kernel
theorem d1_13 : decode prog_8_method_5_code 13 = .ok (.bipush 65, 2) := by decide +kernel
theorem d1_15 : decode prog_8_method_5_code 15 = .ok (.if_icmp .lt 13, 3) := by decide +kernel
theorem d1_18 : decode prog_8_method_5_code 18 = .ok (.iload_n 0, 1) := by decide +kernel
theorem d1_19 : decode prog_8_method_5_code 19 = .ok (.bipush 90, 2) := by decide +kernel
theorem d1_21 : decode prog_8_method_5_code 21 = .ok (.if_icmp .gt 7, 3) := by decide +kernel
theorem d1_24 : decode prog_8_method_5_code 24 = .ok (.iconst 1, 1) := by decide +kernel
theorem d1_25 : decode prog_8_method_5_code 25 = .ok (.goto 4, 3) := by decide +kernel
theorem d1_28 : decode prog_8_method_5_code 28 = .ok (.iconst 0, 1) := by decide +kernel
theorem d1_29 : decode prog_8_method_5_code 29 = .ok (.ireturn, 1) := by decide +kernel
theorem pn_1 : plainName "com/example/tokenloom/tokenloom/scanner/Ascii" = true := by first | (simp [plainName, overriddenIn]; done) | decide +kernel
theorem ef_rm1 (m : MethodId) (p0 : Int32) : entryFrame m #[(.int p0)] 1 = mkF m 0 #[.val (.int p0)] [] := by first | (simp [entryFrame, mkF, argsToLocals, Value.category]; done) | rfl
def fLetter (p0 : Int32) : Int32 := if p0 < (97 : Int32) then (if p0 < (65 : Int32) then (0 : Int32) else (if (90 : Int32) < p0 then (0 : Int32) else (1 : Int32))) else (if (122 : Int32) < p0 then (if p0 < (65 : Int32) then (0 : Int32) else (if (90 : Int32) < p0 then (0 : Int32) else (1 : Int32))) else (1 : Int32))
def Q_rm1 (Z : State) (p0 : Int32) (h0 : Heap) (n0 : Nat) (v : Option Value) (h : Heap) (L : List Loc) : Prop := v = some (.int (fLetter p0)) ∧ Fr n0 L ∧ h = h0
abbrev F_rm1 (Z : State) (p0 : Int32) (h0 : Heap) (n0 : Nat) (s : State) (o : Outcome) (U : State) : Prop := ∃ v L, o = .returned v ∧ Q_rm1 Z p0 h0 n0 v U.heap L ∧ FrameEnd s o U L 0 0
set_option maxRecDepth 65536 in
set_option maxHeartbeats 40000000 in
theorem rm1 (l : Launch) (Z : State) (aZ : Array Value) (hw : ∀ d ∈ tables_1, d.before aZ Z = true) (ws : List Jvm.Cond) (p0 : Int32) (h0 : Heap) (n0 : Nat) :
    MetFree l (⟨"com/example/tokenloom/tokenloom/scanner/Ascii", "isLetter", "(I)Z"⟩ : MethodName) (head1 (Jvm.Cond.code (⟨"com/example/tokenloom/tokenloom/scanner/Ascii", "isLetter", "(I)Z"⟩ : MethodName) prog_8_method_5_code 1 (some .boolean) :: ws) ({ frames := 0, cells := 0, slots := 0, locals := 0 } : Room)) (fun a U => a = #[(.int p0)] ∧ Z.Warmed39 U.vm ∧ U.heap = h0) (fun _ _ _ _ _ => True) (fun _ U o U' => ∃ v L, o = .returned v ∧ Q_rm1 Z p0 h0 n0 v U'.heap L ∧ FrameEnd U o U' L 0 0) := by
  refine MetFree.of_bodySF (plainFor_of_name pn_1) hisR ?_
  intro p e s m args below meth c s₁ Bd hml0 hP hK
  obtain ⟨rfl, hZ, hh⟩ := hP
  have hx := Bd.exec
  have hby := Bd.bytes
  have hml : c.maxLocals = 1 := hml0
  have hown : s.vm.findClass "com/example/tokenloom/tokenloom/scanner/Ascii" = some m.cls := findClass_of_methodNamed Bd.named
  have hnm := (name_of_methodNamed Bd.named Bd.method).1
  have X0 : Stand p l e ({ frames := 0, cells := 0, slots := 0, locals := 0 } : Room) s m #[(.int p0)] below meth c s₁ [] 0 0 := Stand.of_body Bd
  have e0 : s₁.heap = h0 := by rw [← hh, Bd.state]; rfl
  have N0 := Fr.nil n0
  refine Go.st (fun _ k => castTop (ef_rm1 m p0) k) ?_
  show Go p e below _ (s₁.setTop (mkF m 0 #[.val (.int p0)] []))
  refine Go.st (fun _ k => XS.iloadN X0.here hx rfl (hb hby d1_0) rfl k) ?_
  show Go p e below _ (s₁.setTop (mkF m 1 #[.val (.int p0)] [(.int p0)]))
  refine Go.st (fun _ k => XS.bipush X0.here hx rfl (hb hby d1_1) k) ?_
  show Go p e below _ (s₁.setTop (mkF m 3 #[.val (.int p0)] [(.int (97 : Int32)), (.int p0)]))
  by_cases hc1 : p0 < (97 : Int32)
  · show Go p e below _ (s₁.setTop (mkF m 3 #[.val (.int p0)] [(.int (97 : Int32)), (.int p0)]))
    refine Go.st (fun _ k => XS.icmpYes X0.here hx rfl (pc0 := 3) (pc' := 12) rfl (hb hby d1_3) rfl (tlt hc1).1 (by decide) (by decide) k) ?_
    show Go p e below _ (s₁.setTop (mkF m 12 #[.val (.int p0)] []))
    refine Go.st (fun _ k => XS.iloadN X0.here hx rfl (hb hby d1_12) rfl k) ?_
    show Go p e below _ (s₁.setTop (mkF m 13 #[.val (.int p0)] [(.int p0)]))
    refine Go.st (fun _ k => XS.bipush X0.here hx rfl (hb hby d1_13) k) ?_
    show Go p e below _ (s₁.setTop (mkF m 15 #[.val (.int p0)] [(.int (65 : Int32)), (.int p0)]))
    by_cases hc2 : p0 < (65 : Int32)
    · show Go p e below _ (s₁.setTop (mkF m 15 #[.val (.int p0)] [(.int (65 : Int32)), (.int p0)]))
      refine Go.st (fun _ k => XS.icmpYes X0.here hx rfl (pc0 := 15) (pc' := 28) rfl (hb hby d1_15) rfl (tlt hc2).1 (by decide) (by decide) k) ?_
      show Go p e below _ (s₁.setTop (mkF m 28 #[.val (.int p0)] []))
      refine Go.st (fun _ k => XS.iconst X0.here hx rfl (hb hby d1_28) k) ?_
      show Go p e below _ (s₁.setTop (mkF m 29 #[.val (.int p0)] [(.int (0 : Int32))]))
      obtain ⟨fs, hr, hrun, hended, hW, hsame⟩ := X0.leave (v := some (.int (0 : Int32))) (fun h => by rw [Bd.returns] at h; cases h)
      refine ⟨_, _, retN X0 hx (t := .boolean) Bd.returns (by simp) (hb hby d1_29) hr, hrun, hended, _, _, rfl, ?_, ⟨_, rfl⟩, hW, hsame.mono (by decide) (by decide)⟩
      show Q_rm1 Z p0 h0 n0 _ s₁.heap _
      rw [e0]
      refine ⟨?_, N0, rfl⟩
      unfold fLetter
      rw [if_pos hc1, if_pos hc2]
    · show Go p e below _ (s₁.setTop (mkF m 15 #[.val (.int p0)] [(.int (65 : Int32)), (.int p0)]))
      refine Go.st (fun _ k => XS.icmpNo X0.here hx rfl (hb hby d1_15) rfl (flt hc2).1 k) ?_
      show Go p e below _ (s₁.setTop (mkF m 18 #[.val (.int p0)] []))
      refine Go.st (fun _ k => XS.iloadN X0.here hx rfl (hb hby d1_18) rfl k) ?_
      show Go p e below _ (s₁.setTop (mkF m 19 #[.val (.int p0)] [(.int p0)]))
      refine Go.st (fun _ k => XS.bipush X0.here hx rfl (hb hby d1_19) k) ?_
      show Go p e below _ (s₁.setTop (mkF m 21 #[.val (.int p0)] [(.int (90 : Int32)), (.int p0)]))
      by_cases hc3 : (90 : Int32) < p0
      · show Go p e below _ (s₁.setTop (mkF m 21 #[.val (.int p0)] [(.int (90 : Int32)), (.int p0)]))
        refine Go.st (fun _ k => XS.icmpYes X0.here hx rfl (pc0 := 21) (pc' := 28) rfl (hb hby d1_21) rfl (tlt hc3).2.2.1 (by decide) (by decide) k) ?_
        show Go p e below _ (s₁.setTop (mkF m 28 #[.val (.int p0)] []))
        refine Go.st (fun _ k => XS.iconst X0.here hx rfl (hb hby d1_28) k) ?_
        show Go p e below _ (s₁.setTop (mkF m 29 #[.val (.int p0)] [(.int (0 : Int32))]))
        obtain ⟨fs, hr, hrun, hended, hW, hsame⟩ := X0.leave (v := some (.int (0 : Int32))) (fun h => by rw [Bd.returns] at h; cases h)
        refine ⟨_, _, retN X0 hx (t := .boolean) Bd.returns (by simp) (hb hby d1_29) hr, hrun, hended, _, _, rfl, ?_, ⟨_, rfl⟩, hW, hsame.mono (by decide) (by decide)⟩
        show Q_rm1 Z p0 h0 n0 _ s₁.heap _
        rw [e0]
        refine ⟨?_, N0, rfl⟩
        unfold fLetter
        rw [if_pos hc1, if_neg hc2, if_pos hc3]
      · show Go p e below _ (s₁.setTop (mkF m 21 #[.val (.int p0)] [(.int (90 : Int32)), (.int p0)]))
        refine Go.st (fun _ k => XS.icmpNo X0.here hx rfl (hb hby d1_21) rfl (flt hc3).2.2.1 k) ?_
        show Go p e below _ (s₁.setTop (mkF m 24 #[.val (.int p0)] []))
        refine Go.st (fun _ k => XS.iconst X0.here hx rfl (hb hby d1_24) k) ?_
        show Go p e below _ (s₁.setTop (mkF m 25 #[.val (.int p0)] [(.int (1 : Int32))]))
        refine Go.st (fun _ k => XS.goto X0.here hx rfl (pc0 := 25) (pc' := 29) rfl (hb hby d1_25) (by decide) (by decide) k) ?_
        show Go p e below _ (s₁.setTop (mkF m 29 #[.val (.int p0)] [(.int (1 : Int32))]))
        obtain ⟨fs, hr, hrun, hended, hW, hsame⟩ := X0.leave (v := some (.int (1 : Int32))) (fun h => by rw [Bd.returns] at h; cases h)
        refine ⟨_, _, retN X0 hx (t := .boolean) Bd.returns (by simp) (hb hby d1_29) hr, hrun, hended, _, _, rfl, ?_, ⟨_, rfl⟩, hW, hsame.mono (by decide) (by decide)⟩
        show Q_rm1 Z p0 h0 n0 _ s₁.heap _
        rw [e0]
        refine ⟨?_, N0, rfl⟩
        unfold fLetter
        rw [if_pos hc1, if_neg hc2, if_neg hc3]
  · show Go p e below _ (s₁.setTop (mkF m 3 #[.val (.int p0)] [(.int (97 : Int32)), (.int p0)]))
    refine Go.st (fun _ k => XS.icmpNo X0.here hx rfl (hb hby d1_3) rfl (flt hc1).1 k) ?_
    show Go p e below _ (s₁.setTop (mkF m 6 #[.val (.int p0)] []))
    refine Go.st (fun _ k => XS.iloadN X0.here hx rfl (hb hby d1_6) rfl k) ?_
    show Go p e below _ (s₁.setTop (mkF m 7 #[.val (.int p0)] [(.int p0)]))
    refine Go.st (fun _ k => XS.bipush X0.here hx rfl (hb hby d1_7) k) ?_
    show Go p e below _ (s₁.setTop (mkF m 9 #[.val (.int p0)] [(.int (122 : Int32)), (.int p0)]))
    by_cases hc4 : (122 : Int32) < p0
    · show Go p e below _ (s₁.setTop (mkF m 9 #[.val (.int p0)] [(.int (122 : Int32)), (.int p0)]))
      refine Go.st (fun _ k => XS.icmpNo X0.here hx rfl (hb hby d1_9) rfl (tlt hc4).2.2.2 k) ?_
      show Go p e below _ (s₁.setTop (mkF m 12 #[.val (.int p0)] []))
      refine Go.st (fun _ k => XS.iloadN X0.here hx rfl (hb hby d1_12) rfl k) ?_
      show Go p e below _ (s₁.setTop (mkF m 13 #[.val (.int p0)] [(.int p0)]))
      refine Go.st (fun _ k => XS.bipush X0.here hx rfl (hb hby d1_13) k) ?_
      show Go p e below _ (s₁.setTop (mkF m 15 #[.val (.int p0)] [(.int (65 : Int32)), (.int p0)]))
      by_cases hc5 : p0 < (65 : Int32)
      · show Go p e below _ (s₁.setTop (mkF m 15 #[.val (.int p0)] [(.int (65 : Int32)), (.int p0)]))
        refine Go.st (fun _ k => XS.icmpYes X0.here hx rfl (pc0 := 15) (pc' := 28) rfl (hb hby d1_15) rfl (tlt hc5).1 (by decide) (by decide) k) ?_
        show Go p e below _ (s₁.setTop (mkF m 28 #[.val (.int p0)] []))
        refine Go.st (fun _ k => XS.iconst X0.here hx rfl (hb hby d1_28) k) ?_
        show Go p e below _ (s₁.setTop (mkF m 29 #[.val (.int p0)] [(.int (0 : Int32))]))
        obtain ⟨fs, hr, hrun, hended, hW, hsame⟩ := X0.leave (v := some (.int (0 : Int32))) (fun h => by rw [Bd.returns] at h; cases h)
        refine ⟨_, _, retN X0 hx (t := .boolean) Bd.returns (by simp) (hb hby d1_29) hr, hrun, hended, _, _, rfl, ?_, ⟨_, rfl⟩, hW, hsame.mono (by decide) (by decide)⟩
        show Q_rm1 Z p0 h0 n0 _ s₁.heap _
        rw [e0]
        refine ⟨?_, N0, rfl⟩
        unfold fLetter
        rw [if_neg hc1, if_pos hc4, if_pos hc5]
      · show Go p e below _ (s₁.setTop (mkF m 15 #[.val (.int p0)] [(.int (65 : Int32)), (.int p0)]))
        refine Go.st (fun _ k => XS.icmpNo X0.here hx rfl (hb hby d1_15) rfl (flt hc5).1 k) ?_
        show Go p e below _ (s₁.setTop (mkF m 18 #[.val (.int p0)] []))
        refine Go.st (fun _ k => XS.iloadN X0.here hx rfl (hb hby d1_18) rfl k) ?_
        show Go p e below _ (s₁.setTop (mkF m 19 #[.val (.int p0)] [(.int p0)]))
        refine Go.st (fun _ k => XS.bipush X0.here hx rfl (hb hby d1_19) k) ?_
        show Go p e below _ (s₁.setTop (mkF m 21 #[.val (.int p0)] [(.int (90 : Int32)), (.int p0)]))
        by_cases hc6 : (90 : Int32) < p0
        · show Go p e below _ (s₁.setTop (mkF m 21 #[.val (.int p0)] [(.int (90 : Int32)), (.int p0)]))
          refine Go.st (fun _ k => XS.icmpYes X0.here hx rfl (pc0 := 21) (pc' := 28) rfl (hb hby d1_21) rfl (tlt hc6).2.2.1 (by decide) (by decide) k) ?_
          show Go p e below _ (s₁.setTop (mkF m 28 #[.val (.int p0)] []))
          refine Go.st (fun _ k => XS.iconst X0.here hx rfl (hb hby d1_28) k) ?_
          show Go p e below _ (s₁.setTop (mkF m 29 #[.val (.int p0)] [(.int (0 : Int32))]))
          obtain ⟨fs, hr, hrun, hended, hW, hsame⟩ := X0.leave (v := some (.int (0 : Int32))) (fun h => by rw [Bd.returns] at h; cases h)
          refine ⟨_, _, retN X0 hx (t := .boolean) Bd.returns (by simp) (hb hby d1_29) hr, hrun, hended, _, _, rfl, ?_, ⟨_, rfl⟩, hW, hsame.mono (by decide) (by decide)⟩
          show Q_rm1 Z p0 h0 n0 _ s₁.heap _
          rw [e0]
          refine ⟨?_, N0, rfl⟩
          unfold fLetter
          rw [if_neg hc1, if_pos hc4, if_neg hc5, if_pos hc6]
        · show Go p e below _ (s₁.setTop (mkF m 21 #[.val (.int p0)] [(.int (90 : Int32)), (.int p0)]))
          refine Go.st (fun _ k => XS.icmpNo X0.here hx rfl (hb hby d1_21) rfl (flt hc6).2.2.1 k) ?_
          show Go p e below _ (s₁.setTop (mkF m 24 #[.val (.int p0)] []))
          refine Go.st (fun _ k => XS.iconst X0.here hx rfl (hb hby d1_24) k) ?_
          show Go p e below _ (s₁.setTop (mkF m 25 #[.val (.int p0)] [(.int (1 : Int32))]))
          refine Go.st (fun _ k => XS.goto X0.here hx rfl (pc0 := 25) (pc' := 29) rfl (hb hby d1_25) (by decide) (by decide) k) ?_
          show Go p e below _ (s₁.setTop (mkF m 29 #[.val (.int p0)] [(.int (1 : Int32))]))
          obtain ⟨fs, hr, hrun, hended, hW, hsame⟩ := X0.leave (v := some (.int (1 : Int32))) (fun h => by rw [Bd.returns] at h; cases h)
          refine ⟨_, _, retN X0 hx (t := .boolean) Bd.returns (by simp) (hb hby d1_29) hr, hrun, hended, _, _, rfl, ?_, ⟨_, rfl⟩, hW, hsame.mono (by decide) (by decide)⟩
          show Q_rm1 Z p0 h0 n0 _ s₁.heap _
          rw [e0]
          refine ⟨?_, N0, rfl⟩
          unfold fLetter
          rw [if_neg hc1, if_pos hc4, if_neg hc5, if_neg hc6]
    · show Go p e below _ (s₁.setTop (mkF m 9 #[.val (.int p0)] [(.int (122 : Int32)), (.int p0)]))
      refine Go.st (fun _ k => XS.icmpYes X0.here hx rfl (pc0 := 9) (pc' := 24) rfl (hb hby d1_9) rfl (flt hc4).2.2.2 (by decide) (by decide) k) ?_
      show Go p e below _ (s₁.setTop (mkF m 24 #[.val (.int p0)] []))
      refine Go.st (fun _ k => XS.iconst X0.here hx rfl (hb hby d1_24) k) ?_
      show Go p e below _ (s₁.setTop (mkF m 25 #[.val (.int p0)] [(.int (1 : Int32))]))
      refine Go.st (fun _ k => XS.goto X0.here hx rfl (pc0 := 25) (pc' := 29) rfl (hb hby d1_25) (by decide) (by decide) k) ?_
      show Go p e below _ (s₁.setTop (mkF m 29 #[.val (.int p0)] [(.int (1 : Int32))]))
      obtain ⟨fs, hr, hrun, hended, hW, hsame⟩ := X0.leave (v := some (.int (1 : Int32))) (fun h => by rw [Bd.returns] at h; cases h)
      refine ⟨_, _, retN X0 hx (t := .boolean) Bd.returns (by simp) (hb hby d1_29) hr, hrun, hended, _, _, rfl, ?_, ⟨_, rfl⟩, hW, hsame.mono (by decide) (by decide)⟩
      show Q_rm1 Z p0 h0 n0 _ s₁.heap _
      rw [e0]
      refine ⟨?_, N0, rfl⟩
      unfold fLetter
      rw [if_neg hc1, if_neg hc4]
theorem d2_0 : decode method_2_code 0 = .ok (.iload_n 0, 1) := by decide +kernel
theorem d2_1 : decode method_2_code 1 = .ok (.bipush 32, 2) := by decide +kernel
theorem d2_3 : decode method_2_code 3 = .ok (.ior, 1) := by decide +kernel
theorem d2_4 : decode method_2_code 4 = .ok (.i2l, 1) := by decide +kernel
theorem d2_5 : decode method_2_code 5 = .ok (.ldc2_w 7, 3) := by decide +kernel
theorem d2_8 : decode method_2_code 8 = .ok (.lsub, 1) := by decide +kernel
theorem d2_9 : decode method_2_code 9 = .ok (.lstore_n 1, 1) := by decide +kernel
theorem d2_10 : decode method_2_code 10 = .ok (.lload_n 1, 1) := by decide +kernel
theorem d2_11 : decode method_2_code 11 = .ok (.lconst 0, 1) := by decide +kernel
theorem d2_12 : decode method_2_code 12 = .ok (.lcmp, 1) := by decide +kernel
theorem d2_13 : decode method_2_code 13 = .ok (.ifCond .lt 15, 3) := by decide +kernel
theorem d2_16 : decode method_2_code 16 = .ok (.lload_n 1, 1) := by decide +kernel
theorem d2_17 : decode method_2_code 17 = .ok (.ldc2_w 9, 3) := by decide +kernel
theorem d2_20 : decode method_2_code 20 = .ok (.lcmp, 1) := by decide +kernel
theorem d2_21 : decode method_2_code 21 = .ok (.ifCond .ge 7, 3) := by decide +kernel
theorem d2_24 : decode method_2_code 24 = .ok (.iconst 1, 1) := by decide +kernel
theorem d2_25 : decode method_2_code 25 = .ok (.goto 4, 3) := by decide +kernel
theorem d2_28 : decode method_2_code 28 = .ok (.iconst 0, 1) := by decide +kernel
theorem d2_29 : decode method_2_code 29 = .ok (.ireturn, 1) := by decide +kernel
theorem pn_2 : plainName "com/example/tokenloom/tokenloom/scanner/AsciiIsLetterPinLaw" = true := by first | (simp [plainName, overriddenIn]; done) | decide +kernel
theorem ef_rm2 (m : MethodId) (p0 : Int32) : entryFrame m #[(.int p0)] 3 = mkF m 0 #[.val (.int p0), .unset, .unset] [] := by first | (simp [entryFrame, mkF, argsToLocals, Value.category]; done) | rfl
def fRef (p0 : Int32) : Int32 := if (((p0 ||| (32 : Int32)).toInt64) - (97 : Int64)) < (0 : Int64) then (0 : Int32) else (if (((p0 ||| (32 : Int32)).toInt64) - (97 : Int64)) < (26 : Int64) then (1 : Int32) else (0 : Int32))
def Q_rm2 (Z : State) (p0 : Int32) (h0 : Heap) (n0 : Nat) (v : Option Value) (h : Heap) (L : List Loc) : Prop := v = some (.int (fRef p0)) ∧ Fr n0 L ∧ h = h0
abbrev F_rm2 (Z : State) (p0 : Int32) (h0 : Heap) (n0 : Nat) (s : State) (o : Outcome) (U : State) : Prop := ∃ v L, o = .returned v ∧ Q_rm2 Z p0 h0 n0 v U.heap L ∧ FrameEnd s o U L 0 0
set_option maxRecDepth 65536 in
set_option maxHeartbeats 40000000 in
theorem rm2 (l : Launch) (Z : State) (aZ : Array Value) (hw : ∀ d ∈ tables_1, d.before aZ Z = true) (ws : List Jvm.Cond) (p0 : Int32) (h0 : Heap) (n0 : Nat) :
    MetFree l (⟨"com/example/tokenloom/tokenloom/scanner/AsciiIsLetterPinLaw", "reference", "(I)Z"⟩ : MethodName) (head1 (Jvm.Cond.code (⟨"com/example/tokenloom/tokenloom/scanner/AsciiIsLetterPinLaw", "reference", "(I)Z"⟩ : MethodName) method_2_code 3 (some .boolean) :: ws) ({ frames := 0, cells := 0, slots := 0, locals := 0 } : Room)) (fun a U => a = #[(.int p0)] ∧ Z.Warmed39 U.vm ∧ U.heap = h0) (fun _ _ _ _ _ => True) (fun _ U o U' => ∃ v L, o = .returned v ∧ Q_rm2 Z p0 h0 n0 v U'.heap L ∧ FrameEnd U o U' L 0 0) := by
  refine MetFree.of_bodySF (plainFor_of_name pn_2) hisR ?_
  intro p e s m args below meth c s₁ Bd hml0 hP hK
  obtain ⟨rfl, hZ, hh⟩ := hP
  have hx := Bd.exec
  have hby := Bd.bytes
  have hml : c.maxLocals = 3 := hml0
  have hown : s.vm.findClass "com/example/tokenloom/tokenloom/scanner/AsciiIsLetterPinLaw" = some m.cls := findClass_of_methodNamed Bd.named
  have hnm := (name_of_methodNamed Bd.named Bd.method).1
  have X0 : Stand p l e ({ frames := 0, cells := 0, slots := 0, locals := 0 } : Room) s m #[(.int p0)] below meth c s₁ [] 0 0 := Stand.of_body Bd
  have e0 : s₁.heap = h0 := by rw [← hh, Bd.state]; rfl
  have N0 := Fr.nil n0
  refine Go.st (fun _ k => castTop (ef_rm2 m p0) k) ?_
  show Go p e below _ (s₁.setTop (mkF m 0 #[.val (.int p0), .unset, .unset] []))
  refine Go.st (fun _ k => XS.iloadN X0.here hx rfl (hb hby d2_0) rfl k) ?_
  show Go p e below _ (s₁.setTop (mkF m 1 #[.val (.int p0), .unset, .unset] [(.int p0)]))
  refine Go.st (fun _ k => XS.bipush X0.here hx rfl (hb hby d2_1) k) ?_
  show Go p e below _ (s₁.setTop (mkF m 3 #[.val (.int p0), .unset, .unset] [(.int (32 : Int32)), (.int p0)]))
  refine Go.st (fun _ k => XS.ior X0.here hx rfl (hb hby d2_3) rfl k) ?_
  show Go p e below _ (s₁.setTop (mkF m 4 #[.val (.int p0), .unset, .unset] [(.int (p0 ||| (32 : Int32)))]))
  refine Go.st (fun _ k => XS.i2l X0.here hx rfl (hb hby d2_4) rfl k) ?_
  show Go p e below _ (s₁.setTop (mkF m 5 #[.val (.int p0), .unset, .unset] [(.long ((p0 ||| (32 : Int32)).toInt64))]))
  refine Go.st (fun _ k => X0.ldc2Long hx hown (mvT hZ (hw _ (List.mem_of_getElem? (i := 9) rfl))) (g := (mkF m 5 #[.val (.int p0), .unset, .unset] [(.long ((p0 ||| (32 : Int32)).toInt64))])) rfl (hb hby d2_5) _ k) ?_
  show Go p e below _ (s₁.setTop (mkF m 8 #[.val (.int p0), .unset, .unset] [(.long (97 : Int64)), (.long ((p0 ||| (32 : Int32)).toInt64))]))
  refine Go.st (fun _ k => XS.lsub X0.here hx rfl (hb hby d2_8) rfl k) ?_
  show Go p e below _ (s₁.setTop (mkF m 9 #[.val (.int p0), .unset, .unset] [(.long (((p0 ||| (32 : Int32)).toInt64) - (97 : Int64)))]))
  refine Go.st (fun _ k => XS.lstoreN X0.here hx rfl (hb hby d2_9) rfl (l' := #[.val (.int p0), .val (.long (((p0 ||| (32 : Int32)).toInt64) - (97 : Int64))), .second]) rfl k) ?_
  show Go p e below _ (s₁.setTop (mkF m 10 #[.val (.int p0), .val (.long (((p0 ||| (32 : Int32)).toInt64) - (97 : Int64))), .second] []))
  refine Go.st (fun _ k => XS.lloadN X0.here hx rfl (hb hby d2_10) rfl k) ?_
  show Go p e below _ (s₁.setTop (mkF m 11 #[.val (.int p0), .val (.long (((p0 ||| (32 : Int32)).toInt64) - (97 : Int64))), .second] [(.long (((p0 ||| (32 : Int32)).toInt64) - (97 : Int64)))]))
  refine Go.st (fun _ k => XS.lconst X0.here hx rfl (hb hby d2_11) k) ?_
  show Go p e below _ (s₁.setTop (mkF m 12 #[.val (.int p0), .val (.long (((p0 ||| (32 : Int32)).toInt64) - (97 : Int64))), .second] [(.long (0 : Int64)), (.long (((p0 ||| (32 : Int32)).toInt64) - (97 : Int64)))]))
  refine Go.st (fun _ k => XS.lcmp X0.here hx rfl (hb hby d2_12) rfl k) ?_
  show Go p e below _ (s₁.setTop (mkF m 13 #[.val (.int p0), .val (.long (((p0 ||| (32 : Int32)).toInt64) - (97 : Int64))), .second] [(.int (lcmpW (((p0 ||| (32 : Int32)).toInt64) - (97 : Int64)) (0 : Int64)))]))
  by_cases hc1 : (((p0 ||| (32 : Int32)).toInt64) - (97 : Int64)) < (0 : Int64)
  · show Go p e below _ (s₁.setTop (mkF m 13 #[.val (.int p0), .val (.long (((p0 ||| (32 : Int32)).toInt64) - (97 : Int64))), .second] [(.int (lcmpW (((p0 ||| (32 : Int32)).toInt64) - (97 : Int64)) (0 : Int64)))]))
    refine Go.st (fun _ k => XS.ifYes X0.here hx rfl (pc0 := 13) (pc' := 28) rfl (hb hby d2_13) rfl ((if0 _ _).trans (tlt ((lw_lt _ _).mpr hc1)).1) (by decide) (by decide) k) ?_
    show Go p e below _ (s₁.setTop (mkF m 28 #[.val (.int p0), .val (.long (((p0 ||| (32 : Int32)).toInt64) - (97 : Int64))), .second] []))
    refine Go.st (fun _ k => XS.iconst X0.here hx rfl (hb hby d2_28) k) ?_
    show Go p e below _ (s₁.setTop (mkF m 29 #[.val (.int p0), .val (.long (((p0 ||| (32 : Int32)).toInt64) - (97 : Int64))), .second] [(.int (0 : Int32))]))
    obtain ⟨fs, hr, hrun, hended, hW, hsame⟩ := X0.leave (v := some (.int (0 : Int32))) (fun h => by rw [Bd.returns] at h; cases h)
    refine ⟨_, _, retN X0 hx (t := .boolean) Bd.returns (by simp) (hb hby d2_29) hr, hrun, hended, _, _, rfl, ?_, ⟨_, rfl⟩, hW, hsame.mono (by decide) (by decide)⟩
    show Q_rm2 Z p0 h0 n0 _ s₁.heap _
    rw [e0]
    refine ⟨?_, N0, rfl⟩
    unfold fRef
    rw [if_pos hc1]
  · show Go p e below _ (s₁.setTop (mkF m 13 #[.val (.int p0), .val (.long (((p0 ||| (32 : Int32)).toInt64) - (97 : Int64))), .second] [(.int (lcmpW (((p0 ||| (32 : Int32)).toInt64) - (97 : Int64)) (0 : Int64)))]))
    refine Go.st (fun _ k => XS.ifNo X0.here hx rfl (hb hby d2_13) rfl ((if0 _ _).trans (flt (fun z => hc1 ((lw_lt _ _).mp z))).1) k) ?_
    show Go p e below _ (s₁.setTop (mkF m 16 #[.val (.int p0), .val (.long (((p0 ||| (32 : Int32)).toInt64) - (97 : Int64))), .second] []))
    refine Go.st (fun _ k => XS.lloadN X0.here hx rfl (hb hby d2_16) rfl k) ?_
    show Go p e below _ (s₁.setTop (mkF m 17 #[.val (.int p0), .val (.long (((p0 ||| (32 : Int32)).toInt64) - (97 : Int64))), .second] [(.long (((p0 ||| (32 : Int32)).toInt64) - (97 : Int64)))]))
    refine Go.st (fun _ k => X0.ldc2Long hx hown (mvT hZ (hw _ (List.mem_of_getElem? (i := 10) rfl))) (g := (mkF m 17 #[.val (.int p0), .val (.long (((p0 ||| (32 : Int32)).toInt64) - (97 : Int64))), .second] [(.long (((p0 ||| (32 : Int32)).toInt64) - (97 : Int64)))])) rfl (hb hby d2_17) _ k) ?_
    show Go p e below _ (s₁.setTop (mkF m 20 #[.val (.int p0), .val (.long (((p0 ||| (32 : Int32)).toInt64) - (97 : Int64))), .second] [(.long (26 : Int64)), (.long (((p0 ||| (32 : Int32)).toInt64) - (97 : Int64)))]))
    refine Go.st (fun _ k => XS.lcmp X0.here hx rfl (hb hby d2_20) rfl k) ?_
    show Go p e below _ (s₁.setTop (mkF m 21 #[.val (.int p0), .val (.long (((p0 ||| (32 : Int32)).toInt64) - (97 : Int64))), .second] [(.int (lcmpW (((p0 ||| (32 : Int32)).toInt64) - (97 : Int64)) (26 : Int64)))]))
    by_cases hc2 : (((p0 ||| (32 : Int32)).toInt64) - (97 : Int64)) < (26 : Int64)
    · show Go p e below _ (s₁.setTop (mkF m 21 #[.val (.int p0), .val (.long (((p0 ||| (32 : Int32)).toInt64) - (97 : Int64))), .second] [(.int (lcmpW (((p0 ||| (32 : Int32)).toInt64) - (97 : Int64)) (26 : Int64)))]))
      refine Go.st (fun _ k => XS.ifNo X0.here hx rfl (hb hby d2_21) rfl ((if0 _ _).trans (tlt ((lw_lt _ _).mpr hc2)).2.1) k) ?_
      show Go p e below _ (s₁.setTop (mkF m 24 #[.val (.int p0), .val (.long (((p0 ||| (32 : Int32)).toInt64) - (97 : Int64))), .second] []))
      refine Go.st (fun _ k => XS.iconst X0.here hx rfl (hb hby d2_24) k) ?_
      show Go p e below _ (s₁.setTop (mkF m 25 #[.val (.int p0), .val (.long (((p0 ||| (32 : Int32)).toInt64) - (97 : Int64))), .second] [(.int (1 : Int32))]))
      refine Go.st (fun _ k => XS.goto X0.here hx rfl (pc0 := 25) (pc' := 29) rfl (hb hby d2_25) (by decide) (by decide) k) ?_
      show Go p e below _ (s₁.setTop (mkF m 29 #[.val (.int p0), .val (.long (((p0 ||| (32 : Int32)).toInt64) - (97 : Int64))), .second] [(.int (1 : Int32))]))
      obtain ⟨fs, hr, hrun, hended, hW, hsame⟩ := X0.leave (v := some (.int (1 : Int32))) (fun h => by rw [Bd.returns] at h; cases h)
      refine ⟨_, _, retN X0 hx (t := .boolean) Bd.returns (by simp) (hb hby d2_29) hr, hrun, hended, _, _, rfl, ?_, ⟨_, rfl⟩, hW, hsame.mono (by decide) (by decide)⟩
      show Q_rm2 Z p0 h0 n0 _ s₁.heap _
      rw [e0]
      refine ⟨?_, N0, rfl⟩
      unfold fRef
      rw [if_neg hc1, if_pos hc2]
    · show Go p e below _ (s₁.setTop (mkF m 21 #[.val (.int p0), .val (.long (((p0 ||| (32 : Int32)).toInt64) - (97 : Int64))), .second] [(.int (lcmpW (((p0 ||| (32 : Int32)).toInt64) - (97 : Int64)) (26 : Int64)))]))
      refine Go.st (fun _ k => XS.ifYes X0.here hx rfl (pc0 := 21) (pc' := 28) rfl (hb hby d2_21) rfl ((if0 _ _).trans (flt (fun z => hc2 ((lw_lt _ _).mp z))).2.1) (by decide) (by decide) k) ?_
      show Go p e below _ (s₁.setTop (mkF m 28 #[.val (.int p0), .val (.long (((p0 ||| (32 : Int32)).toInt64) - (97 : Int64))), .second] []))
      refine Go.st (fun _ k => XS.iconst X0.here hx rfl (hb hby d2_28) k) ?_
      show Go p e below _ (s₁.setTop (mkF m 29 #[.val (.int p0), .val (.long (((p0 ||| (32 : Int32)).toInt64) - (97 : Int64))), .second] [(.int (0 : Int32))]))
      obtain ⟨fs, hr, hrun, hended, hW, hsame⟩ := X0.leave (v := some (.int (0 : Int32))) (fun h => by rw [Bd.returns] at h; cases h)
      refine ⟨_, _, retN X0 hx (t := .boolean) Bd.returns (by simp) (hb hby d2_29) hr, hrun, hended, _, _, rfl, ?_, ⟨_, rfl⟩, hW, hsame.mono (by decide) (by decide)⟩
      show Q_rm2 Z p0 h0 n0 _ s₁.heap _
      rw [e0]
      refine ⟨?_, N0, rfl⟩
      unfold fRef
      rw [if_neg hc1, if_neg hc2]
theorem own_or32 (a : Int32) : (a.toInt / 32 % 2 = 1 ∧ (a ||| (32 : Int32)).toInt = a.toInt) ∨ (a.toInt / 32 % 2 = 0 ∧ (a ||| (32 : Int32)).toInt = a.toInt + 32) := by
  have hb := a.toBitVec.isLt
  have et : a.toInt = if 2 * a.toBitVec.toNat < 2 ^ 32 then (a.toBitVec.toNat : Int) else (a.toBitVec.toNat : Int) - 2 ^ 32 := BitVec.toInt_eq_toNat_cond _
  have hbit : a.toBitVec.getLsbD 5 = decide (a.toBitVec.toNat / 2 ^ 5 % 2 = 1) := Nat.testBit_eq_decide_div_mod_eq
  have e2 : (a ||| (32 : Int32)).toBitVec = a.toBitVec ||| BitVec.twoPow 32 5 := by rw [Int32.toBitVec_or]; rfl
  have et2 : (a ||| (32 : Int32)).toInt = if 2 * (a ||| (32 : Int32)).toBitVec.toNat < 2 ^ 32 then ((a ||| (32 : Int32)).toBitVec.toNat : Int) else ((a ||| (32 : Int32)).toBitVec.toNat : Int) - 2 ^ 32 := BitVec.toInt_eq_toNat_cond _
  by_cases h : a.toBitVec.toNat / 2 ^ 5 % 2 = 1
  · left
    have e3 : a.toBitVec ||| BitVec.twoPow 32 5 = a.toBitVec := by
      apply BitVec.eq_of_getLsbD_eq
      intro i hi
      rw [BitVec.getLsbD_or, BitVec.getLsbD_twoPow]
      by_cases hi5 : i = 5
      · subst hi5; rw [hbit]; simp [h]
      · simp [hi5, Ne.symm hi5]
    rw [et2, e2, e3]
    constructor
    · rw [et]; split <;> omega
    · rw [et]
  · right
    have e3 : a.toBitVec &&& BitVec.twoPow 32 5 = 0#32 := by
      rw [BitVec.and_twoPow, hbit]; simp [h]
    have e4 : (a.toBitVec ||| BitVec.twoPow 32 5).toNat = a.toBitVec.toNat + 32 := by
      rw [← BitVec.add_eq_or_of_and_eq_zero _ _ e3, BitVec.toNat_add]
      have : (BitVec.twoPow 32 5).toNat = 32 := by decide
      rw [this]; omega
    rw [et2, e2, e4, et]
    constructor
    · split <;> omega
    · split <;> split <;> omega
theorem own_same (a : Int32) : fLetter a = fRef a := by
  have e1 : ((a ||| (32 : Int32)).toInt64 - (97 : Int64)).toInt = (a ||| (32 : Int32)).toInt - 97 := by
    have := (a ||| (32 : Int32)).toInt_lt
    have := (a ||| (32 : Int32)).le_toInt
    rw [Jvm.Kit.i64_sub, Int32.toInt_toInt64]
    · rfl
    · rw [Int32.toInt_toInt64]; show _ ≤ _ - (97 : Int); omega
    · rw [Int32.toInt_toInt64]; show _ - (97 : Int) < _; omega
  have h := own_or32 a
  unfold fLetter fRef
  simp only [Int32.lt_iff_toInt_lt, Int64.lt_iff_toInt_lt, e1]
  have c97 : (97 : Int32).toInt = 97 := by decide
  have c65 : (65 : Int32).toInt = 65 := by decide
  have c90 : (90 : Int32).toInt = 90 := by decide
  have c122 : (122 : Int32).toInt = 122 := by decide
  have c0 : (0 : Int64).toInt = 0 := by decide
  have c26 : (26 : Int64).toInt = 26 := by decide
  rw [c97, c65, c90, c122, c0, c26]
  repeat' split
  all_goals first | rfl | (exfalso; omega)

theorem pn_0 : plainName "com/example/tokenloom/tokenloom/scanner/AsciiIsLetterPinLaw" = true := by first | (simp [plainName, overriddenIn]; done) | decide +kernel
theorem pd56f531e : parseMethodDescriptor "(I)Z" = some ⟨[.int], some .boolean⟩ := by decide +kernel
theorem ef_rm0 (m : MethodId) (p0 : Int32) (p1 : Int32) : entryFrame m #[(.int p0), (.int p1)] maxLocals = mkF m 0 #[.val (.int p0), .val (.int p1), .unset, .unset, .unset] [] := by first | (simp [entryFrame, mkF, argsToLocals, Value.category, maxLocals]; done) | rfl
def Q_rm0 (Z : State) (p0 : Int32) (p1 : Int32) (h0 : Heap) (n0 : Nat) (v : Option Value) (h : Heap) (L : List Loc) : Prop := v = some (.int 1) ∧ Fr n0 L
abbrev F_rm0 (Z : State) (p0 : Int32) (p1 : Int32) (h0 : Heap) (n0 : Nat) (s : State) (o : Outcome) (U : State) : Prop := ∃ v L, o = .returned v ∧ Q_rm0 Z p0 p1 h0 n0 v U.heap L ∧ FrameEnd s o U L room_1.cells room_1.slots
set_option maxRecDepth 65536 in
set_option maxHeartbeats 40000000 in
theorem rm0 (l : Launch) (Z : State) (aZ : Array Value) (hw : ∀ d ∈ tables_1, d.before aZ Z = true) (ws : List Jvm.Cond) (p0 : Int32) (p1 : Int32) (h0 : Heap) (n0 : Nat) :
    MetFree l x (head1 (Jvm.Cond.code x code maxLocals ret :: ws) room_1) (fun a U => a = #[(.int p0), (.int p1)] ∧ Z.Warmed39 U.vm ∧ U.heap = h0) (fun _ _ _ _ _ => True) (fun _ U o U' => ∃ v L, o = .returned v ∧ Q_rm0 Z p0 p1 h0 n0 v U'.heap L ∧ FrameEnd U o U' L room_1.cells room_1.slots) := by
  refine MetFree.of_bodySF (plainFor_of_name pn_0) hisR ?_
  intro p e s m args below meth c s₁ Bd hml0 hP hK
  obtain ⟨rfl, hZ, hh⟩ := hP
  have hx := Bd.exec
  have hby := Bd.bytes
  have hml : c.maxLocals = 5 := hml0
  have hown : s.vm.findClass "com/example/tokenloom/tokenloom/scanner/AsciiIsLetterPinLaw" = some m.cls := findClass_of_methodNamed Bd.named
  have hnm := (name_of_methodNamed Bd.named Bd.method).1
  have X0 : Stand p l e room_1 s m #[(.int p0), (.int p1)] below meth c s₁ [] 0 0 := Stand.of_body Bd
  have e0 : s₁.heap = h0 := by rw [← hh, Bd.state]; rfl
  have N0 := Fr.nil n0
  refine Go.st (fun _ k => castTop (ef_rm0 m p0 p1) k) ?_
  show Go p e below _ (s₁.setTop (mkF m 0 #[.val (.int p0), .val (.int p1), .unset, .unset, .unset] []))
  refine Go.st (fun _ k => XS.iloadN X0.here hx rfl (hb hby at_0) rfl k) ?_
  show Go p e below _ (s₁.setTop (mkF m 1 #[.val (.int p0), .val (.int p1), .unset, .unset, .unset] [(.int p1)]))
  refine Go.st (fun _ k => XS.sipush X0.here hx rfl (hb hby at_1) k) ?_
  show Go p e below _ (s₁.setTop (mkF m 4 #[.val (.int p0), .val (.int p1), .unset, .unset, .unset] [(.int (255 : Int32)), (.int p1)]))
  refine Go.st (fun _ k => XS.iand X0.here hx rfl (hb hby at_4) rfl k) ?_
  show Go p e below _ (s₁.setTop (mkF m 5 #[.val (.int p0), .val (.int p1), .unset, .unset, .unset] [(.int (p1 &&& (255 : Int32)))]))
  refine Go.st (fun _ k => XS.istoreN X0.here hx rfl (hb hby at_5) rfl (l' := #[.val (.int p0), .val (.int p1), .val (.int (p1 &&& (255 : Int32))), .unset, .unset]) rfl k) ?_
  show Go p e below _ (s₁.setTop (mkF m 6 #[.val (.int p0), .val (.int p1), .val (.int (p1 &&& (255 : Int32))), .unset, .unset] []))
  refine Go.st (fun _ k => XS.iloadN X0.here hx rfl (hb hby at_6) rfl k) ?_
  show Go p e below _ (s₁.setTop (mkF m 7 #[.val (.int p0), .val (.int p1), .val (.int (p1 &&& (255 : Int32))), .unset, .unset] [(.int p1)]))
  refine Go.st (fun _ k => XS.bipush X0.here hx rfl (hb hby at_7) k) ?_
  show Go p e below _ (s₁.setTop (mkF m 9 #[.val (.int p0), .val (.int p1), .val (.int (p1 &&& (255 : Int32))), .unset, .unset] [(.int (8 : Int32)), (.int p1)]))
  refine Go.st (fun _ k => XS.ishr X0.here hx rfl (hb hby at_9) rfl k) ?_
  show Go p e below _ (s₁.setTop (mkF m 10 #[.val (.int p0), .val (.int p1), .val (.int (p1 &&& (255 : Int32))), .unset, .unset] [(.int (p1 >>> ((8 : Int32) &&& 31)))]))
  refine Go.st (fun _ k => X0.ldcInt hx hown (mvT hZ (hw _ (List.mem_of_getElem? (i := 0) rfl))) (g := (mkF m 10 #[.val (.int p0), .val (.int p1), .val (.int (p1 &&& (255 : Int32))), .unset, .unset] [(.int (p1 >>> ((8 : Int32) &&& 31)))])) rfl (hb hby at_10) _ k) ?_
  show Go p e below _ (s₁.setTop (mkF m 12 #[.val (.int p0), .val (.int p1), .val (.int (p1 &&& (255 : Int32))), .unset, .unset] [(.int (131071 : Int32)), (.int (p1 >>> ((8 : Int32) &&& 31)))]))
  refine Go.st (fun _ k => XS.iand X0.here hx rfl (hb hby at_12) rfl k) ?_
  show Go p e below _ (s₁.setTop (mkF m 13 #[.val (.int p0), .val (.int p1), .val (.int (p1 &&& (255 : Int32))), .unset, .unset] [(.int ((p1 >>> ((8 : Int32) &&& 31)) &&& (131071 : Int32)))]))
  refine Go.st (fun _ k => XS.istoreN X0.here hx rfl (hb hby at_13) rfl (l' := #[.val (.int p0), .val (.int p1), .val (.int (p1 &&& (255 : Int32))), .val (.int ((p1 >>> ((8 : Int32) &&& 31)) &&& (131071 : Int32))), .unset]) rfl k) ?_
  show Go p e below _ (s₁.setTop (mkF m 14 #[.val (.int p0), .val (.int p1), .val (.int (p1 &&& (255 : Int32))), .val (.int ((p1 >>> ((8 : Int32) &&& 31)) &&& (131071 : Int32))), .unset] []))
  refine Go.st (fun _ k => XS.iloadN X0.here hx rfl (hb hby at_14) rfl k) ?_
  show Go p e below _ (s₁.setTop (mkF m 15 #[.val (.int p0), .val (.int p1), .val (.int (p1 &&& (255 : Int32))), .val (.int ((p1 >>> ((8 : Int32) &&& 31)) &&& (131071 : Int32))), .unset] [(.int p0)]))
  obtain ⟨_, _, ⟨T1, L1, k1, n1⟩, -, X1, ⟨Lc1, hQ1, l1, y1, z1⟩, st1⟩ := Jvm.LawKit.callS X0 hx (y := (⟨"com/example/tokenloom/tokenloom/scanner/Ascii", "isLetter", "(I)Z"⟩ : MethodName)) hown (mvT hZ (hw _ (List.mem_of_getElem? (i := 1) rfl))) (mvT hZ (hw _ (List.mem_of_getElem? (i := 2) rfl))) (mvT hZ (hw _ (List.mem_of_getElem? (i := 3) rfl))) (mvT hZ (hw _ (List.mem_of_getElem? (i := 4) rfl))) (by decide) (backOf (W := 0) (rm1 l Z aZ hw [] p0 h0 n0 ) hZ (hw _ (List.mem_of_getElem? (i := 4) rfl)) (hw _ (List.mem_of_getElem? (i := 3) rfl)) (by decide) (by decide)) (g := (mkF m 15 #[.val (.int p0), .val (.int p1), .val (.int (p1 &&& (255 : Int32))), .val (.int ((p1 >>> ((8 : Int32) &&& 31)) &&& (131071 : Int32))), .unset] [(.int p0)])) rfl (by rw [hml]; rfl) (argsL := [(.int p0)]) (rest := []) (lenOf pd56f531e rfl) rfl (by show 2 * 0 + _ ≤ _; exact Nat.le_of_eq rfl) (hb hby at_15) (fun _ _ => ⟨rfl, e0, (by decide : 0 + 0 ≤ _), (by decide : 0 + 0 ≤ _)⟩)
  dsimp only [Pt.U, Pt.locs, Pt.cells, Pt.slots] at X1 l1 y1 z1 st1 hQ1
  subst l1 y1 z1
  obtain ⟨rfl, N1q, e1⟩ := hQ1
  have N1 := Fr.app N0 N1q
  refine Go.st (fun _ k => st1 _ k) ?_
  show Go p e below _ (T1.setTop (mkF m 18 #[.val (.int p0), .val (.int p1), .val (.int (p1 &&& (255 : Int32))), .val (.int ((p1 >>> ((8 : Int32) &&& 31)) &&& (131071 : Int32))), .unset] [(.int (fLetter p0))]))
  refine Go.st (fun _ k => XS.iloadN X1.here hx rfl (hb hby at_18) rfl k) ?_
  show Go p e below _ (T1.setTop (mkF m 19 #[.val (.int p0), .val (.int p1), .val (.int (p1 &&& (255 : Int32))), .val (.int ((p1 >>> ((8 : Int32) &&& 31)) &&& (131071 : Int32))), .unset] [(.int p0), (.int (fLetter p0))]))
  obtain ⟨_, _, ⟨T2, L2, k2, n2⟩, -, X2, ⟨Lc2, hQ2, l2, y2, z2⟩, st2⟩ := Jvm.LawKit.callS X1 hx (y := (⟨"com/example/tokenloom/tokenloom/scanner/AsciiIsLetterPinLaw", "reference", "(I)Z"⟩ : MethodName)) hown (mvT hZ (hw _ (List.mem_of_getElem? (i := 5) rfl))) (mvT hZ (hw _ (List.mem_of_getElem? (i := 6) rfl))) (mvT hZ (hw _ (List.mem_of_getElem? (i := 7) rfl))) (mvT hZ (hw _ (List.mem_of_getElem? (i := 8) rfl))) (by decide) (backOf (W := 1) (rm2 l Z aZ hw [] p0 h0 n0 ) hZ (hw _ (List.mem_of_getElem? (i := 8) rfl)) (hw _ (List.mem_of_getElem? (i := 7) rfl)) (by decide) (by decide)) (g := (mkF m 19 #[.val (.int p0), .val (.int p1), .val (.int (p1 &&& (255 : Int32))), .val (.int ((p1 >>> ((8 : Int32) &&& 31)) &&& (131071 : Int32))), .unset] [(.int p0), (.int (fLetter p0))])) rfl (by rw [hml]; rfl) (argsL := [(.int p0)]) (rest := [(.int (fLetter p0))]) (lenOf pd56f531e rfl) rfl (by show 2 * 0 + _ ≤ _; exact Nat.le_of_eq rfl) (hb hby at_19) (fun _ _ => ⟨rfl, e1, (by decide : 0 + 0 ≤ _), (by decide : 0 + 0 ≤ _)⟩)
  dsimp only [Pt.U, Pt.locs, Pt.cells, Pt.slots] at X2 l2 y2 z2 st2 hQ2
  subst l2 y2 z2
  obtain ⟨rfl, N2q, e2⟩ := hQ2
  have N2 := Fr.app N1 N2q
  refine Go.st (fun _ k => st2 _ k) ?_
  show Go p e below _ (T2.setTop (mkF m 22 #[.val (.int p0), .val (.int p1), .val (.int (p1 &&& (255 : Int32))), .val (.int ((p1 >>> ((8 : Int32) &&& 31)) &&& (131071 : Int32))), .unset] [(.int (fRef p0)), (.int (fLetter p0))]))
  refine Go.st (fun _ k => XS.icmpNo X2.here hx rfl (hb hby at_22) rfl (teq (own_same p0)).2 k) ?_
  show Go p e below _ (T2.setTop (mkF m 25 #[.val (.int p0), .val (.int p1), .val (.int (p1 &&& (255 : Int32))), .val (.int ((p1 >>> ((8 : Int32) &&& 31)) &&& (131071 : Int32))), .unset] []))
  refine Go.st (fun _ k => XS.iconst X2.here hx rfl (hb hby at_25) k) ?_
  show Go p e below _ (T2.setTop (mkF m 26 #[.val (.int p0), .val (.int p1), .val (.int (p1 &&& (255 : Int32))), .val (.int ((p1 >>> ((8 : Int32) &&& 31)) &&& (131071 : Int32))), .unset] [(.int (1 : Int32))]))
  refine Go.st (fun _ k => XS.goto X2.here hx rfl (pc0 := 26) (pc' := 30) rfl (hb hby at_26) (by decide) (by decide) k) ?_
  show Go p e below _ (T2.setTop (mkF m 30 #[.val (.int p0), .val (.int p1), .val (.int (p1 &&& (255 : Int32))), .val (.int ((p1 >>> ((8 : Int32) &&& 31)) &&& (131071 : Int32))), .unset] [(.int (1 : Int32))]))
  refine Go.st (fun _ k => XS.istore X2.here hx rfl (hb hby at_30) rfl (l' := #[.val (.int p0), .val (.int p1), .val (.int (p1 &&& (255 : Int32))), .val (.int ((p1 >>> ((8 : Int32) &&& 31)) &&& (131071 : Int32))), .val (.int (1 : Int32))]) rfl k) ?_
  show Go p e below _ (T2.setTop (mkF m 32 #[.val (.int p0), .val (.int p1), .val (.int (p1 &&& (255 : Int32))), .val (.int ((p1 >>> ((8 : Int32) &&& 31)) &&& (131071 : Int32))), .val (.int (1 : Int32))] []))
  refine Go.st (fun _ k => XS.iload X2.here hx rfl (hb hby at_32) rfl k) ?_
  show Go p e below _ (T2.setTop (mkF m 34 #[.val (.int p0), .val (.int p1), .val (.int (p1 &&& (255 : Int32))), .val (.int ((p1 >>> ((8 : Int32) &&& 31)) &&& (131071 : Int32))), .val (.int (1 : Int32))] [(.int (1 : Int32))]))
  refine Go.st (fun _ k => XS.ifNo X2.here hx rfl (hb hby at_34) rfl ((if0 _ _).trans (feq (by decide : ¬ ((1 : Int32) = (0 : Int32)))).1) k) ?_
  show Go p e below _ (T2.setTop (mkF m 37 #[.val (.int p0), .val (.int p1), .val (.int (p1 &&& (255 : Int32))), .val (.int ((p1 >>> ((8 : Int32) &&& 31)) &&& (131071 : Int32))), .val (.int (1 : Int32))] []))
  refine Go.st (fun _ k => XS.iloadN X2.here hx rfl (hb hby at_37) rfl k) ?_
  show Go p e below _ (T2.setTop (mkF m 38 #[.val (.int p0), .val (.int p1), .val (.int (p1 &&& (255 : Int32))), .val (.int ((p1 >>> ((8 : Int32) &&& 31)) &&& (131071 : Int32))), .val (.int (1 : Int32))] [(.int (p1 &&& (255 : Int32)))]))
  obtain ⟨_, _, ⟨T3, L3, k3, n3⟩, -, X3, ⟨Lc3, hQ3, l3, y3, z3⟩, st3⟩ := Jvm.LawKit.callS X2 hx (y := (⟨"com/example/tokenloom/tokenloom/scanner/Ascii", "isLetter", "(I)Z"⟩ : MethodName)) hown (mvT hZ (hw _ (List.mem_of_getElem? (i := 1) rfl))) (mvT hZ (hw _ (List.mem_of_getElem? (i := 2) rfl))) (mvT hZ (hw _ (List.mem_of_getElem? (i := 3) rfl))) (mvT hZ (hw _ (List.mem_of_getElem? (i := 4) rfl))) (by decide) (backOf (W := 0) (rm1 l Z aZ hw [] (p1 &&& (255 : Int32)) h0 n0 ) hZ (hw _ (List.mem_of_getElem? (i := 4) rfl)) (hw _ (List.mem_of_getElem? (i := 3) rfl)) (by decide) (by decide)) (g := (mkF m 38 #[.val (.int p0), .val (.int p1), .val (.int (p1 &&& (255 : Int32))), .val (.int ((p1 >>> ((8 : Int32) &&& 31)) &&& (131071 : Int32))), .val (.int (1 : Int32))] [(.int (p1 &&& (255 : Int32)))])) rfl (by rw [hml]; rfl) (argsL := [(.int (p1 &&& (255 : Int32)))]) (rest := []) (lenOf pd56f531e rfl) rfl (by show 2 * 0 + _ ≤ _; exact Nat.le_of_eq rfl) (hb hby at_38) (fun _ _ => ⟨rfl, e2, (by decide : 0 + 0 ≤ _), (by decide : 0 + 0 ≤ _)⟩)
  dsimp only [Pt.U, Pt.locs, Pt.cells, Pt.slots] at X3 l3 y3 z3 st3 hQ3
  subst l3 y3 z3
  obtain ⟨rfl, N3q, e3⟩ := hQ3
  have N3 := Fr.app N2 N3q
  refine Go.st (fun _ k => st3 _ k) ?_
  show Go p e below _ (T3.setTop (mkF m 41 #[.val (.int p0), .val (.int p1), .val (.int (p1 &&& (255 : Int32))), .val (.int ((p1 >>> ((8 : Int32) &&& 31)) &&& (131071 : Int32))), .val (.int (1 : Int32))] [(.int (fLetter (p1 &&& (255 : Int32))))]))
  refine Go.st (fun _ k => XS.iloadN X3.here hx rfl (hb hby at_41) rfl k) ?_
  show Go p e below _ (T3.setTop (mkF m 42 #[.val (.int p0), .val (.int p1), .val (.int (p1 &&& (255 : Int32))), .val (.int ((p1 >>> ((8 : Int32) &&& 31)) &&& (131071 : Int32))), .val (.int (1 : Int32))] [(.int (p1 &&& (255 : Int32))), (.int (fLetter (p1 &&& (255 : Int32))))]))
  obtain ⟨_, _, ⟨T4, L4, k4, n4⟩, -, X4, ⟨Lc4, hQ4, l4, y4, z4⟩, st4⟩ := Jvm.LawKit.callS X3 hx (y := (⟨"com/example/tokenloom/tokenloom/scanner/AsciiIsLetterPinLaw", "reference", "(I)Z"⟩ : MethodName)) hown (mvT hZ (hw _ (List.mem_of_getElem? (i := 5) rfl))) (mvT hZ (hw _ (List.mem_of_getElem? (i := 6) rfl))) (mvT hZ (hw _ (List.mem_of_getElem? (i := 7) rfl))) (mvT hZ (hw _ (List.mem_of_getElem? (i := 8) rfl))) (by decide) (backOf (W := 1) (rm2 l Z aZ hw [] (p1 &&& (255 : Int32)) h0 n0 ) hZ (hw _ (List.mem_of_getElem? (i := 8) rfl)) (hw _ (List.mem_of_getElem? (i := 7) rfl)) (by decide) (by decide)) (g := (mkF m 42 #[.val (.int p0), .val (.int p1), .val (.int (p1 &&& (255 : Int32))), .val (.int ((p1 >>> ((8 : Int32) &&& 31)) &&& (131071 : Int32))), .val (.int (1 : Int32))] [(.int (p1 &&& (255 : Int32))), (.int (fLetter (p1 &&& (255 : Int32))))])) rfl (by rw [hml]; rfl) (argsL := [(.int (p1 &&& (255 : Int32)))]) (rest := [(.int (fLetter (p1 &&& (255 : Int32))))]) (lenOf pd56f531e rfl) rfl (by show 2 * 0 + _ ≤ _; exact Nat.le_of_eq rfl) (hb hby at_42) (fun _ _ => ⟨rfl, e3, (by decide : 0 + 0 ≤ _), (by decide : 0 + 0 ≤ _)⟩)
  dsimp only [Pt.U, Pt.locs, Pt.cells, Pt.slots] at X4 l4 y4 z4 st4 hQ4
  subst l4 y4 z4
  obtain ⟨rfl, N4q, e4⟩ := hQ4
  have N4 := Fr.app N3 N4q
  refine Go.st (fun _ k => st4 _ k) ?_
  show Go p e below _ (T4.setTop (mkF m 45 #[.val (.int p0), .val (.int p1), .val (.int (p1 &&& (255 : Int32))), .val (.int ((p1 >>> ((8 : Int32) &&& 31)) &&& (131071 : Int32))), .val (.int (1 : Int32))] [(.int (fRef (p1 &&& (255 : Int32)))), (.int (fLetter (p1 &&& (255 : Int32))))]))
  refine Go.st (fun _ k => XS.icmpNo X4.here hx rfl (hb hby at_45) rfl (teq (own_same (p1 &&& (255 : Int32)))).2 k) ?_
  show Go p e below _ (T4.setTop (mkF m 48 #[.val (.int p0), .val (.int p1), .val (.int (p1 &&& (255 : Int32))), .val (.int ((p1 >>> ((8 : Int32) &&& 31)) &&& (131071 : Int32))), .val (.int (1 : Int32))] []))
  refine Go.st (fun _ k => XS.iconst X4.here hx rfl (hb hby at_48) k) ?_
  show Go p e below _ (T4.setTop (mkF m 49 #[.val (.int p0), .val (.int p1), .val (.int (p1 &&& (255 : Int32))), .val (.int ((p1 >>> ((8 : Int32) &&& 31)) &&& (131071 : Int32))), .val (.int (1 : Int32))] [(.int (1 : Int32))]))
  refine Go.st (fun _ k => XS.goto X4.here hx rfl (pc0 := 49) (pc' := 53) rfl (hb hby at_49) (by decide) (by decide) k) ?_
  show Go p e below _ (T4.setTop (mkF m 53 #[.val (.int p0), .val (.int p1), .val (.int (p1 &&& (255 : Int32))), .val (.int ((p1 >>> ((8 : Int32) &&& 31)) &&& (131071 : Int32))), .val (.int (1 : Int32))] [(.int (1 : Int32))]))
  refine Go.st (fun _ k => XS.istore X4.here hx rfl (hb hby at_53) rfl (l' := #[.val (.int p0), .val (.int p1), .val (.int (p1 &&& (255 : Int32))), .val (.int ((p1 >>> ((8 : Int32) &&& 31)) &&& (131071 : Int32))), .val (.int (1 : Int32))]) rfl k) ?_
  show Go p e below _ (T4.setTop (mkF m 55 #[.val (.int p0), .val (.int p1), .val (.int (p1 &&& (255 : Int32))), .val (.int ((p1 >>> ((8 : Int32) &&& 31)) &&& (131071 : Int32))), .val (.int (1 : Int32))] []))
  refine Go.st (fun _ k => XS.iload X4.here hx rfl (hb hby at_55) rfl k) ?_
  show Go p e below _ (T4.setTop (mkF m 57 #[.val (.int p0), .val (.int p1), .val (.int (p1 &&& (255 : Int32))), .val (.int ((p1 >>> ((8 : Int32) &&& 31)) &&& (131071 : Int32))), .val (.int (1 : Int32))] [(.int (1 : Int32))]))
  refine Go.st (fun _ k => XS.ifNo X4.here hx rfl (hb hby at_57) rfl ((if0 _ _).trans (feq (by decide : ¬ ((1 : Int32) = (0 : Int32)))).1) k) ?_
  show Go p e below _ (T4.setTop (mkF m 60 #[.val (.int p0), .val (.int p1), .val (.int (p1 &&& (255 : Int32))), .val (.int ((p1 >>> ((8 : Int32) &&& 31)) &&& (131071 : Int32))), .val (.int (1 : Int32))] []))
  refine Go.st (fun _ k => XS.iloadN X4.here hx rfl (hb hby at_60) rfl k) ?_
  show Go p e below _ (T4.setTop (mkF m 61 #[.val (.int p0), .val (.int p1), .val (.int (p1 &&& (255 : Int32))), .val (.int ((p1 >>> ((8 : Int32) &&& 31)) &&& (131071 : Int32))), .val (.int (1 : Int32))] [(.int ((p1 >>> ((8 : Int32) &&& 31)) &&& (131071 : Int32)))]))
  obtain ⟨_, _, ⟨T5, L5, k5, n5⟩, -, X5, ⟨Lc5, hQ5, l5, y5, z5⟩, st5⟩ := Jvm.LawKit.callS X4 hx (y := (⟨"com/example/tokenloom/tokenloom/scanner/Ascii", "isLetter", "(I)Z"⟩ : MethodName)) hown (mvT hZ (hw _ (List.mem_of_getElem? (i := 1) rfl))) (mvT hZ (hw _ (List.mem_of_getElem? (i := 2) rfl))) (mvT hZ (hw _ (List.mem_of_getElem? (i := 3) rfl))) (mvT hZ (hw _ (List.mem_of_getElem? (i := 4) rfl))) (by decide) (backOf (W := 0) (rm1 l Z aZ hw [] ((p1 >>> ((8 : Int32) &&& 31)) &&& (131071 : Int32)) h0 n0 ) hZ (hw _ (List.mem_of_getElem? (i := 4) rfl)) (hw _ (List.mem_of_getElem? (i := 3) rfl)) (by decide) (by decide)) (g := (mkF m 61 #[.val (.int p0), .val (.int p1), .val (.int (p1 &&& (255 : Int32))), .val (.int ((p1 >>> ((8 : Int32) &&& 31)) &&& (131071 : Int32))), .val (.int (1 : Int32))] [(.int ((p1 >>> ((8 : Int32) &&& 31)) &&& (131071 : Int32)))])) rfl (by rw [hml]; rfl) (argsL := [(.int ((p1 >>> ((8 : Int32) &&& 31)) &&& (131071 : Int32)))]) (rest := []) (lenOf pd56f531e rfl) rfl (by show 2 * 0 + _ ≤ _; exact Nat.le_of_eq rfl) (hb hby at_61) (fun _ _ => ⟨rfl, e4, (by decide : 0 + 0 ≤ _), (by decide : 0 + 0 ≤ _)⟩)
  dsimp only [Pt.U, Pt.locs, Pt.cells, Pt.slots] at X5 l5 y5 z5 st5 hQ5
  subst l5 y5 z5
  obtain ⟨rfl, N5q, e5⟩ := hQ5
  have N5 := Fr.app N4 N5q
  refine Go.st (fun _ k => st5 _ k) ?_
  show Go p e below _ (T5.setTop (mkF m 64 #[.val (.int p0), .val (.int p1), .val (.int (p1 &&& (255 : Int32))), .val (.int ((p1 >>> ((8 : Int32) &&& 31)) &&& (131071 : Int32))), .val (.int (1 : Int32))] [(.int (fLetter ((p1 >>> ((8 : Int32) &&& 31)) &&& (131071 : Int32))))]))
  refine Go.st (fun _ k => XS.iloadN X5.here hx rfl (hb hby at_64) rfl k) ?_
  show Go p e below _ (T5.setTop (mkF m 65 #[.val (.int p0), .val (.int p1), .val (.int (p1 &&& (255 : Int32))), .val (.int ((p1 >>> ((8 : Int32) &&& 31)) &&& (131071 : Int32))), .val (.int (1 : Int32))] [(.int ((p1 >>> ((8 : Int32) &&& 31)) &&& (131071 : Int32))), (.int (fLetter ((p1 >>> ((8 : Int32) &&& 31)) &&& (131071 : Int32))))]))
  obtain ⟨_, _, ⟨T6, L6, k6, n6⟩, -, X6, ⟨Lc6, hQ6, l6, y6, z6⟩, st6⟩ := Jvm.LawKit.callS X5 hx (y := (⟨"com/example/tokenloom/tokenloom/scanner/AsciiIsLetterPinLaw", "reference", "(I)Z"⟩ : MethodName)) hown (mvT hZ (hw _ (List.mem_of_getElem? (i := 5) rfl))) (mvT hZ (hw _ (List.mem_of_getElem? (i := 6) rfl))) (mvT hZ (hw _ (List.mem_of_getElem? (i := 7) rfl))) (mvT hZ (hw _ (List.mem_of_getElem? (i := 8) rfl))) (by decide) (backOf (W := 1) (rm2 l Z aZ hw [] ((p1 >>> ((8 : Int32) &&& 31)) &&& (131071 : Int32)) h0 n0 ) hZ (hw _ (List.mem_of_getElem? (i := 8) rfl)) (hw _ (List.mem_of_getElem? (i := 7) rfl)) (by decide) (by decide)) (g := (mkF m 65 #[.val (.int p0), .val (.int p1), .val (.int (p1 &&& (255 : Int32))), .val (.int ((p1 >>> ((8 : Int32) &&& 31)) &&& (131071 : Int32))), .val (.int (1 : Int32))] [(.int ((p1 >>> ((8 : Int32) &&& 31)) &&& (131071 : Int32))), (.int (fLetter ((p1 >>> ((8 : Int32) &&& 31)) &&& (131071 : Int32))))])) rfl (by rw [hml]; rfl) (argsL := [(.int ((p1 >>> ((8 : Int32) &&& 31)) &&& (131071 : Int32)))]) (rest := [(.int (fLetter ((p1 >>> ((8 : Int32) &&& 31)) &&& (131071 : Int32))))]) (lenOf pd56f531e rfl) rfl (by show 2 * 0 + _ ≤ _; exact Nat.le_of_eq rfl) (hb hby at_65) (fun _ _ => ⟨rfl, e5, (by decide : 0 + 0 ≤ _), (by decide : 0 + 0 ≤ _)⟩)
  dsimp only [Pt.U, Pt.locs, Pt.cells, Pt.slots] at X6 l6 y6 z6 st6 hQ6
  subst l6 y6 z6
  obtain ⟨rfl, N6q, e6⟩ := hQ6
  have N6 := Fr.app N5 N6q
  refine Go.st (fun _ k => st6 _ k) ?_
  show Go p e below _ (T6.setTop (mkF m 68 #[.val (.int p0), .val (.int p1), .val (.int (p1 &&& (255 : Int32))), .val (.int ((p1 >>> ((8 : Int32) &&& 31)) &&& (131071 : Int32))), .val (.int (1 : Int32))] [(.int (fRef ((p1 >>> ((8 : Int32) &&& 31)) &&& (131071 : Int32)))), (.int (fLetter ((p1 >>> ((8 : Int32) &&& 31)) &&& (131071 : Int32))))]))
  refine Go.st (fun _ k => XS.icmpNo X6.here hx rfl (hb hby at_68) rfl (teq (own_same ((p1 >>> ((8 : Int32) &&& 31)) &&& (131071 : Int32)))).2 k) ?_
  show Go p e below _ (T6.setTop (mkF m 71 #[.val (.int p0), .val (.int p1), .val (.int (p1 &&& (255 : Int32))), .val (.int ((p1 >>> ((8 : Int32) &&& 31)) &&& (131071 : Int32))), .val (.int (1 : Int32))] []))
  refine Go.st (fun _ k => XS.iconst X6.here hx rfl (hb hby at_71) k) ?_
  show Go p e below _ (T6.setTop (mkF m 72 #[.val (.int p0), .val (.int p1), .val (.int (p1 &&& (255 : Int32))), .val (.int ((p1 >>> ((8 : Int32) &&& 31)) &&& (131071 : Int32))), .val (.int (1 : Int32))] [(.int (1 : Int32))]))
  refine Go.st (fun _ k => XS.goto X6.here hx rfl (pc0 := 72) (pc' := 76) rfl (hb hby at_72) (by decide) (by decide) k) ?_
  show Go p e below _ (T6.setTop (mkF m 76 #[.val (.int p0), .val (.int p1), .val (.int (p1 &&& (255 : Int32))), .val (.int ((p1 >>> ((8 : Int32) &&& 31)) &&& (131071 : Int32))), .val (.int (1 : Int32))] [(.int (1 : Int32))]))
  refine Go.st (fun _ k => XS.istore X6.here hx rfl (hb hby at_76) rfl (l' := #[.val (.int p0), .val (.int p1), .val (.int (p1 &&& (255 : Int32))), .val (.int ((p1 >>> ((8 : Int32) &&& 31)) &&& (131071 : Int32))), .val (.int (1 : Int32))]) rfl k) ?_
  show Go p e below _ (T6.setTop (mkF m 78 #[.val (.int p0), .val (.int p1), .val (.int (p1 &&& (255 : Int32))), .val (.int ((p1 >>> ((8 : Int32) &&& 31)) &&& (131071 : Int32))), .val (.int (1 : Int32))] []))
  refine Go.st (fun _ k => XS.iload X6.here hx rfl (hb hby at_78) rfl k) ?_
  show Go p e below _ (T6.setTop (mkF m 80 #[.val (.int p0), .val (.int p1), .val (.int (p1 &&& (255 : Int32))), .val (.int ((p1 >>> ((8 : Int32) &&& 31)) &&& (131071 : Int32))), .val (.int (1 : Int32))] [(.int (1 : Int32))]))
  refine Go.st (fun _ k => XS.ifNo X6.here hx rfl (hb hby at_80) rfl ((if0 _ _).trans (feq (by decide : ¬ ((1 : Int32) = (0 : Int32)))).1) k) ?_
  show Go p e below _ (T6.setTop (mkF m 83 #[.val (.int p0), .val (.int p1), .val (.int (p1 &&& (255 : Int32))), .val (.int ((p1 >>> ((8 : Int32) &&& 31)) &&& (131071 : Int32))), .val (.int (1 : Int32))] []))
  refine Go.st (fun _ k => XS.iloadN X6.here hx rfl (hb hby at_83) rfl k) ?_
  show Go p e below _ (T6.setTop (mkF m 84 #[.val (.int p0), .val (.int p1), .val (.int (p1 &&& (255 : Int32))), .val (.int ((p1 >>> ((8 : Int32) &&& 31)) &&& (131071 : Int32))), .val (.int (1 : Int32))] [(.int p0)]))
  refine Go.st (fun _ k => XS.bipush X6.here hx rfl (hb hby at_84) k) ?_
  show Go p e below _ (T6.setTop (mkF m 86 #[.val (.int p0), .val (.int p1), .val (.int (p1 &&& (255 : Int32))), .val (.int ((p1 >>> ((8 : Int32) &&& 31)) &&& (131071 : Int32))), .val (.int (1 : Int32))] [(.int (32 : Int32)), (.int p0)]))
  refine Go.st (fun _ k => XS.ixor X6.here hx rfl (hb hby at_86) rfl k) ?_
  show Go p e below _ (T6.setTop (mkF m 87 #[.val (.int p0), .val (.int p1), .val (.int (p1 &&& (255 : Int32))), .val (.int ((p1 >>> ((8 : Int32) &&& 31)) &&& (131071 : Int32))), .val (.int (1 : Int32))] [(.int (p0 ^^^ (32 : Int32)))]))
  obtain ⟨_, _, ⟨T7, L7, k7, n7⟩, -, X7, ⟨Lc7, hQ7, l7, y7, z7⟩, st7⟩ := Jvm.LawKit.callS X6 hx (y := (⟨"com/example/tokenloom/tokenloom/scanner/Ascii", "isLetter", "(I)Z"⟩ : MethodName)) hown (mvT hZ (hw _ (List.mem_of_getElem? (i := 1) rfl))) (mvT hZ (hw _ (List.mem_of_getElem? (i := 2) rfl))) (mvT hZ (hw _ (List.mem_of_getElem? (i := 3) rfl))) (mvT hZ (hw _ (List.mem_of_getElem? (i := 4) rfl))) (by decide) (backOf (W := 0) (rm1 l Z aZ hw [] (p0 ^^^ (32 : Int32)) h0 n0 ) hZ (hw _ (List.mem_of_getElem? (i := 4) rfl)) (hw _ (List.mem_of_getElem? (i := 3) rfl)) (by decide) (by decide)) (g := (mkF m 87 #[.val (.int p0), .val (.int p1), .val (.int (p1 &&& (255 : Int32))), .val (.int ((p1 >>> ((8 : Int32) &&& 31)) &&& (131071 : Int32))), .val (.int (1 : Int32))] [(.int (p0 ^^^ (32 : Int32)))])) rfl (by rw [hml]; rfl) (argsL := [(.int (p0 ^^^ (32 : Int32)))]) (rest := []) (lenOf pd56f531e rfl) rfl (by show 2 * 0 + _ ≤ _; exact Nat.le_of_eq rfl) (hb hby at_87) (fun _ _ => ⟨rfl, e6, (by decide : 0 + 0 ≤ _), (by decide : 0 + 0 ≤ _)⟩)
  dsimp only [Pt.U, Pt.locs, Pt.cells, Pt.slots] at X7 l7 y7 z7 st7 hQ7
  subst l7 y7 z7
  obtain ⟨rfl, N7q, e7⟩ := hQ7
  have N7 := Fr.app N6 N7q
  refine Go.st (fun _ k => st7 _ k) ?_
  show Go p e below _ (T7.setTop (mkF m 90 #[.val (.int p0), .val (.int p1), .val (.int (p1 &&& (255 : Int32))), .val (.int ((p1 >>> ((8 : Int32) &&& 31)) &&& (131071 : Int32))), .val (.int (1 : Int32))] [(.int (fLetter (p0 ^^^ (32 : Int32))))]))
  refine Go.st (fun _ k => XS.iloadN X7.here hx rfl (hb hby at_90) rfl k) ?_
  show Go p e below _ (T7.setTop (mkF m 91 #[.val (.int p0), .val (.int p1), .val (.int (p1 &&& (255 : Int32))), .val (.int ((p1 >>> ((8 : Int32) &&& 31)) &&& (131071 : Int32))), .val (.int (1 : Int32))] [(.int p0), (.int (fLetter (p0 ^^^ (32 : Int32))))]))
  refine Go.st (fun _ k => XS.bipush X7.here hx rfl (hb hby at_91) k) ?_
  show Go p e below _ (T7.setTop (mkF m 93 #[.val (.int p0), .val (.int p1), .val (.int (p1 &&& (255 : Int32))), .val (.int ((p1 >>> ((8 : Int32) &&& 31)) &&& (131071 : Int32))), .val (.int (1 : Int32))] [(.int (32 : Int32)), (.int p0), (.int (fLetter (p0 ^^^ (32 : Int32))))]))
  refine Go.st (fun _ k => XS.ixor X7.here hx rfl (hb hby at_93) rfl k) ?_
  show Go p e below _ (T7.setTop (mkF m 94 #[.val (.int p0), .val (.int p1), .val (.int (p1 &&& (255 : Int32))), .val (.int ((p1 >>> ((8 : Int32) &&& 31)) &&& (131071 : Int32))), .val (.int (1 : Int32))] [(.int (p0 ^^^ (32 : Int32))), (.int (fLetter (p0 ^^^ (32 : Int32))))]))
  obtain ⟨_, _, ⟨T8, L8, k8, n8⟩, -, X8, ⟨Lc8, hQ8, l8, y8, z8⟩, st8⟩ := Jvm.LawKit.callS X7 hx (y := (⟨"com/example/tokenloom/tokenloom/scanner/AsciiIsLetterPinLaw", "reference", "(I)Z"⟩ : MethodName)) hown (mvT hZ (hw _ (List.mem_of_getElem? (i := 5) rfl))) (mvT hZ (hw _ (List.mem_of_getElem? (i := 6) rfl))) (mvT hZ (hw _ (List.mem_of_getElem? (i := 7) rfl))) (mvT hZ (hw _ (List.mem_of_getElem? (i := 8) rfl))) (by decide) (backOf (W := 1) (rm2 l Z aZ hw [] (p0 ^^^ (32 : Int32)) h0 n0 ) hZ (hw _ (List.mem_of_getElem? (i := 8) rfl)) (hw _ (List.mem_of_getElem? (i := 7) rfl)) (by decide) (by decide)) (g := (mkF m 94 #[.val (.int p0), .val (.int p1), .val (.int (p1 &&& (255 : Int32))), .val (.int ((p1 >>> ((8 : Int32) &&& 31)) &&& (131071 : Int32))), .val (.int (1 : Int32))] [(.int (p0 ^^^ (32 : Int32))), (.int (fLetter (p0 ^^^ (32 : Int32))))])) rfl (by rw [hml]; rfl) (argsL := [(.int (p0 ^^^ (32 : Int32)))]) (rest := [(.int (fLetter (p0 ^^^ (32 : Int32))))]) (lenOf pd56f531e rfl) rfl (by show 2 * 0 + _ ≤ _; exact Nat.le_of_eq rfl) (hb hby at_94) (fun _ _ => ⟨rfl, e7, (by decide : 0 + 0 ≤ _), (by decide : 0 + 0 ≤ _)⟩)
  dsimp only [Pt.U, Pt.locs, Pt.cells, Pt.slots] at X8 l8 y8 z8 st8 hQ8
  subst l8 y8 z8
  obtain ⟨rfl, N8q, e8⟩ := hQ8
  have N8 := Fr.app N7 N8q
  refine Go.st (fun _ k => st8 _ k) ?_
  show Go p e below _ (T8.setTop (mkF m 97 #[.val (.int p0), .val (.int p1), .val (.int (p1 &&& (255 : Int32))), .val (.int ((p1 >>> ((8 : Int32) &&& 31)) &&& (131071 : Int32))), .val (.int (1 : Int32))] [(.int (fRef (p0 ^^^ (32 : Int32)))), (.int (fLetter (p0 ^^^ (32 : Int32))))]))
  refine Go.st (fun _ k => XS.icmpNo X8.here hx rfl (hb hby at_97) rfl (teq (own_same (p0 ^^^ (32 : Int32)))).2 k) ?_
  show Go p e below _ (T8.setTop (mkF m 100 #[.val (.int p0), .val (.int p1), .val (.int (p1 &&& (255 : Int32))), .val (.int ((p1 >>> ((8 : Int32) &&& 31)) &&& (131071 : Int32))), .val (.int (1 : Int32))] []))
  refine Go.st (fun _ k => XS.iconst X8.here hx rfl (hb hby at_100) k) ?_
  show Go p e below _ (T8.setTop (mkF m 101 #[.val (.int p0), .val (.int p1), .val (.int (p1 &&& (255 : Int32))), .val (.int ((p1 >>> ((8 : Int32) &&& 31)) &&& (131071 : Int32))), .val (.int (1 : Int32))] [(.int (1 : Int32))]))
  refine Go.st (fun _ k => XS.goto X8.here hx rfl (pc0 := 101) (pc' := 105) rfl (hb hby at_101) (by decide) (by decide) k) ?_
  show Go p e below _ (T8.setTop (mkF m 105 #[.val (.int p0), .val (.int p1), .val (.int (p1 &&& (255 : Int32))), .val (.int ((p1 >>> ((8 : Int32) &&& 31)) &&& (131071 : Int32))), .val (.int (1 : Int32))] [(.int (1 : Int32))]))
  refine Go.st (fun _ k => XS.istore X8.here hx rfl (hb hby at_105) rfl (l' := #[.val (.int p0), .val (.int p1), .val (.int (p1 &&& (255 : Int32))), .val (.int ((p1 >>> ((8 : Int32) &&& 31)) &&& (131071 : Int32))), .val (.int (1 : Int32))]) rfl k) ?_
  show Go p e below _ (T8.setTop (mkF m 107 #[.val (.int p0), .val (.int p1), .val (.int (p1 &&& (255 : Int32))), .val (.int ((p1 >>> ((8 : Int32) &&& 31)) &&& (131071 : Int32))), .val (.int (1 : Int32))] []))
  refine Go.st (fun _ k => XS.iload X8.here hx rfl (hb hby at_107) rfl k) ?_
  show Go p e below _ (T8.setTop (mkF m 109 #[.val (.int p0), .val (.int p1), .val (.int (p1 &&& (255 : Int32))), .val (.int ((p1 >>> ((8 : Int32) &&& 31)) &&& (131071 : Int32))), .val (.int (1 : Int32))] [(.int (1 : Int32))]))
  obtain ⟨fs, hr, hrun, hended, hW, hsame⟩ := X8.leave (v := some (.int (1 : Int32))) (fun h => by rw [Bd.returns] at h; cases h)
  refine ⟨_, _, retN X8 hx (t := .boolean) Bd.returns (by simp) (hb hby at_109) hr, hrun, hended, _, _, rfl, ?_, ⟨_, rfl⟩, hW, hsame.mono (by decide) (by decide)⟩
  show Q_rm0 Z p0 p1 h0 n0 _ T8.heap _
  rw [e8]
  exact ⟨rfl, N8⟩
set_option maxRecDepth 65536 in
set_option maxHeartbeats 40000000 in
theorem comes_1 {Post : Tables → Env → Array Value → State → Outcome → State → Prop} (hpost : ∀ tb e args s v u, (limb_1_1.after args s (.returned v) u = true ∧ limb_1_2.after args s (.returned v) u = true ∧ True) → FrameEnd s (.returned v) u (Jvm.fieldLocs frame_1_writes args s ++ Jvm.arrayLocs frame_1_arrays args s ++ Jvm.staticLocs frame_1_statics s) 0 0 → Post tb e args s (.returned v) u) :
    ArmFor flags0 classFile x code maxLocals ret World_1 tables_1 room_1 Calls_1 rest_1 Pre_1 Post := by
  intro l hfl _ _ p e ha hc hk s m args below hf hA hF happ hP
  obtain ⟨hcalls, hrest, hpre⟩ := hP
  obtain ⟨-, -, -, hnamed, -, -, -, hat⟩ := (Spec.applies_iff hf).mp happ
  obtain ⟨hg, hn⟩ := and_e (Cond.before_iff.mp (show (Jvm.Cond.and given_1 narrow_1).before args s = true from hpre))
  obtain ⟨g0, gr0⟩ := and_e hg
  obtain ⟨gi0, gr1⟩ := and_e gr0
  have gi1 := gr1
  obtain ⟨w0, w1, rfl⟩ : ∃ w0 w1 : Value, args = #[w0, w1] := by
    have hs : args.size = 2 := by simpa [Cond.value, given_1] using g0
    obtain ⟨L⟩ := args
    match L, hs with
    | [w0, w1], _ => exact ⟨w0, w1, rfl⟩
  have hw := fun d (hd : d ∈ tables_1) => atoms_spec (ws := Jvm.Cond.code x code maxLocals ret :: tables_1) hat d (List.mem_cons_of_mem _ hd)
  obtain ⟨i0, ei0⟩ := is_v gi0
  obtain rfl : w0 = (.int i0) := Option.some.inj ei0
  obtain ⟨i1, ei1⟩ := is_v gi1
  obtain rfl : w1 = (.int i1) := Option.some.inj ei1
  obtain ⟨n, o, h1, h2, h3, _, L, rfl, ⟨rfl, N⟩, hq⟩ := rm0 l s _ hw tables_1 i0 i1  s.heap s.heap.size p e ha hc hk s m _ below hf ((Spec.applies_iff_loose hf).mp happ).1 ⟨rfl, State.Warmed39.refl s, rfl⟩ trivial
  refine ⟨n, _, h1, h2, h3, hpost _ _ _ _ _ _ ⟨Cond.after_iff.mpr rfl, Cond.after_iff.mpr (eq_i res_at (Term.int_eval (1)) rfl), trivial⟩ ⟨hq.1, hq.2.1, (hq.2.2.sift fun y hy => Or.inr (N y hy)).mono (by decide) (by decide)⟩⟩
theorem main_1_1 : Claimed_1_1 := comes_1 fun _ _ _ _ _ _ h hF => ⟨h.1, hF⟩
theorem main_1_2 : Claimed_1_2 := comes_1 fun _ _ _ _ _ _ h hF => ⟨h.2.1, hF⟩
end Jvm.Pilot.@@N@@
namespace Jvm.Pilot.@@N@@
open Jvm Jvm.ClassFile Sem Op Lib Jvm.Free Jvm.Stand Jvm.Pilot.@@N@@.Jvm.D
/-! MADE BY PROGRAM (witnessworld.py) out of the Statement's table words and the real class files: 9 classes; the members and pool entries that the words name. The judged class is class 1, her method 2. -/
namespace start1
open Jvm.ClassFile
def u (s : String) : CpInfo := .utf8 (stringToUtf16 s)
/-- a pool by its gaps: so many unusable entries, then the entry; so many at the end -/
def gap : Nat → List CpInfo → List CpInfo
  | 0, r => r
  | n + 1, r => .unusable :: gap n r
def poolList (es : List (Nat × CpInfo)) (last : Nat) : List CpInfo := es.foldr (fun e r => gap e.1 (e.2 :: r)) (gap last [])
def pool (es : List (Nat × CpInfo)) (last : Nat) : Array CpInfo := ⟨poolList es last⟩
def fileOf (pool : Array CpInfo) (this : Nat) (attrs : Array Attribute := #[]) (ms : Array MethodInfo := #[]) (fl : Nat := 33) (sup : Nat := 0) (ifs : Array Nat := #[]) (fds : Array FieldInfo := #[]) : ClassFile where
  minorVersion := 0
  majorVersion := 65
  constantPool := pool
  accessFlags := fl
  thisClass := this
  superClass := sup
  interfaces := ifs
  fields := fds
  methods := ms
  attributes := attrs
def plain (name : String) (sup : Option ClassId) : Class where
  name := name
  kind := .ordinary
  loader := none
  accessFlags := 33
  super := sup
  interfaces := #[]
  cf := none
  fields := #[]
  methods := #[]
  instanceTypes := #[]
  staticTypes := #[]
  resolved := #[]
  callSites := []
  init := .initialized
  statics := none
  mirror := none

def pool0 : Array CpInfo := pool [(5, u "<init>"), (0, u "()V"), (1, .class_ 10), (1, u "java/lang/Object")] 113

def k0m0 : Method := { name := "<init>", desc := "()V", sig := { parameters := [], returnType := none }, accessFlags := 1, code := none }
/-- java/lang/Object -/
def k0 : Class := { plain "java/lang/Object" none with
  accessFlags := 33
  interfaces := #[]
  cf := some (fileOf pool0 8 #[] #[{ accessFlags := 1, nameIndex := 5, descriptorIndex := 6, attributes := #[] }] 33 0 #[] #[])
  fields := #[]
  methods := #[k0m0]
  instanceTypes := #[]
  staticTypes := #[]
  resolved := Array.replicate 124 none
  statics := none }

def pool1 : Array CpInfo := pool [(2, .class_ 4), (1, u "java/lang/Object"), (0, u "<init>"), (0, u "()V"), (0, .long 97), (1, .long 26), (1, .integer 131071), (0, .methodref 13 14), (0, .class_ 15), (0, .nameAndType 16 17), (0, u "com/example/tokenloom/tokenloom/scanner/Ascii"), (0, u "isLetter"), (0, u "(I)Z"), (0, .methodref 19 20), (0, .class_ 21), (0, .nameAndType 22 17), (0, u "com/example/tokenloom/tokenloom/scanner/AsciiIsLetterPinLaw"), (0, u "reference"), (3, u "law"), (0, u "(II)Z")] 2

def k1m0 : Method := { name := "<init>", desc := "()V", sig := { parameters := [], returnType := none }, accessFlags := 2, code := none }
def k1c1 : Code := { maxStack := 4, maxLocals := 3, code := method_2_code, exceptionTable := #[], attributes := #[] }
def k1m1 : Method := { name := "reference", desc := "(I)Z", sig := { parameters := [.int], returnType := some .boolean }, accessFlags := 10, code := some k1c1 }
def k1c2 : Code := { maxStack := 3, maxLocals := 5, code := code, exceptionTable := #[], attributes := #[] }
def k1m2 : Method := { name := "law", desc := "(II)Z", sig := { parameters := [.int, .int], returnType := some .boolean }, accessFlags := 9, code := some k1c2 }
/-- com/example/tokenloom/tokenloom/scanner/AsciiIsLetterPinLaw -/
def k1 : Class := { plain "com/example/tokenloom/tokenloom/scanner/AsciiIsLetterPinLaw" (some 0) with
  accessFlags := 49
  interfaces := #[]
  cf := some (fileOf pool1 19 #[] #[{ accessFlags := 2, nameIndex := 5, descriptorIndex := 6, attributes := #[] }, { accessFlags := 10, nameIndex := 22, descriptorIndex := 17, attributes := #[] }, { accessFlags := 9, nameIndex := 26, descriptorIndex := 27, attributes := #[] }] 49 2 #[] #[])
  fields := #[]
  methods := #[k1m0, k1m1, k1m2]
  instanceTypes := #[]
  staticTypes := #[]
  resolved := Array.replicate 30 none
  statics := none }

def pool2 : Array CpInfo := pool [(2, .class_ 4), (1, u "java/lang/Object"), (0, u "<init>"), (0, u "()V"), (1, .class_ 10), (1, u "com/example/tokenloom/tokenloom/scanner/Ascii"), (1, u "(I)Z"), (12, u "DIGITS"), (0, u "Lcom/example/tokenloom/tokenloom/scanner/CharClass;"), (3, u "HEX_DIGITS"), (5, u "isLetter")] 22

def k2m0 : Method := { name := "<init>", desc := "()V", sig := { parameters := [], returnType := none }, accessFlags := 2, code := none }
def k2c1 : Code := { maxStack := 2, maxLocals := 1, code := prog_8_method_5_code, exceptionTable := #[], attributes := #[] }
def k2m1 : Method := { name := "isLetter", desc := "(I)Z", sig := { parameters := [.int], returnType := some .boolean }, accessFlags := 9, code := some k2c1 }
/-- com/example/tokenloom/tokenloom/scanner/Ascii -/
def k2 : Class := { plain "com/example/tokenloom/tokenloom/scanner/Ascii" (some 0) with
  accessFlags := 49
  interfaces := #[]
  cf := some (fileOf pool2 8 #[] #[{ accessFlags := 2, nameIndex := 5, descriptorIndex := 6, attributes := #[] }, { accessFlags := 9, nameIndex := 36, descriptorIndex := 12, attributes := #[] }] 49 2 #[] #[{ accessFlags := 25, nameIndex := 25, descriptorIndex := 26, attributes := #[] }, { accessFlags := 25, nameIndex := 30, descriptorIndex := 26, attributes := #[] }])
  fields := #[{ name := "DIGITS", type := (.object "com/example/tokenloom/tokenloom/scanner/CharClass"), accessFlags := 25, slot := 0, constantValue := 0 }, { name := "HEX_DIGITS", type := (.object "com/example/tokenloom/tokenloom/scanner/CharClass"), accessFlags := 25, slot := 1, constantValue := 0 }]
  methods := #[k2m0, k2m1]
  instanceTypes := #[]
  staticTypes := #[(.object "com/example/tokenloom/tokenloom/scanner/CharClass"), (.object "com/example/tokenloom/tokenloom/scanner/CharClass")]
  resolved := Array.replicate 59 none
  statics := none }

def pool3 : Array CpInfo := pool [(1, u "java/lang/Cloneable"), (0, .class_ 1), (0, u "java/lang/Object"), (0, .class_ 3)] 3

/-- java/lang/Cloneable -/
def k3 : Class := { plain "java/lang/Cloneable" (some 0) with
  accessFlags := 1537
  interfaces := #[]
  cf := some (fileOf pool3 2 #[] #[] 1537 4 #[] #[])
  fields := #[]
  methods := #[]
  instanceTypes := #[]
  staticTypes := #[]
  resolved := Array.replicate 8 none
  statics := none }

def pool4 : Array CpInfo := pool [(1, u "java/io/Serializable"), (0, .class_ 1), (0, u "java/lang/Object"), (0, .class_ 3)] 3

/-- java/io/Serializable -/
def k4 : Class := { plain "java/io/Serializable" (some 0) with
  accessFlags := 1537
  interfaces := #[]
  cf := some (fileOf pool4 2 #[] #[] 1537 4 #[] #[])
  fields := #[]
  methods := #[]
  instanceTypes := #[]
  staticTypes := #[]
  resolved := Array.replicate 8 none
  statics := none }

/-- the primitive byte -/
def k5 : Class := { plain "byte" none with kind := .primitive 'B', accessFlags := 0x411 }
/-- [B -/
def k6 : Class := { plain "[B" (some 0) with kind := .array 5 .byte, interfaces := #[3, 4], accessFlags := 1041 }

/-- the primitive int -/
def k7 : Class := { plain "int" none with kind := .primitive 'I', accessFlags := 0x411 }
/-- [I -/
def k8 : Class := { plain "[I" (some 0) with kind := .array 7 .int, interfaces := #[3, 4], accessFlags := 1041 }

def heap : Heap := #[]
def classes : Array Class := #[k0, k1, k2, k3, k4, k5, k6, k7, k8]
def interned : List (Array UInt16 × Addr) := []
def slotsUsed : Nat := 0
def theMethod : MethodId := ⟨1, 2⟩
def args0 : Array Value := #[.int 5, .int 300]
def aboutOver (below : List Frame) : State where
  vm := { classes := classes, interned := interned.toArray }
  heap := heap
  slotsUsed := slotsUsed
  threads := #[{ frames := .invoking theMethod args0 :: below }]
def below0 : List Frame := [.native { method := ⟨0, 0⟩, args := #[] }]
def about1 : State := aboutOver below0
def p0 : Program := .bare "" "" ""
def e0 : Env := launch0.env 0 0 0
theorem w_frames : about1.frames = Frame.invoking theMethod args0 :: below0 := rfl
set_option maxRecDepth 65536 in
theorem w_args : argsFit about1.vm theMethod args0 = true := by decide +kernel
set_option maxRecDepth 65536 in
theorem w_heap : heapFits about1 = true := by decide +kernel
set_option maxRecDepth 65536 in
theorem w_runnable : about1.curStatus? = some .runnable := by decide +kernel
set_option maxRecDepth 65536 in
theorem w_alone : about1.alone = true := by decide +kernel
set_option maxRecDepth 65536 in
theorem w_named : about1.methodNamed? x = some theMethod := by decide +kernel
set_option maxRecDepth 65536 in
theorem w_hears : about1.hears theMethod below0 = true := by decide +kernel
set_option maxRecDepth 65536 in
theorem w_ripe : about1.ripe theMethod args0 below0 = true := by decide +kernel
theorem w_running : about1.status = .running := rfl
set_option maxRecDepth 65536 in
theorem w_room : about1.hasRoom e0.platform room_1 = true :=
  launch0.hasRoom_least _ room_1 (by decide +kernel) (by decide +kernel) (by decide +kernel) (by decide +kernel) (by decide +kernel) (by decide +kernel)
theorem allAtoms_all (ts : List Jvm.Cond) (a : Array Jvm.Value) (st : Jvm.State) : (allAtoms ts).before a st = ts.all (fun c => c.before a st) := by
  induction ts with
  | nil => rfl
  | cons c t ih =>
    show (Jvm.Cond.and c (allAtoms t)).before a st = _
    rw [Jvm.Cond.before_and, ih, List.all_cons]
def words1 : List Jvm.Cond := Jvm.Cond.code x code maxLocals ret :: tables_1
/-- a 'code' word, met by the world's own term for the bytes: nothing is compared byte by byte -/
theorem code_word {y : MethodName} {bytes : ByteArray} {mx : Nat} {rt : Option FieldType} {a : Array Value} {s : State} {m : MethodId} {meth : Method} {c : Code} (h1 : s.methodNamed? y = some m) (h2 : s.vm.method? m = some meth) (h3 : meth.code = some c) (h4 : c.code = bytes)
    (h5 : (c.maxLocals == mx && c.exceptionTable.isEmpty && decide (c.maxStack ≤ mostOperands) && decide (meth.sig.returnType = rt) && !meth.locks && decide (parseMethodDescriptor y.desc = some meth.sig)) = true) : (Jvm.Cond.code y bytes mx rt).before a s = true := by
  simp only [Bool.and_eq_true, beq_iff_eq, Bool.not_eq_true', decide_eq_true_eq] at h5
  obtain ⟨⟨⟨⟨⟨g1, g2⟩, g3⟩, g4⟩, g5⟩, g6⟩ := h5
  simp [Cond.before, Cond.holds, Cond.value, h1, h2, h3, h4, g1, g2, g3, g4, g5, g6]
def isCode : Jvm.Cond → Bool
  | .code _ _ _ _ => true
  | _ => false
theorem all_split {L : List Jvm.Cond} {P : Jvm.Cond → Bool} (h1 : L.all (fun c => isCode c || P c) = true) (h2 : ∀ c ∈ L.filter isCode, P c = true) : L.all P = true := by
  refine List.all_eq_true.mpr fun c hc => ?_
  have h := List.all_eq_true.mp h1 c hc
  rcases Bool.eq_false_or_eq_true (isCode c) with hi | hi
  · exact h2 c (List.mem_filter.mpr ⟨hc, hi⟩)
  · simpa [hi] using h
set_option maxRecDepth 65536 in
theorem w_c0 : (Jvm.Cond.code x code maxLocals ret).before args0 about1 = true := code_word (m := ⟨1, 2⟩) (meth := k1m2) (c := k1c2) (by decide +kernel) rfl rfl rfl (by decide +kernel)
set_option maxRecDepth 65536 in
theorem w_c1 : (Jvm.Cond.code ({ cls := "com/example/tokenloom/tokenloom/scanner/Ascii", name := "isLetter", desc := "(I)Z" } : Jvm.MethodName) prog_8_method_5_code (1 : Nat) (Option.some Jvm.ClassFile.FieldType.boolean)).before args0 about1 = true := code_word (m := ⟨2, 1⟩) (meth := k2m1) (c := k2c1) (by decide +kernel) rfl rfl rfl (by decide +kernel)
set_option maxRecDepth 65536 in
theorem w_c2 : (Jvm.Cond.code ({ cls := "com/example/tokenloom/tokenloom/scanner/AsciiIsLetterPinLaw", name := "reference", desc := "(I)Z" } : Jvm.MethodName) method_2_code (3 : Nat) (Option.some Jvm.ClassFile.FieldType.boolean)).before args0 about1 = true := code_word (m := ⟨1, 1⟩) (meth := k1m1) (c := k1c1) (by decide +kernel) rfl rfl rfl (by decide +kernel)
def codes1 : List Jvm.Cond := [Jvm.Cond.code x code maxLocals ret, Jvm.Cond.code ({ cls := "com/example/tokenloom/tokenloom/scanner/Ascii", name := "isLetter", desc := "(I)Z" } : Jvm.MethodName) prog_8_method_5_code (1 : Nat) (Option.some Jvm.ClassFile.FieldType.boolean), Jvm.Cond.code ({ cls := "com/example/tokenloom/tokenloom/scanner/AsciiIsLetterPinLaw", name := "reference", desc := "(I)Z" } : Jvm.MethodName) method_2_code (3 : Nat) (Option.some Jvm.ClassFile.FieldType.boolean)]
set_option maxRecDepth 65536 in
theorem codes_eq : words1.filter isCode = codes1 := rfl
theorem w_codes : ∀ c ∈ words1.filter isCode, c.before args0 about1 = true := by
  rw [codes_eq]
  intro c hc
  simp only [codes1, List.mem_cons, List.not_mem_nil, or_false] at hc
  rcases hc with rfl | rfl | rfl
  · exact w_c0
  · exact w_c1
  · exact w_c2
set_option maxRecDepth 65536 in
theorem w_t1 : words1.all (fun c => isCode c || c.before args0 about1) = true := by decide +kernel
theorem w_tables : (allAtoms (Jvm.Cond.code x code maxLocals ret :: tables_1)).before args0 about1 = true := by
  rw [allAtoms_all]
  show words1.all (fun c => c.before args0 about1) = true
  refine all_split ?_ w_codes
  rw [w_t1]
set_option maxRecDepth 65536 in
theorem w_case : (Jvm.Cond.and given_1 narrow_1).before args0 about1 = true := by decide +kernel
theorem w_applies : (headSpec (Jvm.Cond.code x code maxLocals ret :: tables_1) room_1).applies x e0.platform about1 = true :=
  (Spec.applies_iff w_frames).mpr ⟨w_running, w_runnable, w_alone, w_named, w_hears, w_ripe, w_room, w_tables⟩
theorem atStart : AtStart classFile x code maxLocals ret World_1 tables_1 room_1 Calls_1 rest_1 Pre_1 launch0 p0 e0 about1 theMethod args0 below0 :=
  ⟨lists_1, trivial, launch0.admits_env _ _ _, launch0.least_env, fairChoices_fair.cas, fairChoices_fair.clock, w_frames, w_args, w_heap, w_applies, trivial, trivial, w_case⟩
end start1
theorem witness_1 : WitnessClaimed_1 := ⟨start1.p0, start1.e0, start1.about1, start1.theMethod, start1.args0, start1.below0, start1.atStart⟩
end Jvm.Pilot.@@N@@
