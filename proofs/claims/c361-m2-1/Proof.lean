import JvmDerived
import JvmDerived.Pilot.@@N@@Statement
import JvmDerived.Pilot.@@N@@Code
set_option linter.unusedVariables false
set_option linter.unusedSimpArgs false
namespace Jvm.RoadKit
open Sem ClassFile Op Lib Jvm.Stand Jvm.Free Jvm.LawKit
section New
variable {p : Program} {l : Launch} {e : Env} {R : Room} {s : State} {m : MethodId} {args : Array Value} {below : List Frame} {meth : Method} {c : Code} {T : State} {locs : List Loc} {cells slots : Nat}
theorem retI (X : Stand p l e R s m args below meth c T locs cells slots) (hx : p.tables.exec = Jvm.exec) {pc : Nat} {Ls : Array Slot} {z : Int32} {rest : List Value} (hret : meth.sig.returnType = some .int) (hd : decode c.code pc = .ok (.ireturn, 1)) {fs : List Frame}
    (hl : ∀ (f : JFrame) (acts : List Action), f.method = m → f.locked = none → f.entered = [] → (doReturn e (T.setTop f) acts (some (.int z))).1 = T.setFrames fs) : Steps p.tables e below (T.setTop (mkF m pc Ls (.int z :: rest))) (T.setFrames fs) := by
  have hm' : T.vm.method? m = some meth := X.method'
  have hn : narrow .int (.int z) = .int z := rfl
  show Steps p.tables e below (T.setTop { method := m, pc := pc, locals := Ls, stack := _ :: rest, locked := none }) _
  jvm_step X.here [X.here.top, hx, hd, hm', hret, hn]
  first | (intro acts; rw [hl _ acts rfl rfl rfl]) | rw [hl _ _ rfl rfl rfl]
  exact Steps.refl _
theorem retJ (X : Stand p l e R s m args below meth c T locs cells slots) (hx : p.tables.exec = Jvm.exec) {pc : Nat} {Ls : Array Slot} {z : Int64} {rest : List Value} (hret : meth.sig.returnType = some .long) (hd : decode c.code pc = .ok (.lreturn, 1)) {fs : List Frame}
    (hl : ∀ (f : JFrame) (acts : List Action), f.method = m → f.locked = none → f.entered = [] → (doReturn e (T.setTop f) acts (some (.long z))).1 = T.setFrames fs) : Steps p.tables e below (T.setTop (mkF m pc Ls (.long z :: rest))) (T.setFrames fs) := by
  have hm' : T.vm.method? m = some meth := X.method'
  have hn : narrow .long (.long z) = .long z := rfl
  show Steps p.tables e below (T.setTop { method := m, pc := pc, locals := Ls, stack := _ :: rest, locked := none }) _
  jvm_step X.here [X.here.top, hx, hd, hm', hret, hn]
  first | (intro acts; rw [hl _ acts rfl rfl rfl]) | rw [hl _ _ rfl rfl rfl]
  exact Steps.refl _
theorem retA (X : Stand p l e R s m args below meth c T locs cells slots) (hx : p.tables.exec = Jvm.exec) {pc : Nat} {Ls : Array Slot} {z : Value} {t : FieldType} {rest : List Value} (hret : meth.sig.returnType = some t) (ht : t.isReference = true) (hz : z.isRef = true) (hd : decode c.code pc = .ok (.areturn, 1)) {fs : List Frame}
    (hl : ∀ (f : JFrame) (acts : List Action), f.method = m → f.locked = none → f.entered = [] → (doReturn e (T.setTop f) acts (some z)).1 = T.setFrames fs) : Steps p.tables e below (T.setTop (mkF m pc Ls (z :: rest))) (T.setFrames fs) := by
  have hm' : T.vm.method? m = some meth := X.method'
  show Steps p.tables e below (T.setTop { method := m, pc := pc, locals := Ls, stack := _ :: rest, locked := none }) _
  jvm_step X.here [X.here.top, hx, hd, hm', hret, ht, hz]
  first | (intro acts; rw [hl _ acts rfl rfl rfl]) | rw [hl _ _ rfl rfl rfl]
  exact Steps.refl _
end New
end Jvm.RoadKit
@@BLOCK:NumsL.lean.txt@@
@@BLOCK:Masks.lean.txt@@
namespace Jvm.Pilot.@@N@@
open Jvm Jvm.ClassFile Sem Op Lib Jvm.Free Jvm.Stand Jvm.LawKit Jvm.RoadKit Bundle Jvm.Pilot.@@N@@.Jvm.D
/-- the run comes from st to an end of which F holds -/
abbrev Go (p : Program) (e : Env) (below : List Frame) (F : Outcome → State → Prop) (st : State) : Prop := ∃ t o, Steps p.tables e below st t ∧ t.status = .running ∧ Ended t below o ∧ F o t
theorem Go.st {p : Program} {e : Env} {below : List Frame} {F : Outcome → State → Prop} {a b : State} (h : ∀ t, Steps p.tables e below b t → Steps p.tables e below a t) (k : Go p e below F b) : Go p e below F a := by
  obtain ⟨t, o, h1, h2⟩ := k
  exact ⟨t, o, h t h1, h2⟩
/-- Java's x % y -/
abbrev jrem (x y : Int32) : Int32 := x - (x / y) * y
abbrev jremL (x y : Int64) : Int64 := x - (x / y) * y
theorem Go.cast {p : Program} {e : Env} {below : List Frame} {F : Outcome → State → Prop} {a b : State} (h : a = b) (k : Go p e below F b) : Go p e below F a := h ▸ k
theorem d1_0 : decode prog_53_method_29_code 0 = .ok (.iload_n 0, 1) := by decide +kernel
theorem d1_1 : decode prog_53_method_29_code 1 = .ok (.bipush 44, 2) := by decide +kernel
theorem d1_3 : decode prog_53_method_29_code 3 = .ok (.if_icmp .gt 31, 3) := by decide +kernel
theorem d1_6 : decode prog_53_method_29_code 6 = .ok (.iload_n 0, 1) := by decide +kernel
theorem d1_7 : decode prog_53_method_29_code 7 = .ok (.bipush 44, 2) := by decide +kernel
theorem d1_9 : decode prog_53_method_29_code 9 = .ok (.if_icmp .eq 21, 3) := by decide +kernel
theorem d1_12 : decode prog_53_method_29_code 12 = .ok (.iload_n 0, 1) := by decide +kernel
theorem d1_13 : decode prog_53_method_29_code 13 = .ok (.bipush 34, 2) := by decide +kernel
theorem d1_15 : decode prog_53_method_29_code 15 = .ok (.if_icmp .eq 15, 3) := by decide +kernel
theorem d1_18 : decode prog_53_method_29_code 18 = .ok (.iload_n 0, 1) := by decide +kernel
theorem d1_19 : decode prog_53_method_29_code 19 = .ok (.bipush 13, 2) := by decide +kernel
theorem d1_21 : decode prog_53_method_29_code 21 = .ok (.if_icmp .eq 9, 3) := by decide +kernel
theorem d1_24 : decode prog_53_method_29_code 24 = .ok (.iload_n 0, 1) := by decide +kernel
theorem d1_25 : decode prog_53_method_29_code 25 = .ok (.bipush 10, 2) := by decide +kernel
theorem d1_27 : decode prog_53_method_29_code 27 = .ok (.if_icmp .ne 7, 3) := by decide +kernel
theorem d1_30 : decode prog_53_method_29_code 30 = .ok (.iconst 1, 1) := by decide +kernel
theorem d1_31 : decode prog_53_method_29_code 31 = .ok (.goto 4, 3) := by decide +kernel
theorem d1_34 : decode prog_53_method_29_code 34 = .ok (.iconst 0, 1) := by decide +kernel
theorem d1_35 : decode prog_53_method_29_code 35 = .ok (.ireturn, 1) := by decide +kernel
theorem pn_1 : plainName "com/example/drollover/drollover/cli/CsvReader" = true := by first | (simp [plainName, overriddenIn]; done) | decide +kernel
theorem ef_rm1 (m : MethodId) (p0 : Int32) : entryFrame m #[(.int p0)] 1 = mkF m 0 #[.val (.int p0)] [] := by first | (simp [entryFrame, mkF, argsToLocals, Value.category]; done) | rfl
def fSpecial (p0 : Int32) : Int32 := if (44 : Int32) < p0 then (0 : Int32) else (if p0 = (44 : Int32) then (1 : Int32) else (if p0 = (34 : Int32) then (1 : Int32) else (if p0 = (13 : Int32) then (1 : Int32) else (if p0 = (10 : Int32) then (1 : Int32) else (0 : Int32)))))
def Q_rm1 (Z : State) (p0 : Int32) (h0 : Heap) (n0 : Nat) (v : Option Value) (h : Heap) (L : List Loc) : Prop := v = some (.int (fSpecial p0)) ∧ Fr n0 L ∧ h = h0
abbrev F_rm1 (Z : State) (p0 : Int32) (h0 : Heap) (n0 : Nat) (s : State) (o : Outcome) (U : State) : Prop := ∃ v L, o = .returned v ∧ Q_rm1 Z p0 h0 n0 v U.heap L ∧ FrameEnd s o U L 0 0
set_option maxRecDepth 65536 in
set_option maxHeartbeats 40000000 in
theorem rm1 (l : Launch) (Z : State) (aZ : Array Value) (hw : ∀ d ∈ tables_1, d.before aZ Z = true) (ws : List Jvm.Cond) (p0 : Int32) (h0 : Heap) (n0 : Nat) :
    MetFree l (⟨"com/example/drollover/drollover/cli/CsvReader", "isSpecial", "(I)Z"⟩ : MethodName) (head1 (Jvm.Cond.code (⟨"com/example/drollover/drollover/cli/CsvReader", "isSpecial", "(I)Z"⟩ : MethodName) prog_53_method_29_code 1 (some .boolean) :: ws) ({ frames := 0, cells := 0, slots := 0, locals := 0 } : Room)) (fun a U => a = #[(.int p0)] ∧ Z.Warmed39 U.vm ∧ U.heap = h0) (fun _ _ _ _ _ => True) (fun _ U o U' => ∃ v L, o = .returned v ∧ Q_rm1 Z p0 h0 n0 v U'.heap L ∧ FrameEnd U o U' L 0 0) := by
  refine MetFree.of_bodySF (plainFor_of_name pn_1) hisR ?_
  intro p e s m args below meth c s₁ Bd hml0 hP hK
  obtain ⟨rfl, hZ, hh⟩ := hP
  have hx := Bd.exec
  have hby := Bd.bytes
  have hml : c.maxLocals = 1 := hml0
  have hown : s.vm.findClass "com/example/drollover/drollover/cli/CsvReader" = some m.cls := findClass_of_methodNamed Bd.named
  have hnm := (name_of_methodNamed Bd.named Bd.method).1
  have X0 : Stand p l e ({ frames := 0, cells := 0, slots := 0, locals := 0 } : Room) s m #[(.int p0)] below meth c s₁ [] 0 0 := Stand.of_body Bd
  have e0 : s₁.heap = h0 := by rw [← hh, Bd.state]; rfl
  have N0 := Fr.nil n0
  refine Go.st (fun _ k => castTop (ef_rm1 m p0) k) ?_
  show Go p e below _ (s₁.setTop (mkF m 0 #[.val (.int p0)] []))
  refine Go.st (fun _ k => XS.iloadN X0.here hx rfl (hb hby d1_0) rfl k) ?_
  show Go p e below _ (s₁.setTop (mkF m 1 #[.val (.int p0)] [(.int p0)]))
  refine Go.st (fun _ k => XS.bipush X0.here hx rfl (hb hby d1_1) k) ?_
  show Go p e below _ (s₁.setTop (mkF m 3 #[.val (.int p0)] [(.int (44 : Int32)), (.int p0)]))
  by_cases hc1 : (44 : Int32) < p0
  · show Go p e below _ (s₁.setTop (mkF m 3 #[.val (.int p0)] [(.int (44 : Int32)), (.int p0)]))
    refine Go.st (fun _ k => XS.icmpYes X0.here hx rfl (pc0 := 3) (pc' := 34) rfl (hb hby d1_3) rfl (tlt hc1).2.2.1 (by decide) (by decide) k) ?_
    show Go p e below _ (s₁.setTop (mkF m 34 #[.val (.int p0)] []))
    refine Go.st (fun _ k => XS.iconst X0.here hx rfl (hb hby d1_34) k) ?_
    show Go p e below _ (s₁.setTop (mkF m 35 #[.val (.int p0)] [(.int (0 : Int32))]))
    obtain ⟨fs, hr, hrun, hended, hW, hsame⟩ := X0.leave (v := some (.int (0 : Int32))) (fun h => by rw [Bd.returns] at h; cases h)
    refine ⟨_, _, retN X0 hx (t := .boolean) Bd.returns (by simp) (hb hby d1_35) hr, hrun, hended, _, _, rfl, ?_, ⟨_, rfl⟩, hW, hsame.mono (by decide) (by decide)⟩
    show Q_rm1 Z p0 h0 n0 _ s₁.heap _
    rw [e0]
    refine ⟨?_, N0, rfl⟩
    unfold fSpecial
    rw [if_pos hc1]
  · show Go p e below _ (s₁.setTop (mkF m 3 #[.val (.int p0)] [(.int (44 : Int32)), (.int p0)]))
    refine Go.st (fun _ k => XS.icmpNo X0.here hx rfl (hb hby d1_3) rfl (flt hc1).2.2.1 k) ?_
    show Go p e below _ (s₁.setTop (mkF m 6 #[.val (.int p0)] []))
    refine Go.st (fun _ k => XS.iloadN X0.here hx rfl (hb hby d1_6) rfl k) ?_
    show Go p e below _ (s₁.setTop (mkF m 7 #[.val (.int p0)] [(.int p0)]))
    refine Go.st (fun _ k => XS.bipush X0.here hx rfl (hb hby d1_7) k) ?_
    show Go p e below _ (s₁.setTop (mkF m 9 #[.val (.int p0)] [(.int (44 : Int32)), (.int p0)]))
    by_cases hc2 : p0 = (44 : Int32)
    · show Go p e below _ (s₁.setTop (mkF m 9 #[.val (.int p0)] [(.int (44 : Int32)), (.int p0)]))
      refine Go.st (fun _ k => XS.icmpYes X0.here hx rfl (pc0 := 9) (pc' := 30) rfl (hb hby d1_9) rfl (teq hc2).1 (by decide) (by decide) k) ?_
      show Go p e below _ (s₁.setTop (mkF m 30 #[.val (.int p0)] []))
      refine Go.st (fun _ k => XS.iconst X0.here hx rfl (hb hby d1_30) k) ?_
      show Go p e below _ (s₁.setTop (mkF m 31 #[.val (.int p0)] [(.int (1 : Int32))]))
      refine Go.st (fun _ k => XS.goto X0.here hx rfl (pc0 := 31) (pc' := 35) rfl (hb hby d1_31) (by decide) (by decide) k) ?_
      show Go p e below _ (s₁.setTop (mkF m 35 #[.val (.int p0)] [(.int (1 : Int32))]))
      obtain ⟨fs, hr, hrun, hended, hW, hsame⟩ := X0.leave (v := some (.int (1 : Int32))) (fun h => by rw [Bd.returns] at h; cases h)
      refine ⟨_, _, retN X0 hx (t := .boolean) Bd.returns (by simp) (hb hby d1_35) hr, hrun, hended, _, _, rfl, ?_, ⟨_, rfl⟩, hW, hsame.mono (by decide) (by decide)⟩
      show Q_rm1 Z p0 h0 n0 _ s₁.heap _
      rw [e0]
      refine ⟨?_, N0, rfl⟩
      unfold fSpecial
      rw [if_neg hc1, if_pos hc2]
    · show Go p e below _ (s₁.setTop (mkF m 9 #[.val (.int p0)] [(.int (44 : Int32)), (.int p0)]))
      refine Go.st (fun _ k => XS.icmpNo X0.here hx rfl (hb hby d1_9) rfl (feq hc2).1 k) ?_
      show Go p e below _ (s₁.setTop (mkF m 12 #[.val (.int p0)] []))
      refine Go.st (fun _ k => XS.iloadN X0.here hx rfl (hb hby d1_12) rfl k) ?_
      show Go p e below _ (s₁.setTop (mkF m 13 #[.val (.int p0)] [(.int p0)]))
      refine Go.st (fun _ k => XS.bipush X0.here hx rfl (hb hby d1_13) k) ?_
      show Go p e below _ (s₁.setTop (mkF m 15 #[.val (.int p0)] [(.int (34 : Int32)), (.int p0)]))
      by_cases hc3 : p0 = (34 : Int32)
      · show Go p e below _ (s₁.setTop (mkF m 15 #[.val (.int p0)] [(.int (34 : Int32)), (.int p0)]))
        refine Go.st (fun _ k => XS.icmpYes X0.here hx rfl (pc0 := 15) (pc' := 30) rfl (hb hby d1_15) rfl (teq hc3).1 (by decide) (by decide) k) ?_
        show Go p e below _ (s₁.setTop (mkF m 30 #[.val (.int p0)] []))
        refine Go.st (fun _ k => XS.iconst X0.here hx rfl (hb hby d1_30) k) ?_
        show Go p e below _ (s₁.setTop (mkF m 31 #[.val (.int p0)] [(.int (1 : Int32))]))
        refine Go.st (fun _ k => XS.goto X0.here hx rfl (pc0 := 31) (pc' := 35) rfl (hb hby d1_31) (by decide) (by decide) k) ?_
        show Go p e below _ (s₁.setTop (mkF m 35 #[.val (.int p0)] [(.int (1 : Int32))]))
        obtain ⟨fs, hr, hrun, hended, hW, hsame⟩ := X0.leave (v := some (.int (1 : Int32))) (fun h => by rw [Bd.returns] at h; cases h)
        refine ⟨_, _, retN X0 hx (t := .boolean) Bd.returns (by simp) (hb hby d1_35) hr, hrun, hended, _, _, rfl, ?_, ⟨_, rfl⟩, hW, hsame.mono (by decide) (by decide)⟩
        show Q_rm1 Z p0 h0 n0 _ s₁.heap _
        rw [e0]
        refine ⟨?_, N0, rfl⟩
        unfold fSpecial
        rw [if_neg hc1, if_neg hc2, if_pos hc3]
      · show Go p e below _ (s₁.setTop (mkF m 15 #[.val (.int p0)] [(.int (34 : Int32)), (.int p0)]))
        refine Go.st (fun _ k => XS.icmpNo X0.here hx rfl (hb hby d1_15) rfl (feq hc3).1 k) ?_
        show Go p e below _ (s₁.setTop (mkF m 18 #[.val (.int p0)] []))
        refine Go.st (fun _ k => XS.iloadN X0.here hx rfl (hb hby d1_18) rfl k) ?_
        show Go p e below _ (s₁.setTop (mkF m 19 #[.val (.int p0)] [(.int p0)]))
        refine Go.st (fun _ k => XS.bipush X0.here hx rfl (hb hby d1_19) k) ?_
        show Go p e below _ (s₁.setTop (mkF m 21 #[.val (.int p0)] [(.int (13 : Int32)), (.int p0)]))
        by_cases hc4 : p0 = (13 : Int32)
        · show Go p e below _ (s₁.setTop (mkF m 21 #[.val (.int p0)] [(.int (13 : Int32)), (.int p0)]))
          refine Go.st (fun _ k => XS.icmpYes X0.here hx rfl (pc0 := 21) (pc' := 30) rfl (hb hby d1_21) rfl (teq hc4).1 (by decide) (by decide) k) ?_
          show Go p e below _ (s₁.setTop (mkF m 30 #[.val (.int p0)] []))
          refine Go.st (fun _ k => XS.iconst X0.here hx rfl (hb hby d1_30) k) ?_
          show Go p e below _ (s₁.setTop (mkF m 31 #[.val (.int p0)] [(.int (1 : Int32))]))
          refine Go.st (fun _ k => XS.goto X0.here hx rfl (pc0 := 31) (pc' := 35) rfl (hb hby d1_31) (by decide) (by decide) k) ?_
          show Go p e below _ (s₁.setTop (mkF m 35 #[.val (.int p0)] [(.int (1 : Int32))]))
          obtain ⟨fs, hr, hrun, hended, hW, hsame⟩ := X0.leave (v := some (.int (1 : Int32))) (fun h => by rw [Bd.returns] at h; cases h)
          refine ⟨_, _, retN X0 hx (t := .boolean) Bd.returns (by simp) (hb hby d1_35) hr, hrun, hended, _, _, rfl, ?_, ⟨_, rfl⟩, hW, hsame.mono (by decide) (by decide)⟩
          show Q_rm1 Z p0 h0 n0 _ s₁.heap _
          rw [e0]
          refine ⟨?_, N0, rfl⟩
          unfold fSpecial
          rw [if_neg hc1, if_neg hc2, if_neg hc3, if_pos hc4]
        · show Go p e below _ (s₁.setTop (mkF m 21 #[.val (.int p0)] [(.int (13 : Int32)), (.int p0)]))
          refine Go.st (fun _ k => XS.icmpNo X0.here hx rfl (hb hby d1_21) rfl (feq hc4).1 k) ?_
          show Go p e below _ (s₁.setTop (mkF m 24 #[.val (.int p0)] []))
          refine Go.st (fun _ k => XS.iloadN X0.here hx rfl (hb hby d1_24) rfl k) ?_
          show Go p e below _ (s₁.setTop (mkF m 25 #[.val (.int p0)] [(.int p0)]))
          refine Go.st (fun _ k => XS.bipush X0.here hx rfl (hb hby d1_25) k) ?_
          show Go p e below _ (s₁.setTop (mkF m 27 #[.val (.int p0)] [(.int (10 : Int32)), (.int p0)]))
          by_cases hc5 : p0 = (10 : Int32)
          · show Go p e below _ (s₁.setTop (mkF m 27 #[.val (.int p0)] [(.int (10 : Int32)), (.int p0)]))
            refine Go.st (fun _ k => XS.icmpNo X0.here hx rfl (hb hby d1_27) rfl (teq hc5).2 k) ?_
            show Go p e below _ (s₁.setTop (mkF m 30 #[.val (.int p0)] []))
            refine Go.st (fun _ k => XS.iconst X0.here hx rfl (hb hby d1_30) k) ?_
            show Go p e below _ (s₁.setTop (mkF m 31 #[.val (.int p0)] [(.int (1 : Int32))]))
            refine Go.st (fun _ k => XS.goto X0.here hx rfl (pc0 := 31) (pc' := 35) rfl (hb hby d1_31) (by decide) (by decide) k) ?_
            show Go p e below _ (s₁.setTop (mkF m 35 #[.val (.int p0)] [(.int (1 : Int32))]))
            obtain ⟨fs, hr, hrun, hended, hW, hsame⟩ := X0.leave (v := some (.int (1 : Int32))) (fun h => by rw [Bd.returns] at h; cases h)
            refine ⟨_, _, retN X0 hx (t := .boolean) Bd.returns (by simp) (hb hby d1_35) hr, hrun, hended, _, _, rfl, ?_, ⟨_, rfl⟩, hW, hsame.mono (by decide) (by decide)⟩
            show Q_rm1 Z p0 h0 n0 _ s₁.heap _
            rw [e0]
            refine ⟨?_, N0, rfl⟩
            unfold fSpecial
            rw [if_neg hc1, if_neg hc2, if_neg hc3, if_neg hc4, if_pos hc5]
          · show Go p e below _ (s₁.setTop (mkF m 27 #[.val (.int p0)] [(.int (10 : Int32)), (.int p0)]))
            refine Go.st (fun _ k => XS.icmpYes X0.here hx rfl (pc0 := 27) (pc' := 34) rfl (hb hby d1_27) rfl (feq hc5).2 (by decide) (by decide) k) ?_
            show Go p e below _ (s₁.setTop (mkF m 34 #[.val (.int p0)] []))
            refine Go.st (fun _ k => XS.iconst X0.here hx rfl (hb hby d1_34) k) ?_
            show Go p e below _ (s₁.setTop (mkF m 35 #[.val (.int p0)] [(.int (0 : Int32))]))
            obtain ⟨fs, hr, hrun, hended, hW, hsame⟩ := X0.leave (v := some (.int (0 : Int32))) (fun h => by rw [Bd.returns] at h; cases h)
            refine ⟨_, _, retN X0 hx (t := .boolean) Bd.returns (by simp) (hb hby d1_35) hr, hrun, hended, _, _, rfl, ?_, ⟨_, rfl⟩, hW, hsame.mono (by decide) (by decide)⟩
            show Q_rm1 Z p0 h0 n0 _ s₁.heap _
            rw [e0]
            refine ⟨?_, N0, rfl⟩
            unfold fSpecial
            rw [if_neg hc1, if_neg hc2, if_neg hc3, if_neg hc4, if_neg hc5]
theorem d2_0 : decode method_2_code 0 = .ok (.iload_n 0, 1) := by decide +kernel
theorem d2_1 : decode method_2_code 1 = .ok (.bipush 10, 2) := by decide +kernel
theorem d2_3 : decode method_2_code 3 = .ok (.if_icmp .ne 5, 3) := by decide +kernel
theorem d2_6 : decode method_2_code 6 = .ok (.iconst 1, 1) := by decide +kernel
theorem d2_7 : decode method_2_code 7 = .ok (.ireturn, 1) := by decide +kernel
theorem d2_8 : decode method_2_code 8 = .ok (.iload_n 0, 1) := by decide +kernel
theorem d2_9 : decode method_2_code 9 = .ok (.bipush 13, 2) := by decide +kernel
theorem d2_11 : decode method_2_code 11 = .ok (.if_icmp .ne 5, 3) := by decide +kernel
theorem d2_14 : decode method_2_code 14 = .ok (.iconst 1, 1) := by decide +kernel
theorem d2_15 : decode method_2_code 15 = .ok (.ireturn, 1) := by decide +kernel
theorem d2_16 : decode method_2_code 16 = .ok (.iload_n 0, 1) := by decide +kernel
theorem d2_17 : decode method_2_code 17 = .ok (.bipush 34, 2) := by decide +kernel
theorem d2_19 : decode method_2_code 19 = .ok (.if_icmp .ne 5, 3) := by decide +kernel
theorem d2_22 : decode method_2_code 22 = .ok (.iconst 1, 1) := by decide +kernel
theorem d2_23 : decode method_2_code 23 = .ok (.ireturn, 1) := by decide +kernel
theorem d2_24 : decode method_2_code 24 = .ok (.iload_n 0, 1) := by decide +kernel
theorem d2_25 : decode method_2_code 25 = .ok (.bipush 44, 2) := by decide +kernel
theorem d2_27 : decode method_2_code 27 = .ok (.if_icmp .ne 5, 3) := by decide +kernel
theorem d2_30 : decode method_2_code 30 = .ok (.iconst 1, 1) := by decide +kernel
theorem d2_31 : decode method_2_code 31 = .ok (.ireturn, 1) := by decide +kernel
theorem d2_32 : decode method_2_code 32 = .ok (.iconst 0, 1) := by decide +kernel
theorem d2_33 : decode method_2_code 33 = .ok (.ireturn, 1) := by decide +kernel
theorem pn_2 : plainName "com/example/drollover/drollover/cli/CsvReaderIsSpecialPinLaw" = true := by first | (simp [plainName, overriddenIn]; done) | decide +kernel
theorem ef_rm2 (m : MethodId) (p0 : Int32) : entryFrame m #[(.int p0)] 1 = mkF m 0 #[.val (.int p0)] [] := by first | (simp [entryFrame, mkF, argsToLocals, Value.category]; done) | rfl
def fExp (p0 : Int32) : Int32 := if p0 = (10 : Int32) then (1 : Int32) else (if p0 = (13 : Int32) then (1 : Int32) else (if p0 = (34 : Int32) then (1 : Int32) else (if p0 = (44 : Int32) then (1 : Int32) else (0 : Int32))))
def Q_rm2 (Z : State) (p0 : Int32) (h0 : Heap) (n0 : Nat) (v : Option Value) (h : Heap) (L : List Loc) : Prop := v = some (.int (fExp p0)) ∧ Fr n0 L ∧ h = h0
abbrev F_rm2 (Z : State) (p0 : Int32) (h0 : Heap) (n0 : Nat) (s : State) (o : Outcome) (U : State) : Prop := ∃ v L, o = .returned v ∧ Q_rm2 Z p0 h0 n0 v U.heap L ∧ FrameEnd s o U L 0 0
set_option maxRecDepth 65536 in
set_option maxHeartbeats 40000000 in
theorem rm2 (l : Launch) (Z : State) (aZ : Array Value) (hw : ∀ d ∈ tables_1, d.before aZ Z = true) (ws : List Jvm.Cond) (p0 : Int32) (h0 : Heap) (n0 : Nat) :
    MetFree l (⟨"com/example/drollover/drollover/cli/CsvReaderIsSpecialPinLaw", "expected", "(I)Z"⟩ : MethodName) (head1 (Jvm.Cond.code (⟨"com/example/drollover/drollover/cli/CsvReaderIsSpecialPinLaw", "expected", "(I)Z"⟩ : MethodName) method_2_code 1 (some .boolean) :: ws) ({ frames := 0, cells := 0, slots := 0, locals := 0 } : Room)) (fun a U => a = #[(.int p0)] ∧ Z.Warmed39 U.vm ∧ U.heap = h0) (fun _ _ _ _ _ => True) (fun _ U o U' => ∃ v L, o = .returned v ∧ Q_rm2 Z p0 h0 n0 v U'.heap L ∧ FrameEnd U o U' L 0 0) := by
  refine MetFree.of_bodySF (plainFor_of_name pn_2) hisR ?_
  intro p e s m args below meth c s₁ Bd hml0 hP hK
  obtain ⟨rfl, hZ, hh⟩ := hP
  have hx := Bd.exec
  have hby := Bd.bytes
  have hml : c.maxLocals = 1 := hml0
  have hown : s.vm.findClass "com/example/drollover/drollover/cli/CsvReaderIsSpecialPinLaw" = some m.cls := findClass_of_methodNamed Bd.named
  have hnm := (name_of_methodNamed Bd.named Bd.method).1
  have X0 : Stand p l e ({ frames := 0, cells := 0, slots := 0, locals := 0 } : Room) s m #[(.int p0)] below meth c s₁ [] 0 0 := Stand.of_body Bd
  have e0 : s₁.heap = h0 := by rw [← hh, Bd.state]; rfl
  have N0 := Fr.nil n0
  refine Go.st (fun _ k => castTop (ef_rm2 m p0) k) ?_
  show Go p e below _ (s₁.setTop (mkF m 0 #[.val (.int p0)] []))
  refine Go.st (fun _ k => XS.iloadN X0.here hx rfl (hb hby d2_0) rfl k) ?_
  show Go p e below _ (s₁.setTop (mkF m 1 #[.val (.int p0)] [(.int p0)]))
  refine Go.st (fun _ k => XS.bipush X0.here hx rfl (hb hby d2_1) k) ?_
  show Go p e below _ (s₁.setTop (mkF m 3 #[.val (.int p0)] [(.int (10 : Int32)), (.int p0)]))
  by_cases hc1 : p0 = (10 : Int32)
  · show Go p e below _ (s₁.setTop (mkF m 3 #[.val (.int p0)] [(.int (10 : Int32)), (.int p0)]))
    refine Go.st (fun _ k => XS.icmpNo X0.here hx rfl (hb hby d2_3) rfl (teq hc1).2 k) ?_
    show Go p e below _ (s₁.setTop (mkF m 6 #[.val (.int p0)] []))
    refine Go.st (fun _ k => XS.iconst X0.here hx rfl (hb hby d2_6) k) ?_
    show Go p e below _ (s₁.setTop (mkF m 7 #[.val (.int p0)] [(.int (1 : Int32))]))
    obtain ⟨fs, hr, hrun, hended, hW, hsame⟩ := X0.leave (v := some (.int (1 : Int32))) (fun h => by rw [Bd.returns] at h; cases h)
    refine ⟨_, _, retN X0 hx (t := .boolean) Bd.returns (by simp) (hb hby d2_7) hr, hrun, hended, _, _, rfl, ?_, ⟨_, rfl⟩, hW, hsame.mono (by decide) (by decide)⟩
    show Q_rm2 Z p0 h0 n0 _ s₁.heap _
    rw [e0]
    refine ⟨?_, N0, rfl⟩
    unfold fExp
    rw [if_pos hc1]
  · show Go p e below _ (s₁.setTop (mkF m 3 #[.val (.int p0)] [(.int (10 : Int32)), (.int p0)]))
    refine Go.st (fun _ k => XS.icmpYes X0.here hx rfl (pc0 := 3) (pc' := 8) rfl (hb hby d2_3) rfl (feq hc1).2 (by decide) (by decide) k) ?_
    show Go p e below _ (s₁.setTop (mkF m 8 #[.val (.int p0)] []))
    refine Go.st (fun _ k => XS.iloadN X0.here hx rfl (hb hby d2_8) rfl k) ?_
    show Go p e below _ (s₁.setTop (mkF m 9 #[.val (.int p0)] [(.int p0)]))
    refine Go.st (fun _ k => XS.bipush X0.here hx rfl (hb hby d2_9) k) ?_
    show Go p e below _ (s₁.setTop (mkF m 11 #[.val (.int p0)] [(.int (13 : Int32)), (.int p0)]))
    by_cases hc2 : p0 = (13 : Int32)
    · show Go p e below _ (s₁.setTop (mkF m 11 #[.val (.int p0)] [(.int (13 : Int32)), (.int p0)]))
      refine Go.st (fun _ k => XS.icmpNo X0.here hx rfl (hb hby d2_11) rfl (teq hc2).2 k) ?_
      show Go p e below _ (s₁.setTop (mkF m 14 #[.val (.int p0)] []))
      refine Go.st (fun _ k => XS.iconst X0.here hx rfl (hb hby d2_14) k) ?_
      show Go p e below _ (s₁.setTop (mkF m 15 #[.val (.int p0)] [(.int (1 : Int32))]))
      obtain ⟨fs, hr, hrun, hended, hW, hsame⟩ := X0.leave (v := some (.int (1 : Int32))) (fun h => by rw [Bd.returns] at h; cases h)
      refine ⟨_, _, retN X0 hx (t := .boolean) Bd.returns (by simp) (hb hby d2_15) hr, hrun, hended, _, _, rfl, ?_, ⟨_, rfl⟩, hW, hsame.mono (by decide) (by decide)⟩
      show Q_rm2 Z p0 h0 n0 _ s₁.heap _
      rw [e0]
      refine ⟨?_, N0, rfl⟩
      unfold fExp
      rw [if_neg hc1, if_pos hc2]
    · show Go p e below _ (s₁.setTop (mkF m 11 #[.val (.int p0)] [(.int (13 : Int32)), (.int p0)]))
      refine Go.st (fun _ k => XS.icmpYes X0.here hx rfl (pc0 := 11) (pc' := 16) rfl (hb hby d2_11) rfl (feq hc2).2 (by decide) (by decide) k) ?_
      show Go p e below _ (s₁.setTop (mkF m 16 #[.val (.int p0)] []))
      refine Go.st (fun _ k => XS.iloadN X0.here hx rfl (hb hby d2_16) rfl k) ?_
      show Go p e below _ (s₁.setTop (mkF m 17 #[.val (.int p0)] [(.int p0)]))
      refine Go.st (fun _ k => XS.bipush X0.here hx rfl (hb hby d2_17) k) ?_
      show Go p e below _ (s₁.setTop (mkF m 19 #[.val (.int p0)] [(.int (34 : Int32)), (.int p0)]))
      by_cases hc3 : p0 = (34 : Int32)
      · show Go p e below _ (s₁.setTop (mkF m 19 #[.val (.int p0)] [(.int (34 : Int32)), (.int p0)]))
        refine Go.st (fun _ k => XS.icmpNo X0.here hx rfl (hb hby d2_19) rfl (teq hc3).2 k) ?_
        show Go p e below _ (s₁.setTop (mkF m 22 #[.val (.int p0)] []))
        refine Go.st (fun _ k => XS.iconst X0.here hx rfl (hb hby d2_22) k) ?_
        show Go p e below _ (s₁.setTop (mkF m 23 #[.val (.int p0)] [(.int (1 : Int32))]))
        obtain ⟨fs, hr, hrun, hended, hW, hsame⟩ := X0.leave (v := some (.int (1 : Int32))) (fun h => by rw [Bd.returns] at h; cases h)
        refine ⟨_, _, retN X0 hx (t := .boolean) Bd.returns (by simp) (hb hby d2_23) hr, hrun, hended, _, _, rfl, ?_, ⟨_, rfl⟩, hW, hsame.mono (by decide) (by decide)⟩
        show Q_rm2 Z p0 h0 n0 _ s₁.heap _
        rw [e0]
        refine ⟨?_, N0, rfl⟩
        unfold fExp
        rw [if_neg hc1, if_neg hc2, if_pos hc3]
      · show Go p e below _ (s₁.setTop (mkF m 19 #[.val (.int p0)] [(.int (34 : Int32)), (.int p0)]))
        refine Go.st (fun _ k => XS.icmpYes X0.here hx rfl (pc0 := 19) (pc' := 24) rfl (hb hby d2_19) rfl (feq hc3).2 (by decide) (by decide) k) ?_
        show Go p e below _ (s₁.setTop (mkF m 24 #[.val (.int p0)] []))
        refine Go.st (fun _ k => XS.iloadN X0.here hx rfl (hb hby d2_24) rfl k) ?_
        show Go p e below _ (s₁.setTop (mkF m 25 #[.val (.int p0)] [(.int p0)]))
        refine Go.st (fun _ k => XS.bipush X0.here hx rfl (hb hby d2_25) k) ?_
        show Go p e below _ (s₁.setTop (mkF m 27 #[.val (.int p0)] [(.int (44 : Int32)), (.int p0)]))
        by_cases hc4 : p0 = (44 : Int32)
        · show Go p e below _ (s₁.setTop (mkF m 27 #[.val (.int p0)] [(.int (44 : Int32)), (.int p0)]))
          refine Go.st (fun _ k => XS.icmpNo X0.here hx rfl (hb hby d2_27) rfl (teq hc4).2 k) ?_
          show Go p e below _ (s₁.setTop (mkF m 30 #[.val (.int p0)] []))
          refine Go.st (fun _ k => XS.iconst X0.here hx rfl (hb hby d2_30) k) ?_
          show Go p e below _ (s₁.setTop (mkF m 31 #[.val (.int p0)] [(.int (1 : Int32))]))
          obtain ⟨fs, hr, hrun, hended, hW, hsame⟩ := X0.leave (v := some (.int (1 : Int32))) (fun h => by rw [Bd.returns] at h; cases h)
          refine ⟨_, _, retN X0 hx (t := .boolean) Bd.returns (by simp) (hb hby d2_31) hr, hrun, hended, _, _, rfl, ?_, ⟨_, rfl⟩, hW, hsame.mono (by decide) (by decide)⟩
          show Q_rm2 Z p0 h0 n0 _ s₁.heap _
          rw [e0]
          refine ⟨?_, N0, rfl⟩
          unfold fExp
          rw [if_neg hc1, if_neg hc2, if_neg hc3, if_pos hc4]
        · show Go p e below _ (s₁.setTop (mkF m 27 #[.val (.int p0)] [(.int (44 : Int32)), (.int p0)]))
          refine Go.st (fun _ k => XS.icmpYes X0.here hx rfl (pc0 := 27) (pc' := 32) rfl (hb hby d2_27) rfl (feq hc4).2 (by decide) (by decide) k) ?_
          show Go p e below _ (s₁.setTop (mkF m 32 #[.val (.int p0)] []))
          refine Go.st (fun _ k => XS.iconst X0.here hx rfl (hb hby d2_32) k) ?_
          show Go p e below _ (s₁.setTop (mkF m 33 #[.val (.int p0)] [(.int (0 : Int32))]))
          obtain ⟨fs, hr, hrun, hended, hW, hsame⟩ := X0.leave (v := some (.int (0 : Int32))) (fun h => by rw [Bd.returns] at h; cases h)
          refine ⟨_, _, retN X0 hx (t := .boolean) Bd.returns (by simp) (hb hby d2_33) hr, hrun, hended, _, _, rfl, ?_, ⟨_, rfl⟩, hW, hsame.mono (by decide) (by decide)⟩
          show Q_rm2 Z p0 h0 n0 _ s₁.heap _
          rw [e0]
          refine ⟨?_, N0, rfl⟩
          unfold fExp
          rw [if_neg hc1, if_neg hc2, if_neg hc3, if_neg hc4]
theorem own_same (c : Int32) : fSpecial c = fExp c := by
  unfold fSpecial fExp
  by_cases h10 : c = (10 : Int32)
  · subst h10; decide +kernel
  by_cases h13 : c = (13 : Int32)
  · subst h13; decide +kernel
  by_cases h34 : c = (34 : Int32)
  · subst h34; decide +kernel
  by_cases h44 : c = (44 : Int32)
  · subst h44; decide +kernel
  simp [h10, h13, h34, h44]
theorem own_high (c : Int32) : fSpecial ((c ||| (128 : Int32)).toInt8.toInt32) = 0 := by
  have hneg : ((c ||| (128 : Int32)).toInt8.toInt32).toInt < 0 := by
    rw [Int8.toInt_toInt32]
    show ((c ||| (128 : Int32)).toInt8.toBitVec).toInt < 0
    apply BitVec.toInt_neg_of_msb_true
    rw [Int32.toBitVec_toInt8, Int32.toBitVec_or]
    simp [BitVec.msb_eq_getLsbD_last]
  generalize ((c ||| (128 : Int32)).toInt8.toInt32) = y at hneg
  unfold fSpecial
  have ne : ∀ k : Int32, 0 ≤ k.toInt → ¬ y = k := fun k hk e => by subst e; omega
  rw [if_neg, if_neg (ne 44 (by decide)), if_neg (ne 34 (by decide)), if_neg (ne 13 (by decide)), if_neg (ne 10 (by decide))]
  rw [Int32.lt_iff_toInt_lt]
  have : (44 : Int32).toInt = 44 := by decide
  omega
theorem own_and3 (k : Int32) : (k &&& (3 : Int32)) = 0 ∨ (k &&& (3 : Int32)) = 1 ∨ (k &&& (3 : Int32)) = 2 ∨ (k &&& (3 : Int32)) = 3 := by
  have e := Jvm.Kit.i32_mask k 3 (k := 2) (by decide) (by decide)
  have c : ∀ z : Int32, (k &&& (3 : Int32)).toInt = z.toInt → (k &&& (3 : Int32)) = z := fun z h => Int32.toInt_inj.mp h
  have e0 : (0 : Int32).toInt = 0 := by decide
  have e1 : (1 : Int32).toInt = 1 := by decide
  have e2 : (2 : Int32).toInt = 2 := by decide
  have e3 : (3 : Int32).toInt = 3 := by decide
  have : (k &&& (3 : Int32)).toInt = 0 ∨ (k &&& (3 : Int32)).toInt = 1 ∨ (k &&& (3 : Int32)).toInt = 2 ∨ (k &&& (3 : Int32)).toInt = 3 := by omega
  rcases this with h | h | h | h
  · exact Or.inl (c 0 (by rw [h, e0]))
  · exact Or.inr (Or.inl (c 1 (by rw [h, e1])))
  · exact Or.inr (Or.inr (Or.inl (c 2 (by rw [h, e2]))))
  · exact Or.inr (Or.inr (Or.inr (c 3 (by rw [h, e3]))))

theorem pn_0 : plainName "com/example/drollover/drollover/cli/CsvReaderIsSpecialPinLaw" = true := by first | (simp [plainName, overriddenIn]; done) | decide +kernel
theorem pd56f531e : parseMethodDescriptor "(I)Z" = some ⟨[.int], some .boolean⟩ := by decide +kernel
theorem ef_rm0 (m : MethodId) (p0 : Int32) (p1 : Int32) : entryFrame m #[(.int p0), (.int p1)] maxLocals = mkF m 0 #[.val (.int p0), .val (.int p1), .unset, .unset, .unset, .unset] [] := by first | (simp [entryFrame, mkF, argsToLocals, Value.category, maxLocals]; done) | rfl
def Q_rm0 (Z : State) (p0 : Int32) (p1 : Int32) (h0 : Heap) (n0 : Nat) (v : Option Value) (h : Heap) (L : List Loc) : Prop := v = some (.int 1) ∧ Fr n0 L
abbrev F_rm0 (Z : State) (p0 : Int32) (p1 : Int32) (h0 : Heap) (n0 : Nat) (s : State) (o : Outcome) (U : State) : Prop := ∃ v L, o = .returned v ∧ Q_rm0 Z p0 p1 h0 n0 v U.heap L ∧ FrameEnd s o U L room_1.cells room_1.slots
set_option maxRecDepth 65536 in
set_option maxHeartbeats 40000000 in
theorem rm0 (l : Launch) (Z : State) (aZ : Array Value) (hw : ∀ d ∈ tables_1, d.before aZ Z = true) (ws : List Jvm.Cond) (p0 : Int32) (p1 : Int32) (h0 : Heap) (n0 : Nat) (Z0 : n0 ≤ h0.size) :
    MetFree l x (head1 (Jvm.Cond.code x code maxLocals ret :: ws) room_1) (fun a U => a = #[(.int p0), (.int p1)] ∧ Z.Warmed39 U.vm ∧ U.heap = h0) (fun _ _ _ _ _ => True) (fun _ U o U' => ∃ v L, o = .returned v ∧ Q_rm0 Z p0 p1 h0 n0 v U'.heap L ∧ FrameEnd U o U' L room_1.cells room_1.slots) := by
  refine MetFree.of_bodySF (plainFor_of_name pn_0) hisR ?_
  intro p e s m args below meth c s₁ Bd hml0 hP hK
  obtain ⟨rfl, hZ, hh⟩ := hP
  have hx := Bd.exec
  have hby := Bd.bytes
  have hml : c.maxLocals = 6 := hml0
  have hown : s.vm.findClass "com/example/drollover/drollover/cli/CsvReaderIsSpecialPinLaw" = some m.cls := findClass_of_methodNamed Bd.named
  have hnm := (name_of_methodNamed Bd.named Bd.method).1
  have X0 : Stand p l e room_1 s m #[(.int p0), (.int p1)] below meth c s₁ [] 0 0 := Stand.of_body Bd
  have e0 : s₁.heap = h0 := by rw [← hh, Bd.state]; rfl
  have N0 := Fr.nil n0
  refine Go.st (fun _ k => castTop (ef_rm0 m p0 p1) k) ?_
  show Go p e below _ (s₁.setTop (mkF m 0 #[.val (.int p0), .val (.int p1), .unset, .unset, .unset, .unset] []))
  refine Go.st (fun _ k => XS.iloadN X0.here hx rfl (hb hby at_0) rfl k) ?_
  show Go p e below _ (s₁.setTop (mkF m 1 #[.val (.int p0), .val (.int p1), .unset, .unset, .unset, .unset] [(.int p0)]))
  obtain ⟨_, _, ⟨T1, L1, k1, n1⟩, -, X1, ⟨Lc1, hQ1, l1, y1, z1⟩, st1⟩ := Jvm.LawKit.callS X0 hx (y := (⟨"com/example/drollover/drollover/cli/CsvReader", "isSpecial", "(I)Z"⟩ : MethodName)) hown (mvT hZ (hw _ (List.mem_of_getElem? (i := 0) rfl))) (mvT hZ (hw _ (List.mem_of_getElem? (i := 1) rfl))) (mvT hZ (hw _ (List.mem_of_getElem? (i := 2) rfl))) (mvT hZ (hw _ (List.mem_of_getElem? (i := 3) rfl))) (by decide) (backOf (W := 0) (rm1 l Z aZ hw [] p0 h0 n0 ) hZ (hw _ (List.mem_of_getElem? (i := 3) rfl)) (hw _ (List.mem_of_getElem? (i := 2) rfl)) (by decide) (by decide)) (g := (mkF m 1 #[.val (.int p0), .val (.int p1), .unset, .unset, .unset, .unset] [(.int p0)])) rfl (by rw [hml]; rfl) (argsL := [(.int p0)]) (rest := []) (lenOf pd56f531e rfl) rfl (by show 2 * 0 + _ ≤ _; exact Nat.le_of_eq rfl) (hb hby at_1) (fun _ _ => ⟨rfl, e0, (by decide : 0 + 0 ≤ _), (by decide : 0 + 0 ≤ _)⟩)
  dsimp only [Pt.U, Pt.locs, Pt.cells, Pt.slots] at X1 l1 y1 z1 st1 hQ1
  subst l1 y1 z1
  obtain ⟨rfl, N1q, e1⟩ := hQ1
  have N1 := Fr.app N0 N1q
  refine Go.st (fun _ k => st1 _ k) ?_
  show Go p e below _ (T1.setTop (mkF m 4 #[.val (.int p0), .val (.int p1), .unset, .unset, .unset, .unset] [(.int (fSpecial p0))]))
  refine Go.st (fun _ k => XS.iloadN X1.here hx rfl (hb hby at_4) rfl k) ?_
  show Go p e below _ (T1.setTop (mkF m 5 #[.val (.int p0), .val (.int p1), .unset, .unset, .unset, .unset] [(.int p0), (.int (fSpecial p0))]))
  obtain ⟨_, _, ⟨T2, L2, k2, n2⟩, -, X2, ⟨Lc2, hQ2, l2, y2, z2⟩, st2⟩ := Jvm.LawKit.callS X1 hx (y := (⟨"com/example/drollover/drollover/cli/CsvReaderIsSpecialPinLaw", "expected", "(I)Z"⟩ : MethodName)) hown (mvT hZ (hw _ (List.mem_of_getElem? (i := 4) rfl))) (mvT hZ (hw _ (List.mem_of_getElem? (i := 5) rfl))) (mvT hZ (hw _ (List.mem_of_getElem? (i := 6) rfl))) (mvT hZ (hw _ (List.mem_of_getElem? (i := 7) rfl))) (by decide) (backOf (W := 1) (rm2 l Z aZ hw [] p0 h0 n0 ) hZ (hw _ (List.mem_of_getElem? (i := 7) rfl)) (hw _ (List.mem_of_getElem? (i := 6) rfl)) (by decide) (by decide)) (g := (mkF m 5 #[.val (.int p0), .val (.int p1), .unset, .unset, .unset, .unset] [(.int p0), (.int (fSpecial p0))])) rfl (by rw [hml]; rfl) (argsL := [(.int p0)]) (rest := [(.int (fSpecial p0))]) (lenOf pd56f531e rfl) rfl (by show 2 * 0 + _ ≤ _; exact Nat.le_of_eq rfl) (hb hby at_5) (fun _ _ => ⟨rfl, e1, (by decide : 0 + 0 ≤ _), (by decide : 0 + 0 ≤ _)⟩)
  dsimp only [Pt.U, Pt.locs, Pt.cells, Pt.slots] at X2 l2 y2 z2 st2 hQ2
  subst l2 y2 z2
  obtain ⟨rfl, N2q, e2⟩ := hQ2
  have N2 := Fr.app N1 N2q
  refine Go.st (fun _ k => st2 _ k) ?_
  show Go p e below _ (T2.setTop (mkF m 8 #[.val (.int p0), .val (.int p1), .unset, .unset, .unset, .unset] [(.int (fExp p0)), (.int (fSpecial p0))]))
  refine Go.st (fun _ k => XS.icmpYes X2.here hx rfl (pc0 := 8) (pc' := 13) rfl (hb hby at_8) rfl (teq (own_same p0)).1 (by decide) (by decide) k) ?_
  show Go p e below _ (T2.setTop (mkF m 13 #[.val (.int p0), .val (.int p1), .unset, .unset, .unset, .unset] []))
  refine Go.st (fun _ k => XS.iloadN X2.here hx rfl (hb hby at_13) rfl k) ?_
  show Go p e below _ (T2.setTop (mkF m 14 #[.val (.int p0), .val (.int p1), .unset, .unset, .unset, .unset] [(.int p0)]))
  refine Go.st (fun _ k => XS.i2b X2.here hx rfl (hb hby at_14) rfl k) ?_
  show Go p e below _ (T2.setTop (mkF m 15 #[.val (.int p0), .val (.int p1), .unset, .unset, .unset, .unset] [(.int (p0.toInt8.toInt32))]))
  refine Go.st (fun _ k => XS.istoreN X2.here hx rfl (hb hby at_15) rfl (l' := #[.val (.int p0), .val (.int p1), .val (.int (p0.toInt8.toInt32)), .unset, .unset, .unset]) rfl k) ?_
  show Go p e below _ (T2.setTop (mkF m 16 #[.val (.int p0), .val (.int p1), .val (.int (p0.toInt8.toInt32)), .unset, .unset, .unset] []))
  refine Go.st (fun _ k => XS.iloadN X2.here hx rfl (hb hby at_16) rfl k) ?_
  show Go p e below _ (T2.setTop (mkF m 17 #[.val (.int p0), .val (.int p1), .val (.int (p0.toInt8.toInt32)), .unset, .unset, .unset] [(.int (p0.toInt8.toInt32))]))
  obtain ⟨_, _, ⟨T3, L3, k3, n3⟩, -, X3, ⟨Lc3, hQ3, l3, y3, z3⟩, st3⟩ := Jvm.LawKit.callS X2 hx (y := (⟨"com/example/drollover/drollover/cli/CsvReader", "isSpecial", "(I)Z"⟩ : MethodName)) hown (mvT hZ (hw _ (List.mem_of_getElem? (i := 0) rfl))) (mvT hZ (hw _ (List.mem_of_getElem? (i := 1) rfl))) (mvT hZ (hw _ (List.mem_of_getElem? (i := 2) rfl))) (mvT hZ (hw _ (List.mem_of_getElem? (i := 3) rfl))) (by decide) (backOf (W := 0) (rm1 l Z aZ hw [] (p0.toInt8.toInt32) h0 n0 ) hZ (hw _ (List.mem_of_getElem? (i := 3) rfl)) (hw _ (List.mem_of_getElem? (i := 2) rfl)) (by decide) (by decide)) (g := (mkF m 17 #[.val (.int p0), .val (.int p1), .val (.int (p0.toInt8.toInt32)), .unset, .unset, .unset] [(.int (p0.toInt8.toInt32))])) rfl (by rw [hml]; rfl) (argsL := [(.int (p0.toInt8.toInt32))]) (rest := []) (lenOf pd56f531e rfl) rfl (by show 2 * 0 + _ ≤ _; exact Nat.le_of_eq rfl) (hb hby at_17) (fun _ _ => ⟨rfl, e2, (by decide : 0 + 0 ≤ _), (by decide : 0 + 0 ≤ _)⟩)
  dsimp only [Pt.U, Pt.locs, Pt.cells, Pt.slots] at X3 l3 y3 z3 st3 hQ3
  subst l3 y3 z3
  obtain ⟨rfl, N3q, e3⟩ := hQ3
  have N3 := Fr.app N2 N3q
  refine Go.st (fun _ k => st3 _ k) ?_
  show Go p e below _ (T3.setTop (mkF m 20 #[.val (.int p0), .val (.int p1), .val (.int (p0.toInt8.toInt32)), .unset, .unset, .unset] [(.int (fSpecial (p0.toInt8.toInt32)))]))
  refine Go.st (fun _ k => XS.iloadN X3.here hx rfl (hb hby at_20) rfl k) ?_
  show Go p e below _ (T3.setTop (mkF m 21 #[.val (.int p0), .val (.int p1), .val (.int (p0.toInt8.toInt32)), .unset, .unset, .unset] [(.int (p0.toInt8.toInt32)), (.int (fSpecial (p0.toInt8.toInt32)))]))
  obtain ⟨_, _, ⟨T4, L4, k4, n4⟩, -, X4, ⟨Lc4, hQ4, l4, y4, z4⟩, st4⟩ := Jvm.LawKit.callS X3 hx (y := (⟨"com/example/drollover/drollover/cli/CsvReaderIsSpecialPinLaw", "expected", "(I)Z"⟩ : MethodName)) hown (mvT hZ (hw _ (List.mem_of_getElem? (i := 4) rfl))) (mvT hZ (hw _ (List.mem_of_getElem? (i := 5) rfl))) (mvT hZ (hw _ (List.mem_of_getElem? (i := 6) rfl))) (mvT hZ (hw _ (List.mem_of_getElem? (i := 7) rfl))) (by decide) (backOf (W := 1) (rm2 l Z aZ hw [] (p0.toInt8.toInt32) h0 n0 ) hZ (hw _ (List.mem_of_getElem? (i := 7) rfl)) (hw _ (List.mem_of_getElem? (i := 6) rfl)) (by decide) (by decide)) (g := (mkF m 21 #[.val (.int p0), .val (.int p1), .val (.int (p0.toInt8.toInt32)), .unset, .unset, .unset] [(.int (p0.toInt8.toInt32)), (.int (fSpecial (p0.toInt8.toInt32)))])) rfl (by rw [hml]; rfl) (argsL := [(.int (p0.toInt8.toInt32))]) (rest := [(.int (fSpecial (p0.toInt8.toInt32)))]) (lenOf pd56f531e rfl) rfl (by show 2 * 0 + _ ≤ _; exact Nat.le_of_eq rfl) (hb hby at_21) (fun _ _ => ⟨rfl, e3, (by decide : 0 + 0 ≤ _), (by decide : 0 + 0 ≤ _)⟩)
  dsimp only [Pt.U, Pt.locs, Pt.cells, Pt.slots] at X4 l4 y4 z4 st4 hQ4
  subst l4 y4 z4
  obtain ⟨rfl, N4q, e4⟩ := hQ4
  have N4 := Fr.app N3 N4q
  refine Go.st (fun _ k => st4 _ k) ?_
  show Go p e below _ (T4.setTop (mkF m 24 #[.val (.int p0), .val (.int p1), .val (.int (p0.toInt8.toInt32)), .unset, .unset, .unset] [(.int (fExp (p0.toInt8.toInt32))), (.int (fSpecial (p0.toInt8.toInt32)))]))
  refine Go.st (fun _ k => XS.icmpYes X4.here hx rfl (pc0 := 24) (pc' := 29) rfl (hb hby at_24) rfl (teq (own_same (p0.toInt8.toInt32))).1 (by decide) (by decide) k) ?_
  show Go p e below _ (T4.setTop (mkF m 29 #[.val (.int p0), .val (.int p1), .val (.int (p0.toInt8.toInt32)), .unset, .unset, .unset] []))
  refine Go.st (fun _ k => XS.iloadN X4.here hx rfl (hb hby at_29) rfl k) ?_
  show Go p e below _ (T4.setTop (mkF m 30 #[.val (.int p0), .val (.int p1), .val (.int (p0.toInt8.toInt32)), .unset, .unset, .unset] [(.int p0)]))
  refine Go.st (fun _ k => XS.sipush X4.here hx rfl (hb hby at_30) k) ?_
  show Go p e below _ (T4.setTop (mkF m 33 #[.val (.int p0), .val (.int p1), .val (.int (p0.toInt8.toInt32)), .unset, .unset, .unset] [(.int (128 : Int32)), (.int p0)]))
  refine Go.st (fun _ k => XS.ior X4.here hx rfl (hb hby at_33) rfl k) ?_
  show Go p e below _ (T4.setTop (mkF m 34 #[.val (.int p0), .val (.int p1), .val (.int (p0.toInt8.toInt32)), .unset, .unset, .unset] [(.int (p0 ||| (128 : Int32)))]))
  refine Go.st (fun _ k => XS.i2b X4.here hx rfl (hb hby at_34) rfl k) ?_
  show Go p e below _ (T4.setTop (mkF m 35 #[.val (.int p0), .val (.int p1), .val (.int (p0.toInt8.toInt32)), .unset, .unset, .unset] [(.int ((p0 ||| (128 : Int32)).toInt8.toInt32))]))
  refine Go.st (fun _ k => XS.istoreN X4.here hx rfl (hb hby at_35) rfl (l' := #[.val (.int p0), .val (.int p1), .val (.int (p0.toInt8.toInt32)), .val (.int ((p0 ||| (128 : Int32)).toInt8.toInt32)), .unset, .unset]) rfl k) ?_
  show Go p e below _ (T4.setTop (mkF m 36 #[.val (.int p0), .val (.int p1), .val (.int (p0.toInt8.toInt32)), .val (.int ((p0 ||| (128 : Int32)).toInt8.toInt32)), .unset, .unset] []))
  refine Go.st (fun _ k => XS.iloadN X4.here hx rfl (hb hby at_36) rfl k) ?_
  show Go p e below _ (T4.setTop (mkF m 37 #[.val (.int p0), .val (.int p1), .val (.int (p0.toInt8.toInt32)), .val (.int ((p0 ||| (128 : Int32)).toInt8.toInt32)), .unset, .unset] [(.int ((p0 ||| (128 : Int32)).toInt8.toInt32))]))
  obtain ⟨_, _, ⟨T5, L5, k5, n5⟩, -, X5, ⟨Lc5, hQ5, l5, y5, z5⟩, st5⟩ := Jvm.LawKit.callS X4 hx (y := (⟨"com/example/drollover/drollover/cli/CsvReader", "isSpecial", "(I)Z"⟩ : MethodName)) hown (mvT hZ (hw _ (List.mem_of_getElem? (i := 0) rfl))) (mvT hZ (hw _ (List.mem_of_getElem? (i := 1) rfl))) (mvT hZ (hw _ (List.mem_of_getElem? (i := 2) rfl))) (mvT hZ (hw _ (List.mem_of_getElem? (i := 3) rfl))) (by decide) (backOf (W := 0) (rm1 l Z aZ hw [] ((p0 ||| (128 : Int32)).toInt8.toInt32) h0 n0 ) hZ (hw _ (List.mem_of_getElem? (i := 3) rfl)) (hw _ (List.mem_of_getElem? (i := 2) rfl)) (by decide) (by decide)) (g := (mkF m 37 #[.val (.int p0), .val (.int p1), .val (.int (p0.toInt8.toInt32)), .val (.int ((p0 ||| (128 : Int32)).toInt8.toInt32)), .unset, .unset] [(.int ((p0 ||| (128 : Int32)).toInt8.toInt32))])) rfl (by rw [hml]; rfl) (argsL := [(.int ((p0 ||| (128 : Int32)).toInt8.toInt32))]) (rest := []) (lenOf pd56f531e rfl) rfl (by show 2 * 0 + _ ≤ _; exact Nat.le_of_eq rfl) (hb hby at_37) (fun _ _ => ⟨rfl, e4, (by decide : 0 + 0 ≤ _), (by decide : 0 + 0 ≤ _)⟩)
  dsimp only [Pt.U, Pt.locs, Pt.cells, Pt.slots] at X5 l5 y5 z5 st5 hQ5
  subst l5 y5 z5
  obtain ⟨rfl, N5q, e5⟩ := hQ5
  have N5 := Fr.app N4 N5q
  refine Go.st (fun _ k => st5 _ k) ?_
  show Go p e below _ (T5.setTop (mkF m 40 #[.val (.int p0), .val (.int p1), .val (.int (p0.toInt8.toInt32)), .val (.int ((p0 ||| (128 : Int32)).toInt8.toInt32)), .unset, .unset] [(.int (fSpecial ((p0 ||| (128 : Int32)).toInt8.toInt32)))]))
  refine Go.st (fun _ k => XS.ifYes X5.here hx rfl (pc0 := 40) (pc' := 45) rfl (hb hby at_40) rfl ((if0 _ _).trans (teq (own_high p0)).1) (by decide) (by decide) k) ?_
  show Go p e below _ (T5.setTop (mkF m 45 #[.val (.int p0), .val (.int p1), .val (.int (p0.toInt8.toInt32)), .val (.int ((p0 ||| (128 : Int32)).toInt8.toInt32)), .unset, .unset] []))
  refine Go.st (fun _ k => XS.iconst X5.here hx rfl (hb hby at_45) k) ?_
  show Go p e below _ (T5.setTop (mkF m 46 #[.val (.int p0), .val (.int p1), .val (.int (p0.toInt8.toInt32)), .val (.int ((p0 ||| (128 : Int32)).toInt8.toInt32)), .unset, .unset] [(.int (4 : Int32))]))
  obtain ⟨T6, h6, k6, X6, e6, E6, A6, st6⟩ := newP X5 hx hZ (hw _ (List.mem_of_getElem? (i := 8) rfl)) e5 (g := (mkF m 46 #[.val (.int p0), .val (.int p1), .val (.int (p0.toInt8.toInt32)), .val (.int ((p0 ||| (128 : Int32)).toInt8.toInt32)), .unset, .unset] [(.int (4 : Int32))])) rfl (hb hby at_46) rfl (by decide) (cap := 4) (by decide) (by decide) (by decide) (by decide)
  obtain ⟨b6, g6⟩ : ∃ z, z = h0.size := ⟨_, rfl⟩
  have gg6 : n0 ≤ b6 := Nat.le_trans Z0 (Nat.le_of_eq g6.symm)
  rw [← g6] at A6 st6
  have Z6 : n0 ≤ h6.size := Nat.le_trans Z0 E6.1
  have V6 : Arv Z h6 b6 k6 .char (4 : Int32) [(.int (0 : Int32)), (.int (0 : Int32)), (.int (0 : Int32)), (.int (0 : Int32))] (.int (0 : Int32)) := (Arv.new A6 (by decide)).pad (pad_rep [] (.int (0 : Int32)) 4)
  refine Go.st (fun _ k => st6 _ k) ?_
  show Go p e below _ (T6.setTop (mkF m 48 #[.val (.int p0), .val (.int p1), .val (.int (p0.toInt8.toInt32)), .val (.int ((p0 ||| (128 : Int32)).toInt8.toInt32)), .unset, .unset] [(.ref b6)]))
  refine Go.st (fun _ k => XS.dup X6.here hx rfl (hb hby at_48) rfl rfl k) ?_
  show Go p e below _ (T6.setTop (mkF m 49 #[.val (.int p0), .val (.int p1), .val (.int (p0.toInt8.toInt32)), .val (.int ((p0 ||| (128 : Int32)).toInt8.toInt32)), .unset, .unset] [(.ref b6), (.ref b6)]))
  refine Go.st (fun _ k => XS.iconst X6.here hx rfl (hb hby at_49) k) ?_
  show Go p e below _ (T6.setTop (mkF m 50 #[.val (.int p0), .val (.int p1), .val (.int (p0.toInt8.toInt32)), .val (.int ((p0 ||| (128 : Int32)).toInt8.toInt32)), .unset, .unset] [(.int (0 : Int32)), (.ref b6), (.ref b6)]))
  refine Go.st (fun _ k => XS.bipush X6.here hx rfl (hb hby at_50) k) ?_
  show Go p e below _ (T6.setTop (mkF m 52 #[.val (.int p0), .val (.int p1), .val (.int (p0.toInt8.toInt32)), .val (.int ((p0 ||| (128 : Int32)).toInt8.toInt32)), .unset, .unset] [(.int (44 : Int32)), (.int (0 : Int32)), (.ref b6), (.ref b6)]))
  obtain ⟨cl7, Ar7, ck7, Sz7, Nn7, Hs7, Gs7⟩ := id V6
  have hin7 : ¬ ((0 : Int32) < 0 ∨ cl7.slots.size ≤ ((0 : Int32)).toNatClampNeg) := inb_of Sz7 ⟨by decide, by decide⟩
  obtain ⟨T8, h8, X8, e8, W8, st8⟩ := stC X6 hx hZ e6 Ar7 (j := (0 : Int32)) hin7 (g := (mkF m 52 #[.val (.int p0), .val (.int p1), .val (.int (p0.toInt8.toInt32)), .val (.int ((p0 ||| (128 : Int32)).toInt8.toInt32)), .unset, .unset] [(.int (44 : Int32)), (.int (0 : Int32)), (.ref b6), (.ref b6)])) rfl rfl (hb hby at_52)
  have V8 : Arv Z h8 b6 k6 .char (4 : Int32) [(.int (nar .char (44 : Int32))), (.int (0 : Int32)), (.int (0 : Int32)), (.int (0 : Int32))] (.int (0 : Int32)) := Arv.set Ar7 ck7 Sz7 Nn7 Hs7 Gs7 (fits_nar_char _) W8 0 rfl (Nat.le_of_ble_eq_true rfl)
  have N8 := Fr.snoc X8 N5 gg6
  have Z8 : n0 ≤ h8.size := by rw [W8.size]; exact Z6
  refine Go.st (fun _ k => st8 _ k) ?_
  show Go p e below _ (T8.setTop (mkF m 53 #[.val (.int p0), .val (.int p1), .val (.int (p0.toInt8.toInt32)), .val (.int ((p0 ||| (128 : Int32)).toInt8.toInt32)), .unset, .unset] [(.ref b6)]))
  refine Go.st (fun _ k => XS.dup X8.here hx rfl (hb hby at_53) rfl rfl k) ?_
  show Go p e below _ (T8.setTop (mkF m 54 #[.val (.int p0), .val (.int p1), .val (.int (p0.toInt8.toInt32)), .val (.int ((p0 ||| (128 : Int32)).toInt8.toInt32)), .unset, .unset] [(.ref b6), (.ref b6)]))
  refine Go.st (fun _ k => XS.iconst X8.here hx rfl (hb hby at_54) k) ?_
  show Go p e below _ (T8.setTop (mkF m 55 #[.val (.int p0), .val (.int p1), .val (.int (p0.toInt8.toInt32)), .val (.int ((p0 ||| (128 : Int32)).toInt8.toInt32)), .unset, .unset] [(.int (1 : Int32)), (.ref b6), (.ref b6)]))
  refine Go.st (fun _ k => XS.bipush X8.here hx rfl (hb hby at_55) k) ?_
  show Go p e below _ (T8.setTop (mkF m 57 #[.val (.int p0), .val (.int p1), .val (.int (p0.toInt8.toInt32)), .val (.int ((p0 ||| (128 : Int32)).toInt8.toInt32)), .unset, .unset] [(.int (34 : Int32)), (.int (1 : Int32)), (.ref b6), (.ref b6)]))
  obtain ⟨cl9, Ar9, ck9, Sz9, Nn9, Hs9, Gs9⟩ := id V8
  have hin9 : ¬ ((1 : Int32) < 0 ∨ cl9.slots.size ≤ ((1 : Int32)).toNatClampNeg) := inb_of Sz9 ⟨by decide, by decide⟩
  obtain ⟨T10, h10, X10, e10, W10, st10⟩ := stC X8 hx hZ e8 Ar9 (j := (1 : Int32)) hin9 (g := (mkF m 57 #[.val (.int p0), .val (.int p1), .val (.int (p0.toInt8.toInt32)), .val (.int ((p0 ||| (128 : Int32)).toInt8.toInt32)), .unset, .unset] [(.int (34 : Int32)), (.int (1 : Int32)), (.ref b6), (.ref b6)])) rfl rfl (hb hby at_57)
  have V10 : Arv Z h10 b6 k6 .char (4 : Int32) [(.int (nar .char (44 : Int32))), (.int (nar .char (34 : Int32))), (.int (0 : Int32)), (.int (0 : Int32))] (.int (0 : Int32)) := Arv.set Ar9 ck9 Sz9 Nn9 Hs9 Gs9 (fits_nar_char _) W10 1 rfl (Nat.le_of_ble_eq_true rfl)
  have N10 := Fr.snoc X10 N8 gg6
  have Z10 : n0 ≤ h10.size := by rw [W10.size]; exact Z8
  refine Go.st (fun _ k => st10 _ k) ?_
  show Go p e below _ (T10.setTop (mkF m 58 #[.val (.int p0), .val (.int p1), .val (.int (p0.toInt8.toInt32)), .val (.int ((p0 ||| (128 : Int32)).toInt8.toInt32)), .unset, .unset] [(.ref b6)]))
  refine Go.st (fun _ k => XS.dup X10.here hx rfl (hb hby at_58) rfl rfl k) ?_
  show Go p e below _ (T10.setTop (mkF m 59 #[.val (.int p0), .val (.int p1), .val (.int (p0.toInt8.toInt32)), .val (.int ((p0 ||| (128 : Int32)).toInt8.toInt32)), .unset, .unset] [(.ref b6), (.ref b6)]))
  refine Go.st (fun _ k => XS.iconst X10.here hx rfl (hb hby at_59) k) ?_
  show Go p e below _ (T10.setTop (mkF m 60 #[.val (.int p0), .val (.int p1), .val (.int (p0.toInt8.toInt32)), .val (.int ((p0 ||| (128 : Int32)).toInt8.toInt32)), .unset, .unset] [(.int (2 : Int32)), (.ref b6), (.ref b6)]))
  refine Go.st (fun _ k => XS.bipush X10.here hx rfl (hb hby at_60) k) ?_
  show Go p e below _ (T10.setTop (mkF m 62 #[.val (.int p0), .val (.int p1), .val (.int (p0.toInt8.toInt32)), .val (.int ((p0 ||| (128 : Int32)).toInt8.toInt32)), .unset, .unset] [(.int (13 : Int32)), (.int (2 : Int32)), (.ref b6), (.ref b6)]))
  obtain ⟨cl11, Ar11, ck11, Sz11, Nn11, Hs11, Gs11⟩ := id V10
  have hin11 : ¬ ((2 : Int32) < 0 ∨ cl11.slots.size ≤ ((2 : Int32)).toNatClampNeg) := inb_of Sz11 ⟨by decide, by decide⟩
  obtain ⟨T12, h12, X12, e12, W12, st12⟩ := stC X10 hx hZ e10 Ar11 (j := (2 : Int32)) hin11 (g := (mkF m 62 #[.val (.int p0), .val (.int p1), .val (.int (p0.toInt8.toInt32)), .val (.int ((p0 ||| (128 : Int32)).toInt8.toInt32)), .unset, .unset] [(.int (13 : Int32)), (.int (2 : Int32)), (.ref b6), (.ref b6)])) rfl rfl (hb hby at_62)
  have V12 : Arv Z h12 b6 k6 .char (4 : Int32) [(.int (nar .char (44 : Int32))), (.int (nar .char (34 : Int32))), (.int (nar .char (13 : Int32))), (.int (0 : Int32))] (.int (0 : Int32)) := Arv.set Ar11 ck11 Sz11 Nn11 Hs11 Gs11 (fits_nar_char _) W12 2 rfl (Nat.le_of_ble_eq_true rfl)
  have N12 := Fr.snoc X12 N10 gg6
  have Z12 : n0 ≤ h12.size := by rw [W12.size]; exact Z10
  refine Go.st (fun _ k => st12 _ k) ?_
  show Go p e below _ (T12.setTop (mkF m 63 #[.val (.int p0), .val (.int p1), .val (.int (p0.toInt8.toInt32)), .val (.int ((p0 ||| (128 : Int32)).toInt8.toInt32)), .unset, .unset] [(.ref b6)]))
  refine Go.st (fun _ k => XS.dup X12.here hx rfl (hb hby at_63) rfl rfl k) ?_
  show Go p e below _ (T12.setTop (mkF m 64 #[.val (.int p0), .val (.int p1), .val (.int (p0.toInt8.toInt32)), .val (.int ((p0 ||| (128 : Int32)).toInt8.toInt32)), .unset, .unset] [(.ref b6), (.ref b6)]))
  refine Go.st (fun _ k => XS.iconst X12.here hx rfl (hb hby at_64) k) ?_
  show Go p e below _ (T12.setTop (mkF m 65 #[.val (.int p0), .val (.int p1), .val (.int (p0.toInt8.toInt32)), .val (.int ((p0 ||| (128 : Int32)).toInt8.toInt32)), .unset, .unset] [(.int (3 : Int32)), (.ref b6), (.ref b6)]))
  refine Go.st (fun _ k => XS.bipush X12.here hx rfl (hb hby at_65) k) ?_
  show Go p e below _ (T12.setTop (mkF m 67 #[.val (.int p0), .val (.int p1), .val (.int (p0.toInt8.toInt32)), .val (.int ((p0 ||| (128 : Int32)).toInt8.toInt32)), .unset, .unset] [(.int (10 : Int32)), (.int (3 : Int32)), (.ref b6), (.ref b6)]))
  obtain ⟨cl13, Ar13, ck13, Sz13, Nn13, Hs13, Gs13⟩ := id V12
  have hin13 : ¬ ((3 : Int32) < 0 ∨ cl13.slots.size ≤ ((3 : Int32)).toNatClampNeg) := inb_of Sz13 ⟨by decide, by decide⟩
  obtain ⟨T14, h14, X14, e14, W14, st14⟩ := stC X12 hx hZ e12 Ar13 (j := (3 : Int32)) hin13 (g := (mkF m 67 #[.val (.int p0), .val (.int p1), .val (.int (p0.toInt8.toInt32)), .val (.int ((p0 ||| (128 : Int32)).toInt8.toInt32)), .unset, .unset] [(.int (10 : Int32)), (.int (3 : Int32)), (.ref b6), (.ref b6)])) rfl rfl (hb hby at_67)
  have V14 : Arv Z h14 b6 k6 .char (4 : Int32) [(.int (nar .char (44 : Int32))), (.int (nar .char (34 : Int32))), (.int (nar .char (13 : Int32))), (.int (nar .char (10 : Int32)))] (.int (0 : Int32)) := Arv.set Ar13 ck13 Sz13 Nn13 Hs13 Gs13 (fits_nar_char _) W14 3 rfl (Nat.le_of_ble_eq_true rfl)
  have N14 := Fr.snoc X14 N12 gg6
  have Z14 : n0 ≤ h14.size := by rw [W14.size]; exact Z12
  refine Go.st (fun _ k => st14 _ k) ?_
  show Go p e below _ (T14.setTop (mkF m 68 #[.val (.int p0), .val (.int p1), .val (.int (p0.toInt8.toInt32)), .val (.int ((p0 ||| (128 : Int32)).toInt8.toInt32)), .unset, .unset] [(.ref b6)]))
  refine Go.st (fun _ k => XS.astore X14.here hx rfl (hb hby at_68) rfl rfl (l' := #[.val (.int p0), .val (.int p1), .val (.int (p0.toInt8.toInt32)), .val (.int ((p0 ||| (128 : Int32)).toInt8.toInt32)), .val (.ref b6), .unset]) rfl k) ?_
  show Go p e below _ (T14.setTop (mkF m 70 #[.val (.int p0), .val (.int p1), .val (.int (p0.toInt8.toInt32)), .val (.int ((p0 ||| (128 : Int32)).toInt8.toInt32)), .val (.ref b6), .unset] []))
  refine Go.st (fun _ k => XS.aload X14.here hx rfl (hb hby at_70) rfl rfl k) ?_
  show Go p e below _ (T14.setTop (mkF m 72 #[.val (.int p0), .val (.int p1), .val (.int (p0.toInt8.toInt32)), .val (.int ((p0 ||| (128 : Int32)).toInt8.toInt32)), .val (.ref b6), .unset] [(.ref b6)]))
  refine Go.st (fun _ k => XS.iloadN X14.here hx rfl (hb hby at_72) rfl k) ?_
  show Go p e below _ (T14.setTop (mkF m 73 #[.val (.int p0), .val (.int p1), .val (.int (p0.toInt8.toInt32)), .val (.int ((p0 ||| (128 : Int32)).toInt8.toInt32)), .val (.ref b6), .unset] [(.int p1), (.ref b6)]))
  refine Go.st (fun _ k => XS.iconst X14.here hx rfl (hb hby at_73) k) ?_
  show Go p e below _ (T14.setTop (mkF m 74 #[.val (.int p0), .val (.int p1), .val (.int (p0.toInt8.toInt32)), .val (.int ((p0 ||| (128 : Int32)).toInt8.toInt32)), .val (.ref b6), .unset] [(.int (3 : Int32)), (.int p1), (.ref b6)]))
  refine Go.st (fun _ k => XS.iand X14.here hx rfl (hb hby at_74) rfl k) ?_
  show Go p e below _ (T14.setTop (mkF m 75 #[.val (.int p0), .val (.int p1), .val (.int (p0.toInt8.toInt32)), .val (.int ((p0 ||| (128 : Int32)).toInt8.toInt32)), .val (.ref b6), .unset] [(.int (p1 &&& (3 : Int32))), (.ref b6)]))
  rcases own_and3 p1 with hr15 | hr15 | hr15 | hr15
  · rw [hr15]
    show Go p e below _ (T14.setTop (mkF m 75 #[.val (.int p0), .val (.int p1), .val (.int (p0.toInt8.toInt32)), .val (.int ((p0 ||| (128 : Int32)).toInt8.toInt32)), .val (.ref b6), .unset] [(.int (0 : Int32)), (.ref b6)]))
    obtain ⟨cl16, Ar16, ck16, Sz16, Nn16, Hs16, Gs16⟩ := id V14
    have hin16 : ¬ ((0 : Int32) < 0 ∨ cl16.slots.size ≤ ((0 : Int32)).toNatClampNeg) := inb_of Sz16 ⟨by decide, by decide⟩
    have hat16 : cl16.slots[((0 : Int32)).toNatClampNeg]? = some (.int (nar .char (44 : Int32))) := Hs16.at hin16 rfl
    refine Go.st (fun _ k => X14.caload hx (j := (0 : Int32)) (v := (.int (nar .char (44 : Int32)))) (by rw [e14]; exact Ar16.1) (State.isArrayOf_alike hZ.alike Ar16.2.1) Ar16.2.2 hin16 hat16 (g := (mkF m 75 #[.val (.int p0), .val (.int p1), .val (.int (p0.toInt8.toInt32)), .val (.int ((p0 ||| (128 : Int32)).toInt8.toInt32)), .val (.ref b6), .unset] [(.int (0 : Int32)), (.ref b6)])) rfl rfl (hb hby at_75) _ k) ?_
    show Go p e below _ (T14.setTop (mkF m 76 #[.val (.int p0), .val (.int p1), .val (.int (p0.toInt8.toInt32)), .val (.int ((p0 ||| (128 : Int32)).toInt8.toInt32)), .val (.ref b6), .unset] [(.int (nar .char (44 : Int32)))]))
    refine Go.st (fun _ k => XS.istore X14.here hx rfl (hb hby at_76) rfl (l' := #[.val (.int p0), .val (.int p1), .val (.int (p0.toInt8.toInt32)), .val (.int ((p0 ||| (128 : Int32)).toInt8.toInt32)), .val (.ref b6), .val (.int (nar .char (44 : Int32)))]) rfl k) ?_
    show Go p e below _ (T14.setTop (mkF m 78 #[.val (.int p0), .val (.int p1), .val (.int (p0.toInt8.toInt32)), .val (.int ((p0 ||| (128 : Int32)).toInt8.toInt32)), .val (.ref b6), .val (.int (nar .char (44 : Int32)))] []))
    refine Go.st (fun _ k => XS.iload X14.here hx rfl (hb hby at_78) rfl k) ?_
    show Go p e below _ (T14.setTop (mkF m 80 #[.val (.int p0), .val (.int p1), .val (.int (p0.toInt8.toInt32)), .val (.int ((p0 ||| (128 : Int32)).toInt8.toInt32)), .val (.ref b6), .val (.int (nar .char (44 : Int32)))] [(.int (nar .char (44 : Int32)))]))
    obtain ⟨_, _, ⟨T17, L17, k17, n17⟩, -, X17, ⟨Lc17, hQ17, l17, y17, z17⟩, st17⟩ := Jvm.LawKit.callS X14 hx (y := (⟨"com/example/drollover/drollover/cli/CsvReader", "isSpecial", "(I)Z"⟩ : MethodName)) hown (mvT hZ (hw _ (List.mem_of_getElem? (i := 0) rfl))) (mvT hZ (hw _ (List.mem_of_getElem? (i := 1) rfl))) (mvT hZ (hw _ (List.mem_of_getElem? (i := 2) rfl))) (mvT hZ (hw _ (List.mem_of_getElem? (i := 3) rfl))) (by decide) (backOf (W := 0) (rm1 l Z aZ hw [] (nar .char (44 : Int32)) h14 n0 ) hZ (hw _ (List.mem_of_getElem? (i := 3) rfl)) (hw _ (List.mem_of_getElem? (i := 2) rfl)) (by decide) (by decide)) (g := (mkF m 80 #[.val (.int p0), .val (.int p1), .val (.int (p0.toInt8.toInt32)), .val (.int ((p0 ||| (128 : Int32)).toInt8.toInt32)), .val (.ref b6), .val (.int (nar .char (44 : Int32)))] [(.int (nar .char (44 : Int32)))])) rfl (by rw [hml]; rfl) (argsL := [(.int (nar .char (44 : Int32)))]) (rest := []) (lenOf pd56f531e rfl) rfl (by show 2 * 0 + _ ≤ _; exact Nat.le_of_eq rfl) (hb hby at_80) (fun _ _ => ⟨rfl, e14, (by decide : 1 + 0 ≤ _), (by decide : 4 + 0 ≤ _)⟩)
    dsimp only [Pt.U, Pt.locs, Pt.cells, Pt.slots] at X17 l17 y17 z17 st17 hQ17
    subst l17 y17 z17
    obtain ⟨rfl, N17q, e17⟩ := hQ17
    have N17 := Fr.app N14 N17q
    refine Go.st (fun _ k => st17 _ k) ?_
    show Go p e below _ (T17.setTop (mkF m 83 #[.val (.int p0), .val (.int p1), .val (.int (p0.toInt8.toInt32)), .val (.int ((p0 ||| (128 : Int32)).toInt8.toInt32)), .val (.ref b6), .val (.int (nar .char (44 : Int32)))] [(.int (fSpecial (nar .char (44 : Int32))))]))
    refine Go.st (fun _ k => XS.ifYes X17.here hx rfl (pc0 := 83) (pc' := 88) rfl (hb hby at_83) rfl ((if0 _ _).trans (feq (by decide +kernel)).2) (by decide) (by decide) k) ?_
    show Go p e below _ (T17.setTop (mkF m 88 #[.val (.int p0), .val (.int p1), .val (.int (p0.toInt8.toInt32)), .val (.int ((p0 ||| (128 : Int32)).toInt8.toInt32)), .val (.ref b6), .val (.int (nar .char (44 : Int32)))] []))
    refine Go.st (fun _ k => XS.iload X17.here hx rfl (hb hby at_88) rfl k) ?_
    show Go p e below _ (T17.setTop (mkF m 90 #[.val (.int p0), .val (.int p1), .val (.int (p0.toInt8.toInt32)), .val (.int ((p0 ||| (128 : Int32)).toInt8.toInt32)), .val (.ref b6), .val (.int (nar .char (44 : Int32)))] [(.int (nar .char (44 : Int32)))]))
    refine Go.st (fun _ k => XS.iconst X17.here hx rfl (hb hby at_90) k) ?_
    show Go p e below _ (T17.setTop (mkF m 91 #[.val (.int p0), .val (.int p1), .val (.int (p0.toInt8.toInt32)), .val (.int ((p0 ||| (128 : Int32)).toInt8.toInt32)), .val (.ref b6), .val (.int (nar .char (44 : Int32)))] [(.int (1 : Int32)), (.int (nar .char (44 : Int32)))]))
    refine Go.st (fun _ k => XS.isub X17.here hx rfl (hb hby at_91) rfl k) ?_
    show Go p e below _ (T17.setTop (mkF m 92 #[.val (.int p0), .val (.int p1), .val (.int (p0.toInt8.toInt32)), .val (.int ((p0 ||| (128 : Int32)).toInt8.toInt32)), .val (.ref b6), .val (.int (nar .char (44 : Int32)))] [(.int ((nar .char (44 : Int32)) - (1 : Int32)))]))
    obtain ⟨_, _, ⟨T18, L18, k18, n18⟩, -, X18, ⟨Lc18, hQ18, l18, y18, z18⟩, st18⟩ := Jvm.LawKit.callS X17 hx (y := (⟨"com/example/drollover/drollover/cli/CsvReader", "isSpecial", "(I)Z"⟩ : MethodName)) hown (mvT hZ (hw _ (List.mem_of_getElem? (i := 0) rfl))) (mvT hZ (hw _ (List.mem_of_getElem? (i := 1) rfl))) (mvT hZ (hw _ (List.mem_of_getElem? (i := 2) rfl))) (mvT hZ (hw _ (List.mem_of_getElem? (i := 3) rfl))) (by decide) (backOf (W := 0) (rm1 l Z aZ hw [] ((nar .char (44 : Int32)) - (1 : Int32)) h14 n0 ) hZ (hw _ (List.mem_of_getElem? (i := 3) rfl)) (hw _ (List.mem_of_getElem? (i := 2) rfl)) (by decide) (by decide)) (g := (mkF m 92 #[.val (.int p0), .val (.int p1), .val (.int (p0.toInt8.toInt32)), .val (.int ((p0 ||| (128 : Int32)).toInt8.toInt32)), .val (.ref b6), .val (.int (nar .char (44 : Int32)))] [(.int ((nar .char (44 : Int32)) - (1 : Int32)))])) rfl (by rw [hml]; rfl) (argsL := [(.int ((nar .char (44 : Int32)) - (1 : Int32)))]) (rest := []) (lenOf pd56f531e rfl) rfl (by show 2 * 0 + _ ≤ _; exact Nat.le_of_eq rfl) (hb hby at_92) (fun _ _ => ⟨rfl, e17, (by decide : 1 + 0 ≤ _), (by decide : 4 + 0 ≤ _)⟩)
    dsimp only [Pt.U, Pt.locs, Pt.cells, Pt.slots] at X18 l18 y18 z18 st18 hQ18
    subst l18 y18 z18
    obtain ⟨rfl, N18q, e18⟩ := hQ18
    have N18 := Fr.app N17 N18q
    refine Go.st (fun _ k => st18 _ k) ?_
    show Go p e below _ (T18.setTop (mkF m 95 #[.val (.int p0), .val (.int p1), .val (.int (p0.toInt8.toInt32)), .val (.int ((p0 ||| (128 : Int32)).toInt8.toInt32)), .val (.ref b6), .val (.int (nar .char (44 : Int32)))] [(.int (fSpecial ((nar .char (44 : Int32)) - (1 : Int32))))]))
    refine Go.st (fun _ k => XS.ifYes X18.here hx rfl (pc0 := 95) (pc' := 100) rfl (hb hby at_95) rfl ((if0 _ _).trans (teq (by decide +kernel)).1) (by decide) (by decide) k) ?_
    show Go p e below _ (T18.setTop (mkF m 100 #[.val (.int p0), .val (.int p1), .val (.int (p0.toInt8.toInt32)), .val (.int ((p0 ||| (128 : Int32)).toInt8.toInt32)), .val (.ref b6), .val (.int (nar .char (44 : Int32)))] []))
    refine Go.st (fun _ k => XS.iload X18.here hx rfl (hb hby at_100) rfl k) ?_
    show Go p e below _ (T18.setTop (mkF m 102 #[.val (.int p0), .val (.int p1), .val (.int (p0.toInt8.toInt32)), .val (.int ((p0 ||| (128 : Int32)).toInt8.toInt32)), .val (.ref b6), .val (.int (nar .char (44 : Int32)))] [(.int (nar .char (44 : Int32)))]))
    refine Go.st (fun _ k => XS.iconst X18.here hx rfl (hb hby at_102) k) ?_
    show Go p e below _ (T18.setTop (mkF m 103 #[.val (.int p0), .val (.int p1), .val (.int (p0.toInt8.toInt32)), .val (.int ((p0 ||| (128 : Int32)).toInt8.toInt32)), .val (.ref b6), .val (.int (nar .char (44 : Int32)))] [(.int (1 : Int32)), (.int (nar .char (44 : Int32)))]))
    refine Go.st (fun _ k => XS.iadd X18.here hx rfl (hb hby at_103) rfl k) ?_
    show Go p e below _ (T18.setTop (mkF m 104 #[.val (.int p0), .val (.int p1), .val (.int (p0.toInt8.toInt32)), .val (.int ((p0 ||| (128 : Int32)).toInt8.toInt32)), .val (.ref b6), .val (.int (nar .char (44 : Int32)))] [(.int ((nar .char (44 : Int32)) + (1 : Int32)))]))
    obtain ⟨_, _, ⟨T19, L19, k19, n19⟩, -, X19, ⟨Lc19, hQ19, l19, y19, z19⟩, st19⟩ := Jvm.LawKit.callS X18 hx (y := (⟨"com/example/drollover/drollover/cli/CsvReader", "isSpecial", "(I)Z"⟩ : MethodName)) hown (mvT hZ (hw _ (List.mem_of_getElem? (i := 0) rfl))) (mvT hZ (hw _ (List.mem_of_getElem? (i := 1) rfl))) (mvT hZ (hw _ (List.mem_of_getElem? (i := 2) rfl))) (mvT hZ (hw _ (List.mem_of_getElem? (i := 3) rfl))) (by decide) (backOf (W := 0) (rm1 l Z aZ hw [] ((nar .char (44 : Int32)) + (1 : Int32)) h14 n0 ) hZ (hw _ (List.mem_of_getElem? (i := 3) rfl)) (hw _ (List.mem_of_getElem? (i := 2) rfl)) (by decide) (by decide)) (g := (mkF m 104 #[.val (.int p0), .val (.int p1), .val (.int (p0.toInt8.toInt32)), .val (.int ((p0 ||| (128 : Int32)).toInt8.toInt32)), .val (.ref b6), .val (.int (nar .char (44 : Int32)))] [(.int ((nar .char (44 : Int32)) + (1 : Int32)))])) rfl (by rw [hml]; rfl) (argsL := [(.int ((nar .char (44 : Int32)) + (1 : Int32)))]) (rest := []) (lenOf pd56f531e rfl) rfl (by show 2 * 0 + _ ≤ _; exact Nat.le_of_eq rfl) (hb hby at_104) (fun _ _ => ⟨rfl, e18, (by decide : 1 + 0 ≤ _), (by decide : 4 + 0 ≤ _)⟩)
    dsimp only [Pt.U, Pt.locs, Pt.cells, Pt.slots] at X19 l19 y19 z19 st19 hQ19
    subst l19 y19 z19
    obtain ⟨rfl, N19q, e19⟩ := hQ19
    have N19 := Fr.app N18 N19q
    refine Go.st (fun _ k => st19 _ k) ?_
    show Go p e below _ (T19.setTop (mkF m 107 #[.val (.int p0), .val (.int p1), .val (.int (p0.toInt8.toInt32)), .val (.int ((p0 ||| (128 : Int32)).toInt8.toInt32)), .val (.ref b6), .val (.int (nar .char (44 : Int32)))] [(.int (fSpecial ((nar .char (44 : Int32)) + (1 : Int32))))]))
    refine Go.st (fun _ k => XS.ifYes X19.here hx rfl (pc0 := 107) (pc' := 112) rfl (hb hby at_107) rfl ((if0 _ _).trans (teq (by decide +kernel)).1) (by decide) (by decide) k) ?_
    show Go p e below _ (T19.setTop (mkF m 112 #[.val (.int p0), .val (.int p1), .val (.int (p0.toInt8.toInt32)), .val (.int ((p0 ||| (128 : Int32)).toInt8.toInt32)), .val (.ref b6), .val (.int (nar .char (44 : Int32)))] []))
    refine Go.st (fun _ k => XS.iconst X19.here hx rfl (hb hby at_112) k) ?_
    show Go p e below _ (T19.setTop (mkF m 113 #[.val (.int p0), .val (.int p1), .val (.int (p0.toInt8.toInt32)), .val (.int ((p0 ||| (128 : Int32)).toInt8.toInt32)), .val (.ref b6), .val (.int (nar .char (44 : Int32)))] [(.int (1 : Int32))]))
    obtain ⟨fs, hr, hrun, hended, hW, hsame⟩ := X19.leave (v := some (.int (1 : Int32))) (fun h => by rw [Bd.returns] at h; cases h)
    refine ⟨_, _, retN X19 hx (t := .boolean) Bd.returns (by simp) (hb hby at_113) hr, hrun, hended, _, _, rfl, ?_, ⟨_, rfl⟩, hW, hsame.mono (by decide) (by decide)⟩
    show Q_rm0 Z p0 p1 h0 n0 _ T19.heap _
    rw [e19]
    exact ⟨rfl, N19⟩
  · rw [hr15]
    show Go p e below _ (T14.setTop (mkF m 75 #[.val (.int p0), .val (.int p1), .val (.int (p0.toInt8.toInt32)), .val (.int ((p0 ||| (128 : Int32)).toInt8.toInt32)), .val (.ref b6), .unset] [(.int (1 : Int32)), (.ref b6)]))
    obtain ⟨cl20, Ar20, ck20, Sz20, Nn20, Hs20, Gs20⟩ := id V14
    have hin20 : ¬ ((1 : Int32) < 0 ∨ cl20.slots.size ≤ ((1 : Int32)).toNatClampNeg) := inb_of Sz20 ⟨by decide, by decide⟩
    have hat20 : cl20.slots[((1 : Int32)).toNatClampNeg]? = some (.int (nar .char (34 : Int32))) := Hs20.at hin20 rfl
    refine Go.st (fun _ k => X14.caload hx (j := (1 : Int32)) (v := (.int (nar .char (34 : Int32)))) (by rw [e14]; exact Ar20.1) (State.isArrayOf_alike hZ.alike Ar20.2.1) Ar20.2.2 hin20 hat20 (g := (mkF m 75 #[.val (.int p0), .val (.int p1), .val (.int (p0.toInt8.toInt32)), .val (.int ((p0 ||| (128 : Int32)).toInt8.toInt32)), .val (.ref b6), .unset] [(.int (1 : Int32)), (.ref b6)])) rfl rfl (hb hby at_75) _ k) ?_
    show Go p e below _ (T14.setTop (mkF m 76 #[.val (.int p0), .val (.int p1), .val (.int (p0.toInt8.toInt32)), .val (.int ((p0 ||| (128 : Int32)).toInt8.toInt32)), .val (.ref b6), .unset] [(.int (nar .char (34 : Int32)))]))
    refine Go.st (fun _ k => XS.istore X14.here hx rfl (hb hby at_76) rfl (l' := #[.val (.int p0), .val (.int p1), .val (.int (p0.toInt8.toInt32)), .val (.int ((p0 ||| (128 : Int32)).toInt8.toInt32)), .val (.ref b6), .val (.int (nar .char (34 : Int32)))]) rfl k) ?_
    show Go p e below _ (T14.setTop (mkF m 78 #[.val (.int p0), .val (.int p1), .val (.int (p0.toInt8.toInt32)), .val (.int ((p0 ||| (128 : Int32)).toInt8.toInt32)), .val (.ref b6), .val (.int (nar .char (34 : Int32)))] []))
    refine Go.st (fun _ k => XS.iload X14.here hx rfl (hb hby at_78) rfl k) ?_
    show Go p e below _ (T14.setTop (mkF m 80 #[.val (.int p0), .val (.int p1), .val (.int (p0.toInt8.toInt32)), .val (.int ((p0 ||| (128 : Int32)).toInt8.toInt32)), .val (.ref b6), .val (.int (nar .char (34 : Int32)))] [(.int (nar .char (34 : Int32)))]))
    obtain ⟨_, _, ⟨T21, L21, k21, n21⟩, -, X21, ⟨Lc21, hQ21, l21, y21, z21⟩, st21⟩ := Jvm.LawKit.callS X14 hx (y := (⟨"com/example/drollover/drollover/cli/CsvReader", "isSpecial", "(I)Z"⟩ : MethodName)) hown (mvT hZ (hw _ (List.mem_of_getElem? (i := 0) rfl))) (mvT hZ (hw _ (List.mem_of_getElem? (i := 1) rfl))) (mvT hZ (hw _ (List.mem_of_getElem? (i := 2) rfl))) (mvT hZ (hw _ (List.mem_of_getElem? (i := 3) rfl))) (by decide) (backOf (W := 0) (rm1 l Z aZ hw [] (nar .char (34 : Int32)) h14 n0 ) hZ (hw _ (List.mem_of_getElem? (i := 3) rfl)) (hw _ (List.mem_of_getElem? (i := 2) rfl)) (by decide) (by decide)) (g := (mkF m 80 #[.val (.int p0), .val (.int p1), .val (.int (p0.toInt8.toInt32)), .val (.int ((p0 ||| (128 : Int32)).toInt8.toInt32)), .val (.ref b6), .val (.int (nar .char (34 : Int32)))] [(.int (nar .char (34 : Int32)))])) rfl (by rw [hml]; rfl) (argsL := [(.int (nar .char (34 : Int32)))]) (rest := []) (lenOf pd56f531e rfl) rfl (by show 2 * 0 + _ ≤ _; exact Nat.le_of_eq rfl) (hb hby at_80) (fun _ _ => ⟨rfl, e14, (by decide : 1 + 0 ≤ _), (by decide : 4 + 0 ≤ _)⟩)
    dsimp only [Pt.U, Pt.locs, Pt.cells, Pt.slots] at X21 l21 y21 z21 st21 hQ21
    subst l21 y21 z21
    obtain ⟨rfl, N21q, e21⟩ := hQ21
    have N21 := Fr.app N14 N21q
    refine Go.st (fun _ k => st21 _ k) ?_
    show Go p e below _ (T21.setTop (mkF m 83 #[.val (.int p0), .val (.int p1), .val (.int (p0.toInt8.toInt32)), .val (.int ((p0 ||| (128 : Int32)).toInt8.toInt32)), .val (.ref b6), .val (.int (nar .char (34 : Int32)))] [(.int (fSpecial (nar .char (34 : Int32))))]))
    refine Go.st (fun _ k => XS.ifYes X21.here hx rfl (pc0 := 83) (pc' := 88) rfl (hb hby at_83) rfl ((if0 _ _).trans (feq (by decide +kernel)).2) (by decide) (by decide) k) ?_
    show Go p e below _ (T21.setTop (mkF m 88 #[.val (.int p0), .val (.int p1), .val (.int (p0.toInt8.toInt32)), .val (.int ((p0 ||| (128 : Int32)).toInt8.toInt32)), .val (.ref b6), .val (.int (nar .char (34 : Int32)))] []))
    refine Go.st (fun _ k => XS.iload X21.here hx rfl (hb hby at_88) rfl k) ?_
    show Go p e below _ (T21.setTop (mkF m 90 #[.val (.int p0), .val (.int p1), .val (.int (p0.toInt8.toInt32)), .val (.int ((p0 ||| (128 : Int32)).toInt8.toInt32)), .val (.ref b6), .val (.int (nar .char (34 : Int32)))] [(.int (nar .char (34 : Int32)))]))
    refine Go.st (fun _ k => XS.iconst X21.here hx rfl (hb hby at_90) k) ?_
    show Go p e below _ (T21.setTop (mkF m 91 #[.val (.int p0), .val (.int p1), .val (.int (p0.toInt8.toInt32)), .val (.int ((p0 ||| (128 : Int32)).toInt8.toInt32)), .val (.ref b6), .val (.int (nar .char (34 : Int32)))] [(.int (1 : Int32)), (.int (nar .char (34 : Int32)))]))
    refine Go.st (fun _ k => XS.isub X21.here hx rfl (hb hby at_91) rfl k) ?_
    show Go p e below _ (T21.setTop (mkF m 92 #[.val (.int p0), .val (.int p1), .val (.int (p0.toInt8.toInt32)), .val (.int ((p0 ||| (128 : Int32)).toInt8.toInt32)), .val (.ref b6), .val (.int (nar .char (34 : Int32)))] [(.int ((nar .char (34 : Int32)) - (1 : Int32)))]))
    obtain ⟨_, _, ⟨T22, L22, k22, n22⟩, -, X22, ⟨Lc22, hQ22, l22, y22, z22⟩, st22⟩ := Jvm.LawKit.callS X21 hx (y := (⟨"com/example/drollover/drollover/cli/CsvReader", "isSpecial", "(I)Z"⟩ : MethodName)) hown (mvT hZ (hw _ (List.mem_of_getElem? (i := 0) rfl))) (mvT hZ (hw _ (List.mem_of_getElem? (i := 1) rfl))) (mvT hZ (hw _ (List.mem_of_getElem? (i := 2) rfl))) (mvT hZ (hw _ (List.mem_of_getElem? (i := 3) rfl))) (by decide) (backOf (W := 0) (rm1 l Z aZ hw [] ((nar .char (34 : Int32)) - (1 : Int32)) h14 n0 ) hZ (hw _ (List.mem_of_getElem? (i := 3) rfl)) (hw _ (List.mem_of_getElem? (i := 2) rfl)) (by decide) (by decide)) (g := (mkF m 92 #[.val (.int p0), .val (.int p1), .val (.int (p0.toInt8.toInt32)), .val (.int ((p0 ||| (128 : Int32)).toInt8.toInt32)), .val (.ref b6), .val (.int (nar .char (34 : Int32)))] [(.int ((nar .char (34 : Int32)) - (1 : Int32)))])) rfl (by rw [hml]; rfl) (argsL := [(.int ((nar .char (34 : Int32)) - (1 : Int32)))]) (rest := []) (lenOf pd56f531e rfl) rfl (by show 2 * 0 + _ ≤ _; exact Nat.le_of_eq rfl) (hb hby at_92) (fun _ _ => ⟨rfl, e21, (by decide : 1 + 0 ≤ _), (by decide : 4 + 0 ≤ _)⟩)
    dsimp only [Pt.U, Pt.locs, Pt.cells, Pt.slots] at X22 l22 y22 z22 st22 hQ22
    subst l22 y22 z22
    obtain ⟨rfl, N22q, e22⟩ := hQ22
    have N22 := Fr.app N21 N22q
    refine Go.st (fun _ k => st22 _ k) ?_
    show Go p e below _ (T22.setTop (mkF m 95 #[.val (.int p0), .val (.int p1), .val (.int (p0.toInt8.toInt32)), .val (.int ((p0 ||| (128 : Int32)).toInt8.toInt32)), .val (.ref b6), .val (.int (nar .char (34 : Int32)))] [(.int (fSpecial ((nar .char (34 : Int32)) - (1 : Int32))))]))
    refine Go.st (fun _ k => XS.ifYes X22.here hx rfl (pc0 := 95) (pc' := 100) rfl (hb hby at_95) rfl ((if0 _ _).trans (teq (by decide +kernel)).1) (by decide) (by decide) k) ?_
    show Go p e below _ (T22.setTop (mkF m 100 #[.val (.int p0), .val (.int p1), .val (.int (p0.toInt8.toInt32)), .val (.int ((p0 ||| (128 : Int32)).toInt8.toInt32)), .val (.ref b6), .val (.int (nar .char (34 : Int32)))] []))
    refine Go.st (fun _ k => XS.iload X22.here hx rfl (hb hby at_100) rfl k) ?_
    show Go p e below _ (T22.setTop (mkF m 102 #[.val (.int p0), .val (.int p1), .val (.int (p0.toInt8.toInt32)), .val (.int ((p0 ||| (128 : Int32)).toInt8.toInt32)), .val (.ref b6), .val (.int (nar .char (34 : Int32)))] [(.int (nar .char (34 : Int32)))]))
    refine Go.st (fun _ k => XS.iconst X22.here hx rfl (hb hby at_102) k) ?_
    show Go p e below _ (T22.setTop (mkF m 103 #[.val (.int p0), .val (.int p1), .val (.int (p0.toInt8.toInt32)), .val (.int ((p0 ||| (128 : Int32)).toInt8.toInt32)), .val (.ref b6), .val (.int (nar .char (34 : Int32)))] [(.int (1 : Int32)), (.int (nar .char (34 : Int32)))]))
    refine Go.st (fun _ k => XS.iadd X22.here hx rfl (hb hby at_103) rfl k) ?_
    show Go p e below _ (T22.setTop (mkF m 104 #[.val (.int p0), .val (.int p1), .val (.int (p0.toInt8.toInt32)), .val (.int ((p0 ||| (128 : Int32)).toInt8.toInt32)), .val (.ref b6), .val (.int (nar .char (34 : Int32)))] [(.int ((nar .char (34 : Int32)) + (1 : Int32)))]))
    obtain ⟨_, _, ⟨T23, L23, k23, n23⟩, -, X23, ⟨Lc23, hQ23, l23, y23, z23⟩, st23⟩ := Jvm.LawKit.callS X22 hx (y := (⟨"com/example/drollover/drollover/cli/CsvReader", "isSpecial", "(I)Z"⟩ : MethodName)) hown (mvT hZ (hw _ (List.mem_of_getElem? (i := 0) rfl))) (mvT hZ (hw _ (List.mem_of_getElem? (i := 1) rfl))) (mvT hZ (hw _ (List.mem_of_getElem? (i := 2) rfl))) (mvT hZ (hw _ (List.mem_of_getElem? (i := 3) rfl))) (by decide) (backOf (W := 0) (rm1 l Z aZ hw [] ((nar .char (34 : Int32)) + (1 : Int32)) h14 n0 ) hZ (hw _ (List.mem_of_getElem? (i := 3) rfl)) (hw _ (List.mem_of_getElem? (i := 2) rfl)) (by decide) (by decide)) (g := (mkF m 104 #[.val (.int p0), .val (.int p1), .val (.int (p0.toInt8.toInt32)), .val (.int ((p0 ||| (128 : Int32)).toInt8.toInt32)), .val (.ref b6), .val (.int (nar .char (34 : Int32)))] [(.int ((nar .char (34 : Int32)) + (1 : Int32)))])) rfl (by rw [hml]; rfl) (argsL := [(.int ((nar .char (34 : Int32)) + (1 : Int32)))]) (rest := []) (lenOf pd56f531e rfl) rfl (by show 2 * 0 + _ ≤ _; exact Nat.le_of_eq rfl) (hb hby at_104) (fun _ _ => ⟨rfl, e22, (by decide : 1 + 0 ≤ _), (by decide : 4 + 0 ≤ _)⟩)
    dsimp only [Pt.U, Pt.locs, Pt.cells, Pt.slots] at X23 l23 y23 z23 st23 hQ23
    subst l23 y23 z23
    obtain ⟨rfl, N23q, e23⟩ := hQ23
    have N23 := Fr.app N22 N23q
    refine Go.st (fun _ k => st23 _ k) ?_
    show Go p e below _ (T23.setTop (mkF m 107 #[.val (.int p0), .val (.int p1), .val (.int (p0.toInt8.toInt32)), .val (.int ((p0 ||| (128 : Int32)).toInt8.toInt32)), .val (.ref b6), .val (.int (nar .char (34 : Int32)))] [(.int (fSpecial ((nar .char (34 : Int32)) + (1 : Int32))))]))
    refine Go.st (fun _ k => XS.ifYes X23.here hx rfl (pc0 := 107) (pc' := 112) rfl (hb hby at_107) rfl ((if0 _ _).trans (teq (by decide +kernel)).1) (by decide) (by decide) k) ?_
    show Go p e below _ (T23.setTop (mkF m 112 #[.val (.int p0), .val (.int p1), .val (.int (p0.toInt8.toInt32)), .val (.int ((p0 ||| (128 : Int32)).toInt8.toInt32)), .val (.ref b6), .val (.int (nar .char (34 : Int32)))] []))
    refine Go.st (fun _ k => XS.iconst X23.here hx rfl (hb hby at_112) k) ?_
    show Go p e below _ (T23.setTop (mkF m 113 #[.val (.int p0), .val (.int p1), .val (.int (p0.toInt8.toInt32)), .val (.int ((p0 ||| (128 : Int32)).toInt8.toInt32)), .val (.ref b6), .val (.int (nar .char (34 : Int32)))] [(.int (1 : Int32))]))
    obtain ⟨fs, hr, hrun, hended, hW, hsame⟩ := X23.leave (v := some (.int (1 : Int32))) (fun h => by rw [Bd.returns] at h; cases h)
    refine ⟨_, _, retN X23 hx (t := .boolean) Bd.returns (by simp) (hb hby at_113) hr, hrun, hended, _, _, rfl, ?_, ⟨_, rfl⟩, hW, hsame.mono (by decide) (by decide)⟩
    show Q_rm0 Z p0 p1 h0 n0 _ T23.heap _
    rw [e23]
    exact ⟨rfl, N23⟩
  · rw [hr15]
    show Go p e below _ (T14.setTop (mkF m 75 #[.val (.int p0), .val (.int p1), .val (.int (p0.toInt8.toInt32)), .val (.int ((p0 ||| (128 : Int32)).toInt8.toInt32)), .val (.ref b6), .unset] [(.int (2 : Int32)), (.ref b6)]))
    obtain ⟨cl24, Ar24, ck24, Sz24, Nn24, Hs24, Gs24⟩ := id V14
    have hin24 : ¬ ((2 : Int32) < 0 ∨ cl24.slots.size ≤ ((2 : Int32)).toNatClampNeg) := inb_of Sz24 ⟨by decide, by decide⟩
    have hat24 : cl24.slots[((2 : Int32)).toNatClampNeg]? = some (.int (nar .char (13 : Int32))) := Hs24.at hin24 rfl
    refine Go.st (fun _ k => X14.caload hx (j := (2 : Int32)) (v := (.int (nar .char (13 : Int32)))) (by rw [e14]; exact Ar24.1) (State.isArrayOf_alike hZ.alike Ar24.2.1) Ar24.2.2 hin24 hat24 (g := (mkF m 75 #[.val (.int p0), .val (.int p1), .val (.int (p0.toInt8.toInt32)), .val (.int ((p0 ||| (128 : Int32)).toInt8.toInt32)), .val (.ref b6), .unset] [(.int (2 : Int32)), (.ref b6)])) rfl rfl (hb hby at_75) _ k) ?_
    show Go p e below _ (T14.setTop (mkF m 76 #[.val (.int p0), .val (.int p1), .val (.int (p0.toInt8.toInt32)), .val (.int ((p0 ||| (128 : Int32)).toInt8.toInt32)), .val (.ref b6), .unset] [(.int (nar .char (13 : Int32)))]))
    refine Go.st (fun _ k => XS.istore X14.here hx rfl (hb hby at_76) rfl (l' := #[.val (.int p0), .val (.int p1), .val (.int (p0.toInt8.toInt32)), .val (.int ((p0 ||| (128 : Int32)).toInt8.toInt32)), .val (.ref b6), .val (.int (nar .char (13 : Int32)))]) rfl k) ?_
    show Go p e below _ (T14.setTop (mkF m 78 #[.val (.int p0), .val (.int p1), .val (.int (p0.toInt8.toInt32)), .val (.int ((p0 ||| (128 : Int32)).toInt8.toInt32)), .val (.ref b6), .val (.int (nar .char (13 : Int32)))] []))
    refine Go.st (fun _ k => XS.iload X14.here hx rfl (hb hby at_78) rfl k) ?_
    show Go p e below _ (T14.setTop (mkF m 80 #[.val (.int p0), .val (.int p1), .val (.int (p0.toInt8.toInt32)), .val (.int ((p0 ||| (128 : Int32)).toInt8.toInt32)), .val (.ref b6), .val (.int (nar .char (13 : Int32)))] [(.int (nar .char (13 : Int32)))]))
    obtain ⟨_, _, ⟨T25, L25, k25, n25⟩, -, X25, ⟨Lc25, hQ25, l25, y25, z25⟩, st25⟩ := Jvm.LawKit.callS X14 hx (y := (⟨"com/example/drollover/drollover/cli/CsvReader", "isSpecial", "(I)Z"⟩ : MethodName)) hown (mvT hZ (hw _ (List.mem_of_getElem? (i := 0) rfl))) (mvT hZ (hw _ (List.mem_of_getElem? (i := 1) rfl))) (mvT hZ (hw _ (List.mem_of_getElem? (i := 2) rfl))) (mvT hZ (hw _ (List.mem_of_getElem? (i := 3) rfl))) (by decide) (backOf (W := 0) (rm1 l Z aZ hw [] (nar .char (13 : Int32)) h14 n0 ) hZ (hw _ (List.mem_of_getElem? (i := 3) rfl)) (hw _ (List.mem_of_getElem? (i := 2) rfl)) (by decide) (by decide)) (g := (mkF m 80 #[.val (.int p0), .val (.int p1), .val (.int (p0.toInt8.toInt32)), .val (.int ((p0 ||| (128 : Int32)).toInt8.toInt32)), .val (.ref b6), .val (.int (nar .char (13 : Int32)))] [(.int (nar .char (13 : Int32)))])) rfl (by rw [hml]; rfl) (argsL := [(.int (nar .char (13 : Int32)))]) (rest := []) (lenOf pd56f531e rfl) rfl (by show 2 * 0 + _ ≤ _; exact Nat.le_of_eq rfl) (hb hby at_80) (fun _ _ => ⟨rfl, e14, (by decide : 1 + 0 ≤ _), (by decide : 4 + 0 ≤ _)⟩)
    dsimp only [Pt.U, Pt.locs, Pt.cells, Pt.slots] at X25 l25 y25 z25 st25 hQ25
    subst l25 y25 z25
    obtain ⟨rfl, N25q, e25⟩ := hQ25
    have N25 := Fr.app N14 N25q
    refine Go.st (fun _ k => st25 _ k) ?_
    show Go p e below _ (T25.setTop (mkF m 83 #[.val (.int p0), .val (.int p1), .val (.int (p0.toInt8.toInt32)), .val (.int ((p0 ||| (128 : Int32)).toInt8.toInt32)), .val (.ref b6), .val (.int (nar .char (13 : Int32)))] [(.int (fSpecial (nar .char (13 : Int32))))]))
    refine Go.st (fun _ k => XS.ifYes X25.here hx rfl (pc0 := 83) (pc' := 88) rfl (hb hby at_83) rfl ((if0 _ _).trans (feq (by decide +kernel)).2) (by decide) (by decide) k) ?_
    show Go p e below _ (T25.setTop (mkF m 88 #[.val (.int p0), .val (.int p1), .val (.int (p0.toInt8.toInt32)), .val (.int ((p0 ||| (128 : Int32)).toInt8.toInt32)), .val (.ref b6), .val (.int (nar .char (13 : Int32)))] []))
    refine Go.st (fun _ k => XS.iload X25.here hx rfl (hb hby at_88) rfl k) ?_
    show Go p e below _ (T25.setTop (mkF m 90 #[.val (.int p0), .val (.int p1), .val (.int (p0.toInt8.toInt32)), .val (.int ((p0 ||| (128 : Int32)).toInt8.toInt32)), .val (.ref b6), .val (.int (nar .char (13 : Int32)))] [(.int (nar .char (13 : Int32)))]))
    refine Go.st (fun _ k => XS.iconst X25.here hx rfl (hb hby at_90) k) ?_
    show Go p e below _ (T25.setTop (mkF m 91 #[.val (.int p0), .val (.int p1), .val (.int (p0.toInt8.toInt32)), .val (.int ((p0 ||| (128 : Int32)).toInt8.toInt32)), .val (.ref b6), .val (.int (nar .char (13 : Int32)))] [(.int (1 : Int32)), (.int (nar .char (13 : Int32)))]))
    refine Go.st (fun _ k => XS.isub X25.here hx rfl (hb hby at_91) rfl k) ?_
    show Go p e below _ (T25.setTop (mkF m 92 #[.val (.int p0), .val (.int p1), .val (.int (p0.toInt8.toInt32)), .val (.int ((p0 ||| (128 : Int32)).toInt8.toInt32)), .val (.ref b6), .val (.int (nar .char (13 : Int32)))] [(.int ((nar .char (13 : Int32)) - (1 : Int32)))]))
    obtain ⟨_, _, ⟨T26, L26, k26, n26⟩, -, X26, ⟨Lc26, hQ26, l26, y26, z26⟩, st26⟩ := Jvm.LawKit.callS X25 hx (y := (⟨"com/example/drollover/drollover/cli/CsvReader", "isSpecial", "(I)Z"⟩ : MethodName)) hown (mvT hZ (hw _ (List.mem_of_getElem? (i := 0) rfl))) (mvT hZ (hw _ (List.mem_of_getElem? (i := 1) rfl))) (mvT hZ (hw _ (List.mem_of_getElem? (i := 2) rfl))) (mvT hZ (hw _ (List.mem_of_getElem? (i := 3) rfl))) (by decide) (backOf (W := 0) (rm1 l Z aZ hw [] ((nar .char (13 : Int32)) - (1 : Int32)) h14 n0 ) hZ (hw _ (List.mem_of_getElem? (i := 3) rfl)) (hw _ (List.mem_of_getElem? (i := 2) rfl)) (by decide) (by decide)) (g := (mkF m 92 #[.val (.int p0), .val (.int p1), .val (.int (p0.toInt8.toInt32)), .val (.int ((p0 ||| (128 : Int32)).toInt8.toInt32)), .val (.ref b6), .val (.int (nar .char (13 : Int32)))] [(.int ((nar .char (13 : Int32)) - (1 : Int32)))])) rfl (by rw [hml]; rfl) (argsL := [(.int ((nar .char (13 : Int32)) - (1 : Int32)))]) (rest := []) (lenOf pd56f531e rfl) rfl (by show 2 * 0 + _ ≤ _; exact Nat.le_of_eq rfl) (hb hby at_92) (fun _ _ => ⟨rfl, e25, (by decide : 1 + 0 ≤ _), (by decide : 4 + 0 ≤ _)⟩)
    dsimp only [Pt.U, Pt.locs, Pt.cells, Pt.slots] at X26 l26 y26 z26 st26 hQ26
    subst l26 y26 z26
    obtain ⟨rfl, N26q, e26⟩ := hQ26
    have N26 := Fr.app N25 N26q
    refine Go.st (fun _ k => st26 _ k) ?_
    show Go p e below _ (T26.setTop (mkF m 95 #[.val (.int p0), .val (.int p1), .val (.int (p0.toInt8.toInt32)), .val (.int ((p0 ||| (128 : Int32)).toInt8.toInt32)), .val (.ref b6), .val (.int (nar .char (13 : Int32)))] [(.int (fSpecial ((nar .char (13 : Int32)) - (1 : Int32))))]))
    refine Go.st (fun _ k => XS.ifYes X26.here hx rfl (pc0 := 95) (pc' := 100) rfl (hb hby at_95) rfl ((if0 _ _).trans (teq (by decide +kernel)).1) (by decide) (by decide) k) ?_
    show Go p e below _ (T26.setTop (mkF m 100 #[.val (.int p0), .val (.int p1), .val (.int (p0.toInt8.toInt32)), .val (.int ((p0 ||| (128 : Int32)).toInt8.toInt32)), .val (.ref b6), .val (.int (nar .char (13 : Int32)))] []))
    refine Go.st (fun _ k => XS.iload X26.here hx rfl (hb hby at_100) rfl k) ?_
    show Go p e below _ (T26.setTop (mkF m 102 #[.val (.int p0), .val (.int p1), .val (.int (p0.toInt8.toInt32)), .val (.int ((p0 ||| (128 : Int32)).toInt8.toInt32)), .val (.ref b6), .val (.int (nar .char (13 : Int32)))] [(.int (nar .char (13 : Int32)))]))
    refine Go.st (fun _ k => XS.iconst X26.here hx rfl (hb hby at_102) k) ?_
    show Go p e below _ (T26.setTop (mkF m 103 #[.val (.int p0), .val (.int p1), .val (.int (p0.toInt8.toInt32)), .val (.int ((p0 ||| (128 : Int32)).toInt8.toInt32)), .val (.ref b6), .val (.int (nar .char (13 : Int32)))] [(.int (1 : Int32)), (.int (nar .char (13 : Int32)))]))
    refine Go.st (fun _ k => XS.iadd X26.here hx rfl (hb hby at_103) rfl k) ?_
    show Go p e below _ (T26.setTop (mkF m 104 #[.val (.int p0), .val (.int p1), .val (.int (p0.toInt8.toInt32)), .val (.int ((p0 ||| (128 : Int32)).toInt8.toInt32)), .val (.ref b6), .val (.int (nar .char (13 : Int32)))] [(.int ((nar .char (13 : Int32)) + (1 : Int32)))]))
    obtain ⟨_, _, ⟨T27, L27, k27, n27⟩, -, X27, ⟨Lc27, hQ27, l27, y27, z27⟩, st27⟩ := Jvm.LawKit.callS X26 hx (y := (⟨"com/example/drollover/drollover/cli/CsvReader", "isSpecial", "(I)Z"⟩ : MethodName)) hown (mvT hZ (hw _ (List.mem_of_getElem? (i := 0) rfl))) (mvT hZ (hw _ (List.mem_of_getElem? (i := 1) rfl))) (mvT hZ (hw _ (List.mem_of_getElem? (i := 2) rfl))) (mvT hZ (hw _ (List.mem_of_getElem? (i := 3) rfl))) (by decide) (backOf (W := 0) (rm1 l Z aZ hw [] ((nar .char (13 : Int32)) + (1 : Int32)) h14 n0 ) hZ (hw _ (List.mem_of_getElem? (i := 3) rfl)) (hw _ (List.mem_of_getElem? (i := 2) rfl)) (by decide) (by decide)) (g := (mkF m 104 #[.val (.int p0), .val (.int p1), .val (.int (p0.toInt8.toInt32)), .val (.int ((p0 ||| (128 : Int32)).toInt8.toInt32)), .val (.ref b6), .val (.int (nar .char (13 : Int32)))] [(.int ((nar .char (13 : Int32)) + (1 : Int32)))])) rfl (by rw [hml]; rfl) (argsL := [(.int ((nar .char (13 : Int32)) + (1 : Int32)))]) (rest := []) (lenOf pd56f531e rfl) rfl (by show 2 * 0 + _ ≤ _; exact Nat.le_of_eq rfl) (hb hby at_104) (fun _ _ => ⟨rfl, e26, (by decide : 1 + 0 ≤ _), (by decide : 4 + 0 ≤ _)⟩)
    dsimp only [Pt.U, Pt.locs, Pt.cells, Pt.slots] at X27 l27 y27 z27 st27 hQ27
    subst l27 y27 z27
    obtain ⟨rfl, N27q, e27⟩ := hQ27
    have N27 := Fr.app N26 N27q
    refine Go.st (fun _ k => st27 _ k) ?_
    show Go p e below _ (T27.setTop (mkF m 107 #[.val (.int p0), .val (.int p1), .val (.int (p0.toInt8.toInt32)), .val (.int ((p0 ||| (128 : Int32)).toInt8.toInt32)), .val (.ref b6), .val (.int (nar .char (13 : Int32)))] [(.int (fSpecial ((nar .char (13 : Int32)) + (1 : Int32))))]))
    refine Go.st (fun _ k => XS.ifYes X27.here hx rfl (pc0 := 107) (pc' := 112) rfl (hb hby at_107) rfl ((if0 _ _).trans (teq (by decide +kernel)).1) (by decide) (by decide) k) ?_
    show Go p e below _ (T27.setTop (mkF m 112 #[.val (.int p0), .val (.int p1), .val (.int (p0.toInt8.toInt32)), .val (.int ((p0 ||| (128 : Int32)).toInt8.toInt32)), .val (.ref b6), .val (.int (nar .char (13 : Int32)))] []))
    refine Go.st (fun _ k => XS.iconst X27.here hx rfl (hb hby at_112) k) ?_
    show Go p e below _ (T27.setTop (mkF m 113 #[.val (.int p0), .val (.int p1), .val (.int (p0.toInt8.toInt32)), .val (.int ((p0 ||| (128 : Int32)).toInt8.toInt32)), .val (.ref b6), .val (.int (nar .char (13 : Int32)))] [(.int (1 : Int32))]))
    obtain ⟨fs, hr, hrun, hended, hW, hsame⟩ := X27.leave (v := some (.int (1 : Int32))) (fun h => by rw [Bd.returns] at h; cases h)
    refine ⟨_, _, retN X27 hx (t := .boolean) Bd.returns (by simp) (hb hby at_113) hr, hrun, hended, _, _, rfl, ?_, ⟨_, rfl⟩, hW, hsame.mono (by decide) (by decide)⟩
    show Q_rm0 Z p0 p1 h0 n0 _ T27.heap _
    rw [e27]
    exact ⟨rfl, N27⟩
  · rw [hr15]
    show Go p e below _ (T14.setTop (mkF m 75 #[.val (.int p0), .val (.int p1), .val (.int (p0.toInt8.toInt32)), .val (.int ((p0 ||| (128 : Int32)).toInt8.toInt32)), .val (.ref b6), .unset] [(.int (3 : Int32)), (.ref b6)]))
    obtain ⟨cl28, Ar28, ck28, Sz28, Nn28, Hs28, Gs28⟩ := id V14
    have hin28 : ¬ ((3 : Int32) < 0 ∨ cl28.slots.size ≤ ((3 : Int32)).toNatClampNeg) := inb_of Sz28 ⟨by decide, by decide⟩
    have hat28 : cl28.slots[((3 : Int32)).toNatClampNeg]? = some (.int (nar .char (10 : Int32))) := Hs28.at hin28 rfl
    refine Go.st (fun _ k => X14.caload hx (j := (3 : Int32)) (v := (.int (nar .char (10 : Int32)))) (by rw [e14]; exact Ar28.1) (State.isArrayOf_alike hZ.alike Ar28.2.1) Ar28.2.2 hin28 hat28 (g := (mkF m 75 #[.val (.int p0), .val (.int p1), .val (.int (p0.toInt8.toInt32)), .val (.int ((p0 ||| (128 : Int32)).toInt8.toInt32)), .val (.ref b6), .unset] [(.int (3 : Int32)), (.ref b6)])) rfl rfl (hb hby at_75) _ k) ?_
    show Go p e below _ (T14.setTop (mkF m 76 #[.val (.int p0), .val (.int p1), .val (.int (p0.toInt8.toInt32)), .val (.int ((p0 ||| (128 : Int32)).toInt8.toInt32)), .val (.ref b6), .unset] [(.int (nar .char (10 : Int32)))]))
    refine Go.st (fun _ k => XS.istore X14.here hx rfl (hb hby at_76) rfl (l' := #[.val (.int p0), .val (.int p1), .val (.int (p0.toInt8.toInt32)), .val (.int ((p0 ||| (128 : Int32)).toInt8.toInt32)), .val (.ref b6), .val (.int (nar .char (10 : Int32)))]) rfl k) ?_
    show Go p e below _ (T14.setTop (mkF m 78 #[.val (.int p0), .val (.int p1), .val (.int (p0.toInt8.toInt32)), .val (.int ((p0 ||| (128 : Int32)).toInt8.toInt32)), .val (.ref b6), .val (.int (nar .char (10 : Int32)))] []))
    refine Go.st (fun _ k => XS.iload X14.here hx rfl (hb hby at_78) rfl k) ?_
    show Go p e below _ (T14.setTop (mkF m 80 #[.val (.int p0), .val (.int p1), .val (.int (p0.toInt8.toInt32)), .val (.int ((p0 ||| (128 : Int32)).toInt8.toInt32)), .val (.ref b6), .val (.int (nar .char (10 : Int32)))] [(.int (nar .char (10 : Int32)))]))
    obtain ⟨_, _, ⟨T29, L29, k29, n29⟩, -, X29, ⟨Lc29, hQ29, l29, y29, z29⟩, st29⟩ := Jvm.LawKit.callS X14 hx (y := (⟨"com/example/drollover/drollover/cli/CsvReader", "isSpecial", "(I)Z"⟩ : MethodName)) hown (mvT hZ (hw _ (List.mem_of_getElem? (i := 0) rfl))) (mvT hZ (hw _ (List.mem_of_getElem? (i := 1) rfl))) (mvT hZ (hw _ (List.mem_of_getElem? (i := 2) rfl))) (mvT hZ (hw _ (List.mem_of_getElem? (i := 3) rfl))) (by decide) (backOf (W := 0) (rm1 l Z aZ hw [] (nar .char (10 : Int32)) h14 n0 ) hZ (hw _ (List.mem_of_getElem? (i := 3) rfl)) (hw _ (List.mem_of_getElem? (i := 2) rfl)) (by decide) (by decide)) (g := (mkF m 80 #[.val (.int p0), .val (.int p1), .val (.int (p0.toInt8.toInt32)), .val (.int ((p0 ||| (128 : Int32)).toInt8.toInt32)), .val (.ref b6), .val (.int (nar .char (10 : Int32)))] [(.int (nar .char (10 : Int32)))])) rfl (by rw [hml]; rfl) (argsL := [(.int (nar .char (10 : Int32)))]) (rest := []) (lenOf pd56f531e rfl) rfl (by show 2 * 0 + _ ≤ _; exact Nat.le_of_eq rfl) (hb hby at_80) (fun _ _ => ⟨rfl, e14, (by decide : 1 + 0 ≤ _), (by decide : 4 + 0 ≤ _)⟩)
    dsimp only [Pt.U, Pt.locs, Pt.cells, Pt.slots] at X29 l29 y29 z29 st29 hQ29
    subst l29 y29 z29
    obtain ⟨rfl, N29q, e29⟩ := hQ29
    have N29 := Fr.app N14 N29q
    refine Go.st (fun _ k => st29 _ k) ?_
    show Go p e below _ (T29.setTop (mkF m 83 #[.val (.int p0), .val (.int p1), .val (.int (p0.toInt8.toInt32)), .val (.int ((p0 ||| (128 : Int32)).toInt8.toInt32)), .val (.ref b6), .val (.int (nar .char (10 : Int32)))] [(.int (fSpecial (nar .char (10 : Int32))))]))
    refine Go.st (fun _ k => XS.ifYes X29.here hx rfl (pc0 := 83) (pc' := 88) rfl (hb hby at_83) rfl ((if0 _ _).trans (feq (by decide +kernel)).2) (by decide) (by decide) k) ?_
    show Go p e below _ (T29.setTop (mkF m 88 #[.val (.int p0), .val (.int p1), .val (.int (p0.toInt8.toInt32)), .val (.int ((p0 ||| (128 : Int32)).toInt8.toInt32)), .val (.ref b6), .val (.int (nar .char (10 : Int32)))] []))
    refine Go.st (fun _ k => XS.iload X29.here hx rfl (hb hby at_88) rfl k) ?_
    show Go p e below _ (T29.setTop (mkF m 90 #[.val (.int p0), .val (.int p1), .val (.int (p0.toInt8.toInt32)), .val (.int ((p0 ||| (128 : Int32)).toInt8.toInt32)), .val (.ref b6), .val (.int (nar .char (10 : Int32)))] [(.int (nar .char (10 : Int32)))]))
    refine Go.st (fun _ k => XS.iconst X29.here hx rfl (hb hby at_90) k) ?_
    show Go p e below _ (T29.setTop (mkF m 91 #[.val (.int p0), .val (.int p1), .val (.int (p0.toInt8.toInt32)), .val (.int ((p0 ||| (128 : Int32)).toInt8.toInt32)), .val (.ref b6), .val (.int (nar .char (10 : Int32)))] [(.int (1 : Int32)), (.int (nar .char (10 : Int32)))]))
    refine Go.st (fun _ k => XS.isub X29.here hx rfl (hb hby at_91) rfl k) ?_
    show Go p e below _ (T29.setTop (mkF m 92 #[.val (.int p0), .val (.int p1), .val (.int (p0.toInt8.toInt32)), .val (.int ((p0 ||| (128 : Int32)).toInt8.toInt32)), .val (.ref b6), .val (.int (nar .char (10 : Int32)))] [(.int ((nar .char (10 : Int32)) - (1 : Int32)))]))
    obtain ⟨_, _, ⟨T30, L30, k30, n30⟩, -, X30, ⟨Lc30, hQ30, l30, y30, z30⟩, st30⟩ := Jvm.LawKit.callS X29 hx (y := (⟨"com/example/drollover/drollover/cli/CsvReader", "isSpecial", "(I)Z"⟩ : MethodName)) hown (mvT hZ (hw _ (List.mem_of_getElem? (i := 0) rfl))) (mvT hZ (hw _ (List.mem_of_getElem? (i := 1) rfl))) (mvT hZ (hw _ (List.mem_of_getElem? (i := 2) rfl))) (mvT hZ (hw _ (List.mem_of_getElem? (i := 3) rfl))) (by decide) (backOf (W := 0) (rm1 l Z aZ hw [] ((nar .char (10 : Int32)) - (1 : Int32)) h14 n0 ) hZ (hw _ (List.mem_of_getElem? (i := 3) rfl)) (hw _ (List.mem_of_getElem? (i := 2) rfl)) (by decide) (by decide)) (g := (mkF m 92 #[.val (.int p0), .val (.int p1), .val (.int (p0.toInt8.toInt32)), .val (.int ((p0 ||| (128 : Int32)).toInt8.toInt32)), .val (.ref b6), .val (.int (nar .char (10 : Int32)))] [(.int ((nar .char (10 : Int32)) - (1 : Int32)))])) rfl (by rw [hml]; rfl) (argsL := [(.int ((nar .char (10 : Int32)) - (1 : Int32)))]) (rest := []) (lenOf pd56f531e rfl) rfl (by show 2 * 0 + _ ≤ _; exact Nat.le_of_eq rfl) (hb hby at_92) (fun _ _ => ⟨rfl, e29, (by decide : 1 + 0 ≤ _), (by decide : 4 + 0 ≤ _)⟩)
    dsimp only [Pt.U, Pt.locs, Pt.cells, Pt.slots] at X30 l30 y30 z30 st30 hQ30
    subst l30 y30 z30
    obtain ⟨rfl, N30q, e30⟩ := hQ30
    have N30 := Fr.app N29 N30q
    refine Go.st (fun _ k => st30 _ k) ?_
    show Go p e below _ (T30.setTop (mkF m 95 #[.val (.int p0), .val (.int p1), .val (.int (p0.toInt8.toInt32)), .val (.int ((p0 ||| (128 : Int32)).toInt8.toInt32)), .val (.ref b6), .val (.int (nar .char (10 : Int32)))] [(.int (fSpecial ((nar .char (10 : Int32)) - (1 : Int32))))]))
    refine Go.st (fun _ k => XS.ifYes X30.here hx rfl (pc0 := 95) (pc' := 100) rfl (hb hby at_95) rfl ((if0 _ _).trans (teq (by decide +kernel)).1) (by decide) (by decide) k) ?_
    show Go p e below _ (T30.setTop (mkF m 100 #[.val (.int p0), .val (.int p1), .val (.int (p0.toInt8.toInt32)), .val (.int ((p0 ||| (128 : Int32)).toInt8.toInt32)), .val (.ref b6), .val (.int (nar .char (10 : Int32)))] []))
    refine Go.st (fun _ k => XS.iload X30.here hx rfl (hb hby at_100) rfl k) ?_
    show Go p e below _ (T30.setTop (mkF m 102 #[.val (.int p0), .val (.int p1), .val (.int (p0.toInt8.toInt32)), .val (.int ((p0 ||| (128 : Int32)).toInt8.toInt32)), .val (.ref b6), .val (.int (nar .char (10 : Int32)))] [(.int (nar .char (10 : Int32)))]))
    refine Go.st (fun _ k => XS.iconst X30.here hx rfl (hb hby at_102) k) ?_
    show Go p e below _ (T30.setTop (mkF m 103 #[.val (.int p0), .val (.int p1), .val (.int (p0.toInt8.toInt32)), .val (.int ((p0 ||| (128 : Int32)).toInt8.toInt32)), .val (.ref b6), .val (.int (nar .char (10 : Int32)))] [(.int (1 : Int32)), (.int (nar .char (10 : Int32)))]))
    refine Go.st (fun _ k => XS.iadd X30.here hx rfl (hb hby at_103) rfl k) ?_
    show Go p e below _ (T30.setTop (mkF m 104 #[.val (.int p0), .val (.int p1), .val (.int (p0.toInt8.toInt32)), .val (.int ((p0 ||| (128 : Int32)).toInt8.toInt32)), .val (.ref b6), .val (.int (nar .char (10 : Int32)))] [(.int ((nar .char (10 : Int32)) + (1 : Int32)))]))
    obtain ⟨_, _, ⟨T31, L31, k31, n31⟩, -, X31, ⟨Lc31, hQ31, l31, y31, z31⟩, st31⟩ := Jvm.LawKit.callS X30 hx (y := (⟨"com/example/drollover/drollover/cli/CsvReader", "isSpecial", "(I)Z"⟩ : MethodName)) hown (mvT hZ (hw _ (List.mem_of_getElem? (i := 0) rfl))) (mvT hZ (hw _ (List.mem_of_getElem? (i := 1) rfl))) (mvT hZ (hw _ (List.mem_of_getElem? (i := 2) rfl))) (mvT hZ (hw _ (List.mem_of_getElem? (i := 3) rfl))) (by decide) (backOf (W := 0) (rm1 l Z aZ hw [] ((nar .char (10 : Int32)) + (1 : Int32)) h14 n0 ) hZ (hw _ (List.mem_of_getElem? (i := 3) rfl)) (hw _ (List.mem_of_getElem? (i := 2) rfl)) (by decide) (by decide)) (g := (mkF m 104 #[.val (.int p0), .val (.int p1), .val (.int (p0.toInt8.toInt32)), .val (.int ((p0 ||| (128 : Int32)).toInt8.toInt32)), .val (.ref b6), .val (.int (nar .char (10 : Int32)))] [(.int ((nar .char (10 : Int32)) + (1 : Int32)))])) rfl (by rw [hml]; rfl) (argsL := [(.int ((nar .char (10 : Int32)) + (1 : Int32)))]) (rest := []) (lenOf pd56f531e rfl) rfl (by show 2 * 0 + _ ≤ _; exact Nat.le_of_eq rfl) (hb hby at_104) (fun _ _ => ⟨rfl, e30, (by decide : 1 + 0 ≤ _), (by decide : 4 + 0 ≤ _)⟩)
    dsimp only [Pt.U, Pt.locs, Pt.cells, Pt.slots] at X31 l31 y31 z31 st31 hQ31
    subst l31 y31 z31
    obtain ⟨rfl, N31q, e31⟩ := hQ31
    have N31 := Fr.app N30 N31q
    refine Go.st (fun _ k => st31 _ k) ?_
    show Go p e below _ (T31.setTop (mkF m 107 #[.val (.int p0), .val (.int p1), .val (.int (p0.toInt8.toInt32)), .val (.int ((p0 ||| (128 : Int32)).toInt8.toInt32)), .val (.ref b6), .val (.int (nar .char (10 : Int32)))] [(.int (fSpecial ((nar .char (10 : Int32)) + (1 : Int32))))]))
    refine Go.st (fun _ k => XS.ifYes X31.here hx rfl (pc0 := 107) (pc' := 112) rfl (hb hby at_107) rfl ((if0 _ _).trans (teq (by decide +kernel)).1) (by decide) (by decide) k) ?_
    show Go p e below _ (T31.setTop (mkF m 112 #[.val (.int p0), .val (.int p1), .val (.int (p0.toInt8.toInt32)), .val (.int ((p0 ||| (128 : Int32)).toInt8.toInt32)), .val (.ref b6), .val (.int (nar .char (10 : Int32)))] []))
    refine Go.st (fun _ k => XS.iconst X31.here hx rfl (hb hby at_112) k) ?_
    show Go p e below _ (T31.setTop (mkF m 113 #[.val (.int p0), .val (.int p1), .val (.int (p0.toInt8.toInt32)), .val (.int ((p0 ||| (128 : Int32)).toInt8.toInt32)), .val (.ref b6), .val (.int (nar .char (10 : Int32)))] [(.int (1 : Int32))]))
    obtain ⟨fs, hr, hrun, hended, hW, hsame⟩ := X31.leave (v := some (.int (1 : Int32))) (fun h => by rw [Bd.returns] at h; cases h)
    refine ⟨_, _, retN X31 hx (t := .boolean) Bd.returns (by simp) (hb hby at_113) hr, hrun, hended, _, _, rfl, ?_, ⟨_, rfl⟩, hW, hsame.mono (by decide) (by decide)⟩
    show Q_rm0 Z p0 p1 h0 n0 _ T31.heap _
    rw [e31]
    exact ⟨rfl, N31⟩
set_option maxRecDepth 65536 in
set_option maxHeartbeats 40000000 in
theorem comes_1 {Post : Tables → Env → Array Value → State → Outcome → State → Prop} (hpost : ∀ tb e args s v u, (limb_1_1.after args s (.returned v) u = true ∧ limb_1_2.after args s (.returned v) u = true ∧ True) → FrameEnd s (.returned v) u (Jvm.fieldLocs frame_1_writes args s ++ Jvm.arrayLocs frame_1_arrays args s ++ Jvm.staticLocs frame_1_statics s) 16 128 → Post tb e args s (.returned v) u) :
    ArmFor flags0 classFile x code maxLocals ret World_1 tables_1 room_1 Calls_1 rest_1 Pre_1 Post := by
  intro l hfl _ _ p e ha hc hk s m args below hf hA hF happ hP
  obtain ⟨hcalls, hrest, hpre⟩ := hP
  obtain ⟨-, -, -, hnamed, -, -, -, hat⟩ := (Spec.applies_iff hf).mp happ
  obtain ⟨hg, hn⟩ := and_e (Cond.before_iff.mp (show (Jvm.Cond.and given_1 narrow_1).before args s = true from hpre))
  obtain ⟨g0, gr0⟩ := and_e hg
  obtain ⟨gi0, gr1⟩ := and_e gr0
  have gi1 := gr1
  obtain ⟨w0, w1, rfl⟩ : ∃ w0 w1 : Value, args = #[w0, w1] := by
    have hs : args.size = 2 := by simpa [Cond.value, given_1] using g0
    obtain ⟨L⟩ := args
    match L, hs with
    | [w0, w1], _ => exact ⟨w0, w1, rfl⟩
  have hw := fun d (hd : d ∈ tables_1) => atoms_spec (ws := Jvm.Cond.code x code maxLocals ret :: tables_1) hat d (List.mem_cons_of_mem _ hd)
  obtain ⟨i0, ei0⟩ := is_v gi0
  obtain rfl : w0 = (.int i0) := Option.some.inj ei0
  obtain ⟨i1, ei1⟩ := is_v gi1
  obtain rfl : w1 = (.int i1) := Option.some.inj ei1
  obtain ⟨n, o, h1, h2, h3, _, L, rfl, ⟨rfl, N⟩, hq⟩ := rm0 l s _ hw tables_1 i0 i1  s.heap s.heap.size (Nat.le_refl _) p e ha hc hk s m _ below hf ((Spec.applies_iff_loose hf).mp happ).1 ⟨rfl, State.Warmed39.refl s, rfl⟩ trivial
  refine ⟨n, _, h1, h2, h3, hpost _ _ _ _ _ _ ⟨Cond.after_iff.mpr rfl, Cond.after_iff.mpr (eq_i res_at (Term.int_eval (1)) rfl), trivial⟩ ⟨hq.1, hq.2.1, (hq.2.2.sift fun y hy => Or.inr (N y hy)).mono (by decide) (by decide)⟩⟩
theorem main_1_1 : Claimed_1_1 := comes_1 fun _ _ _ _ _ _ h hF => ⟨h.1, hF⟩
theorem main_1_2 : Claimed_1_2 := comes_1 fun _ _ _ _ _ _ h hF => ⟨h.2.1, hF⟩
end Jvm.Pilot.@@N@@
namespace Jvm.Pilot.@@N@@
open Jvm Jvm.ClassFile Sem Op Lib Jvm.Free Jvm.Stand Jvm.Pilot.@@N@@.Jvm.D
/-! MADE BY PROGRAM (witnessworld.py) out of the Statement's table words and the real class files: 12 classes; the members and pool entries that the words name. The judged class is class 1, her method 2. -/
namespace start1
open Jvm.ClassFile
def u (s : String) : CpInfo := .utf8 (stringToUtf16 s)
/-- a pool by its gaps: so many unusable entries, then the entry; so many at the end -/
def gap : Nat → List CpInfo → List CpInfo
  | 0, r => r
  | n + 1, r => .unusable :: gap n r
def poolList (es : List (Nat × CpInfo)) (last : Nat) : List CpInfo := es.foldr (fun e r => gap e.1 (e.2 :: r)) (gap last [])
def pool (es : List (Nat × CpInfo)) (last : Nat) : Array CpInfo := ⟨poolList es last⟩
def fileOf (pool : Array CpInfo) (this : Nat) (attrs : Array Attribute := #[]) (ms : Array MethodInfo := #[]) (fl : Nat := 33) (sup : Nat := 0) (ifs : Array Nat := #[]) (fds : Array FieldInfo := #[]) : ClassFile where
  minorVersion := 0
  majorVersion := 65
  constantPool := pool
  accessFlags := fl
  thisClass := this
  superClass := sup
  interfaces := ifs
  fields := fds
  methods := ms
  attributes := attrs
def plain (name : String) (sup : Option ClassId) : Class where
  name := name
  kind := .ordinary
  loader := none
  accessFlags := 33
  super := sup
  interfaces := #[]
  cf := none
  fields := #[]
  methods := #[]
  instanceTypes := #[]
  staticTypes := #[]
  resolved := #[]
  callSites := []
  init := .initialized
  statics := none
  mirror := none

def pool0 : Array CpInfo := pool [(5, u "<init>"), (0, u "()V"), (1, .class_ 10), (1, u "java/lang/Object")] 113

def k0m0 : Method := { name := "<init>", desc := "()V", sig := { parameters := [], returnType := none }, accessFlags := 1, code := none }
/-- java/lang/Object -/
def k0 : Class := { plain "java/lang/Object" none with
  accessFlags := 33
  interfaces := #[]
  cf := some (fileOf pool0 8 #[] #[{ accessFlags := 1, nameIndex := 5, descriptorIndex := 6, attributes := #[] }] 33 0 #[] #[])
  fields := #[]
  methods := #[k0m0]
  instanceTypes := #[]
  staticTypes := #[]
  resolved := Array.replicate 124 none
  statics := none }

def pool1 : Array CpInfo := pool [(2, .class_ 4), (1, u "java/lang/Object"), (0, u "<init>"), (0, u "()V"), (0, .methodref 8 9), (0, .class_ 10), (0, .nameAndType 11 12), (0, u "com/example/drollover/drollover/cli/CsvReader"), (0, u "isSpecial"), (0, u "(I)Z"), (0, .methodref 14 15), (0, .class_ 16), (0, .nameAndType 17 12), (0, u "com/example/drollover/drollover/cli/CsvReaderIsSpecialPinLaw"), (0, u "expected"), (3, u "law"), (0, u "(II)Z")] 4

def k1m0 : Method := { name := "<init>", desc := "()V", sig := { parameters := [], returnType := none }, accessFlags := 2, code := none }
def k1c1 : Code := { maxStack := 2, maxLocals := 1, code := method_2_code, exceptionTable := #[], attributes := #[] }
def k1m1 : Method := { name := "expected", desc := "(I)Z", sig := { parameters := [.int], returnType := some .boolean }, accessFlags := 10, code := some k1c1 }
def k1c2 : Code := { maxStack := 4, maxLocals := 6, code := code, exceptionTable := #[], attributes := #[] }
def k1m2 : Method := { name := "law", desc := "(II)Z", sig := { parameters := [.int, .int], returnType := some .boolean }, accessFlags := 9, code := some k1c2 }
/-- com/example/drollover/drollover/cli/CsvReaderIsSpecialPinLaw -/
def k1 : Class := { plain "com/example/drollover/drollover/cli/CsvReaderIsSpecialPinLaw" (some 0) with
  accessFlags := 49
  interfaces := #[]
  cf := some (fileOf pool1 14 #[] #[{ accessFlags := 2, nameIndex := 5, descriptorIndex := 6, attributes := #[] }, { accessFlags := 10, nameIndex := 17, descriptorIndex := 12, attributes := #[] }, { accessFlags := 9, nameIndex := 21, descriptorIndex := 22, attributes := #[] }] 49 2 #[] #[])
  fields := #[]
  methods := #[k1m0, k1m1, k1m2]
  instanceTypes := #[]
  staticTypes := #[]
  resolved := Array.replicate 27 none
  statics := none }

def pool2 : Array CpInfo := pool [(1, .class_ 2), (0, u "java/lang/AutoCloseable"), (0, .class_ 4), (0, u "java/lang/Object")] 7

/-- java/lang/AutoCloseable -/
def k2 : Class := { plain "java/lang/AutoCloseable" (some 0) with
  accessFlags := 1537
  interfaces := #[]
  cf := some (fileOf pool2 1 #[] #[] 1537 3 #[] #[])
  fields := #[]
  methods := #[]
  instanceTypes := #[]
  staticTypes := #[]
  resolved := Array.replicate 12 none
  statics := none }

def pool3 : Array CpInfo := pool [(4, .class_ 6), (1, u "com/example/drollover/drollover/cli/CsvReader"), (3, .class_ 12), (1, u "java/lang/Object"), (4, u "bytes"), (0, u "[B"), (6, u "end"), (0, u "J"), (2, u "line"), (0, u "I"), (5, u "names"), (0, u "Ljava/util/List;"), (2, u "optional"), (2, u "headerSize"), (2, u "copied"), (2, u "recordLine"), (2, u "file"), (0, u "Ljava/nio/file/Path;"), (2, u "in"), (0, u "Ljava/io/InputStream;"), (2, u "length"), (8, u "keptPositions"), (0, u "[J"), (2, u "places"), (0, u "[I"), (6, u "keptStarts"), (2, u "keptEnds"), (2, u "keptLines"), (2, u "offset"), (72, u "fieldCount"), (9, u "kept"), (1, .class_ 177), (1, u "com/example/drollover/drollover/cli/CsvReader$Parse"), (11, .class_ 191), (1, u "com/example/drollover/drollover/cli/CsvReader$IntParse"), (2, .class_ 196), (1, u "com/example/drollover/drollover/cli/CsvReader$LongParse"), (47, u "inPlace"), (0, u "Z"), (2, u "start"), (2, u "position"), (38, u "isSpecial"), (0, u "(I)Z"), (22, u "copiedLength"), (26, u "limit"), (2, u "fieldStart"), (2, u "fieldLine"), (2, u "fieldUnits"), (49, u "notUtf8"), (8, u "filled"), (2, u "ended"), (57, .class_ 471), (0, u "java/lang/AutoCloseable"), (0, u "MAX_FIELD_LENGTH"), (1, u "READ"), (0, u "END"), (1, u "IN_PLACE"), (1, u "QUOTED"), (1, u "CUT"), (1, u "ASCII_HIGH_BITS"), (0, u "NONE"), (0, u "ABSENT")] 90

def k3c0 : Code := { maxStack := 2, maxLocals := 1, code := prog_53_method_29_code, exceptionTable := #[], attributes := #[] }
def k3m0 : Method := { name := "isSpecial", desc := "(I)Z", sig := { parameters := [.int], returnType := some .boolean }, accessFlags := 8, code := some k3c0 }
/-- com/example/drollover/drollover/cli/CsvReader -/
def k3 : Class := { plain "com/example/drollover/drollover/cli/CsvReader" (some 0) with
  accessFlags := 48
  interfaces := #[2]
  cf := some (fileOf pool3 4 #[.nestMembers #[194, 189, 175]] #[{ accessFlags := 8, nameIndex := 290, descriptorIndex := 291, attributes := #[] }] 48 10 #[470] #[{ accessFlags := 24, nameIndex := 472, descriptorIndex := 30, attributes := #[] }, { accessFlags := 26, nameIndex := 474, descriptorIndex := 30, attributes := #[] }, { accessFlags := 26, nameIndex := 475, descriptorIndex := 30, attributes := #[] }, { accessFlags := 26, nameIndex := 477, descriptorIndex := 30, attributes := #[] }, { accessFlags := 26, nameIndex := 479, descriptorIndex := 30, attributes := #[] }, { accessFlags := 26, nameIndex := 481, descriptorIndex := 30, attributes := #[] }, { accessFlags := 26, nameIndex := 483, descriptorIndex := 26, attributes := #[] }, { accessFlags := 26, nameIndex := 484, descriptorIndex := 26, attributes := #[] }, { accessFlags := 26, nameIndex := 485, descriptorIndex := 30, attributes := #[] }, { accessFlags := 18, nameIndex := 52, descriptorIndex := 53, attributes := #[] }, { accessFlags := 18, nameIndex := 56, descriptorIndex := 57, attributes := #[] }, { accessFlags := 18, nameIndex := 60, descriptorIndex := 26, attributes := #[] }, { accessFlags := 18, nameIndex := 17, descriptorIndex := 18, attributes := #[] }, { accessFlags := 2, nameIndex := 251, descriptorIndex := 30, attributes := #[] }, { accessFlags := 2, nameIndex := 341, descriptorIndex := 30, attributes := #[] }, { accessFlags := 2, nameIndex := 409, descriptorIndex := 30, attributes := #[] }, { accessFlags := 2, nameIndex := 90, descriptorIndex := 26, attributes := #[] }, { accessFlags := 2, nameIndex := 248, descriptorIndex := 26, attributes := #[] }, { accessFlags := 2, nameIndex := 25, descriptorIndex := 26, attributes := #[] }, { accessFlags := 2, nameIndex := 400, descriptorIndex := 245, attributes := #[] }, { accessFlags := 2, nameIndex := 412, descriptorIndex := 245, attributes := #[] }, { accessFlags := 2, nameIndex := 29, descriptorIndex := 30, attributes := #[] }, { accessFlags := 18, nameIndex := 36, descriptorIndex := 37, attributes := #[] }, { accessFlags := 18, nameIndex := 40, descriptorIndex := 37, attributes := #[] }, { accessFlags := 2, nameIndex := 43, descriptorIndex := 26, attributes := #[] }, { accessFlags := 2, nameIndex := 69, descriptorIndex := 70, attributes := #[] }, { accessFlags := 2, nameIndex := 73, descriptorIndex := 74, attributes := #[] }, { accessFlags := 2, nameIndex := 173, descriptorIndex := 18, attributes := #[] }, { accessFlags := 2, nameIndex := 81, descriptorIndex := 74, attributes := #[] }, { accessFlags := 2, nameIndex := 84, descriptorIndex := 74, attributes := #[] }, { accessFlags := 2, nameIndex := 87, descriptorIndex := 74, attributes := #[] }, { accessFlags := 2, nameIndex := 244, descriptorIndex := 245, attributes := #[] }, { accessFlags := 2, nameIndex := 46, descriptorIndex := 18, attributes := #[] }, { accessFlags := 2, nameIndex := 314, descriptorIndex := 30, attributes := #[] }, { accessFlags := 2, nameIndex := 163, descriptorIndex := 26, attributes := #[] }, { accessFlags := 2, nameIndex := 49, descriptorIndex := 30, attributes := #[] }, { accessFlags := 2, nameIndex := 344, descriptorIndex := 30, attributes := #[] }, { accessFlags := 2, nameIndex := 347, descriptorIndex := 30, attributes := #[] }, { accessFlags := 2, nameIndex := 350, descriptorIndex := 26, attributes := #[] }])
  fields := #[{ name := "MAX_FIELD_LENGTH", type := .int, accessFlags := 24, slot := 0, constantValue := 0 }, { name := "READ", type := .int, accessFlags := 26, slot := 1, constantValue := 0 }, { name := "END", type := .int, accessFlags := 26, slot := 2, constantValue := 0 }, { name := "IN_PLACE", type := .int, accessFlags := 26, slot := 3, constantValue := 0 }, { name := "QUOTED", type := .int, accessFlags := 26, slot := 4, constantValue := 0 }, { name := "CUT", type := .int, accessFlags := 26, slot := 5, constantValue := 0 }, { name := "ASCII_HIGH_BITS", type := .long, accessFlags := 26, slot := 6, constantValue := 0 }, { name := "NONE", type := .long, accessFlags := 26, slot := 7, constantValue := 0 }, { name := "ABSENT", type := .int, accessFlags := 26, slot := 8, constantValue := 0 }, { name := "file", type := (.object "java/nio/file/Path"), accessFlags := 18, slot := 0, constantValue := 0 }, { name := "in", type := (.object "java/io/InputStream"), accessFlags := 18, slot := 1, constantValue := 0 }, { name := "length", type := .long, accessFlags := 18, slot := 2, constantValue := 0 }, { name := "bytes", type := (.array .byte), accessFlags := 18, slot := 3, constantValue := 0 }, { name := "position", type := .int, accessFlags := 2, slot := 4, constantValue := 0 }, { name := "limit", type := .int, accessFlags := 2, slot := 5, constantValue := 0 }, { name := "filled", type := .int, accessFlags := 2, slot := 6, constantValue := 0 }, { name := "offset", type := .long, accessFlags := 2, slot := 7, constantValue := 0 }, { name := "start", type := .long, accessFlags := 2, slot := 8, constantValue := 0 }, { name := "end", type := .long, accessFlags := 2, slot := 9, constantValue := 0 }, { name := "notUtf8", type := .boolean, accessFlags := 2, slot := 10, constantValue := 0 }, { name := "ended", type := .boolean, accessFlags := 2, slot := 11, constantValue := 0 }, { name := "line", type := .int, accessFlags := 2, slot := 12, constantValue := 0 }, { name := "names", type := (.object "java/util/List"), accessFlags := 18, slot := 13, constantValue := 0 }, { name := "optional", type := (.object "java/util/List"), accessFlags := 18, slot := 14, constantValue := 0 }, { name := "headerSize", type := .long, accessFlags := 2, slot := 15, constantValue := 0 }, { name := "keptPositions", type := (.array .long), accessFlags := 2, slot := 16, constantValue := 0 }, { name := "places", type := (.array .int), accessFlags := 2, slot := 17, constantValue := 0 }, { name := "kept", type := (.array .byte), accessFlags := 2, slot := 18, constantValue := 0 }, { name := "keptStarts", type := (.array .int), accessFlags := 2, slot := 19, constantValue := 0 }, { name := "keptEnds", type := (.array .int), accessFlags := 2, slot := 20, constantValue := 0 }, { name := "keptLines", type := (.array .int), accessFlags := 2, slot := 21, constantValue := 0 }, { name := "inPlace", type := .boolean, accessFlags := 2, slot := 22, constantValue := 0 }, { name := "copied", type := (.array .byte), accessFlags := 2, slot := 23, constantValue := 0 }, { name := "copiedLength", type := .int, accessFlags := 2, slot := 24, constantValue := 0 }, { name := "fieldCount", type := .long, accessFlags := 2, slot := 25, constantValue := 0 }, { name := "recordLine", type := .int, accessFlags := 2, slot := 26, constantValue := 0 }, { name := "fieldStart", type := .int, accessFlags := 2, slot := 27, constantValue := 0 }, { name := "fieldLine", type := .int, accessFlags := 2, slot := 28, constantValue := 0 }, { name := "fieldUnits", type := .long, accessFlags := 2, slot := 29, constantValue := 0 }]
  methods := #[k3m0]
  instanceTypes := #[(.object "java/nio/file/Path"), (.object "java/io/InputStream"), .long, (.array .byte), .int, .int, .int, .long, .long, .long, .boolean, .boolean, .int, (.object "java/util/List"), (.object "java/util/List"), .long, (.array .long), (.array .int), (.array .byte), (.array .int), (.array .int), (.array .int), .boolean, (.array .byte), .int, .long, .int, .int, .int, .long]
  staticTypes := #[.int, .int, .int, .int, .int, .int, .long, .long, .int]
  resolved := Array.replicate 576 none
  statics := none }

def pool4 : Array CpInfo := pool [(1, u "java/lang/Cloneable"), (0, .class_ 1), (0, u "java/lang/Object"), (0, .class_ 3)] 3

/-- java/lang/Cloneable -/
def k4 : Class := { plain "java/lang/Cloneable" (some 0) with
  accessFlags := 1537
  interfaces := #[]
  cf := some (fileOf pool4 2 #[] #[] 1537 4 #[] #[])
  fields := #[]
  methods := #[]
  instanceTypes := #[]
  staticTypes := #[]
  resolved := Array.replicate 8 none
  statics := none }

def pool5 : Array CpInfo := pool [(1, u "java/io/Serializable"), (0, .class_ 1), (0, u "java/lang/Object"), (0, .class_ 3)] 3

/-- java/io/Serializable -/
def k5 : Class := { plain "java/io/Serializable" (some 0) with
  accessFlags := 1537
  interfaces := #[]
  cf := some (fileOf pool5 2 #[] #[] 1537 4 #[] #[])
  fields := #[]
  methods := #[]
  instanceTypes := #[]
  staticTypes := #[]
  resolved := Array.replicate 8 none
  statics := none }

/-- the primitive byte -/
def k6 : Class := { plain "byte" none with kind := .primitive 'B', accessFlags := 0x411 }
/-- [B -/
def k7 : Class := { plain "[B" (some 0) with kind := .array 6 .byte, interfaces := #[4, 5], accessFlags := 1041 }

/-- the primitive char -/
def k8 : Class := { plain "char" none with kind := .primitive 'C', accessFlags := 0x411 }
/-- [C -/
def k9 : Class := { plain "[C" (some 0) with kind := .array 8 .char, interfaces := #[4, 5], accessFlags := 1041 }

/-- the primitive int -/
def k10 : Class := { plain "int" none with kind := .primitive 'I', accessFlags := 0x411 }
/-- [I -/
def k11 : Class := { plain "[I" (some 0) with kind := .array 10 .int, interfaces := #[4, 5], accessFlags := 1041 }

def heap : Heap := #[]
def classes : Array Class := #[k0, k1, k2, k3, k4, k5, k6, k7, k8, k9, k10, k11]
def interned : List (Array UInt16 × Addr) := []
def slotsUsed : Nat := 0
def theMethod : MethodId := ⟨1, 2⟩
def args0 : Array Value := #[.int 5, .int 6]
def aboutOver (below : List Frame) : State where
  vm := { classes := classes, interned := interned.toArray }
  heap := heap
  slotsUsed := slotsUsed
  threads := #[{ frames := .invoking theMethod args0 :: below }]
def below0 : List Frame := [.native { method := ⟨0, 0⟩, args := #[] }]
def about1 : State := aboutOver below0
def p0 : Program := .bare "" "" ""
def e0 : Env := launch0.env 0 0 0
theorem w_frames : about1.frames = Frame.invoking theMethod args0 :: below0 := rfl
set_option maxRecDepth 65536 in
theorem w_args : argsFit about1.vm theMethod args0 = true := by decide +kernel
set_option maxRecDepth 65536 in
theorem w_heap : heapFits about1 = true := by decide +kernel
set_option maxRecDepth 65536 in
theorem w_runnable : about1.curStatus? = some .runnable := by decide +kernel
set_option maxRecDepth 65536 in
theorem w_alone : about1.alone = true := by decide +kernel
set_option maxRecDepth 65536 in
theorem w_named : about1.methodNamed? x = some theMethod := by decide +kernel
set_option maxRecDepth 65536 in
theorem w_hears : about1.hears theMethod below0 = true := by decide +kernel
set_option maxRecDepth 65536 in
theorem w_ripe : about1.ripe theMethod args0 below0 = true := by decide +kernel
theorem w_running : about1.status = .running := rfl
set_option maxRecDepth 65536 in
theorem w_room : about1.hasRoom e0.platform room_1 = true :=
  launch0.hasRoom_least _ room_1 (by decide +kernel) (by decide +kernel) (by decide +kernel) (by decide +kernel) (by decide +kernel) (by decide +kernel)
theorem allAtoms_all (ts : List Jvm.Cond) (a : Array Jvm.Value) (st : Jvm.State) : (allAtoms ts).before a st = ts.all (fun c => c.before a st) := by
  induction ts with
  | nil => rfl
  | cons c t ih =>
    show (Jvm.Cond.and c (allAtoms t)).before a st = _
    rw [Jvm.Cond.before_and, ih, List.all_cons]
def words1 : List Jvm.Cond := Jvm.Cond.code x code maxLocals ret :: tables_1
/-- a 'code' word, met by the world's own term for the bytes: nothing is compared byte by byte -/
theorem code_word {y : MethodName} {bytes : ByteArray} {mx : Nat} {rt : Option FieldType} {a : Array Value} {s : State} {m : MethodId} {meth : Method} {c : Code} (h1 : s.methodNamed? y = some m) (h2 : s.vm.method? m = some meth) (h3 : meth.code = some c) (h4 : c.code = bytes)
    (h5 : (c.maxLocals == mx && c.exceptionTable.isEmpty && decide (c.maxStack ≤ mostOperands) && decide (meth.sig.returnType = rt) && !meth.locks && decide (parseMethodDescriptor y.desc = some meth.sig)) = true) : (Jvm.Cond.code y bytes mx rt).before a s = true := by
  simp only [Bool.and_eq_true, beq_iff_eq, Bool.not_eq_true', decide_eq_true_eq] at h5
  obtain ⟨⟨⟨⟨⟨g1, g2⟩, g3⟩, g4⟩, g5⟩, g6⟩ := h5
  simp [Cond.before, Cond.holds, Cond.value, h1, h2, h3, h4, g1, g2, g3, g4, g5, g6]
def isCode : Jvm.Cond → Bool
  | .code _ _ _ _ => true
  | _ => false
theorem all_split {L : List Jvm.Cond} {P : Jvm.Cond → Bool} (h1 : L.all (fun c => isCode c || P c) = true) (h2 : ∀ c ∈ L.filter isCode, P c = true) : L.all P = true := by
  refine List.all_eq_true.mpr fun c hc => ?_
  have h := List.all_eq_true.mp h1 c hc
  rcases Bool.eq_false_or_eq_true (isCode c) with hi | hi
  · exact h2 c (List.mem_filter.mpr ⟨hc, hi⟩)
  · simpa [hi] using h
set_option maxRecDepth 65536 in
theorem w_c0 : (Jvm.Cond.code x code maxLocals ret).before args0 about1 = true := code_word (m := ⟨1, 2⟩) (meth := k1m2) (c := k1c2) (by decide +kernel) rfl rfl rfl (by decide +kernel)
set_option maxRecDepth 65536 in
theorem w_c1 : (Jvm.Cond.code ({ cls := "com/example/drollover/drollover/cli/CsvReader", name := "isSpecial", desc := "(I)Z" } : Jvm.MethodName) prog_53_method_29_code (1 : Nat) (Option.some Jvm.ClassFile.FieldType.boolean)).before args0 about1 = true := code_word (m := ⟨3, 0⟩) (meth := k3m0) (c := k3c0) (by decide +kernel) rfl rfl rfl (by decide +kernel)
set_option maxRecDepth 65536 in
theorem w_c2 : (Jvm.Cond.code ({ cls := "com/example/drollover/drollover/cli/CsvReaderIsSpecialPinLaw", name := "expected", desc := "(I)Z" } : Jvm.MethodName) method_2_code (1 : Nat) (Option.some Jvm.ClassFile.FieldType.boolean)).before args0 about1 = true := code_word (m := ⟨1, 1⟩) (meth := k1m1) (c := k1c1) (by decide +kernel) rfl rfl rfl (by decide +kernel)
def codes1 : List Jvm.Cond := [Jvm.Cond.code x code maxLocals ret, Jvm.Cond.code ({ cls := "com/example/drollover/drollover/cli/CsvReader", name := "isSpecial", desc := "(I)Z" } : Jvm.MethodName) prog_53_method_29_code (1 : Nat) (Option.some Jvm.ClassFile.FieldType.boolean), Jvm.Cond.code ({ cls := "com/example/drollover/drollover/cli/CsvReaderIsSpecialPinLaw", name := "expected", desc := "(I)Z" } : Jvm.MethodName) method_2_code (1 : Nat) (Option.some Jvm.ClassFile.FieldType.boolean)]
set_option maxRecDepth 65536 in
theorem codes_eq : words1.filter isCode = codes1 := rfl
theorem w_codes : ∀ c ∈ words1.filter isCode, c.before args0 about1 = true := by
  rw [codes_eq]
  intro c hc
  simp only [codes1, List.mem_cons, List.not_mem_nil, or_false] at hc
  rcases hc with rfl | rfl | rfl
  · exact w_c0
  · exact w_c1
  · exact w_c2
set_option maxRecDepth 65536 in
theorem w_t1 : words1.all (fun c => isCode c || c.before args0 about1) = true := by decide +kernel
theorem w_tables : (allAtoms (Jvm.Cond.code x code maxLocals ret :: tables_1)).before args0 about1 = true := by
  rw [allAtoms_all]
  show words1.all (fun c => c.before args0 about1) = true
  refine all_split ?_ w_codes
  rw [w_t1]
set_option maxRecDepth 65536 in
theorem w_case : (Jvm.Cond.and given_1 narrow_1).before args0 about1 = true := by decide +kernel
theorem w_applies : (headSpec (Jvm.Cond.code x code maxLocals ret :: tables_1) room_1).applies x e0.platform about1 = true :=
  (Spec.applies_iff w_frames).mpr ⟨w_running, w_runnable, w_alone, w_named, w_hears, w_ripe, w_room, w_tables⟩
theorem atStart : AtStart classFile x code maxLocals ret World_1 tables_1 room_1 Calls_1 rest_1 Pre_1 launch0 p0 e0 about1 theMethod args0 below0 :=
  ⟨lists_1, trivial, launch0.admits_env _ _ _, launch0.least_env, fairChoices_fair.cas, fairChoices_fair.clock, w_frames, w_args, w_heap, w_applies, trivial, trivial, w_case⟩
end start1
theorem witness_1 : WitnessClaimed_1 := ⟨start1.p0, start1.e0, start1.about1, start1.theMethod, start1.args0, start1.below0, start1.atStart⟩
end Jvm.Pilot.@@N@@
