import JvmDerived
import JvmDerived.Pilot.@@N@@Statement
import JvmDerived.Pilot.@@N@@Code
set_option linter.unusedVariables false
set_option linter.unusedSimpArgs false
namespace Jvm.RoadKit
open Sem ClassFile Op Lib Jvm.Stand Jvm.Free Jvm.LawKit
section New
variable {p : Program} {l : Launch} {e : Env} {R : Room} {s : State} {m : MethodId} {args : Array Value} {below : List Frame} {meth : Method} {c : Code} {T : State} {locs : List Loc} {cells slots : Nat}
theorem retI (X : Stand p l e R s m args below meth c T locs cells slots) (hx : p.tables.exec = Jvm.exec) {pc : Nat} {Ls : Array Slot} {z : Int32} {rest : List Value} (hret : meth.sig.returnType = some .int) (hd : decode c.code pc = .ok (.ireturn, 1)) {fs : List Frame}
    (hl : ∀ (f : JFrame) (acts : List Action), f.method = m → f.locked = none → f.entered = [] → (doReturn e (T.setTop f) acts (some (.int z))).1 = T.setFrames fs) : Steps p.tables e below (T.setTop (mkF m pc Ls (.int z :: rest))) (T.setFrames fs) := by
  have hm' : T.vm.method? m = some meth := X.method'
  have hn : narrow .int (.int z) = .int z := rfl
  show Steps p.tables e below (T.setTop { method := m, pc := pc, locals := Ls, stack := _ :: rest, locked := none }) _
  jvm_step X.here [X.here.top, hx, hd, hm', hret, hn]
  first | (intro acts; rw [hl _ acts rfl rfl rfl]) | rw [hl _ _ rfl rfl rfl]
  exact Steps.refl _
theorem retJ (X : Stand p l e R s m args below meth c T locs cells slots) (hx : p.tables.exec = Jvm.exec) {pc : Nat} {Ls : Array Slot} {z : Int64} {rest : List Value} (hret : meth.sig.returnType = some .long) (hd : decode c.code pc = .ok (.lreturn, 1)) {fs : List Frame}
    (hl : ∀ (f : JFrame) (acts : List Action), f.method = m → f.locked = none → f.entered = [] → (doReturn e (T.setTop f) acts (some (.long z))).1 = T.setFrames fs) : Steps p.tables e below (T.setTop (mkF m pc Ls (.long z :: rest))) (T.setFrames fs) := by
  have hm' : T.vm.method? m = some meth := X.method'
  have hn : narrow .long (.long z) = .long z := rfl
  show Steps p.tables e below (T.setTop { method := m, pc := pc, locals := Ls, stack := _ :: rest, locked := none }) _
  jvm_step X.here [X.here.top, hx, hd, hm', hret, hn]
  first | (intro acts; rw [hl _ acts rfl rfl rfl]) | rw [hl _ _ rfl rfl rfl]
  exact Steps.refl _
theorem retA (X : Stand p l e R s m args below meth c T locs cells slots) (hx : p.tables.exec = Jvm.exec) {pc : Nat} {Ls : Array Slot} {z : Value} {t : FieldType} {rest : List Value} (hret : meth.sig.returnType = some t) (ht : t.isReference = true) (hz : z.isRef = true) (hd : decode c.code pc = .ok (.areturn, 1)) {fs : List Frame}
    (hl : ∀ (f : JFrame) (acts : List Action), f.method = m → f.locked = none → f.entered = [] → (doReturn e (T.setTop f) acts (some z)).1 = T.setFrames fs) : Steps p.tables e below (T.setTop (mkF m pc Ls (z :: rest))) (T.setFrames fs) := by
  have hm' : T.vm.method? m = some meth := X.method'
  show Steps p.tables e below (T.setTop { method := m, pc := pc, locals := Ls, stack := _ :: rest, locked := none }) _
  jvm_step X.here [X.here.top, hx, hd, hm', hret, ht, hz]
  first | (intro acts; rw [hl _ acts rfl rfl rfl]) | rw [hl _ _ rfl rfl rfl]
  exact Steps.refl _
end New
end Jvm.RoadKit
@@BLOCK:NumsL.lean.txt@@
@@BLOCK:Masks.lean.txt@@
namespace Jvm.Pilot.@@N@@
open Jvm Jvm.ClassFile Sem Op Lib Jvm.Free Jvm.Stand Jvm.LawKit Jvm.RoadKit Bundle Jvm.Pilot.@@N@@.Jvm.D
/-- the run comes from st to an end of which F holds -/
abbrev Go (p : Program) (e : Env) (below : List Frame) (F : Outcome → State → Prop) (st : State) : Prop := ∃ t o, Steps p.tables e below st t ∧ t.status = .running ∧ Ended t below o ∧ F o t
theorem Go.st {p : Program} {e : Env} {below : List Frame} {F : Outcome → State → Prop} {a b : State} (h : ∀ t, Steps p.tables e below b t → Steps p.tables e below a t) (k : Go p e below F b) : Go p e below F a := by
  obtain ⟨t, o, h1, h2⟩ := k
  exact ⟨t, o, h t h1, h2⟩
/-- Java's x % y -/
abbrev jrem (x y : Int32) : Int32 := x - (x / y) * y
abbrev jremL (x y : Int64) : Int64 := x - (x / y) * y
theorem Go.cast {p : Program} {e : Env} {below : List Frame} {F : Outcome → State → Prop} {a b : State} (h : a = b) (k : Go p e below F b) : Go p e below F a := h ▸ k
theorem d1_0 : decode prog_73_method_2_code 0 = .ok (.lload_n 0, 1) := by decide +kernel
theorem d1_1 : decode prog_73_method_2_code 1 = .ok (.ldc2_w 206, 3) := by decide +kernel
theorem d1_4 : decode prog_73_method_2_code 4 = .ok (.lmul, 1) := by decide +kernel
theorem d1_5 : decode prog_73_method_2_code 5 = .ok (.lload_n 2, 1) := by decide +kernel
theorem d1_6 : decode prog_73_method_2_code 6 = .ok (.ladd, 1) := by decide +kernel
theorem d1_7 : decode prog_73_method_2_code 7 = .ok (.lstore 6, 2) := by decide +kernel
theorem d1_9 : decode prog_73_method_2_code 9 = .ok (.lload 6, 2) := by decide +kernel
theorem d1_11 : decode prog_73_method_2_code 11 = .ok (.lload 6, 2) := by decide +kernel
theorem d1_13 : decode prog_73_method_2_code 13 = .ok (.bipush 30, 2) := by decide +kernel
theorem d1_15 : decode prog_73_method_2_code 15 = .ok (.lushr, 1) := by decide +kernel
theorem d1_16 : decode prog_73_method_2_code 16 = .ok (.lxor, 1) := by decide +kernel
theorem d1_17 : decode prog_73_method_2_code 17 = .ok (.ldc2_w 208, 3) := by decide +kernel
theorem d1_20 : decode prog_73_method_2_code 20 = .ok (.lmul, 1) := by decide +kernel
theorem d1_21 : decode prog_73_method_2_code 21 = .ok (.lload 4, 2) := by decide +kernel
theorem d1_23 : decode prog_73_method_2_code 23 = .ok (.ladd, 1) := by decide +kernel
theorem d1_24 : decode prog_73_method_2_code 24 = .ok (.lstore 6, 2) := by decide +kernel
theorem d1_26 : decode prog_73_method_2_code 26 = .ok (.lload 6, 2) := by decide +kernel
theorem d1_28 : decode prog_73_method_2_code 28 = .ok (.lload 6, 2) := by decide +kernel
theorem d1_30 : decode prog_73_method_2_code 30 = .ok (.bipush 27, 2) := by decide +kernel
theorem d1_32 : decode prog_73_method_2_code 32 = .ok (.lushr, 1) := by decide +kernel
theorem d1_33 : decode prog_73_method_2_code 33 = .ok (.lxor, 1) := by decide +kernel
theorem d1_34 : decode prog_73_method_2_code 34 = .ok (.ldc2_w 210, 3) := by decide +kernel
theorem d1_37 : decode prog_73_method_2_code 37 = .ok (.lmul, 1) := by decide +kernel
theorem d1_38 : decode prog_73_method_2_code 38 = .ok (.lstore 6, 2) := by decide +kernel
theorem d1_40 : decode prog_73_method_2_code 40 = .ok (.lload 6, 2) := by decide +kernel
theorem d1_42 : decode prog_73_method_2_code 42 = .ok (.lload 6, 2) := by decide +kernel
theorem d1_44 : decode prog_73_method_2_code 44 = .ok (.bipush 31, 2) := by decide +kernel
theorem d1_46 : decode prog_73_method_2_code 46 = .ok (.lushr, 1) := by decide +kernel
theorem d1_47 : decode prog_73_method_2_code 47 = .ok (.lxor, 1) := by decide +kernel
theorem d1_48 : decode prog_73_method_2_code 48 = .ok (.lreturn, 1) := by decide +kernel
theorem pn_1 : plainName "terselink/tlk/TlkIndex" = true := by first | (simp [plainName, overriddenIn]; done) | decide +kernel
theorem ef_rm1 (m : MethodId) (q0 : Int64) (q1 : Int64) (q2 : Int64) : entryFrame m #[(.long q0), (.long q1), (.long q2)] 8 = mkF m 0 #[.val (.long q0), .second, .val (.long q1), .second, .val (.long q2), .second, .unset, .unset] [] := by first | (simp [entryFrame, mkF, argsToLocals, Value.category]; done) | rfl
def fHash (q0 : Int64) (q1 : Int64) (q2 : Int64) : Int64 := let v1 : Int64 := ((q0 * (-7046029254386353131 : Int64)) + q1); let v2 : Int64 := (((v1 ^^^ ((v1.toUInt64 >>> ((30 : Int32) &&& 0x3f).toInt64.toUInt64).toInt64)) * (-4658895280553007687 : Int64)) + q2); let v3 : Int64 := ((v2 ^^^ ((v2.toUInt64 >>> ((27 : Int32) &&& 0x3f).toInt64.toUInt64).toInt64)) * (-7723592293110705685 : Int64)); (v3 ^^^ ((v3.toUInt64 >>> ((31 : Int32) &&& 0x3f).toInt64.toUInt64).toInt64))
def Q_rm1 (Z : State) (q0 : Int64) (q1 : Int64) (q2 : Int64) (h0 : Heap) (n0 : Nat) (v : Option Value) (h : Heap) (L : List Loc) : Prop := v = some (.long (fHash q0 q1 q2)) ∧ Fr n0 L ∧ h = h0
abbrev F_rm1 (Z : State) (q0 : Int64) (q1 : Int64) (q2 : Int64) (h0 : Heap) (n0 : Nat) (s : State) (o : Outcome) (U : State) : Prop := ∃ v L, o = .returned v ∧ Q_rm1 Z q0 q1 q2 h0 n0 v U.heap L ∧ FrameEnd s o U L 0 0
set_option maxRecDepth 65536 in
set_option maxHeartbeats 40000000 in
theorem rm1 (l : Launch) (Z : State) (aZ : Array Value) (hw : ∀ d ∈ tables_1, d.before aZ Z = true) (ws : List Jvm.Cond) (q0 : Int64) (q1 : Int64) (q2 : Int64) (h0 : Heap) (n0 : Nat) :
    MetFree l (⟨"terselink/tlk/TlkIndex", "hash", "(JJJ)J"⟩ : MethodName) (head1 (Jvm.Cond.code (⟨"terselink/tlk/TlkIndex", "hash", "(JJJ)J"⟩ : MethodName) prog_73_method_2_code 8 (some .long) :: ws) ({ frames := 0, cells := 0, slots := 0, locals := 0 } : Room)) (fun a U => a = #[(.long q0), (.long q1), (.long q2)] ∧ Z.Warmed39 U.vm ∧ U.heap = h0) (fun _ _ _ _ _ => True) (fun _ U o U' => ∃ v L, o = .returned v ∧ Q_rm1 Z q0 q1 q2 h0 n0 v U'.heap L ∧ FrameEnd U o U' L 0 0) := by
  refine MetFree.of_bodySF (plainFor_of_name pn_1) hisR ?_
  intro p e s m args below meth c s₁ Bd hml0 hP hK
  obtain ⟨rfl, hZ, hh⟩ := hP
  have hx := Bd.exec
  have hby := Bd.bytes
  have hml : c.maxLocals = 8 := hml0
  have hown : s.vm.findClass "terselink/tlk/TlkIndex" = some m.cls := findClass_of_methodNamed Bd.named
  have hnm := (name_of_methodNamed Bd.named Bd.method).1
  have X0 : Stand p l e ({ frames := 0, cells := 0, slots := 0, locals := 0 } : Room) s m #[(.long q0), (.long q1), (.long q2)] below meth c s₁ [] 0 0 := Stand.of_body Bd
  have e0 : s₁.heap = h0 := by rw [← hh, Bd.state]; rfl
  have N0 := Fr.nil n0
  refine Go.st (fun _ k => castTop (ef_rm1 m q0 q1 q2) k) ?_
  show Go p e below _ (s₁.setTop (mkF m 0 #[.val (.long q0), .second, .val (.long q1), .second, .val (.long q2), .second, .unset, .unset] []))
  refine Go.st (fun _ k => XS.lloadN X0.here hx rfl (hb hby d1_0) rfl k) ?_
  show Go p e below _ (s₁.setTop (mkF m 1 #[.val (.long q0), .second, .val (.long q1), .second, .val (.long q2), .second, .unset, .unset] [(.long q0)]))
  refine Go.st (fun _ k => X0.ldc2Long hx hown (mvT hZ (hw _ (List.mem_of_getElem? (i := 4) rfl))) (g := (mkF m 1 #[.val (.long q0), .second, .val (.long q1), .second, .val (.long q2), .second, .unset, .unset] [(.long q0)])) rfl (hb hby d1_1) _ k) ?_
  show Go p e below _ (s₁.setTop (mkF m 4 #[.val (.long q0), .second, .val (.long q1), .second, .val (.long q2), .second, .unset, .unset] [(.long (-7046029254386353131 : Int64)), (.long q0)]))
  refine Go.st (fun _ k => XS.lmul X0.here hx rfl (hb hby d1_4) rfl k) ?_
  show Go p e below _ (s₁.setTop (mkF m 5 #[.val (.long q0), .second, .val (.long q1), .second, .val (.long q2), .second, .unset, .unset] [(.long (q0 * (-7046029254386353131 : Int64)))]))
  refine Go.st (fun _ k => XS.lloadN X0.here hx rfl (hb hby d1_5) rfl k) ?_
  show Go p e below _ (s₁.setTop (mkF m 6 #[.val (.long q0), .second, .val (.long q1), .second, .val (.long q2), .second, .unset, .unset] [(.long q1), (.long (q0 * (-7046029254386353131 : Int64)))]))
  refine Go.st (fun _ k => XS.ladd X0.here hx rfl (hb hby d1_6) rfl k) ?_
  show Go p e below _ (s₁.setTop (mkF m 7 #[.val (.long q0), .second, .val (.long q1), .second, .val (.long q2), .second, .unset, .unset] [(.long ((q0 * (-7046029254386353131 : Int64)) + q1))]))
  generalize hv1 : ((q0 * (-7046029254386353131 : Int64)) + q1) = v1
  refine Go.st (fun _ k => XS.lstore X0.here hx rfl (hb hby d1_7) rfl (l' := #[.val (.long q0), .second, .val (.long q1), .second, .val (.long q2), .second, .val (.long v1), .second]) rfl k) ?_
  show Go p e below _ (s₁.setTop (mkF m 9 #[.val (.long q0), .second, .val (.long q1), .second, .val (.long q2), .second, .val (.long v1), .second] []))
  refine Go.st (fun _ k => XS.lload X0.here hx rfl (hb hby d1_9) rfl k) ?_
  show Go p e below _ (s₁.setTop (mkF m 11 #[.val (.long q0), .second, .val (.long q1), .second, .val (.long q2), .second, .val (.long v1), .second] [(.long v1)]))
  refine Go.st (fun _ k => XS.lload X0.here hx rfl (hb hby d1_11) rfl k) ?_
  show Go p e below _ (s₁.setTop (mkF m 13 #[.val (.long q0), .second, .val (.long q1), .second, .val (.long q2), .second, .val (.long v1), .second] [(.long v1), (.long v1)]))
  refine Go.st (fun _ k => XS.bipush X0.here hx rfl (hb hby d1_13) k) ?_
  show Go p e below _ (s₁.setTop (mkF m 15 #[.val (.long q0), .second, .val (.long q1), .second, .val (.long q2), .second, .val (.long v1), .second] [(.int (30 : Int32)), (.long v1), (.long v1)]))
  refine Go.st (fun _ k => XS.lushr X0.here hx rfl (hb hby d1_15) rfl k) ?_
  show Go p e below _ (s₁.setTop (mkF m 16 #[.val (.long q0), .second, .val (.long q1), .second, .val (.long q2), .second, .val (.long v1), .second] [(.long ((v1.toUInt64 >>> ((30 : Int32) &&& 0x3f).toInt64.toUInt64).toInt64)), (.long v1)]))
  refine Go.st (fun _ k => XS.lxor X0.here hx rfl (hb hby d1_16) rfl k) ?_
  show Go p e below _ (s₁.setTop (mkF m 17 #[.val (.long q0), .second, .val (.long q1), .second, .val (.long q2), .second, .val (.long v1), .second] [(.long (v1 ^^^ ((v1.toUInt64 >>> ((30 : Int32) &&& 0x3f).toInt64.toUInt64).toInt64)))]))
  refine Go.st (fun _ k => X0.ldc2Long hx hown (mvT hZ (hw _ (List.mem_of_getElem? (i := 5) rfl))) (g := (mkF m 17 #[.val (.long q0), .second, .val (.long q1), .second, .val (.long q2), .second, .val (.long v1), .second] [(.long (v1 ^^^ ((v1.toUInt64 >>> ((30 : Int32) &&& 0x3f).toInt64.toUInt64).toInt64)))])) rfl (hb hby d1_17) _ k) ?_
  show Go p e below _ (s₁.setTop (mkF m 20 #[.val (.long q0), .second, .val (.long q1), .second, .val (.long q2), .second, .val (.long v1), .second] [(.long (-4658895280553007687 : Int64)), (.long (v1 ^^^ ((v1.toUInt64 >>> ((30 : Int32) &&& 0x3f).toInt64.toUInt64).toInt64)))]))
  refine Go.st (fun _ k => XS.lmul X0.here hx rfl (hb hby d1_20) rfl k) ?_
  show Go p e below _ (s₁.setTop (mkF m 21 #[.val (.long q0), .second, .val (.long q1), .second, .val (.long q2), .second, .val (.long v1), .second] [(.long ((v1 ^^^ ((v1.toUInt64 >>> ((30 : Int32) &&& 0x3f).toInt64.toUInt64).toInt64)) * (-4658895280553007687 : Int64)))]))
  refine Go.st (fun _ k => XS.lload X0.here hx rfl (hb hby d1_21) rfl k) ?_
  show Go p e below _ (s₁.setTop (mkF m 23 #[.val (.long q0), .second, .val (.long q1), .second, .val (.long q2), .second, .val (.long v1), .second] [(.long q2), (.long ((v1 ^^^ ((v1.toUInt64 >>> ((30 : Int32) &&& 0x3f).toInt64.toUInt64).toInt64)) * (-4658895280553007687 : Int64)))]))
  refine Go.st (fun _ k => XS.ladd X0.here hx rfl (hb hby d1_23) rfl k) ?_
  show Go p e below _ (s₁.setTop (mkF m 24 #[.val (.long q0), .second, .val (.long q1), .second, .val (.long q2), .second, .val (.long v1), .second] [(.long (((v1 ^^^ ((v1.toUInt64 >>> ((30 : Int32) &&& 0x3f).toInt64.toUInt64).toInt64)) * (-4658895280553007687 : Int64)) + q2))]))
  generalize hv2 : (((v1 ^^^ ((v1.toUInt64 >>> ((30 : Int32) &&& 0x3f).toInt64.toUInt64).toInt64)) * (-4658895280553007687 : Int64)) + q2) = v2
  refine Go.st (fun _ k => XS.lstore X0.here hx rfl (hb hby d1_24) rfl (l' := #[.val (.long q0), .second, .val (.long q1), .second, .val (.long q2), .second, .val (.long v2), .second]) rfl k) ?_
  show Go p e below _ (s₁.setTop (mkF m 26 #[.val (.long q0), .second, .val (.long q1), .second, .val (.long q2), .second, .val (.long v2), .second] []))
  refine Go.st (fun _ k => XS.lload X0.here hx rfl (hb hby d1_26) rfl k) ?_
  show Go p e below _ (s₁.setTop (mkF m 28 #[.val (.long q0), .second, .val (.long q1), .second, .val (.long q2), .second, .val (.long v2), .second] [(.long v2)]))
  refine Go.st (fun _ k => XS.lload X0.here hx rfl (hb hby d1_28) rfl k) ?_
  show Go p e below _ (s₁.setTop (mkF m 30 #[.val (.long q0), .second, .val (.long q1), .second, .val (.long q2), .second, .val (.long v2), .second] [(.long v2), (.long v2)]))
  refine Go.st (fun _ k => XS.bipush X0.here hx rfl (hb hby d1_30) k) ?_
  show Go p e below _ (s₁.setTop (mkF m 32 #[.val (.long q0), .second, .val (.long q1), .second, .val (.long q2), .second, .val (.long v2), .second] [(.int (27 : Int32)), (.long v2), (.long v2)]))
  refine Go.st (fun _ k => XS.lushr X0.here hx rfl (hb hby d1_32) rfl k) ?_
  show Go p e below _ (s₁.setTop (mkF m 33 #[.val (.long q0), .second, .val (.long q1), .second, .val (.long q2), .second, .val (.long v2), .second] [(.long ((v2.toUInt64 >>> ((27 : Int32) &&& 0x3f).toInt64.toUInt64).toInt64)), (.long v2)]))
  refine Go.st (fun _ k => XS.lxor X0.here hx rfl (hb hby d1_33) rfl k) ?_
  show Go p e below _ (s₁.setTop (mkF m 34 #[.val (.long q0), .second, .val (.long q1), .second, .val (.long q2), .second, .val (.long v2), .second] [(.long (v2 ^^^ ((v2.toUInt64 >>> ((27 : Int32) &&& 0x3f).toInt64.toUInt64).toInt64)))]))
  refine Go.st (fun _ k => X0.ldc2Long hx hown (mvT hZ (hw _ (List.mem_of_getElem? (i := 6) rfl))) (g := (mkF m 34 #[.val (.long q0), .second, .val (.long q1), .second, .val (.long q2), .second, .val (.long v2), .second] [(.long (v2 ^^^ ((v2.toUInt64 >>> ((27 : Int32) &&& 0x3f).toInt64.toUInt64).toInt64)))])) rfl (hb hby d1_34) _ k) ?_
  show Go p e below _ (s₁.setTop (mkF m 37 #[.val (.long q0), .second, .val (.long q1), .second, .val (.long q2), .second, .val (.long v2), .second] [(.long (-7723592293110705685 : Int64)), (.long (v2 ^^^ ((v2.toUInt64 >>> ((27 : Int32) &&& 0x3f).toInt64.toUInt64).toInt64)))]))
  refine Go.st (fun _ k => XS.lmul X0.here hx rfl (hb hby d1_37) rfl k) ?_
  show Go p e below _ (s₁.setTop (mkF m 38 #[.val (.long q0), .second, .val (.long q1), .second, .val (.long q2), .second, .val (.long v2), .second] [(.long ((v2 ^^^ ((v2.toUInt64 >>> ((27 : Int32) &&& 0x3f).toInt64.toUInt64).toInt64)) * (-7723592293110705685 : Int64)))]))
  generalize hv3 : ((v2 ^^^ ((v2.toUInt64 >>> ((27 : Int32) &&& 0x3f).toInt64.toUInt64).toInt64)) * (-7723592293110705685 : Int64)) = v3
  refine Go.st (fun _ k => XS.lstore X0.here hx rfl (hb hby d1_38) rfl (l' := #[.val (.long q0), .second, .val (.long q1), .second, .val (.long q2), .second, .val (.long v3), .second]) rfl k) ?_
  show Go p e below _ (s₁.setTop (mkF m 40 #[.val (.long q0), .second, .val (.long q1), .second, .val (.long q2), .second, .val (.long v3), .second] []))
  refine Go.st (fun _ k => XS.lload X0.here hx rfl (hb hby d1_40) rfl k) ?_
  show Go p e below _ (s₁.setTop (mkF m 42 #[.val (.long q0), .second, .val (.long q1), .second, .val (.long q2), .second, .val (.long v3), .second] [(.long v3)]))
  refine Go.st (fun _ k => XS.lload X0.here hx rfl (hb hby d1_42) rfl k) ?_
  show Go p e below _ (s₁.setTop (mkF m 44 #[.val (.long q0), .second, .val (.long q1), .second, .val (.long q2), .second, .val (.long v3), .second] [(.long v3), (.long v3)]))
  refine Go.st (fun _ k => XS.bipush X0.here hx rfl (hb hby d1_44) k) ?_
  show Go p e below _ (s₁.setTop (mkF m 46 #[.val (.long q0), .second, .val (.long q1), .second, .val (.long q2), .second, .val (.long v3), .second] [(.int (31 : Int32)), (.long v3), (.long v3)]))
  refine Go.st (fun _ k => XS.lushr X0.here hx rfl (hb hby d1_46) rfl k) ?_
  show Go p e below _ (s₁.setTop (mkF m 47 #[.val (.long q0), .second, .val (.long q1), .second, .val (.long q2), .second, .val (.long v3), .second] [(.long ((v3.toUInt64 >>> ((31 : Int32) &&& 0x3f).toInt64.toUInt64).toInt64)), (.long v3)]))
  refine Go.st (fun _ k => XS.lxor X0.here hx rfl (hb hby d1_47) rfl k) ?_
  show Go p e below _ (s₁.setTop (mkF m 48 #[.val (.long q0), .second, .val (.long q1), .second, .val (.long q2), .second, .val (.long v3), .second] [(.long (v3 ^^^ ((v3.toUInt64 >>> ((31 : Int32) &&& 0x3f).toInt64.toUInt64).toInt64)))]))
  obtain ⟨fs, hr, hrun, hended, hW, hsame⟩ := X0.leave (v := some (.long (v3 ^^^ ((v3.toUInt64 >>> ((31 : Int32) &&& 0x3f).toInt64.toUInt64).toInt64)))) (fun h => by rw [Bd.returns] at h; cases h)
  refine ⟨_, _, retJ X0 hx Bd.returns (hb hby d1_48) hr, hrun, hended, _, _, rfl, ?_, ⟨_, rfl⟩, hW, hsame.mono (by decide) (by decide)⟩
  show Q_rm1 Z q0 q1 q2 h0 n0 _ s₁.heap _
  rw [e0]
  refine ⟨?_, N0, rfl⟩
  subst hv3
  subst hv2
  subst hv1
  unfold fHash
  rfl
theorem d2_0 : decode method_2_code 0 = .ok (.lload_n 0, 1) := by decide +kernel
theorem d2_1 : decode method_2_code 1 = .ok (.lstore_n 2, 1) := by decide +kernel
theorem d2_2 : decode method_2_code 2 = .ok (.lload_n 2, 1) := by decide +kernel
theorem d2_3 : decode method_2_code 3 = .ok (.ldc2_w 7, 3) := by decide +kernel
theorem d2_6 : decode method_2_code 6 = .ok (.lload_n 0, 1) := by decide +kernel
theorem d2_7 : decode method_2_code 7 = .ok (.lload_n 2, 1) := by decide +kernel
theorem d2_8 : decode method_2_code 8 = .ok (.lmul, 1) := by decide +kernel
theorem d2_9 : decode method_2_code 9 = .ok (.lsub, 1) := by decide +kernel
theorem d2_10 : decode method_2_code 10 = .ok (.lmul, 1) := by decide +kernel
theorem d2_11 : decode method_2_code 11 = .ok (.lstore_n 2, 1) := by decide +kernel
theorem d2_12 : decode method_2_code 12 = .ok (.lload_n 2, 1) := by decide +kernel
theorem d2_13 : decode method_2_code 13 = .ok (.ldc2_w 7, 3) := by decide +kernel
theorem d2_16 : decode method_2_code 16 = .ok (.lload_n 0, 1) := by decide +kernel
theorem d2_17 : decode method_2_code 17 = .ok (.lload_n 2, 1) := by decide +kernel
theorem d2_18 : decode method_2_code 18 = .ok (.lmul, 1) := by decide +kernel
theorem d2_19 : decode method_2_code 19 = .ok (.lsub, 1) := by decide +kernel
theorem d2_20 : decode method_2_code 20 = .ok (.lmul, 1) := by decide +kernel
theorem d2_21 : decode method_2_code 21 = .ok (.lstore_n 2, 1) := by decide +kernel
theorem d2_22 : decode method_2_code 22 = .ok (.lload_n 2, 1) := by decide +kernel
theorem d2_23 : decode method_2_code 23 = .ok (.ldc2_w 7, 3) := by decide +kernel
theorem d2_26 : decode method_2_code 26 = .ok (.lload_n 0, 1) := by decide +kernel
theorem d2_27 : decode method_2_code 27 = .ok (.lload_n 2, 1) := by decide +kernel
theorem d2_28 : decode method_2_code 28 = .ok (.lmul, 1) := by decide +kernel
theorem d2_29 : decode method_2_code 29 = .ok (.lsub, 1) := by decide +kernel
theorem d2_30 : decode method_2_code 30 = .ok (.lmul, 1) := by decide +kernel
theorem d2_31 : decode method_2_code 31 = .ok (.lstore_n 2, 1) := by decide +kernel
theorem d2_32 : decode method_2_code 32 = .ok (.lload_n 2, 1) := by decide +kernel
theorem d2_33 : decode method_2_code 33 = .ok (.ldc2_w 7, 3) := by decide +kernel
theorem d2_36 : decode method_2_code 36 = .ok (.lload_n 0, 1) := by decide +kernel
theorem d2_37 : decode method_2_code 37 = .ok (.lload_n 2, 1) := by decide +kernel
theorem d2_38 : decode method_2_code 38 = .ok (.lmul, 1) := by decide +kernel
theorem d2_39 : decode method_2_code 39 = .ok (.lsub, 1) := by decide +kernel
theorem d2_40 : decode method_2_code 40 = .ok (.lmul, 1) := by decide +kernel
theorem d2_41 : decode method_2_code 41 = .ok (.lstore_n 2, 1) := by decide +kernel
theorem d2_42 : decode method_2_code 42 = .ok (.lload_n 2, 1) := by decide +kernel
theorem d2_43 : decode method_2_code 43 = .ok (.ldc2_w 7, 3) := by decide +kernel
theorem d2_46 : decode method_2_code 46 = .ok (.lload_n 0, 1) := by decide +kernel
theorem d2_47 : decode method_2_code 47 = .ok (.lload_n 2, 1) := by decide +kernel
theorem d2_48 : decode method_2_code 48 = .ok (.lmul, 1) := by decide +kernel
theorem d2_49 : decode method_2_code 49 = .ok (.lsub, 1) := by decide +kernel
theorem d2_50 : decode method_2_code 50 = .ok (.lmul, 1) := by decide +kernel
theorem d2_51 : decode method_2_code 51 = .ok (.lstore_n 2, 1) := by decide +kernel
theorem d2_52 : decode method_2_code 52 = .ok (.lload_n 2, 1) := by decide +kernel
theorem d2_53 : decode method_2_code 53 = .ok (.lreturn, 1) := by decide +kernel
theorem pn_2 : plainName "terselink/tlk/TlkIndexHashPinLaw" = true := by first | (simp [plainName, overriddenIn]; done) | decide +kernel
theorem ef_rm2 (m : MethodId) (q0 : Int64) : entryFrame m #[(.long q0)] 4 = mkF m 0 #[.val (.long q0), .second, .unset, .unset] [] := by first | (simp [entryFrame, mkF, argsToLocals, Value.category]; done) | rfl
def fInv (q0 : Int64) : Int64 := let v1 : Int64 := (q0 * ((2 : Int64) - (q0 * q0))); let v2 : Int64 := (v1 * ((2 : Int64) - (q0 * v1))); let v3 : Int64 := (v2 * ((2 : Int64) - (q0 * v2))); let v4 : Int64 := (v3 * ((2 : Int64) - (q0 * v3))); let v5 : Int64 := (v4 * ((2 : Int64) - (q0 * v4))); v5
def Q_rm2 (Z : State) (q0 : Int64) (h0 : Heap) (n0 : Nat) (v : Option Value) (h : Heap) (L : List Loc) : Prop := v = some (.long (fInv q0)) ∧ Fr n0 L ∧ h = h0
abbrev F_rm2 (Z : State) (q0 : Int64) (h0 : Heap) (n0 : Nat) (s : State) (o : Outcome) (U : State) : Prop := ∃ v L, o = .returned v ∧ Q_rm2 Z q0 h0 n0 v U.heap L ∧ FrameEnd s o U L 0 0
set_option maxRecDepth 65536 in
set_option maxHeartbeats 40000000 in
theorem rm2 (l : Launch) (Z : State) (aZ : Array Value) (hw : ∀ d ∈ tables_1, d.before aZ Z = true) (ws : List Jvm.Cond) (q0 : Int64) (h0 : Heap) (n0 : Nat) :
    MetFree l (⟨"terselink/tlk/TlkIndexHashPinLaw", "inverse", "(J)J"⟩ : MethodName) (head1 (Jvm.Cond.code (⟨"terselink/tlk/TlkIndexHashPinLaw", "inverse", "(J)J"⟩ : MethodName) method_2_code 4 (some .long) :: ws) ({ frames := 0, cells := 0, slots := 0, locals := 0 } : Room)) (fun a U => a = #[(.long q0)] ∧ Z.Warmed39 U.vm ∧ U.heap = h0) (fun _ _ _ _ _ => True) (fun _ U o U' => ∃ v L, o = .returned v ∧ Q_rm2 Z q0 h0 n0 v U'.heap L ∧ FrameEnd U o U' L 0 0) := by
  refine MetFree.of_bodySF (plainFor_of_name pn_2) hisR ?_
  intro p e s m args below meth c s₁ Bd hml0 hP hK
  obtain ⟨rfl, hZ, hh⟩ := hP
  have hx := Bd.exec
  have hby := Bd.bytes
  have hml : c.maxLocals = 4 := hml0
  have hown : s.vm.findClass "terselink/tlk/TlkIndexHashPinLaw" = some m.cls := findClass_of_methodNamed Bd.named
  have hnm := (name_of_methodNamed Bd.named Bd.method).1
  have X0 : Stand p l e ({ frames := 0, cells := 0, slots := 0, locals := 0 } : Room) s m #[(.long q0)] below meth c s₁ [] 0 0 := Stand.of_body Bd
  have e0 : s₁.heap = h0 := by rw [← hh, Bd.state]; rfl
  have N0 := Fr.nil n0
  refine Go.st (fun _ k => castTop (ef_rm2 m q0) k) ?_
  show Go p e below _ (s₁.setTop (mkF m 0 #[.val (.long q0), .second, .unset, .unset] []))
  refine Go.st (fun _ k => XS.lloadN X0.here hx rfl (hb hby d2_0) rfl k) ?_
  show Go p e below _ (s₁.setTop (mkF m 1 #[.val (.long q0), .second, .unset, .unset] [(.long q0)]))
  refine Go.st (fun _ k => XS.lstoreN X0.here hx rfl (hb hby d2_1) rfl (l' := #[.val (.long q0), .second, .val (.long q0), .second]) rfl k) ?_
  show Go p e below _ (s₁.setTop (mkF m 2 #[.val (.long q0), .second, .val (.long q0), .second] []))
  refine Go.st (fun _ k => XS.lloadN X0.here hx rfl (hb hby d2_2) rfl k) ?_
  show Go p e below _ (s₁.setTop (mkF m 3 #[.val (.long q0), .second, .val (.long q0), .second] [(.long q0)]))
  refine Go.st (fun _ k => X0.ldc2Long hx hown (mvT hZ (hw _ (List.mem_of_getElem? (i := 12) rfl))) (g := (mkF m 3 #[.val (.long q0), .second, .val (.long q0), .second] [(.long q0)])) rfl (hb hby d2_3) _ k) ?_
  show Go p e below _ (s₁.setTop (mkF m 6 #[.val (.long q0), .second, .val (.long q0), .second] [(.long (2 : Int64)), (.long q0)]))
  refine Go.st (fun _ k => XS.lloadN X0.here hx rfl (hb hby d2_6) rfl k) ?_
  show Go p e below _ (s₁.setTop (mkF m 7 #[.val (.long q0), .second, .val (.long q0), .second] [(.long q0), (.long (2 : Int64)), (.long q0)]))
  refine Go.st (fun _ k => XS.lloadN X0.here hx rfl (hb hby d2_7) rfl k) ?_
  show Go p e below _ (s₁.setTop (mkF m 8 #[.val (.long q0), .second, .val (.long q0), .second] [(.long q0), (.long q0), (.long (2 : Int64)), (.long q0)]))
  refine Go.st (fun _ k => XS.lmul X0.here hx rfl (hb hby d2_8) rfl k) ?_
  show Go p e below _ (s₁.setTop (mkF m 9 #[.val (.long q0), .second, .val (.long q0), .second] [(.long (q0 * q0)), (.long (2 : Int64)), (.long q0)]))
  refine Go.st (fun _ k => XS.lsub X0.here hx rfl (hb hby d2_9) rfl k) ?_
  show Go p e below _ (s₁.setTop (mkF m 10 #[.val (.long q0), .second, .val (.long q0), .second] [(.long ((2 : Int64) - (q0 * q0))), (.long q0)]))
  refine Go.st (fun _ k => XS.lmul X0.here hx rfl (hb hby d2_10) rfl k) ?_
  show Go p e below _ (s₁.setTop (mkF m 11 #[.val (.long q0), .second, .val (.long q0), .second] [(.long (q0 * ((2 : Int64) - (q0 * q0))))]))
  generalize hv1 : (q0 * ((2 : Int64) - (q0 * q0))) = v1
  refine Go.st (fun _ k => XS.lstoreN X0.here hx rfl (hb hby d2_11) rfl (l' := #[.val (.long q0), .second, .val (.long v1), .second]) rfl k) ?_
  show Go p e below _ (s₁.setTop (mkF m 12 #[.val (.long q0), .second, .val (.long v1), .second] []))
  refine Go.st (fun _ k => XS.lloadN X0.here hx rfl (hb hby d2_12) rfl k) ?_
  show Go p e below _ (s₁.setTop (mkF m 13 #[.val (.long q0), .second, .val (.long v1), .second] [(.long v1)]))
  refine Go.st (fun _ k => X0.ldc2Long hx hown (mvT hZ (hw _ (List.mem_of_getElem? (i := 12) rfl))) (g := (mkF m 13 #[.val (.long q0), .second, .val (.long v1), .second] [(.long v1)])) rfl (hb hby d2_13) _ k) ?_
  show Go p e below _ (s₁.setTop (mkF m 16 #[.val (.long q0), .second, .val (.long v1), .second] [(.long (2 : Int64)), (.long v1)]))
  refine Go.st (fun _ k => XS.lloadN X0.here hx rfl (hb hby d2_16) rfl k) ?_
  show Go p e below _ (s₁.setTop (mkF m 17 #[.val (.long q0), .second, .val (.long v1), .second] [(.long q0), (.long (2 : Int64)), (.long v1)]))
  refine Go.st (fun _ k => XS.lloadN X0.here hx rfl (hb hby d2_17) rfl k) ?_
  show Go p e below _ (s₁.setTop (mkF m 18 #[.val (.long q0), .second, .val (.long v1), .second] [(.long v1), (.long q0), (.long (2 : Int64)), (.long v1)]))
  refine Go.st (fun _ k => XS.lmul X0.here hx rfl (hb hby d2_18) rfl k) ?_
  show Go p e below _ (s₁.setTop (mkF m 19 #[.val (.long q0), .second, .val (.long v1), .second] [(.long (q0 * v1)), (.long (2 : Int64)), (.long v1)]))
  refine Go.st (fun _ k => XS.lsub X0.here hx rfl (hb hby d2_19) rfl k) ?_
  show Go p e below _ (s₁.setTop (mkF m 20 #[.val (.long q0), .second, .val (.long v1), .second] [(.long ((2 : Int64) - (q0 * v1))), (.long v1)]))
  refine Go.st (fun _ k => XS.lmul X0.here hx rfl (hb hby d2_20) rfl k) ?_
  show Go p e below _ (s₁.setTop (mkF m 21 #[.val (.long q0), .second, .val (.long v1), .second] [(.long (v1 * ((2 : Int64) - (q0 * v1))))]))
  generalize hv2 : (v1 * ((2 : Int64) - (q0 * v1))) = v2
  refine Go.st (fun _ k => XS.lstoreN X0.here hx rfl (hb hby d2_21) rfl (l' := #[.val (.long q0), .second, .val (.long v2), .second]) rfl k) ?_
  show Go p e below _ (s₁.setTop (mkF m 22 #[.val (.long q0), .second, .val (.long v2), .second] []))
  refine Go.st (fun _ k => XS.lloadN X0.here hx rfl (hb hby d2_22) rfl k) ?_
  show Go p e below _ (s₁.setTop (mkF m 23 #[.val (.long q0), .second, .val (.long v2), .second] [(.long v2)]))
  refine Go.st (fun _ k => X0.ldc2Long hx hown (mvT hZ (hw _ (List.mem_of_getElem? (i := 12) rfl))) (g := (mkF m 23 #[.val (.long q0), .second, .val (.long v2), .second] [(.long v2)])) rfl (hb hby d2_23) _ k) ?_
  show Go p e below _ (s₁.setTop (mkF m 26 #[.val (.long q0), .second, .val (.long v2), .second] [(.long (2 : Int64)), (.long v2)]))
  refine Go.st (fun _ k => XS.lloadN X0.here hx rfl (hb hby d2_26) rfl k) ?_
  show Go p e below _ (s₁.setTop (mkF m 27 #[.val (.long q0), .second, .val (.long v2), .second] [(.long q0), (.long (2 : Int64)), (.long v2)]))
  refine Go.st (fun _ k => XS.lloadN X0.here hx rfl (hb hby d2_27) rfl k) ?_
  show Go p e below _ (s₁.setTop (mkF m 28 #[.val (.long q0), .second, .val (.long v2), .second] [(.long v2), (.long q0), (.long (2 : Int64)), (.long v2)]))
  refine Go.st (fun _ k => XS.lmul X0.here hx rfl (hb hby d2_28) rfl k) ?_
  show Go p e below _ (s₁.setTop (mkF m 29 #[.val (.long q0), .second, .val (.long v2), .second] [(.long (q0 * v2)), (.long (2 : Int64)), (.long v2)]))
  refine Go.st (fun _ k => XS.lsub X0.here hx rfl (hb hby d2_29) rfl k) ?_
  show Go p e below _ (s₁.setTop (mkF m 30 #[.val (.long q0), .second, .val (.long v2), .second] [(.long ((2 : Int64) - (q0 * v2))), (.long v2)]))
  refine Go.st (fun _ k => XS.lmul X0.here hx rfl (hb hby d2_30) rfl k) ?_
  show Go p e below _ (s₁.setTop (mkF m 31 #[.val (.long q0), .second, .val (.long v2), .second] [(.long (v2 * ((2 : Int64) - (q0 * v2))))]))
  generalize hv3 : (v2 * ((2 : Int64) - (q0 * v2))) = v3
  refine Go.st (fun _ k => XS.lstoreN X0.here hx rfl (hb hby d2_31) rfl (l' := #[.val (.long q0), .second, .val (.long v3), .second]) rfl k) ?_
  show Go p e below _ (s₁.setTop (mkF m 32 #[.val (.long q0), .second, .val (.long v3), .second] []))
  refine Go.st (fun _ k => XS.lloadN X0.here hx rfl (hb hby d2_32) rfl k) ?_
  show Go p e below _ (s₁.setTop (mkF m 33 #[.val (.long q0), .second, .val (.long v3), .second] [(.long v3)]))
  refine Go.st (fun _ k => X0.ldc2Long hx hown (mvT hZ (hw _ (List.mem_of_getElem? (i := 12) rfl))) (g := (mkF m 33 #[.val (.long q0), .second, .val (.long v3), .second] [(.long v3)])) rfl (hb hby d2_33) _ k) ?_
  show Go p e below _ (s₁.setTop (mkF m 36 #[.val (.long q0), .second, .val (.long v3), .second] [(.long (2 : Int64)), (.long v3)]))
  refine Go.st (fun _ k => XS.lloadN X0.here hx rfl (hb hby d2_36) rfl k) ?_
  show Go p e below _ (s₁.setTop (mkF m 37 #[.val (.long q0), .second, .val (.long v3), .second] [(.long q0), (.long (2 : Int64)), (.long v3)]))
  refine Go.st (fun _ k => XS.lloadN X0.here hx rfl (hb hby d2_37) rfl k) ?_
  show Go p e below _ (s₁.setTop (mkF m 38 #[.val (.long q0), .second, .val (.long v3), .second] [(.long v3), (.long q0), (.long (2 : Int64)), (.long v3)]))
  refine Go.st (fun _ k => XS.lmul X0.here hx rfl (hb hby d2_38) rfl k) ?_
  show Go p e below _ (s₁.setTop (mkF m 39 #[.val (.long q0), .second, .val (.long v3), .second] [(.long (q0 * v3)), (.long (2 : Int64)), (.long v3)]))
  refine Go.st (fun _ k => XS.lsub X0.here hx rfl (hb hby d2_39) rfl k) ?_
  show Go p e below _ (s₁.setTop (mkF m 40 #[.val (.long q0), .second, .val (.long v3), .second] [(.long ((2 : Int64) - (q0 * v3))), (.long v3)]))
  refine Go.st (fun _ k => XS.lmul X0.here hx rfl (hb hby d2_40) rfl k) ?_
  show Go p e below _ (s₁.setTop (mkF m 41 #[.val (.long q0), .second, .val (.long v3), .second] [(.long (v3 * ((2 : Int64) - (q0 * v3))))]))
  generalize hv4 : (v3 * ((2 : Int64) - (q0 * v3))) = v4
  refine Go.st (fun _ k => XS.lstoreN X0.here hx rfl (hb hby d2_41) rfl (l' := #[.val (.long q0), .second, .val (.long v4), .second]) rfl k) ?_
  show Go p e below _ (s₁.setTop (mkF m 42 #[.val (.long q0), .second, .val (.long v4), .second] []))
  refine Go.st (fun _ k => XS.lloadN X0.here hx rfl (hb hby d2_42) rfl k) ?_
  show Go p e below _ (s₁.setTop (mkF m 43 #[.val (.long q0), .second, .val (.long v4), .second] [(.long v4)]))
  refine Go.st (fun _ k => X0.ldc2Long hx hown (mvT hZ (hw _ (List.mem_of_getElem? (i := 12) rfl))) (g := (mkF m 43 #[.val (.long q0), .second, .val (.long v4), .second] [(.long v4)])) rfl (hb hby d2_43) _ k) ?_
  show Go p e below _ (s₁.setTop (mkF m 46 #[.val (.long q0), .second, .val (.long v4), .second] [(.long (2 : Int64)), (.long v4)]))
  refine Go.st (fun _ k => XS.lloadN X0.here hx rfl (hb hby d2_46) rfl k) ?_
  show Go p e below _ (s₁.setTop (mkF m 47 #[.val (.long q0), .second, .val (.long v4), .second] [(.long q0), (.long (2 : Int64)), (.long v4)]))
  refine Go.st (fun _ k => XS.lloadN X0.here hx rfl (hb hby d2_47) rfl k) ?_
  show Go p e below _ (s₁.setTop (mkF m 48 #[.val (.long q0), .second, .val (.long v4), .second] [(.long v4), (.long q0), (.long (2 : Int64)), (.long v4)]))
  refine Go.st (fun _ k => XS.lmul X0.here hx rfl (hb hby d2_48) rfl k) ?_
  show Go p e below _ (s₁.setTop (mkF m 49 #[.val (.long q0), .second, .val (.long v4), .second] [(.long (q0 * v4)), (.long (2 : Int64)), (.long v4)]))
  refine Go.st (fun _ k => XS.lsub X0.here hx rfl (hb hby d2_49) rfl k) ?_
  show Go p e below _ (s₁.setTop (mkF m 50 #[.val (.long q0), .second, .val (.long v4), .second] [(.long ((2 : Int64) - (q0 * v4))), (.long v4)]))
  refine Go.st (fun _ k => XS.lmul X0.here hx rfl (hb hby d2_50) rfl k) ?_
  show Go p e below _ (s₁.setTop (mkF m 51 #[.val (.long q0), .second, .val (.long v4), .second] [(.long (v4 * ((2 : Int64) - (q0 * v4))))]))
  generalize hv5 : (v4 * ((2 : Int64) - (q0 * v4))) = v5
  refine Go.st (fun _ k => XS.lstoreN X0.here hx rfl (hb hby d2_51) rfl (l' := #[.val (.long q0), .second, .val (.long v5), .second]) rfl k) ?_
  show Go p e below _ (s₁.setTop (mkF m 52 #[.val (.long q0), .second, .val (.long v5), .second] []))
  refine Go.st (fun _ k => XS.lloadN X0.here hx rfl (hb hby d2_52) rfl k) ?_
  show Go p e below _ (s₁.setTop (mkF m 53 #[.val (.long q0), .second, .val (.long v5), .second] [(.long v5)]))
  obtain ⟨fs, hr, hrun, hended, hW, hsame⟩ := X0.leave (v := some (.long v5)) (fun h => by rw [Bd.returns] at h; cases h)
  refine ⟨_, _, retJ X0 hx Bd.returns (hb hby d2_53) hr, hrun, hended, _, _, rfl, ?_, ⟨_, rfl⟩, hW, hsame.mono (by decide) (by decide)⟩
  show Q_rm2 Z q0 h0 n0 _ s₁.heap _
  rw [e0]
  refine ⟨?_, N0, rfl⟩
  subst hv5
  subst hv4
  subst hv3
  subst hv2
  subst hv1
  unfold fInv
  rfl
theorem own_ush (x : Int64) (k : Int32) {j : Nat} (hj : j < 64) (hk : (k &&& 0x3f).toInt64.toUInt64.toNat = j) : ((x.toUInt64 >>> (k &&& 0x3f).toInt64.toUInt64).toInt64).toBitVec = x.toBitVec >>> j := by
  rw [UInt64.toBitVec_toInt64, UInt64.toBitVec_shiftRight]
  have e : ((k &&& 0x3f).toInt64.toUInt64.toBitVec % 64).toNat = j := by
    rw [BitVec.toNat_umod, UInt64.toNat_toBitVec, hk]
    exact Nat.mod_eq_of_lt hj
  rw [BitVec.ushiftRight_eq', e]
  rfl
theorem own_unshift (z : BitVec 64) (j : Nat) (hj : 64 ≤ 3 * j) :
    ((z ^^^ z >>> j) ^^^ (z ^^^ z >>> j) >>> j) ^^^ (z ^^^ z >>> j) >>> (2 * j) = z := by
  apply BitVec.eq_of_getLsbD_eq
  intro i hi
  simp only [BitVec.getLsbD_xor, BitVec.getLsbD_ushiftRight]
  have e1 : j + (j + i) = 2 * j + i := by omega
  have e2 : z.getLsbD (j + (2 * j + i)) = false := BitVec.getLsbD_of_ge _ _ (by omega)
  rw [e1, e2]
  cases z.getLsbD i <;> cases z.getLsbD (j + i) <;> cases z.getLsbD (2 * j + i) <;> rfl
theorem own_inv : (-7723592293110705685 : Int64) * fInv (-7723592293110705685 : Int64) = 1 := by decide +kernel
theorem own_hash {q0 q1 q2 h a b c h1 back : Int64} (e1 : fHash q0 q1 q2 = h) (e2 : ((h ^^^ ((h.toUInt64 >>> ((31 : Int32) &&& 0x3f).toInt64.toUInt64).toInt64)) ^^^ ((h.toUInt64 >>> ((62 : Int32) &&& 0x3f).toInt64.toUInt64).toInt64)) = a)
    (e3 : (a * (fInv (-7723592293110705685 : Int64))) = b) (e4 : ((b ^^^ ((b.toUInt64 >>> ((27 : Int32) &&& 0x3f).toInt64.toUInt64).toInt64)) ^^^ ((b.toUInt64 >>> ((54 : Int32) &&& 0x3f).toInt64.toUInt64).toInt64)) = c)
    (e5 : ((q0 * (-7046029254386353131 : Int64)) + q1) = h1) (e6 : (c - ((h1 ^^^ ((h1.toUInt64 >>> ((30 : Int32) &&& 0x3f).toInt64.toUInt64).toInt64)) * (-4658895280553007687 : Int64))) = back) : back = q2 := by
  have u31 := fun x : Int64 => own_ush x 31 (j := 31) (by decide) (by decide +kernel)
  have u62 := fun x : Int64 => own_ush x 62 (j := 62) (by decide) (by decide +kernel)
  have u27 := fun x : Int64 => own_ush x 27 (j := 27) (by decide) (by decide +kernel)
  have u54 := fun x : Int64 => own_ush x 54 (j := 54) (by decide) (by decide +kernel)
  unfold fHash at e1
  dsimp only at e1
  rw [e5] at e1
  generalize hy : ((h1 ^^^ ((h1.toUInt64 >>> ((30 : Int32) &&& 0x3f).toInt64.toUInt64).toInt64)) * (-4658895280553007687 : Int64)) = y at *
  generalize hz : y + q2 = z at *
  generalize hw : (z ^^^ ((z.toUInt64 >>> ((27 : Int32) &&& 0x3f).toInt64.toUInt64).toInt64)) = w at *
  generalize hx : w * (-7723592293110705685 : Int64) = x at *
  have ea : a = x := by
    apply Int64.toBitVec_inj.mp
    rw [← e2, ← e1]
    simp only [Int64.toBitVec_xor, u31, u62]
    exact own_unshift x.toBitVec 31 (by decide)
  have eb : b = w := by
    rw [← e3, ea, ← hx, Int64.mul_assoc, own_inv, Int64.mul_one]
  have ec : c = z := by
    apply Int64.toBitVec_inj.mp
    rw [← e4, eb, ← hw]
    simp only [Int64.toBitVec_xor, u27, u54]
    exact own_unshift z.toBitVec 27 (by decide)
  rw [← e6, ec, ← hz]
  apply Int64.toBitVec_inj.mp
  rw [Int64.toBitVec_sub, Int64.toBitVec_add, BitVec.add_comm, BitVec.add_sub_cancel]

theorem pn_0 : plainName "terselink/tlk/TlkIndexHashPinLaw" = true := by first | (simp [plainName, overriddenIn]; done) | decide +kernel
theorem pd69a0620f : parseMethodDescriptor "(JJJ)J" = some ⟨[.long, .long, .long], some .long⟩ := by decide +kernel
theorem pd56f9617 : parseMethodDescriptor "(J)J" = some ⟨[.long], some .long⟩ := by decide +kernel
theorem ef_rm0 (m : MethodId) (q0 : Int64) (q1 : Int64) (q2 : Int64) : entryFrame m #[(.long q0), (.long q1), (.long q2)] maxLocals = mkF m 0 #[.val (.long q0), .second, .val (.long q1), .second, .val (.long q2), .second, .unset, .unset, .unset, .unset, .unset, .unset, .unset, .unset, .unset, .unset, .unset, .unset] [] := by first | (simp [entryFrame, mkF, argsToLocals, Value.category, maxLocals]; done) | rfl
def Q_rm0 (Z : State) (q0 : Int64) (q1 : Int64) (q2 : Int64) (h0 : Heap) (n0 : Nat) (v : Option Value) (h : Heap) (L : List Loc) : Prop := v = some (.int 1) ∧ Fr n0 L
abbrev F_rm0 (Z : State) (q0 : Int64) (q1 : Int64) (q2 : Int64) (h0 : Heap) (n0 : Nat) (s : State) (o : Outcome) (U : State) : Prop := ∃ v L, o = .returned v ∧ Q_rm0 Z q0 q1 q2 h0 n0 v U.heap L ∧ FrameEnd s o U L room_1.cells room_1.slots
set_option maxRecDepth 65536 in
set_option maxHeartbeats 40000000 in
theorem rm0 (l : Launch) (Z : State) (aZ : Array Value) (hw : ∀ d ∈ tables_1, d.before aZ Z = true) (ws : List Jvm.Cond) (q0 : Int64) (q1 : Int64) (q2 : Int64) (h0 : Heap) (n0 : Nat) :
    MetFree l x (head1 (Jvm.Cond.code x code maxLocals ret :: ws) room_1) (fun a U => a = #[(.long q0), (.long q1), (.long q2)] ∧ Z.Warmed39 U.vm ∧ U.heap = h0) (fun _ _ _ _ _ => True) (fun _ U o U' => ∃ v L, o = .returned v ∧ Q_rm0 Z q0 q1 q2 h0 n0 v U'.heap L ∧ FrameEnd U o U' L room_1.cells room_1.slots) := by
  refine MetFree.of_bodySF (plainFor_of_name pn_0) hisR ?_
  intro p e s m args below meth c s₁ Bd hml0 hP hK
  obtain ⟨rfl, hZ, hh⟩ := hP
  have hx := Bd.exec
  have hby := Bd.bytes
  have hml : c.maxLocals = 18 := hml0
  have hown : s.vm.findClass "terselink/tlk/TlkIndexHashPinLaw" = some m.cls := findClass_of_methodNamed Bd.named
  have hnm := (name_of_methodNamed Bd.named Bd.method).1
  have X0 : Stand p l e room_1 s m #[(.long q0), (.long q1), (.long q2)] below meth c s₁ [] 0 0 := Stand.of_body Bd
  have e0 : s₁.heap = h0 := by rw [← hh, Bd.state]; rfl
  have N0 := Fr.nil n0
  refine Go.st (fun _ k => castTop (ef_rm0 m q0 q1 q2) k) ?_
  show Go p e below _ (s₁.setTop (mkF m 0 #[.val (.long q0), .second, .val (.long q1), .second, .val (.long q2), .second, .unset, .unset, .unset, .unset, .unset, .unset, .unset, .unset, .unset, .unset, .unset, .unset] []))
  refine Go.st (fun _ k => XS.lloadN X0.here hx rfl (hb hby at_0) rfl k) ?_
  show Go p e below _ (s₁.setTop (mkF m 1 #[.val (.long q0), .second, .val (.long q1), .second, .val (.long q2), .second, .unset, .unset, .unset, .unset, .unset, .unset, .unset, .unset, .unset, .unset, .unset, .unset] [(.long q0)]))
  refine Go.st (fun _ k => XS.lloadN X0.here hx rfl (hb hby at_1) rfl k) ?_
  show Go p e below _ (s₁.setTop (mkF m 2 #[.val (.long q0), .second, .val (.long q1), .second, .val (.long q2), .second, .unset, .unset, .unset, .unset, .unset, .unset, .unset, .unset, .unset, .unset, .unset, .unset] [(.long q1), (.long q0)]))
  refine Go.st (fun _ k => XS.lload X0.here hx rfl (hb hby at_2) rfl k) ?_
  show Go p e below _ (s₁.setTop (mkF m 4 #[.val (.long q0), .second, .val (.long q1), .second, .val (.long q2), .second, .unset, .unset, .unset, .unset, .unset, .unset, .unset, .unset, .unset, .unset, .unset, .unset] [(.long q2), (.long q1), (.long q0)]))
  obtain ⟨_, _, ⟨T1, L1, k1, n1⟩, -, X1, ⟨Lc1, hQ1, l1, y1, z1⟩, st1⟩ := Jvm.LawKit.callS X0 hx (y := (⟨"terselink/tlk/TlkIndex", "hash", "(JJJ)J"⟩ : MethodName)) hown (mvT hZ (hw _ (List.mem_of_getElem? (i := 0) rfl))) (mvT hZ (hw _ (List.mem_of_getElem? (i := 1) rfl))) (mvT hZ (hw _ (List.mem_of_getElem? (i := 2) rfl))) (mvT hZ (hw _ (List.mem_of_getElem? (i := 3) rfl))) (by decide) (backOf (W := 0) (rm1 l Z aZ hw [] q0 q1 q2 h0 n0 ) hZ (hw _ (List.mem_of_getElem? (i := 3) rfl)) (hw _ (List.mem_of_getElem? (i := 2) rfl)) (by decide) (by decide)) (g := (mkF m 4 #[.val (.long q0), .second, .val (.long q1), .second, .val (.long q2), .second, .unset, .unset, .unset, .unset, .unset, .unset, .unset, .unset, .unset, .unset, .unset, .unset] [(.long q2), (.long q1), (.long q0)])) rfl (by rw [hml]; rfl) (argsL := [(.long q0), (.long q1), (.long q2)]) (rest := []) (lenOf pd69a0620f rfl) rfl (by show 2 * 0 + _ ≤ _; exact Nat.le_of_eq rfl) (hb hby at_4) (fun _ _ => ⟨rfl, e0, (by decide : 0 + 0 ≤ _), (by decide : 0 + 0 ≤ _)⟩)
  dsimp only [Pt.U, Pt.locs, Pt.cells, Pt.slots] at X1 l1 y1 z1 st1 hQ1
  subst l1 y1 z1
  obtain ⟨rfl, N1q, e1⟩ := hQ1
  have N1 := Fr.app N0 N1q
  refine Go.st (fun _ k => st1 _ k) ?_
  show Go p e below _ (T1.setTop (mkF m 7 #[.val (.long q0), .second, .val (.long q1), .second, .val (.long q2), .second, .unset, .unset, .unset, .unset, .unset, .unset, .unset, .unset, .unset, .unset, .unset, .unset] [(.long (fHash q0 q1 q2))]))
  generalize hv2 : (fHash q0 q1 q2) = v2
  refine Go.st (fun _ k => XS.lstore X1.here hx rfl (hb hby at_7) rfl (l' := #[.val (.long q0), .second, .val (.long q1), .second, .val (.long q2), .second, .val (.long v2), .second, .unset, .unset, .unset, .unset, .unset, .unset, .unset, .unset, .unset, .unset]) rfl k) ?_
  show Go p e below _ (T1.setTop (mkF m 9 #[.val (.long q0), .second, .val (.long q1), .second, .val (.long q2), .second, .val (.long v2), .second, .unset, .unset, .unset, .unset, .unset, .unset, .unset, .unset, .unset, .unset] []))
  refine Go.st (fun _ k => XS.lload X1.here hx rfl (hb hby at_9) rfl k) ?_
  show Go p e below _ (T1.setTop (mkF m 11 #[.val (.long q0), .second, .val (.long q1), .second, .val (.long q2), .second, .val (.long v2), .second, .unset, .unset, .unset, .unset, .unset, .unset, .unset, .unset, .unset, .unset] [(.long v2)]))
  refine Go.st (fun _ k => XS.lload X1.here hx rfl (hb hby at_11) rfl k) ?_
  show Go p e below _ (T1.setTop (mkF m 13 #[.val (.long q0), .second, .val (.long q1), .second, .val (.long q2), .second, .val (.long v2), .second, .unset, .unset, .unset, .unset, .unset, .unset, .unset, .unset, .unset, .unset] [(.long v2), (.long v2)]))
  refine Go.st (fun _ k => XS.bipush X1.here hx rfl (hb hby at_13) k) ?_
  show Go p e below _ (T1.setTop (mkF m 15 #[.val (.long q0), .second, .val (.long q1), .second, .val (.long q2), .second, .val (.long v2), .second, .unset, .unset, .unset, .unset, .unset, .unset, .unset, .unset, .unset, .unset] [(.int (31 : Int32)), (.long v2), (.long v2)]))
  refine Go.st (fun _ k => XS.lushr X1.here hx rfl (hb hby at_15) rfl k) ?_
  show Go p e below _ (T1.setTop (mkF m 16 #[.val (.long q0), .second, .val (.long q1), .second, .val (.long q2), .second, .val (.long v2), .second, .unset, .unset, .unset, .unset, .unset, .unset, .unset, .unset, .unset, .unset] [(.long ((v2.toUInt64 >>> ((31 : Int32) &&& 0x3f).toInt64.toUInt64).toInt64)), (.long v2)]))
  refine Go.st (fun _ k => XS.lxor X1.here hx rfl (hb hby at_16) rfl k) ?_
  show Go p e below _ (T1.setTop (mkF m 17 #[.val (.long q0), .second, .val (.long q1), .second, .val (.long q2), .second, .val (.long v2), .second, .unset, .unset, .unset, .unset, .unset, .unset, .unset, .unset, .unset, .unset] [(.long (v2 ^^^ ((v2.toUInt64 >>> ((31 : Int32) &&& 0x3f).toInt64.toUInt64).toInt64)))]))
  refine Go.st (fun _ k => XS.lload X1.here hx rfl (hb hby at_17) rfl k) ?_
  show Go p e below _ (T1.setTop (mkF m 19 #[.val (.long q0), .second, .val (.long q1), .second, .val (.long q2), .second, .val (.long v2), .second, .unset, .unset, .unset, .unset, .unset, .unset, .unset, .unset, .unset, .unset] [(.long v2), (.long (v2 ^^^ ((v2.toUInt64 >>> ((31 : Int32) &&& 0x3f).toInt64.toUInt64).toInt64)))]))
  refine Go.st (fun _ k => XS.bipush X1.here hx rfl (hb hby at_19) k) ?_
  show Go p e below _ (T1.setTop (mkF m 21 #[.val (.long q0), .second, .val (.long q1), .second, .val (.long q2), .second, .val (.long v2), .second, .unset, .unset, .unset, .unset, .unset, .unset, .unset, .unset, .unset, .unset] [(.int (62 : Int32)), (.long v2), (.long (v2 ^^^ ((v2.toUInt64 >>> ((31 : Int32) &&& 0x3f).toInt64.toUInt64).toInt64)))]))
  refine Go.st (fun _ k => XS.lushr X1.here hx rfl (hb hby at_21) rfl k) ?_
  show Go p e below _ (T1.setTop (mkF m 22 #[.val (.long q0), .second, .val (.long q1), .second, .val (.long q2), .second, .val (.long v2), .second, .unset, .unset, .unset, .unset, .unset, .unset, .unset, .unset, .unset, .unset] [(.long ((v2.toUInt64 >>> ((62 : Int32) &&& 0x3f).toInt64.toUInt64).toInt64)), (.long (v2 ^^^ ((v2.toUInt64 >>> ((31 : Int32) &&& 0x3f).toInt64.toUInt64).toInt64)))]))
  refine Go.st (fun _ k => XS.lxor X1.here hx rfl (hb hby at_22) rfl k) ?_
  show Go p e below _ (T1.setTop (mkF m 23 #[.val (.long q0), .second, .val (.long q1), .second, .val (.long q2), .second, .val (.long v2), .second, .unset, .unset, .unset, .unset, .unset, .unset, .unset, .unset, .unset, .unset] [(.long ((v2 ^^^ ((v2.toUInt64 >>> ((31 : Int32) &&& 0x3f).toInt64.toUInt64).toInt64)) ^^^ ((v2.toUInt64 >>> ((62 : Int32) &&& 0x3f).toInt64.toUInt64).toInt64)))]))
  generalize hv3 : ((v2 ^^^ ((v2.toUInt64 >>> ((31 : Int32) &&& 0x3f).toInt64.toUInt64).toInt64)) ^^^ ((v2.toUInt64 >>> ((62 : Int32) &&& 0x3f).toInt64.toUInt64).toInt64)) = v3
  refine Go.st (fun _ k => XS.lstore X1.here hx rfl (hb hby at_23) rfl (l' := #[.val (.long q0), .second, .val (.long q1), .second, .val (.long q2), .second, .val (.long v2), .second, .val (.long v3), .second, .unset, .unset, .unset, .unset, .unset, .unset, .unset, .unset]) rfl k) ?_
  show Go p e below _ (T1.setTop (mkF m 25 #[.val (.long q0), .second, .val (.long q1), .second, .val (.long q2), .second, .val (.long v2), .second, .val (.long v3), .second, .unset, .unset, .unset, .unset, .unset, .unset, .unset, .unset] []))
  refine Go.st (fun _ k => XS.lload X1.here hx rfl (hb hby at_25) rfl k) ?_
  show Go p e below _ (T1.setTop (mkF m 27 #[.val (.long q0), .second, .val (.long q1), .second, .val (.long q2), .second, .val (.long v2), .second, .val (.long v3), .second, .unset, .unset, .unset, .unset, .unset, .unset, .unset, .unset] [(.long v3)]))
  refine Go.st (fun _ k => X1.ldc2Long hx hown (mvT hZ (hw _ (List.mem_of_getElem? (i := 7) rfl))) (g := (mkF m 27 #[.val (.long q0), .second, .val (.long q1), .second, .val (.long q2), .second, .val (.long v2), .second, .val (.long v3), .second, .unset, .unset, .unset, .unset, .unset, .unset, .unset, .unset] [(.long v3)])) rfl (hb hby at_27) _ k) ?_
  show Go p e below _ (T1.setTop (mkF m 30 #[.val (.long q0), .second, .val (.long q1), .second, .val (.long q2), .second, .val (.long v2), .second, .val (.long v3), .second, .unset, .unset, .unset, .unset, .unset, .unset, .unset, .unset] [(.long (-7723592293110705685 : Int64)), (.long v3)]))
  obtain ⟨_, _, ⟨T4, L4, k4, n4⟩, -, X4, ⟨Lc4, hQ4, l4, y4, z4⟩, st4⟩ := Jvm.LawKit.callS X1 hx (y := (⟨"terselink/tlk/TlkIndexHashPinLaw", "inverse", "(J)J"⟩ : MethodName)) hown (mvT hZ (hw _ (List.mem_of_getElem? (i := 8) rfl))) (mvT hZ (hw _ (List.mem_of_getElem? (i := 9) rfl))) (mvT hZ (hw _ (List.mem_of_getElem? (i := 10) rfl))) (mvT hZ (hw _ (List.mem_of_getElem? (i := 11) rfl))) (by decide) (backOf (W := 2) (rm2 l Z aZ hw [] (-7723592293110705685 : Int64) h0 n0 ) hZ (hw _ (List.mem_of_getElem? (i := 11) rfl)) (hw _ (List.mem_of_getElem? (i := 10) rfl)) (by decide) (by decide)) (g := (mkF m 30 #[.val (.long q0), .second, .val (.long q1), .second, .val (.long q2), .second, .val (.long v2), .second, .val (.long v3), .second, .unset, .unset, .unset, .unset, .unset, .unset, .unset, .unset] [(.long (-7723592293110705685 : Int64)), (.long v3)])) rfl (by rw [hml]; rfl) (argsL := [(.long (-7723592293110705685 : Int64))]) (rest := [(.long v3)]) (lenOf pd56f9617 rfl) rfl (by show 2 * 0 + _ ≤ _; exact Nat.le_of_eq rfl) (hb hby at_30) (fun _ _ => ⟨rfl, e1, (by decide : 0 + 0 ≤ _), (by decide : 0 + 0 ≤ _)⟩)
  dsimp only [Pt.U, Pt.locs, Pt.cells, Pt.slots] at X4 l4 y4 z4 st4 hQ4
  subst l4 y4 z4
  obtain ⟨rfl, N4q, e4⟩ := hQ4
  have N4 := Fr.app N1 N4q
  refine Go.st (fun _ k => st4 _ k) ?_
  show Go p e below _ (T4.setTop (mkF m 33 #[.val (.long q0), .second, .val (.long q1), .second, .val (.long q2), .second, .val (.long v2), .second, .val (.long v3), .second, .unset, .unset, .unset, .unset, .unset, .unset, .unset, .unset] [(.long (fInv (-7723592293110705685 : Int64))), (.long v3)]))
  refine Go.st (fun _ k => XS.lmul X4.here hx rfl (hb hby at_33) rfl k) ?_
  show Go p e below _ (T4.setTop (mkF m 34 #[.val (.long q0), .second, .val (.long q1), .second, .val (.long q2), .second, .val (.long v2), .second, .val (.long v3), .second, .unset, .unset, .unset, .unset, .unset, .unset, .unset, .unset] [(.long (v3 * (fInv (-7723592293110705685 : Int64))))]))
  generalize hv5 : (v3 * (fInv (-7723592293110705685 : Int64))) = v5
  refine Go.st (fun _ k => XS.lstore X4.here hx rfl (hb hby at_34) rfl (l' := #[.val (.long q0), .second, .val (.long q1), .second, .val (.long q2), .second, .val (.long v2), .second, .val (.long v3), .second, .val (.long v5), .second, .unset, .unset, .unset, .unset, .unset, .unset]) rfl k) ?_
  show Go p e below _ (T4.setTop (mkF m 36 #[.val (.long q0), .second, .val (.long q1), .second, .val (.long q2), .second, .val (.long v2), .second, .val (.long v3), .second, .val (.long v5), .second, .unset, .unset, .unset, .unset, .unset, .unset] []))
  refine Go.st (fun _ k => XS.lload X4.here hx rfl (hb hby at_36) rfl k) ?_
  show Go p e below _ (T4.setTop (mkF m 38 #[.val (.long q0), .second, .val (.long q1), .second, .val (.long q2), .second, .val (.long v2), .second, .val (.long v3), .second, .val (.long v5), .second, .unset, .unset, .unset, .unset, .unset, .unset] [(.long v5)]))
  refine Go.st (fun _ k => XS.lload X4.here hx rfl (hb hby at_38) rfl k) ?_
  show Go p e below _ (T4.setTop (mkF m 40 #[.val (.long q0), .second, .val (.long q1), .second, .val (.long q2), .second, .val (.long v2), .second, .val (.long v3), .second, .val (.long v5), .second, .unset, .unset, .unset, .unset, .unset, .unset] [(.long v5), (.long v5)]))
  refine Go.st (fun _ k => XS.bipush X4.here hx rfl (hb hby at_40) k) ?_
  show Go p e below _ (T4.setTop (mkF m 42 #[.val (.long q0), .second, .val (.long q1), .second, .val (.long q2), .second, .val (.long v2), .second, .val (.long v3), .second, .val (.long v5), .second, .unset, .unset, .unset, .unset, .unset, .unset] [(.int (27 : Int32)), (.long v5), (.long v5)]))
  refine Go.st (fun _ k => XS.lushr X4.here hx rfl (hb hby at_42) rfl k) ?_
  show Go p e below _ (T4.setTop (mkF m 43 #[.val (.long q0), .second, .val (.long q1), .second, .val (.long q2), .second, .val (.long v2), .second, .val (.long v3), .second, .val (.long v5), .second, .unset, .unset, .unset, .unset, .unset, .unset] [(.long ((v5.toUInt64 >>> ((27 : Int32) &&& 0x3f).toInt64.toUInt64).toInt64)), (.long v5)]))
  refine Go.st (fun _ k => XS.lxor X4.here hx rfl (hb hby at_43) rfl k) ?_
  show Go p e below _ (T4.setTop (mkF m 44 #[.val (.long q0), .second, .val (.long q1), .second, .val (.long q2), .second, .val (.long v2), .second, .val (.long v3), .second, .val (.long v5), .second, .unset, .unset, .unset, .unset, .unset, .unset] [(.long (v5 ^^^ ((v5.toUInt64 >>> ((27 : Int32) &&& 0x3f).toInt64.toUInt64).toInt64)))]))
  refine Go.st (fun _ k => XS.lload X4.here hx rfl (hb hby at_44) rfl k) ?_
  show Go p e below _ (T4.setTop (mkF m 46 #[.val (.long q0), .second, .val (.long q1), .second, .val (.long q2), .second, .val (.long v2), .second, .val (.long v3), .second, .val (.long v5), .second, .unset, .unset, .unset, .unset, .unset, .unset] [(.long v5), (.long (v5 ^^^ ((v5.toUInt64 >>> ((27 : Int32) &&& 0x3f).toInt64.toUInt64).toInt64)))]))
  refine Go.st (fun _ k => XS.bipush X4.here hx rfl (hb hby at_46) k) ?_
  show Go p e below _ (T4.setTop (mkF m 48 #[.val (.long q0), .second, .val (.long q1), .second, .val (.long q2), .second, .val (.long v2), .second, .val (.long v3), .second, .val (.long v5), .second, .unset, .unset, .unset, .unset, .unset, .unset] [(.int (54 : Int32)), (.long v5), (.long (v5 ^^^ ((v5.toUInt64 >>> ((27 : Int32) &&& 0x3f).toInt64.toUInt64).toInt64)))]))
  refine Go.st (fun _ k => XS.lushr X4.here hx rfl (hb hby at_48) rfl k) ?_
  show Go p e below _ (T4.setTop (mkF m 49 #[.val (.long q0), .second, .val (.long q1), .second, .val (.long q2), .second, .val (.long v2), .second, .val (.long v3), .second, .val (.long v5), .second, .unset, .unset, .unset, .unset, .unset, .unset] [(.long ((v5.toUInt64 >>> ((54 : Int32) &&& 0x3f).toInt64.toUInt64).toInt64)), (.long (v5 ^^^ ((v5.toUInt64 >>> ((27 : Int32) &&& 0x3f).toInt64.toUInt64).toInt64)))]))
  refine Go.st (fun _ k => XS.lxor X4.here hx rfl (hb hby at_49) rfl k) ?_
  show Go p e below _ (T4.setTop (mkF m 50 #[.val (.long q0), .second, .val (.long q1), .second, .val (.long q2), .second, .val (.long v2), .second, .val (.long v3), .second, .val (.long v5), .second, .unset, .unset, .unset, .unset, .unset, .unset] [(.long ((v5 ^^^ ((v5.toUInt64 >>> ((27 : Int32) &&& 0x3f).toInt64.toUInt64).toInt64)) ^^^ ((v5.toUInt64 >>> ((54 : Int32) &&& 0x3f).toInt64.toUInt64).toInt64)))]))
  generalize hv6 : ((v5 ^^^ ((v5.toUInt64 >>> ((27 : Int32) &&& 0x3f).toInt64.toUInt64).toInt64)) ^^^ ((v5.toUInt64 >>> ((54 : Int32) &&& 0x3f).toInt64.toUInt64).toInt64)) = v6
  refine Go.st (fun _ k => XS.lstore X4.here hx rfl (hb hby at_50) rfl (l' := #[.val (.long q0), .second, .val (.long q1), .second, .val (.long q2), .second, .val (.long v2), .second, .val (.long v3), .second, .val (.long v5), .second, .val (.long v6), .second, .unset, .unset, .unset, .unset]) rfl k) ?_
  show Go p e below _ (T4.setTop (mkF m 52 #[.val (.long q0), .second, .val (.long q1), .second, .val (.long q2), .second, .val (.long v2), .second, .val (.long v3), .second, .val (.long v5), .second, .val (.long v6), .second, .unset, .unset, .unset, .unset] []))
  refine Go.st (fun _ k => XS.lloadN X4.here hx rfl (hb hby at_52) rfl k) ?_
  show Go p e below _ (T4.setTop (mkF m 53 #[.val (.long q0), .second, .val (.long q1), .second, .val (.long q2), .second, .val (.long v2), .second, .val (.long v3), .second, .val (.long v5), .second, .val (.long v6), .second, .unset, .unset, .unset, .unset] [(.long q0)]))
  refine Go.st (fun _ k => X4.ldc2Long hx hown (mvT hZ (hw _ (List.mem_of_getElem? (i := 13) rfl))) (g := (mkF m 53 #[.val (.long q0), .second, .val (.long q1), .second, .val (.long q2), .second, .val (.long v2), .second, .val (.long v3), .second, .val (.long v5), .second, .val (.long v6), .second, .unset, .unset, .unset, .unset] [(.long q0)])) rfl (hb hby at_53) _ k) ?_
  show Go p e below _ (T4.setTop (mkF m 56 #[.val (.long q0), .second, .val (.long q1), .second, .val (.long q2), .second, .val (.long v2), .second, .val (.long v3), .second, .val (.long v5), .second, .val (.long v6), .second, .unset, .unset, .unset, .unset] [(.long (-7046029254386353131 : Int64)), (.long q0)]))
  refine Go.st (fun _ k => XS.lmul X4.here hx rfl (hb hby at_56) rfl k) ?_
  show Go p e below _ (T4.setTop (mkF m 57 #[.val (.long q0), .second, .val (.long q1), .second, .val (.long q2), .second, .val (.long v2), .second, .val (.long v3), .second, .val (.long v5), .second, .val (.long v6), .second, .unset, .unset, .unset, .unset] [(.long (q0 * (-7046029254386353131 : Int64)))]))
  refine Go.st (fun _ k => XS.lloadN X4.here hx rfl (hb hby at_57) rfl k) ?_
  show Go p e below _ (T4.setTop (mkF m 58 #[.val (.long q0), .second, .val (.long q1), .second, .val (.long q2), .second, .val (.long v2), .second, .val (.long v3), .second, .val (.long v5), .second, .val (.long v6), .second, .unset, .unset, .unset, .unset] [(.long q1), (.long (q0 * (-7046029254386353131 : Int64)))]))
  refine Go.st (fun _ k => XS.ladd X4.here hx rfl (hb hby at_58) rfl k) ?_
  show Go p e below _ (T4.setTop (mkF m 59 #[.val (.long q0), .second, .val (.long q1), .second, .val (.long q2), .second, .val (.long v2), .second, .val (.long v3), .second, .val (.long v5), .second, .val (.long v6), .second, .unset, .unset, .unset, .unset] [(.long ((q0 * (-7046029254386353131 : Int64)) + q1))]))
  generalize hv7 : ((q0 * (-7046029254386353131 : Int64)) + q1) = v7
  refine Go.st (fun _ k => XS.lstore X4.here hx rfl (hb hby at_59) rfl (l' := #[.val (.long q0), .second, .val (.long q1), .second, .val (.long q2), .second, .val (.long v2), .second, .val (.long v3), .second, .val (.long v5), .second, .val (.long v6), .second, .val (.long v7), .second, .unset, .unset]) rfl k) ?_
  show Go p e below _ (T4.setTop (mkF m 61 #[.val (.long q0), .second, .val (.long q1), .second, .val (.long q2), .second, .val (.long v2), .second, .val (.long v3), .second, .val (.long v5), .second, .val (.long v6), .second, .val (.long v7), .second, .unset, .unset] []))
  refine Go.st (fun _ k => XS.lload X4.here hx rfl (hb hby at_61) rfl k) ?_
  show Go p e below _ (T4.setTop (mkF m 63 #[.val (.long q0), .second, .val (.long q1), .second, .val (.long q2), .second, .val (.long v2), .second, .val (.long v3), .second, .val (.long v5), .second, .val (.long v6), .second, .val (.long v7), .second, .unset, .unset] [(.long v6)]))
  refine Go.st (fun _ k => XS.lload X4.here hx rfl (hb hby at_63) rfl k) ?_
  show Go p e below _ (T4.setTop (mkF m 65 #[.val (.long q0), .second, .val (.long q1), .second, .val (.long q2), .second, .val (.long v2), .second, .val (.long v3), .second, .val (.long v5), .second, .val (.long v6), .second, .val (.long v7), .second, .unset, .unset] [(.long v7), (.long v6)]))
  refine Go.st (fun _ k => XS.lload X4.here hx rfl (hb hby at_65) rfl k) ?_
  show Go p e below _ (T4.setTop (mkF m 67 #[.val (.long q0), .second, .val (.long q1), .second, .val (.long q2), .second, .val (.long v2), .second, .val (.long v3), .second, .val (.long v5), .second, .val (.long v6), .second, .val (.long v7), .second, .unset, .unset] [(.long v7), (.long v7), (.long v6)]))
  refine Go.st (fun _ k => XS.bipush X4.here hx rfl (hb hby at_67) k) ?_
  show Go p e below _ (T4.setTop (mkF m 69 #[.val (.long q0), .second, .val (.long q1), .second, .val (.long q2), .second, .val (.long v2), .second, .val (.long v3), .second, .val (.long v5), .second, .val (.long v6), .second, .val (.long v7), .second, .unset, .unset] [(.int (30 : Int32)), (.long v7), (.long v7), (.long v6)]))
  refine Go.st (fun _ k => XS.lushr X4.here hx rfl (hb hby at_69) rfl k) ?_
  show Go p e below _ (T4.setTop (mkF m 70 #[.val (.long q0), .second, .val (.long q1), .second, .val (.long q2), .second, .val (.long v2), .second, .val (.long v3), .second, .val (.long v5), .second, .val (.long v6), .second, .val (.long v7), .second, .unset, .unset] [(.long ((v7.toUInt64 >>> ((30 : Int32) &&& 0x3f).toInt64.toUInt64).toInt64)), (.long v7), (.long v6)]))
  refine Go.st (fun _ k => XS.lxor X4.here hx rfl (hb hby at_70) rfl k) ?_
  show Go p e below _ (T4.setTop (mkF m 71 #[.val (.long q0), .second, .val (.long q1), .second, .val (.long q2), .second, .val (.long v2), .second, .val (.long v3), .second, .val (.long v5), .second, .val (.long v6), .second, .val (.long v7), .second, .unset, .unset] [(.long (v7 ^^^ ((v7.toUInt64 >>> ((30 : Int32) &&& 0x3f).toInt64.toUInt64).toInt64))), (.long v6)]))
  refine Go.st (fun _ k => X4.ldc2Long hx hown (mvT hZ (hw _ (List.mem_of_getElem? (i := 14) rfl))) (g := (mkF m 71 #[.val (.long q0), .second, .val (.long q1), .second, .val (.long q2), .second, .val (.long v2), .second, .val (.long v3), .second, .val (.long v5), .second, .val (.long v6), .second, .val (.long v7), .second, .unset, .unset] [(.long (v7 ^^^ ((v7.toUInt64 >>> ((30 : Int32) &&& 0x3f).toInt64.toUInt64).toInt64))), (.long v6)])) rfl (hb hby at_71) _ k) ?_
  show Go p e below _ (T4.setTop (mkF m 74 #[.val (.long q0), .second, .val (.long q1), .second, .val (.long q2), .second, .val (.long v2), .second, .val (.long v3), .second, .val (.long v5), .second, .val (.long v6), .second, .val (.long v7), .second, .unset, .unset] [(.long (-4658895280553007687 : Int64)), (.long (v7 ^^^ ((v7.toUInt64 >>> ((30 : Int32) &&& 0x3f).toInt64.toUInt64).toInt64))), (.long v6)]))
  refine Go.st (fun _ k => XS.lmul X4.here hx rfl (hb hby at_74) rfl k) ?_
  show Go p e below _ (T4.setTop (mkF m 75 #[.val (.long q0), .second, .val (.long q1), .second, .val (.long q2), .second, .val (.long v2), .second, .val (.long v3), .second, .val (.long v5), .second, .val (.long v6), .second, .val (.long v7), .second, .unset, .unset] [(.long ((v7 ^^^ ((v7.toUInt64 >>> ((30 : Int32) &&& 0x3f).toInt64.toUInt64).toInt64)) * (-4658895280553007687 : Int64))), (.long v6)]))
  refine Go.st (fun _ k => XS.lsub X4.here hx rfl (hb hby at_75) rfl k) ?_
  show Go p e below _ (T4.setTop (mkF m 76 #[.val (.long q0), .second, .val (.long q1), .second, .val (.long q2), .second, .val (.long v2), .second, .val (.long v3), .second, .val (.long v5), .second, .val (.long v6), .second, .val (.long v7), .second, .unset, .unset] [(.long (v6 - ((v7 ^^^ ((v7.toUInt64 >>> ((30 : Int32) &&& 0x3f).toInt64.toUInt64).toInt64)) * (-4658895280553007687 : Int64))))]))
  generalize hv8 : (v6 - ((v7 ^^^ ((v7.toUInt64 >>> ((30 : Int32) &&& 0x3f).toInt64.toUInt64).toInt64)) * (-4658895280553007687 : Int64))) = v8
  refine Go.st (fun _ k => XS.lstore X4.here hx rfl (hb hby at_76) rfl (l' := #[.val (.long q0), .second, .val (.long q1), .second, .val (.long q2), .second, .val (.long v2), .second, .val (.long v3), .second, .val (.long v5), .second, .val (.long v6), .second, .val (.long v7), .second, .val (.long v8), .second]) rfl k) ?_
  show Go p e below _ (T4.setTop (mkF m 78 #[.val (.long q0), .second, .val (.long q1), .second, .val (.long q2), .second, .val (.long v2), .second, .val (.long v3), .second, .val (.long v5), .second, .val (.long v6), .second, .val (.long v7), .second, .val (.long v8), .second] []))
  refine Go.st (fun _ k => XS.lload X4.here hx rfl (hb hby at_78) rfl k) ?_
  show Go p e below _ (T4.setTop (mkF m 80 #[.val (.long q0), .second, .val (.long q1), .second, .val (.long q2), .second, .val (.long v2), .second, .val (.long v3), .second, .val (.long v5), .second, .val (.long v6), .second, .val (.long v7), .second, .val (.long v8), .second] [(.long v8)]))
  refine Go.st (fun _ k => XS.lload X4.here hx rfl (hb hby at_80) rfl k) ?_
  show Go p e below _ (T4.setTop (mkF m 82 #[.val (.long q0), .second, .val (.long q1), .second, .val (.long q2), .second, .val (.long v2), .second, .val (.long v3), .second, .val (.long v5), .second, .val (.long v6), .second, .val (.long v7), .second, .val (.long v8), .second] [(.long q2), (.long v8)]))
  refine Go.st (fun _ k => XS.lcmp X4.here hx rfl (hb hby at_82) rfl k) ?_
  show Go p e below _ (T4.setTop (mkF m 83 #[.val (.long q0), .second, .val (.long q1), .second, .val (.long q2), .second, .val (.long v2), .second, .val (.long v3), .second, .val (.long v5), .second, .val (.long v6), .second, .val (.long v7), .second, .val (.long v8), .second] [(.int (lcmpW v8 q2))]))
  refine Go.st (fun _ k => XS.ifNo X4.here hx rfl (hb hby at_83) rfl ((if0 _ _).trans (teq ((lw_eq _ _).mpr (own_hash hv2 hv3 hv5 hv6 hv7 hv8))).2) k) ?_
  show Go p e below _ (T4.setTop (mkF m 86 #[.val (.long q0), .second, .val (.long q1), .second, .val (.long q2), .second, .val (.long v2), .second, .val (.long v3), .second, .val (.long v5), .second, .val (.long v6), .second, .val (.long v7), .second, .val (.long v8), .second] []))
  refine Go.st (fun _ k => XS.iconst X4.here hx rfl (hb hby at_86) k) ?_
  show Go p e below _ (T4.setTop (mkF m 87 #[.val (.long q0), .second, .val (.long q1), .second, .val (.long q2), .second, .val (.long v2), .second, .val (.long v3), .second, .val (.long v5), .second, .val (.long v6), .second, .val (.long v7), .second, .val (.long v8), .second] [(.int (1 : Int32))]))
  refine Go.st (fun _ k => XS.goto X4.here hx rfl (pc0 := 87) (pc' := 91) rfl (hb hby at_87) (by decide) (by decide) k) ?_
  show Go p e below _ (T4.setTop (mkF m 91 #[.val (.long q0), .second, .val (.long q1), .second, .val (.long q2), .second, .val (.long v2), .second, .val (.long v3), .second, .val (.long v5), .second, .val (.long v6), .second, .val (.long v7), .second, .val (.long v8), .second] [(.int (1 : Int32))]))
  obtain ⟨fs, hr, hrun, hended, hW, hsame⟩ := X4.leave (v := some (.int (1 : Int32))) (fun h => by rw [Bd.returns] at h; cases h)
  refine ⟨_, _, retN X4 hx (t := .boolean) Bd.returns (by simp) (hb hby at_91) hr, hrun, hended, _, _, rfl, ?_, ⟨_, rfl⟩, hW, hsame.mono (by decide) (by decide)⟩
  show Q_rm0 Z q0 q1 q2 h0 n0 _ T4.heap _
  rw [e4]
  exact ⟨rfl, N4⟩
set_option maxRecDepth 65536 in
set_option maxHeartbeats 40000000 in
theorem comes_1 {Post : Tables → Env → Array Value → State → Outcome → State → Prop} (hpost : ∀ tb e args s v u, (limb_1_1.after args s (.returned v) u = true ∧ limb_1_2.after args s (.returned v) u = true ∧ True) → FrameEnd s (.returned v) u (Jvm.fieldLocs frame_1_writes args s ++ Jvm.arrayLocs frame_1_arrays args s ++ Jvm.staticLocs frame_1_statics s) 0 0 → Post tb e args s (.returned v) u) :
    ArmFor flags0 classFile x code maxLocals ret World_1 tables_1 room_1 Calls_1 rest_1 Pre_1 Post := by
  intro l hfl _ _ p e ha hc hk s m args below hf hA hF happ hP
  obtain ⟨hcalls, hrest, hpre⟩ := hP
  obtain ⟨-, -, -, hnamed, -, -, -, hat⟩ := (Spec.applies_iff hf).mp happ
  obtain ⟨hg, hn⟩ := and_e (Cond.before_iff.mp (show (Jvm.Cond.and given_1 narrow_1).before args s = true from hpre))
  obtain ⟨g0, gr0⟩ := and_e hg
  obtain ⟨gi0, gr1⟩ := and_e gr0
  obtain ⟨gi1, gr2⟩ := and_e gr1
  have gi2 := gr2
  obtain ⟨w0, w1, w2, rfl⟩ : ∃ w0 w1 w2 : Value, args = #[w0, w1, w2] := by
    have hs : args.size = 3 := by simpa [Cond.value, given_1] using g0
    obtain ⟨L⟩ := args
    match L, hs with
    | [w0, w1, w2], _ => exact ⟨w0, w1, w2, rfl⟩
  have hw := fun d (hd : d ∈ tables_1) => atoms_spec (ws := Jvm.Cond.code x code maxLocals ret :: tables_1) hat d (List.mem_cons_of_mem _ hd)
  obtain ⟨i0, ei0⟩ := isL_v gi0
  obtain rfl : w0 = (.long i0) := Option.some.inj ei0
  obtain ⟨i1, ei1⟩ := isL_v gi1
  obtain rfl : w1 = (.long i1) := Option.some.inj ei1
  obtain ⟨i2, ei2⟩ := isL_v gi2
  obtain rfl : w2 = (.long i2) := Option.some.inj ei2
  obtain ⟨n, o, h1, h2, h3, _, L, rfl, ⟨rfl, N⟩, hq⟩ := rm0 l s _ hw tables_1 i0 i1 i2  s.heap s.heap.size p e ha hc hk s m _ below hf ((Spec.applies_iff_loose hf).mp happ).1 ⟨rfl, State.Warmed39.refl s, rfl⟩ trivial
  refine ⟨n, _, h1, h2, h3, hpost _ _ _ _ _ _ ⟨Cond.after_iff.mpr rfl, Cond.after_iff.mpr (eq_i res_at (Term.int_eval (1)) rfl), trivial⟩ ⟨hq.1, hq.2.1, (hq.2.2.sift fun y hy => Or.inr (N y hy)).mono (by decide) (by decide)⟩⟩
theorem main_1_1 : Claimed_1_1 := comes_1 fun _ _ _ _ _ _ h hF => ⟨h.1, hF⟩
theorem main_1_2 : Claimed_1_2 := comes_1 fun _ _ _ _ _ _ h hF => ⟨h.2.1, hF⟩
end Jvm.Pilot.@@N@@
namespace Jvm.Pilot.@@N@@
open Jvm Jvm.ClassFile Sem Op Lib Jvm.Free Jvm.Stand Jvm.Pilot.@@N@@.Jvm.D
/-! MADE BY PROGRAM (witnessworld.py) out of the Statement's table words and the real class files: 11 classes; the members and pool entries that the words name. The judged class is class 1, her method 2. -/
namespace start1
open Jvm.ClassFile
def u (s : String) : CpInfo := .utf8 (stringToUtf16 s)
/-- a pool by its gaps: so many unusable entries, then the entry; so many at the end -/
def gap : Nat → List CpInfo → List CpInfo
  | 0, r => r
  | n + 1, r => .unusable :: gap n r
def poolList (es : List (Nat × CpInfo)) (last : Nat) : List CpInfo := es.foldr (fun e r => gap e.1 (e.2 :: r)) (gap last [])
def pool (es : List (Nat × CpInfo)) (last : Nat) : Array CpInfo := ⟨poolList es last⟩
def fileOf (pool : Array CpInfo) (this : Nat) (attrs : Array Attribute := #[]) (ms : Array MethodInfo := #[]) (fl : Nat := 33) (sup : Nat := 0) (ifs : Array Nat := #[]) (fds : Array FieldInfo := #[]) : ClassFile where
  minorVersion := 0
  majorVersion := 65
  constantPool := pool
  accessFlags := fl
  thisClass := this
  superClass := sup
  interfaces := ifs
  fields := fds
  methods := ms
  attributes := attrs
def plain (name : String) (sup : Option ClassId) : Class where
  name := name
  kind := .ordinary
  loader := none
  accessFlags := 33
  super := sup
  interfaces := #[]
  cf := none
  fields := #[]
  methods := #[]
  instanceTypes := #[]
  staticTypes := #[]
  resolved := #[]
  callSites := []
  init := .initialized
  statics := none
  mirror := none

def pool0 : Array CpInfo := pool [(5, u "<init>"), (0, u "()V"), (1, .class_ 10), (1, u "java/lang/Object")] 113

def k0m0 : Method := { name := "<init>", desc := "()V", sig := { parameters := [], returnType := none }, accessFlags := 1, code := none }
/-- java/lang/Object -/
def k0 : Class := { plain "java/lang/Object" none with
  accessFlags := 33
  interfaces := #[]
  cf := some (fileOf pool0 8 #[] #[{ accessFlags := 1, nameIndex := 5, descriptorIndex := 6, attributes := #[] }] 33 0 #[] #[])
  fields := #[]
  methods := #[k0m0]
  instanceTypes := #[]
  staticTypes := #[]
  resolved := Array.replicate 124 none
  statics := none }

def pool1 : Array CpInfo := pool [(2, .class_ 4), (1, u "java/lang/Object"), (0, u "<init>"), (0, u "()V"), (0, .long 2), (1, .methodref 10 11), (0, .class_ 12), (0, .nameAndType 13 14), (0, u "terselink/tlk/TlkIndex"), (0, u "hash"), (0, u "(JJJ)J"), (0, .long 10723151780598845931), (1, .methodref 18 19), (0, .class_ 20), (0, .nameAndType 21 22), (0, u "terselink/tlk/TlkIndexHashPinLaw"), (0, u "inverse"), (0, u "(J)J"), (0, .long 11400714819323198485), (1, .long 13787848793156543929), (3, u "law"), (0, u "(JJJ)Z")] 3

def k1m0 : Method := { name := "<init>", desc := "()V", sig := { parameters := [], returnType := none }, accessFlags := 1, code := none }
def k1c1 : Code := { maxStack := 8, maxLocals := 4, code := method_2_code, exceptionTable := #[], attributes := #[] }
def k1m1 : Method := { name := "inverse", desc := "(J)J", sig := { parameters := [.long], returnType := some .long }, accessFlags := 10, code := some k1c1 }
def k1c2 : Code := { maxStack := 7, maxLocals := 18, code := code, exceptionTable := #[], attributes := #[] }
def k1m2 : Method := { name := "law", desc := "(JJJ)Z", sig := { parameters := [.long, .long, .long], returnType := some .boolean }, accessFlags := 9, code := some k1c2 }
/-- terselink/tlk/TlkIndexHashPinLaw -/
def k1 : Class := { plain "terselink/tlk/TlkIndexHashPinLaw" (some 0) with
  accessFlags := 49
  interfaces := #[]
  cf := some (fileOf pool1 18 #[] #[{ accessFlags := 1, nameIndex := 5, descriptorIndex := 6, attributes := #[] }, { accessFlags := 10, nameIndex := 21, descriptorIndex := 22, attributes := #[] }, { accessFlags := 9, nameIndex := 29, descriptorIndex := 30, attributes := #[] }] 49 2 #[] #[])
  fields := #[]
  methods := #[k1m0, k1m1, k1m2]
  instanceTypes := #[]
  staticTypes := #[]
  resolved := Array.replicate 34 none
  statics := none }

def pool2 : Array CpInfo := pool [(1, .class_ 2), (0, u "java/lang/AutoCloseable"), (0, .class_ 4), (0, u "java/lang/Object")] 7

/-- java/lang/AutoCloseable -/
def k2 : Class := { plain "java/lang/AutoCloseable" (some 0) with
  accessFlags := 1537
  interfaces := #[]
  cf := some (fileOf pool2 1 #[] #[] 1537 3 #[] #[])
  fields := #[]
  methods := #[]
  instanceTypes := #[]
  staticTypes := #[]
  resolved := Array.replicate 12 none
  statics := none }

def pool3 : Array CpInfo := pool [(1, .class_ 2), (0, u "java/io/Closeable"), (0, .class_ 4), (0, u "java/lang/Object"), (0, .class_ 6), (0, u "java/lang/AutoCloseable")] 7

/-- java/io/Closeable -/
def k3 : Class := { plain "java/io/Closeable" (some 0) with
  accessFlags := 1537
  interfaces := #[2]
  cf := some (fileOf pool3 1 #[] #[] 1537 3 #[5] #[])
  fields := #[]
  methods := #[]
  instanceTypes := #[]
  staticTypes := #[]
  resolved := Array.replicate 14 none
  statics := none }

def pool4 : Array CpInfo := pool [(2, .class_ 4), (1, u "java/lang/Object"), (3, .class_ 10), (1, u "terselink/tlk/TlkIndex"), (0, u "file"), (0, u "Lterselink/tlk/TlkFile;"), (13, u "groupBits"), (0, u "Lterselink/tlk/BitInput;"), (5, u "indexBits"), (8, u "markCount"), (0, u "I"), (6, u "markOffsets"), (0, u "Lterselink/tlk/ScratchArray;"), (5, u "markGroups"), (2, u "markPlaces"), (2, u "markNamed"), (2, u "markGreatestOthers"), (2, u "markFirsts"), (8, u "groupCount"), (2, u "groupMarks"), (22, u "exceptionCount"), (2, u "exceptionObjects"), (2, u "exceptionMarks"), (17, u "subjectsPerBlock"), (4, u "predicateCount"), (2, u "predicateNumbers"), (4, u "predicateOrders"), (4, u "shapes"), (9, u "[Lterselink/tlk/SubjectShape;"), (18, u "hereReference"), (0, u "J"), (9, u "wholeOrder"), (11, u "blockCount"), (2, u "blockStarts"), (4, .long 11400714819323198485), (1, .long 13787848793156543929), (1, .long 10723151780598845931), (36, u "(JJJ)J"), (9, .class_ 258), (0, u "java/io/Closeable"), (91, u "hash")] 70

def k4c0 : Code := { maxStack := 5, maxLocals := 8, code := prog_73_method_2_code, exceptionTable := #[], attributes := #[] }
def k4m0 : Method := { name := "hash", desc := "(JJJ)J", sig := { parameters := [.long, .long, .long], returnType := some .long }, accessFlags := 8, code := some k4c0 }
/-- terselink/tlk/TlkIndex -/
def k4 : Class := { plain "terselink/tlk/TlkIndex" (some 0) with
  accessFlags := 48
  interfaces := #[3]
  cf := some (fileOf pool4 8 #[] #[{ accessFlags := 8, nameIndex := 350, descriptorIndex := 247, attributes := #[] }] 48 2 #[257] #[{ accessFlags := 18, nameIndex := 11, descriptorIndex := 12, attributes := #[] }, { accessFlags := 18, nameIndex := 50, descriptorIndex := 51, attributes := #[] }, { accessFlags := 18, nameIndex := 57, descriptorIndex := 51, attributes := #[] }, { accessFlags := 18, nameIndex := 60, descriptorIndex := 51, attributes := #[] }, { accessFlags := 18, nameIndex := 63, descriptorIndex := 51, attributes := #[] }, { accessFlags := 18, nameIndex := 66, descriptorIndex := 51, attributes := #[] }, { accessFlags := 18, nameIndex := 69, descriptorIndex := 51, attributes := #[] }, { accessFlags := 18, nameIndex := 42, descriptorIndex := 43, attributes := #[] }, { accessFlags := 18, nameIndex := 81, descriptorIndex := 51, attributes := #[] }, { accessFlags := 18, nameIndex := 78, descriptorIndex := 43, attributes := #[] }, { accessFlags := 18, nameIndex := 107, descriptorIndex := 51, attributes := #[] }, { accessFlags := 18, nameIndex := 110, descriptorIndex := 51, attributes := #[] }, { accessFlags := 18, nameIndex := 104, descriptorIndex := 43, attributes := #[] }, { accessFlags := 18, nameIndex := 128, descriptorIndex := 43, attributes := #[] }, { accessFlags := 18, nameIndex := 136, descriptorIndex := 51, attributes := #[] }, { accessFlags := 18, nameIndex := 141, descriptorIndex := 51, attributes := #[] }, { accessFlags := 18, nameIndex := 133, descriptorIndex := 43, attributes := #[] }, { accessFlags := 18, nameIndex := 146, descriptorIndex := 156, attributes := #[] }, { accessFlags := 18, nameIndex := 175, descriptorIndex := 176, attributes := #[] }, { accessFlags := 18, nameIndex := 186, descriptorIndex := 43, attributes := #[] }, { accessFlags := 18, nameIndex := 201, descriptorIndex := 51, attributes := #[] }, { accessFlags := 18, nameIndex := 198, descriptorIndex := 43, attributes := #[] }, { accessFlags := 18, nameIndex := 26, descriptorIndex := 27, attributes := #[] }, { accessFlags := 18, nameIndex := 33, descriptorIndex := 27, attributes := #[] }])
  fields := #[{ name := "file", type := (.object "terselink/tlk/TlkFile"), accessFlags := 18, slot := 0, constantValue := 0 }, { name := "markOffsets", type := (.object "terselink/tlk/ScratchArray"), accessFlags := 18, slot := 1, constantValue := 0 }, { name := "markGroups", type := (.object "terselink/tlk/ScratchArray"), accessFlags := 18, slot := 2, constantValue := 0 }, { name := "markPlaces", type := (.object "terselink/tlk/ScratchArray"), accessFlags := 18, slot := 3, constantValue := 0 }, { name := "markNamed", type := (.object "terselink/tlk/ScratchArray"), accessFlags := 18, slot := 4, constantValue := 0 }, { name := "markGreatestOthers", type := (.object "terselink/tlk/ScratchArray"), accessFlags := 18, slot := 5, constantValue := 0 }, { name := "markFirsts", type := (.object "terselink/tlk/ScratchArray"), accessFlags := 18, slot := 6, constantValue := 0 }, { name := "markCount", type := .int, accessFlags := 18, slot := 7, constantValue := 0 }, { name := "groupMarks", type := (.object "terselink/tlk/ScratchArray"), accessFlags := 18, slot := 8, constantValue := 0 }, { name := "groupCount", type := .int, accessFlags := 18, slot := 9, constantValue := 0 }, { name := "exceptionObjects", type := (.object "terselink/tlk/ScratchArray"), accessFlags := 18, slot := 10, constantValue := 0 }, { name := "exceptionMarks", type := (.object "terselink/tlk/ScratchArray"), accessFlags := 18, slot := 11, constantValue := 0 }, { name := "exceptionCount", type := .int, accessFlags := 18, slot := 12, constantValue := 0 }, { name := "subjectsPerBlock", type := .int, accessFlags := 18, slot := 13, constantValue := 0 }, { name := "predicateNumbers", type := (.object "terselink/tlk/ScratchArray"), accessFlags := 18, slot := 14, constantValue := 0 }, { name := "predicateOrders", type := (.object "terselink/tlk/ScratchArray"), accessFlags := 18, slot := 15, constantValue := 0 }, { name := "predicateCount", type := .int, accessFlags := 18, slot := 16, constantValue := 0 }, { name := "shapes", type := (.array (.object "terselink/tlk/SubjectShape")), accessFlags := 18, slot := 17, constantValue := 0 }, { name := "hereReference", type := .long, accessFlags := 18, slot := 18, constantValue := 0 }, { name := "wholeOrder", type := .int, accessFlags := 18, slot := 19, constantValue := 0 }, { name := "blockStarts", type := (.object "terselink/tlk/ScratchArray"), accessFlags := 18, slot := 20, constantValue := 0 }, { name := "blockCount", type := .int, accessFlags := 18, slot := 21, constantValue := 0 }, { name := "groupBits", type := (.object "terselink/tlk/BitInput"), accessFlags := 18, slot := 22, constantValue := 0 }, { name := "indexBits", type := (.object "terselink/tlk/BitInput"), accessFlags := 18, slot := 23, constantValue := 0 }]
  methods := #[k4m0]
  instanceTypes := #[(.object "terselink/tlk/TlkFile"), (.object "terselink/tlk/ScratchArray"), (.object "terselink/tlk/ScratchArray"), (.object "terselink/tlk/ScratchArray"), (.object "terselink/tlk/ScratchArray"), (.object "terselink/tlk/ScratchArray"), (.object "terselink/tlk/ScratchArray"), .int, (.object "terselink/tlk/ScratchArray"), .int, (.object "terselink/tlk/ScratchArray"), (.object "terselink/tlk/ScratchArray"), .int, .int, (.object "terselink/tlk/ScratchArray"), (.object "terselink/tlk/ScratchArray"), .int, (.array (.object "terselink/tlk/SubjectShape")), .long, .int, (.object "terselink/tlk/ScratchArray"), .int, (.object "terselink/tlk/BitInput"), (.object "terselink/tlk/BitInput")]
  staticTypes := #[]
  resolved := Array.replicate 421 none
  statics := none }

def pool5 : Array CpInfo := pool [(1, u "java/lang/Cloneable"), (0, .class_ 1), (0, u "java/lang/Object"), (0, .class_ 3)] 3

/-- java/lang/Cloneable -/
def k5 : Class := { plain "java/lang/Cloneable" (some 0) with
  accessFlags := 1537
  interfaces := #[]
  cf := some (fileOf pool5 2 #[] #[] 1537 4 #[] #[])
  fields := #[]
  methods := #[]
  instanceTypes := #[]
  staticTypes := #[]
  resolved := Array.replicate 8 none
  statics := none }

def pool6 : Array CpInfo := pool [(1, u "java/io/Serializable"), (0, .class_ 1), (0, u "java/lang/Object"), (0, .class_ 3)] 3

/-- java/io/Serializable -/
def k6 : Class := { plain "java/io/Serializable" (some 0) with
  accessFlags := 1537
  interfaces := #[]
  cf := some (fileOf pool6 2 #[] #[] 1537 4 #[] #[])
  fields := #[]
  methods := #[]
  instanceTypes := #[]
  staticTypes := #[]
  resolved := Array.replicate 8 none
  statics := none }

/-- the primitive byte -/
def k7 : Class := { plain "byte" none with kind := .primitive 'B', accessFlags := 0x411 }
/-- [B -/
def k8 : Class := { plain "[B" (some 0) with kind := .array 7 .byte, interfaces := #[5, 6], accessFlags := 1041 }

/-- the primitive int -/
def k9 : Class := { plain "int" none with kind := .primitive 'I', accessFlags := 0x411 }
/-- [I -/
def k10 : Class := { plain "[I" (some 0) with kind := .array 9 .int, interfaces := #[5, 6], accessFlags := 1041 }

def heap : Heap := #[]
def classes : Array Class := #[k0, k1, k2, k3, k4, k5, k6, k7, k8, k9, k10]
def interned : List (Array UInt16 × Addr) := []
def slotsUsed : Nat := 0
def theMethod : MethodId := ⟨1, 2⟩
def args0 : Array Value := #[.long 5, .long 6, .long 7]
def aboutOver (below : List Frame) : State where
  vm := { classes := classes, interned := interned.toArray }
  heap := heap
  slotsUsed := slotsUsed
  threads := #[{ frames := .invoking theMethod args0 :: below }]
def below0 : List Frame := [.native { method := ⟨0, 0⟩, args := #[] }]
def about1 : State := aboutOver below0
def p0 : Program := .bare "" "" ""
def e0 : Env := launch0.env 0 0 0
theorem w_frames : about1.frames = Frame.invoking theMethod args0 :: below0 := rfl
set_option maxRecDepth 65536 in
theorem w_args : argsFit about1.vm theMethod args0 = true := by decide +kernel
set_option maxRecDepth 65536 in
theorem w_heap : heapFits about1 = true := by decide +kernel
set_option maxRecDepth 65536 in
theorem w_runnable : about1.curStatus? = some .runnable := by decide +kernel
set_option maxRecDepth 65536 in
theorem w_alone : about1.alone = true := by decide +kernel
set_option maxRecDepth 65536 in
theorem w_named : about1.methodNamed? x = some theMethod := by decide +kernel
set_option maxRecDepth 65536 in
theorem w_hears : about1.hears theMethod below0 = true := by decide +kernel
set_option maxRecDepth 65536 in
theorem w_ripe : about1.ripe theMethod args0 below0 = true := by decide +kernel
theorem w_running : about1.status = .running := rfl
set_option maxRecDepth 65536 in
theorem w_room : about1.hasRoom e0.platform room_1 = true :=
  launch0.hasRoom_least _ room_1 (by decide +kernel) (by decide +kernel) (by decide +kernel) (by decide +kernel) (by decide +kernel) (by decide +kernel)
theorem allAtoms_all (ts : List Jvm.Cond) (a : Array Jvm.Value) (st : Jvm.State) : (allAtoms ts).before a st = ts.all (fun c => c.before a st) := by
  induction ts with
  | nil => rfl
  | cons c t ih =>
    show (Jvm.Cond.and c (allAtoms t)).before a st = _
    rw [Jvm.Cond.before_and, ih, List.all_cons]
def words1 : List Jvm.Cond := Jvm.Cond.code x code maxLocals ret :: tables_1
/-- a 'code' word, met by the world's own term for the bytes: nothing is compared byte by byte -/
theorem code_word {y : MethodName} {bytes : ByteArray} {mx : Nat} {rt : Option FieldType} {a : Array Value} {s : State} {m : MethodId} {meth : Method} {c : Code} (h1 : s.methodNamed? y = some m) (h2 : s.vm.method? m = some meth) (h3 : meth.code = some c) (h4 : c.code = bytes)
    (h5 : (c.maxLocals == mx && c.exceptionTable.isEmpty && decide (c.maxStack ≤ mostOperands) && decide (meth.sig.returnType = rt) && !meth.locks && decide (parseMethodDescriptor y.desc = some meth.sig)) = true) : (Jvm.Cond.code y bytes mx rt).before a s = true := by
  simp only [Bool.and_eq_true, beq_iff_eq, Bool.not_eq_true', decide_eq_true_eq] at h5
  obtain ⟨⟨⟨⟨⟨g1, g2⟩, g3⟩, g4⟩, g5⟩, g6⟩ := h5
  simp [Cond.before, Cond.holds, Cond.value, h1, h2, h3, h4, g1, g2, g3, g4, g5, g6]
def isCode : Jvm.Cond → Bool
  | .code _ _ _ _ => true
  | _ => false
theorem all_split {L : List Jvm.Cond} {P : Jvm.Cond → Bool} (h1 : L.all (fun c => isCode c || P c) = true) (h2 : ∀ c ∈ L.filter isCode, P c = true) : L.all P = true := by
  refine List.all_eq_true.mpr fun c hc => ?_
  have h := List.all_eq_true.mp h1 c hc
  rcases Bool.eq_false_or_eq_true (isCode c) with hi | hi
  · exact h2 c (List.mem_filter.mpr ⟨hc, hi⟩)
  · simpa [hi] using h
set_option maxRecDepth 65536 in
theorem w_c0 : (Jvm.Cond.code x code maxLocals ret).before args0 about1 = true := code_word (m := ⟨1, 2⟩) (meth := k1m2) (c := k1c2) (by decide +kernel) rfl rfl rfl (by decide +kernel)
set_option maxRecDepth 65536 in
theorem w_c1 : (Jvm.Cond.code ({ cls := "terselink/tlk/TlkIndex", name := "hash", desc := "(JJJ)J" } : Jvm.MethodName) prog_73_method_2_code (8 : Nat) (Option.some Jvm.ClassFile.FieldType.long)).before args0 about1 = true := code_word (m := ⟨4, 0⟩) (meth := k4m0) (c := k4c0) (by decide +kernel) rfl rfl rfl (by decide +kernel)
set_option maxRecDepth 65536 in
theorem w_c2 : (Jvm.Cond.code ({ cls := "terselink/tlk/TlkIndexHashPinLaw", name := "inverse", desc := "(J)J" } : Jvm.MethodName) method_2_code (4 : Nat) (Option.some Jvm.ClassFile.FieldType.long)).before args0 about1 = true := code_word (m := ⟨1, 1⟩) (meth := k1m1) (c := k1c1) (by decide +kernel) rfl rfl rfl (by decide +kernel)
def codes1 : List Jvm.Cond := [Jvm.Cond.code x code maxLocals ret, Jvm.Cond.code ({ cls := "terselink/tlk/TlkIndex", name := "hash", desc := "(JJJ)J" } : Jvm.MethodName) prog_73_method_2_code (8 : Nat) (Option.some Jvm.ClassFile.FieldType.long), Jvm.Cond.code ({ cls := "terselink/tlk/TlkIndexHashPinLaw", name := "inverse", desc := "(J)J" } : Jvm.MethodName) method_2_code (4 : Nat) (Option.some Jvm.ClassFile.FieldType.long)]
set_option maxRecDepth 65536 in
theorem codes_eq : words1.filter isCode = codes1 := rfl
theorem w_codes : ∀ c ∈ words1.filter isCode, c.before args0 about1 = true := by
  rw [codes_eq]
  intro c hc
  simp only [codes1, List.mem_cons, List.not_mem_nil, or_false] at hc
  rcases hc with rfl | rfl | rfl
  · exact w_c0
  · exact w_c1
  · exact w_c2
set_option maxRecDepth 65536 in
theorem w_t1 : words1.all (fun c => isCode c || c.before args0 about1) = true := by decide +kernel
theorem w_tables : (allAtoms (Jvm.Cond.code x code maxLocals ret :: tables_1)).before args0 about1 = true := by
  rw [allAtoms_all]
  show words1.all (fun c => c.before args0 about1) = true
  refine all_split ?_ w_codes
  rw [w_t1]
set_option maxRecDepth 65536 in
theorem w_case : (Jvm.Cond.and given_1 narrow_1).before args0 about1 = true := by decide +kernel
theorem w_applies : (headSpec (Jvm.Cond.code x code maxLocals ret :: tables_1) room_1).applies x e0.platform about1 = true :=
  (Spec.applies_iff w_frames).mpr ⟨w_running, w_runnable, w_alone, w_named, w_hears, w_ripe, w_room, w_tables⟩
theorem atStart : AtStart classFile x code maxLocals ret World_1 tables_1 room_1 Calls_1 rest_1 Pre_1 launch0 p0 e0 about1 theMethod args0 below0 :=
  ⟨lists_1, trivial, launch0.admits_env _ _ _, launch0.least_env, fairChoices_fair.cas, fairChoices_fair.clock, w_frames, w_args, w_heap, w_applies, trivial, trivial, w_case⟩
end start1
theorem witness_1 : WitnessClaimed_1 := ⟨start1.p0, start1.e0, start1.about1, start1.theMethod, start1.args0, start1.below0, start1.atStart⟩
end Jvm.Pilot.@@N@@
