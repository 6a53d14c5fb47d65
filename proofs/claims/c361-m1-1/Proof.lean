import JvmDerived
import JvmDerived.Pilot.@@N@@Statement
import JvmDerived.Pilot.@@N@@Code
set_option linter.unusedVariables false
set_option linter.unusedSimpArgs false
namespace Jvm.RoadKit
open Sem ClassFile Op Lib Jvm.Stand Jvm.Free Jvm.LawKit
section New
variable {p : Program} {l : Launch} {e : Env} {R : Room} {s : State} {m : MethodId} {args : Array Value} {below : List Frame} {meth : Method} {c : Code} {T : State} {locs : List Loc} {cells slots : Nat}
theorem retI (X : Stand p l e R s m args below meth c T locs cells slots) (hx : p.tables.exec = Jvm.exec) {pc : Nat} {Ls : Array Slot} {z : Int32} {rest : List Value} (hret : meth.sig.returnType = some .int) (hd : decode c.code pc = .ok (.ireturn, 1)) {fs : List Frame}
    (hl : ∀ (f : JFrame) (acts : List Action), f.method = m → f.locked = none → f.entered = [] → (doReturn e (T.setTop f) acts (some (.int z))).1 = T.setFrames fs) : Steps p.tables e below (T.setTop (mkF m pc Ls (.int z :: rest))) (T.setFrames fs) := by
  have hm' : T.vm.method? m = some meth := X.method'
  have hn : narrow .int (.int z) = .int z := rfl
  show Steps p.tables e below (T.setTop { method := m, pc := pc, locals := Ls, stack := _ :: rest, locked := none }) _
  jvm_step X.here [X.here.top, hx, hd, hm', hret, hn]
  first | (intro acts; rw [hl _ acts rfl rfl rfl]) | rw [hl _ _ rfl rfl rfl]
  exact Steps.refl _
theorem retJ (X : Stand p l e R s m args below meth c T locs cells slots) (hx : p.tables.exec = Jvm.exec) {pc : Nat} {Ls : Array Slot} {z : Int64} {rest : List Value} (hret : meth.sig.returnType = some .long) (hd : decode c.code pc = .ok (.lreturn, 1)) {fs : List Frame}
    (hl : ∀ (f : JFrame) (acts : List Action), f.method = m → f.locked = none → f.entered = [] → (doReturn e (T.setTop f) acts (some (.long z))).1 = T.setFrames fs) : Steps p.tables e below (T.setTop (mkF m pc Ls (.long z :: rest))) (T.setFrames fs) := by
  have hm' : T.vm.method? m = some meth := X.method'
  have hn : narrow .long (.long z) = .long z := rfl
  show Steps p.tables e below (T.setTop { method := m, pc := pc, locals := Ls, stack := _ :: rest, locked := none }) _
  jvm_step X.here [X.here.top, hx, hd, hm', hret, hn]
  first | (intro acts; rw [hl _ acts rfl rfl rfl]) | rw [hl _ _ rfl rfl rfl]
  exact Steps.refl _
theorem retA (X : Stand p l e R s m args below meth c T locs cells slots) (hx : p.tables.exec = Jvm.exec) {pc : Nat} {Ls : Array Slot} {z : Value} {t : FieldType} {rest : List Value} (hret : meth.sig.returnType = some t) (ht : t.isReference = true) (hz : z.isRef = true) (hd : decode c.code pc = .ok (.areturn, 1)) {fs : List Frame}
    (hl : ∀ (f : JFrame) (acts : List Action), f.method = m → f.locked = none → f.entered = [] → (doReturn e (T.setTop f) acts (some z)).1 = T.setFrames fs) : Steps p.tables e below (T.setTop (mkF m pc Ls (z :: rest))) (T.setFrames fs) := by
  have hm' : T.vm.method? m = some meth := X.method'
  show Steps p.tables e below (T.setTop { method := m, pc := pc, locals := Ls, stack := _ :: rest, locked := none }) _
  jvm_step X.here [X.here.top, hx, hd, hm', hret, ht, hz]
  first | (intro acts; rw [hl _ acts rfl rfl rfl]) | rw [hl _ _ rfl rfl rfl]
  exact Steps.refl _
end New
end Jvm.RoadKit
@@BLOCK:NumsL.lean.txt@@
@@BLOCK:Masks.lean.txt@@
namespace Jvm.Pilot.@@N@@
open Jvm Jvm.ClassFile Sem Op Lib Jvm.Free Jvm.Stand Jvm.LawKit Jvm.RoadKit Bundle Jvm.Pilot.@@N@@.Jvm.D
/-- the run comes from st to an end of which F holds -/
abbrev Go (p : Program) (e : Env) (below : List Frame) (F : Outcome → State → Prop) (st : State) : Prop := ∃ t o, Steps p.tables e below st t ∧ t.status = .running ∧ Ended t below o ∧ F o t
theorem Go.st {p : Program} {e : Env} {below : List Frame} {F : Outcome → State → Prop} {a b : State} (h : ∀ t, Steps p.tables e below b t → Steps p.tables e below a t) (k : Go p e below F b) : Go p e below F a := by
  obtain ⟨t, o, h1, h2⟩ := k
  exact ⟨t, o, h t h1, h2⟩
/-- Java's x % y -/
abbrev jrem (x y : Int32) : Int32 := x - (x / y) * y
abbrev jremL (x y : Int64) : Int64 := x - (x / y) * y
theorem Go.cast {p : Program} {e : Env} {below : List Frame} {F : Outcome → State → Prop} {a b : State} (h : a = b) (k : Go p e below F b) : Go p e below F a := h ▸ k
theorem d1_0 : decode prog_57_method_12_code 0 = .ok (.ldc2_w 95, 3) := by decide +kernel
theorem d1_3 : decode prog_57_method_12_code 3 = .ok (.lstore_n 2, 1) := by decide +kernel
theorem d1_4 : decode prog_57_method_12_code 4 = .ok (.lload_n 2, 1) := by decide +kernel
theorem d1_5 : decode prog_57_method_12_code 5 = .ok (.bipush 8, 2) := by decide +kernel
theorem d1_7 : decode prog_57_method_12_code 7 = .ok (.lshl, 1) := by decide +kernel
theorem d1_8 : decode prog_57_method_12_code 8 = .ok (.bipush 48, 2) := by decide +kernel
theorem d1_10 : decode prog_57_method_12_code 10 = .ok (.iload_n 1, 1) := by decide +kernel
theorem d1_11 : decode prog_57_method_12_code 11 = .ok (.bipush 10, 2) := by decide +kernel
theorem d1_13 : decode prog_57_method_12_code 13 = .ok (.irem, 1) := by decide +kernel
theorem d1_14 : decode prog_57_method_12_code 14 = .ok (.iadd, 1) := by decide +kernel
theorem d1_15 : decode prog_57_method_12_code 15 = .ok (.i2l, 1) := by decide +kernel
theorem d1_16 : decode prog_57_method_12_code 16 = .ok (.lor, 1) := by decide +kernel
theorem d1_17 : decode prog_57_method_12_code 17 = .ok (.lstore_n 2, 1) := by decide +kernel
theorem d1_18 : decode prog_57_method_12_code 18 = .ok (.lload_n 2, 1) := by decide +kernel
theorem d1_19 : decode prog_57_method_12_code 19 = .ok (.bipush 8, 2) := by decide +kernel
theorem d1_21 : decode prog_57_method_12_code 21 = .ok (.lshl, 1) := by decide +kernel
theorem d1_22 : decode prog_57_method_12_code 22 = .ok (.bipush 48, 2) := by decide +kernel
theorem d1_24 : decode prog_57_method_12_code 24 = .ok (.iload_n 1, 1) := by decide +kernel
theorem d1_25 : decode prog_57_method_12_code 25 = .ok (.bipush 10, 2) := by decide +kernel
theorem d1_27 : decode prog_57_method_12_code 27 = .ok (.idiv, 1) := by decide +kernel
theorem d1_28 : decode prog_57_method_12_code 28 = .ok (.iadd, 1) := by decide +kernel
theorem d1_29 : decode prog_57_method_12_code 29 = .ok (.i2l, 1) := by decide +kernel
theorem d1_30 : decode prog_57_method_12_code 30 = .ok (.lor, 1) := by decide +kernel
theorem d1_31 : decode prog_57_method_12_code 31 = .ok (.lstore_n 2, 1) := by decide +kernel
theorem d1_32 : decode prog_57_method_12_code 32 = .ok (.lload_n 2, 1) := by decide +kernel
theorem d1_33 : decode prog_57_method_12_code 33 = .ok (.bipush 8, 2) := by decide +kernel
theorem d1_35 : decode prog_57_method_12_code 35 = .ok (.lshl, 1) := by decide +kernel
theorem d1_36 : decode prog_57_method_12_code 36 = .ok (.ldc2_w 95, 3) := by decide +kernel
theorem d1_39 : decode prog_57_method_12_code 39 = .ok (.lor, 1) := by decide +kernel
theorem d1_40 : decode prog_57_method_12_code 40 = .ok (.lstore_n 2, 1) := by decide +kernel
theorem d1_41 : decode prog_57_method_12_code 41 = .ok (.iload_n 0, 1) := by decide +kernel
theorem d1_42 : decode prog_57_method_12_code 42 = .ok (.istore 4, 2) := by decide +kernel
theorem d1_44 : decode prog_57_method_12_code 44 = .ok (.iconst 0, 1) := by decide +kernel
theorem d1_45 : decode prog_57_method_12_code 45 = .ok (.istore 5, 2) := by decide +kernel
theorem d1_47 : decode prog_57_method_12_code 47 = .ok (.iload 5, 2) := by decide +kernel
theorem d1_49 : decode prog_57_method_12_code 49 = .ok (.iconst 4, 1) := by decide +kernel
theorem d1_50 : decode prog_57_method_12_code 50 = .ok (.if_icmp .ge 31, 3) := by decide +kernel
theorem d1_53 : decode prog_57_method_12_code 53 = .ok (.lload_n 2, 1) := by decide +kernel
theorem d1_54 : decode prog_57_method_12_code 54 = .ok (.bipush 8, 2) := by decide +kernel
theorem d1_56 : decode prog_57_method_12_code 56 = .ok (.lshl, 1) := by decide +kernel
theorem d1_57 : decode prog_57_method_12_code 57 = .ok (.bipush 48, 2) := by decide +kernel
theorem d1_59 : decode prog_57_method_12_code 59 = .ok (.iload 4, 2) := by decide +kernel
theorem d1_61 : decode prog_57_method_12_code 61 = .ok (.bipush 10, 2) := by decide +kernel
theorem d1_63 : decode prog_57_method_12_code 63 = .ok (.irem, 1) := by decide +kernel
theorem d1_64 : decode prog_57_method_12_code 64 = .ok (.iadd, 1) := by decide +kernel
theorem d1_65 : decode prog_57_method_12_code 65 = .ok (.i2l, 1) := by decide +kernel
theorem d1_66 : decode prog_57_method_12_code 66 = .ok (.lor, 1) := by decide +kernel
theorem d1_67 : decode prog_57_method_12_code 67 = .ok (.lstore_n 2, 1) := by decide +kernel
theorem d1_68 : decode prog_57_method_12_code 68 = .ok (.iinc 5 1, 3) := by decide +kernel
theorem d1_71 : decode prog_57_method_12_code 71 = .ok (.iload 4, 2) := by decide +kernel
theorem d1_73 : decode prog_57_method_12_code 73 = .ok (.bipush 10, 2) := by decide +kernel
theorem d1_75 : decode prog_57_method_12_code 75 = .ok (.idiv, 1) := by decide +kernel
theorem d1_76 : decode prog_57_method_12_code 76 = .ok (.istore 4, 2) := by decide +kernel
theorem d1_78 : decode prog_57_method_12_code 78 = .ok (.goto (-31), 3) := by decide +kernel
theorem d1_81 : decode prog_57_method_12_code 81 = .ok (.lload_n 2, 1) := by decide +kernel
theorem d1_82 : decode prog_57_method_12_code 82 = .ok (.lreturn, 1) := by decide +kernel
theorem pn_1 : plainName "com/example/drollover/drollover/cli/CsvWriter" = true := by first | (simp [plainName, overriddenIn]; done) | decide +kernel
theorem ef_rm1 (m : MethodId) (p0 : Int32) (p1 : Int32) : entryFrame m #[(.int p0), (.int p1)] 6 = mkF m 0 #[.val (.int p0), .val (.int p1), .unset, .unset, .unset, .unset] [] := by first | (simp [entryFrame, mkF, argsToLocals, Value.category]; done) | rfl
def fYM (p0 : Int32) (p1 : Int32) : Int64 := let v1 : Int64 := (((45 : Int64) <<< ((8 : Int32) &&& 0x3f).toInt64) ||| (((48 : Int32) + (jrem p1 (10 : Int32))).toInt64)); let v2 : Int64 := ((v1 <<< ((8 : Int32) &&& 0x3f).toInt64) ||| (((48 : Int32) + (p1 / (10 : Int32))).toInt64)); let v3 : Int64 := ((v2 <<< ((8 : Int32) &&& 0x3f).toInt64) ||| (45 : Int64)); let v4 : Int64 := ((v3 <<< ((8 : Int32) &&& 0x3f).toInt64) ||| (((48 : Int32) + (jrem p0 (10 : Int32))).toInt64)); let v5 : Int32 := (p0 / (10 : Int32)); let v6 : Int64 := ((v4 <<< ((8 : Int32) &&& 0x3f).toInt64) ||| (((48 : Int32) + (jrem v5 (10 : Int32))).toInt64)); let v7 : Int32 := (v5 / (10 : Int32)); let v8 : Int64 := ((v6 <<< ((8 : Int32) &&& 0x3f).toInt64) ||| (((48 : Int32) + (jrem v7 (10 : Int32))).toInt64)); let v9 : Int32 := (v7 / (10 : Int32)); let v10 : Int64 := ((v8 <<< ((8 : Int32) &&& 0x3f).toInt64) ||| (((48 : Int32) + (jrem v9 (10 : Int32))).toInt64)); let v11 : Int32 := (v9 / (10 : Int32)); v10
def Q_rm1 (Z : State) (p0 : Int32) (p1 : Int32) (h0 : Heap) (n0 : Nat) (v : Option Value) (h : Heap) (L : List Loc) : Prop := v = some (.long (fYM p0 p1)) ∧ Fr n0 L ∧ h = h0
abbrev F_rm1 (Z : State) (p0 : Int32) (p1 : Int32) (h0 : Heap) (n0 : Nat) (s : State) (o : Outcome) (U : State) : Prop := ∃ v L, o = .returned v ∧ Q_rm1 Z p0 p1 h0 n0 v U.heap L ∧ FrameEnd s o U L 0 0
set_option maxRecDepth 65536 in
set_option maxHeartbeats 40000000 in
theorem rm1 (l : Launch) (Z : State) (aZ : Array Value) (hw : ∀ d ∈ tables_1, d.before aZ Z = true) (ws : List Jvm.Cond) (p0 : Int32) (p1 : Int32) (h0 : Heap) (n0 : Nat) :
    MetFree l (⟨"com/example/drollover/drollover/cli/CsvWriter", "yearMonth", "(II)J"⟩ : MethodName) (head1 (Jvm.Cond.code (⟨"com/example/drollover/drollover/cli/CsvWriter", "yearMonth", "(II)J"⟩ : MethodName) prog_57_method_12_code 6 (some .long) :: ws) ({ frames := 0, cells := 0, slots := 0, locals := 0 } : Room)) (fun a U => a = #[(.int p0), (.int p1)] ∧ Z.Warmed39 U.vm ∧ U.heap = h0) (fun _ _ _ _ _ => True) (fun _ U o U' => ∃ v L, o = .returned v ∧ Q_rm1 Z p0 p1 h0 n0 v U'.heap L ∧ FrameEnd U o U' L 0 0) := by
  refine MetFree.of_bodySF (plainFor_of_name pn_1) hisR ?_
  intro p e s m args below meth c s₁ Bd hml0 hP hK
  obtain ⟨rfl, hZ, hh⟩ := hP
  have hx := Bd.exec
  have hby := Bd.bytes
  have hml : c.maxLocals = 6 := hml0
  have hown : s.vm.findClass "com/example/drollover/drollover/cli/CsvWriter" = some m.cls := findClass_of_methodNamed Bd.named
  have hnm := (name_of_methodNamed Bd.named Bd.method).1
  have X0 : Stand p l e ({ frames := 0, cells := 0, slots := 0, locals := 0 } : Room) s m #[(.int p0), (.int p1)] below meth c s₁ [] 0 0 := Stand.of_body Bd
  have e0 : s₁.heap = h0 := by rw [← hh, Bd.state]; rfl
  have N0 := Fr.nil n0
  refine Go.st (fun _ k => castTop (ef_rm1 m p0 p1) k) ?_
  show Go p e below _ (s₁.setTop (mkF m 0 #[.val (.int p0), .val (.int p1), .unset, .unset, .unset, .unset] []))
  refine Go.st (fun _ k => X0.ldc2Long hx hown (mvT hZ (hw _ (List.mem_of_getElem? (i := 5) rfl))) (g := (mkF m 0 #[.val (.int p0), .val (.int p1), .unset, .unset, .unset, .unset] [])) rfl (hb hby d1_0) _ k) ?_
  show Go p e below _ (s₁.setTop (mkF m 3 #[.val (.int p0), .val (.int p1), .unset, .unset, .unset, .unset] [(.long (45 : Int64))]))
  refine Go.st (fun _ k => XS.lstoreN X0.here hx rfl (hb hby d1_3) rfl (l' := #[.val (.int p0), .val (.int p1), .val (.long (45 : Int64)), .second, .unset, .unset]) rfl k) ?_
  show Go p e below _ (s₁.setTop (mkF m 4 #[.val (.int p0), .val (.int p1), .val (.long (45 : Int64)), .second, .unset, .unset] []))
  refine Go.st (fun _ k => XS.lloadN X0.here hx rfl (hb hby d1_4) rfl k) ?_
  show Go p e below _ (s₁.setTop (mkF m 5 #[.val (.int p0), .val (.int p1), .val (.long (45 : Int64)), .second, .unset, .unset] [(.long (45 : Int64))]))
  refine Go.st (fun _ k => XS.bipush X0.here hx rfl (hb hby d1_5) k) ?_
  show Go p e below _ (s₁.setTop (mkF m 7 #[.val (.int p0), .val (.int p1), .val (.long (45 : Int64)), .second, .unset, .unset] [(.int (8 : Int32)), (.long (45 : Int64))]))
  refine Go.st (fun _ k => XS.lshl X0.here hx rfl (hb hby d1_7) rfl k) ?_
  show Go p e below _ (s₁.setTop (mkF m 8 #[.val (.int p0), .val (.int p1), .val (.long (45 : Int64)), .second, .unset, .unset] [(.long ((45 : Int64) <<< ((8 : Int32) &&& 0x3f).toInt64))]))
  refine Go.st (fun _ k => XS.bipush X0.here hx rfl (hb hby d1_8) k) ?_
  show Go p e below _ (s₁.setTop (mkF m 10 #[.val (.int p0), .val (.int p1), .val (.long (45 : Int64)), .second, .unset, .unset] [(.int (48 : Int32)), (.long ((45 : Int64) <<< ((8 : Int32) &&& 0x3f).toInt64))]))
  refine Go.st (fun _ k => XS.iloadN X0.here hx rfl (hb hby d1_10) rfl k) ?_
  show Go p e below _ (s₁.setTop (mkF m 11 #[.val (.int p0), .val (.int p1), .val (.long (45 : Int64)), .second, .unset, .unset] [(.int p1), (.int (48 : Int32)), (.long ((45 : Int64) <<< ((8 : Int32) &&& 0x3f).toInt64))]))
  refine Go.st (fun _ k => XS.bipush X0.here hx rfl (hb hby d1_11) k) ?_
  show Go p e below _ (s₁.setTop (mkF m 13 #[.val (.int p0), .val (.int p1), .val (.long (45 : Int64)), .second, .unset, .unset] [(.int (10 : Int32)), (.int p1), (.int (48 : Int32)), (.long ((45 : Int64) <<< ((8 : Int32) &&& 0x3f).toInt64))]))
  refine Go.st (fun _ k => XS.irem X0.here hx rfl (hb hby d1_13) rfl (by decide) k) ?_
  show Go p e below _ (s₁.setTop (mkF m 14 #[.val (.int p0), .val (.int p1), .val (.long (45 : Int64)), .second, .unset, .unset] [(.int (jrem p1 (10 : Int32))), (.int (48 : Int32)), (.long ((45 : Int64) <<< ((8 : Int32) &&& 0x3f).toInt64))]))
  refine Go.st (fun _ k => XS.iadd X0.here hx rfl (hb hby d1_14) rfl k) ?_
  show Go p e below _ (s₁.setTop (mkF m 15 #[.val (.int p0), .val (.int p1), .val (.long (45 : Int64)), .second, .unset, .unset] [(.int ((48 : Int32) + (jrem p1 (10 : Int32)))), (.long ((45 : Int64) <<< ((8 : Int32) &&& 0x3f).toInt64))]))
  refine Go.st (fun _ k => XS.i2l X0.here hx rfl (hb hby d1_15) rfl k) ?_
  show Go p e below _ (s₁.setTop (mkF m 16 #[.val (.int p0), .val (.int p1), .val (.long (45 : Int64)), .second, .unset, .unset] [(.long (((48 : Int32) + (jrem p1 (10 : Int32))).toInt64)), (.long ((45 : Int64) <<< ((8 : Int32) &&& 0x3f).toInt64))]))
  refine Go.st (fun _ k => XS.lor X0.here hx rfl (hb hby d1_16) rfl k) ?_
  show Go p e below _ (s₁.setTop (mkF m 17 #[.val (.int p0), .val (.int p1), .val (.long (45 : Int64)), .second, .unset, .unset] [(.long (((45 : Int64) <<< ((8 : Int32) &&& 0x3f).toInt64) ||| (((48 : Int32) + (jrem p1 (10 : Int32))).toInt64)))]))
  generalize hv1 : (((45 : Int64) <<< ((8 : Int32) &&& 0x3f).toInt64) ||| (((48 : Int32) + (jrem p1 (10 : Int32))).toInt64)) = v1
  refine Go.st (fun _ k => XS.lstoreN X0.here hx rfl (hb hby d1_17) rfl (l' := #[.val (.int p0), .val (.int p1), .val (.long v1), .second, .unset, .unset]) rfl k) ?_
  show Go p e below _ (s₁.setTop (mkF m 18 #[.val (.int p0), .val (.int p1), .val (.long v1), .second, .unset, .unset] []))
  refine Go.st (fun _ k => XS.lloadN X0.here hx rfl (hb hby d1_18) rfl k) ?_
  show Go p e below _ (s₁.setTop (mkF m 19 #[.val (.int p0), .val (.int p1), .val (.long v1), .second, .unset, .unset] [(.long v1)]))
  refine Go.st (fun _ k => XS.bipush X0.here hx rfl (hb hby d1_19) k) ?_
  show Go p e below _ (s₁.setTop (mkF m 21 #[.val (.int p0), .val (.int p1), .val (.long v1), .second, .unset, .unset] [(.int (8 : Int32)), (.long v1)]))
  refine Go.st (fun _ k => XS.lshl X0.here hx rfl (hb hby d1_21) rfl k) ?_
  show Go p e below _ (s₁.setTop (mkF m 22 #[.val (.int p0), .val (.int p1), .val (.long v1), .second, .unset, .unset] [(.long (v1 <<< ((8 : Int32) &&& 0x3f).toInt64))]))
  refine Go.st (fun _ k => XS.bipush X0.here hx rfl (hb hby d1_22) k) ?_
  show Go p e below _ (s₁.setTop (mkF m 24 #[.val (.int p0), .val (.int p1), .val (.long v1), .second, .unset, .unset] [(.int (48 : Int32)), (.long (v1 <<< ((8 : Int32) &&& 0x3f).toInt64))]))
  refine Go.st (fun _ k => XS.iloadN X0.here hx rfl (hb hby d1_24) rfl k) ?_
  show Go p e below _ (s₁.setTop (mkF m 25 #[.val (.int p0), .val (.int p1), .val (.long v1), .second, .unset, .unset] [(.int p1), (.int (48 : Int32)), (.long (v1 <<< ((8 : Int32) &&& 0x3f).toInt64))]))
  refine Go.st (fun _ k => XS.bipush X0.here hx rfl (hb hby d1_25) k) ?_
  show Go p e below _ (s₁.setTop (mkF m 27 #[.val (.int p0), .val (.int p1), .val (.long v1), .second, .unset, .unset] [(.int (10 : Int32)), (.int p1), (.int (48 : Int32)), (.long (v1 <<< ((8 : Int32) &&& 0x3f).toInt64))]))
  refine Go.st (fun _ k => XS.idiv X0.here hx rfl (hb hby d1_27) rfl (by decide) k) ?_
  show Go p e below _ (s₁.setTop (mkF m 28 #[.val (.int p0), .val (.int p1), .val (.long v1), .second, .unset, .unset] [(.int (p1 / (10 : Int32))), (.int (48 : Int32)), (.long (v1 <<< ((8 : Int32) &&& 0x3f).toInt64))]))
  refine Go.st (fun _ k => XS.iadd X0.here hx rfl (hb hby d1_28) rfl k) ?_
  show Go p e below _ (s₁.setTop (mkF m 29 #[.val (.int p0), .val (.int p1), .val (.long v1), .second, .unset, .unset] [(.int ((48 : Int32) + (p1 / (10 : Int32)))), (.long (v1 <<< ((8 : Int32) &&& 0x3f).toInt64))]))
  refine Go.st (fun _ k => XS.i2l X0.here hx rfl (hb hby d1_29) rfl k) ?_
  show Go p e below _ (s₁.setTop (mkF m 30 #[.val (.int p0), .val (.int p1), .val (.long v1), .second, .unset, .unset] [(.long (((48 : Int32) + (p1 / (10 : Int32))).toInt64)), (.long (v1 <<< ((8 : Int32) &&& 0x3f).toInt64))]))
  refine Go.st (fun _ k => XS.lor X0.here hx rfl (hb hby d1_30) rfl k) ?_
  show Go p e below _ (s₁.setTop (mkF m 31 #[.val (.int p0), .val (.int p1), .val (.long v1), .second, .unset, .unset] [(.long ((v1 <<< ((8 : Int32) &&& 0x3f).toInt64) ||| (((48 : Int32) + (p1 / (10 : Int32))).toInt64)))]))
  generalize hv2 : ((v1 <<< ((8 : Int32) &&& 0x3f).toInt64) ||| (((48 : Int32) + (p1 / (10 : Int32))).toInt64)) = v2
  refine Go.st (fun _ k => XS.lstoreN X0.here hx rfl (hb hby d1_31) rfl (l' := #[.val (.int p0), .val (.int p1), .val (.long v2), .second, .unset, .unset]) rfl k) ?_
  show Go p e below _ (s₁.setTop (mkF m 32 #[.val (.int p0), .val (.int p1), .val (.long v2), .second, .unset, .unset] []))
  refine Go.st (fun _ k => XS.lloadN X0.here hx rfl (hb hby d1_32) rfl k) ?_
  show Go p e below _ (s₁.setTop (mkF m 33 #[.val (.int p0), .val (.int p1), .val (.long v2), .second, .unset, .unset] [(.long v2)]))
  refine Go.st (fun _ k => XS.bipush X0.here hx rfl (hb hby d1_33) k) ?_
  show Go p e below _ (s₁.setTop (mkF m 35 #[.val (.int p0), .val (.int p1), .val (.long v2), .second, .unset, .unset] [(.int (8 : Int32)), (.long v2)]))
  refine Go.st (fun _ k => XS.lshl X0.here hx rfl (hb hby d1_35) rfl k) ?_
  show Go p e below _ (s₁.setTop (mkF m 36 #[.val (.int p0), .val (.int p1), .val (.long v2), .second, .unset, .unset] [(.long (v2 <<< ((8 : Int32) &&& 0x3f).toInt64))]))
  refine Go.st (fun _ k => X0.ldc2Long hx hown (mvT hZ (hw _ (List.mem_of_getElem? (i := 5) rfl))) (g := (mkF m 36 #[.val (.int p0), .val (.int p1), .val (.long v2), .second, .unset, .unset] [(.long (v2 <<< ((8 : Int32) &&& 0x3f).toInt64))])) rfl (hb hby d1_36) _ k) ?_
  show Go p e below _ (s₁.setTop (mkF m 39 #[.val (.int p0), .val (.int p1), .val (.long v2), .second, .unset, .unset] [(.long (45 : Int64)), (.long (v2 <<< ((8 : Int32) &&& 0x3f).toInt64))]))
  refine Go.st (fun _ k => XS.lor X0.here hx rfl (hb hby d1_39) rfl k) ?_
  show Go p e below _ (s₁.setTop (mkF m 40 #[.val (.int p0), .val (.int p1), .val (.long v2), .second, .unset, .unset] [(.long ((v2 <<< ((8 : Int32) &&& 0x3f).toInt64) ||| (45 : Int64)))]))
  generalize hv3 : ((v2 <<< ((8 : Int32) &&& 0x3f).toInt64) ||| (45 : Int64)) = v3
  refine Go.st (fun _ k => XS.lstoreN X0.here hx rfl (hb hby d1_40) rfl (l' := #[.val (.int p0), .val (.int p1), .val (.long v3), .second, .unset, .unset]) rfl k) ?_
  show Go p e below _ (s₁.setTop (mkF m 41 #[.val (.int p0), .val (.int p1), .val (.long v3), .second, .unset, .unset] []))
  refine Go.st (fun _ k => XS.iloadN X0.here hx rfl (hb hby d1_41) rfl k) ?_
  show Go p e below _ (s₁.setTop (mkF m 42 #[.val (.int p0), .val (.int p1), .val (.long v3), .second, .unset, .unset] [(.int p0)]))
  refine Go.st (fun _ k => XS.istore X0.here hx rfl (hb hby d1_42) rfl (l' := #[.val (.int p0), .val (.int p1), .val (.long v3), .second, .val (.int p0), .unset]) rfl k) ?_
  show Go p e below _ (s₁.setTop (mkF m 44 #[.val (.int p0), .val (.int p1), .val (.long v3), .second, .val (.int p0), .unset] []))
  refine Go.st (fun _ k => XS.iconst X0.here hx rfl (hb hby d1_44) k) ?_
  show Go p e below _ (s₁.setTop (mkF m 45 #[.val (.int p0), .val (.int p1), .val (.long v3), .second, .val (.int p0), .unset] [(.int (0 : Int32))]))
  refine Go.st (fun _ k => XS.istore X0.here hx rfl (hb hby d1_45) rfl (l' := #[.val (.int p0), .val (.int p1), .val (.long v3), .second, .val (.int p0), .val (.int (0 : Int32))]) rfl k) ?_
  show Go p e below _ (s₁.setTop (mkF m 47 #[.val (.int p0), .val (.int p1), .val (.long v3), .second, .val (.int p0), .val (.int (0 : Int32))] []))
  refine Go.st (fun _ k => XS.iload X0.here hx rfl (hb hby d1_47) rfl k) ?_
  show Go p e below _ (s₁.setTop (mkF m 49 #[.val (.int p0), .val (.int p1), .val (.long v3), .second, .val (.int p0), .val (.int (0 : Int32))] [(.int (0 : Int32))]))
  refine Go.st (fun _ k => XS.iconst X0.here hx rfl (hb hby d1_49) k) ?_
  show Go p e below _ (s₁.setTop (mkF m 50 #[.val (.int p0), .val (.int p1), .val (.long v3), .second, .val (.int p0), .val (.int (0 : Int32))] [(.int (4 : Int32)), (.int (0 : Int32))]))
  refine Go.st (fun _ k => XS.icmpNo X0.here hx rfl (hb hby d1_50) rfl (tlt (by decide : ((0 : Int32) < (4 : Int32)))).2.1 k) ?_
  show Go p e below _ (s₁.setTop (mkF m 53 #[.val (.int p0), .val (.int p1), .val (.long v3), .second, .val (.int p0), .val (.int (0 : Int32))] []))
  refine Go.st (fun _ k => XS.lloadN X0.here hx rfl (hb hby d1_53) rfl k) ?_
  show Go p e below _ (s₁.setTop (mkF m 54 #[.val (.int p0), .val (.int p1), .val (.long v3), .second, .val (.int p0), .val (.int (0 : Int32))] [(.long v3)]))
  refine Go.st (fun _ k => XS.bipush X0.here hx rfl (hb hby d1_54) k) ?_
  show Go p e below _ (s₁.setTop (mkF m 56 #[.val (.int p0), .val (.int p1), .val (.long v3), .second, .val (.int p0), .val (.int (0 : Int32))] [(.int (8 : Int32)), (.long v3)]))
  refine Go.st (fun _ k => XS.lshl X0.here hx rfl (hb hby d1_56) rfl k) ?_
  show Go p e below _ (s₁.setTop (mkF m 57 #[.val (.int p0), .val (.int p1), .val (.long v3), .second, .val (.int p0), .val (.int (0 : Int32))] [(.long (v3 <<< ((8 : Int32) &&& 0x3f).toInt64))]))
  refine Go.st (fun _ k => XS.bipush X0.here hx rfl (hb hby d1_57) k) ?_
  show Go p e below _ (s₁.setTop (mkF m 59 #[.val (.int p0), .val (.int p1), .val (.long v3), .second, .val (.int p0), .val (.int (0 : Int32))] [(.int (48 : Int32)), (.long (v3 <<< ((8 : Int32) &&& 0x3f).toInt64))]))
  refine Go.st (fun _ k => XS.iload X0.here hx rfl (hb hby d1_59) rfl k) ?_
  show Go p e below _ (s₁.setTop (mkF m 61 #[.val (.int p0), .val (.int p1), .val (.long v3), .second, .val (.int p0), .val (.int (0 : Int32))] [(.int p0), (.int (48 : Int32)), (.long (v3 <<< ((8 : Int32) &&& 0x3f).toInt64))]))
  refine Go.st (fun _ k => XS.bipush X0.here hx rfl (hb hby d1_61) k) ?_
  show Go p e below _ (s₁.setTop (mkF m 63 #[.val (.int p0), .val (.int p1), .val (.long v3), .second, .val (.int p0), .val (.int (0 : Int32))] [(.int (10 : Int32)), (.int p0), (.int (48 : Int32)), (.long (v3 <<< ((8 : Int32) &&& 0x3f).toInt64))]))
  refine Go.st (fun _ k => XS.irem X0.here hx rfl (hb hby d1_63) rfl (by decide) k) ?_
  show Go p e below _ (s₁.setTop (mkF m 64 #[.val (.int p0), .val (.int p1), .val (.long v3), .second, .val (.int p0), .val (.int (0 : Int32))] [(.int (jrem p0 (10 : Int32))), (.int (48 : Int32)), (.long (v3 <<< ((8 : Int32) &&& 0x3f).toInt64))]))
  refine Go.st (fun _ k => XS.iadd X0.here hx rfl (hb hby d1_64) rfl k) ?_
  show Go p e below _ (s₁.setTop (mkF m 65 #[.val (.int p0), .val (.int p1), .val (.long v3), .second, .val (.int p0), .val (.int (0 : Int32))] [(.int ((48 : Int32) + (jrem p0 (10 : Int32)))), (.long (v3 <<< ((8 : Int32) &&& 0x3f).toInt64))]))
  refine Go.st (fun _ k => XS.i2l X0.here hx rfl (hb hby d1_65) rfl k) ?_
  show Go p e below _ (s₁.setTop (mkF m 66 #[.val (.int p0), .val (.int p1), .val (.long v3), .second, .val (.int p0), .val (.int (0 : Int32))] [(.long (((48 : Int32) + (jrem p0 (10 : Int32))).toInt64)), (.long (v3 <<< ((8 : Int32) &&& 0x3f).toInt64))]))
  refine Go.st (fun _ k => XS.lor X0.here hx rfl (hb hby d1_66) rfl k) ?_
  show Go p e below _ (s₁.setTop (mkF m 67 #[.val (.int p0), .val (.int p1), .val (.long v3), .second, .val (.int p0), .val (.int (0 : Int32))] [(.long ((v3 <<< ((8 : Int32) &&& 0x3f).toInt64) ||| (((48 : Int32) + (jrem p0 (10 : Int32))).toInt64)))]))
  generalize hv4 : ((v3 <<< ((8 : Int32) &&& 0x3f).toInt64) ||| (((48 : Int32) + (jrem p0 (10 : Int32))).toInt64)) = v4
  refine Go.st (fun _ k => XS.lstoreN X0.here hx rfl (hb hby d1_67) rfl (l' := #[.val (.int p0), .val (.int p1), .val (.long v4), .second, .val (.int p0), .val (.int (0 : Int32))]) rfl k) ?_
  show Go p e below _ (s₁.setTop (mkF m 68 #[.val (.int p0), .val (.int p1), .val (.long v4), .second, .val (.int p0), .val (.int (0 : Int32))] []))
  refine Go.st (fun _ k => XS.iinc X0.here hx rfl (hb hby d1_68) rfl (l' := #[.val (.int p0), .val (.int p1), .val (.long v4), .second, .val (.int p0), .val (.int (1 : Int32))]) rfl k) ?_
  show Go p e below _ (s₁.setTop (mkF m 71 #[.val (.int p0), .val (.int p1), .val (.long v4), .second, .val (.int p0), .val (.int (1 : Int32))] []))
  refine Go.st (fun _ k => XS.iload X0.here hx rfl (hb hby d1_71) rfl k) ?_
  show Go p e below _ (s₁.setTop (mkF m 73 #[.val (.int p0), .val (.int p1), .val (.long v4), .second, .val (.int p0), .val (.int (1 : Int32))] [(.int p0)]))
  refine Go.st (fun _ k => XS.bipush X0.here hx rfl (hb hby d1_73) k) ?_
  show Go p e below _ (s₁.setTop (mkF m 75 #[.val (.int p0), .val (.int p1), .val (.long v4), .second, .val (.int p0), .val (.int (1 : Int32))] [(.int (10 : Int32)), (.int p0)]))
  refine Go.st (fun _ k => XS.idiv X0.here hx rfl (hb hby d1_75) rfl (by decide) k) ?_
  show Go p e below _ (s₁.setTop (mkF m 76 #[.val (.int p0), .val (.int p1), .val (.long v4), .second, .val (.int p0), .val (.int (1 : Int32))] [(.int (p0 / (10 : Int32)))]))
  generalize hv5 : (p0 / (10 : Int32)) = v5
  refine Go.st (fun _ k => XS.istore X0.here hx rfl (hb hby d1_76) rfl (l' := #[.val (.int p0), .val (.int p1), .val (.long v4), .second, .val (.int v5), .val (.int (1 : Int32))]) rfl k) ?_
  show Go p e below _ (s₁.setTop (mkF m 78 #[.val (.int p0), .val (.int p1), .val (.long v4), .second, .val (.int v5), .val (.int (1 : Int32))] []))
  refine Go.st (fun _ k => XS.goto X0.here hx rfl (pc0 := 78) (pc' := 47) rfl (hb hby d1_78) (by decide) (by decide) k) ?_
  show Go p e below _ (s₁.setTop (mkF m 47 #[.val (.int p0), .val (.int p1), .val (.long v4), .second, .val (.int v5), .val (.int (1 : Int32))] []))
  refine Go.st (fun _ k => XS.iload X0.here hx rfl (hb hby d1_47) rfl k) ?_
  show Go p e below _ (s₁.setTop (mkF m 49 #[.val (.int p0), .val (.int p1), .val (.long v4), .second, .val (.int v5), .val (.int (1 : Int32))] [(.int (1 : Int32))]))
  refine Go.st (fun _ k => XS.iconst X0.here hx rfl (hb hby d1_49) k) ?_
  show Go p e below _ (s₁.setTop (mkF m 50 #[.val (.int p0), .val (.int p1), .val (.long v4), .second, .val (.int v5), .val (.int (1 : Int32))] [(.int (4 : Int32)), (.int (1 : Int32))]))
  refine Go.st (fun _ k => XS.icmpNo X0.here hx rfl (hb hby d1_50) rfl (tlt (by decide : ((1 : Int32) < (4 : Int32)))).2.1 k) ?_
  show Go p e below _ (s₁.setTop (mkF m 53 #[.val (.int p0), .val (.int p1), .val (.long v4), .second, .val (.int v5), .val (.int (1 : Int32))] []))
  refine Go.st (fun _ k => XS.lloadN X0.here hx rfl (hb hby d1_53) rfl k) ?_
  show Go p e below _ (s₁.setTop (mkF m 54 #[.val (.int p0), .val (.int p1), .val (.long v4), .second, .val (.int v5), .val (.int (1 : Int32))] [(.long v4)]))
  refine Go.st (fun _ k => XS.bipush X0.here hx rfl (hb hby d1_54) k) ?_
  show Go p e below _ (s₁.setTop (mkF m 56 #[.val (.int p0), .val (.int p1), .val (.long v4), .second, .val (.int v5), .val (.int (1 : Int32))] [(.int (8 : Int32)), (.long v4)]))
  refine Go.st (fun _ k => XS.lshl X0.here hx rfl (hb hby d1_56) rfl k) ?_
  show Go p e below _ (s₁.setTop (mkF m 57 #[.val (.int p0), .val (.int p1), .val (.long v4), .second, .val (.int v5), .val (.int (1 : Int32))] [(.long (v4 <<< ((8 : Int32) &&& 0x3f).toInt64))]))
  refine Go.st (fun _ k => XS.bipush X0.here hx rfl (hb hby d1_57) k) ?_
  show Go p e below _ (s₁.setTop (mkF m 59 #[.val (.int p0), .val (.int p1), .val (.long v4), .second, .val (.int v5), .val (.int (1 : Int32))] [(.int (48 : Int32)), (.long (v4 <<< ((8 : Int32) &&& 0x3f).toInt64))]))
  refine Go.st (fun _ k => XS.iload X0.here hx rfl (hb hby d1_59) rfl k) ?_
  show Go p e below _ (s₁.setTop (mkF m 61 #[.val (.int p0), .val (.int p1), .val (.long v4), .second, .val (.int v5), .val (.int (1 : Int32))] [(.int v5), (.int (48 : Int32)), (.long (v4 <<< ((8 : Int32) &&& 0x3f).toInt64))]))
  refine Go.st (fun _ k => XS.bipush X0.here hx rfl (hb hby d1_61) k) ?_
  show Go p e below _ (s₁.setTop (mkF m 63 #[.val (.int p0), .val (.int p1), .val (.long v4), .second, .val (.int v5), .val (.int (1 : Int32))] [(.int (10 : Int32)), (.int v5), (.int (48 : Int32)), (.long (v4 <<< ((8 : Int32) &&& 0x3f).toInt64))]))
  refine Go.st (fun _ k => XS.irem X0.here hx rfl (hb hby d1_63) rfl (by decide) k) ?_
  show Go p e below _ (s₁.setTop (mkF m 64 #[.val (.int p0), .val (.int p1), .val (.long v4), .second, .val (.int v5), .val (.int (1 : Int32))] [(.int (jrem v5 (10 : Int32))), (.int (48 : Int32)), (.long (v4 <<< ((8 : Int32) &&& 0x3f).toInt64))]))
  refine Go.st (fun _ k => XS.iadd X0.here hx rfl (hb hby d1_64) rfl k) ?_
  show Go p e below _ (s₁.setTop (mkF m 65 #[.val (.int p0), .val (.int p1), .val (.long v4), .second, .val (.int v5), .val (.int (1 : Int32))] [(.int ((48 : Int32) + (jrem v5 (10 : Int32)))), (.long (v4 <<< ((8 : Int32) &&& 0x3f).toInt64))]))
  refine Go.st (fun _ k => XS.i2l X0.here hx rfl (hb hby d1_65) rfl k) ?_
  show Go p e below _ (s₁.setTop (mkF m 66 #[.val (.int p0), .val (.int p1), .val (.long v4), .second, .val (.int v5), .val (.int (1 : Int32))] [(.long (((48 : Int32) + (jrem v5 (10 : Int32))).toInt64)), (.long (v4 <<< ((8 : Int32) &&& 0x3f).toInt64))]))
  refine Go.st (fun _ k => XS.lor X0.here hx rfl (hb hby d1_66) rfl k) ?_
  show Go p e below _ (s₁.setTop (mkF m 67 #[.val (.int p0), .val (.int p1), .val (.long v4), .second, .val (.int v5), .val (.int (1 : Int32))] [(.long ((v4 <<< ((8 : Int32) &&& 0x3f).toInt64) ||| (((48 : Int32) + (jrem v5 (10 : Int32))).toInt64)))]))
  generalize hv6 : ((v4 <<< ((8 : Int32) &&& 0x3f).toInt64) ||| (((48 : Int32) + (jrem v5 (10 : Int32))).toInt64)) = v6
  refine Go.st (fun _ k => XS.lstoreN X0.here hx rfl (hb hby d1_67) rfl (l' := #[.val (.int p0), .val (.int p1), .val (.long v6), .second, .val (.int v5), .val (.int (1 : Int32))]) rfl k) ?_
  show Go p e below _ (s₁.setTop (mkF m 68 #[.val (.int p0), .val (.int p1), .val (.long v6), .second, .val (.int v5), .val (.int (1 : Int32))] []))
  refine Go.st (fun _ k => XS.iinc X0.here hx rfl (hb hby d1_68) rfl (l' := #[.val (.int p0), .val (.int p1), .val (.long v6), .second, .val (.int v5), .val (.int (2 : Int32))]) rfl k) ?_
  show Go p e below _ (s₁.setTop (mkF m 71 #[.val (.int p0), .val (.int p1), .val (.long v6), .second, .val (.int v5), .val (.int (2 : Int32))] []))
  refine Go.st (fun _ k => XS.iload X0.here hx rfl (hb hby d1_71) rfl k) ?_
  show Go p e below _ (s₁.setTop (mkF m 73 #[.val (.int p0), .val (.int p1), .val (.long v6), .second, .val (.int v5), .val (.int (2 : Int32))] [(.int v5)]))
  refine Go.st (fun _ k => XS.bipush X0.here hx rfl (hb hby d1_73) k) ?_
  show Go p e below _ (s₁.setTop (mkF m 75 #[.val (.int p0), .val (.int p1), .val (.long v6), .second, .val (.int v5), .val (.int (2 : Int32))] [(.int (10 : Int32)), (.int v5)]))
  refine Go.st (fun _ k => XS.idiv X0.here hx rfl (hb hby d1_75) rfl (by decide) k) ?_
  show Go p e below _ (s₁.setTop (mkF m 76 #[.val (.int p0), .val (.int p1), .val (.long v6), .second, .val (.int v5), .val (.int (2 : Int32))] [(.int (v5 / (10 : Int32)))]))
  generalize hv7 : (v5 / (10 : Int32)) = v7
  refine Go.st (fun _ k => XS.istore X0.here hx rfl (hb hby d1_76) rfl (l' := #[.val (.int p0), .val (.int p1), .val (.long v6), .second, .val (.int v7), .val (.int (2 : Int32))]) rfl k) ?_
  show Go p e below _ (s₁.setTop (mkF m 78 #[.val (.int p0), .val (.int p1), .val (.long v6), .second, .val (.int v7), .val (.int (2 : Int32))] []))
  refine Go.st (fun _ k => XS.goto X0.here hx rfl (pc0 := 78) (pc' := 47) rfl (hb hby d1_78) (by decide) (by decide) k) ?_
  show Go p e below _ (s₁.setTop (mkF m 47 #[.val (.int p0), .val (.int p1), .val (.long v6), .second, .val (.int v7), .val (.int (2 : Int32))] []))
  refine Go.st (fun _ k => XS.iload X0.here hx rfl (hb hby d1_47) rfl k) ?_
  show Go p e below _ (s₁.setTop (mkF m 49 #[.val (.int p0), .val (.int p1), .val (.long v6), .second, .val (.int v7), .val (.int (2 : Int32))] [(.int (2 : Int32))]))
  refine Go.st (fun _ k => XS.iconst X0.here hx rfl (hb hby d1_49) k) ?_
  show Go p e below _ (s₁.setTop (mkF m 50 #[.val (.int p0), .val (.int p1), .val (.long v6), .second, .val (.int v7), .val (.int (2 : Int32))] [(.int (4 : Int32)), (.int (2 : Int32))]))
  refine Go.st (fun _ k => XS.icmpNo X0.here hx rfl (hb hby d1_50) rfl (tlt (by decide : ((2 : Int32) < (4 : Int32)))).2.1 k) ?_
  show Go p e below _ (s₁.setTop (mkF m 53 #[.val (.int p0), .val (.int p1), .val (.long v6), .second, .val (.int v7), .val (.int (2 : Int32))] []))
  refine Go.st (fun _ k => XS.lloadN X0.here hx rfl (hb hby d1_53) rfl k) ?_
  show Go p e below _ (s₁.setTop (mkF m 54 #[.val (.int p0), .val (.int p1), .val (.long v6), .second, .val (.int v7), .val (.int (2 : Int32))] [(.long v6)]))
  refine Go.st (fun _ k => XS.bipush X0.here hx rfl (hb hby d1_54) k) ?_
  show Go p e below _ (s₁.setTop (mkF m 56 #[.val (.int p0), .val (.int p1), .val (.long v6), .second, .val (.int v7), .val (.int (2 : Int32))] [(.int (8 : Int32)), (.long v6)]))
  refine Go.st (fun _ k => XS.lshl X0.here hx rfl (hb hby d1_56) rfl k) ?_
  show Go p e below _ (s₁.setTop (mkF m 57 #[.val (.int p0), .val (.int p1), .val (.long v6), .second, .val (.int v7), .val (.int (2 : Int32))] [(.long (v6 <<< ((8 : Int32) &&& 0x3f).toInt64))]))
  refine Go.st (fun _ k => XS.bipush X0.here hx rfl (hb hby d1_57) k) ?_
  show Go p e below _ (s₁.setTop (mkF m 59 #[.val (.int p0), .val (.int p1), .val (.long v6), .second, .val (.int v7), .val (.int (2 : Int32))] [(.int (48 : Int32)), (.long (v6 <<< ((8 : Int32) &&& 0x3f).toInt64))]))
  refine Go.st (fun _ k => XS.iload X0.here hx rfl (hb hby d1_59) rfl k) ?_
  show Go p e below _ (s₁.setTop (mkF m 61 #[.val (.int p0), .val (.int p1), .val (.long v6), .second, .val (.int v7), .val (.int (2 : Int32))] [(.int v7), (.int (48 : Int32)), (.long (v6 <<< ((8 : Int32) &&& 0x3f).toInt64))]))
  refine Go.st (fun _ k => XS.bipush X0.here hx rfl (hb hby d1_61) k) ?_
  show Go p e below _ (s₁.setTop (mkF m 63 #[.val (.int p0), .val (.int p1), .val (.long v6), .second, .val (.int v7), .val (.int (2 : Int32))] [(.int (10 : Int32)), (.int v7), (.int (48 : Int32)), (.long (v6 <<< ((8 : Int32) &&& 0x3f).toInt64))]))
  refine Go.st (fun _ k => XS.irem X0.here hx rfl (hb hby d1_63) rfl (by decide) k) ?_
  show Go p e below _ (s₁.setTop (mkF m 64 #[.val (.int p0), .val (.int p1), .val (.long v6), .second, .val (.int v7), .val (.int (2 : Int32))] [(.int (jrem v7 (10 : Int32))), (.int (48 : Int32)), (.long (v6 <<< ((8 : Int32) &&& 0x3f).toInt64))]))
  refine Go.st (fun _ k => XS.iadd X0.here hx rfl (hb hby d1_64) rfl k) ?_
  show Go p e below _ (s₁.setTop (mkF m 65 #[.val (.int p0), .val (.int p1), .val (.long v6), .second, .val (.int v7), .val (.int (2 : Int32))] [(.int ((48 : Int32) + (jrem v7 (10 : Int32)))), (.long (v6 <<< ((8 : Int32) &&& 0x3f).toInt64))]))
  refine Go.st (fun _ k => XS.i2l X0.here hx rfl (hb hby d1_65) rfl k) ?_
  show Go p e below _ (s₁.setTop (mkF m 66 #[.val (.int p0), .val (.int p1), .val (.long v6), .second, .val (.int v7), .val (.int (2 : Int32))] [(.long (((48 : Int32) + (jrem v7 (10 : Int32))).toInt64)), (.long (v6 <<< ((8 : Int32) &&& 0x3f).toInt64))]))
  refine Go.st (fun _ k => XS.lor X0.here hx rfl (hb hby d1_66) rfl k) ?_
  show Go p e below _ (s₁.setTop (mkF m 67 #[.val (.int p0), .val (.int p1), .val (.long v6), .second, .val (.int v7), .val (.int (2 : Int32))] [(.long ((v6 <<< ((8 : Int32) &&& 0x3f).toInt64) ||| (((48 : Int32) + (jrem v7 (10 : Int32))).toInt64)))]))
  generalize hv8 : ((v6 <<< ((8 : Int32) &&& 0x3f).toInt64) ||| (((48 : Int32) + (jrem v7 (10 : Int32))).toInt64)) = v8
  refine Go.st (fun _ k => XS.lstoreN X0.here hx rfl (hb hby d1_67) rfl (l' := #[.val (.int p0), .val (.int p1), .val (.long v8), .second, .val (.int v7), .val (.int (2 : Int32))]) rfl k) ?_
  show Go p e below _ (s₁.setTop (mkF m 68 #[.val (.int p0), .val (.int p1), .val (.long v8), .second, .val (.int v7), .val (.int (2 : Int32))] []))
  refine Go.st (fun _ k => XS.iinc X0.here hx rfl (hb hby d1_68) rfl (l' := #[.val (.int p0), .val (.int p1), .val (.long v8), .second, .val (.int v7), .val (.int (3 : Int32))]) rfl k) ?_
  show Go p e below _ (s₁.setTop (mkF m 71 #[.val (.int p0), .val (.int p1), .val (.long v8), .second, .val (.int v7), .val (.int (3 : Int32))] []))
  refine Go.st (fun _ k => XS.iload X0.here hx rfl (hb hby d1_71) rfl k) ?_
  show Go p e below _ (s₁.setTop (mkF m 73 #[.val (.int p0), .val (.int p1), .val (.long v8), .second, .val (.int v7), .val (.int (3 : Int32))] [(.int v7)]))
  refine Go.st (fun _ k => XS.bipush X0.here hx rfl (hb hby d1_73) k) ?_
  show Go p e below _ (s₁.setTop (mkF m 75 #[.val (.int p0), .val (.int p1), .val (.long v8), .second, .val (.int v7), .val (.int (3 : Int32))] [(.int (10 : Int32)), (.int v7)]))
  refine Go.st (fun _ k => XS.idiv X0.here hx rfl (hb hby d1_75) rfl (by decide) k) ?_
  show Go p e below _ (s₁.setTop (mkF m 76 #[.val (.int p0), .val (.int p1), .val (.long v8), .second, .val (.int v7), .val (.int (3 : Int32))] [(.int (v7 / (10 : Int32)))]))
  generalize hv9 : (v7 / (10 : Int32)) = v9
  refine Go.st (fun _ k => XS.istore X0.here hx rfl (hb hby d1_76) rfl (l' := #[.val (.int p0), .val (.int p1), .val (.long v8), .second, .val (.int v9), .val (.int (3 : Int32))]) rfl k) ?_
  show Go p e below _ (s₁.setTop (mkF m 78 #[.val (.int p0), .val (.int p1), .val (.long v8), .second, .val (.int v9), .val (.int (3 : Int32))] []))
  refine Go.st (fun _ k => XS.goto X0.here hx rfl (pc0 := 78) (pc' := 47) rfl (hb hby d1_78) (by decide) (by decide) k) ?_
  show Go p e below _ (s₁.setTop (mkF m 47 #[.val (.int p0), .val (.int p1), .val (.long v8), .second, .val (.int v9), .val (.int (3 : Int32))] []))
  refine Go.st (fun _ k => XS.iload X0.here hx rfl (hb hby d1_47) rfl k) ?_
  show Go p e below _ (s₁.setTop (mkF m 49 #[.val (.int p0), .val (.int p1), .val (.long v8), .second, .val (.int v9), .val (.int (3 : Int32))] [(.int (3 : Int32))]))
  refine Go.st (fun _ k => XS.iconst X0.here hx rfl (hb hby d1_49) k) ?_
  show Go p e below _ (s₁.setTop (mkF m 50 #[.val (.int p0), .val (.int p1), .val (.long v8), .second, .val (.int v9), .val (.int (3 : Int32))] [(.int (4 : Int32)), (.int (3 : Int32))]))
  refine Go.st (fun _ k => XS.icmpNo X0.here hx rfl (hb hby d1_50) rfl (tlt (by decide : ((3 : Int32) < (4 : Int32)))).2.1 k) ?_
  show Go p e below _ (s₁.setTop (mkF m 53 #[.val (.int p0), .val (.int p1), .val (.long v8), .second, .val (.int v9), .val (.int (3 : Int32))] []))
  refine Go.st (fun _ k => XS.lloadN X0.here hx rfl (hb hby d1_53) rfl k) ?_
  show Go p e below _ (s₁.setTop (mkF m 54 #[.val (.int p0), .val (.int p1), .val (.long v8), .second, .val (.int v9), .val (.int (3 : Int32))] [(.long v8)]))
  refine Go.st (fun _ k => XS.bipush X0.here hx rfl (hb hby d1_54) k) ?_
  show Go p e below _ (s₁.setTop (mkF m 56 #[.val (.int p0), .val (.int p1), .val (.long v8), .second, .val (.int v9), .val (.int (3 : Int32))] [(.int (8 : Int32)), (.long v8)]))
  refine Go.st (fun _ k => XS.lshl X0.here hx rfl (hb hby d1_56) rfl k) ?_
  show Go p e below _ (s₁.setTop (mkF m 57 #[.val (.int p0), .val (.int p1), .val (.long v8), .second, .val (.int v9), .val (.int (3 : Int32))] [(.long (v8 <<< ((8 : Int32) &&& 0x3f).toInt64))]))
  refine Go.st (fun _ k => XS.bipush X0.here hx rfl (hb hby d1_57) k) ?_
  show Go p e below _ (s₁.setTop (mkF m 59 #[.val (.int p0), .val (.int p1), .val (.long v8), .second, .val (.int v9), .val (.int (3 : Int32))] [(.int (48 : Int32)), (.long (v8 <<< ((8 : Int32) &&& 0x3f).toInt64))]))
  refine Go.st (fun _ k => XS.iload X0.here hx rfl (hb hby d1_59) rfl k) ?_
  show Go p e below _ (s₁.setTop (mkF m 61 #[.val (.int p0), .val (.int p1), .val (.long v8), .second, .val (.int v9), .val (.int (3 : Int32))] [(.int v9), (.int (48 : Int32)), (.long (v8 <<< ((8 : Int32) &&& 0x3f).toInt64))]))
  refine Go.st (fun _ k => XS.bipush X0.here hx rfl (hb hby d1_61) k) ?_
  show Go p e below _ (s₁.setTop (mkF m 63 #[.val (.int p0), .val (.int p1), .val (.long v8), .second, .val (.int v9), .val (.int (3 : Int32))] [(.int (10 : Int32)), (.int v9), (.int (48 : Int32)), (.long (v8 <<< ((8 : Int32) &&& 0x3f).toInt64))]))
  refine Go.st (fun _ k => XS.irem X0.here hx rfl (hb hby d1_63) rfl (by decide) k) ?_
  show Go p e below _ (s₁.setTop (mkF m 64 #[.val (.int p0), .val (.int p1), .val (.long v8), .second, .val (.int v9), .val (.int (3 : Int32))] [(.int (jrem v9 (10 : Int32))), (.int (48 : Int32)), (.long (v8 <<< ((8 : Int32) &&& 0x3f).toInt64))]))
  refine Go.st (fun _ k => XS.iadd X0.here hx rfl (hb hby d1_64) rfl k) ?_
  show Go p e below _ (s₁.setTop (mkF m 65 #[.val (.int p0), .val (.int p1), .val (.long v8), .second, .val (.int v9), .val (.int (3 : Int32))] [(.int ((48 : Int32) + (jrem v9 (10 : Int32)))), (.long (v8 <<< ((8 : Int32) &&& 0x3f).toInt64))]))
  refine Go.st (fun _ k => XS.i2l X0.here hx rfl (hb hby d1_65) rfl k) ?_
  show Go p e below _ (s₁.setTop (mkF m 66 #[.val (.int p0), .val (.int p1), .val (.long v8), .second, .val (.int v9), .val (.int (3 : Int32))] [(.long (((48 : Int32) + (jrem v9 (10 : Int32))).toInt64)), (.long (v8 <<< ((8 : Int32) &&& 0x3f).toInt64))]))
  refine Go.st (fun _ k => XS.lor X0.here hx rfl (hb hby d1_66) rfl k) ?_
  show Go p e below _ (s₁.setTop (mkF m 67 #[.val (.int p0), .val (.int p1), .val (.long v8), .second, .val (.int v9), .val (.int (3 : Int32))] [(.long ((v8 <<< ((8 : Int32) &&& 0x3f).toInt64) ||| (((48 : Int32) + (jrem v9 (10 : Int32))).toInt64)))]))
  generalize hv10 : ((v8 <<< ((8 : Int32) &&& 0x3f).toInt64) ||| (((48 : Int32) + (jrem v9 (10 : Int32))).toInt64)) = v10
  refine Go.st (fun _ k => XS.lstoreN X0.here hx rfl (hb hby d1_67) rfl (l' := #[.val (.int p0), .val (.int p1), .val (.long v10), .second, .val (.int v9), .val (.int (3 : Int32))]) rfl k) ?_
  show Go p e below _ (s₁.setTop (mkF m 68 #[.val (.int p0), .val (.int p1), .val (.long v10), .second, .val (.int v9), .val (.int (3 : Int32))] []))
  refine Go.st (fun _ k => XS.iinc X0.here hx rfl (hb hby d1_68) rfl (l' := #[.val (.int p0), .val (.int p1), .val (.long v10), .second, .val (.int v9), .val (.int (4 : Int32))]) rfl k) ?_
  show Go p e below _ (s₁.setTop (mkF m 71 #[.val (.int p0), .val (.int p1), .val (.long v10), .second, .val (.int v9), .val (.int (4 : Int32))] []))
  refine Go.st (fun _ k => XS.iload X0.here hx rfl (hb hby d1_71) rfl k) ?_
  show Go p e below _ (s₁.setTop (mkF m 73 #[.val (.int p0), .val (.int p1), .val (.long v10), .second, .val (.int v9), .val (.int (4 : Int32))] [(.int v9)]))
  refine Go.st (fun _ k => XS.bipush X0.here hx rfl (hb hby d1_73) k) ?_
  show Go p e below _ (s₁.setTop (mkF m 75 #[.val (.int p0), .val (.int p1), .val (.long v10), .second, .val (.int v9), .val (.int (4 : Int32))] [(.int (10 : Int32)), (.int v9)]))
  refine Go.st (fun _ k => XS.idiv X0.here hx rfl (hb hby d1_75) rfl (by decide) k) ?_
  show Go p e below _ (s₁.setTop (mkF m 76 #[.val (.int p0), .val (.int p1), .val (.long v10), .second, .val (.int v9), .val (.int (4 : Int32))] [(.int (v9 / (10 : Int32)))]))
  generalize hv11 : (v9 / (10 : Int32)) = v11
  refine Go.st (fun _ k => XS.istore X0.here hx rfl (hb hby d1_76) rfl (l' := #[.val (.int p0), .val (.int p1), .val (.long v10), .second, .val (.int v11), .val (.int (4 : Int32))]) rfl k) ?_
  show Go p e below _ (s₁.setTop (mkF m 78 #[.val (.int p0), .val (.int p1), .val (.long v10), .second, .val (.int v11), .val (.int (4 : Int32))] []))
  refine Go.st (fun _ k => XS.goto X0.here hx rfl (pc0 := 78) (pc' := 47) rfl (hb hby d1_78) (by decide) (by decide) k) ?_
  show Go p e below _ (s₁.setTop (mkF m 47 #[.val (.int p0), .val (.int p1), .val (.long v10), .second, .val (.int v11), .val (.int (4 : Int32))] []))
  refine Go.st (fun _ k => XS.iload X0.here hx rfl (hb hby d1_47) rfl k) ?_
  show Go p e below _ (s₁.setTop (mkF m 49 #[.val (.int p0), .val (.int p1), .val (.long v10), .second, .val (.int v11), .val (.int (4 : Int32))] [(.int (4 : Int32))]))
  refine Go.st (fun _ k => XS.iconst X0.here hx rfl (hb hby d1_49) k) ?_
  show Go p e below _ (s₁.setTop (mkF m 50 #[.val (.int p0), .val (.int p1), .val (.long v10), .second, .val (.int v11), .val (.int (4 : Int32))] [(.int (4 : Int32)), (.int (4 : Int32))]))
  refine Go.st (fun _ k => XS.icmpYes X0.here hx rfl (pc0 := 50) (pc' := 81) rfl (hb hby d1_50) rfl (flt (by decide : ¬ ((4 : Int32) < (4 : Int32)))).2.1 (by decide) (by decide) k) ?_
  show Go p e below _ (s₁.setTop (mkF m 81 #[.val (.int p0), .val (.int p1), .val (.long v10), .second, .val (.int v11), .val (.int (4 : Int32))] []))
  refine Go.st (fun _ k => XS.lloadN X0.here hx rfl (hb hby d1_81) rfl k) ?_
  show Go p e below _ (s₁.setTop (mkF m 82 #[.val (.int p0), .val (.int p1), .val (.long v10), .second, .val (.int v11), .val (.int (4 : Int32))] [(.long v10)]))
  obtain ⟨fs, hr, hrun, hended, hW, hsame⟩ := X0.leave (v := some (.long v10)) (fun h => by rw [Bd.returns] at h; cases h)
  refine ⟨_, _, retJ X0 hx Bd.returns (hb hby d1_82) hr, hrun, hended, _, _, rfl, ?_, ⟨_, rfl⟩, hW, hsame.mono (by decide) (by decide)⟩
  show Q_rm1 Z p0 p1 h0 n0 _ s₁.heap _
  rw [e0]
  refine ⟨?_, N0, rfl⟩
  subst hv11
  subst hv10
  subst hv9
  subst hv8
  subst hv7
  subst hv6
  subst hv5
  subst hv4
  subst hv3
  subst hv2
  subst hv1
  unfold fYM
  rfl
theorem d2_0 : decode method_3_code 0 = .ok (.lload_n 0, 1) := by decide +kernel
theorem d2_1 : decode method_3_code 1 = .ok (.bipush 8, 2) := by decide +kernel
theorem d2_3 : decode method_3_code 3 = .ok (.iload_n 2, 1) := by decide +kernel
theorem d2_4 : decode method_3_code 4 = .ok (.imul, 1) := by decide +kernel
theorem d2_5 : decode method_3_code 5 = .ok (.lushr, 1) := by decide +kernel
theorem d2_6 : decode method_3_code 6 = .ok (.ldc2_w 20, 3) := by decide +kernel
theorem d2_9 : decode method_3_code 9 = .ok (.land, 1) := by decide +kernel
theorem d2_10 : decode method_3_code 10 = .ok (.l2i, 1) := by decide +kernel
theorem d2_11 : decode method_3_code 11 = .ok (.ireturn, 1) := by decide +kernel
theorem pn_2 : plainName "com/example/drollover/drollover/cli/CsvWriterYearMonthPinLaw" = true := by first | (simp [plainName, overriddenIn]; done) | decide +kernel
theorem ef_rm2 (m : MethodId) (q0 : Int64) (p1 : Int32) : entryFrame m #[(.long q0), (.int p1)] 3 = mkF m 0 #[.val (.long q0), .second, .val (.int p1)] [] := by first | (simp [entryFrame, mkF, argsToLocals, Value.category]; done) | rfl
def fByte (q0 : Int64) (p1 : Int32) : Int32 := ((((q0.toUInt64 >>> (((8 : Int32) * p1) &&& 0x3f).toInt64.toUInt64).toInt64) &&& (255 : Int64)).toInt32)
def Q_rm2 (Z : State) (q0 : Int64) (p1 : Int32) (h0 : Heap) (n0 : Nat) (v : Option Value) (h : Heap) (L : List Loc) : Prop := v = some (.int (fByte q0 p1)) ∧ Fr n0 L ∧ h = h0
abbrev F_rm2 (Z : State) (q0 : Int64) (p1 : Int32) (h0 : Heap) (n0 : Nat) (s : State) (o : Outcome) (U : State) : Prop := ∃ v L, o = .returned v ∧ Q_rm2 Z q0 p1 h0 n0 v U.heap L ∧ FrameEnd s o U L 0 0
set_option maxRecDepth 65536 in
set_option maxHeartbeats 40000000 in
theorem rm2 (l : Launch) (Z : State) (aZ : Array Value) (hw : ∀ d ∈ tables_1, d.before aZ Z = true) (ws : List Jvm.Cond) (q0 : Int64) (p1 : Int32) (h0 : Heap) (n0 : Nat) :
    MetFree l (⟨"com/example/drollover/drollover/cli/CsvWriterYearMonthPinLaw", "byteAt", "(JI)I"⟩ : MethodName) (head1 (Jvm.Cond.code (⟨"com/example/drollover/drollover/cli/CsvWriterYearMonthPinLaw", "byteAt", "(JI)I"⟩ : MethodName) method_3_code 3 (some .int) :: ws) ({ frames := 0, cells := 0, slots := 0, locals := 0 } : Room)) (fun a U => a = #[(.long q0), (.int p1)] ∧ Z.Warmed39 U.vm ∧ U.heap = h0) (fun _ _ _ _ _ => True) (fun _ U o U' => ∃ v L, o = .returned v ∧ Q_rm2 Z q0 p1 h0 n0 v U'.heap L ∧ FrameEnd U o U' L 0 0) := by
  refine MetFree.of_bodySF (plainFor_of_name pn_2) hisR ?_
  intro p e s m args below meth c s₁ Bd hml0 hP hK
  obtain ⟨rfl, hZ, hh⟩ := hP
  have hx := Bd.exec
  have hby := Bd.bytes
  have hml : c.maxLocals = 3 := hml0
  have hown : s.vm.findClass "com/example/drollover/drollover/cli/CsvWriterYearMonthPinLaw" = some m.cls := findClass_of_methodNamed Bd.named
  have hnm := (name_of_methodNamed Bd.named Bd.method).1
  have X0 : Stand p l e ({ frames := 0, cells := 0, slots := 0, locals := 0 } : Room) s m #[(.long q0), (.int p1)] below meth c s₁ [] 0 0 := Stand.of_body Bd
  have e0 : s₁.heap = h0 := by rw [← hh, Bd.state]; rfl
  have N0 := Fr.nil n0
  refine Go.st (fun _ k => castTop (ef_rm2 m q0 p1) k) ?_
  show Go p e below _ (s₁.setTop (mkF m 0 #[.val (.long q0), .second, .val (.int p1)] []))
  refine Go.st (fun _ k => XS.lloadN X0.here hx rfl (hb hby d2_0) rfl k) ?_
  show Go p e below _ (s₁.setTop (mkF m 1 #[.val (.long q0), .second, .val (.int p1)] [(.long q0)]))
  refine Go.st (fun _ k => XS.bipush X0.here hx rfl (hb hby d2_1) k) ?_
  show Go p e below _ (s₁.setTop (mkF m 3 #[.val (.long q0), .second, .val (.int p1)] [(.int (8 : Int32)), (.long q0)]))
  refine Go.st (fun _ k => XS.iloadN X0.here hx rfl (hb hby d2_3) rfl k) ?_
  show Go p e below _ (s₁.setTop (mkF m 4 #[.val (.long q0), .second, .val (.int p1)] [(.int p1), (.int (8 : Int32)), (.long q0)]))
  refine Go.st (fun _ k => XS.imul X0.here hx rfl (hb hby d2_4) rfl k) ?_
  show Go p e below _ (s₁.setTop (mkF m 5 #[.val (.long q0), .second, .val (.int p1)] [(.int ((8 : Int32) * p1)), (.long q0)]))
  refine Go.st (fun _ k => XS.lushr X0.here hx rfl (hb hby d2_5) rfl k) ?_
  show Go p e below _ (s₁.setTop (mkF m 6 #[.val (.long q0), .second, .val (.int p1)] [(.long ((q0.toUInt64 >>> (((8 : Int32) * p1) &&& 0x3f).toInt64.toUInt64).toInt64))]))
  refine Go.st (fun _ k => X0.ldc2Long hx hown (mvT hZ (hw _ (List.mem_of_getElem? (i := 10) rfl))) (g := (mkF m 6 #[.val (.long q0), .second, .val (.int p1)] [(.long ((q0.toUInt64 >>> (((8 : Int32) * p1) &&& 0x3f).toInt64.toUInt64).toInt64))])) rfl (hb hby d2_6) _ k) ?_
  show Go p e below _ (s₁.setTop (mkF m 9 #[.val (.long q0), .second, .val (.int p1)] [(.long (255 : Int64)), (.long ((q0.toUInt64 >>> (((8 : Int32) * p1) &&& 0x3f).toInt64.toUInt64).toInt64))]))
  refine Go.st (fun _ k => XS.land X0.here hx rfl (hb hby d2_9) rfl k) ?_
  show Go p e below _ (s₁.setTop (mkF m 10 #[.val (.long q0), .second, .val (.int p1)] [(.long (((q0.toUInt64 >>> (((8 : Int32) * p1) &&& 0x3f).toInt64.toUInt64).toInt64) &&& (255 : Int64)))]))
  refine Go.st (fun _ k => XS.l2i X0.here hx rfl (hb hby d2_10) rfl k) ?_
  show Go p e below _ (s₁.setTop (mkF m 11 #[.val (.long q0), .second, .val (.int p1)] [(.int ((((q0.toUInt64 >>> (((8 : Int32) * p1) &&& 0x3f).toInt64.toUInt64).toInt64) &&& (255 : Int64)).toInt32))]))
  obtain ⟨fs, hr, hrun, hended, hW, hsame⟩ := X0.leave (v := some (.int ((((q0.toUInt64 >>> (((8 : Int32) * p1) &&& 0x3f).toInt64.toUInt64).toInt64) &&& (255 : Int64)).toInt32))) (fun h => by rw [Bd.returns] at h; cases h)
  refine ⟨_, _, retI X0 hx Bd.returns (hb hby d2_11) hr, hrun, hended, _, _, rfl, ?_, ⟨_, rfl⟩, hW, hsame.mono (by decide) (by decide)⟩
  show Q_rm2 Z q0 p1 h0 n0 _ s₁.heap _
  rw [e0]
  refine ⟨?_, N0, rfl⟩
  unfold fByte
  rfl
theorem own_natL {x : Int64} (h : 0 ≤ x.toInt) : x.toInt = (x.toBitVec.toNat : Int) := by
  have e : x.toInt = x.toBitVec.toInt := rfl
  have hb := x.toBitVec.isLt
  rw [e, BitVec.toInt_eq_toNat_cond] at h ⊢
  split
  · rfl
  · rename_i hc
    rw [if_neg hc] at h
    omega
theorem own_natI {x : Int32} (h : 0 ≤ x.toInt) : x.toInt = (x.toBitVec.toNat : Int) := by
  have e : x.toInt = x.toBitVec.toInt := rfl
  have hb := x.toBitVec.isLt
  rw [e, BitVec.toInt_eq_toNat_cond] at h ⊢
  split
  · rfl
  · rename_i hc
    rw [if_neg hc] at h
    omega
theorem own_orN {a b k : Nat} (hm : a % 2 ^ k = 0) (hb : b < 2 ^ k) : a ||| b = a + b := by
  have e : a = 2 ^ k * (a / 2 ^ k) := by
    have := Nat.div_add_mod a (2 ^ k)
    omega
  rw [e]
  exact (Nat.two_pow_add_eq_or_of_lt hb _).symm
theorem own_orL {a b : Int64} (k : Nat) (ha : 0 ≤ a.toInt) (hm : a.toInt % ((2 ^ k : Nat) : Int) = 0) (hb : 0 ≤ b.toInt) (hb2 : b.toInt < ((2 ^ k : Nat) : Int)) (hs : a.toInt + b.toInt < 2 ^ 63) : (a ||| b).toInt = a.toInt + b.toInt := by
  have ea := own_natL ha
  have eb := own_natL hb
  rw [ea] at hm hs ⊢
  rw [eb] at hb2 hs ⊢
  have e1 : (a ||| b).toBitVec.toNat = a.toBitVec.toNat + b.toBitVec.toNat := by
    rw [Int64.toBitVec_or, BitVec.toNat_or]
    exact own_orN (k := k) (by omega) (by omega)
  have e2 : (a ||| b).toInt = (a ||| b).toBitVec.toInt := rfl
  rw [e2, BitVec.toInt_eq_toNat_cond, e1, if_pos (by omega)]
  omega
theorem own_orI {a b : Int32} (k : Nat) (ha : 0 ≤ a.toInt) (hm : a.toInt % ((2 ^ k : Nat) : Int) = 0) (hb : 0 ≤ b.toInt) (hb2 : b.toInt < ((2 ^ k : Nat) : Int)) (hs : a.toInt + b.toInt < 2 ^ 31) : (a ||| b).toInt = a.toInt + b.toInt := by
  have ea := own_natI ha
  have eb := own_natI hb
  rw [ea] at hm hs ⊢
  rw [eb] at hb2 hs ⊢
  have e1 : (a ||| b).toBitVec.toNat = a.toBitVec.toNat + b.toBitVec.toNat := by
    rw [Int32.toBitVec_or, BitVec.toNat_or]
    exact own_orN (k := k) (by omega) (by omega)
  have e2 : (a ||| b).toInt = (a ||| b).toBitVec.toInt := rfl
  rw [e2, BitVec.toInt_eq_toNat_cond, e1, if_pos (by omega)]
  omega
theorem own_div {x y : Int32} (hx : 0 ≤ x.toInt) (hy : 0 < y.toInt) : (x / y).toInt = x.toInt / y.toInt := by
  rw [Jvm.Kit.i32_div (by omega), Int.tdiv_eq_ediv_of_nonneg hx]
theorem own_jrem {x y : Int32} (hx : 0 ≤ x.toInt) (hy : 0 < y.toInt) : (jrem x y).toInt = x.toInt % y.toInt := by
  have hd := own_div hx hy
  have hm := Int.emod_add_ediv_mul x.toInt y.toInt
  have h0 := Int.emod_nonneg x.toInt (b := y.toInt) (by omega)
  have h1 := Int.emod_lt_of_pos x.toInt hy
  have hq : 0 ≤ x.toInt / y.toInt * y.toInt := Int.mul_nonneg (Int.ediv_nonneg hx (by omega)) (by omega)
  have hl := x.toInt_lt
  have e1 : (x / y * y).toInt = x.toInt / y.toInt * y.toInt := by
    rw [Jvm.Kit.i32_mul (by rw [hd]; omega) (by rw [hd]; omega), hd]
  have e2 : (jrem x y).toInt = x.toInt - (x / y * y).toInt := Jvm.Kit.i32_sub (by rw [e1]; omega) (by rw [e1]; omega)
  rw [e2, e1]
  omega

theorem own_year {p v : Int32} (h : (jrem (p &&& (2147483647 : Int32)) (10000 : Int32)) = v) : 0 ≤ v.toInt ∧ v.toInt ≤ 9999 := by
  have e := Jvm.Kit.i32_mask p 2147483647 (k := 31) (by decide) (by decide)
  have e2 := own_jrem (x := p &&& (2147483647 : Int32)) (y := (10000 : Int32)) (by omega) (by decide)
  have c : (10000 : Int32).toInt = 10000 := by decide
  rw [h, c] at e2
  omega
theorem own_month {p v : Int32} (h : ((jrem (p &&& (2147483647 : Int32)) (12 : Int32)) + (1 : Int32)) = v) : 1 ≤ v.toInt ∧ v.toInt ≤ 12 := by
  have e := Jvm.Kit.i32_mask p 2147483647 (k := 31) (by decide) (by decide)
  have e2 := own_jrem (x := p &&& (2147483647 : Int32)) (y := (12 : Int32)) (by omega) (by decide)
  have c : (12 : Int32).toInt = 12 := by decide
  have c1 : (1 : Int32).toInt = 1 := by decide
  rw [c] at e2
  have e3 : ((jrem (p &&& (2147483647 : Int32)) (12 : Int32)) + (1 : Int32)).toInt = (jrem (p &&& (2147483647 : Int32)) (12 : Int32)).toInt + (1 : Int32).toInt := Jvm.Kit.i32_add (by omega) (by omega)
  rw [h] at e3
  omega
theorem own_push {w d : Int64} (h0 : 0 ≤ w.toInt) (h1 : w.toInt < 2 ^ 55) (d0 : 0 ≤ d.toInt) (d1 : d.toInt < 256) : ((w <<< ((8 : Int32) &&& 0x3f).toInt64) ||| d).toInt = w.toInt * 256 + d.toInt := by
  have e : (w <<< ((8 : Int32) &&& 0x3f).toInt64).toInt = w.toInt * 2 ^ 8 := Jvm.Kit.i64_shl w _ (by decide) (by omega) (by omega)
  rw [own_orL 8 (by rw [e]; omega) (by rw [e]; omega) d0 (by omega) (by rw [e]; omega), e]
  omega
theorem own_dig {x : Int32} (h0 : 0 ≤ x.toInt) (h1 : x.toInt ≤ 9) : (((48 : Int32) + x).toInt64).toInt = 48 + x.toInt := by
  have c : (48 : Int32).toInt = 48 := by decide
  rw [Int32.toInt_toInt64, Jvm.Kit.i32_add (by omega) (by omega), c]
theorem own_q1 (a : Int) : a / 10 / 10 = a / 100 := by omega
theorem own_q2 {a : Int} (h : 0 ≤ a) (h2 : a ≤ 9999) : a / 10 / 10 / 10 % 10 = a / 1000 := by omega
theorem own_ym {y m : Int32} {w : Int64} (hy : 0 ≤ y.toInt ∧ y.toInt ≤ 9999) (hm : 1 ≤ m.toInt ∧ m.toInt ≤ 12) (e : fYM y m = w) :
    w.toInt = ((((((45 * 256 + (48 + m.toInt % 10)) * 256 + (48 + m.toInt / 10)) * 256 + 45) * 256 + (48 + y.toInt % 10)) * 256 + (48 + y.toInt / 10 % 10)) * 256 + (48 + y.toInt / 100 % 10)) * 256 + (48 + y.toInt / 1000) := by
  have c10 : (10 : Int32).toInt = 10 := by decide
  have c45 : (45 : Int64).toInt = 45 := by decide
  have dv : ∀ x : Int32, 0 ≤ x.toInt → (x / (10 : Int32)).toInt = x.toInt / 10 := fun x hx => by rw [own_div hx (by decide), c10]
  have rm : ∀ x : Int32, 0 ≤ x.toInt → (jrem x (10 : Int32)).toInt = x.toInt % 10 := fun x hx => by rw [own_jrem hx (by decide), c10]
  unfold fYM at e
  dsimp only at e
  have m1 := rm m (by omega)
  have m2 := dv m (by omega)
  have y1 := rm y (by omega)
  have y2 := dv y (by omega)
  have y3 := rm (y / (10 : Int32)) (by omega)
  have y4 := dv (y / (10 : Int32)) (by omega)
  have y5 := rm (y / (10 : Int32) / (10 : Int32)) (by omega)
  have y6 := dv (y / (10 : Int32) / (10 : Int32)) (by omega)
  have y7 := rm (y / (10 : Int32) / (10 : Int32) / (10 : Int32)) (by omega)
  have g1 := own_dig (x := jrem m (10 : Int32)) (by omega) (by omega)
  have g2 := own_dig (x := m / (10 : Int32)) (by omega) (by omega)
  have g3 := own_dig (x := jrem y (10 : Int32)) (by omega) (by omega)
  have g4 := own_dig (x := jrem (y / (10 : Int32)) (10 : Int32)) (by omega) (by omega)
  have g5 := own_dig (x := jrem (y / (10 : Int32) / (10 : Int32)) (10 : Int32)) (by omega) (by omega)
  have g6 := own_dig (x := jrem (y / (10 : Int32) / (10 : Int32) / (10 : Int32)) (10 : Int32)) (by omega) (by omega)
  have w1 := own_push (w := (45 : Int64)) (d := ((48 : Int32) + (jrem m (10 : Int32))).toInt64) (by omega) (by omega) (by omega) (by omega)
  generalize ((45 : Int64) <<< ((8 : Int32) &&& 0x3f).toInt64) ||| ((48 : Int32) + (jrem m (10 : Int32))).toInt64 = v1 at e w1
  have w2 := own_push (w := v1) (d := ((48 : Int32) + (m / (10 : Int32))).toInt64) (by omega) (by omega) (by omega) (by omega)
  generalize (v1 <<< ((8 : Int32) &&& 0x3f).toInt64) ||| ((48 : Int32) + (m / (10 : Int32))).toInt64 = v2 at e w2
  have w3 := own_push (w := v2) (d := (45 : Int64)) (by omega) (by omega) (by omega) (by omega)
  generalize (v2 <<< ((8 : Int32) &&& 0x3f).toInt64) ||| (45 : Int64) = v3 at e w3
  have w4 := own_push (w := v3) (d := ((48 : Int32) + (jrem y (10 : Int32))).toInt64) (by omega) (by omega) (by omega) (by omega)
  generalize (v3 <<< ((8 : Int32) &&& 0x3f).toInt64) ||| ((48 : Int32) + (jrem y (10 : Int32))).toInt64 = v4 at e w4
  have w5 := own_push (w := v4) (d := ((48 : Int32) + (jrem (y / (10 : Int32)) (10 : Int32))).toInt64) (by omega) (by omega) (by omega) (by omega)
  generalize (v4 <<< ((8 : Int32) &&& 0x3f).toInt64) ||| ((48 : Int32) + (jrem (y / (10 : Int32)) (10 : Int32))).toInt64 = v5 at e w5
  have w6 := own_push (w := v5) (d := ((48 : Int32) + (jrem (y / (10 : Int32) / (10 : Int32)) (10 : Int32))).toInt64) (by omega) (by omega) (by omega) (by omega)
  generalize (v5 <<< ((8 : Int32) &&& 0x3f).toInt64) ||| ((48 : Int32) + (jrem (y / (10 : Int32) / (10 : Int32)) (10 : Int32))).toInt64 = v6 at e w6
  have w7 := own_push (w := v6) (d := ((48 : Int32) + (jrem (y / (10 : Int32) / (10 : Int32) / (10 : Int32)) (10 : Int32))).toInt64) (by omega) (by omega) (by omega) (by omega)
  rw [e] at w7
  have q1 := own_q1 y.toInt
  have q2 := own_q2 hy.1 hy.2
  rw [w7, w6, w5, w4, w3, w2, w1, g1, g2, g3, g4, g5, g6, c45, m1, m2, y1, y3, y5, y7, y6, y4, y2, q2, q1]
theorem own_byte {w : Int64} (h : 0 ≤ w.toInt) (i : Int32) {k : Nat} (hk : (((8 : Int32) * i) &&& 0x3f).toInt64.toUInt64.toNat = k) (hk2 : k < 64) : (fByte w i).toInt = w.toInt / 2 ^ k % 256 := by
  unfold fByte
  have e1 := Jvm.Kit.i64_lushr (x := w) (by rw [Int64.le_iff_toInt_le]; exact h) hk hk2
  have e2 := Jvm.Kit.i64_mask ((w.toUInt64 >>> (((8 : Int32) * i) &&& 0x3f).toInt64.toUInt64).toInt64) 255 (k := 8) (by decide) (by decide)
  have hp : (0 : Int) < 2 ^ k := Int.pow_pos (by decide)
  have e3 := Jvm.Kit.i32_of_i64 (x := ((w.toUInt64 >>> (((8 : Int32) * i) &&& 0x3f).toInt64.toUInt64).toInt64) &&& (255 : Int64)) (by rw [e2]; omega) (by rw [e2]; omega)
  rw [e3, e2, e1]
  omega
theorem own_dd {X c : Int} (h : 0 ≤ c ∧ c < 256) (k : Nat) : (X * 256 + c) / 2 ^ (k + 8) = X / 2 ^ k := by
  have e : (2 : Int) ^ (k + 8) = 256 * 2 ^ k := by rw [Int.pow_add]; rw [Int.mul_comm]; rfl
  rw [e, ← Int.ediv_ediv_of_nonneg (by decide)]
  congr 1
  omega
theorem own_mm {X c : Int} (h : 0 ≤ c ∧ c < 256) : (X * 256 + c) / 2 ^ 0 % 256 = c := by omega
theorem own_eq32 {a b : Int32} (h : a.toInt = b.toInt) : a = b := Int32.toInt_inj.mp h
theorem own_b0 {y m : Int32} {w : Int64} (hy : 0 ≤ y.toInt ∧ y.toInt ≤ 9999) (hm : 1 ≤ m.toInt ∧ m.toInt ≤ 12) (e : fYM y m = w) : (fByte w (0 : Int32)) = ((48 : Int32) + (y / (1000 : Int32))) := by
  have hw := own_ym hy hm e
  have d0 : 0 ≤ 48 + y.toInt / 1000 ∧ 48 + y.toInt / 1000 < 256 := by omega
  have hb := own_byte (w := w) (by omega) (0 : Int32) (k := 0) (by decide) (by decide)
  have c48 : (48 : Int32).toInt = 48 := by decide
  have c : (1000 : Int32).toInt = 1000 := by decide
  have hd := own_div (x := y) (y := (1000 : Int32)) (by omega) (by decide)
  rw [c] at hd
  rw [hw] at hb
  rw [own_mm d0] at hb
  apply own_eq32
  rw [hb, Jvm.Kit.i32_add (by omega) (by omega), hd, c48]
theorem own_b1 {y m : Int32} {w : Int64} (hy : 0 ≤ y.toInt ∧ y.toInt ≤ 9999) (hm : 1 ≤ m.toInt ∧ m.toInt ≤ 12) (e : fYM y m = w) : (fByte w (1 : Int32)) = ((48 : Int32) + (jrem (y / (100 : Int32)) (10 : Int32))) := by
  have hw := own_ym hy hm e
  have d0 : 0 ≤ 48 + y.toInt / 1000 ∧ 48 + y.toInt / 1000 < 256 := by omega
  have d1 : 0 ≤ 48 + y.toInt / 100 % 10 ∧ 48 + y.toInt / 100 % 10 < 256 := by omega
  have hb := own_byte (w := w) (by omega) (1 : Int32) (k := 8) (by decide) (by decide)
  have c48 : (48 : Int32).toInt = 48 := by decide
  have c : (100 : Int32).toInt = 100 := by decide
  have c10 : (10 : Int32).toInt = 10 := by decide
  have hd := own_div (x := y) (y := (100 : Int32)) (by omega) (by decide)
  rw [c] at hd
  have hr := own_jrem (x := y / (100 : Int32)) (y := (10 : Int32)) (by omega) (by decide)
  rw [c10, hd] at hr
  rw [hw] at hb
  rw [own_dd d0 0] at hb
  rw [own_mm d1] at hb
  apply own_eq32
  rw [hb, Jvm.Kit.i32_add (by omega) (by omega), hr, c48]
theorem own_b2 {y m : Int32} {w : Int64} (hy : 0 ≤ y.toInt ∧ y.toInt ≤ 9999) (hm : 1 ≤ m.toInt ∧ m.toInt ≤ 12) (e : fYM y m = w) : (fByte w (2 : Int32)) = ((48 : Int32) + (jrem (y / (10 : Int32)) (10 : Int32))) := by
  have hw := own_ym hy hm e
  have d0 : 0 ≤ 48 + y.toInt / 1000 ∧ 48 + y.toInt / 1000 < 256 := by omega
  have d1 : 0 ≤ 48 + y.toInt / 100 % 10 ∧ 48 + y.toInt / 100 % 10 < 256 := by omega
  have d2 : 0 ≤ 48 + y.toInt / 10 % 10 ∧ 48 + y.toInt / 10 % 10 < 256 := by omega
  have hb := own_byte (w := w) (by omega) (2 : Int32) (k := 16) (by decide) (by decide)
  have c48 : (48 : Int32).toInt = 48 := by decide
  have c10 : (10 : Int32).toInt = 10 := by decide
  have hd := own_div (x := y) (y := (10 : Int32)) (by omega) (by decide)
  rw [c10] at hd
  have hr := own_jrem (x := y / (10 : Int32)) (y := (10 : Int32)) (by omega) (by decide)
  rw [c10, hd] at hr
  rw [hw] at hb
  rw [own_dd d0 8] at hb
  rw [own_dd d1 0] at hb
  rw [own_mm d2] at hb
  apply own_eq32
  rw [hb, Jvm.Kit.i32_add (by omega) (by omega), hr, c48]
theorem own_b3 {y m : Int32} {w : Int64} (hy : 0 ≤ y.toInt ∧ y.toInt ≤ 9999) (hm : 1 ≤ m.toInt ∧ m.toInt ≤ 12) (e : fYM y m = w) : (fByte w (3 : Int32)) = ((48 : Int32) + (jrem y (10 : Int32))) := by
  have hw := own_ym hy hm e
  have d0 : 0 ≤ 48 + y.toInt / 1000 ∧ 48 + y.toInt / 1000 < 256 := by omega
  have d1 : 0 ≤ 48 + y.toInt / 100 % 10 ∧ 48 + y.toInt / 100 % 10 < 256 := by omega
  have d2 : 0 ≤ 48 + y.toInt / 10 % 10 ∧ 48 + y.toInt / 10 % 10 < 256 := by omega
  have d3 : 0 ≤ 48 + y.toInt % 10 ∧ 48 + y.toInt % 10 < 256 := by omega
  have hb := own_byte (w := w) (by omega) (3 : Int32) (k := 24) (by decide) (by decide)
  have c48 : (48 : Int32).toInt = 48 := by decide
  have c10 : (10 : Int32).toInt = 10 := by decide
  have hr := own_jrem (x := y) (y := (10 : Int32)) (by omega) (by decide)
  rw [c10] at hr
  rw [hw] at hb
  rw [own_dd d0 16] at hb
  rw [own_dd d1 8] at hb
  rw [own_dd d2 0] at hb
  rw [own_mm d3] at hb
  apply own_eq32
  rw [hb, Jvm.Kit.i32_add (by omega) (by omega), hr, c48]
theorem own_b4 {y m : Int32} {w : Int64} (hy : 0 ≤ y.toInt ∧ y.toInt ≤ 9999) (hm : 1 ≤ m.toInt ∧ m.toInt ≤ 12) (e : fYM y m = w) : (fByte w (4 : Int32)) = (45 : Int32) := by
  have hw := own_ym hy hm e
  have d0 : 0 ≤ 48 + y.toInt / 1000 ∧ 48 + y.toInt / 1000 < 256 := by omega
  have d1 : 0 ≤ 48 + y.toInt / 100 % 10 ∧ 48 + y.toInt / 100 % 10 < 256 := by omega
  have d2 : 0 ≤ 48 + y.toInt / 10 % 10 ∧ 48 + y.toInt / 10 % 10 < 256 := by omega
  have d3 : 0 ≤ 48 + y.toInt % 10 ∧ 48 + y.toInt % 10 < 256 := by omega
  have d4 : 0 ≤ (45 : Int) ∧ (45 : Int) < 256 := by omega
  have hb := own_byte (w := w) (by omega) (4 : Int32) (k := 32) (by decide) (by decide)
  have c : (45 : Int32).toInt = 45 := by decide
  rw [hw] at hb
  rw [own_dd d0 24] at hb
  rw [own_dd d1 16] at hb
  rw [own_dd d2 8] at hb
  rw [own_dd d3 0] at hb
  rw [own_mm d4] at hb
  apply own_eq32
  rw [hb, c]
theorem own_b5 {y m : Int32} {w : Int64} (hy : 0 ≤ y.toInt ∧ y.toInt ≤ 9999) (hm : 1 ≤ m.toInt ∧ m.toInt ≤ 12) (e : fYM y m = w) : (fByte w (5 : Int32)) = ((48 : Int32) + (m / (10 : Int32))) := by
  have hw := own_ym hy hm e
  have d0 : 0 ≤ 48 + y.toInt / 1000 ∧ 48 + y.toInt / 1000 < 256 := by omega
  have d1 : 0 ≤ 48 + y.toInt / 100 % 10 ∧ 48 + y.toInt / 100 % 10 < 256 := by omega
  have d2 : 0 ≤ 48 + y.toInt / 10 % 10 ∧ 48 + y.toInt / 10 % 10 < 256 := by omega
  have d3 : 0 ≤ 48 + y.toInt % 10 ∧ 48 + y.toInt % 10 < 256 := by omega
  have d4 : 0 ≤ (45 : Int) ∧ (45 : Int) < 256 := by omega
  have d5 : 0 ≤ 48 + m.toInt / 10 ∧ 48 + m.toInt / 10 < 256 := by omega
  have hb := own_byte (w := w) (by omega) (5 : Int32) (k := 40) (by decide) (by decide)
  have c48 : (48 : Int32).toInt = 48 := by decide
  have c10 : (10 : Int32).toInt = 10 := by decide
  have hd := own_div (x := m) (y := (10 : Int32)) (by omega) (by decide)
  rw [c10] at hd
  rw [hw] at hb
  rw [own_dd d0 32] at hb
  rw [own_dd d1 24] at hb
  rw [own_dd d2 16] at hb
  rw [own_dd d3 8] at hb
  rw [own_dd d4 0] at hb
  rw [own_mm d5] at hb
  apply own_eq32
  rw [hb, Jvm.Kit.i32_add (by omega) (by omega), hd, c48]
theorem own_b6 {y m : Int32} {w : Int64} (hy : 0 ≤ y.toInt ∧ y.toInt ≤ 9999) (hm : 1 ≤ m.toInt ∧ m.toInt ≤ 12) (e : fYM y m = w) : (fByte w (6 : Int32)) = ((48 : Int32) + (jrem m (10 : Int32))) := by
  have hw := own_ym hy hm e
  have d0 : 0 ≤ 48 + y.toInt / 1000 ∧ 48 + y.toInt / 1000 < 256 := by omega
  have d1 : 0 ≤ 48 + y.toInt / 100 % 10 ∧ 48 + y.toInt / 100 % 10 < 256 := by omega
  have d2 : 0 ≤ 48 + y.toInt / 10 % 10 ∧ 48 + y.toInt / 10 % 10 < 256 := by omega
  have d3 : 0 ≤ 48 + y.toInt % 10 ∧ 48 + y.toInt % 10 < 256 := by omega
  have d4 : 0 ≤ (45 : Int) ∧ (45 : Int) < 256 := by omega
  have d5 : 0 ≤ 48 + m.toInt / 10 ∧ 48 + m.toInt / 10 < 256 := by omega
  have d6 : 0 ≤ 48 + m.toInt % 10 ∧ 48 + m.toInt % 10 < 256 := by omega
  have hb := own_byte (w := w) (by omega) (6 : Int32) (k := 48) (by decide) (by decide)
  have c48 : (48 : Int32).toInt = 48 := by decide
  have c10 : (10 : Int32).toInt = 10 := by decide
  have hr := own_jrem (x := m) (y := (10 : Int32)) (by omega) (by decide)
  rw [c10] at hr
  rw [hw] at hb
  rw [own_dd d0 40] at hb
  rw [own_dd d1 32] at hb
  rw [own_dd d2 24] at hb
  rw [own_dd d3 16] at hb
  rw [own_dd d4 8] at hb
  rw [own_dd d5 0] at hb
  rw [own_mm d6] at hb
  apply own_eq32
  rw [hb, Jvm.Kit.i32_add (by omega) (by omega), hr, c48]
theorem own_b7 {y m : Int32} {w : Int64} (hy : 0 ≤ y.toInt ∧ y.toInt ≤ 9999) (hm : 1 ≤ m.toInt ∧ m.toInt ≤ 12) (e : fYM y m = w) : (fByte w (7 : Int32)) = (45 : Int32) := by
  have hw := own_ym hy hm e
  have d0 : 0 ≤ 48 + y.toInt / 1000 ∧ 48 + y.toInt / 1000 < 256 := by omega
  have d1 : 0 ≤ 48 + y.toInt / 100 % 10 ∧ 48 + y.toInt / 100 % 10 < 256 := by omega
  have d2 : 0 ≤ 48 + y.toInt / 10 % 10 ∧ 48 + y.toInt / 10 % 10 < 256 := by omega
  have d3 : 0 ≤ 48 + y.toInt % 10 ∧ 48 + y.toInt % 10 < 256 := by omega
  have d4 : 0 ≤ (45 : Int) ∧ (45 : Int) < 256 := by omega
  have d5 : 0 ≤ 48 + m.toInt / 10 ∧ 48 + m.toInt / 10 < 256 := by omega
  have d6 : 0 ≤ 48 + m.toInt % 10 ∧ 48 + m.toInt % 10 < 256 := by omega
  have hb := own_byte (w := w) (by omega) (7 : Int32) (k := 56) (by decide) (by decide)
  have c : (45 : Int32).toInt = 45 := by decide
  rw [hw] at hb
  rw [own_dd d0 48] at hb
  rw [own_dd d1 40] at hb
  rw [own_dd d2 32] at hb
  rw [own_dd d3 24] at hb
  rw [own_dd d4 16] at hb
  rw [own_dd d5 8] at hb
  rw [own_dd d6 0] at hb
  apply own_eq32
  rw [hb, c]
  omega

theorem pn_0 : plainName "com/example/drollover/drollover/cli/CsvWriterYearMonthPinLaw" = true := by first | (simp [plainName, overriddenIn]; done) | decide +kernel
theorem pdc7ffd0b1 : parseMethodDescriptor "(II)J" = some ⟨[.int, .int], some .long⟩ := by decide +kernel
theorem pdc8221e4b : parseMethodDescriptor "(JI)I" = some ⟨[.long, .int], some .int⟩ := by decide +kernel
theorem ef_rm0 (m : MethodId) (p0 : Int32) (p1 : Int32) : entryFrame m #[(.int p0), (.int p1)] maxLocals = mkF m 0 #[.val (.int p0), .val (.int p1), .unset, .unset, .unset, .unset] [] := by first | (simp [entryFrame, mkF, argsToLocals, Value.category, maxLocals]; done) | rfl
def Q_rm0 (Z : State) (p0 : Int32) (p1 : Int32) (h0 : Heap) (n0 : Nat) (v : Option Value) (h : Heap) (L : List Loc) : Prop := v = some (.int 1) ∧ Fr n0 L
abbrev F_rm0 (Z : State) (p0 : Int32) (p1 : Int32) (h0 : Heap) (n0 : Nat) (s : State) (o : Outcome) (U : State) : Prop := ∃ v L, o = .returned v ∧ Q_rm0 Z p0 p1 h0 n0 v U.heap L ∧ FrameEnd s o U L room_1.cells room_1.slots
set_option maxRecDepth 65536 in
set_option maxHeartbeats 40000000 in
theorem rm0 (l : Launch) (Z : State) (aZ : Array Value) (hw : ∀ d ∈ tables_1, d.before aZ Z = true) (ws : List Jvm.Cond) (p0 : Int32) (p1 : Int32) (h0 : Heap) (n0 : Nat) :
    MetFree l x (head1 (Jvm.Cond.code x code maxLocals ret :: ws) room_1) (fun a U => a = #[(.int p0), (.int p1)] ∧ Z.Warmed39 U.vm ∧ U.heap = h0) (fun _ _ _ _ _ => True) (fun _ U o U' => ∃ v L, o = .returned v ∧ Q_rm0 Z p0 p1 h0 n0 v U'.heap L ∧ FrameEnd U o U' L room_1.cells room_1.slots) := by
  refine MetFree.of_bodySF (plainFor_of_name pn_0) hisR ?_
  intro p e s m args below meth c s₁ Bd hml0 hP hK
  obtain ⟨rfl, hZ, hh⟩ := hP
  have hx := Bd.exec
  have hby := Bd.bytes
  have hml : c.maxLocals = 6 := hml0
  have hown : s.vm.findClass "com/example/drollover/drollover/cli/CsvWriterYearMonthPinLaw" = some m.cls := findClass_of_methodNamed Bd.named
  have hnm := (name_of_methodNamed Bd.named Bd.method).1
  have X0 : Stand p l e room_1 s m #[(.int p0), (.int p1)] below meth c s₁ [] 0 0 := Stand.of_body Bd
  have e0 : s₁.heap = h0 := by rw [← hh, Bd.state]; rfl
  have N0 := Fr.nil n0
  refine Go.st (fun _ k => castTop (ef_rm0 m p0 p1) k) ?_
  show Go p e below _ (s₁.setTop (mkF m 0 #[.val (.int p0), .val (.int p1), .unset, .unset, .unset, .unset] []))
  refine Go.st (fun _ k => XS.iloadN X0.here hx rfl (hb hby at_0) rfl k) ?_
  show Go p e below _ (s₁.setTop (mkF m 1 #[.val (.int p0), .val (.int p1), .unset, .unset, .unset, .unset] [(.int p0)]))
  refine Go.st (fun _ k => X0.ldcInt hx hown (mvT hZ (hw _ (List.mem_of_getElem? (i := 0) rfl))) (g := (mkF m 1 #[.val (.int p0), .val (.int p1), .unset, .unset, .unset, .unset] [(.int p0)])) rfl (hb hby at_1) _ k) ?_
  show Go p e below _ (s₁.setTop (mkF m 3 #[.val (.int p0), .val (.int p1), .unset, .unset, .unset, .unset] [(.int (2147483647 : Int32)), (.int p0)]))
  refine Go.st (fun _ k => XS.iand X0.here hx rfl (hb hby at_3) rfl k) ?_
  show Go p e below _ (s₁.setTop (mkF m 4 #[.val (.int p0), .val (.int p1), .unset, .unset, .unset, .unset] [(.int (p0 &&& (2147483647 : Int32)))]))
  refine Go.st (fun _ k => XS.sipush X0.here hx rfl (hb hby at_4) k) ?_
  show Go p e below _ (s₁.setTop (mkF m 7 #[.val (.int p0), .val (.int p1), .unset, .unset, .unset, .unset] [(.int (10000 : Int32)), (.int (p0 &&& (2147483647 : Int32)))]))
  refine Go.st (fun _ k => XS.irem X0.here hx rfl (hb hby at_7) rfl (by decide) k) ?_
  show Go p e below _ (s₁.setTop (mkF m 8 #[.val (.int p0), .val (.int p1), .unset, .unset, .unset, .unset] [(.int (jrem (p0 &&& (2147483647 : Int32)) (10000 : Int32)))]))
  generalize hv1 : (jrem (p0 &&& (2147483647 : Int32)) (10000 : Int32)) = v1
  refine Go.st (fun _ k => XS.istoreN X0.here hx rfl (hb hby at_8) rfl (l' := #[.val (.int p0), .val (.int p1), .val (.int v1), .unset, .unset, .unset]) rfl k) ?_
  show Go p e below _ (s₁.setTop (mkF m 9 #[.val (.int p0), .val (.int p1), .val (.int v1), .unset, .unset, .unset] []))
  refine Go.st (fun _ k => XS.iloadN X0.here hx rfl (hb hby at_9) rfl k) ?_
  show Go p e below _ (s₁.setTop (mkF m 10 #[.val (.int p0), .val (.int p1), .val (.int v1), .unset, .unset, .unset] [(.int p1)]))
  refine Go.st (fun _ k => X0.ldcInt hx hown (mvT hZ (hw _ (List.mem_of_getElem? (i := 0) rfl))) (g := (mkF m 10 #[.val (.int p0), .val (.int p1), .val (.int v1), .unset, .unset, .unset] [(.int p1)])) rfl (hb hby at_10) _ k) ?_
  show Go p e below _ (s₁.setTop (mkF m 12 #[.val (.int p0), .val (.int p1), .val (.int v1), .unset, .unset, .unset] [(.int (2147483647 : Int32)), (.int p1)]))
  refine Go.st (fun _ k => XS.iand X0.here hx rfl (hb hby at_12) rfl k) ?_
  show Go p e below _ (s₁.setTop (mkF m 13 #[.val (.int p0), .val (.int p1), .val (.int v1), .unset, .unset, .unset] [(.int (p1 &&& (2147483647 : Int32)))]))
  refine Go.st (fun _ k => XS.bipush X0.here hx rfl (hb hby at_13) k) ?_
  show Go p e below _ (s₁.setTop (mkF m 15 #[.val (.int p0), .val (.int p1), .val (.int v1), .unset, .unset, .unset] [(.int (12 : Int32)), (.int (p1 &&& (2147483647 : Int32)))]))
  refine Go.st (fun _ k => XS.irem X0.here hx rfl (hb hby at_15) rfl (by decide) k) ?_
  show Go p e below _ (s₁.setTop (mkF m 16 #[.val (.int p0), .val (.int p1), .val (.int v1), .unset, .unset, .unset] [(.int (jrem (p1 &&& (2147483647 : Int32)) (12 : Int32)))]))
  refine Go.st (fun _ k => XS.iconst X0.here hx rfl (hb hby at_16) k) ?_
  show Go p e below _ (s₁.setTop (mkF m 17 #[.val (.int p0), .val (.int p1), .val (.int v1), .unset, .unset, .unset] [(.int (1 : Int32)), (.int (jrem (p1 &&& (2147483647 : Int32)) (12 : Int32)))]))
  refine Go.st (fun _ k => XS.iadd X0.here hx rfl (hb hby at_17) rfl k) ?_
  show Go p e below _ (s₁.setTop (mkF m 18 #[.val (.int p0), .val (.int p1), .val (.int v1), .unset, .unset, .unset] [(.int ((jrem (p1 &&& (2147483647 : Int32)) (12 : Int32)) + (1 : Int32)))]))
  generalize hv2 : ((jrem (p1 &&& (2147483647 : Int32)) (12 : Int32)) + (1 : Int32)) = v2
  refine Go.st (fun _ k => XS.istoreN X0.here hx rfl (hb hby at_18) rfl (l' := #[.val (.int p0), .val (.int p1), .val (.int v1), .val (.int v2), .unset, .unset]) rfl k) ?_
  show Go p e below _ (s₁.setTop (mkF m 19 #[.val (.int p0), .val (.int p1), .val (.int v1), .val (.int v2), .unset, .unset] []))
  refine Go.st (fun _ k => XS.iloadN X0.here hx rfl (hb hby at_19) rfl k) ?_
  show Go p e below _ (s₁.setTop (mkF m 20 #[.val (.int p0), .val (.int p1), .val (.int v1), .val (.int v2), .unset, .unset] [(.int v1)]))
  refine Go.st (fun _ k => XS.iloadN X0.here hx rfl (hb hby at_20) rfl k) ?_
  show Go p e below _ (s₁.setTop (mkF m 21 #[.val (.int p0), .val (.int p1), .val (.int v1), .val (.int v2), .unset, .unset] [(.int v2), (.int v1)]))
  obtain ⟨_, _, ⟨T3, L3, k3, n3⟩, -, X3, ⟨Lc3, hQ3, l3, y3, z3⟩, st3⟩ := Jvm.LawKit.callS X0 hx (y := (⟨"com/example/drollover/drollover/cli/CsvWriter", "yearMonth", "(II)J"⟩ : MethodName)) hown (mvT hZ (hw _ (List.mem_of_getElem? (i := 1) rfl))) (mvT hZ (hw _ (List.mem_of_getElem? (i := 2) rfl))) (mvT hZ (hw _ (List.mem_of_getElem? (i := 3) rfl))) (mvT hZ (hw _ (List.mem_of_getElem? (i := 4) rfl))) (by decide) (backOf (W := 0) (rm1 l Z aZ hw [] v1 v2 h0 n0 ) hZ (hw _ (List.mem_of_getElem? (i := 4) rfl)) (hw _ (List.mem_of_getElem? (i := 3) rfl)) (by decide) (by decide)) (g := (mkF m 21 #[.val (.int p0), .val (.int p1), .val (.int v1), .val (.int v2), .unset, .unset] [(.int v2), (.int v1)])) rfl (by rw [hml]; rfl) (argsL := [(.int v1), (.int v2)]) (rest := []) (lenOf pdc7ffd0b1 rfl) rfl (by show 2 * 0 + _ ≤ _; exact Nat.le_of_eq rfl) (hb hby at_21) (fun _ _ => ⟨rfl, e0, (by decide : 0 + 0 ≤ _), (by decide : 0 + 0 ≤ _)⟩)
  dsimp only [Pt.U, Pt.locs, Pt.cells, Pt.slots] at X3 l3 y3 z3 st3 hQ3
  subst l3 y3 z3
  obtain ⟨rfl, N3q, e3⟩ := hQ3
  have N3 := Fr.app N0 N3q
  refine Go.st (fun _ k => st3 _ k) ?_
  show Go p e below _ (T3.setTop (mkF m 24 #[.val (.int p0), .val (.int p1), .val (.int v1), .val (.int v2), .unset, .unset] [(.long (fYM v1 v2))]))
  generalize hv4 : (fYM v1 v2) = v4
  refine Go.st (fun _ k => XS.lstore X3.here hx rfl (hb hby at_24) rfl (l' := #[.val (.int p0), .val (.int p1), .val (.int v1), .val (.int v2), .val (.long v4), .second]) rfl k) ?_
  show Go p e below _ (T3.setTop (mkF m 26 #[.val (.int p0), .val (.int p1), .val (.int v1), .val (.int v2), .val (.long v4), .second] []))
  refine Go.st (fun _ k => XS.lload X3.here hx rfl (hb hby at_26) rfl k) ?_
  show Go p e below _ (T3.setTop (mkF m 28 #[.val (.int p0), .val (.int p1), .val (.int v1), .val (.int v2), .val (.long v4), .second] [(.long v4)]))
  refine Go.st (fun _ k => XS.iconst X3.here hx rfl (hb hby at_28) k) ?_
  show Go p e below _ (T3.setTop (mkF m 29 #[.val (.int p0), .val (.int p1), .val (.int v1), .val (.int v2), .val (.long v4), .second] [(.int (0 : Int32)), (.long v4)]))
  obtain ⟨_, _, ⟨T5, L5, k5, n5⟩, -, X5, ⟨Lc5, hQ5, l5, y5, z5⟩, st5⟩ := Jvm.LawKit.callS X3 hx (y := (⟨"com/example/drollover/drollover/cli/CsvWriterYearMonthPinLaw", "byteAt", "(JI)I"⟩ : MethodName)) hown (mvT hZ (hw _ (List.mem_of_getElem? (i := 6) rfl))) (mvT hZ (hw _ (List.mem_of_getElem? (i := 7) rfl))) (mvT hZ (hw _ (List.mem_of_getElem? (i := 8) rfl))) (mvT hZ (hw _ (List.mem_of_getElem? (i := 9) rfl))) (by decide) (backOf (W := 0) (rm2 l Z aZ hw [] v4 (0 : Int32) h0 n0 ) hZ (hw _ (List.mem_of_getElem? (i := 9) rfl)) (hw _ (List.mem_of_getElem? (i := 8) rfl)) (by decide) (by decide)) (g := (mkF m 29 #[.val (.int p0), .val (.int p1), .val (.int v1), .val (.int v2), .val (.long v4), .second] [(.int (0 : Int32)), (.long v4)])) rfl (by rw [hml]; rfl) (argsL := [(.long v4), (.int (0 : Int32))]) (rest := []) (lenOf pdc8221e4b rfl) rfl (by show 2 * 0 + _ ≤ _; exact Nat.le_of_eq rfl) (hb hby at_29) (fun _ _ => ⟨rfl, e3, (by decide : 0 + 0 ≤ _), (by decide : 0 + 0 ≤ _)⟩)
  dsimp only [Pt.U, Pt.locs, Pt.cells, Pt.slots] at X5 l5 y5 z5 st5 hQ5
  subst l5 y5 z5
  obtain ⟨rfl, N5q, e5⟩ := hQ5
  have N5 := Fr.app N3 N5q
  refine Go.st (fun _ k => st5 _ k) ?_
  show Go p e below _ (T5.setTop (mkF m 32 #[.val (.int p0), .val (.int p1), .val (.int v1), .val (.int v2), .val (.long v4), .second] [(.int (fByte v4 (0 : Int32)))]))
  refine Go.st (fun _ k => XS.bipush X5.here hx rfl (hb hby at_32) k) ?_
  show Go p e below _ (T5.setTop (mkF m 34 #[.val (.int p0), .val (.int p1), .val (.int v1), .val (.int v2), .val (.long v4), .second] [(.int (48 : Int32)), (.int (fByte v4 (0 : Int32)))]))
  refine Go.st (fun _ k => XS.iloadN X5.here hx rfl (hb hby at_34) rfl k) ?_
  show Go p e below _ (T5.setTop (mkF m 35 #[.val (.int p0), .val (.int p1), .val (.int v1), .val (.int v2), .val (.long v4), .second] [(.int v1), (.int (48 : Int32)), (.int (fByte v4 (0 : Int32)))]))
  refine Go.st (fun _ k => XS.sipush X5.here hx rfl (hb hby at_35) k) ?_
  show Go p e below _ (T5.setTop (mkF m 38 #[.val (.int p0), .val (.int p1), .val (.int v1), .val (.int v2), .val (.long v4), .second] [(.int (1000 : Int32)), (.int v1), (.int (48 : Int32)), (.int (fByte v4 (0 : Int32)))]))
  refine Go.st (fun _ k => XS.idiv X5.here hx rfl (hb hby at_38) rfl (by decide) k) ?_
  show Go p e below _ (T5.setTop (mkF m 39 #[.val (.int p0), .val (.int p1), .val (.int v1), .val (.int v2), .val (.long v4), .second] [(.int (v1 / (1000 : Int32))), (.int (48 : Int32)), (.int (fByte v4 (0 : Int32)))]))
  refine Go.st (fun _ k => XS.iadd X5.here hx rfl (hb hby at_39) rfl k) ?_
  show Go p e below _ (T5.setTop (mkF m 40 #[.val (.int p0), .val (.int p1), .val (.int v1), .val (.int v2), .val (.long v4), .second] [(.int ((48 : Int32) + (v1 / (1000 : Int32)))), (.int (fByte v4 (0 : Int32)))]))
  refine Go.st (fun _ k => XS.icmpNo X5.here hx rfl (hb hby at_40) rfl (teq (own_b0 (own_year hv1) (own_month hv2) hv4)).2 k) ?_
  show Go p e below _ (T5.setTop (mkF m 43 #[.val (.int p0), .val (.int p1), .val (.int v1), .val (.int v2), .val (.long v4), .second] []))
  refine Go.st (fun _ k => XS.lload X5.here hx rfl (hb hby at_43) rfl k) ?_
  show Go p e below _ (T5.setTop (mkF m 45 #[.val (.int p0), .val (.int p1), .val (.int v1), .val (.int v2), .val (.long v4), .second] [(.long v4)]))
  refine Go.st (fun _ k => XS.iconst X5.here hx rfl (hb hby at_45) k) ?_
  show Go p e below _ (T5.setTop (mkF m 46 #[.val (.int p0), .val (.int p1), .val (.int v1), .val (.int v2), .val (.long v4), .second] [(.int (1 : Int32)), (.long v4)]))
  obtain ⟨_, _, ⟨T6, L6, k6, n6⟩, -, X6, ⟨Lc6, hQ6, l6, y6, z6⟩, st6⟩ := Jvm.LawKit.callS X5 hx (y := (⟨"com/example/drollover/drollover/cli/CsvWriterYearMonthPinLaw", "byteAt", "(JI)I"⟩ : MethodName)) hown (mvT hZ (hw _ (List.mem_of_getElem? (i := 6) rfl))) (mvT hZ (hw _ (List.mem_of_getElem? (i := 7) rfl))) (mvT hZ (hw _ (List.mem_of_getElem? (i := 8) rfl))) (mvT hZ (hw _ (List.mem_of_getElem? (i := 9) rfl))) (by decide) (backOf (W := 0) (rm2 l Z aZ hw [] v4 (1 : Int32) h0 n0 ) hZ (hw _ (List.mem_of_getElem? (i := 9) rfl)) (hw _ (List.mem_of_getElem? (i := 8) rfl)) (by decide) (by decide)) (g := (mkF m 46 #[.val (.int p0), .val (.int p1), .val (.int v1), .val (.int v2), .val (.long v4), .second] [(.int (1 : Int32)), (.long v4)])) rfl (by rw [hml]; rfl) (argsL := [(.long v4), (.int (1 : Int32))]) (rest := []) (lenOf pdc8221e4b rfl) rfl (by show 2 * 0 + _ ≤ _; exact Nat.le_of_eq rfl) (hb hby at_46) (fun _ _ => ⟨rfl, e5, (by decide : 0 + 0 ≤ _), (by decide : 0 + 0 ≤ _)⟩)
  dsimp only [Pt.U, Pt.locs, Pt.cells, Pt.slots] at X6 l6 y6 z6 st6 hQ6
  subst l6 y6 z6
  obtain ⟨rfl, N6q, e6⟩ := hQ6
  have N6 := Fr.app N5 N6q
  refine Go.st (fun _ k => st6 _ k) ?_
  show Go p e below _ (T6.setTop (mkF m 49 #[.val (.int p0), .val (.int p1), .val (.int v1), .val (.int v2), .val (.long v4), .second] [(.int (fByte v4 (1 : Int32)))]))
  refine Go.st (fun _ k => XS.bipush X6.here hx rfl (hb hby at_49) k) ?_
  show Go p e below _ (T6.setTop (mkF m 51 #[.val (.int p0), .val (.int p1), .val (.int v1), .val (.int v2), .val (.long v4), .second] [(.int (48 : Int32)), (.int (fByte v4 (1 : Int32)))]))
  refine Go.st (fun _ k => XS.iloadN X6.here hx rfl (hb hby at_51) rfl k) ?_
  show Go p e below _ (T6.setTop (mkF m 52 #[.val (.int p0), .val (.int p1), .val (.int v1), .val (.int v2), .val (.long v4), .second] [(.int v1), (.int (48 : Int32)), (.int (fByte v4 (1 : Int32)))]))
  refine Go.st (fun _ k => XS.bipush X6.here hx rfl (hb hby at_52) k) ?_
  show Go p e below _ (T6.setTop (mkF m 54 #[.val (.int p0), .val (.int p1), .val (.int v1), .val (.int v2), .val (.long v4), .second] [(.int (100 : Int32)), (.int v1), (.int (48 : Int32)), (.int (fByte v4 (1 : Int32)))]))
  refine Go.st (fun _ k => XS.idiv X6.here hx rfl (hb hby at_54) rfl (by decide) k) ?_
  show Go p e below _ (T6.setTop (mkF m 55 #[.val (.int p0), .val (.int p1), .val (.int v1), .val (.int v2), .val (.long v4), .second] [(.int (v1 / (100 : Int32))), (.int (48 : Int32)), (.int (fByte v4 (1 : Int32)))]))
  refine Go.st (fun _ k => XS.bipush X6.here hx rfl (hb hby at_55) k) ?_
  show Go p e below _ (T6.setTop (mkF m 57 #[.val (.int p0), .val (.int p1), .val (.int v1), .val (.int v2), .val (.long v4), .second] [(.int (10 : Int32)), (.int (v1 / (100 : Int32))), (.int (48 : Int32)), (.int (fByte v4 (1 : Int32)))]))
  refine Go.st (fun _ k => XS.irem X6.here hx rfl (hb hby at_57) rfl (by decide) k) ?_
  show Go p e below _ (T6.setTop (mkF m 58 #[.val (.int p0), .val (.int p1), .val (.int v1), .val (.int v2), .val (.long v4), .second] [(.int (jrem (v1 / (100 : Int32)) (10 : Int32))), (.int (48 : Int32)), (.int (fByte v4 (1 : Int32)))]))
  refine Go.st (fun _ k => XS.iadd X6.here hx rfl (hb hby at_58) rfl k) ?_
  show Go p e below _ (T6.setTop (mkF m 59 #[.val (.int p0), .val (.int p1), .val (.int v1), .val (.int v2), .val (.long v4), .second] [(.int ((48 : Int32) + (jrem (v1 / (100 : Int32)) (10 : Int32)))), (.int (fByte v4 (1 : Int32)))]))
  refine Go.st (fun _ k => XS.icmpNo X6.here hx rfl (hb hby at_59) rfl (teq (own_b1 (own_year hv1) (own_month hv2) hv4)).2 k) ?_
  show Go p e below _ (T6.setTop (mkF m 62 #[.val (.int p0), .val (.int p1), .val (.int v1), .val (.int v2), .val (.long v4), .second] []))
  refine Go.st (fun _ k => XS.lload X6.here hx rfl (hb hby at_62) rfl k) ?_
  show Go p e below _ (T6.setTop (mkF m 64 #[.val (.int p0), .val (.int p1), .val (.int v1), .val (.int v2), .val (.long v4), .second] [(.long v4)]))
  refine Go.st (fun _ k => XS.iconst X6.here hx rfl (hb hby at_64) k) ?_
  show Go p e below _ (T6.setTop (mkF m 65 #[.val (.int p0), .val (.int p1), .val (.int v1), .val (.int v2), .val (.long v4), .second] [(.int (2 : Int32)), (.long v4)]))
  obtain ⟨_, _, ⟨T7, L7, k7, n7⟩, -, X7, ⟨Lc7, hQ7, l7, y7, z7⟩, st7⟩ := Jvm.LawKit.callS X6 hx (y := (⟨"com/example/drollover/drollover/cli/CsvWriterYearMonthPinLaw", "byteAt", "(JI)I"⟩ : MethodName)) hown (mvT hZ (hw _ (List.mem_of_getElem? (i := 6) rfl))) (mvT hZ (hw _ (List.mem_of_getElem? (i := 7) rfl))) (mvT hZ (hw _ (List.mem_of_getElem? (i := 8) rfl))) (mvT hZ (hw _ (List.mem_of_getElem? (i := 9) rfl))) (by decide) (backOf (W := 0) (rm2 l Z aZ hw [] v4 (2 : Int32) h0 n0 ) hZ (hw _ (List.mem_of_getElem? (i := 9) rfl)) (hw _ (List.mem_of_getElem? (i := 8) rfl)) (by decide) (by decide)) (g := (mkF m 65 #[.val (.int p0), .val (.int p1), .val (.int v1), .val (.int v2), .val (.long v4), .second] [(.int (2 : Int32)), (.long v4)])) rfl (by rw [hml]; rfl) (argsL := [(.long v4), (.int (2 : Int32))]) (rest := []) (lenOf pdc8221e4b rfl) rfl (by show 2 * 0 + _ ≤ _; exact Nat.le_of_eq rfl) (hb hby at_65) (fun _ _ => ⟨rfl, e6, (by decide : 0 + 0 ≤ _), (by decide : 0 + 0 ≤ _)⟩)
  dsimp only [Pt.U, Pt.locs, Pt.cells, Pt.slots] at X7 l7 y7 z7 st7 hQ7
  subst l7 y7 z7
  obtain ⟨rfl, N7q, e7⟩ := hQ7
  have N7 := Fr.app N6 N7q
  refine Go.st (fun _ k => st7 _ k) ?_
  show Go p e below _ (T7.setTop (mkF m 68 #[.val (.int p0), .val (.int p1), .val (.int v1), .val (.int v2), .val (.long v4), .second] [(.int (fByte v4 (2 : Int32)))]))
  refine Go.st (fun _ k => XS.bipush X7.here hx rfl (hb hby at_68) k) ?_
  show Go p e below _ (T7.setTop (mkF m 70 #[.val (.int p0), .val (.int p1), .val (.int v1), .val (.int v2), .val (.long v4), .second] [(.int (48 : Int32)), (.int (fByte v4 (2 : Int32)))]))
  refine Go.st (fun _ k => XS.iloadN X7.here hx rfl (hb hby at_70) rfl k) ?_
  show Go p e below _ (T7.setTop (mkF m 71 #[.val (.int p0), .val (.int p1), .val (.int v1), .val (.int v2), .val (.long v4), .second] [(.int v1), (.int (48 : Int32)), (.int (fByte v4 (2 : Int32)))]))
  refine Go.st (fun _ k => XS.bipush X7.here hx rfl (hb hby at_71) k) ?_
  show Go p e below _ (T7.setTop (mkF m 73 #[.val (.int p0), .val (.int p1), .val (.int v1), .val (.int v2), .val (.long v4), .second] [(.int (10 : Int32)), (.int v1), (.int (48 : Int32)), (.int (fByte v4 (2 : Int32)))]))
  refine Go.st (fun _ k => XS.idiv X7.here hx rfl (hb hby at_73) rfl (by decide) k) ?_
  show Go p e below _ (T7.setTop (mkF m 74 #[.val (.int p0), .val (.int p1), .val (.int v1), .val (.int v2), .val (.long v4), .second] [(.int (v1 / (10 : Int32))), (.int (48 : Int32)), (.int (fByte v4 (2 : Int32)))]))
  refine Go.st (fun _ k => XS.bipush X7.here hx rfl (hb hby at_74) k) ?_
  show Go p e below _ (T7.setTop (mkF m 76 #[.val (.int p0), .val (.int p1), .val (.int v1), .val (.int v2), .val (.long v4), .second] [(.int (10 : Int32)), (.int (v1 / (10 : Int32))), (.int (48 : Int32)), (.int (fByte v4 (2 : Int32)))]))
  refine Go.st (fun _ k => XS.irem X7.here hx rfl (hb hby at_76) rfl (by decide) k) ?_
  show Go p e below _ (T7.setTop (mkF m 77 #[.val (.int p0), .val (.int p1), .val (.int v1), .val (.int v2), .val (.long v4), .second] [(.int (jrem (v1 / (10 : Int32)) (10 : Int32))), (.int (48 : Int32)), (.int (fByte v4 (2 : Int32)))]))
  refine Go.st (fun _ k => XS.iadd X7.here hx rfl (hb hby at_77) rfl k) ?_
  show Go p e below _ (T7.setTop (mkF m 78 #[.val (.int p0), .val (.int p1), .val (.int v1), .val (.int v2), .val (.long v4), .second] [(.int ((48 : Int32) + (jrem (v1 / (10 : Int32)) (10 : Int32)))), (.int (fByte v4 (2 : Int32)))]))
  refine Go.st (fun _ k => XS.icmpNo X7.here hx rfl (hb hby at_78) rfl (teq (own_b2 (own_year hv1) (own_month hv2) hv4)).2 k) ?_
  show Go p e below _ (T7.setTop (mkF m 81 #[.val (.int p0), .val (.int p1), .val (.int v1), .val (.int v2), .val (.long v4), .second] []))
  refine Go.st (fun _ k => XS.lload X7.here hx rfl (hb hby at_81) rfl k) ?_
  show Go p e below _ (T7.setTop (mkF m 83 #[.val (.int p0), .val (.int p1), .val (.int v1), .val (.int v2), .val (.long v4), .second] [(.long v4)]))
  refine Go.st (fun _ k => XS.iconst X7.here hx rfl (hb hby at_83) k) ?_
  show Go p e below _ (T7.setTop (mkF m 84 #[.val (.int p0), .val (.int p1), .val (.int v1), .val (.int v2), .val (.long v4), .second] [(.int (3 : Int32)), (.long v4)]))
  obtain ⟨_, _, ⟨T8, L8, k8, n8⟩, -, X8, ⟨Lc8, hQ8, l8, y8, z8⟩, st8⟩ := Jvm.LawKit.callS X7 hx (y := (⟨"com/example/drollover/drollover/cli/CsvWriterYearMonthPinLaw", "byteAt", "(JI)I"⟩ : MethodName)) hown (mvT hZ (hw _ (List.mem_of_getElem? (i := 6) rfl))) (mvT hZ (hw _ (List.mem_of_getElem? (i := 7) rfl))) (mvT hZ (hw _ (List.mem_of_getElem? (i := 8) rfl))) (mvT hZ (hw _ (List.mem_of_getElem? (i := 9) rfl))) (by decide) (backOf (W := 0) (rm2 l Z aZ hw [] v4 (3 : Int32) h0 n0 ) hZ (hw _ (List.mem_of_getElem? (i := 9) rfl)) (hw _ (List.mem_of_getElem? (i := 8) rfl)) (by decide) (by decide)) (g := (mkF m 84 #[.val (.int p0), .val (.int p1), .val (.int v1), .val (.int v2), .val (.long v4), .second] [(.int (3 : Int32)), (.long v4)])) rfl (by rw [hml]; rfl) (argsL := [(.long v4), (.int (3 : Int32))]) (rest := []) (lenOf pdc8221e4b rfl) rfl (by show 2 * 0 + _ ≤ _; exact Nat.le_of_eq rfl) (hb hby at_84) (fun _ _ => ⟨rfl, e7, (by decide : 0 + 0 ≤ _), (by decide : 0 + 0 ≤ _)⟩)
  dsimp only [Pt.U, Pt.locs, Pt.cells, Pt.slots] at X8 l8 y8 z8 st8 hQ8
  subst l8 y8 z8
  obtain ⟨rfl, N8q, e8⟩ := hQ8
  have N8 := Fr.app N7 N8q
  refine Go.st (fun _ k => st8 _ k) ?_
  show Go p e below _ (T8.setTop (mkF m 87 #[.val (.int p0), .val (.int p1), .val (.int v1), .val (.int v2), .val (.long v4), .second] [(.int (fByte v4 (3 : Int32)))]))
  refine Go.st (fun _ k => XS.bipush X8.here hx rfl (hb hby at_87) k) ?_
  show Go p e below _ (T8.setTop (mkF m 89 #[.val (.int p0), .val (.int p1), .val (.int v1), .val (.int v2), .val (.long v4), .second] [(.int (48 : Int32)), (.int (fByte v4 (3 : Int32)))]))
  refine Go.st (fun _ k => XS.iloadN X8.here hx rfl (hb hby at_89) rfl k) ?_
  show Go p e below _ (T8.setTop (mkF m 90 #[.val (.int p0), .val (.int p1), .val (.int v1), .val (.int v2), .val (.long v4), .second] [(.int v1), (.int (48 : Int32)), (.int (fByte v4 (3 : Int32)))]))
  refine Go.st (fun _ k => XS.bipush X8.here hx rfl (hb hby at_90) k) ?_
  show Go p e below _ (T8.setTop (mkF m 92 #[.val (.int p0), .val (.int p1), .val (.int v1), .val (.int v2), .val (.long v4), .second] [(.int (10 : Int32)), (.int v1), (.int (48 : Int32)), (.int (fByte v4 (3 : Int32)))]))
  refine Go.st (fun _ k => XS.irem X8.here hx rfl (hb hby at_92) rfl (by decide) k) ?_
  show Go p e below _ (T8.setTop (mkF m 93 #[.val (.int p0), .val (.int p1), .val (.int v1), .val (.int v2), .val (.long v4), .second] [(.int (jrem v1 (10 : Int32))), (.int (48 : Int32)), (.int (fByte v4 (3 : Int32)))]))
  refine Go.st (fun _ k => XS.iadd X8.here hx rfl (hb hby at_93) rfl k) ?_
  show Go p e below _ (T8.setTop (mkF m 94 #[.val (.int p0), .val (.int p1), .val (.int v1), .val (.int v2), .val (.long v4), .second] [(.int ((48 : Int32) + (jrem v1 (10 : Int32)))), (.int (fByte v4 (3 : Int32)))]))
  refine Go.st (fun _ k => XS.icmpNo X8.here hx rfl (hb hby at_94) rfl (teq (own_b3 (own_year hv1) (own_month hv2) hv4)).2 k) ?_
  show Go p e below _ (T8.setTop (mkF m 97 #[.val (.int p0), .val (.int p1), .val (.int v1), .val (.int v2), .val (.long v4), .second] []))
  refine Go.st (fun _ k => XS.lload X8.here hx rfl (hb hby at_97) rfl k) ?_
  show Go p e below _ (T8.setTop (mkF m 99 #[.val (.int p0), .val (.int p1), .val (.int v1), .val (.int v2), .val (.long v4), .second] [(.long v4)]))
  refine Go.st (fun _ k => XS.iconst X8.here hx rfl (hb hby at_99) k) ?_
  show Go p e below _ (T8.setTop (mkF m 100 #[.val (.int p0), .val (.int p1), .val (.int v1), .val (.int v2), .val (.long v4), .second] [(.int (4 : Int32)), (.long v4)]))
  obtain ⟨_, _, ⟨T9, L9, k9, n9⟩, -, X9, ⟨Lc9, hQ9, l9, y9, z9⟩, st9⟩ := Jvm.LawKit.callS X8 hx (y := (⟨"com/example/drollover/drollover/cli/CsvWriterYearMonthPinLaw", "byteAt", "(JI)I"⟩ : MethodName)) hown (mvT hZ (hw _ (List.mem_of_getElem? (i := 6) rfl))) (mvT hZ (hw _ (List.mem_of_getElem? (i := 7) rfl))) (mvT hZ (hw _ (List.mem_of_getElem? (i := 8) rfl))) (mvT hZ (hw _ (List.mem_of_getElem? (i := 9) rfl))) (by decide) (backOf (W := 0) (rm2 l Z aZ hw [] v4 (4 : Int32) h0 n0 ) hZ (hw _ (List.mem_of_getElem? (i := 9) rfl)) (hw _ (List.mem_of_getElem? (i := 8) rfl)) (by decide) (by decide)) (g := (mkF m 100 #[.val (.int p0), .val (.int p1), .val (.int v1), .val (.int v2), .val (.long v4), .second] [(.int (4 : Int32)), (.long v4)])) rfl (by rw [hml]; rfl) (argsL := [(.long v4), (.int (4 : Int32))]) (rest := []) (lenOf pdc8221e4b rfl) rfl (by show 2 * 0 + _ ≤ _; exact Nat.le_of_eq rfl) (hb hby at_100) (fun _ _ => ⟨rfl, e8, (by decide : 0 + 0 ≤ _), (by decide : 0 + 0 ≤ _)⟩)
  dsimp only [Pt.U, Pt.locs, Pt.cells, Pt.slots] at X9 l9 y9 z9 st9 hQ9
  subst l9 y9 z9
  obtain ⟨rfl, N9q, e9⟩ := hQ9
  have N9 := Fr.app N8 N9q
  refine Go.st (fun _ k => st9 _ k) ?_
  show Go p e below _ (T9.setTop (mkF m 103 #[.val (.int p0), .val (.int p1), .val (.int v1), .val (.int v2), .val (.long v4), .second] [(.int (fByte v4 (4 : Int32)))]))
  refine Go.st (fun _ k => XS.bipush X9.here hx rfl (hb hby at_103) k) ?_
  show Go p e below _ (T9.setTop (mkF m 105 #[.val (.int p0), .val (.int p1), .val (.int v1), .val (.int v2), .val (.long v4), .second] [(.int (45 : Int32)), (.int (fByte v4 (4 : Int32)))]))
  refine Go.st (fun _ k => XS.icmpNo X9.here hx rfl (hb hby at_105) rfl (teq (own_b4 (own_year hv1) (own_month hv2) hv4)).2 k) ?_
  show Go p e below _ (T9.setTop (mkF m 108 #[.val (.int p0), .val (.int p1), .val (.int v1), .val (.int v2), .val (.long v4), .second] []))
  refine Go.st (fun _ k => XS.lload X9.here hx rfl (hb hby at_108) rfl k) ?_
  show Go p e below _ (T9.setTop (mkF m 110 #[.val (.int p0), .val (.int p1), .val (.int v1), .val (.int v2), .val (.long v4), .second] [(.long v4)]))
  refine Go.st (fun _ k => XS.iconst X9.here hx rfl (hb hby at_110) k) ?_
  show Go p e below _ (T9.setTop (mkF m 111 #[.val (.int p0), .val (.int p1), .val (.int v1), .val (.int v2), .val (.long v4), .second] [(.int (5 : Int32)), (.long v4)]))
  obtain ⟨_, _, ⟨T10, L10, k10, n10⟩, -, X10, ⟨Lc10, hQ10, l10, y10, z10⟩, st10⟩ := Jvm.LawKit.callS X9 hx (y := (⟨"com/example/drollover/drollover/cli/CsvWriterYearMonthPinLaw", "byteAt", "(JI)I"⟩ : MethodName)) hown (mvT hZ (hw _ (List.mem_of_getElem? (i := 6) rfl))) (mvT hZ (hw _ (List.mem_of_getElem? (i := 7) rfl))) (mvT hZ (hw _ (List.mem_of_getElem? (i := 8) rfl))) (mvT hZ (hw _ (List.mem_of_getElem? (i := 9) rfl))) (by decide) (backOf (W := 0) (rm2 l Z aZ hw [] v4 (5 : Int32) h0 n0 ) hZ (hw _ (List.mem_of_getElem? (i := 9) rfl)) (hw _ (List.mem_of_getElem? (i := 8) rfl)) (by decide) (by decide)) (g := (mkF m 111 #[.val (.int p0), .val (.int p1), .val (.int v1), .val (.int v2), .val (.long v4), .second] [(.int (5 : Int32)), (.long v4)])) rfl (by rw [hml]; rfl) (argsL := [(.long v4), (.int (5 : Int32))]) (rest := []) (lenOf pdc8221e4b rfl) rfl (by show 2 * 0 + _ ≤ _; exact Nat.le_of_eq rfl) (hb hby at_111) (fun _ _ => ⟨rfl, e9, (by decide : 0 + 0 ≤ _), (by decide : 0 + 0 ≤ _)⟩)
  dsimp only [Pt.U, Pt.locs, Pt.cells, Pt.slots] at X10 l10 y10 z10 st10 hQ10
  subst l10 y10 z10
  obtain ⟨rfl, N10q, e10⟩ := hQ10
  have N10 := Fr.app N9 N10q
  refine Go.st (fun _ k => st10 _ k) ?_
  show Go p e below _ (T10.setTop (mkF m 114 #[.val (.int p0), .val (.int p1), .val (.int v1), .val (.int v2), .val (.long v4), .second] [(.int (fByte v4 (5 : Int32)))]))
  refine Go.st (fun _ k => XS.bipush X10.here hx rfl (hb hby at_114) k) ?_
  show Go p e below _ (T10.setTop (mkF m 116 #[.val (.int p0), .val (.int p1), .val (.int v1), .val (.int v2), .val (.long v4), .second] [(.int (48 : Int32)), (.int (fByte v4 (5 : Int32)))]))
  refine Go.st (fun _ k => XS.iloadN X10.here hx rfl (hb hby at_116) rfl k) ?_
  show Go p e below _ (T10.setTop (mkF m 117 #[.val (.int p0), .val (.int p1), .val (.int v1), .val (.int v2), .val (.long v4), .second] [(.int v2), (.int (48 : Int32)), (.int (fByte v4 (5 : Int32)))]))
  refine Go.st (fun _ k => XS.bipush X10.here hx rfl (hb hby at_117) k) ?_
  show Go p e below _ (T10.setTop (mkF m 119 #[.val (.int p0), .val (.int p1), .val (.int v1), .val (.int v2), .val (.long v4), .second] [(.int (10 : Int32)), (.int v2), (.int (48 : Int32)), (.int (fByte v4 (5 : Int32)))]))
  refine Go.st (fun _ k => XS.idiv X10.here hx rfl (hb hby at_119) rfl (by decide) k) ?_
  show Go p e below _ (T10.setTop (mkF m 120 #[.val (.int p0), .val (.int p1), .val (.int v1), .val (.int v2), .val (.long v4), .second] [(.int (v2 / (10 : Int32))), (.int (48 : Int32)), (.int (fByte v4 (5 : Int32)))]))
  refine Go.st (fun _ k => XS.iadd X10.here hx rfl (hb hby at_120) rfl k) ?_
  show Go p e below _ (T10.setTop (mkF m 121 #[.val (.int p0), .val (.int p1), .val (.int v1), .val (.int v2), .val (.long v4), .second] [(.int ((48 : Int32) + (v2 / (10 : Int32)))), (.int (fByte v4 (5 : Int32)))]))
  refine Go.st (fun _ k => XS.icmpNo X10.here hx rfl (hb hby at_121) rfl (teq (own_b5 (own_year hv1) (own_month hv2) hv4)).2 k) ?_
  show Go p e below _ (T10.setTop (mkF m 124 #[.val (.int p0), .val (.int p1), .val (.int v1), .val (.int v2), .val (.long v4), .second] []))
  refine Go.st (fun _ k => XS.lload X10.here hx rfl (hb hby at_124) rfl k) ?_
  show Go p e below _ (T10.setTop (mkF m 126 #[.val (.int p0), .val (.int p1), .val (.int v1), .val (.int v2), .val (.long v4), .second] [(.long v4)]))
  refine Go.st (fun _ k => XS.bipush X10.here hx rfl (hb hby at_126) k) ?_
  show Go p e below _ (T10.setTop (mkF m 128 #[.val (.int p0), .val (.int p1), .val (.int v1), .val (.int v2), .val (.long v4), .second] [(.int (6 : Int32)), (.long v4)]))
  obtain ⟨_, _, ⟨T11, L11, k11, n11⟩, -, X11, ⟨Lc11, hQ11, l11, y11, z11⟩, st11⟩ := Jvm.LawKit.callS X10 hx (y := (⟨"com/example/drollover/drollover/cli/CsvWriterYearMonthPinLaw", "byteAt", "(JI)I"⟩ : MethodName)) hown (mvT hZ (hw _ (List.mem_of_getElem? (i := 6) rfl))) (mvT hZ (hw _ (List.mem_of_getElem? (i := 7) rfl))) (mvT hZ (hw _ (List.mem_of_getElem? (i := 8) rfl))) (mvT hZ (hw _ (List.mem_of_getElem? (i := 9) rfl))) (by decide) (backOf (W := 0) (rm2 l Z aZ hw [] v4 (6 : Int32) h0 n0 ) hZ (hw _ (List.mem_of_getElem? (i := 9) rfl)) (hw _ (List.mem_of_getElem? (i := 8) rfl)) (by decide) (by decide)) (g := (mkF m 128 #[.val (.int p0), .val (.int p1), .val (.int v1), .val (.int v2), .val (.long v4), .second] [(.int (6 : Int32)), (.long v4)])) rfl (by rw [hml]; rfl) (argsL := [(.long v4), (.int (6 : Int32))]) (rest := []) (lenOf pdc8221e4b rfl) rfl (by show 2 * 0 + _ ≤ _; exact Nat.le_of_eq rfl) (hb hby at_128) (fun _ _ => ⟨rfl, e10, (by decide : 0 + 0 ≤ _), (by decide : 0 + 0 ≤ _)⟩)
  dsimp only [Pt.U, Pt.locs, Pt.cells, Pt.slots] at X11 l11 y11 z11 st11 hQ11
  subst l11 y11 z11
  obtain ⟨rfl, N11q, e11⟩ := hQ11
  have N11 := Fr.app N10 N11q
  refine Go.st (fun _ k => st11 _ k) ?_
  show Go p e below _ (T11.setTop (mkF m 131 #[.val (.int p0), .val (.int p1), .val (.int v1), .val (.int v2), .val (.long v4), .second] [(.int (fByte v4 (6 : Int32)))]))
  refine Go.st (fun _ k => XS.bipush X11.here hx rfl (hb hby at_131) k) ?_
  show Go p e below _ (T11.setTop (mkF m 133 #[.val (.int p0), .val (.int p1), .val (.int v1), .val (.int v2), .val (.long v4), .second] [(.int (48 : Int32)), (.int (fByte v4 (6 : Int32)))]))
  refine Go.st (fun _ k => XS.iloadN X11.here hx rfl (hb hby at_133) rfl k) ?_
  show Go p e below _ (T11.setTop (mkF m 134 #[.val (.int p0), .val (.int p1), .val (.int v1), .val (.int v2), .val (.long v4), .second] [(.int v2), (.int (48 : Int32)), (.int (fByte v4 (6 : Int32)))]))
  refine Go.st (fun _ k => XS.bipush X11.here hx rfl (hb hby at_134) k) ?_
  show Go p e below _ (T11.setTop (mkF m 136 #[.val (.int p0), .val (.int p1), .val (.int v1), .val (.int v2), .val (.long v4), .second] [(.int (10 : Int32)), (.int v2), (.int (48 : Int32)), (.int (fByte v4 (6 : Int32)))]))
  refine Go.st (fun _ k => XS.irem X11.here hx rfl (hb hby at_136) rfl (by decide) k) ?_
  show Go p e below _ (T11.setTop (mkF m 137 #[.val (.int p0), .val (.int p1), .val (.int v1), .val (.int v2), .val (.long v4), .second] [(.int (jrem v2 (10 : Int32))), (.int (48 : Int32)), (.int (fByte v4 (6 : Int32)))]))
  refine Go.st (fun _ k => XS.iadd X11.here hx rfl (hb hby at_137) rfl k) ?_
  show Go p e below _ (T11.setTop (mkF m 138 #[.val (.int p0), .val (.int p1), .val (.int v1), .val (.int v2), .val (.long v4), .second] [(.int ((48 : Int32) + (jrem v2 (10 : Int32)))), (.int (fByte v4 (6 : Int32)))]))
  refine Go.st (fun _ k => XS.icmpNo X11.here hx rfl (hb hby at_138) rfl (teq (own_b6 (own_year hv1) (own_month hv2) hv4)).2 k) ?_
  show Go p e below _ (T11.setTop (mkF m 141 #[.val (.int p0), .val (.int p1), .val (.int v1), .val (.int v2), .val (.long v4), .second] []))
  refine Go.st (fun _ k => XS.lload X11.here hx rfl (hb hby at_141) rfl k) ?_
  show Go p e below _ (T11.setTop (mkF m 143 #[.val (.int p0), .val (.int p1), .val (.int v1), .val (.int v2), .val (.long v4), .second] [(.long v4)]))
  refine Go.st (fun _ k => XS.bipush X11.here hx rfl (hb hby at_143) k) ?_
  show Go p e below _ (T11.setTop (mkF m 145 #[.val (.int p0), .val (.int p1), .val (.int v1), .val (.int v2), .val (.long v4), .second] [(.int (7 : Int32)), (.long v4)]))
  obtain ⟨_, _, ⟨T12, L12, k12, n12⟩, -, X12, ⟨Lc12, hQ12, l12, y12, z12⟩, st12⟩ := Jvm.LawKit.callS X11 hx (y := (⟨"com/example/drollover/drollover/cli/CsvWriterYearMonthPinLaw", "byteAt", "(JI)I"⟩ : MethodName)) hown (mvT hZ (hw _ (List.mem_of_getElem? (i := 6) rfl))) (mvT hZ (hw _ (List.mem_of_getElem? (i := 7) rfl))) (mvT hZ (hw _ (List.mem_of_getElem? (i := 8) rfl))) (mvT hZ (hw _ (List.mem_of_getElem? (i := 9) rfl))) (by decide) (backOf (W := 0) (rm2 l Z aZ hw [] v4 (7 : Int32) h0 n0 ) hZ (hw _ (List.mem_of_getElem? (i := 9) rfl)) (hw _ (List.mem_of_getElem? (i := 8) rfl)) (by decide) (by decide)) (g := (mkF m 145 #[.val (.int p0), .val (.int p1), .val (.int v1), .val (.int v2), .val (.long v4), .second] [(.int (7 : Int32)), (.long v4)])) rfl (by rw [hml]; rfl) (argsL := [(.long v4), (.int (7 : Int32))]) (rest := []) (lenOf pdc8221e4b rfl) rfl (by show 2 * 0 + _ ≤ _; exact Nat.le_of_eq rfl) (hb hby at_145) (fun _ _ => ⟨rfl, e11, (by decide : 0 + 0 ≤ _), (by decide : 0 + 0 ≤ _)⟩)
  dsimp only [Pt.U, Pt.locs, Pt.cells, Pt.slots] at X12 l12 y12 z12 st12 hQ12
  subst l12 y12 z12
  obtain ⟨rfl, N12q, e12⟩ := hQ12
  have N12 := Fr.app N11 N12q
  refine Go.st (fun _ k => st12 _ k) ?_
  show Go p e below _ (T12.setTop (mkF m 148 #[.val (.int p0), .val (.int p1), .val (.int v1), .val (.int v2), .val (.long v4), .second] [(.int (fByte v4 (7 : Int32)))]))
  refine Go.st (fun _ k => XS.bipush X12.here hx rfl (hb hby at_148) k) ?_
  show Go p e below _ (T12.setTop (mkF m 150 #[.val (.int p0), .val (.int p1), .val (.int v1), .val (.int v2), .val (.long v4), .second] [(.int (45 : Int32)), (.int (fByte v4 (7 : Int32)))]))
  refine Go.st (fun _ k => XS.icmpNo X12.here hx rfl (hb hby at_150) rfl (teq (own_b7 (own_year hv1) (own_month hv2) hv4)).2 k) ?_
  show Go p e below _ (T12.setTop (mkF m 153 #[.val (.int p0), .val (.int p1), .val (.int v1), .val (.int v2), .val (.long v4), .second] []))
  refine Go.st (fun _ k => XS.iconst X12.here hx rfl (hb hby at_153) k) ?_
  show Go p e below _ (T12.setTop (mkF m 154 #[.val (.int p0), .val (.int p1), .val (.int v1), .val (.int v2), .val (.long v4), .second] [(.int (1 : Int32))]))
  refine Go.st (fun _ k => XS.goto X12.here hx rfl (pc0 := 154) (pc' := 158) rfl (hb hby at_154) (by decide) (by decide) k) ?_
  show Go p e below _ (T12.setTop (mkF m 158 #[.val (.int p0), .val (.int p1), .val (.int v1), .val (.int v2), .val (.long v4), .second] [(.int (1 : Int32))]))
  obtain ⟨fs, hr, hrun, hended, hW, hsame⟩ := X12.leave (v := some (.int (1 : Int32))) (fun h => by rw [Bd.returns] at h; cases h)
  refine ⟨_, _, retN X12 hx (t := .boolean) Bd.returns (by simp) (hb hby at_158) hr, hrun, hended, _, _, rfl, ?_, ⟨_, rfl⟩, hW, hsame.mono (by decide) (by decide)⟩
  show Q_rm0 Z p0 p1 h0 n0 _ T12.heap _
  rw [e12]
  exact ⟨rfl, N12⟩
set_option maxRecDepth 65536 in
set_option maxHeartbeats 40000000 in
theorem comes_1 {Post : Tables → Env → Array Value → State → Outcome → State → Prop} (hpost : ∀ tb e args s v u, (limb_1_1.after args s (.returned v) u = true ∧ limb_1_2.after args s (.returned v) u = true ∧ True) → FrameEnd s (.returned v) u (Jvm.fieldLocs frame_1_writes args s ++ Jvm.arrayLocs frame_1_arrays args s ++ Jvm.staticLocs frame_1_statics s) 0 0 → Post tb e args s (.returned v) u) :
    ArmFor flags0 classFile x code maxLocals ret World_1 tables_1 room_1 Calls_1 rest_1 Pre_1 Post := by
  intro l hfl _ _ p e ha hc hk s m args below hf hA hF happ hP
  obtain ⟨hcalls, hrest, hpre⟩ := hP
  obtain ⟨-, -, -, hnamed, -, -, -, hat⟩ := (Spec.applies_iff hf).mp happ
  obtain ⟨hg, hn⟩ := and_e (Cond.before_iff.mp (show (Jvm.Cond.and given_1 narrow_1).before args s = true from hpre))
  obtain ⟨g0, gr0⟩ := and_e hg
  obtain ⟨gi0, gr1⟩ := and_e gr0
  have gi1 := gr1
  obtain ⟨w0, w1, rfl⟩ : ∃ w0 w1 : Value, args = #[w0, w1] := by
    have hs : args.size = 2 := by simpa [Cond.value, given_1] using g0
    obtain ⟨L⟩ := args
    match L, hs with
    | [w0, w1], _ => exact ⟨w0, w1, rfl⟩
  have hw := fun d (hd : d ∈ tables_1) => atoms_spec (ws := Jvm.Cond.code x code maxLocals ret :: tables_1) hat d (List.mem_cons_of_mem _ hd)
  obtain ⟨i0, ei0⟩ := is_v gi0
  obtain rfl : w0 = (.int i0) := Option.some.inj ei0
  obtain ⟨i1, ei1⟩ := is_v gi1
  obtain rfl : w1 = (.int i1) := Option.some.inj ei1
  obtain ⟨n, o, h1, h2, h3, _, L, rfl, ⟨rfl, N⟩, hq⟩ := rm0 l s _ hw tables_1 i0 i1  s.heap s.heap.size p e ha hc hk s m _ below hf ((Spec.applies_iff_loose hf).mp happ).1 ⟨rfl, State.Warmed39.refl s, rfl⟩ trivial
  refine ⟨n, _, h1, h2, h3, hpost _ _ _ _ _ _ ⟨Cond.after_iff.mpr rfl, Cond.after_iff.mpr (eq_i res_at (Term.int_eval (1)) rfl), trivial⟩ ⟨hq.1, hq.2.1, (hq.2.2.sift fun y hy => Or.inr (N y hy)).mono (by decide) (by decide)⟩⟩
theorem main_1_1 : Claimed_1_1 := comes_1 fun _ _ _ _ _ _ h hF => ⟨h.1, hF⟩
theorem main_1_2 : Claimed_1_2 := comes_1 fun _ _ _ _ _ _ h hF => ⟨h.2.1, hF⟩
end Jvm.Pilot.@@N@@
namespace Jvm.Pilot.@@N@@
open Jvm Jvm.ClassFile Sem Op Lib Jvm.Free Jvm.Stand Jvm.Pilot.@@N@@.Jvm.D
/-! MADE BY PROGRAM (witnessworld.py) out of the Statement's table words and the real class files: 9 classes; the members and pool entries that the words name. The judged class is class 1, her method 1. -/
namespace start1
open Jvm.ClassFile
def u (s : String) : CpInfo := .utf8 (stringToUtf16 s)
/-- a pool by its gaps: so many unusable entries, then the entry; so many at the end -/
def gap : Nat → List CpInfo → List CpInfo
  | 0, r => r
  | n + 1, r => .unusable :: gap n r
def poolList (es : List (Nat × CpInfo)) (last : Nat) : List CpInfo := es.foldr (fun e r => gap e.1 (e.2 :: r)) (gap last [])
def pool (es : List (Nat × CpInfo)) (last : Nat) : Array CpInfo := ⟨poolList es last⟩
def fileOf (pool : Array CpInfo) (this : Nat) (attrs : Array Attribute := #[]) (ms : Array MethodInfo := #[]) (fl : Nat := 33) (sup : Nat := 0) (ifs : Array Nat := #[]) (fds : Array FieldInfo := #[]) : ClassFile where
  minorVersion := 0
  majorVersion := 65
  constantPool := pool
  accessFlags := fl
  thisClass := this
  superClass := sup
  interfaces := ifs
  fields := fds
  methods := ms
  attributes := attrs
def plain (name : String) (sup : Option ClassId) : Class where
  name := name
  kind := .ordinary
  loader := none
  accessFlags := 33
  super := sup
  interfaces := #[]
  cf := none
  fields := #[]
  methods := #[]
  instanceTypes := #[]
  staticTypes := #[]
  resolved := #[]
  callSites := []
  init := .initialized
  statics := none
  mirror := none

def pool0 : Array CpInfo := pool [(5, u "<init>"), (0, u "()V"), (1, .class_ 10), (1, u "java/lang/Object")] 113

def k0m0 : Method := { name := "<init>", desc := "()V", sig := { parameters := [], returnType := none }, accessFlags := 1, code := none }
/-- java/lang/Object -/
def k0 : Class := { plain "java/lang/Object" none with
  accessFlags := 33
  interfaces := #[]
  cf := some (fileOf pool0 8 #[] #[{ accessFlags := 1, nameIndex := 5, descriptorIndex := 6, attributes := #[] }] 33 0 #[] #[])
  fields := #[]
  methods := #[k0m0]
  instanceTypes := #[]
  staticTypes := #[]
  resolved := Array.replicate 124 none
  statics := none }

def pool1 : Array CpInfo := pool [(2, .class_ 4), (1, u "java/lang/Object"), (0, u "<init>"), (0, u "()V"), (0, .integer 2147483647), (0, .methodref 9 10), (0, .class_ 11), (0, .nameAndType 12 13), (0, u "com/example/drollover/drollover/cli/CsvWriter"), (0, u "yearMonth"), (0, u "(II)J"), (0, .methodref 15 16), (0, .class_ 17), (0, .nameAndType 18 19), (0, u "com/example/drollover/drollover/cli/CsvWriterYearMonthPinLaw"), (0, u "byteAt"), (0, u "(JI)I"), (0, .long 255), (3, u "law"), (0, u "(II)Z")] 3

def k1m0 : Method := { name := "<init>", desc := "()V", sig := { parameters := [], returnType := none }, accessFlags := 1, code := none }
def k1c1 : Code := { maxStack := 4, maxLocals := 6, code := code, exceptionTable := #[], attributes := #[] }
def k1m1 : Method := { name := "law", desc := "(II)Z", sig := { parameters := [.int, .int], returnType := some .boolean }, accessFlags := 9, code := some k1c1 }
def k1c2 : Code := { maxStack := 4, maxLocals := 3, code := method_3_code, exceptionTable := #[], attributes := #[] }
def k1m2 : Method := { name := "byteAt", desc := "(JI)I", sig := { parameters := [.long, .int], returnType := some .int }, accessFlags := 10, code := some k1c2 }
/-- com/example/drollover/drollover/cli/CsvWriterYearMonthPinLaw -/
def k1 : Class := { plain "com/example/drollover/drollover/cli/CsvWriterYearMonthPinLaw" (some 0) with
  accessFlags := 49
  interfaces := #[]
  cf := some (fileOf pool1 15 #[] #[{ accessFlags := 1, nameIndex := 5, descriptorIndex := 6, attributes := #[] }, { accessFlags := 9, nameIndex := 24, descriptorIndex := 25, attributes := #[] }, { accessFlags := 10, nameIndex := 18, descriptorIndex := 19, attributes := #[] }] 49 2 #[] #[])
  fields := #[]
  methods := #[k1m0, k1m1, k1m2]
  instanceTypes := #[]
  staticTypes := #[]
  resolved := Array.replicate 29 none
  statics := none }

def pool2 : Array CpInfo := pool [(1, .class_ 2), (0, u "com/example/drollover/drollover/cli/CsvWriter"), (1, .class_ 6), (1, u "java/lang/Object"), (14, u "sink"), (0, u "Lcom/example/drollover/drollover/cli/CsvWriter$Sink;"), (2, u "out"), (0, u "Ljava/io/PrintStream;"), (3, u "buffer"), (0, u "[B"), (4, u "length"), (7, u "I"), (50, .long 45), (54, u "POWERS_OF_TEN"), (0, u "[J"), (23, .class_ 177), (1, u "com/example/drollover/drollover/cli/CsvWriter$Sink"), (22, u "SIZE"), (1, u "SHORT"), (1, u "LONG_LENGTH"), (1, u "LONG_DIGITS"), (14, u "yearMonth"), (0, u "(II)J")] 27

def k2c0 : Code := { maxStack := 5, maxLocals := 6, code := prog_57_method_12_code, exceptionTable := #[], attributes := #[] }
def k2m0 : Method := { name := "yearMonth", desc := "(II)J", sig := { parameters := [.int, .int], returnType := some .long }, accessFlags := 8, code := some k2c0 }
/-- com/example/drollover/drollover/cli/CsvWriter -/
def k2 : Class := { plain "com/example/drollover/drollover/cli/CsvWriter" (some 0) with
  accessFlags := 48
  interfaces := #[]
  cf := some (fileOf pool2 1 #[.nestMembers #[175]] #[{ accessFlags := 8, nameIndex := 221, descriptorIndex := 222, attributes := #[] }] 48 4 #[] #[{ accessFlags := 26, nameIndex := 200, descriptorIndex := 44, attributes := #[] }, { accessFlags := 26, nameIndex := 202, descriptorIndex := 44, attributes := #[] }, { accessFlags := 26, nameIndex := 204, descriptorIndex := 44, attributes := #[] }, { accessFlags := 26, nameIndex := 206, descriptorIndex := 44, attributes := #[] }, { accessFlags := 26, nameIndex := 150, descriptorIndex := 151, attributes := #[] }, { accessFlags := 18, nameIndex := 21, descriptorIndex := 22, attributes := #[] }, { accessFlags := 18, nameIndex := 25, descriptorIndex := 26, attributes := #[] }, { accessFlags := 18, nameIndex := 30, descriptorIndex := 31, attributes := #[] }, { accessFlags := 2, nameIndex := 36, descriptorIndex := 44, attributes := #[] }])
  fields := #[{ name := "SIZE", type := .int, accessFlags := 26, slot := 0, constantValue := 0 }, { name := "SHORT", type := .int, accessFlags := 26, slot := 1, constantValue := 0 }, { name := "LONG_LENGTH", type := .int, accessFlags := 26, slot := 2, constantValue := 0 }, { name := "LONG_DIGITS", type := .int, accessFlags := 26, slot := 3, constantValue := 0 }, { name := "POWERS_OF_TEN", type := (.array .long), accessFlags := 26, slot := 4, constantValue := 0 }, { name := "sink", type := (.object "com/example/drollover/drollover/cli/CsvWriter$Sink"), accessFlags := 18, slot := 0, constantValue := 0 }, { name := "out", type := (.object "java/io/PrintStream"), accessFlags := 18, slot := 1, constantValue := 0 }, { name := "buffer", type := (.array .byte), accessFlags := 18, slot := 2, constantValue := 0 }, { name := "length", type := .int, accessFlags := 2, slot := 3, constantValue := 0 }]
  methods := #[k2m0]
  instanceTypes := #[(.object "com/example/drollover/drollover/cli/CsvWriter$Sink"), (.object "java/io/PrintStream"), (.array .byte), .int]
  staticTypes := #[.int, .int, .int, .int, (.array .long)]
  resolved := Array.replicate 250 none
  statics := none }

def pool3 : Array CpInfo := pool [(1, u "java/lang/Cloneable"), (0, .class_ 1), (0, u "java/lang/Object"), (0, .class_ 3)] 3

/-- java/lang/Cloneable -/
def k3 : Class := { plain "java/lang/Cloneable" (some 0) with
  accessFlags := 1537
  interfaces := #[]
  cf := some (fileOf pool3 2 #[] #[] 1537 4 #[] #[])
  fields := #[]
  methods := #[]
  instanceTypes := #[]
  staticTypes := #[]
  resolved := Array.replicate 8 none
  statics := none }

def pool4 : Array CpInfo := pool [(1, u "java/io/Serializable"), (0, .class_ 1), (0, u "java/lang/Object"), (0, .class_ 3)] 3

/-- java/io/Serializable -/
def k4 : Class := { plain "java/io/Serializable" (some 0) with
  accessFlags := 1537
  interfaces := #[]
  cf := some (fileOf pool4 2 #[] #[] 1537 4 #[] #[])
  fields := #[]
  methods := #[]
  instanceTypes := #[]
  staticTypes := #[]
  resolved := Array.replicate 8 none
  statics := none }

/-- the primitive byte -/
def k5 : Class := { plain "byte" none with kind := .primitive 'B', accessFlags := 0x411 }
/-- [B -/
def k6 : Class := { plain "[B" (some 0) with kind := .array 5 .byte, interfaces := #[3, 4], accessFlags := 1041 }

/-- the primitive int -/
def k7 : Class := { plain "int" none with kind := .primitive 'I', accessFlags := 0x411 }
/-- [I -/
def k8 : Class := { plain "[I" (some 0) with kind := .array 7 .int, interfaces := #[3, 4], accessFlags := 1041 }

def heap : Heap := #[]
def classes : Array Class := #[k0, k1, k2, k3, k4, k5, k6, k7, k8]
def interned : List (Array UInt16 × Addr) := []
def slotsUsed : Nat := 0
def theMethod : MethodId := ⟨1, 1⟩
def args0 : Array Value := #[.int 5, .int 6]
def aboutOver (below : List Frame) : State where
  vm := { classes := classes, interned := interned.toArray }
  heap := heap
  slotsUsed := slotsUsed
  threads := #[{ frames := .invoking theMethod args0 :: below }]
def below0 : List Frame := [.native { method := ⟨0, 0⟩, args := #[] }]
def about1 : State := aboutOver below0
def p0 : Program := .bare "" "" ""
def e0 : Env := launch0.env 0 0 0
theorem w_frames : about1.frames = Frame.invoking theMethod args0 :: below0 := rfl
set_option maxRecDepth 65536 in
theorem w_args : argsFit about1.vm theMethod args0 = true := by decide +kernel
set_option maxRecDepth 65536 in
theorem w_heap : heapFits about1 = true := by decide +kernel
set_option maxRecDepth 65536 in
theorem w_runnable : about1.curStatus? = some .runnable := by decide +kernel
set_option maxRecDepth 65536 in
theorem w_alone : about1.alone = true := by decide +kernel
set_option maxRecDepth 65536 in
theorem w_named : about1.methodNamed? x = some theMethod := by decide +kernel
set_option maxRecDepth 65536 in
theorem w_hears : about1.hears theMethod below0 = true := by decide +kernel
set_option maxRecDepth 65536 in
theorem w_ripe : about1.ripe theMethod args0 below0 = true := by decide +kernel
theorem w_running : about1.status = .running := rfl
set_option maxRecDepth 65536 in
theorem w_room : about1.hasRoom e0.platform room_1 = true :=
  launch0.hasRoom_least _ room_1 (by decide +kernel) (by decide +kernel) (by decide +kernel) (by decide +kernel) (by decide +kernel) (by decide +kernel)
theorem allAtoms_all (ts : List Jvm.Cond) (a : Array Jvm.Value) (st : Jvm.State) : (allAtoms ts).before a st = ts.all (fun c => c.before a st) := by
  induction ts with
  | nil => rfl
  | cons c t ih =>
    show (Jvm.Cond.and c (allAtoms t)).before a st = _
    rw [Jvm.Cond.before_and, ih, List.all_cons]
def words1 : List Jvm.Cond := Jvm.Cond.code x code maxLocals ret :: tables_1
/-- a 'code' word, met by the world's own term for the bytes: nothing is compared byte by byte -/
theorem code_word {y : MethodName} {bytes : ByteArray} {mx : Nat} {rt : Option FieldType} {a : Array Value} {s : State} {m : MethodId} {meth : Method} {c : Code} (h1 : s.methodNamed? y = some m) (h2 : s.vm.method? m = some meth) (h3 : meth.code = some c) (h4 : c.code = bytes)
    (h5 : (c.maxLocals == mx && c.exceptionTable.isEmpty && decide (c.maxStack ≤ mostOperands) && decide (meth.sig.returnType = rt) && !meth.locks && decide (parseMethodDescriptor y.desc = some meth.sig)) = true) : (Jvm.Cond.code y bytes mx rt).before a s = true := by
  simp only [Bool.and_eq_true, beq_iff_eq, Bool.not_eq_true', decide_eq_true_eq] at h5
  obtain ⟨⟨⟨⟨⟨g1, g2⟩, g3⟩, g4⟩, g5⟩, g6⟩ := h5
  simp [Cond.before, Cond.holds, Cond.value, h1, h2, h3, h4, g1, g2, g3, g4, g5, g6]
def isCode : Jvm.Cond → Bool
  | .code _ _ _ _ => true
  | _ => false
theorem all_split {L : List Jvm.Cond} {P : Jvm.Cond → Bool} (h1 : L.all (fun c => isCode c || P c) = true) (h2 : ∀ c ∈ L.filter isCode, P c = true) : L.all P = true := by
  refine List.all_eq_true.mpr fun c hc => ?_
  have h := List.all_eq_true.mp h1 c hc
  rcases Bool.eq_false_or_eq_true (isCode c) with hi | hi
  · exact h2 c (List.mem_filter.mpr ⟨hc, hi⟩)
  · simpa [hi] using h
set_option maxRecDepth 65536 in
theorem w_c0 : (Jvm.Cond.code x code maxLocals ret).before args0 about1 = true := code_word (m := ⟨1, 1⟩) (meth := k1m1) (c := k1c1) (by decide +kernel) rfl rfl rfl (by decide +kernel)
set_option maxRecDepth 65536 in
theorem w_c1 : (Jvm.Cond.code ({ cls := "com/example/drollover/drollover/cli/CsvWriter", name := "yearMonth", desc := "(II)J" } : Jvm.MethodName) prog_57_method_12_code (6 : Nat) (Option.some Jvm.ClassFile.FieldType.long)).before args0 about1 = true := code_word (m := ⟨2, 0⟩) (meth := k2m0) (c := k2c0) (by decide +kernel) rfl rfl rfl (by decide +kernel)
set_option maxRecDepth 65536 in
theorem w_c2 : (Jvm.Cond.code ({ cls := "com/example/drollover/drollover/cli/CsvWriterYearMonthPinLaw", name := "byteAt", desc := "(JI)I" } : Jvm.MethodName) method_3_code (3 : Nat) (Option.some Jvm.ClassFile.FieldType.int)).before args0 about1 = true := code_word (m := ⟨1, 2⟩) (meth := k1m2) (c := k1c2) (by decide +kernel) rfl rfl rfl (by decide +kernel)
def codes1 : List Jvm.Cond := [Jvm.Cond.code x code maxLocals ret, Jvm.Cond.code ({ cls := "com/example/drollover/drollover/cli/CsvWriter", name := "yearMonth", desc := "(II)J" } : Jvm.MethodName) prog_57_method_12_code (6 : Nat) (Option.some Jvm.ClassFile.FieldType.long), Jvm.Cond.code ({ cls := "com/example/drollover/drollover/cli/CsvWriterYearMonthPinLaw", name := "byteAt", desc := "(JI)I" } : Jvm.MethodName) method_3_code (3 : Nat) (Option.some Jvm.ClassFile.FieldType.int)]
set_option maxRecDepth 65536 in
theorem codes_eq : words1.filter isCode = codes1 := rfl
theorem w_codes : ∀ c ∈ words1.filter isCode, c.before args0 about1 = true := by
  rw [codes_eq]
  intro c hc
  simp only [codes1, List.mem_cons, List.not_mem_nil, or_false] at hc
  rcases hc with rfl | rfl | rfl
  · exact w_c0
  · exact w_c1
  · exact w_c2
set_option maxRecDepth 65536 in
theorem w_t1 : words1.all (fun c => isCode c || c.before args0 about1) = true := by decide +kernel
theorem w_tables : (allAtoms (Jvm.Cond.code x code maxLocals ret :: tables_1)).before args0 about1 = true := by
  rw [allAtoms_all]
  show words1.all (fun c => c.before args0 about1) = true
  refine all_split ?_ w_codes
  rw [w_t1]
set_option maxRecDepth 65536 in
theorem w_case : (Jvm.Cond.and given_1 narrow_1).before args0 about1 = true := by decide +kernel
theorem w_applies : (headSpec (Jvm.Cond.code x code maxLocals ret :: tables_1) room_1).applies x e0.platform about1 = true :=
  (Spec.applies_iff w_frames).mpr ⟨w_running, w_runnable, w_alone, w_named, w_hears, w_ripe, w_room, w_tables⟩
theorem atStart : AtStart classFile x code maxLocals ret World_1 tables_1 room_1 Calls_1 rest_1 Pre_1 launch0 p0 e0 about1 theMethod args0 below0 :=
  ⟨lists_1, trivial, launch0.admits_env _ _ _, launch0.least_env, fairChoices_fair.cas, fairChoices_fair.clock, w_frames, w_args, w_heap, w_applies, trivial, trivial, w_case⟩
end start1
theorem witness_1 : WitnessClaimed_1 := ⟨start1.p0, start1.e0, start1.about1, start1.theMethod, start1.args0, start1.below0, start1.atStart⟩
end Jvm.Pilot.@@N@@
