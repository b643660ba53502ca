import JvmDerived
import JvmDerived.Pilot.@@N@@Statement
import JvmDerived.Pilot.@@N@@Code
set_option linter.unusedVariables false
set_option linter.unusedSimpArgs false
@@BLOCK:NumsL.lean.txt@@
namespace Jvm.RoadKit
open Sem ClassFile Op Lib Jvm.Stand Jvm.Free Jvm.LawKit
section New
variable {p : Program} {l : Launch} {e : Env} {R : Room} {s : State} {m : MethodId} {args : Array Value} {below : List Frame} {meth : Method} {c : Code} {T : State} {locs : List Loc} {cells slots : Nat}
theorem retI (X : Stand p l e R s m args below meth c T locs cells slots) (hx : p.tables.exec = Jvm.exec) {pc : Nat} {Ls : Array Slot} {z : Int32} {rest : List Value} (hret : meth.sig.returnType = some .int) (hd : decode c.code pc = .ok (.ireturn, 1)) {fs : List Frame}
    (hl : ∀ (f : JFrame) (acts : List Action), f.method = m → f.locked = none → f.entered = [] → (doReturn e (T.setTop f) acts (some (.int z))).1 = T.setFrames fs) : Steps p.tables e below (T.setTop (mkF m pc Ls (.int z :: rest))) (T.setFrames fs) :=
  retOut X hx (w := .int z) (t := .int) (i := .ireturn) hret rfl (Or.inl ⟨rfl, Or.inl rfl, z, rfl⟩) hd hl
theorem retJ (X : Stand p l e R s m args below meth c T locs cells slots) (hx : p.tables.exec = Jvm.exec) {pc : Nat} {Ls : Array Slot} {z : Int64} {rest : List Value} (hret : meth.sig.returnType = some .long) (hd : decode c.code pc = .ok (.lreturn, 1)) {fs : List Frame}
    (hl : ∀ (f : JFrame) (acts : List Action), f.method = m → f.locked = none → f.entered = [] → (doReturn e (T.setTop f) acts (some (.long z))).1 = T.setFrames fs) : Steps p.tables e below (T.setTop (mkF m pc Ls (.long z :: rest))) (T.setFrames fs) :=
  retOut X hx (w := .long z) (t := .long) (i := .lreturn) hret rfl (Or.inr (Or.inl ⟨rfl, rfl, z, rfl⟩)) hd hl
theorem retA (X : Stand p l e R s m args below meth c T locs cells slots) (hx : p.tables.exec = Jvm.exec) {pc : Nat} {Ls : Array Slot} {w : Value} {t : FieldType} {rest : List Value} (hret : meth.sig.returnType = some t) (ht : t.isReference = true) (hw : w.isRef = true) (hn : narrow t w = w) (hd : decode c.code pc = .ok (.areturn, 1)) {fs : List Frame}
    (hl : ∀ (f : JFrame) (acts : List Action), f.method = m → f.locked = none → f.entered = [] → (doReturn e (T.setTop f) acts (some w)).1 = T.setFrames fs) : Steps p.tables e below (T.setTop (mkF m pc Ls (w :: rest))) (T.setFrames fs) :=
  retOut X hx (w := w) (t := t) (i := .areturn) hret hn (Or.inr (Or.inr (Or.inr (Or.inr ⟨rfl, ht, hw⟩)))) hd hl
end New
end Jvm.RoadKit
namespace Jvm.Pilot.@@N@@
open Jvm Jvm.ClassFile Sem Op Lib Jvm.Free Jvm.Stand Jvm.LawKit Jvm.RoadKit Bundle Jvm.Pilot.@@N@@.Jvm.D
/-- from S every run comes to T -/
abbrev Go (p : Program) (e : Env) (below : List Frame) (S T : State) : Prop := ∀ t, Steps p.tables e below T t → Steps p.tables e below S t
theorem ef_2 (m : MethodId) (a1 : Addr) : entryFrame m #[(.ref a1)] 1 = mkF m 0 #[.val (.ref a1)] [] := by first | (simp [entryFrame, mkF, argsToLocals, Value.category]; done) | rfl
theorem d2_0 : decode jdk_30_method_1_code 0 = .ok (.aload_n 0, 1) := by decide +kernel
theorem d2_1 : decode jdk_30_method_1_code 1 = .ok (.invokespecial 1, 3) := by decide +kernel
theorem d2_4 : decode jdk_30_method_1_code 4 = .ok (.return_, 1) := by decide +kernel
def Q2 (Z : State) (a1 : Addr) (h0 : Heap) (n0 : Nat) (v : Option Value) (h : Heap) (L : List Loc) : Prop := v = none ∧ Fr n0 L ∧ h = h0
set_option maxRecDepth 65536 in
set_option maxHeartbeats 40000000 in
theorem pn_java_lang_Record : plainName "java/lang/Record" = true := by first | (simp [plainName, overriddenIn]; done) | decide +kernel
theorem rm2 (l : Launch) (Z : State) (a0 : Array Value) (hw : ∀ d ∈ tables_1, d.before a0 Z = true) (ws : List Jvm.Cond) (a1 : Addr) (h0 : Heap) (n0 : Nat) (Z0 : n0 ≤ h0.size) :
    MetFree l (⟨"java/lang/Record", "<init>", "()V"⟩ : MethodName) (head1 (Jvm.Cond.code (⟨"java/lang/Record", "<init>", "()V"⟩ : MethodName) jdk_30_method_1_code 1 none :: ws) ({ frames := 1, cells := 0, slots := 0, locals := 12 } : Room)) (fun a U => a = #[(.ref a1)] ∧ Z.Warmed39 U.vm ∧ U.heap = h0) (fun _ _ _ _ _ => True) (fun _ U o U' => ∃ v L, o = .returned v ∧ Q2 Z a1 h0 n0 v U'.heap L ∧ FrameEnd U o U' L ({ frames := 1, cells := 0, slots := 0, locals := 12 } : Room).cells ({ frames := 1, cells := 0, slots := 0, locals := 12 } : Room).slots) := by
  refine MetFree.of_bodySF (plainFor_of_name pn_java_lang_Record) hisR ?_
  intro p e s m args below meth c s₁ Bd hml0 hP hK
  obtain ⟨rfl, hZ, hh⟩ := hP
  have hx := Bd.exec
  have hby := Bd.bytes
  have hml : c.maxLocals = 1 := hml0
  have hown : s.vm.findClass "java/lang/Record" = some m.cls := findClass_of_methodNamed Bd.named
  have hnm := (name_of_methodNamed Bd.named Bd.method).1
  have hlk : meth.locks = false := BodyLoose.notSynchronized Bd
  have X0 : Stand p l e ({ frames := 1, cells := 0, slots := 0, locals := 12 } : Room) s m #[(.ref a1)] below meth c s₁ [] 0 0 := Stand.of_body Bd
  have e0 : s₁.heap = h0 := by rw [← hh, Bd.state]; rfl
  have N0 := Fr.nil n0
  have pre0 : Go p e below (s₁.setTop (entryFrame m #[(.ref a1)] 1)) (s₁.setTop (mkF m 0 #[.val (.ref a1)] [])) := fun t k => castTop (ef_2 m a1) k
  have pre1 : Go p e below (s₁.setTop (entryFrame m #[(.ref a1)] 1)) (s₁.setTop (mkF m 1 #[.val (.ref a1)] [(.ref a1)])) := by
    intro t k
    refine pre0 t ?_
    show Steps p.tables e below (s₁.setTop (mkF m 0 #[.val (.ref a1)] [])) _
    refine XS.aloadN X0.here hx rfl (hb hby d2_0) rfl rfl ?_
    show Steps p.tables e below (s₁.setTop (mkF m 1 #[.val (.ref a1)] [(.ref a1)])) _
    exact k
  obtain ⟨T2, X2, e2, st2⟩ := initO X0 hx hZ hown (hw _ (List.mem_of_getElem? (i := 11) rfl)) (hw _ (List.mem_of_getElem? (i := 12) rfl)) (hw _ (List.mem_of_getElem? (i := 13) rfl)) e0 (g := (mkF m 1 #[.val (.ref a1)] [(.ref a1)])) rfl (by rw [hml]; rfl) rfl (hb hby d2_1) (by decide) (W := 0) (by show 2 * 0 + _ ≤ _; exact Nat.le_of_eq rfl) (by decide)
  have pre3 : Go p e below (s₁.setTop (entryFrame m #[(.ref a1)] 1)) (T2.setTop (mkF m 4 #[.val (.ref a1)] [])) := fun t k => pre1 t (st2 t k)
  obtain ⟨fs, hr, hrun, hended, hW, hsame⟩ := X2.leave (hlocks := hlk) (v := none) (fun _ => rfl)
  refine ⟨_, _, pre3 _ (X2.returnOut hx Bd.returns (hb hby d2_4) hr), hrun, hended, _, _, rfl, ?_, ⟨_, rfl⟩, hW, hsame.mono (by decide) (by decide)⟩
  show Q2 Z a1 h0 n0 _ T2.heap _
  rw [e2]
  exact ⟨rfl, N0, rfl⟩
theorem ef_1 (m : MethodId) (a1 : Addr) (q1 : Int64) (p1 : Int32) : entryFrame m #[(.ref a1), (.long q1), (.int p1)] 4 = mkF m 0 #[.val (.ref a1), .val (.long q1), .second, .val (.int p1)] [] := by first | (simp [entryFrame, mkF, argsToLocals, Value.category]; done) | rfl
theorem d1_0 : decode prog_42_method_1_code 0 = .ok (.aload_n 0, 1) := by decide +kernel
theorem d1_1 : decode prog_42_method_1_code 1 = .ok (.invokespecial 1, 3) := by decide +kernel
theorem pd_1 : parseMethodDescriptor "()V" = some ⟨[], none⟩ := by decide +kernel
theorem d1_4 : decode prog_42_method_1_code 4 = .ok (.aload_n 0, 1) := by decide +kernel
theorem d1_5 : decode prog_42_method_1_code 5 = .ok (.lload_n 1, 1) := by decide +kernel
theorem d1_6 : decode prog_42_method_1_code 6 = .ok (.putfield 7, 3) := by decide +kernel
theorem d1_9 : decode prog_42_method_1_code 9 = .ok (.aload_n 0, 1) := by decide +kernel
theorem d1_10 : decode prog_42_method_1_code 10 = .ok (.iload_n 3, 1) := by decide +kernel
theorem d1_11 : decode prog_42_method_1_code 11 = .ok (.putfield 13, 3) := by decide +kernel
theorem d1_14 : decode prog_42_method_1_code 14 = .ok (.return_, 1) := by decide +kernel
def Q1 (Z : State) (a1 : Addr) (q1 : Int64) (p1 : Int32) (h0 : Heap) (n0 : Nat) (v : Option Value) (h : Heap) (L : List Loc) : Prop := v = none ∧ Fr n0 L ∧ Keep h0 h [a1] ∧ Exa Z h a1 "com/example/agree_over_wire/agreeoverwire/service/RequestStamp" ∧ Fld Z h a1 "com/example/agree_over_wire/agreeoverwire/service/RequestStamp" "time" "J" (.long q1) ∧ Fld Z h a1 "com/example/agree_over_wire/agreeoverwire/service/RequestStamp" "member" "I" (.int p1)
set_option maxRecDepth 65536 in
set_option maxHeartbeats 40000000 in
theorem pn_com_example_agree_over_wire_agreeoverwire_service_RequestStamp : plainName "com/example/agree_over_wire/agreeoverwire/service/RequestStamp" = true := by first | (simp [plainName, overriddenIn]; done) | decide +kernel
theorem rm1 (l : Launch) (Z : State) (a0 : Array Value) (hw : ∀ d ∈ tables_1, d.before a0 Z = true) (ws : List Jvm.Cond) (a1 : Addr) (q1 : Int64) (p1 : Int32) (h0 : Heap) (n0 : Nat) (Z0 : n0 ≤ h0.size) (E1 : Exa Z h0 a1 "com/example/agree_over_wire/agreeoverwire/service/RequestStamp") (F1 : Fld Z h0 a1 "com/example/agree_over_wire/agreeoverwire/service/RequestStamp" "time" "J" (.long (0 : Int64))) (F2 : Fld Z h0 a1 "com/example/agree_over_wire/agreeoverwire/service/RequestStamp" "member" "I" (.int (0 : Int32))) (g_a1 : n0 ≤ a1) :
    MetFree l (⟨"com/example/agree_over_wire/agreeoverwire/service/RequestStamp", "<init>", "(JI)V"⟩ : MethodName) (head1 (Jvm.Cond.code (⟨"com/example/agree_over_wire/agreeoverwire/service/RequestStamp", "<init>", "(JI)V"⟩ : MethodName) prog_42_method_1_code 4 none :: ws) ({ frames := 2, cells := 0, slots := 0, locals := 24 } : Room)) (fun a U => a = #[(.ref a1), (.long q1), (.int p1)] ∧ Z.Warmed39 U.vm ∧ U.heap = h0) (fun _ _ _ _ _ => True) (fun _ U o U' => ∃ v L, o = .returned v ∧ Q1 Z a1 q1 p1 h0 n0 v U'.heap L ∧ FrameEnd U o U' L ({ frames := 2, cells := 0, slots := 0, locals := 24 } : Room).cells ({ frames := 2, cells := 0, slots := 0, locals := 24 } : Room).slots) := by
  refine MetFree.of_bodySF (plainFor_of_name pn_com_example_agree_over_wire_agreeoverwire_service_RequestStamp) hisR ?_
  intro p e s m args below meth c s₁ Bd hml0 hP hK
  obtain ⟨rfl, hZ, hh⟩ := hP
  have hx := Bd.exec
  have hby := Bd.bytes
  have hml : c.maxLocals = 4 := hml0
  have hown : s.vm.findClass "com/example/agree_over_wire/agreeoverwire/service/RequestStamp" = some m.cls := findClass_of_methodNamed Bd.named
  have hnm := (name_of_methodNamed Bd.named Bd.method).1
  have hlk : meth.locks = false := BodyLoose.notSynchronized Bd
  have X0 : Stand p l e ({ frames := 2, cells := 0, slots := 0, locals := 24 } : Room) s m #[(.ref a1), (.long q1), (.int p1)] below meth c s₁ [] 0 0 := Stand.of_body Bd
  have e0 : s₁.heap = h0 := by rw [← hh, Bd.state]; rfl
  have N0 := Fr.nil n0
  have pre0 : Go p e below (s₁.setTop (entryFrame m #[(.ref a1), (.long q1), (.int p1)] 4)) (s₁.setTop (mkF m 0 #[.val (.ref a1), .val (.long q1), .second, .val (.int p1)] [])) := fun t k => castTop (ef_1 m a1 q1 p1) k
  have pre1 : Go p e below (s₁.setTop (entryFrame m #[(.ref a1), (.long q1), (.int p1)] 4)) (s₁.setTop (mkF m 1 #[.val (.ref a1), .val (.long q1), .second, .val (.int p1)] [(.ref a1)])) := by
    intro t k
    refine pre0 t ?_
    show Steps p.tables e below (s₁.setTop (mkF m 0 #[.val (.ref a1), .val (.long q1), .second, .val (.int p1)] [])) _
    refine XS.aloadN X0.here hx rfl (hb hby d1_0) rfl rfl ?_
    show Steps p.tables e below (s₁.setTop (mkF m 1 #[.val (.ref a1), .val (.long q1), .second, .val (.int p1)] [(.ref a1)])) _
    exact k
  obtain ⟨_, _, ⟨T2, L2, k2, n2⟩, -, X2, ⟨Lc2, hQ2, l2, y2, z2⟩, st2⟩ := X0.specialBack hx (y := (⟨"java/lang/Record", "<init>", "()V"⟩ : MethodName)) rfl hown (mvT hZ (hw _ (List.mem_of_getElem? (i := 6) rfl))) (mvT hZ (hw _ (List.mem_of_getElem? (i := 7) rfl))) (mvT hZ (hw _ (List.mem_of_getElem? (i := 10) rfl))) (by decide) (backOf (W := 0) (rm2 l Z a0 hw [] a1  h0 n0 Z0 ) hZ (hw _ (List.mem_of_getElem? (i := 10) rfl)) (hw _ (List.mem_of_getElem? (i := 9) rfl)) (by decide) (by decide)) (g := (mkF m 1 #[.val (.ref a1), .val (.long q1), .second, .val (.int p1)] [(.ref a1)])) rfl (by rw [hml]; rfl) (Steps.refl _) (a := a1) (argsL := []) (rest := []) (lenOf pd_1 rfl) rfl (by show 2 * 0 + _ ≤ _; exact Nat.le_of_eq rfl) (hb hby d1_1) (fun _ _ => ⟨rfl, e0, (by decide : 0 + 0 ≤ _), (by decide : 0 + 0 ≤ _)⟩)
  dsimp only [Pt.U, Pt.locs, Pt.cells, Pt.slots] at X2 l2 y2 z2 st2 hQ2
  subst l2 y2 z2
  obtain ⟨rfl, N2q, hh2⟩ := hQ2
  have N2 := Fr.app N0 N2q
  have pre3 : Go p e below (s₁.setTop (entryFrame m #[(.ref a1), (.long q1), (.int p1)] 4)) (T2.setTop (mkF m 4 #[.val (.ref a1), .val (.long q1), .second, .val (.int p1)] [])) := fun t k => pre1 t (st2.trans k)
  have pre4 : Go p e below (s₁.setTop (entryFrame m #[(.ref a1), (.long q1), (.int p1)] 4)) (T2.setTop (mkF m 6 #[.val (.ref a1), .val (.long q1), .second, .val (.int p1)] [(.long q1), (.ref a1)])) := by
    intro t k
    refine pre3 t ?_
    show Steps p.tables e below (T2.setTop (mkF m 4 #[.val (.ref a1), .val (.long q1), .second, .val (.int p1)] [])) _
    refine XS.aloadN X2.here hx rfl (hb hby d1_4) rfl rfl ?_
    show Steps p.tables e below (T2.setTop (mkF m 5 #[.val (.ref a1), .val (.long q1), .second, .val (.int p1)] [(.ref a1)])) _
    refine XT.lloadN X2.here hx rfl (hb hby d1_5) rfl ?_
    show Steps p.tables e below (T2.setTop (mkF m 6 #[.val (.ref a1), .val (.long q1), .second, .val (.int p1)] [(.long q1), (.ref a1)])) _
    exact k
  obtain ⟨T5, h5, X5, e5, W5, st5⟩ := putF X2 hx hZ hown (host := "") (Or.inl (hw _ (List.mem_of_getElem? (i := 14) rfl))) Via.refl hh2 F1 E1 (Or.inr ⟨(hw _ (List.mem_of_getElem? (i := 15) rfl)), rfl, hnm⟩) (hw _ (List.mem_of_getElem? (i := 1) rfl)) (ty := .long) (by decide) rfl rfl (g := (mkF m 6 #[.val (.ref a1), .val (.long q1), .second, .val (.int p1)] [(.long q1), (.ref a1)])) rfl rfl (hb hby d1_6)
  have Fw5 := F1.same W5
  have c6_5 := E1.wr W5
  have c7_5 := F2.other W5 (Or.inr (slot_ne (Or.inr (hw _ (List.mem_of_getElem? (i := 17) rfl))) (Or.inr (hw _ (List.mem_of_getElem? (i := 15) rfl))) (by decide) (t := .int) (t' := .long) (by decide) (by decide)))
  have zz8 := (Nat.le_trans Z0 (Keep.of_wr W5).1)
  have K9 := (Keep.refl h0 [a1]).wr W5 (Or.inl (List.mem_singleton.mpr rfl))
  have N5 := Fr.snoc X5 N2 g_a1
  have pre10 : Go p e below (s₁.setTop (entryFrame m #[(.ref a1), (.long q1), (.int p1)] 4)) (T5.setTop (mkF m 9 #[.val (.ref a1), .val (.long q1), .second, .val (.int p1)] [])) := fun t k => pre4 t (st5 t k)
  have pre11 : Go p e below (s₁.setTop (entryFrame m #[(.ref a1), (.long q1), (.int p1)] 4)) (T5.setTop (mkF m 11 #[.val (.ref a1), .val (.long q1), .second, .val (.int p1)] [(.int p1), (.ref a1)])) := by
    intro t k
    refine pre10 t ?_
    show Steps p.tables e below (T5.setTop (mkF m 9 #[.val (.ref a1), .val (.long q1), .second, .val (.int p1)] [])) _
    refine XS.aloadN X5.here hx rfl (hb hby d1_9) rfl rfl ?_
    show Steps p.tables e below (T5.setTop (mkF m 10 #[.val (.ref a1), .val (.long q1), .second, .val (.int p1)] [(.ref a1)])) _
    refine XS.iloadN X5.here hx rfl (hb hby d1_10) rfl ?_
    show Steps p.tables e below (T5.setTop (mkF m 11 #[.val (.ref a1), .val (.long q1), .second, .val (.int p1)] [(.int p1), (.ref a1)])) _
    exact k
  obtain ⟨T12, h12, X12, e12, W12, st12⟩ := putF X5 hx hZ hown (host := "") (Or.inl (hw _ (List.mem_of_getElem? (i := 16) rfl))) Via.refl e5 c7_5 c6_5 (Or.inr ⟨(hw _ (List.mem_of_getElem? (i := 17) rfl)), rfl, hnm⟩) (hw _ (List.mem_of_getElem? (i := 1) rfl)) (ty := .int) (by decide) rfl rfl (g := (mkF m 11 #[.val (.ref a1), .val (.long q1), .second, .val (.int p1)] [(.int p1), (.ref a1)])) rfl rfl (hb hby d1_11)
  have Fw12 := c7_5.same W12
  have c13_12 := c6_5.wr W12
  have c14_12 := Fw5.other W12 (Or.inr (slot_ne (Or.inr (hw _ (List.mem_of_getElem? (i := 15) rfl))) (Or.inr (hw _ (List.mem_of_getElem? (i := 17) rfl))) (by decide) (t := .long) (t' := .int) (by decide) (by decide)))
  have zz15 := (Nat.le_trans zz8 (Keep.of_wr W12).1)
  have K16 := K9.wr W12 (Or.inl (List.mem_singleton.mpr rfl))
  have N12 := Fr.snoc X12 N5 g_a1
  have pre17 : Go p e below (s₁.setTop (entryFrame m #[(.ref a1), (.long q1), (.int p1)] 4)) (T12.setTop (mkF m 14 #[.val (.ref a1), .val (.long q1), .second, .val (.int p1)] [])) := fun t k => pre11 t (st12 t k)
  obtain ⟨fs, hr, hrun, hended, hW, hsame⟩ := X12.leave (hlocks := hlk) (v := none) (fun _ => rfl)
  refine ⟨_, _, pre17 _ (X12.returnOut hx Bd.returns (hb hby d1_14) hr), hrun, hended, _, _, rfl, ?_, ⟨_, rfl⟩, hW, hsame.mono (by decide) (by decide)⟩
  show Q1 Z a1 q1 p1 h0 n0 _ T12.heap _
  rw [e12]
  exact ⟨rfl, N12, K16, c13_12, c14_12, Fw12⟩
theorem ef_6 (m : MethodId) (p0 : Int64) (p1 : Int64) : entryFrame m #[(.long p0), (.long p1)] 4 = mkF m 0 #[.val (.long p0), .second, .val (.long p1), .second] [] := by first | (simp [entryFrame, mkF, argsToLocals, Value.category]; done) | rfl
theorem d6_0 : decode jdk_35_method_42_code 0 = .ok (.lload_n 0, 1) := by decide +kernel
theorem d6_1 : decode jdk_35_method_42_code 1 = .ok (.lload_n 2, 1) := by decide +kernel
theorem d6_2 : decode jdk_35_method_42_code 2 = .ok (.lcmp, 1) := by decide +kernel
theorem d6_3 : decode jdk_35_method_42_code 3 = .ok (.ifCond .ge 7, 3) := by decide +kernel
theorem d6_6 : decode jdk_35_method_42_code 6 = .ok (.iconst (-1), 1) := by decide +kernel
theorem d6_7 : decode jdk_35_method_42_code 7 = .ok (.goto 14, 3) := by decide +kernel
theorem d6_21 : decode jdk_35_method_42_code 21 = .ok (.ireturn, 1) := by decide +kernel
theorem d6_10 : decode jdk_35_method_42_code 10 = .ok (.lload_n 0, 1) := by decide +kernel
theorem d6_11 : decode jdk_35_method_42_code 11 = .ok (.lload_n 2, 1) := by decide +kernel
theorem d6_12 : decode jdk_35_method_42_code 12 = .ok (.lcmp, 1) := by decide +kernel
theorem d6_13 : decode jdk_35_method_42_code 13 = .ok (.ifCond .ne 7, 3) := by decide +kernel
theorem d6_16 : decode jdk_35_method_42_code 16 = .ok (.iconst 0, 1) := by decide +kernel
theorem d6_17 : decode jdk_35_method_42_code 17 = .ok (.goto 4, 3) := by decide +kernel
theorem d6_20 : decode jdk_35_method_42_code 20 = .ok (.iconst 1, 1) := by decide +kernel
def f6 (p0 : Int64) (p1 : Int64) : Int32 := (if p0 < p1 then (-1 : Int32) else (if p0 = p1 then (0 : Int32) else (1 : Int32)))
def Q6 (Z : State) (p0 : Int64) (p1 : Int64) (h0 : Heap) (n0 : Nat) (v : Option Value) (h : Heap) (L : List Loc) : Prop := v = some (.int (f6 p0 p1)) ∧ Fr n0 L ∧ h = h0
set_option maxRecDepth 65536 in
set_option maxHeartbeats 40000000 in
theorem pn_java_lang_Long : plainName "java/lang/Long" = true := by first | (simp [plainName, overriddenIn]; done) | decide +kernel
theorem rm6 (l : Launch) (Z : State) (a0 : Array Value) (hw : ∀ d ∈ tables_1, d.before a0 Z = true) (ws : List Jvm.Cond) (p0 : Int64) (p1 : Int64) (h0 : Heap) (n0 : Nat) (Z0 : n0 ≤ h0.size) :
    MetFree l (⟨"java/lang/Long", "compare", "(JJ)I"⟩ : MethodName) (head1 (Jvm.Cond.code (⟨"java/lang/Long", "compare", "(JJ)I"⟩ : MethodName) jdk_35_method_42_code 4 (some .int) :: ws) ({ frames := 0, cells := 0, slots := 0, locals := 0 } : Room)) (fun a U => a = #[(.long p0), (.long p1)] ∧ Z.Warmed39 U.vm ∧ U.heap = h0) (fun _ _ _ _ _ => True) (fun _ U o U' => ∃ v L, o = .returned v ∧ Q6 Z p0 p1 h0 n0 v U'.heap L ∧ FrameEnd U o U' L ({ frames := 0, cells := 0, slots := 0, locals := 0 } : Room).cells ({ frames := 0, cells := 0, slots := 0, locals := 0 } : Room).slots) := by
  refine MetFree.of_bodySF (plainFor_of_name pn_java_lang_Long) hisR ?_
  intro p e s m args below meth c s₁ Bd hml0 hP hK
  obtain ⟨rfl, hZ, hh⟩ := hP
  have hx := Bd.exec
  have hby := Bd.bytes
  have hml : c.maxLocals = 4 := hml0
  have hown : s.vm.findClass "java/lang/Long" = some m.cls := findClass_of_methodNamed Bd.named
  have hnm := (name_of_methodNamed Bd.named Bd.method).1
  have hlk : meth.locks = false := BodyLoose.notSynchronized Bd
  have X0 : Stand p l e ({ frames := 0, cells := 0, slots := 0, locals := 0 } : Room) s m #[(.long p0), (.long p1)] below meth c s₁ [] 0 0 := Stand.of_body Bd
  have e0 : s₁.heap = h0 := by rw [← hh, Bd.state]; rfl
  have N0 := Fr.nil n0
  have pre0 : Go p e below (s₁.setTop (entryFrame m #[(.long p0), (.long p1)] 4)) (s₁.setTop (mkF m 0 #[.val (.long p0), .second, .val (.long p1), .second] [])) := fun t k => castTop (ef_6 m p0 p1) k
  have pre1 : Go p e below (s₁.setTop (entryFrame m #[(.long p0), (.long p1)] 4)) (s₁.setTop (mkF m 3 #[.val (.long p0), .second, .val (.long p1), .second] [(.int (XT.cmpL p0 p1))])) := by
    intro t k
    refine pre0 t ?_
    show Steps p.tables e below (s₁.setTop (mkF m 0 #[.val (.long p0), .second, .val (.long p1), .second] [])) _
    refine XT.lloadN X0.here hx rfl (hb hby d6_0) rfl ?_
    show Steps p.tables e below (s₁.setTop (mkF m 1 #[.val (.long p0), .second, .val (.long p1), .second] [(.long p0)])) _
    refine XT.lloadN X0.here hx rfl (hb hby d6_1) rfl ?_
    show Steps p.tables e below (s₁.setTop (mkF m 2 #[.val (.long p0), .second, .val (.long p1), .second] [(.long p1), (.long p0)])) _
    refine XT.lcmp X0.here hx rfl (hb hby d6_2) rfl ?_
    show Steps p.tables e below (s₁.setTop (mkF m 3 #[.val (.long p0), .second, .val (.long p1), .second] [(.int (XT.cmpL p0 p1))])) _
    exact k
  by_cases hc3_2 : p0 < p1
  · skip
    have pre3 : Go p e below (s₁.setTop (entryFrame m #[(.long p0), (.long p1)] 4)) (s₁.setTop (mkF m 21 #[.val (.long p0), .second, .val (.long p1), .second] [(.int (-1 : Int32))])) := by
      intro t k
      refine pre1 t ?_
      show Steps p.tables e below (s₁.setTop (mkF m 3 #[.val (.long p0), .second, .val (.long p1), .second] [(.int (XT.cmpL p0 p1))])) _
      refine XS.ifNo X0.here hx rfl (hb hby d6_3) rfl (XT.ll_ge_f hc3_2) ?_
      show Steps p.tables e below (s₁.setTop (mkF m 6 #[.val (.long p0), .second, .val (.long p1), .second] [])) _
      refine XS.iconst X0.here hx rfl (hb hby d6_6) ?_
      show Steps p.tables e below (s₁.setTop (mkF m 7 #[.val (.long p0), .second, .val (.long p1), .second] [(.int (-1 : Int32))])) _
      refine XS.goto X0.here hx rfl (pc0 := 7) (pc' := 21) rfl (hb hby d6_7) (by decide) (by decide) ?_
      show Steps p.tables e below (s₁.setTop (mkF m 21 #[.val (.long p0), .second, .val (.long p1), .second] [(.int (-1 : Int32))])) _
      exact k
    obtain ⟨fs, hr, hrun, hended, hW, hsame⟩ := X0.leave (hlocks := hlk) (v := some (.int (-1 : Int32))) (fun h => by rw [Bd.returns] at h; cases h)
    refine ⟨_, _, pre3 _ (retI X0 hx Bd.returns (hb hby d6_21) hr), hrun, hended, _, _, rfl, ?_, ⟨_, rfl⟩, hW, hsame.mono (by decide) (by decide)⟩
    show Q6 Z p0 p1 h0 n0 _ s₁.heap _
    rw [e0]
    exact ⟨congrArg some (congrArg Value.int (show (-1 : Int32) = f6 p0 p1 from by rw [f6, if_pos hc3_2])), N0, rfl⟩
  · skip
    have pre4 : Go p e below (s₁.setTop (entryFrame m #[(.long p0), (.long p1)] 4)) (s₁.setTop (mkF m 13 #[.val (.long p0), .second, .val (.long p1), .second] [(.int (XT.cmpL p0 p1))])) := by
      intro t k
      refine pre1 t ?_
      show Steps p.tables e below (s₁.setTop (mkF m 3 #[.val (.long p0), .second, .val (.long p1), .second] [(.int (XT.cmpL p0 p1))])) _
      refine XS.ifYes X0.here hx rfl (pc0 := 3) (pc' := 10) rfl (hb hby d6_3) rfl (XT.ll_ge_t hc3_2) (by decide) (by decide) ?_
      show Steps p.tables e below (s₁.setTop (mkF m 10 #[.val (.long p0), .second, .val (.long p1), .second] [])) _
      refine XT.lloadN X0.here hx rfl (hb hby d6_10) rfl ?_
      show Steps p.tables e below (s₁.setTop (mkF m 11 #[.val (.long p0), .second, .val (.long p1), .second] [(.long p0)])) _
      refine XT.lloadN X0.here hx rfl (hb hby d6_11) rfl ?_
      show Steps p.tables e below (s₁.setTop (mkF m 12 #[.val (.long p0), .second, .val (.long p1), .second] [(.long p1), (.long p0)])) _
      refine XT.lcmp X0.here hx rfl (hb hby d6_12) rfl ?_
      show Steps p.tables e below (s₁.setTop (mkF m 13 #[.val (.long p0), .second, .val (.long p1), .second] [(.int (XT.cmpL p0 p1))])) _
      exact k
    by_cases hc13_5 : p0 = p1
    · skip
      have pre6 : Go p e below (s₁.setTop (entryFrame m #[(.long p0), (.long p1)] 4)) (s₁.setTop (mkF m 21 #[.val (.long p0), .second, .val (.long p1), .second] [(.int (0 : Int32))])) := by
        intro t k
        refine pre4 t ?_
        show Steps p.tables e below (s₁.setTop (mkF m 13 #[.val (.long p0), .second, .val (.long p1), .second] [(.int (XT.cmpL p0 p1))])) _
        refine XS.ifNo X0.here hx rfl (hb hby d6_13) rfl (XT.ll_ne_f hc13_5) ?_
        show Steps p.tables e below (s₁.setTop (mkF m 16 #[.val (.long p0), .second, .val (.long p1), .second] [])) _
        refine XS.iconst X0.here hx rfl (hb hby d6_16) ?_
        show Steps p.tables e below (s₁.setTop (mkF m 17 #[.val (.long p0), .second, .val (.long p1), .second] [(.int (0 : Int32))])) _
        refine XS.goto X0.here hx rfl (pc0 := 17) (pc' := 21) rfl (hb hby d6_17) (by decide) (by decide) ?_
        show Steps p.tables e below (s₁.setTop (mkF m 21 #[.val (.long p0), .second, .val (.long p1), .second] [(.int (0 : Int32))])) _
        exact k
      obtain ⟨fs, hr, hrun, hended, hW, hsame⟩ := X0.leave (hlocks := hlk) (v := some (.int (0 : Int32))) (fun h => by rw [Bd.returns] at h; cases h)
      refine ⟨_, _, pre6 _ (retI X0 hx Bd.returns (hb hby d6_21) hr), hrun, hended, _, _, rfl, ?_, ⟨_, rfl⟩, hW, hsame.mono (by decide) (by decide)⟩
      show Q6 Z p0 p1 h0 n0 _ s₁.heap _
      rw [e0]
      exact ⟨congrArg some (congrArg Value.int (show (0 : Int32) = f6 p0 p1 from by rw [f6, if_neg hc3_2, if_pos hc13_5])), N0, rfl⟩
    · skip
      have pre7 : Go p e below (s₁.setTop (entryFrame m #[(.long p0), (.long p1)] 4)) (s₁.setTop (mkF m 21 #[.val (.long p0), .second, .val (.long p1), .second] [(.int (1 : Int32))])) := by
        intro t k
        refine pre4 t ?_
        show Steps p.tables e below (s₁.setTop (mkF m 13 #[.val (.long p0), .second, .val (.long p1), .second] [(.int (XT.cmpL p0 p1))])) _
        refine XS.ifYes X0.here hx rfl (pc0 := 13) (pc' := 20) rfl (hb hby d6_13) rfl (XT.ll_ne_t hc13_5) (by decide) (by decide) ?_
        show Steps p.tables e below (s₁.setTop (mkF m 20 #[.val (.long p0), .second, .val (.long p1), .second] [])) _
        refine XS.iconst X0.here hx rfl (hb hby d6_20) ?_
        show Steps p.tables e below (s₁.setTop (mkF m 21 #[.val (.long p0), .second, .val (.long p1), .second] [(.int (1 : Int32))])) _
        exact k
      obtain ⟨fs, hr, hrun, hended, hW, hsame⟩ := X0.leave (hlocks := hlk) (v := some (.int (1 : Int32))) (fun h => by rw [Bd.returns] at h; cases h)
      refine ⟨_, _, pre7 _ (retI X0 hx Bd.returns (hb hby d6_21) hr), hrun, hended, _, _, rfl, ?_, ⟨_, rfl⟩, hW, hsame.mono (by decide) (by decide)⟩
      show Q6 Z p0 p1 h0 n0 _ s₁.heap _
      rw [e0]
      exact ⟨congrArg some (congrArg Value.int (show (1 : Int32) = f6 p0 p1 from by rw [f6, if_neg hc3_2, if_neg hc13_5])), N0, rfl⟩
theorem ef_8 (m : MethodId) (p0 : Int32) (p1 : Int32) : entryFrame m #[(.int p0), (.int p1)] 2 = mkF m 0 #[.val (.int p0), .val (.int p1)] [] := by first | (simp [entryFrame, mkF, argsToLocals, Value.category]; done) | rfl
theorem d8_0 : decode jdk_33_method_40_code 0 = .ok (.iload_n 0, 1) := by decide +kernel
theorem d8_1 : decode jdk_33_method_40_code 1 = .ok (.iload_n 1, 1) := by decide +kernel
theorem d8_2 : decode jdk_33_method_40_code 2 = .ok (.if_icmp .ge 7, 3) := by decide +kernel
theorem d8_5 : decode jdk_33_method_40_code 5 = .ok (.iconst (-1), 1) := by decide +kernel
theorem d8_6 : decode jdk_33_method_40_code 6 = .ok (.goto 13, 3) := by decide +kernel
theorem d8_19 : decode jdk_33_method_40_code 19 = .ok (.ireturn, 1) := by decide +kernel
theorem d8_9 : decode jdk_33_method_40_code 9 = .ok (.iload_n 0, 1) := by decide +kernel
theorem d8_10 : decode jdk_33_method_40_code 10 = .ok (.iload_n 1, 1) := by decide +kernel
theorem d8_11 : decode jdk_33_method_40_code 11 = .ok (.if_icmp .ne 7, 3) := by decide +kernel
theorem d8_14 : decode jdk_33_method_40_code 14 = .ok (.iconst 0, 1) := by decide +kernel
theorem d8_15 : decode jdk_33_method_40_code 15 = .ok (.goto 4, 3) := by decide +kernel
theorem d8_18 : decode jdk_33_method_40_code 18 = .ok (.iconst 1, 1) := by decide +kernel
def f8 (p0 : Int32) (p1 : Int32) : Int32 := (if p0 < p1 then (-1 : Int32) else (if p0 = p1 then (0 : Int32) else (1 : Int32)))
def Q8 (Z : State) (p0 : Int32) (p1 : Int32) (h0 : Heap) (n0 : Nat) (v : Option Value) (h : Heap) (L : List Loc) : Prop := v = some (.int (f8 p0 p1)) ∧ Fr n0 L ∧ h = h0
set_option maxRecDepth 65536 in
set_option maxHeartbeats 40000000 in
theorem pn_java_lang_Integer : plainName "java/lang/Integer" = true := by first | (simp [plainName, overriddenIn]; done) | decide +kernel
theorem rm8 (l : Launch) (Z : State) (a0 : Array Value) (hw : ∀ d ∈ tables_1, d.before a0 Z = true) (ws : List Jvm.Cond) (p0 : Int32) (p1 : Int32) (h0 : Heap) (n0 : Nat) (Z0 : n0 ≤ h0.size) :
    MetFree l (⟨"java/lang/Integer", "compare", "(II)I"⟩ : MethodName) (head1 (Jvm.Cond.code (⟨"java/lang/Integer", "compare", "(II)I"⟩ : MethodName) jdk_33_method_40_code 2 (some .int) :: ws) ({ frames := 0, cells := 0, slots := 0, locals := 0 } : Room)) (fun a U => a = #[(.int p0), (.int p1)] ∧ Z.Warmed39 U.vm ∧ U.heap = h0) (fun _ _ _ _ _ => True) (fun _ U o U' => ∃ v L, o = .returned v ∧ Q8 Z p0 p1 h0 n0 v U'.heap L ∧ FrameEnd U o U' L ({ frames := 0, cells := 0, slots := 0, locals := 0 } : Room).cells ({ frames := 0, cells := 0, slots := 0, locals := 0 } : Room).slots) := by
  refine MetFree.of_bodySF (plainFor_of_name pn_java_lang_Integer) hisR ?_
  intro p e s m args below meth c s₁ Bd hml0 hP hK
  obtain ⟨rfl, hZ, hh⟩ := hP
  have hx := Bd.exec
  have hby := Bd.bytes
  have hml : c.maxLocals = 2 := hml0
  have hown : s.vm.findClass "java/lang/Integer" = some m.cls := findClass_of_methodNamed Bd.named
  have hnm := (name_of_methodNamed Bd.named Bd.method).1
  have hlk : meth.locks = false := BodyLoose.notSynchronized Bd
  have X0 : Stand p l e ({ frames := 0, cells := 0, slots := 0, locals := 0 } : Room) s m #[(.int p0), (.int p1)] below meth c s₁ [] 0 0 := Stand.of_body Bd
  have e0 : s₁.heap = h0 := by rw [← hh, Bd.state]; rfl
  have N0 := Fr.nil n0
  have pre0 : Go p e below (s₁.setTop (entryFrame m #[(.int p0), (.int p1)] 2)) (s₁.setTop (mkF m 0 #[.val (.int p0), .val (.int p1)] [])) := fun t k => castTop (ef_8 m p0 p1) k
  have pre1 : Go p e below (s₁.setTop (entryFrame m #[(.int p0), (.int p1)] 2)) (s₁.setTop (mkF m 2 #[.val (.int p0), .val (.int p1)] [(.int p1), (.int p0)])) := by
    intro t k
    refine pre0 t ?_
    show Steps p.tables e below (s₁.setTop (mkF m 0 #[.val (.int p0), .val (.int p1)] [])) _
    refine XS.iloadN X0.here hx rfl (hb hby d8_0) rfl ?_
    show Steps p.tables e below (s₁.setTop (mkF m 1 #[.val (.int p0), .val (.int p1)] [(.int p0)])) _
    refine XS.iloadN X0.here hx rfl (hb hby d8_1) rfl ?_
    show Steps p.tables e below (s₁.setTop (mkF m 2 #[.val (.int p0), .val (.int p1)] [(.int p1), (.int p0)])) _
    exact k
  by_cases hc2_2 : p0 < p1
  · skip
    have pre3 : Go p e below (s₁.setTop (entryFrame m #[(.int p0), (.int p1)] 2)) (s₁.setTop (mkF m 19 #[.val (.int p0), .val (.int p1)] [(.int (-1 : Int32))])) := by
      intro t k
      refine pre1 t ?_
      show Steps p.tables e below (s₁.setTop (mkF m 2 #[.val (.int p0), .val (.int p1)] [(.int p1), (.int p0)])) _
      refine XS.icmpNo X0.here hx rfl (hb hby d8_2) rfl (XT.ii_ge_f hc2_2) ?_
      show Steps p.tables e below (s₁.setTop (mkF m 5 #[.val (.int p0), .val (.int p1)] [])) _
      refine XS.iconst X0.here hx rfl (hb hby d8_5) ?_
      show Steps p.tables e below (s₁.setTop (mkF m 6 #[.val (.int p0), .val (.int p1)] [(.int (-1 : Int32))])) _
      refine XS.goto X0.here hx rfl (pc0 := 6) (pc' := 19) rfl (hb hby d8_6) (by decide) (by decide) ?_
      show Steps p.tables e below (s₁.setTop (mkF m 19 #[.val (.int p0), .val (.int p1)] [(.int (-1 : Int32))])) _
      exact k
    obtain ⟨fs, hr, hrun, hended, hW, hsame⟩ := X0.leave (hlocks := hlk) (v := some (.int (-1 : Int32))) (fun h => by rw [Bd.returns] at h; cases h)
    refine ⟨_, _, pre3 _ (retI X0 hx Bd.returns (hb hby d8_19) hr), hrun, hended, _, _, rfl, ?_, ⟨_, rfl⟩, hW, hsame.mono (by decide) (by decide)⟩
    show Q8 Z p0 p1 h0 n0 _ s₁.heap _
    rw [e0]
    exact ⟨congrArg some (congrArg Value.int (show (-1 : Int32) = f8 p0 p1 from by rw [f8, if_pos hc2_2])), N0, rfl⟩
  · skip
    have pre4 : Go p e below (s₁.setTop (entryFrame m #[(.int p0), (.int p1)] 2)) (s₁.setTop (mkF m 11 #[.val (.int p0), .val (.int p1)] [(.int p1), (.int p0)])) := by
      intro t k
      refine pre1 t ?_
      show Steps p.tables e below (s₁.setTop (mkF m 2 #[.val (.int p0), .val (.int p1)] [(.int p1), (.int p0)])) _
      refine XS.icmpYes X0.here hx rfl (pc0 := 2) (pc' := 9) rfl (hb hby d8_2) rfl (XT.ii_ge_t hc2_2) (by decide) (by decide) ?_
      show Steps p.tables e below (s₁.setTop (mkF m 9 #[.val (.int p0), .val (.int p1)] [])) _
      refine XS.iloadN X0.here hx rfl (hb hby d8_9) rfl ?_
      show Steps p.tables e below (s₁.setTop (mkF m 10 #[.val (.int p0), .val (.int p1)] [(.int p0)])) _
      refine XS.iloadN X0.here hx rfl (hb hby d8_10) rfl ?_
      show Steps p.tables e below (s₁.setTop (mkF m 11 #[.val (.int p0), .val (.int p1)] [(.int p1), (.int p0)])) _
      exact k
    by_cases hc11_5 : p0 = p1
    · skip
      have pre6 : Go p e below (s₁.setTop (entryFrame m #[(.int p0), (.int p1)] 2)) (s₁.setTop (mkF m 19 #[.val (.int p0), .val (.int p1)] [(.int (0 : Int32))])) := by
        intro t k
        refine pre4 t ?_
        show Steps p.tables e below (s₁.setTop (mkF m 11 #[.val (.int p0), .val (.int p1)] [(.int p1), (.int p0)])) _
        refine XS.icmpNo X0.here hx rfl (hb hby d8_11) rfl (XT.ii_ne_f hc11_5) ?_
        show Steps p.tables e below (s₁.setTop (mkF m 14 #[.val (.int p0), .val (.int p1)] [])) _
        refine XS.iconst X0.here hx rfl (hb hby d8_14) ?_
        show Steps p.tables e below (s₁.setTop (mkF m 15 #[.val (.int p0), .val (.int p1)] [(.int (0 : Int32))])) _
        refine XS.goto X0.here hx rfl (pc0 := 15) (pc' := 19) rfl (hb hby d8_15) (by decide) (by decide) ?_
        show Steps p.tables e below (s₁.setTop (mkF m 19 #[.val (.int p0), .val (.int p1)] [(.int (0 : Int32))])) _
        exact k
      obtain ⟨fs, hr, hrun, hended, hW, hsame⟩ := X0.leave (hlocks := hlk) (v := some (.int (0 : Int32))) (fun h => by rw [Bd.returns] at h; cases h)
      refine ⟨_, _, pre6 _ (retI X0 hx Bd.returns (hb hby d8_19) hr), hrun, hended, _, _, rfl, ?_, ⟨_, rfl⟩, hW, hsame.mono (by decide) (by decide)⟩
      show Q8 Z p0 p1 h0 n0 _ s₁.heap _
      rw [e0]
      exact ⟨congrArg some (congrArg Value.int (show (0 : Int32) = f8 p0 p1 from by rw [f8, if_neg hc2_2, if_pos hc11_5])), N0, rfl⟩
    · skip
      have pre7 : Go p e below (s₁.setTop (entryFrame m #[(.int p0), (.int p1)] 2)) (s₁.setTop (mkF m 19 #[.val (.int p0), .val (.int p1)] [(.int (1 : Int32))])) := by
        intro t k
        refine pre4 t ?_
        show Steps p.tables e below (s₁.setTop (mkF m 11 #[.val (.int p0), .val (.int p1)] [(.int p1), (.int p0)])) _
        refine XS.icmpYes X0.here hx rfl (pc0 := 11) (pc' := 18) rfl (hb hby d8_11) rfl (XT.ii_ne_t hc11_5) (by decide) (by decide) ?_
        show Steps p.tables e below (s₁.setTop (mkF m 18 #[.val (.int p0), .val (.int p1)] [])) _
        refine XS.iconst X0.here hx rfl (hb hby d8_18) ?_
        show Steps p.tables e below (s₁.setTop (mkF m 19 #[.val (.int p0), .val (.int p1)] [(.int (1 : Int32))])) _
        exact k
      obtain ⟨fs, hr, hrun, hended, hW, hsame⟩ := X0.leave (hlocks := hlk) (v := some (.int (1 : Int32))) (fun h => by rw [Bd.returns] at h; cases h)
      refine ⟨_, _, pre7 _ (retI X0 hx Bd.returns (hb hby d8_19) hr), hrun, hended, _, _, rfl, ?_, ⟨_, rfl⟩, hW, hsame.mono (by decide) (by decide)⟩
      show Q8 Z p0 p1 h0 n0 _ s₁.heap _
      rw [e0]
      exact ⟨congrArg some (congrArg Value.int (show (1 : Int32) = f8 p0 p1 from by rw [f8, if_neg hc2_2, if_neg hc11_5])), N0, rfl⟩
theorem ef_5 (m : MethodId) (a1 : Addr) (a2 : Addr) : entryFrame m #[(.ref a1), (.ref a2)] 3 = mkF m 0 #[.val (.ref a1), .val (.ref a2), .unset] [] := by first | (simp [entryFrame, mkF, argsToLocals, Value.category]; done) | rfl
theorem d5_0 : decode prog_42_method_4_code 0 = .ok (.aload_n 0, 1) := by decide +kernel
theorem d5_1 : decode prog_42_method_4_code 1 = .ok (.getfield 7, 3) := by decide +kernel
theorem d5_4 : decode prog_42_method_4_code 4 = .ok (.aload_n 1, 1) := by decide +kernel
theorem d5_5 : decode prog_42_method_4_code 5 = .ok (.getfield 7, 3) := by decide +kernel
theorem d5_8 : decode prog_42_method_4_code 8 = .ok (.invokestatic 65, 3) := by decide +kernel
theorem pd_5 : parseMethodDescriptor "(JJ)I" = some ⟨[.long, .long], some .int⟩ := by decide +kernel
theorem d5_11 : decode prog_42_method_4_code 11 = .ok (.istore_n 2, 1) := by decide +kernel
theorem d5_12 : decode prog_42_method_4_code 12 = .ok (.iload_n 2, 1) := by decide +kernel
theorem d5_13 : decode prog_42_method_4_code 13 = .ok (.ifCond .eq 7, 3) := by decide +kernel
theorem d5_20 : decode prog_42_method_4_code 20 = .ok (.aload_n 0, 1) := by decide +kernel
theorem d5_21 : decode prog_42_method_4_code 21 = .ok (.getfield 13, 3) := by decide +kernel
theorem d5_24 : decode prog_42_method_4_code 24 = .ok (.aload_n 1, 1) := by decide +kernel
theorem d5_25 : decode prog_42_method_4_code 25 = .ok (.getfield 13, 3) := by decide +kernel
theorem d5_28 : decode prog_42_method_4_code 28 = .ok (.invokestatic 69, 3) := by decide +kernel
theorem pd_6 : parseMethodDescriptor "(II)I" = some ⟨[.int, .int], some .int⟩ := by decide +kernel
theorem d5_31 : decode prog_42_method_4_code 31 = .ok (.ireturn, 1) := by decide +kernel
theorem d5_16 : decode prog_42_method_4_code 16 = .ok (.iload_n 2, 1) := by decide +kernel
theorem d5_17 : decode prog_42_method_4_code 17 = .ok (.goto 14, 3) := by decide +kernel
def fcmp (t1 : Int64) (m1 : Int32) (t2 : Int64) (m2 : Int32) : Int32 := (if (f6 t1 t2) = (0 : Int32) then (f8 m1 m2) else (f6 t1 t2))
def Q5 (Z : State) (a1 : Addr) (a2 : Addr) (t1 : Int64) (m1 : Int32) (t2 : Int64) (m2 : Int32) (h0 : Heap) (n0 : Nat) (v : Option Value) (h : Heap) (L : List Loc) : Prop := v = some (.int (fcmp t1 m1 t2 m2)) ∧ Fr n0 L ∧ h = h0
set_option maxRecDepth 65536 in
set_option maxHeartbeats 40000000 in
theorem rm5 (l : Launch) (Z : State) (a0 : Array Value) (hw : ∀ d ∈ tables_1, d.before a0 Z = true) (ws : List Jvm.Cond) (a1 : Addr) (a2 : Addr) (t1 : Int64) (m1 : Int32) (t2 : Int64) (m2 : Int32) (h0 : Heap) (n0 : Nat) (Z0 : n0 ≤ h0.size) (Ft1 : Fld Z h0 a1 "com/example/agree_over_wire/agreeoverwire/service/RequestStamp" "time" "J" (.long t1)) (Fm1 : Fld Z h0 a1 "com/example/agree_over_wire/agreeoverwire/service/RequestStamp" "member" "I" (.int m1)) (Ft2 : Fld Z h0 a2 "com/example/agree_over_wire/agreeoverwire/service/RequestStamp" "time" "J" (.long t2)) (Fm2 : Fld Z h0 a2 "com/example/agree_over_wire/agreeoverwire/service/RequestStamp" "member" "I" (.int m2)) :
    MetFree l (⟨"com/example/agree_over_wire/agreeoverwire/service/RequestStamp", "compareTo", "(Lcom/example/agree_over_wire/agreeoverwire/service/RequestStamp;)I"⟩ : MethodName) (head1 (Jvm.Cond.code (⟨"com/example/agree_over_wire/agreeoverwire/service/RequestStamp", "compareTo", "(Lcom/example/agree_over_wire/agreeoverwire/service/RequestStamp;)I"⟩ : MethodName) prog_42_method_4_code 3 (some .int) :: ws) ({ frames := 1, cells := 0, slots := 0, locals := 15 } : Room)) (fun a U => a = #[(.ref a1), (.ref a2)] ∧ Z.Warmed39 U.vm ∧ U.heap = h0) (fun _ _ _ _ _ => True) (fun _ U o U' => ∃ v L, o = .returned v ∧ Q5 Z a1 a2 t1 m1 t2 m2 h0 n0 v U'.heap L ∧ FrameEnd U o U' L ({ frames := 1, cells := 0, slots := 0, locals := 15 } : Room).cells ({ frames := 1, cells := 0, slots := 0, locals := 15 } : Room).slots) := by
  refine MetFree.of_bodySF (plainFor_of_name pn_com_example_agree_over_wire_agreeoverwire_service_RequestStamp) hisR ?_
  intro p e s m args below meth c s₁ Bd hml0 hP hK
  obtain ⟨rfl, hZ, hh⟩ := hP
  have hx := Bd.exec
  have hby := Bd.bytes
  have hml : c.maxLocals = 3 := hml0
  have hown : s.vm.findClass "com/example/agree_over_wire/agreeoverwire/service/RequestStamp" = some m.cls := findClass_of_methodNamed Bd.named
  have hnm := (name_of_methodNamed Bd.named Bd.method).1
  have hlk : meth.locks = false := BodyLoose.notSynchronized Bd
  have X0 : Stand p l e ({ frames := 1, cells := 0, slots := 0, locals := 15 } : Room) s m #[(.ref a1), (.ref a2)] below meth c s₁ [] 0 0 := Stand.of_body Bd
  have e0 : s₁.heap = h0 := by rw [← hh, Bd.state]; rfl
  have N0 := Fr.nil n0
  have pre0 : Go p e below (s₁.setTop (entryFrame m #[(.ref a1), (.ref a2)] 3)) (s₁.setTop (mkF m 0 #[.val (.ref a1), .val (.ref a2), .unset] [])) := fun t k => castTop (ef_5 m a1 a2) k
  have pre1 : Go p e below (s₁.setTop (entryFrame m #[(.ref a1), (.ref a2)] 3)) (s₁.setTop (mkF m 1 #[.val (.ref a1), .val (.ref a2), .unset] [(.ref a1)])) := by
    intro t k
    refine pre0 t ?_
    show Steps p.tables e below (s₁.setTop (mkF m 0 #[.val (.ref a1), .val (.ref a2), .unset] [])) _
    refine XS.aloadN X0.here hx rfl (hb hby d5_0) rfl rfl ?_
    show Steps p.tables e below (s₁.setTop (mkF m 1 #[.val (.ref a1), .val (.ref a2), .unset] [(.ref a1)])) _
    exact k
  obtain ⟨T2, X2, e2, st2⟩ := getF X0 hx hZ hown (host := "") (Or.inl (hw _ (List.mem_of_getElem? (i := 14) rfl))) Via.refl e0 Ft1 (g := (mkF m 1 #[.val (.ref a1), .val (.ref a2), .unset] [(.ref a1)])) rfl rfl (hb hby d5_1)
  have pre3 : Go p e below (s₁.setTop (entryFrame m #[(.ref a1), (.ref a2)] 3)) (T2.setTop (mkF m 4 #[.val (.ref a1), .val (.ref a2), .unset] [(.long t1)])) := fun t k => pre1 t (st2 t k)
  have pre4 : Go p e below (s₁.setTop (entryFrame m #[(.ref a1), (.ref a2)] 3)) (T2.setTop (mkF m 5 #[.val (.ref a1), .val (.ref a2), .unset] [(.ref a2), (.long t1)])) := by
    intro t k
    refine pre3 t ?_
    show Steps p.tables e below (T2.setTop (mkF m 4 #[.val (.ref a1), .val (.ref a2), .unset] [(.long t1)])) _
    refine XS.aloadN X2.here hx rfl (hb hby d5_4) rfl rfl ?_
    show Steps p.tables e below (T2.setTop (mkF m 5 #[.val (.ref a1), .val (.ref a2), .unset] [(.ref a2), (.long t1)])) _
    exact k
  obtain ⟨T5, X5, e5, st5⟩ := getF X2 hx hZ hown (host := "") (Or.inl (hw _ (List.mem_of_getElem? (i := 14) rfl))) Via.refl e2 Ft2 (g := (mkF m 5 #[.val (.ref a1), .val (.ref a2), .unset] [(.ref a2), (.long t1)])) rfl rfl (hb hby d5_5)
  have pre6 : Go p e below (s₁.setTop (entryFrame m #[(.ref a1), (.ref a2)] 3)) (T5.setTop (mkF m 8 #[.val (.ref a1), .val (.ref a2), .unset] [(.long t2), (.long t1)])) := fun t k => pre4 t (st5 t k)
  obtain ⟨_, _, ⟨T7, L7, k7, n7⟩, -, X7, ⟨Lc7, hQ7, l7, y7, z7⟩, st7⟩ := Jvm.LawKit.callS X5 hx (y := (⟨"java/lang/Long", "compare", "(JJ)I"⟩ : MethodName)) hown (mvT hZ (hw _ (List.mem_of_getElem? (i := 28) rfl))) (mvT hZ (hw _ (List.mem_of_getElem? (i := 29) rfl))) (mvT hZ (hw _ (List.mem_of_getElem? (i := 30) rfl))) (mvT hZ (hw _ (List.mem_of_getElem? (i := 31) rfl))) (by decide) (backOf (W := 0) (rm6 l Z a0 hw [] t1 t2  h0 n0 Z0 ) hZ (hw _ (List.mem_of_getElem? (i := 31) rfl)) (hw _ (List.mem_of_getElem? (i := 30) rfl)) (by decide) (by decide)) (g := (mkF m 8 #[.val (.ref a1), .val (.ref a2), .unset] [(.long t2), (.long t1)])) rfl (by rw [hml]; rfl) (argsL := [(.long t1), (.long t2)]) (rest := []) (lenOf pd_5 rfl) rfl (by show 2 * 0 + _ ≤ _; exact Nat.le_of_eq rfl) (hb hby d5_8) (fun _ _ => ⟨rfl, e5, (by decide : 0 + 0 ≤ _), (by decide : 0 + 0 ≤ _)⟩)
  dsimp only [Pt.U, Pt.locs, Pt.cells, Pt.slots] at X7 l7 y7 z7 st7 hQ7
  subst l7 y7 z7
  obtain ⟨rfl, N7q, hh7⟩ := hQ7
  have N7 := Fr.app N0 N7q
  have pre8 : Go p e below (s₁.setTop (entryFrame m #[(.ref a1), (.ref a2)] 3)) (T7.setTop (mkF m 11 #[.val (.ref a1), .val (.ref a2), .unset] [(.int (f6 t1 t2))])) := fun t k => pre6 t (st7 t k)
  have pre9 : Go p e below (s₁.setTop (entryFrame m #[(.ref a1), (.ref a2)] 3)) (T7.setTop (mkF m 13 #[.val (.ref a1), .val (.ref a2), .val (.int (f6 t1 t2))] [(.int (f6 t1 t2))])) := by
    intro t k
    refine pre8 t ?_
    show Steps p.tables e below (T7.setTop (mkF m 11 #[.val (.ref a1), .val (.ref a2), .unset] [(.int (f6 t1 t2))])) _
    refine XS.istoreN X7.here hx rfl (hb hby d5_11) rfl (l' := #[.val (.ref a1), .val (.ref a2), .val (.int (f6 t1 t2))]) rfl ?_
    show Steps p.tables e below (T7.setTop (mkF m 12 #[.val (.ref a1), .val (.ref a2), .val (.int (f6 t1 t2))] [])) _
    refine XS.iloadN X7.here hx rfl (hb hby d5_12) rfl ?_
    show Steps p.tables e below (T7.setTop (mkF m 13 #[.val (.ref a1), .val (.ref a2), .val (.int (f6 t1 t2))] [(.int (f6 t1 t2))])) _
    exact k
  by_cases hc13_10 : (f6 t1 t2) = (0 : Int32)
  · skip
    have pre11 : Go p e below (s₁.setTop (entryFrame m #[(.ref a1), (.ref a2)] 3)) (T7.setTop (mkF m 21 #[.val (.ref a1), .val (.ref a2), .val (.int (f6 t1 t2))] [(.ref a1)])) := by
      intro t k
      refine pre9 t ?_
      show Steps p.tables e below (T7.setTop (mkF m 13 #[.val (.ref a1), .val (.ref a2), .val (.int (f6 t1 t2))] [(.int (f6 t1 t2))])) _
      refine XS.ifYes X7.here hx rfl (pc0 := 13) (pc' := 20) rfl (hb hby d5_13) rfl (XT.i0_eq_t hc13_10) (by decide) (by decide) ?_
      show Steps p.tables e below (T7.setTop (mkF m 20 #[.val (.ref a1), .val (.ref a2), .val (.int (f6 t1 t2))] [])) _
      refine XS.aloadN X7.here hx rfl (hb hby d5_20) rfl rfl ?_
      show Steps p.tables e below (T7.setTop (mkF m 21 #[.val (.ref a1), .val (.ref a2), .val (.int (f6 t1 t2))] [(.ref a1)])) _
      exact k
    obtain ⟨T12, X12, e12, st12⟩ := getF X7 hx hZ hown (host := "") (Or.inl (hw _ (List.mem_of_getElem? (i := 16) rfl))) Via.refl hh7 Fm1 (g := (mkF m 21 #[.val (.ref a1), .val (.ref a2), .val (.int (f6 t1 t2))] [(.ref a1)])) rfl rfl (hb hby d5_21)
    have pre13 : Go p e below (s₁.setTop (entryFrame m #[(.ref a1), (.ref a2)] 3)) (T12.setTop (mkF m 24 #[.val (.ref a1), .val (.ref a2), .val (.int (f6 t1 t2))] [(.int m1)])) := fun t k => pre11 t (st12 t k)
    have pre14 : Go p e below (s₁.setTop (entryFrame m #[(.ref a1), (.ref a2)] 3)) (T12.setTop (mkF m 25 #[.val (.ref a1), .val (.ref a2), .val (.int (f6 t1 t2))] [(.ref a2), (.int m1)])) := by
      intro t k
      refine pre13 t ?_
      show Steps p.tables e below (T12.setTop (mkF m 24 #[.val (.ref a1), .val (.ref a2), .val (.int (f6 t1 t2))] [(.int m1)])) _
      refine XS.aloadN X12.here hx rfl (hb hby d5_24) rfl rfl ?_
      show Steps p.tables e below (T12.setTop (mkF m 25 #[.val (.ref a1), .val (.ref a2), .val (.int (f6 t1 t2))] [(.ref a2), (.int m1)])) _
      exact k
    obtain ⟨T15, X15, e15, st15⟩ := getF X12 hx hZ hown (host := "") (Or.inl (hw _ (List.mem_of_getElem? (i := 16) rfl))) Via.refl e12 Fm2 (g := (mkF m 25 #[.val (.ref a1), .val (.ref a2), .val (.int (f6 t1 t2))] [(.ref a2), (.int m1)])) rfl rfl (hb hby d5_25)
    have pre16 : Go p e below (s₁.setTop (entryFrame m #[(.ref a1), (.ref a2)] 3)) (T15.setTop (mkF m 28 #[.val (.ref a1), .val (.ref a2), .val (.int (f6 t1 t2))] [(.int m2), (.int m1)])) := fun t k => pre14 t (st15 t k)
    obtain ⟨_, _, ⟨T17, L17, k17, n17⟩, -, X17, ⟨Lc17, hQ17, l17, y17, z17⟩, st17⟩ := Jvm.LawKit.callS X15 hx (y := (⟨"java/lang/Integer", "compare", "(II)I"⟩ : MethodName)) hown (mvT hZ (hw _ (List.mem_of_getElem? (i := 36) rfl))) (mvT hZ (hw _ (List.mem_of_getElem? (i := 37) rfl))) (mvT hZ (hw _ (List.mem_of_getElem? (i := 38) rfl))) (mvT hZ (hw _ (List.mem_of_getElem? (i := 39) rfl))) (by decide) (backOf (W := 0) (rm8 l Z a0 hw [] m1 m2  h0 n0 Z0 ) hZ (hw _ (List.mem_of_getElem? (i := 39) rfl)) (hw _ (List.mem_of_getElem? (i := 38) rfl)) (by decide) (by decide)) (g := (mkF m 28 #[.val (.ref a1), .val (.ref a2), .val (.int (f6 t1 t2))] [(.int m2), (.int m1)])) rfl (by rw [hml]; rfl) (argsL := [(.int m1), (.int m2)]) (rest := []) (lenOf pd_6 rfl) rfl (by show 2 * 0 + _ ≤ _; exact Nat.le_of_eq rfl) (hb hby d5_28) (fun _ _ => ⟨rfl, e15, (by decide : 0 + 0 ≤ _), (by decide : 0 + 0 ≤ _)⟩)
    dsimp only [Pt.U, Pt.locs, Pt.cells, Pt.slots] at X17 l17 y17 z17 st17 hQ17
    subst l17 y17 z17
    obtain ⟨rfl, N17q, hh17⟩ := hQ17
    have N17 := Fr.app N7 N17q
    have pre18 : Go p e below (s₁.setTop (entryFrame m #[(.ref a1), (.ref a2)] 3)) (T17.setTop (mkF m 31 #[.val (.ref a1), .val (.ref a2), .val (.int (f6 t1 t2))] [(.int (f8 m1 m2))])) := fun t k => pre16 t (st17 t k)
    obtain ⟨fs, hr, hrun, hended, hW, hsame⟩ := X17.leave (hlocks := hlk) (v := some (.int (f8 m1 m2))) (fun h => by rw [Bd.returns] at h; cases h)
    refine ⟨_, _, pre18 _ (retI X17 hx Bd.returns (hb hby d5_31) hr), hrun, hended, _, _, rfl, ?_, ⟨_, rfl⟩, hW, hsame.mono (by decide) (by decide)⟩
    show Q5 Z a1 a2 t1 m1 t2 m2 h0 n0 _ T17.heap _
    rw [hh17]
    exact ⟨congrArg some (congrArg Value.int (show (f8 m1 m2) = fcmp t1 m1 t2 m2 from by rw [fcmp, if_pos hc13_10])), N17, rfl⟩
  · skip
    have pre19 : Go p e below (s₁.setTop (entryFrame m #[(.ref a1), (.ref a2)] 3)) (T7.setTop (mkF m 31 #[.val (.ref a1), .val (.ref a2), .val (.int (f6 t1 t2))] [(.int (f6 t1 t2))])) := by
      intro t k
      refine pre9 t ?_
      show Steps p.tables e below (T7.setTop (mkF m 13 #[.val (.ref a1), .val (.ref a2), .val (.int (f6 t1 t2))] [(.int (f6 t1 t2))])) _
      refine XS.ifNo X7.here hx rfl (hb hby d5_13) rfl (XT.i0_eq_f hc13_10) ?_
      show Steps p.tables e below (T7.setTop (mkF m 16 #[.val (.ref a1), .val (.ref a2), .val (.int (f6 t1 t2))] [])) _
      refine XS.iloadN X7.here hx rfl (hb hby d5_16) rfl ?_
      show Steps p.tables e below (T7.setTop (mkF m 17 #[.val (.ref a1), .val (.ref a2), .val (.int (f6 t1 t2))] [(.int (f6 t1 t2))])) _
      refine XS.goto X7.here hx rfl (pc0 := 17) (pc' := 31) rfl (hb hby d5_17) (by decide) (by decide) ?_
      show Steps p.tables e below (T7.setTop (mkF m 31 #[.val (.ref a1), .val (.ref a2), .val (.int (f6 t1 t2))] [(.int (f6 t1 t2))])) _
      exact k
    obtain ⟨fs, hr, hrun, hended, hW, hsame⟩ := X7.leave (hlocks := hlk) (v := some (.int (f6 t1 t2))) (fun h => by rw [Bd.returns] at h; cases h)
    refine ⟨_, _, pre19 _ (retI X7 hx Bd.returns (hb hby d5_31) hr), hrun, hended, _, _, rfl, ?_, ⟨_, rfl⟩, hW, hsame.mono (by decide) (by decide)⟩
    show Q5 Z a1 a2 t1 m1 t2 m2 h0 n0 _ T7.heap _
    rw [hh7]
    exact ⟨congrArg some (congrArg Value.int (show (f6 t1 t2) = fcmp t1 m1 t2 m2 from by rw [fcmp, if_neg hc13_10])), N7, rfl⟩
theorem ef_7 (m : MethodId) (p0 : Int64) (p1 : Int32) (p2 : Int64) (p3 : Int32) : entryFrame m #[(.long p0), (.int p1), (.long p2), (.int p3)] 6 = mkF m 0 #[.val (.long p0), .second, .val (.int p1), .val (.long p2), .second, .val (.int p3)] [] := by first | (simp [entryFrame, mkF, argsToLocals, Value.category]; done) | rfl
theorem d7_0 : decode method_2_code 0 = .ok (.lload_n 0, 1) := by decide +kernel
theorem d7_1 : decode method_2_code 1 = .ok (.lload_n 3, 1) := by decide +kernel
theorem d7_2 : decode method_2_code 2 = .ok (.lcmp, 1) := by decide +kernel
theorem d7_3 : decode method_2_code 3 = .ok (.ifCond .ge 5, 3) := by decide +kernel
theorem d7_6 : decode method_2_code 6 = .ok (.iconst 1, 1) := by decide +kernel
theorem d7_7 : decode method_2_code 7 = .ok (.ireturn, 1) := by decide +kernel
theorem d7_8 : decode method_2_code 8 = .ok (.lload_n 0, 1) := by decide +kernel
theorem d7_9 : decode method_2_code 9 = .ok (.lload_n 3, 1) := by decide +kernel
theorem d7_10 : decode method_2_code 10 = .ok (.lcmp, 1) := by decide +kernel
theorem d7_11 : decode method_2_code 11 = .ok (.ifCond .le 5, 3) := by decide +kernel
theorem d7_14 : decode method_2_code 14 = .ok (.iconst 0, 1) := by decide +kernel
theorem d7_15 : decode method_2_code 15 = .ok (.ireturn, 1) := by decide +kernel
theorem d7_16 : decode method_2_code 16 = .ok (.iload_n 2, 1) := by decide +kernel
theorem d7_17 : decode method_2_code 17 = .ok (.iload 5, 2) := by decide +kernel
theorem d7_19 : decode method_2_code 19 = .ok (.if_icmp .ge 7, 3) := by decide +kernel
theorem d7_22 : decode method_2_code 22 = .ok (.iconst 1, 1) := by decide +kernel
theorem d7_23 : decode method_2_code 23 = .ok (.goto 4, 3) := by decide +kernel
theorem d7_27 : decode method_2_code 27 = .ok (.ireturn, 1) := by decide +kernel
theorem d7_26 : decode method_2_code 26 = .ok (.iconst 0, 1) := by decide +kernel
def flex (p0 : Int64) (p1 : Int32) (p2 : Int64) (p3 : Int32) : Int32 := (if p0 < p2 then (1 : Int32) else (if p2 < p0 then (0 : Int32) else (if p1 < p3 then (1 : Int32) else (0 : Int32))))
def Q7 (Z : State) (p0 : Int64) (p1 : Int32) (p2 : Int64) (p3 : Int32) (h0 : Heap) (n0 : Nat) (v : Option Value) (h : Heap) (L : List Loc) : Prop := v = some (.int (flex p0 p1 p2 p3)) ∧ Fr n0 L ∧ h = h0
set_option maxRecDepth 65536 in
set_option maxHeartbeats 40000000 in
theorem pn_com_example_agree_over_wire_agreeoverwire_service_RequestStampIsBeforePinLaw : plainName "com/example/agree_over_wire/agreeoverwire/service/RequestStampIsBeforePinLaw" = true := by first | (simp [plainName, overriddenIn]; done) | decide +kernel
theorem rm7 (l : Launch) (Z : State) (a0 : Array Value) (hw : ∀ d ∈ tables_1, d.before a0 Z = true) (ws : List Jvm.Cond) (p0 : Int64) (p1 : Int32) (p2 : Int64) (p3 : Int32) (h0 : Heap) (n0 : Nat) (Z0 : n0 ≤ h0.size) :
    MetFree l (⟨"com/example/agree_over_wire/agreeoverwire/service/RequestStampIsBeforePinLaw", "lexLess", "(JIJI)Z"⟩ : MethodName) (head1 (Jvm.Cond.code (⟨"com/example/agree_over_wire/agreeoverwire/service/RequestStampIsBeforePinLaw", "lexLess", "(JIJI)Z"⟩ : MethodName) method_2_code 6 (some .boolean) :: ws) ({ frames := 0, cells := 0, slots := 0, locals := 0 } : Room)) (fun a U => a = #[(.long p0), (.int p1), (.long p2), (.int p3)] ∧ Z.Warmed39 U.vm ∧ U.heap = h0) (fun _ _ _ _ _ => True) (fun _ U o U' => ∃ v L, o = .returned v ∧ Q7 Z p0 p1 p2 p3 h0 n0 v U'.heap L ∧ FrameEnd U o U' L ({ frames := 0, cells := 0, slots := 0, locals := 0 } : Room).cells ({ frames := 0, cells := 0, slots := 0, locals := 0 } : Room).slots) := by
  refine MetFree.of_bodySF (plainFor_of_name pn_com_example_agree_over_wire_agreeoverwire_service_RequestStampIsBeforePinLaw) hisR ?_
  intro p e s m args below meth c s₁ Bd hml0 hP hK
  obtain ⟨rfl, hZ, hh⟩ := hP
  have hx := Bd.exec
  have hby := Bd.bytes
  have hml : c.maxLocals = 6 := hml0
  have hown : s.vm.findClass "com/example/agree_over_wire/agreeoverwire/service/RequestStampIsBeforePinLaw" = some m.cls := findClass_of_methodNamed Bd.named
  have hnm := (name_of_methodNamed Bd.named Bd.method).1
  have hlk : meth.locks = false := BodyLoose.notSynchronized Bd
  have X0 : Stand p l e ({ frames := 0, cells := 0, slots := 0, locals := 0 } : Room) s m #[(.long p0), (.int p1), (.long p2), (.int p3)] below meth c s₁ [] 0 0 := Stand.of_body Bd
  have e0 : s₁.heap = h0 := by rw [← hh, Bd.state]; rfl
  have N0 := Fr.nil n0
  have pre0 : Go p e below (s₁.setTop (entryFrame m #[(.long p0), (.int p1), (.long p2), (.int p3)] 6)) (s₁.setTop (mkF m 0 #[.val (.long p0), .second, .val (.int p1), .val (.long p2), .second, .val (.int p3)] [])) := fun t k => castTop (ef_7 m p0 p1 p2 p3) k
  have pre1 : Go p e below (s₁.setTop (entryFrame m #[(.long p0), (.int p1), (.long p2), (.int p3)] 6)) (s₁.setTop (mkF m 3 #[.val (.long p0), .second, .val (.int p1), .val (.long p2), .second, .val (.int p3)] [(.int (XT.cmpL p0 p2))])) := by
    intro t k
    refine pre0 t ?_
    show Steps p.tables e below (s₁.setTop (mkF m 0 #[.val (.long p0), .second, .val (.int p1), .val (.long p2), .second, .val (.int p3)] [])) _
    refine XT.lloadN X0.here hx rfl (hb hby d7_0) rfl ?_
    show Steps p.tables e below (s₁.setTop (mkF m 1 #[.val (.long p0), .second, .val (.int p1), .val (.long p2), .second, .val (.int p3)] [(.long p0)])) _
    refine XT.lloadN X0.here hx rfl (hb hby d7_1) rfl ?_
    show Steps p.tables e below (s₁.setTop (mkF m 2 #[.val (.long p0), .second, .val (.int p1), .val (.long p2), .second, .val (.int p3)] [(.long p2), (.long p0)])) _
    refine XT.lcmp X0.here hx rfl (hb hby d7_2) rfl ?_
    show Steps p.tables e below (s₁.setTop (mkF m 3 #[.val (.long p0), .second, .val (.int p1), .val (.long p2), .second, .val (.int p3)] [(.int (XT.cmpL p0 p2))])) _
    exact k
  by_cases hc3_2 : p0 < p2
  · skip
    have pre3 : Go p e below (s₁.setTop (entryFrame m #[(.long p0), (.int p1), (.long p2), (.int p3)] 6)) (s₁.setTop (mkF m 7 #[.val (.long p0), .second, .val (.int p1), .val (.long p2), .second, .val (.int p3)] [(.int (1 : Int32))])) := by
      intro t k
      refine pre1 t ?_
      show Steps p.tables e below (s₁.setTop (mkF m 3 #[.val (.long p0), .second, .val (.int p1), .val (.long p2), .second, .val (.int p3)] [(.int (XT.cmpL p0 p2))])) _
      refine XS.ifNo X0.here hx rfl (hb hby d7_3) rfl (XT.ll_ge_f hc3_2) ?_
      show Steps p.tables e below (s₁.setTop (mkF m 6 #[.val (.long p0), .second, .val (.int p1), .val (.long p2), .second, .val (.int p3)] [])) _
      refine XS.iconst X0.here hx rfl (hb hby d7_6) ?_
      show Steps p.tables e below (s₁.setTop (mkF m 7 #[.val (.long p0), .second, .val (.int p1), .val (.long p2), .second, .val (.int p3)] [(.int (1 : Int32))])) _
      exact k
    obtain ⟨fs, hr, hrun, hended, hW, hsame⟩ := X0.leave (hlocks := hlk) (v := some (.int (1 : Int32))) (fun h => by rw [Bd.returns] at h; cases h)
    refine ⟨_, _, pre3 _ (retN X0 hx (t := .boolean) Bd.returns (by simp) (hb hby d7_7) hr), hrun, hended, _, _, rfl, ?_, ⟨_, rfl⟩, hW, hsame.mono (by decide) (by decide)⟩
    show Q7 Z p0 p1 p2 p3 h0 n0 _ s₁.heap _
    rw [e0]
    exact ⟨congrArg some (congrArg Value.int (show (1 : Int32) = flex p0 p1 p2 p3 from by rw [flex, if_pos hc3_2])), N0, rfl⟩
  · skip
    have pre4 : Go p e below (s₁.setTop (entryFrame m #[(.long p0), (.int p1), (.long p2), (.int p3)] 6)) (s₁.setTop (mkF m 11 #[.val (.long p0), .second, .val (.int p1), .val (.long p2), .second, .val (.int p3)] [(.int (XT.cmpL p0 p2))])) := by
      intro t k
      refine pre1 t ?_
      show Steps p.tables e below (s₁.setTop (mkF m 3 #[.val (.long p0), .second, .val (.int p1), .val (.long p2), .second, .val (.int p3)] [(.int (XT.cmpL p0 p2))])) _
      refine XS.ifYes X0.here hx rfl (pc0 := 3) (pc' := 8) rfl (hb hby d7_3) rfl (XT.ll_ge_t hc3_2) (by decide) (by decide) ?_
      show Steps p.tables e below (s₁.setTop (mkF m 8 #[.val (.long p0), .second, .val (.int p1), .val (.long p2), .second, .val (.int p3)] [])) _
      refine XT.lloadN X0.here hx rfl (hb hby d7_8) rfl ?_
      show Steps p.tables e below (s₁.setTop (mkF m 9 #[.val (.long p0), .second, .val (.int p1), .val (.long p2), .second, .val (.int p3)] [(.long p0)])) _
      refine XT.lloadN X0.here hx rfl (hb hby d7_9) rfl ?_
      show Steps p.tables e below (s₁.setTop (mkF m 10 #[.val (.long p0), .second, .val (.int p1), .val (.long p2), .second, .val (.int p3)] [(.long p2), (.long p0)])) _
      refine XT.lcmp X0.here hx rfl (hb hby d7_10) rfl ?_
      show Steps p.tables e below (s₁.setTop (mkF m 11 #[.val (.long p0), .second, .val (.int p1), .val (.long p2), .second, .val (.int p3)] [(.int (XT.cmpL p0 p2))])) _
      exact k
    by_cases hc11_5 : p2 < p0
    · skip
      have pre6 : Go p e below (s₁.setTop (entryFrame m #[(.long p0), (.int p1), (.long p2), (.int p3)] 6)) (s₁.setTop (mkF m 15 #[.val (.long p0), .second, .val (.int p1), .val (.long p2), .second, .val (.int p3)] [(.int (0 : Int32))])) := by
        intro t k
        refine pre4 t ?_
        show Steps p.tables e below (s₁.setTop (mkF m 11 #[.val (.long p0), .second, .val (.int p1), .val (.long p2), .second, .val (.int p3)] [(.int (XT.cmpL p0 p2))])) _
        refine XS.ifNo X0.here hx rfl (hb hby d7_11) rfl (XT.ll_le_f hc11_5) ?_
        show Steps p.tables e below (s₁.setTop (mkF m 14 #[.val (.long p0), .second, .val (.int p1), .val (.long p2), .second, .val (.int p3)] [])) _
        refine XS.iconst X0.here hx rfl (hb hby d7_14) ?_
        show Steps p.tables e below (s₁.setTop (mkF m 15 #[.val (.long p0), .second, .val (.int p1), .val (.long p2), .second, .val (.int p3)] [(.int (0 : Int32))])) _
        exact k
      obtain ⟨fs, hr, hrun, hended, hW, hsame⟩ := X0.leave (hlocks := hlk) (v := some (.int (0 : Int32))) (fun h => by rw [Bd.returns] at h; cases h)
      refine ⟨_, _, pre6 _ (retN X0 hx (t := .boolean) Bd.returns (by simp) (hb hby d7_15) hr), hrun, hended, _, _, rfl, ?_, ⟨_, rfl⟩, hW, hsame.mono (by decide) (by decide)⟩
      show Q7 Z p0 p1 p2 p3 h0 n0 _ s₁.heap _
      rw [e0]
      exact ⟨congrArg some (congrArg Value.int (show (0 : Int32) = flex p0 p1 p2 p3 from by rw [flex, if_neg hc3_2, if_pos hc11_5])), N0, rfl⟩
    · skip
      have pre7 : Go p e below (s₁.setTop (entryFrame m #[(.long p0), (.int p1), (.long p2), (.int p3)] 6)) (s₁.setTop (mkF m 19 #[.val (.long p0), .second, .val (.int p1), .val (.long p2), .second, .val (.int p3)] [(.int p3), (.int p1)])) := by
        intro t k
        refine pre4 t ?_
        show Steps p.tables e below (s₁.setTop (mkF m 11 #[.val (.long p0), .second, .val (.int p1), .val (.long p2), .second, .val (.int p3)] [(.int (XT.cmpL p0 p2))])) _
        refine XS.ifYes X0.here hx rfl (pc0 := 11) (pc' := 16) rfl (hb hby d7_11) rfl (XT.ll_le_t hc11_5) (by decide) (by decide) ?_
        show Steps p.tables e below (s₁.setTop (mkF m 16 #[.val (.long p0), .second, .val (.int p1), .val (.long p2), .second, .val (.int p3)] [])) _
        refine XS.iloadN X0.here hx rfl (hb hby d7_16) rfl ?_
        show Steps p.tables e below (s₁.setTop (mkF m 17 #[.val (.long p0), .second, .val (.int p1), .val (.long p2), .second, .val (.int p3)] [(.int p1)])) _
        refine XS.iload X0.here hx rfl (hb hby d7_17) rfl ?_
        show Steps p.tables e below (s₁.setTop (mkF m 19 #[.val (.long p0), .second, .val (.int p1), .val (.long p2), .second, .val (.int p3)] [(.int p3), (.int p1)])) _
        exact k
      by_cases hc19_8 : p1 < p3
      · skip
        have pre9 : Go p e below (s₁.setTop (entryFrame m #[(.long p0), (.int p1), (.long p2), (.int p3)] 6)) (s₁.setTop (mkF m 27 #[.val (.long p0), .second, .val (.int p1), .val (.long p2), .second, .val (.int p3)] [(.int (1 : Int32))])) := by
          intro t k
          refine pre7 t ?_
          show Steps p.tables e below (s₁.setTop (mkF m 19 #[.val (.long p0), .second, .val (.int p1), .val (.long p2), .second, .val (.int p3)] [(.int p3), (.int p1)])) _
          refine XS.icmpNo X0.here hx rfl (hb hby d7_19) rfl (XT.ii_ge_f hc19_8) ?_
          show Steps p.tables e below (s₁.setTop (mkF m 22 #[.val (.long p0), .second, .val (.int p1), .val (.long p2), .second, .val (.int p3)] [])) _
          refine XS.iconst X0.here hx rfl (hb hby d7_22) ?_
          show Steps p.tables e below (s₁.setTop (mkF m 23 #[.val (.long p0), .second, .val (.int p1), .val (.long p2), .second, .val (.int p3)] [(.int (1 : Int32))])) _
          refine XS.goto X0.here hx rfl (pc0 := 23) (pc' := 27) rfl (hb hby d7_23) (by decide) (by decide) ?_
          show Steps p.tables e below (s₁.setTop (mkF m 27 #[.val (.long p0), .second, .val (.int p1), .val (.long p2), .second, .val (.int p3)] [(.int (1 : Int32))])) _
          exact k
        obtain ⟨fs, hr, hrun, hended, hW, hsame⟩ := X0.leave (hlocks := hlk) (v := some (.int (1 : Int32))) (fun h => by rw [Bd.returns] at h; cases h)
        refine ⟨_, _, pre9 _ (retN X0 hx (t := .boolean) Bd.returns (by simp) (hb hby d7_27) hr), hrun, hended, _, _, rfl, ?_, ⟨_, rfl⟩, hW, hsame.mono (by decide) (by decide)⟩
        show Q7 Z p0 p1 p2 p3 h0 n0 _ s₁.heap _
        rw [e0]
        exact ⟨congrArg some (congrArg Value.int (show (1 : Int32) = flex p0 p1 p2 p3 from by rw [flex, if_neg hc3_2, if_neg hc11_5, if_pos hc19_8])), N0, rfl⟩
      · skip
        have pre10 : Go p e below (s₁.setTop (entryFrame m #[(.long p0), (.int p1), (.long p2), (.int p3)] 6)) (s₁.setTop (mkF m 27 #[.val (.long p0), .second, .val (.int p1), .val (.long p2), .second, .val (.int p3)] [(.int (0 : Int32))])) := by
          intro t k
          refine pre7 t ?_
          show Steps p.tables e below (s₁.setTop (mkF m 19 #[.val (.long p0), .second, .val (.int p1), .val (.long p2), .second, .val (.int p3)] [(.int p3), (.int p1)])) _
          refine XS.icmpYes X0.here hx rfl (pc0 := 19) (pc' := 26) rfl (hb hby d7_19) rfl (XT.ii_ge_t hc19_8) (by decide) (by decide) ?_
          show Steps p.tables e below (s₁.setTop (mkF m 26 #[.val (.long p0), .second, .val (.int p1), .val (.long p2), .second, .val (.int p3)] [])) _
          refine XS.iconst X0.here hx rfl (hb hby d7_26) ?_
          show Steps p.tables e below (s₁.setTop (mkF m 27 #[.val (.long p0), .second, .val (.int p1), .val (.long p2), .second, .val (.int p3)] [(.int (0 : Int32))])) _
          exact k
        obtain ⟨fs, hr, hrun, hended, hW, hsame⟩ := X0.leave (hlocks := hlk) (v := some (.int (0 : Int32))) (fun h => by rw [Bd.returns] at h; cases h)
        refine ⟨_, _, pre10 _ (retN X0 hx (t := .boolean) Bd.returns (by simp) (hb hby d7_27) hr), hrun, hended, _, _, rfl, ?_, ⟨_, rfl⟩, hW, hsame.mono (by decide) (by decide)⟩
        show Q7 Z p0 p1 p2 p3 h0 n0 _ s₁.heap _
        rw [e0]
        exact ⟨congrArg some (congrArg Value.int (show (0 : Int32) = flex p0 p1 p2 p3 from by rw [flex, if_neg hc3_2, if_neg hc11_5, if_neg hc19_8])), N0, rfl⟩
theorem ef_4 (m : MethodId) (a1 : Addr) (a2 : Addr) : entryFrame m #[(.ref a1), (.ref a2)] 2 = mkF m 0 #[.val (.ref a1), .val (.ref a2)] [] := by first | (simp [entryFrame, mkF, argsToLocals, Value.category]; done) | rfl
theorem d4_0 : decode prog_42_method_5_code 0 = .ok (.aload_n 0, 1) := by decide +kernel
theorem d4_1 : decode prog_42_method_5_code 1 = .ok (.aload_n 1, 1) := by decide +kernel
theorem d4_2 : decode prog_42_method_5_code 2 = .ok (.invokevirtual 72, 3) := by decide +kernel
theorem pd_9 : parseMethodDescriptor "(Lcom/example/agree_over_wire/agreeoverwire/service/RequestStamp;)I" = some ⟨[(.object "com/example/agree_over_wire/agreeoverwire/service/RequestStamp")], some .int⟩ := by decide +kernel
theorem d4_5 : decode prog_42_method_5_code 5 = .ok (.ifCond .ge 7, 3) := by decide +kernel
theorem d4_8 : decode prog_42_method_5_code 8 = .ok (.iconst 1, 1) := by decide +kernel
theorem d4_9 : decode prog_42_method_5_code 9 = .ok (.goto 4, 3) := by decide +kernel
theorem d4_13 : decode prog_42_method_5_code 13 = .ok (.ireturn, 1) := by decide +kernel
theorem d4_12 : decode prog_42_method_5_code 12 = .ok (.iconst 0, 1) := by decide +kernel
def fib (t1 : Int64) (m1 : Int32) (t2 : Int64) (m2 : Int32) : Int32 := (if (fcmp t1 m1 t2 m2) < (0 : Int32) then (1 : Int32) else (0 : Int32))
def Q4 (Z : State) (a1 : Addr) (a2 : Addr) (t1 : Int64) (m1 : Int32) (t2 : Int64) (m2 : Int32) (h0 : Heap) (n0 : Nat) (v : Option Value) (h : Heap) (L : List Loc) : Prop := v = some (.int (fib t1 m1 t2 m2)) ∧ Fr n0 L ∧ h = h0
set_option maxRecDepth 65536 in
set_option maxHeartbeats 40000000 in
theorem rm4 (l : Launch) (Z : State) (a0 : Array Value) (hw : ∀ d ∈ tables_1, d.before a0 Z = true) (ws : List Jvm.Cond) (a1 : Addr) (a2 : Addr) (t1 : Int64) (m1 : Int32) (t2 : Int64) (m2 : Int32) (h0 : Heap) (n0 : Nat) (Z0 : n0 ≤ h0.size) (Ft1 : Fld Z h0 a1 "com/example/agree_over_wire/agreeoverwire/service/RequestStamp" "time" "J" (.long t1)) (Fm1 : Fld Z h0 a1 "com/example/agree_over_wire/agreeoverwire/service/RequestStamp" "member" "I" (.int m1)) (Ft2 : Fld Z h0 a2 "com/example/agree_over_wire/agreeoverwire/service/RequestStamp" "time" "J" (.long t2)) (Fm2 : Fld Z h0 a2 "com/example/agree_over_wire/agreeoverwire/service/RequestStamp" "member" "I" (.int m2)) (E1 : Exa Z h0 a1 "com/example/agree_over_wire/agreeoverwire/service/RequestStamp") :
    MetFree l (⟨"com/example/agree_over_wire/agreeoverwire/service/RequestStamp", "isBefore", "(Lcom/example/agree_over_wire/agreeoverwire/service/RequestStamp;)Z"⟩ : MethodName) (head1 (Jvm.Cond.code (⟨"com/example/agree_over_wire/agreeoverwire/service/RequestStamp", "isBefore", "(Lcom/example/agree_over_wire/agreeoverwire/service/RequestStamp;)Z"⟩ : MethodName) prog_42_method_5_code 2 (some .boolean) :: ws) ({ frames := 2, cells := 0, slots := 0, locals := 29 } : Room)) (fun a U => a = #[(.ref a1), (.ref a2)] ∧ Z.Warmed39 U.vm ∧ U.heap = h0) (fun _ _ _ _ _ => True) (fun _ U o U' => ∃ v L, o = .returned v ∧ Q4 Z a1 a2 t1 m1 t2 m2 h0 n0 v U'.heap L ∧ FrameEnd U o U' L ({ frames := 2, cells := 0, slots := 0, locals := 29 } : Room).cells ({ frames := 2, cells := 0, slots := 0, locals := 29 } : Room).slots) := by
  refine MetFree.of_bodySF (plainFor_of_name pn_com_example_agree_over_wire_agreeoverwire_service_RequestStamp) hisR ?_
  intro p e s m args below meth c s₁ Bd hml0 hP hK
  obtain ⟨rfl, hZ, hh⟩ := hP
  have hx := Bd.exec
  have hby := Bd.bytes
  have hml : c.maxLocals = 2 := hml0
  have hown : s.vm.findClass "com/example/agree_over_wire/agreeoverwire/service/RequestStamp" = some m.cls := findClass_of_methodNamed Bd.named
  have hnm := (name_of_methodNamed Bd.named Bd.method).1
  have hlk : meth.locks = false := BodyLoose.notSynchronized Bd
  have X0 : Stand p l e ({ frames := 2, cells := 0, slots := 0, locals := 29 } : Room) s m #[(.ref a1), (.ref a2)] below meth c s₁ [] 0 0 := Stand.of_body Bd
  have e0 : s₁.heap = h0 := by rw [← hh, Bd.state]; rfl
  have N0 := Fr.nil n0
  have pre0 : Go p e below (s₁.setTop (entryFrame m #[(.ref a1), (.ref a2)] 2)) (s₁.setTop (mkF m 0 #[.val (.ref a1), .val (.ref a2)] [])) := fun t k => castTop (ef_4 m a1 a2) k
  have pre1 : Go p e below (s₁.setTop (entryFrame m #[(.ref a1), (.ref a2)] 2)) (s₁.setTop (mkF m 2 #[.val (.ref a1), .val (.ref a2)] [(.ref a2), (.ref a1)])) := by
    intro t k
    refine pre0 t ?_
    show Steps p.tables e below (s₁.setTop (mkF m 0 #[.val (.ref a1), .val (.ref a2)] [])) _
    refine XS.aloadN X0.here hx rfl (hb hby d4_0) rfl rfl ?_
    show Steps p.tables e below (s₁.setTop (mkF m 1 #[.val (.ref a1), .val (.ref a2)] [(.ref a1)])) _
    refine XS.aloadN X0.here hx rfl (hb hby d4_1) rfl rfl ?_
    show Steps p.tables e below (s₁.setTop (mkF m 2 #[.val (.ref a1), .val (.ref a2)] [(.ref a2), (.ref a1)])) _
    exact k
  obtain ⟨cq2, kq2, q2a, q2b, q2c⟩ := isOf hZ e0 E1
  obtain ⟨_, _, ⟨T2, L2, k2, n2⟩, -, X2, ⟨Lc2, hQ2, l2, y2, z2⟩, st2⟩ := X0.virtualBack hx (y := (⟨"com/example/agree_over_wire/agreeoverwire/service/RequestStamp", "compareTo", "(Lcom/example/agree_over_wire/agreeoverwire/service/RequestStamp;)I"⟩ : MethodName)) (z := (⟨"com/example/agree_over_wire/agreeoverwire/service/RequestStamp", "compareTo", "(Lcom/example/agree_over_wire/agreeoverwire/service/RequestStamp;)I"⟩ : MethodName)) hown (mvT hZ (hw _ (List.mem_of_getElem? (i := 23) rfl))) (mvT hZ (hw _ (List.mem_of_getElem? (i := 24) rfl))) (notFace_of_selects (args := #[]) (mvT hZ (hw _ (List.mem_of_getElem? (i := 26) rfl)))) (mvT hZ (hw _ (List.mem_of_getElem? (i := 26) rfl))) (mvT hZ (hw _ (List.mem_of_getElem? (i := 25) rfl))) (by decide) (backOf (W := 0) (rm5 l Z a0 hw [] a1 a2 t1 m1 t2 m2 h0 n0 Z0 Ft1 Fm1 Ft2 Fm2) hZ (hw _ (List.mem_of_getElem? (i := 27) rfl)) (hw _ (List.mem_of_getElem? (i := 2) rfl)) (by decide) (by decide)) q2a q2c (g := (mkF m 2 #[.val (.ref a1), .val (.ref a2)] [(.ref a2), (.ref a1)])) rfl (by rw [hml]; rfl) (Steps.refl _) (argsL := [(.ref a2)]) (rest := []) (lenOf pd_9 rfl) rfl (by show 2 * 0 + _ ≤ _; exact Nat.le_of_eq rfl) (hb hby d4_2) (fun _ _ => ⟨rfl, e0, (by decide : 0 + 0 ≤ _), (by decide : 0 + 0 ≤ _)⟩)
  dsimp only [Pt.U, Pt.locs, Pt.cells, Pt.slots] at X2 l2 y2 z2 st2 hQ2
  subst l2 y2 z2
  obtain ⟨rfl, N2q, hh2⟩ := hQ2
  have N2 := Fr.app N0 N2q
  have pre3 : Go p e below (s₁.setTop (entryFrame m #[(.ref a1), (.ref a2)] 2)) (T2.setTop (mkF m 5 #[.val (.ref a1), .val (.ref a2)] [(.int (fcmp t1 m1 t2 m2))])) := fun t k => pre1 t (st2.trans k)
  by_cases hc5_4 : (fcmp t1 m1 t2 m2) < (0 : Int32)
  · skip
    have pre5 : Go p e below (s₁.setTop (entryFrame m #[(.ref a1), (.ref a2)] 2)) (T2.setTop (mkF m 13 #[.val (.ref a1), .val (.ref a2)] [(.int (1 : Int32))])) := by
      intro t k
      refine pre3 t ?_
      show Steps p.tables e below (T2.setTop (mkF m 5 #[.val (.ref a1), .val (.ref a2)] [(.int (fcmp t1 m1 t2 m2))])) _
      refine XS.ifNo X2.here hx rfl (hb hby d4_5) rfl (XT.i0_ge_f hc5_4) ?_
      show Steps p.tables e below (T2.setTop (mkF m 8 #[.val (.ref a1), .val (.ref a2)] [])) _
      refine XS.iconst X2.here hx rfl (hb hby d4_8) ?_
      show Steps p.tables e below (T2.setTop (mkF m 9 #[.val (.ref a1), .val (.ref a2)] [(.int (1 : Int32))])) _
      refine XS.goto X2.here hx rfl (pc0 := 9) (pc' := 13) rfl (hb hby d4_9) (by decide) (by decide) ?_
      show Steps p.tables e below (T2.setTop (mkF m 13 #[.val (.ref a1), .val (.ref a2)] [(.int (1 : Int32))])) _
      exact k
    obtain ⟨fs, hr, hrun, hended, hW, hsame⟩ := X2.leave (hlocks := hlk) (v := some (.int (1 : Int32))) (fun h => by rw [Bd.returns] at h; cases h)
    refine ⟨_, _, pre5 _ (retN X2 hx (t := .boolean) Bd.returns (by simp) (hb hby d4_13) hr), hrun, hended, _, _, rfl, ?_, ⟨_, rfl⟩, hW, hsame.mono (by decide) (by decide)⟩
    show Q4 Z a1 a2 t1 m1 t2 m2 h0 n0 _ T2.heap _
    rw [hh2]
    exact ⟨congrArg some (congrArg Value.int (show (1 : Int32) = fib t1 m1 t2 m2 from by rw [fib, if_pos hc5_4])), N2, rfl⟩
  · skip
    have pre6 : Go p e below (s₁.setTop (entryFrame m #[(.ref a1), (.ref a2)] 2)) (T2.setTop (mkF m 13 #[.val (.ref a1), .val (.ref a2)] [(.int (0 : Int32))])) := by
      intro t k
      refine pre3 t ?_
      show Steps p.tables e below (T2.setTop (mkF m 5 #[.val (.ref a1), .val (.ref a2)] [(.int (fcmp t1 m1 t2 m2))])) _
      refine XS.ifYes X2.here hx rfl (pc0 := 5) (pc' := 12) rfl (hb hby d4_5) rfl (XT.i0_ge_t hc5_4) (by decide) (by decide) ?_
      show Steps p.tables e below (T2.setTop (mkF m 12 #[.val (.ref a1), .val (.ref a2)] [])) _
      refine XS.iconst X2.here hx rfl (hb hby d4_12) ?_
      show Steps p.tables e below (T2.setTop (mkF m 13 #[.val (.ref a1), .val (.ref a2)] [(.int (0 : Int32))])) _
      exact k
    obtain ⟨fs, hr, hrun, hended, hW, hsame⟩ := X2.leave (hlocks := hlk) (v := some (.int (0 : Int32))) (fun h => by rw [Bd.returns] at h; cases h)
    refine ⟨_, _, pre6 _ (retN X2 hx (t := .boolean) Bd.returns (by simp) (hb hby d4_13) hr), hrun, hended, _, _, rfl, ?_, ⟨_, rfl⟩, hW, hsame.mono (by decide) (by decide)⟩
    show Q4 Z a1 a2 t1 m1 t2 m2 h0 n0 _ T2.heap _
    rw [hh2]
    exact ⟨congrArg some (congrArg Value.int (show (0 : Int32) = fib t1 m1 t2 m2 from by rw [fib, if_neg hc5_4])), N2, rfl⟩
theorem own_ib (t1 : Int64) (m1 : Int32) (t2 : Int64) (m2 : Int32) : fib t1 m1 t2 m2 = flex t1 m1 t2 m2 := by
  have hL : ∀ a b : Int64, f6 a b = if a.toInt < b.toInt then (-1 : Int32) else if a.toInt = b.toInt then (0 : Int32) else (1 : Int32) := fun a b => by
    unfold f6; simp only [Int64.lt_iff_toInt_lt, ← Int64.toInt_inj]
  have hI : ∀ a b : Int32, f8 a b = if a.toInt < b.toInt then (-1 : Int32) else if a.toInt = b.toInt then (0 : Int32) else (1 : Int32) := fun a b => by
    unfold f8; simp only [Int32.lt_iff_toInt_lt, ← Int32.toInt_inj]
  have hE : flex t1 m1 t2 m2 = if t1.toInt < t2.toInt then (1 : Int32) else if t2.toInt < t1.toInt then (0 : Int32) else if m1.toInt < m2.toInt then (1 : Int32) else (0 : Int32) := by
    unfold flex; simp only [Int64.lt_iff_toInt_lt, Int32.lt_iff_toInt_lt]
  have n1 : (-1 : Int32) < 0 := by decide
  have n2 : ¬ (0 : Int32) < 0 := by decide
  have n3 : ¬ (1 : Int32) < 0 := by decide
  have z1 : ¬ (-1 : Int32) = 0 := by decide
  have z2 : ¬ (1 : Int32) = 0 := by decide
  unfold fib fcmp; rw [hL, hI, hE]
  repeat' split
  all_goals first | omega | rfl | simp_all
theorem ef_0 (m : MethodId) (x0 : Int64) (x1 : Int32) (x2 : Int64) (x3 : Int32) (x4 : Int32) : entryFrame m #[(.long x0), (.int x1), (.long x2), (.int x3), (.int x4)] maxLocals = mkF m 0 #[.val (.long x0), .second, .val (.int x1), .val (.long x2), .second, .val (.int x3), .val (.int x4), .unset, .unset, .unset, .unset, .unset, .unset, .unset] [] := by first | (simp [entryFrame, mkF, argsToLocals, Value.category, maxLocals]; done) | rfl
theorem pd_11 : parseMethodDescriptor "(JI)V" = some ⟨[.long, .int], none⟩ := by decide +kernel
theorem pd_12 : parseMethodDescriptor "(Lcom/example/agree_over_wire/agreeoverwire/service/RequestStamp;)Z" = some ⟨[(.object "com/example/agree_over_wire/agreeoverwire/service/RequestStamp")], some .boolean⟩ := by decide +kernel
theorem pd_13 : parseMethodDescriptor "(JIJI)Z" = some ⟨[.long, .int, .long, .int], some .boolean⟩ := by decide +kernel
def Q0 (Z : State) (x0 : Int64) (x1 : Int32) (x2 : Int64) (x3 : Int32) (x4 : Int32) (h0 : Heap) (n0 : Nat) (v : Option Value) (h : Heap) (L : List Loc) : Prop := v = some (.int 1) ∧ Fr n0 L
set_option maxRecDepth 65536 in
set_option maxHeartbeats 40000000 in
theorem rm0 (l : Launch) (Z : State) (a0 : Array Value) (hw : ∀ d ∈ tables_1, d.before a0 Z = true) (ws : List Jvm.Cond) (x0 : Int64) (x1 : Int32) (x2 : Int64) (x3 : Int32) (x4 : Int32) (h0 : Heap) (n0 : Nat) (Z0 : n0 ≤ h0.size) :
    MetFree l x (head1 (Jvm.Cond.code x code maxLocals ret :: ws) room_1) (fun a U => a = #[(.long x0), (.int x1), (.long x2), (.int x3), (.int x4)] ∧ Z.Warmed39 U.vm ∧ U.heap = h0) (fun _ _ _ _ _ => True) (fun _ U o U' => ∃ v L, o = .returned v ∧ Q0 Z x0 x1 x2 x3 x4 h0 n0 v U'.heap L ∧ FrameEnd U o U' L 16 128) := by
  refine MetFree.of_bodySF (plainFor_of_name pn_com_example_agree_over_wire_agreeoverwire_service_RequestStampIsBeforePinLaw) hisR ?_
  intro p e s m args below meth c s₁ Bd hml0 hP hK
  obtain ⟨rfl, hZ, hh⟩ := hP
  have hx := Bd.exec
  have hby := Bd.bytes
  have hml : c.maxLocals = 14 := hml0
  have hown : s.vm.findClass "com/example/agree_over_wire/agreeoverwire/service/RequestStampIsBeforePinLaw" = some m.cls := findClass_of_methodNamed Bd.named
  have hnm := (name_of_methodNamed Bd.named Bd.method).1
  have hlk : meth.locks = false := BodyLoose.notSynchronized Bd
  have X0 : Stand p l e room_1 s m #[(.long x0), (.int x1), (.long x2), (.int x3), (.int x4)] below meth c s₁ [] 0 0 := Stand.of_body Bd
  have e0 : s₁.heap = h0 := by rw [← hh, Bd.state]; rfl
  have N0 := Fr.nil n0
  have pre0 : Go p e below (s₁.setTop (entryFrame m #[(.long x0), (.int x1), (.long x2), (.int x3), (.int x4)] maxLocals)) (s₁.setTop (mkF m 0 #[.val (.long x0), .second, .val (.int x1), .val (.long x2), .second, .val (.int x3), .val (.int x4), .unset, .unset, .unset, .unset, .unset, .unset, .unset] [])) := fun t k => castTop (ef_0 m x0 x1 x2 x3 x4) k
  have pre1 : Go p e below (s₁.setTop (entryFrame m #[(.long x0), (.int x1), (.long x2), (.int x3), (.int x4)] maxLocals)) (s₁.setTop (mkF m 4 #[.val (.long x0), .second, .val (.int x1), .val (.long x2), .second, .val (.int x3), .val (.int x4), .unset, .unset, .unset, .unset, .unset, .unset, .unset] [(.int (x4 &&& (1 : Int32)))])) := by
    intro t k
    refine pre0 t ?_
    show Steps p.tables e below (s₁.setTop (mkF m 0 #[.val (.long x0), .second, .val (.int x1), .val (.long x2), .second, .val (.int x3), .val (.int x4), .unset, .unset, .unset, .unset, .unset, .unset, .unset] [])) _
    refine XS.iload X0.here hx rfl (hb hby at_0) rfl ?_
    show Steps p.tables e below (s₁.setTop (mkF m 2 #[.val (.long x0), .second, .val (.int x1), .val (.long x2), .second, .val (.int x3), .val (.int x4), .unset, .unset, .unset, .unset, .unset, .unset, .unset] [(.int x4)])) _
    refine XS.iconst X0.here hx rfl (hb hby at_2) ?_
    show Steps p.tables e below (s₁.setTop (mkF m 3 #[.val (.long x0), .second, .val (.int x1), .val (.long x2), .second, .val (.int x3), .val (.int x4), .unset, .unset, .unset, .unset, .unset, .unset, .unset] [(.int (1 : Int32)), (.int x4)])) _
    refine XS.iand X0.here hx rfl (hb hby at_3) rfl ?_
    show Steps p.tables e below (s₁.setTop (mkF m 4 #[.val (.long x0), .second, .val (.int x1), .val (.long x2), .second, .val (.int x3), .val (.int x4), .unset, .unset, .unset, .unset, .unset, .unset, .unset] [(.int (x4 &&& (1 : Int32)))])) _
    exact k
  obtain ⟨tt, h_tt⟩ : ∃ z : Int64, z = (if (x4 &&& (1 : Int32)) = (0 : Int32) then x2 else x0) := ⟨_, rfl⟩
  have pre3 : Go p e below (s₁.setTop (entryFrame m #[(.long x0), (.int x1), (.long x2), (.int x3), (.int x4)] maxLocals)) (s₁.setTop (mkF m 12 #[.val (.long x0), .second, .val (.int x1), .val (.long x2), .second, .val (.int x3), .val (.int x4), .unset, .unset, .unset, .unset, .unset, .unset, .unset] [(.long tt)])) := by
    intro t k
    refine pre1 t ?_
    show Steps p.tables e below (s₁.setTop (mkF m 4 #[.val (.long x0), .second, .val (.int x1), .val (.long x2), .second, .val (.int x3), .val (.int x4), .unset, .unset, .unset, .unset, .unset, .unset, .unset] [(.int (x4 &&& (1 : Int32)))])) _
    by_cases hc4_2 : (x4 &&& (1 : Int32)) = (0 : Int32)
    · skip
      refine XS.ifYes X0.here hx rfl (pc0 := 4) (pc' := 11) rfl (hb hby at_4) rfl (XT.i0_eq_t hc4_2) (by decide) (by decide) ?_
      show Steps p.tables e below (s₁.setTop (mkF m 11 #[.val (.long x0), .second, .val (.int x1), .val (.long x2), .second, .val (.int x3), .val (.int x4), .unset, .unset, .unset, .unset, .unset, .unset, .unset] [])) _
      refine XT.lloadN X0.here hx rfl (hb hby at_11) rfl ?_
      show Steps p.tables e below (s₁.setTop (mkF m 12 #[.val (.long x0), .second, .val (.int x1), .val (.long x2), .second, .val (.int x3), .val (.int x4), .unset, .unset, .unset, .unset, .unset, .unset, .unset] [(.long x2)])) _
      rw [show tt = x2 from by rw [h_tt]; rw [if_pos hc4_2]] at k
      exact k
    · skip
      refine XS.ifNo X0.here hx rfl (hb hby at_4) rfl (XT.i0_eq_f hc4_2) ?_
      show Steps p.tables e below (s₁.setTop (mkF m 7 #[.val (.long x0), .second, .val (.int x1), .val (.long x2), .second, .val (.int x3), .val (.int x4), .unset, .unset, .unset, .unset, .unset, .unset, .unset] [])) _
      refine XT.lloadN X0.here hx rfl (hb hby at_7) rfl ?_
      show Steps p.tables e below (s₁.setTop (mkF m 8 #[.val (.long x0), .second, .val (.int x1), .val (.long x2), .second, .val (.int x3), .val (.int x4), .unset, .unset, .unset, .unset, .unset, .unset, .unset] [(.long x0)])) _
      refine XS.goto X0.here hx rfl (pc0 := 8) (pc' := 12) rfl (hb hby at_8) (by decide) (by decide) ?_
      show Steps p.tables e below (s₁.setTop (mkF m 12 #[.val (.long x0), .second, .val (.int x1), .val (.long x2), .second, .val (.int x3), .val (.int x4), .unset, .unset, .unset, .unset, .unset, .unset, .unset] [(.long x0)])) _
      rw [show tt = x0 from by rw [h_tt]; rw [if_neg hc4_2]] at k
      exact k
  have pre4 : Go p e below (s₁.setTop (entryFrame m #[(.long x0), (.int x1), (.long x2), (.int x3), (.int x4)] maxLocals)) (s₁.setTop (mkF m 18 #[.val (.long x0), .second, .val (.int x1), .val (.long x2), .second, .val (.int x3), .val (.int x4), .val (.long tt), .second, .unset, .unset, .unset, .unset, .unset] [(.int (x4 &&& (2 : Int32)))])) := by
    intro t k
    refine pre3 t ?_
    show Steps p.tables e below (s₁.setTop (mkF m 12 #[.val (.long x0), .second, .val (.int x1), .val (.long x2), .second, .val (.int x3), .val (.int x4), .unset, .unset, .unset, .unset, .unset, .unset, .unset] [(.long tt)])) _
    refine XT.lstore X0.here hx rfl (hb hby at_12) rfl (l' := #[.val (.long x0), .second, .val (.int x1), .val (.long x2), .second, .val (.int x3), .val (.int x4), .val (.long tt), .second, .unset, .unset, .unset, .unset, .unset]) rfl ?_
    show Steps p.tables e below (s₁.setTop (mkF m 14 #[.val (.long x0), .second, .val (.int x1), .val (.long x2), .second, .val (.int x3), .val (.int x4), .val (.long tt), .second, .unset, .unset, .unset, .unset, .unset] [])) _
    refine XS.iload X0.here hx rfl (hb hby at_14) rfl ?_
    show Steps p.tables e below (s₁.setTop (mkF m 16 #[.val (.long x0), .second, .val (.int x1), .val (.long x2), .second, .val (.int x3), .val (.int x4), .val (.long tt), .second, .unset, .unset, .unset, .unset, .unset] [(.int x4)])) _
    refine XS.iconst X0.here hx rfl (hb hby at_16) ?_
    show Steps p.tables e below (s₁.setTop (mkF m 17 #[.val (.long x0), .second, .val (.int x1), .val (.long x2), .second, .val (.int x3), .val (.int x4), .val (.long tt), .second, .unset, .unset, .unset, .unset, .unset] [(.int (2 : Int32)), (.int x4)])) _
    refine XS.iand X0.here hx rfl (hb hby at_17) rfl ?_
    show Steps p.tables e below (s₁.setTop (mkF m 18 #[.val (.long x0), .second, .val (.int x1), .val (.long x2), .second, .val (.int x3), .val (.int x4), .val (.long tt), .second, .unset, .unset, .unset, .unset, .unset] [(.int (x4 &&& (2 : Int32)))])) _
    exact k
  obtain ⟨mm, h_mm⟩ : ∃ z : Int32, z = (if (x4 &&& (2 : Int32)) = (0 : Int32) then x3 else x1) := ⟨_, rfl⟩
  have pre6 : Go p e below (s₁.setTop (entryFrame m #[(.long x0), (.int x1), (.long x2), (.int x3), (.int x4)] maxLocals)) (s₁.setTop (mkF m 27 #[.val (.long x0), .second, .val (.int x1), .val (.long x2), .second, .val (.int x3), .val (.int x4), .val (.long tt), .second, .unset, .unset, .unset, .unset, .unset] [(.int mm)])) := by
    intro t k
    refine pre4 t ?_
    show Steps p.tables e below (s₁.setTop (mkF m 18 #[.val (.long x0), .second, .val (.int x1), .val (.long x2), .second, .val (.int x3), .val (.int x4), .val (.long tt), .second, .unset, .unset, .unset, .unset, .unset] [(.int (x4 &&& (2 : Int32)))])) _
    by_cases hc18_5 : (x4 &&& (2 : Int32)) = (0 : Int32)
    · skip
      refine XS.ifYes X0.here hx rfl (pc0 := 18) (pc' := 25) rfl (hb hby at_18) rfl (XT.i0_eq_t hc18_5) (by decide) (by decide) ?_
      show Steps p.tables e below (s₁.setTop (mkF m 25 #[.val (.long x0), .second, .val (.int x1), .val (.long x2), .second, .val (.int x3), .val (.int x4), .val (.long tt), .second, .unset, .unset, .unset, .unset, .unset] [])) _
      refine XS.iload X0.here hx rfl (hb hby at_25) rfl ?_
      show Steps p.tables e below (s₁.setTop (mkF m 27 #[.val (.long x0), .second, .val (.int x1), .val (.long x2), .second, .val (.int x3), .val (.int x4), .val (.long tt), .second, .unset, .unset, .unset, .unset, .unset] [(.int x3)])) _
      rw [show mm = x3 from by rw [h_mm]; rw [if_pos hc18_5]] at k
      exact k
    · skip
      refine XS.ifNo X0.here hx rfl (hb hby at_18) rfl (XT.i0_eq_f hc18_5) ?_
      show Steps p.tables e below (s₁.setTop (mkF m 21 #[.val (.long x0), .second, .val (.int x1), .val (.long x2), .second, .val (.int x3), .val (.int x4), .val (.long tt), .second, .unset, .unset, .unset, .unset, .unset] [])) _
      refine XS.iloadN X0.here hx rfl (hb hby at_21) rfl ?_
      show Steps p.tables e below (s₁.setTop (mkF m 22 #[.val (.long x0), .second, .val (.int x1), .val (.long x2), .second, .val (.int x3), .val (.int x4), .val (.long tt), .second, .unset, .unset, .unset, .unset, .unset] [(.int x1)])) _
      refine XS.goto X0.here hx rfl (pc0 := 22) (pc' := 27) rfl (hb hby at_22) (by decide) (by decide) ?_
      show Steps p.tables e below (s₁.setTop (mkF m 27 #[.val (.long x0), .second, .val (.int x1), .val (.long x2), .second, .val (.int x3), .val (.int x4), .val (.long tt), .second, .unset, .unset, .unset, .unset, .unset] [(.int x1)])) _
      rw [show mm = x1 from by rw [h_mm]; rw [if_neg hc18_5]] at k
      exact k
  have pre7 : Go p e below (s₁.setTop (entryFrame m #[(.long x0), (.int x1), (.long x2), (.int x3), (.int x4)] maxLocals)) (s₁.setTop (mkF m 29 #[.val (.long x0), .second, .val (.int x1), .val (.long x2), .second, .val (.int x3), .val (.int x4), .val (.long tt), .second, .val (.int mm), .unset, .unset, .unset, .unset] [])) := by
    intro t k
    refine pre6 t ?_
    show Steps p.tables e below (s₁.setTop (mkF m 27 #[.val (.long x0), .second, .val (.int x1), .val (.long x2), .second, .val (.int x3), .val (.int x4), .val (.long tt), .second, .unset, .unset, .unset, .unset, .unset] [(.int mm)])) _
    refine XS.istore X0.here hx rfl (hb hby at_27) rfl (l' := #[.val (.long x0), .second, .val (.int x1), .val (.long x2), .second, .val (.int x3), .val (.int x4), .val (.long tt), .second, .val (.int mm), .unset, .unset, .unset, .unset]) rfl ?_
    show Steps p.tables e below (s₁.setTop (mkF m 29 #[.val (.long x0), .second, .val (.int x1), .val (.long x2), .second, .val (.int x3), .val (.int x4), .val (.long tt), .second, .val (.int mm), .unset, .unset, .unset, .unset] [])) _
    exact k
  obtain ⟨T8, h8, X8, e8, E8, A8, D8, -, st8⟩ := newO X0 hx hZ hown (hw _ (List.mem_of_getElem? (i := 0) rfl)) (hw _ (List.mem_of_getElem? (i := 1) rfl)) (hw _ (List.mem_of_getElem? (i := 2) rfl)) e0 (g := (mkF m 29 #[.val (.long x0), .second, .val (.int x1), .val (.long x2), .second, .val (.int x3), .val (.int x4), .val (.long tt), .second, .val (.int mm), .unset, .unset, .unset, .unset] [])) rfl (hb hby at_29) (by decide) (by decide)
  obtain ⟨b1, g8⟩ : ∃ z, z = h0.size := ⟨_, rfl⟩
  rw [← g8] at A8 D8 st8
  have zz9 := (Nat.le_trans Z0 E8.1)
  have F_time_b1 : Fld Z h8 b1 "com/example/agree_over_wire/agreeoverwire/service/RequestStamp" "time" "J" (.long (0 : Int64)) := D8 (Or.inr (hw _ (List.mem_of_getElem? (i := 15) rfl))) (ty := .long) (by decide)
  have F_member_b1 : Fld Z h8 b1 "com/example/agree_over_wire/agreeoverwire/service/RequestStamp" "member" "I" (.int (0 : Int32)) := D8 (Or.inr (hw _ (List.mem_of_getElem? (i := 17) rfl))) (ty := .int) (by decide)
  have g_b1 : n0 ≤ b1 := Nat.le_trans Z0 (Nat.le_of_eq g8.symm)
  have pre10 : Go p e below (s₁.setTop (entryFrame m #[(.long x0), (.int x1), (.long x2), (.int x3), (.int x4)] maxLocals)) (T8.setTop (mkF m 32 #[.val (.long x0), .second, .val (.int x1), .val (.long x2), .second, .val (.int x3), .val (.int x4), .val (.long tt), .second, .val (.int mm), .unset, .unset, .unset, .unset] [(.ref b1)])) := fun t k => pre7 t (st8 t k)
  have pre11 : Go p e below (s₁.setTop (entryFrame m #[(.long x0), (.int x1), (.long x2), (.int x3), (.int x4)] maxLocals)) (T8.setTop (mkF m 35 #[.val (.long x0), .second, .val (.int x1), .val (.long x2), .second, .val (.int x3), .val (.int x4), .val (.long tt), .second, .val (.int mm), .unset, .unset, .unset, .unset] [(.int x1), (.long x0), (.ref b1), (.ref b1)])) := by
    intro t k
    refine pre10 t ?_
    show Steps p.tables e below (T8.setTop (mkF m 32 #[.val (.long x0), .second, .val (.int x1), .val (.long x2), .second, .val (.int x3), .val (.int x4), .val (.long tt), .second, .val (.int mm), .unset, .unset, .unset, .unset] [(.ref b1)])) _
    refine XS.dup X8.here hx rfl (hb hby at_32) rfl rfl ?_
    show Steps p.tables e below (T8.setTop (mkF m 33 #[.val (.long x0), .second, .val (.int x1), .val (.long x2), .second, .val (.int x3), .val (.int x4), .val (.long tt), .second, .val (.int mm), .unset, .unset, .unset, .unset] [(.ref b1), (.ref b1)])) _
    refine XT.lloadN X8.here hx rfl (hb hby at_33) rfl ?_
    show Steps p.tables e below (T8.setTop (mkF m 34 #[.val (.long x0), .second, .val (.int x1), .val (.long x2), .second, .val (.int x3), .val (.int x4), .val (.long tt), .second, .val (.int mm), .unset, .unset, .unset, .unset] [(.long x0), (.ref b1), (.ref b1)])) _
    refine XS.iloadN X8.here hx rfl (hb hby at_34) rfl ?_
    show Steps p.tables e below (T8.setTop (mkF m 35 #[.val (.long x0), .second, .val (.int x1), .val (.long x2), .second, .val (.int x3), .val (.int x4), .val (.long tt), .second, .val (.int mm), .unset, .unset, .unset, .unset] [(.int x1), (.long x0), (.ref b1), (.ref b1)])) _
    exact k
  obtain ⟨_, _, ⟨T12, L12, k12, n12⟩, -, X12, ⟨Lc12, hQ12, l12, y12, z12⟩, st12⟩ := X8.specialBack hx (y := (⟨"com/example/agree_over_wire/agreeoverwire/service/RequestStamp", "<init>", "(JI)V"⟩ : MethodName)) rfl hown (mvT hZ (hw _ (List.mem_of_getElem? (i := 3) rfl))) (mvT hZ (hw _ (List.mem_of_getElem? (i := 4) rfl))) (mvT hZ (hw _ (List.mem_of_getElem? (i := 5) rfl))) (by decide) (backOf (W := 1) (rm1 l Z a0 hw [] b1 x0 x1  h8 n0 zz9 A8 F_time_b1 F_member_b1 g_b1) hZ (hw _ (List.mem_of_getElem? (i := 5) rfl)) (hw _ (List.mem_of_getElem? (i := 2) rfl)) (by decide) (by decide)) (g := (mkF m 35 #[.val (.long x0), .second, .val (.int x1), .val (.long x2), .second, .val (.int x3), .val (.int x4), .val (.long tt), .second, .val (.int mm), .unset, .unset, .unset, .unset] [(.int x1), (.long x0), (.ref b1), (.ref b1)])) rfl (by rw [hml]; rfl) (Steps.refl _) (a := b1) (argsL := [(.long x0), (.int x1)]) (rest := [(.ref b1)]) (lenOf pd_11 rfl) rfl (by show 2 * 0 + _ ≤ _; exact Nat.le_of_eq rfl) (hb hby at_35) (fun _ _ => ⟨rfl, e8, (by decide : 1 + 0 ≤ _), (by decide : 2 + 0 ≤ _)⟩)
  dsimp only [Pt.U, Pt.locs, Pt.cells, Pt.slots] at X12 l12 y12 z12 st12 hQ12
  subst l12 y12 z12
  obtain ⟨rfl, N12q, K12, X12e, Ft12, Fm12⟩ := hQ12
  have N12 := Fr.app N0 N12q
  have kc13 := A8.keep K12
  have zz14 := Nat.le_trans zz9 K12.1
  have pre15 : Go p e below (s₁.setTop (entryFrame m #[(.long x0), (.int x1), (.long x2), (.int x3), (.int x4)] maxLocals)) (T12.setTop (mkF m 38 #[.val (.long x0), .second, .val (.int x1), .val (.long x2), .second, .val (.int x3), .val (.int x4), .val (.long tt), .second, .val (.int mm), .unset, .unset, .unset, .unset] [(.ref b1)])) := fun t k => pre11 t (st12.trans k)
  have pre16 : Go p e below (s₁.setTop (entryFrame m #[(.long x0), (.int x1), (.long x2), (.int x3), (.int x4)] maxLocals)) (T12.setTop (mkF m 40 #[.val (.long x0), .second, .val (.int x1), .val (.long x2), .second, .val (.int x3), .val (.int x4), .val (.long tt), .second, .val (.int mm), .val (.ref b1), .unset, .unset, .unset] [])) := by
    intro t k
    refine pre15 t ?_
    show Steps p.tables e below (T12.setTop (mkF m 38 #[.val (.long x0), .second, .val (.int x1), .val (.long x2), .second, .val (.int x3), .val (.int x4), .val (.long tt), .second, .val (.int mm), .unset, .unset, .unset, .unset] [(.ref b1)])) _
    refine XS.astore X12.here hx rfl (hb hby at_38) rfl rfl (l' := #[.val (.long x0), .second, .val (.int x1), .val (.long x2), .second, .val (.int x3), .val (.int x4), .val (.long tt), .second, .val (.int mm), .val (.ref b1), .unset, .unset, .unset]) rfl ?_
    show Steps p.tables e below (T12.setTop (mkF m 40 #[.val (.long x0), .second, .val (.int x1), .val (.long x2), .second, .val (.int x3), .val (.int x4), .val (.long tt), .second, .val (.int mm), .val (.ref b1), .unset, .unset, .unset] [])) _
    exact k
  obtain ⟨T17, h17, X17, e17, E17, A17, D17, -, st17⟩ := newO X12 hx hZ hown (hw _ (List.mem_of_getElem? (i := 0) rfl)) (hw _ (List.mem_of_getElem? (i := 1) rfl)) (hw _ (List.mem_of_getElem? (i := 2) rfl)) rfl (g := (mkF m 40 #[.val (.long x0), .second, .val (.int x1), .val (.long x2), .second, .val (.int x3), .val (.int x4), .val (.long tt), .second, .val (.int mm), .val (.ref b1), .unset, .unset, .unset] [])) rfl (hb hby at_40) (by decide) (by decide)
  obtain ⟨b2, g17⟩ : ∃ z, z = T12.heap.size := ⟨_, rfl⟩
  rw [← g17] at A17 D17 st17
  have c18_17 := kc13.ext E17
  have c19_17 := Ft12.ext E17
  have c20_17 := Fm12.ext E17
  have zz21 := (Nat.le_trans zz14 E17.1)
  have F_time_b2 : Fld Z h17 b2 "com/example/agree_over_wire/agreeoverwire/service/RequestStamp" "time" "J" (.long (0 : Int64)) := D17 (Or.inr (hw _ (List.mem_of_getElem? (i := 15) rfl))) (ty := .long) (by decide)
  have F_member_b2 : Fld Z h17 b2 "com/example/agree_over_wire/agreeoverwire/service/RequestStamp" "member" "I" (.int (0 : Int32)) := D17 (Or.inr (hw _ (List.mem_of_getElem? (i := 17) rfl))) (ty := .int) (by decide)
  have g_b2 : n0 ≤ b2 := Nat.le_trans zz14 (Nat.le_of_eq g17.symm)
  have ne_b1_b2 : b1 ≠ b2 := Nat.ne_of_lt (Nat.lt_of_lt_of_le kc13.lt (Nat.le_of_eq g17.symm))
  have pre22 : Go p e below (s₁.setTop (entryFrame m #[(.long x0), (.int x1), (.long x2), (.int x3), (.int x4)] maxLocals)) (T17.setTop (mkF m 43 #[.val (.long x0), .second, .val (.int x1), .val (.long x2), .second, .val (.int x3), .val (.int x4), .val (.long tt), .second, .val (.int mm), .val (.ref b1), .unset, .unset, .unset] [(.ref b2)])) := fun t k => pre16 t (st17 t k)
  have pre23 : Go p e below (s₁.setTop (entryFrame m #[(.long x0), (.int x1), (.long x2), (.int x3), (.int x4)] maxLocals)) (T17.setTop (mkF m 48 #[.val (.long x0), .second, .val (.int x1), .val (.long x2), .second, .val (.int x3), .val (.int x4), .val (.long tt), .second, .val (.int mm), .val (.ref b1), .unset, .unset, .unset] [(.int mm), (.long tt), (.ref b2), (.ref b2)])) := by
    intro t k
    refine pre22 t ?_
    show Steps p.tables e below (T17.setTop (mkF m 43 #[.val (.long x0), .second, .val (.int x1), .val (.long x2), .second, .val (.int x3), .val (.int x4), .val (.long tt), .second, .val (.int mm), .val (.ref b1), .unset, .unset, .unset] [(.ref b2)])) _
    refine XS.dup X17.here hx rfl (hb hby at_43) rfl rfl ?_
    show Steps p.tables e below (T17.setTop (mkF m 44 #[.val (.long x0), .second, .val (.int x1), .val (.long x2), .second, .val (.int x3), .val (.int x4), .val (.long tt), .second, .val (.int mm), .val (.ref b1), .unset, .unset, .unset] [(.ref b2), (.ref b2)])) _
    refine XT.lload X17.here hx rfl (hb hby at_44) rfl ?_
    show Steps p.tables e below (T17.setTop (mkF m 46 #[.val (.long x0), .second, .val (.int x1), .val (.long x2), .second, .val (.int x3), .val (.int x4), .val (.long tt), .second, .val (.int mm), .val (.ref b1), .unset, .unset, .unset] [(.long tt), (.ref b2), (.ref b2)])) _
    refine XS.iload X17.here hx rfl (hb hby at_46) rfl ?_
    show Steps p.tables e below (T17.setTop (mkF m 48 #[.val (.long x0), .second, .val (.int x1), .val (.long x2), .second, .val (.int x3), .val (.int x4), .val (.long tt), .second, .val (.int mm), .val (.ref b1), .unset, .unset, .unset] [(.int mm), (.long tt), (.ref b2), (.ref b2)])) _
    exact k
  obtain ⟨_, _, ⟨T24, L24, k24, n24⟩, -, X24, ⟨Lc24, hQ24, l24, y24, z24⟩, st24⟩ := X17.specialBack hx (y := (⟨"com/example/agree_over_wire/agreeoverwire/service/RequestStamp", "<init>", "(JI)V"⟩ : MethodName)) rfl hown (mvT hZ (hw _ (List.mem_of_getElem? (i := 3) rfl))) (mvT hZ (hw _ (List.mem_of_getElem? (i := 4) rfl))) (mvT hZ (hw _ (List.mem_of_getElem? (i := 5) rfl))) (by decide) (backOf (W := 1) (rm1 l Z a0 hw [] b2 tt mm  h17 n0 zz21 A17 F_time_b2 F_member_b2 g_b2) hZ (hw _ (List.mem_of_getElem? (i := 5) rfl)) (hw _ (List.mem_of_getElem? (i := 2) rfl)) (by decide) (by decide)) (g := (mkF m 48 #[.val (.long x0), .second, .val (.int x1), .val (.long x2), .second, .val (.int x3), .val (.int x4), .val (.long tt), .second, .val (.int mm), .val (.ref b1), .unset, .unset, .unset] [(.int mm), (.long tt), (.ref b2), (.ref b2)])) rfl (by rw [hml]; rfl) (Steps.refl _) (a := b2) (argsL := [(.long tt), (.int mm)]) (rest := [(.ref b2)]) (lenOf pd_11 rfl) rfl (by show 2 * 0 + _ ≤ _; exact Nat.le_of_eq rfl) (hb hby at_48) (fun _ _ => ⟨rfl, e17, (by decide : 2 + 0 ≤ _), (by decide : 4 + 0 ≤ _)⟩)
  dsimp only [Pt.U, Pt.locs, Pt.cells, Pt.slots] at X24 l24 y24 z24 st24 hQ24
  subst l24 y24 z24
  obtain ⟨rfl, N24q, K24, X24e, Ft24, Fm24⟩ := hQ24
  have N24 := Fr.app N12 N24q
  have kc25 := c18_17.keep K24
  have kc26 := c19_17.keep K24 (ninS ne_b1_b2 nin0)
  have kc27 := c20_17.keep K24 (ninS ne_b1_b2 nin0)
  have kc28 := A17.keep K24
  have zz29 := Nat.le_trans zz21 K24.1
  have pre30 : Go p e below (s₁.setTop (entryFrame m #[(.long x0), (.int x1), (.long x2), (.int x3), (.int x4)] maxLocals)) (T24.setTop (mkF m 51 #[.val (.long x0), .second, .val (.int x1), .val (.long x2), .second, .val (.int x3), .val (.int x4), .val (.long tt), .second, .val (.int mm), .val (.ref b1), .unset, .unset, .unset] [(.ref b2)])) := fun t k => pre23 t (st24.trans k)
  have pre31 : Go p e below (s₁.setTop (entryFrame m #[(.long x0), (.int x1), (.long x2), (.int x3), (.int x4)] maxLocals)) (T24.setTop (mkF m 57 #[.val (.long x0), .second, .val (.int x1), .val (.long x2), .second, .val (.int x3), .val (.int x4), .val (.long tt), .second, .val (.int mm), .val (.ref b1), .val (.ref b2), .unset, .unset] [(.ref b2), (.ref b1)])) := by
    intro t k
    refine pre30 t ?_
    show Steps p.tables e below (T24.setTop (mkF m 51 #[.val (.long x0), .second, .val (.int x1), .val (.long x2), .second, .val (.int x3), .val (.int x4), .val (.long tt), .second, .val (.int mm), .val (.ref b1), .unset, .unset, .unset] [(.ref b2)])) _
    refine XS.astore X24.here hx rfl (hb hby at_51) rfl rfl (l' := #[.val (.long x0), .second, .val (.int x1), .val (.long x2), .second, .val (.int x3), .val (.int x4), .val (.long tt), .second, .val (.int mm), .val (.ref b1), .val (.ref b2), .unset, .unset]) rfl ?_
    show Steps p.tables e below (T24.setTop (mkF m 53 #[.val (.long x0), .second, .val (.int x1), .val (.long x2), .second, .val (.int x3), .val (.int x4), .val (.long tt), .second, .val (.int mm), .val (.ref b1), .val (.ref b2), .unset, .unset] [])) _
    refine XS.aload X24.here hx rfl (hb hby at_53) rfl rfl ?_
    show Steps p.tables e below (T24.setTop (mkF m 55 #[.val (.long x0), .second, .val (.int x1), .val (.long x2), .second, .val (.int x3), .val (.int x4), .val (.long tt), .second, .val (.int mm), .val (.ref b1), .val (.ref b2), .unset, .unset] [(.ref b1)])) _
    refine XS.aload X24.here hx rfl (hb hby at_55) rfl rfl ?_
    show Steps p.tables e below (T24.setTop (mkF m 57 #[.val (.long x0), .second, .val (.int x1), .val (.long x2), .second, .val (.int x3), .val (.int x4), .val (.long tt), .second, .val (.int mm), .val (.ref b1), .val (.ref b2), .unset, .unset] [(.ref b2), (.ref b1)])) _
    exact k
  obtain ⟨cq32, kq32, q32a, q32b, q32c⟩ := isOf hZ rfl kc25
  obtain ⟨_, _, ⟨T32, L32, k32, n32⟩, -, X32, ⟨Lc32, hQ32, l32, y32, z32⟩, st32⟩ := X24.virtualBack hx (y := (⟨"com/example/agree_over_wire/agreeoverwire/service/RequestStamp", "isBefore", "(Lcom/example/agree_over_wire/agreeoverwire/service/RequestStamp;)Z"⟩ : MethodName)) (z := (⟨"com/example/agree_over_wire/agreeoverwire/service/RequestStamp", "isBefore", "(Lcom/example/agree_over_wire/agreeoverwire/service/RequestStamp;)Z"⟩ : MethodName)) hown (mvT hZ (hw _ (List.mem_of_getElem? (i := 18) rfl))) (mvT hZ (hw _ (List.mem_of_getElem? (i := 19) rfl))) (notFace_of_selects (args := #[]) (mvT hZ (hw _ (List.mem_of_getElem? (i := 21) rfl)))) (mvT hZ (hw _ (List.mem_of_getElem? (i := 21) rfl))) (mvT hZ (hw _ (List.mem_of_getElem? (i := 20) rfl))) (by decide) (backOf (W := 0) (rm4 l Z a0 hw [] b1 b2 x0 x1 tt mm T24.heap n0 zz29 kc26 kc27 Ft24 Fm24 kc25) hZ (hw _ (List.mem_of_getElem? (i := 22) rfl)) (hw _ (List.mem_of_getElem? (i := 2) rfl)) (by decide) (by decide)) q32a q32c (g := (mkF m 57 #[.val (.long x0), .second, .val (.int x1), .val (.long x2), .second, .val (.int x3), .val (.int x4), .val (.long tt), .second, .val (.int mm), .val (.ref b1), .val (.ref b2), .unset, .unset] [(.ref b2), (.ref b1)])) rfl (by rw [hml]; rfl) (Steps.refl _) (argsL := [(.ref b2)]) (rest := []) (lenOf pd_12 rfl) rfl (by show 2 * 0 + _ ≤ _; exact Nat.le_of_eq rfl) (hb hby at_57) (fun _ _ => ⟨rfl, rfl, (by decide : 2 + 0 ≤ _), (by decide : 4 + 0 ≤ _)⟩)
  dsimp only [Pt.U, Pt.locs, Pt.cells, Pt.slots] at X32 l32 y32 z32 st32 hQ32
  subst l32 y32 z32
  obtain ⟨rfl, N32q, hh32⟩ := hQ32
  have N32 := Fr.app N24 N32q
  have pre33 : Go p e below (s₁.setTop (entryFrame m #[(.long x0), (.int x1), (.long x2), (.int x3), (.int x4)] maxLocals)) (T32.setTop (mkF m 60 #[.val (.long x0), .second, .val (.int x1), .val (.long x2), .second, .val (.int x3), .val (.int x4), .val (.long tt), .second, .val (.int mm), .val (.ref b1), .val (.ref b2), .unset, .unset] [(.int (fib x0 x1 tt mm))])) := fun t k => pre31 t (st32.trans k)
  have pre34 : Go p e below (s₁.setTop (entryFrame m #[(.long x0), (.int x1), (.long x2), (.int x3), (.int x4)] maxLocals)) (T32.setTop (mkF m 66 #[.val (.long x0), .second, .val (.int x1), .val (.long x2), .second, .val (.int x3), .val (.int x4), .val (.long tt), .second, .val (.int mm), .val (.ref b1), .val (.ref b2), .val (.int (fib x0 x1 tt mm)), .unset] [(.ref b1), (.ref b2)])) := by
    intro t k
    refine pre33 t ?_
    show Steps p.tables e below (T32.setTop (mkF m 60 #[.val (.long x0), .second, .val (.int x1), .val (.long x2), .second, .val (.int x3), .val (.int x4), .val (.long tt), .second, .val (.int mm), .val (.ref b1), .val (.ref b2), .unset, .unset] [(.int (fib x0 x1 tt mm))])) _
    refine XS.istore X32.here hx rfl (hb hby at_60) rfl (l' := #[.val (.long x0), .second, .val (.int x1), .val (.long x2), .second, .val (.int x3), .val (.int x4), .val (.long tt), .second, .val (.int mm), .val (.ref b1), .val (.ref b2), .val (.int (fib x0 x1 tt mm)), .unset]) rfl ?_
    show Steps p.tables e below (T32.setTop (mkF m 62 #[.val (.long x0), .second, .val (.int x1), .val (.long x2), .second, .val (.int x3), .val (.int x4), .val (.long tt), .second, .val (.int mm), .val (.ref b1), .val (.ref b2), .val (.int (fib x0 x1 tt mm)), .unset] [])) _
    refine XS.aload X32.here hx rfl (hb hby at_62) rfl rfl ?_
    show Steps p.tables e below (T32.setTop (mkF m 64 #[.val (.long x0), .second, .val (.int x1), .val (.long x2), .second, .val (.int x3), .val (.int x4), .val (.long tt), .second, .val (.int mm), .val (.ref b1), .val (.ref b2), .val (.int (fib x0 x1 tt mm)), .unset] [(.ref b2)])) _
    refine XS.aload X32.here hx rfl (hb hby at_64) rfl rfl ?_
    show Steps p.tables e below (T32.setTop (mkF m 66 #[.val (.long x0), .second, .val (.int x1), .val (.long x2), .second, .val (.int x3), .val (.int x4), .val (.long tt), .second, .val (.int mm), .val (.ref b1), .val (.ref b2), .val (.int (fib x0 x1 tt mm)), .unset] [(.ref b1), (.ref b2)])) _
    exact k
  obtain ⟨cq35, kq35, q35a, q35b, q35c⟩ := isOf hZ hh32 kc28
  obtain ⟨_, _, ⟨T35, L35, k35, n35⟩, -, X35, ⟨Lc35, hQ35, l35, y35, z35⟩, st35⟩ := X32.virtualBack hx (y := (⟨"com/example/agree_over_wire/agreeoverwire/service/RequestStamp", "isBefore", "(Lcom/example/agree_over_wire/agreeoverwire/service/RequestStamp;)Z"⟩ : MethodName)) (z := (⟨"com/example/agree_over_wire/agreeoverwire/service/RequestStamp", "isBefore", "(Lcom/example/agree_over_wire/agreeoverwire/service/RequestStamp;)Z"⟩ : MethodName)) hown (mvT hZ (hw _ (List.mem_of_getElem? (i := 18) rfl))) (mvT hZ (hw _ (List.mem_of_getElem? (i := 19) rfl))) (notFace_of_selects (args := #[]) (mvT hZ (hw _ (List.mem_of_getElem? (i := 21) rfl)))) (mvT hZ (hw _ (List.mem_of_getElem? (i := 21) rfl))) (mvT hZ (hw _ (List.mem_of_getElem? (i := 20) rfl))) (by decide) (backOf (W := 0) (rm4 l Z a0 hw [] b2 b1 tt mm x0 x1 T24.heap n0 zz29 Ft24 Fm24 kc26 kc27 kc28) hZ (hw _ (List.mem_of_getElem? (i := 22) rfl)) (hw _ (List.mem_of_getElem? (i := 2) rfl)) (by decide) (by decide)) q35a q35c (g := (mkF m 66 #[.val (.long x0), .second, .val (.int x1), .val (.long x2), .second, .val (.int x3), .val (.int x4), .val (.long tt), .second, .val (.int mm), .val (.ref b1), .val (.ref b2), .val (.int (fib x0 x1 tt mm)), .unset] [(.ref b1), (.ref b2)])) rfl (by rw [hml]; rfl) (Steps.refl _) (argsL := [(.ref b1)]) (rest := []) (lenOf pd_12 rfl) rfl (by show 2 * 0 + _ ≤ _; exact Nat.le_of_eq rfl) (hb hby at_66) (fun _ _ => ⟨rfl, hh32, (by decide : 2 + 0 ≤ _), (by decide : 4 + 0 ≤ _)⟩)
  dsimp only [Pt.U, Pt.locs, Pt.cells, Pt.slots] at X35 l35 y35 z35 st35 hQ35
  subst l35 y35 z35
  obtain ⟨rfl, N35q, hh35⟩ := hQ35
  have N35 := Fr.app N32 N35q
  have pre36 : Go p e below (s₁.setTop (entryFrame m #[(.long x0), (.int x1), (.long x2), (.int x3), (.int x4)] maxLocals)) (T35.setTop (mkF m 69 #[.val (.long x0), .second, .val (.int x1), .val (.long x2), .second, .val (.int x3), .val (.int x4), .val (.long tt), .second, .val (.int mm), .val (.ref b1), .val (.ref b2), .val (.int (fib x0 x1 tt mm)), .unset] [(.int (fib tt mm x0 x1))])) := fun t k => pre34 t (st35.trans k)
  have pre37 : Go p e below (s₁.setTop (entryFrame m #[(.long x0), (.int x1), (.long x2), (.int x3), (.int x4)] maxLocals)) (T35.setTop (mkF m 79 #[.val (.long x0), .second, .val (.int x1), .val (.long x2), .second, .val (.int x3), .val (.int x4), .val (.long tt), .second, .val (.int mm), .val (.ref b1), .val (.ref b2), .val (.int (fib x0 x1 tt mm)), .val (.int (fib tt mm x0 x1))] [(.int mm), (.long tt), (.int x1), (.long x0), (.int (fib x0 x1 tt mm))])) := by
    intro t k
    refine pre36 t ?_
    show Steps p.tables e below (T35.setTop (mkF m 69 #[.val (.long x0), .second, .val (.int x1), .val (.long x2), .second, .val (.int x3), .val (.int x4), .val (.long tt), .second, .val (.int mm), .val (.ref b1), .val (.ref b2), .val (.int (fib x0 x1 tt mm)), .unset] [(.int (fib tt mm x0 x1))])) _
    refine XS.istore X35.here hx rfl (hb hby at_69) rfl (l' := #[.val (.long x0), .second, .val (.int x1), .val (.long x2), .second, .val (.int x3), .val (.int x4), .val (.long tt), .second, .val (.int mm), .val (.ref b1), .val (.ref b2), .val (.int (fib x0 x1 tt mm)), .val (.int (fib tt mm x0 x1))]) rfl ?_
    show Steps p.tables e below (T35.setTop (mkF m 71 #[.val (.long x0), .second, .val (.int x1), .val (.long x2), .second, .val (.int x3), .val (.int x4), .val (.long tt), .second, .val (.int mm), .val (.ref b1), .val (.ref b2), .val (.int (fib x0 x1 tt mm)), .val (.int (fib tt mm x0 x1))] [])) _
    refine XS.iload X35.here hx rfl (hb hby at_71) rfl ?_
    show Steps p.tables e below (T35.setTop (mkF m 73 #[.val (.long x0), .second, .val (.int x1), .val (.long x2), .second, .val (.int x3), .val (.int x4), .val (.long tt), .second, .val (.int mm), .val (.ref b1), .val (.ref b2), .val (.int (fib x0 x1 tt mm)), .val (.int (fib tt mm x0 x1))] [(.int (fib x0 x1 tt mm))])) _
    refine XT.lloadN X35.here hx rfl (hb hby at_73) rfl ?_
    show Steps p.tables e below (T35.setTop (mkF m 74 #[.val (.long x0), .second, .val (.int x1), .val (.long x2), .second, .val (.int x3), .val (.int x4), .val (.long tt), .second, .val (.int mm), .val (.ref b1), .val (.ref b2), .val (.int (fib x0 x1 tt mm)), .val (.int (fib tt mm x0 x1))] [(.long x0), (.int (fib x0 x1 tt mm))])) _
    refine XS.iloadN X35.here hx rfl (hb hby at_74) rfl ?_
    show Steps p.tables e below (T35.setTop (mkF m 75 #[.val (.long x0), .second, .val (.int x1), .val (.long x2), .second, .val (.int x3), .val (.int x4), .val (.long tt), .second, .val (.int mm), .val (.ref b1), .val (.ref b2), .val (.int (fib x0 x1 tt mm)), .val (.int (fib tt mm x0 x1))] [(.int x1), (.long x0), (.int (fib x0 x1 tt mm))])) _
    refine XT.lload X35.here hx rfl (hb hby at_75) rfl ?_
    show Steps p.tables e below (T35.setTop (mkF m 77 #[.val (.long x0), .second, .val (.int x1), .val (.long x2), .second, .val (.int x3), .val (.int x4), .val (.long tt), .second, .val (.int mm), .val (.ref b1), .val (.ref b2), .val (.int (fib x0 x1 tt mm)), .val (.int (fib tt mm x0 x1))] [(.long tt), (.int x1), (.long x0), (.int (fib x0 x1 tt mm))])) _
    refine XS.iload X35.here hx rfl (hb hby at_77) rfl ?_
    show Steps p.tables e below (T35.setTop (mkF m 79 #[.val (.long x0), .second, .val (.int x1), .val (.long x2), .second, .val (.int x3), .val (.int x4), .val (.long tt), .second, .val (.int mm), .val (.ref b1), .val (.ref b2), .val (.int (fib x0 x1 tt mm)), .val (.int (fib tt mm x0 x1))] [(.int mm), (.long tt), (.int x1), (.long x0), (.int (fib x0 x1 tt mm))])) _
    exact k
  obtain ⟨_, _, ⟨T38, L38, k38, n38⟩, -, X38, ⟨Lc38, hQ38, l38, y38, z38⟩, st38⟩ := Jvm.LawKit.callS X35 hx (y := (⟨"com/example/agree_over_wire/agreeoverwire/service/RequestStampIsBeforePinLaw", "lexLess", "(JIJI)Z"⟩ : MethodName)) hown (mvT hZ (hw _ (List.mem_of_getElem? (i := 32) rfl))) (mvT hZ (hw _ (List.mem_of_getElem? (i := 33) rfl))) (mvT hZ (hw _ (List.mem_of_getElem? (i := 34) rfl))) (mvT hZ (hw _ (List.mem_of_getElem? (i := 35) rfl))) (by decide) (backOf (W := 1) (rm7 l Z a0 hw [] x0 x1 tt mm  T24.heap n0 zz29 ) hZ (hw _ (List.mem_of_getElem? (i := 35) rfl)) (hw _ (List.mem_of_getElem? (i := 34) rfl)) (by decide) (by decide)) (g := (mkF m 79 #[.val (.long x0), .second, .val (.int x1), .val (.long x2), .second, .val (.int x3), .val (.int x4), .val (.long tt), .second, .val (.int mm), .val (.ref b1), .val (.ref b2), .val (.int (fib x0 x1 tt mm)), .val (.int (fib tt mm x0 x1))] [(.int mm), (.long tt), (.int x1), (.long x0), (.int (fib x0 x1 tt mm))])) rfl (by rw [hml]; rfl) (argsL := [(.long x0), (.int x1), (.long tt), (.int mm)]) (rest := [(.int (fib x0 x1 tt mm))]) (lenOf pd_13 rfl) rfl (by show 2 * 0 + _ ≤ _; exact Nat.le_of_eq rfl) (hb hby at_79) (fun _ _ => ⟨rfl, hh35, (by decide : 2 + 0 ≤ _), (by decide : 4 + 0 ≤ _)⟩)
  dsimp only [Pt.U, Pt.locs, Pt.cells, Pt.slots] at X38 l38 y38 z38 st38 hQ38
  subst l38 y38 z38
  obtain ⟨rfl, N38q, hh38⟩ := hQ38
  have N38 := Fr.app N35 N38q
  have pre39 : Go p e below (s₁.setTop (entryFrame m #[(.long x0), (.int x1), (.long x2), (.int x3), (.int x4)] maxLocals)) (T38.setTop (mkF m 82 #[.val (.long x0), .second, .val (.int x1), .val (.long x2), .second, .val (.int x3), .val (.int x4), .val (.long tt), .second, .val (.int mm), .val (.ref b1), .val (.ref b2), .val (.int (fib x0 x1 tt mm)), .val (.int (fib tt mm x0 x1))] [(.int (flex x0 x1 tt mm)), (.int (fib x0 x1 tt mm))])) := fun t k => pre37 t (st38 t k)
  have hc82_40 : (fib x0 x1 tt mm) = (flex x0 x1 tt mm) := by
    exact own_ib _ _ _ _
  have pre41 : Go p e below (s₁.setTop (entryFrame m #[(.long x0), (.int x1), (.long x2), (.int x3), (.int x4)] maxLocals)) (T38.setTop (mkF m 93 #[.val (.long x0), .second, .val (.int x1), .val (.long x2), .second, .val (.int x3), .val (.int x4), .val (.long tt), .second, .val (.int mm), .val (.ref b1), .val (.ref b2), .val (.int (fib x0 x1 tt mm)), .val (.int (fib tt mm x0 x1))] [(.int x1), (.long x0), (.int mm), (.long tt), (.int (fib tt mm x0 x1))])) := by
    intro t k
    refine pre39 t ?_
    show Steps p.tables e below (T38.setTop (mkF m 82 #[.val (.long x0), .second, .val (.int x1), .val (.long x2), .second, .val (.int x3), .val (.int x4), .val (.long tt), .second, .val (.int mm), .val (.ref b1), .val (.ref b2), .val (.int (fib x0 x1 tt mm)), .val (.int (fib tt mm x0 x1))] [(.int (flex x0 x1 tt mm)), (.int (fib x0 x1 tt mm))])) _
    refine XS.icmpNo X38.here hx rfl (hb hby at_82) rfl (XT.ii_ne_f hc82_40) ?_
    show Steps p.tables e below (T38.setTop (mkF m 85 #[.val (.long x0), .second, .val (.int x1), .val (.long x2), .second, .val (.int x3), .val (.int x4), .val (.long tt), .second, .val (.int mm), .val (.ref b1), .val (.ref b2), .val (.int (fib x0 x1 tt mm)), .val (.int (fib tt mm x0 x1))] [])) _
    refine XS.iload X38.here hx rfl (hb hby at_85) rfl ?_
    show Steps p.tables e below (T38.setTop (mkF m 87 #[.val (.long x0), .second, .val (.int x1), .val (.long x2), .second, .val (.int x3), .val (.int x4), .val (.long tt), .second, .val (.int mm), .val (.ref b1), .val (.ref b2), .val (.int (fib x0 x1 tt mm)), .val (.int (fib tt mm x0 x1))] [(.int (fib tt mm x0 x1))])) _
    refine XT.lload X38.here hx rfl (hb hby at_87) rfl ?_
    show Steps p.tables e below (T38.setTop (mkF m 89 #[.val (.long x0), .second, .val (.int x1), .val (.long x2), .second, .val (.int x3), .val (.int x4), .val (.long tt), .second, .val (.int mm), .val (.ref b1), .val (.ref b2), .val (.int (fib x0 x1 tt mm)), .val (.int (fib tt mm x0 x1))] [(.long tt), (.int (fib tt mm x0 x1))])) _
    refine XS.iload X38.here hx rfl (hb hby at_89) rfl ?_
    show Steps p.tables e below (T38.setTop (mkF m 91 #[.val (.long x0), .second, .val (.int x1), .val (.long x2), .second, .val (.int x3), .val (.int x4), .val (.long tt), .second, .val (.int mm), .val (.ref b1), .val (.ref b2), .val (.int (fib x0 x1 tt mm)), .val (.int (fib tt mm x0 x1))] [(.int mm), (.long tt), (.int (fib tt mm x0 x1))])) _
    refine XT.lloadN X38.here hx rfl (hb hby at_91) rfl ?_
    show Steps p.tables e below (T38.setTop (mkF m 92 #[.val (.long x0), .second, .val (.int x1), .val (.long x2), .second, .val (.int x3), .val (.int x4), .val (.long tt), .second, .val (.int mm), .val (.ref b1), .val (.ref b2), .val (.int (fib x0 x1 tt mm)), .val (.int (fib tt mm x0 x1))] [(.long x0), (.int mm), (.long tt), (.int (fib tt mm x0 x1))])) _
    refine XS.iloadN X38.here hx rfl (hb hby at_92) rfl ?_
    show Steps p.tables e below (T38.setTop (mkF m 93 #[.val (.long x0), .second, .val (.int x1), .val (.long x2), .second, .val (.int x3), .val (.int x4), .val (.long tt), .second, .val (.int mm), .val (.ref b1), .val (.ref b2), .val (.int (fib x0 x1 tt mm)), .val (.int (fib tt mm x0 x1))] [(.int x1), (.long x0), (.int mm), (.long tt), (.int (fib tt mm x0 x1))])) _
    exact k
  obtain ⟨_, _, ⟨T42, L42, k42, n42⟩, -, X42, ⟨Lc42, hQ42, l42, y42, z42⟩, st42⟩ := Jvm.LawKit.callS X38 hx (y := (⟨"com/example/agree_over_wire/agreeoverwire/service/RequestStampIsBeforePinLaw", "lexLess", "(JIJI)Z"⟩ : MethodName)) hown (mvT hZ (hw _ (List.mem_of_getElem? (i := 32) rfl))) (mvT hZ (hw _ (List.mem_of_getElem? (i := 33) rfl))) (mvT hZ (hw _ (List.mem_of_getElem? (i := 34) rfl))) (mvT hZ (hw _ (List.mem_of_getElem? (i := 35) rfl))) (by decide) (backOf (W := 1) (rm7 l Z a0 hw [] tt mm x0 x1  T24.heap n0 zz29 ) hZ (hw _ (List.mem_of_getElem? (i := 35) rfl)) (hw _ (List.mem_of_getElem? (i := 34) rfl)) (by decide) (by decide)) (g := (mkF m 93 #[.val (.long x0), .second, .val (.int x1), .val (.long x2), .second, .val (.int x3), .val (.int x4), .val (.long tt), .second, .val (.int mm), .val (.ref b1), .val (.ref b2), .val (.int (fib x0 x1 tt mm)), .val (.int (fib tt mm x0 x1))] [(.int x1), (.long x0), (.int mm), (.long tt), (.int (fib tt mm x0 x1))])) rfl (by rw [hml]; rfl) (argsL := [(.long tt), (.int mm), (.long x0), (.int x1)]) (rest := [(.int (fib tt mm x0 x1))]) (lenOf pd_13 rfl) rfl (by show 2 * 0 + _ ≤ _; exact Nat.le_of_eq rfl) (hb hby at_93) (fun _ _ => ⟨rfl, hh38, (by decide : 2 + 0 ≤ _), (by decide : 4 + 0 ≤ _)⟩)
  dsimp only [Pt.U, Pt.locs, Pt.cells, Pt.slots] at X42 l42 y42 z42 st42 hQ42
  subst l42 y42 z42
  obtain ⟨rfl, N42q, hh42⟩ := hQ42
  have N42 := Fr.app N38 N42q
  have pre43 : Go p e below (s₁.setTop (entryFrame m #[(.long x0), (.int x1), (.long x2), (.int x3), (.int x4)] maxLocals)) (T42.setTop (mkF m 96 #[.val (.long x0), .second, .val (.int x1), .val (.long x2), .second, .val (.int x3), .val (.int x4), .val (.long tt), .second, .val (.int mm), .val (.ref b1), .val (.ref b2), .val (.int (fib x0 x1 tt mm)), .val (.int (fib tt mm x0 x1))] [(.int (flex tt mm x0 x1)), (.int (fib tt mm x0 x1))])) := fun t k => pre41 t (st42 t k)
  have hc96_44 : (fib tt mm x0 x1) = (flex tt mm x0 x1) := by
    exact own_ib _ _ _ _
  have pre45 : Go p e below (s₁.setTop (entryFrame m #[(.long x0), (.int x1), (.long x2), (.int x3), (.int x4)] maxLocals)) (T42.setTop (mkF m 104 #[.val (.long x0), .second, .val (.int x1), .val (.long x2), .second, .val (.int x3), .val (.int x4), .val (.long tt), .second, .val (.int mm), .val (.ref b1), .val (.ref b2), .val (.int (fib x0 x1 tt mm)), .val (.int (fib tt mm x0 x1))] [(.int (1 : Int32))])) := by
    intro t k
    refine pre43 t ?_
    show Steps p.tables e below (T42.setTop (mkF m 96 #[.val (.long x0), .second, .val (.int x1), .val (.long x2), .second, .val (.int x3), .val (.int x4), .val (.long tt), .second, .val (.int mm), .val (.ref b1), .val (.ref b2), .val (.int (fib x0 x1 tt mm)), .val (.int (fib tt mm x0 x1))] [(.int (flex tt mm x0 x1)), (.int (fib tt mm x0 x1))])) _
    refine XS.icmpNo X42.here hx rfl (hb hby at_96) rfl (XT.ii_ne_f hc96_44) ?_
    show Steps p.tables e below (T42.setTop (mkF m 99 #[.val (.long x0), .second, .val (.int x1), .val (.long x2), .second, .val (.int x3), .val (.int x4), .val (.long tt), .second, .val (.int mm), .val (.ref b1), .val (.ref b2), .val (.int (fib x0 x1 tt mm)), .val (.int (fib tt mm x0 x1))] [])) _
    refine XS.iconst X42.here hx rfl (hb hby at_99) ?_
    show Steps p.tables e below (T42.setTop (mkF m 100 #[.val (.long x0), .second, .val (.int x1), .val (.long x2), .second, .val (.int x3), .val (.int x4), .val (.long tt), .second, .val (.int mm), .val (.ref b1), .val (.ref b2), .val (.int (fib x0 x1 tt mm)), .val (.int (fib tt mm x0 x1))] [(.int (1 : Int32))])) _
    refine XS.goto X42.here hx rfl (pc0 := 100) (pc' := 104) rfl (hb hby at_100) (by decide) (by decide) ?_
    show Steps p.tables e below (T42.setTop (mkF m 104 #[.val (.long x0), .second, .val (.int x1), .val (.long x2), .second, .val (.int x3), .val (.int x4), .val (.long tt), .second, .val (.int mm), .val (.ref b1), .val (.ref b2), .val (.int (fib x0 x1 tt mm)), .val (.int (fib tt mm x0 x1))] [(.int (1 : Int32))])) _
    exact k
  obtain ⟨fs, hr, hrun, hended, hW, hsame⟩ := X42.leave (hlocks := hlk) (v := some (.int (1 : Int32))) (fun h => by rw [Bd.returns] at h; cases h)
  refine ⟨_, _, pre45 _ (retN X42 hx (t := .boolean) Bd.returns (by simp) (hb hby at_104) hr), hrun, hended, _, _, rfl, ?_, ⟨_, rfl⟩, hW, hsame.mono (by decide) (by decide)⟩
  show Q0 Z x0 x1 x2 x3 x4 h0 n0 _ T42.heap _
  rw [hh42]
  exact ⟨rfl, N42⟩
set_option maxRecDepth 65536 in
set_option maxHeartbeats 40000000 in
theorem comes_1 {Post : Tables → Env → Array Value → State → Outcome → State → Prop} (hpost : ∀ tb e args s v u, (limb_1_1.after args s (.returned v) u = true ∧ limb_1_2.after args s (.returned v) u = true ∧ True) → FrameEnd s (.returned v) u (Jvm.fieldLocs frame_1_writes args s ++ Jvm.arrayLocs frame_1_arrays args s ++ Jvm.staticLocs frame_1_statics s) 16 128 → Post tb e args s (.returned v) u) :
    ArmFor flags0 classFile x code maxLocals ret World_1 tables_1 room_1 Calls_1 rest_1 Pre_1 Post := by
  intro l hfl _ _ p e ha hc hk s m args below hf hA hF happ hP
  obtain ⟨hcalls, hrest, hpre⟩ := hP
  obtain ⟨-, -, -, hnamed, -, -, -, hat⟩ := (Spec.applies_iff hf).mp happ
  obtain ⟨hg, hn⟩ := and_e (Cond.before_iff.mp (show (Jvm.Cond.and given_1 narrow_1).before args s = true from hpre))
  obtain ⟨u1, u2⟩ := and_e hg
  obtain ⟨u3, u4⟩ := and_e u2
  obtain ⟨u5, u6⟩ := and_e u4
  obtain ⟨u7, u8⟩ := and_e u6
  obtain ⟨u9, u10⟩ := and_e u8
  obtain ⟨w0, w1, w2, w3, w4, rfl⟩ : ∃ w0 w1 w2 w3 w4 : Value, args = #[w0, w1, w2, w3, w4] := by
    have hs : args.size = 5 := by simpa [Cond.value, given_1] using u1
    obtain ⟨L⟩ := args
    match L, hs with
    | [w0, w1, w2, w3, w4], _ => exact ⟨w0, w1, w2, w3, w4, rfl⟩
  have hw := fun d (hd : d ∈ tables_1) => atoms_spec (ws := Jvm.Cond.code x code maxLocals ret :: tables_1) hat d (List.mem_cons_of_mem _ hd)
  obtain ⟨i0, ei0⟩ := isL_v u3
  obtain rfl : w0 = (.long i0) := Option.some.inj ei0
  obtain ⟨i1, ei1⟩ := is_v u5
  obtain rfl : w1 = (.int i1) := Option.some.inj ei1
  obtain ⟨i2, ei2⟩ := isL_v u7
  obtain rfl : w2 = (.long i2) := Option.some.inj ei2
  obtain ⟨i3, ei3⟩ := is_v u9
  obtain rfl : w3 = (.int i3) := Option.some.inj ei3
  obtain ⟨i4, ei4⟩ := is_v u10
  obtain rfl : w4 = (.int i4) := Option.some.inj ei4
  obtain ⟨n, o, h1, h2, h3, _, L, rfl, ⟨rfl, N⟩, hq⟩ := rm0 l s _ hw tables_1 i0 i1 i2 i3 i4 s.heap s.heap.size (Nat.le_refl _) p e ha hc hk s m _ below hf ((Spec.applies_iff_loose hf).mp happ).1 ⟨rfl, State.Warmed39.refl s, rfl⟩ trivial
  refine ⟨n, _, h1, h2, h3, hpost _ _ _ _ _ _ ⟨Cond.after_iff.mpr rfl, Cond.after_iff.mpr (eq_i res_at (Term.int_eval (1)) rfl), trivial⟩ ⟨hq.1, hq.2.1, (hq.2.2.sift fun y hy => Or.inr (N y hy)).mono (by decide) (by decide)⟩⟩
theorem main_1_1 : Claimed_1_1 := comes_1 fun _ _ _ _ _ _ h hF => ⟨h.1, hF⟩
theorem main_1_2 : Claimed_1_2 := comes_1 fun _ _ _ _ _ _ h hF => ⟨h.2.1, hF⟩
end Jvm.Pilot.@@N@@
namespace Jvm.Pilot.@@N@@
open Jvm Jvm.ClassFile Sem Op Lib Jvm.Free Jvm.Stand Jvm.Pilot.@@N@@.Jvm.D
/-! MADE BY PROGRAM (witnessworld.py) out of the Statement's table words and the real class files: 16 classes; the members and pool entries that the words name. The judged class is class 1, her method 2. -/
namespace start1
open Jvm.ClassFile
def u (s : String) : CpInfo := .utf8 (stringToUtf16 s)
/-- a pool by its gaps: so many unusable entries, then the entry; so many at the end -/
def gap : Nat → List CpInfo → List CpInfo
  | 0, r => r
  | n + 1, r => .unusable :: gap n r
def poolList (es : List (Nat × CpInfo)) (last : Nat) : List CpInfo := es.foldr (fun e r => gap e.1 (e.2 :: r)) (gap last [])
def pool (es : List (Nat × CpInfo)) (last : Nat) : Array CpInfo := ⟨poolList es last⟩
def fileOf (pool : Array CpInfo) (this : Nat) (attrs : Array Attribute := #[]) (ms : Array MethodInfo := #[]) (fl : Nat := 33) (sup : Nat := 0) (ifs : Array Nat := #[]) (fds : Array FieldInfo := #[]) : ClassFile where
  minorVersion := 0
  majorVersion := 65
  constantPool := pool
  accessFlags := fl
  thisClass := this
  superClass := sup
  interfaces := ifs
  fields := fds
  methods := ms
  attributes := attrs
def plain (name : String) (sup : Option ClassId) : Class where
  name := name
  kind := .ordinary
  loader := none
  accessFlags := 33
  super := sup
  interfaces := #[]
  cf := none
  fields := #[]
  methods := #[]
  instanceTypes := #[]
  staticTypes := #[]
  resolved := #[]
  callSites := []
  init := .initialized
  statics := none
  mirror := none

def pool0 : Array CpInfo := pool [(5, u "<init>"), (0, u "()V"), (1, .class_ 10), (1, u "java/lang/Object")] 113

def k0c0 : Code := { maxStack := 0, maxLocals := 1, code := object_method_1_code, exceptionTable := #[], attributes := #[] }
def k0m0 : Method := { name := "<init>", desc := "()V", sig := { parameters := [], returnType := none }, accessFlags := 1, code := some k0c0 }
/-- java/lang/Object -/
def k0 : Class := { plain "java/lang/Object" none with
  accessFlags := 33
  interfaces := #[]
  cf := some (fileOf pool0 8 #[] #[{ accessFlags := 1, nameIndex := 5, descriptorIndex := 6, attributes := #[] }] 33 0 #[] #[])
  fields := #[]
  methods := #[k0m0]
  instanceTypes := #[]
  staticTypes := #[]
  resolved := Array.replicate 124 none
  statics := none }

def pool1 : Array CpInfo := pool [(2, .class_ 4), (1, u "java/lang/Object"), (0, u "<init>"), (0, u "()V"), (0, .class_ 8), (0, u "com/example/agree_over_wire/agreeoverwire/service/RequestStamp"), (0, .methodref 7 10), (0, .nameAndType 5 11), (0, u "(JI)V"), (0, .methodref 7 13), (0, .nameAndType 14 15), (0, u "isBefore"), (0, u "(Lcom/example/agree_over_wire/agreeoverwire/service/RequestStamp;)Z"), (0, .methodref 17 18), (0, .class_ 19), (0, .nameAndType 20 21), (0, u "com/example/agree_over_wire/agreeoverwire/service/RequestStampIsBeforePinLaw"), (0, u "lexLess"), (0, u "(JIJI)Z"), (3, u "law"), (0, u "(JIJII)Z")] 2

def k1m0 : Method := { name := "<init>", desc := "()V", sig := { parameters := [], returnType := none }, accessFlags := 1, code := none }
def k1c1 : Code := { maxStack := 4, maxLocals := 6, code := method_2_code, exceptionTable := #[], attributes := #[] }
def k1m1 : Method := { name := "lexLess", desc := "(JIJI)Z", sig := { parameters := [.long, .int, .long, .int], returnType := some .boolean }, accessFlags := 10, code := some k1c1 }
def k1c2 : Code := { maxStack := 7, maxLocals := 14, code := code, exceptionTable := #[], attributes := #[] }
def k1m2 : Method := { name := "law", desc := "(JIJII)Z", sig := { parameters := [.long, .int, .long, .int, .int], returnType := some .boolean }, accessFlags := 9, code := some k1c2 }
/-- com/example/agree_over_wire/agreeoverwire/service/RequestStampIsBeforePinLaw -/
def k1 : Class := { plain "com/example/agree_over_wire/agreeoverwire/service/RequestStampIsBeforePinLaw" (some 0) with
  accessFlags := 49
  interfaces := #[]
  cf := some (fileOf pool1 17 #[] #[{ accessFlags := 1, nameIndex := 5, descriptorIndex := 6, attributes := #[] }, { accessFlags := 10, nameIndex := 20, descriptorIndex := 21, attributes := #[] }, { accessFlags := 9, nameIndex := 25, descriptorIndex := 26, attributes := #[] }] 49 2 #[] #[])
  fields := #[]
  methods := #[k1m0, k1m1, k1m2]
  instanceTypes := #[]
  staticTypes := #[]
  resolved := Array.replicate 29 none
  statics := none }

def pool2 : Array CpInfo := pool [(1, .methodref 2 3), (0, .class_ 4), (0, .nameAndType 5 6), (0, u "java/lang/Object"), (0, u "<init>"), (0, u "()V"), (0, .class_ 8), (0, u "java/lang/Record")] 13

def k2c0 : Code := { maxStack := 1, maxLocals := 1, code := jdk_30_method_1_code, exceptionTable := #[], attributes := #[] }
def k2m0 : Method := { name := "<init>", desc := "()V", sig := { parameters := [], returnType := none }, accessFlags := 4, code := some k2c0 }
/-- java/lang/Record -/
def k2 : Class := { plain "java/lang/Record" (some 0) with
  accessFlags := 1057
  interfaces := #[]
  cf := some (fileOf pool2 7 #[] #[{ accessFlags := 4, nameIndex := 5, descriptorIndex := 6, attributes := #[] }] 1057 2 #[] #[])
  fields := #[]
  methods := #[k2m0]
  instanceTypes := #[]
  staticTypes := #[]
  resolved := Array.replicate 22 none
  statics := none }

def pool3 : Array CpInfo := pool [(1, .class_ 2), (0, u "java/lang/Comparable"), (0, .class_ 4), (0, u "java/lang/Object")] 7

/-- java/lang/Comparable -/
def k3 : Class := { plain "java/lang/Comparable" (some 0) with
  accessFlags := 1537
  interfaces := #[]
  cf := some (fileOf pool3 1 #[] #[] 1537 3 #[] #[])
  fields := #[]
  methods := #[]
  instanceTypes := #[]
  staticTypes := #[]
  resolved := Array.replicate 12 none
  statics := none }

def pool4 : Array CpInfo := pool [(1, .methodref 2 3), (0, .class_ 4), (0, .nameAndType 5 6), (0, u "java/lang/Record"), (0, u "<init>"), (0, u "()V"), (0, .fieldref 8 9), (0, .class_ 10), (0, .nameAndType 11 12), (0, u "com/example/agree_over_wire/agreeoverwire/service/RequestStamp"), (0, u "time"), (0, u "J"), (0, .fieldref 8 14), (0, .nameAndType 15 16), (0, u "member"), (0, u "I"), (12, u "(JI)V"), (22, .class_ 54), (1, u "java/lang/Long"), (3, .class_ 60), (1, u "java/lang/Integer"), (4, .methodref 52 66), (0, .nameAndType 67 68), (0, u "compare"), (0, u "(JJ)I"), (0, .methodref 58 70), (0, .nameAndType 67 71), (0, u "(II)I"), (0, .methodref 8 73), (0, .nameAndType 74 75), (0, u "compareTo"), (0, u "(Lcom/example/agree_over_wire/agreeoverwire/service/RequestStamp;)I"), (10, .class_ 87), (0, u "java/lang/Comparable"), (11, u "isBefore"), (0, u "(Lcom/example/agree_over_wire/agreeoverwire/service/RequestStamp;)Z")] 35

def k4c0 : Code := { maxStack := 3, maxLocals := 4, code := prog_42_method_1_code, exceptionTable := #[], attributes := #[] }
def k4m0 : Method := { name := "<init>", desc := "(JI)V", sig := { parameters := [.long, .int], returnType := none }, accessFlags := 0, code := some k4c0 }
def k4c1 : Code := { maxStack := 4, maxLocals := 3, code := prog_42_method_4_code, exceptionTable := #[], attributes := #[] }
def k4m1 : Method := { name := "compareTo", desc := "(Lcom/example/agree_over_wire/agreeoverwire/service/RequestStamp;)I", sig := { parameters := [(.object "com/example/agree_over_wire/agreeoverwire/service/RequestStamp")], returnType := some .int }, accessFlags := 1, code := some k4c1 }
def k4c2 : Code := { maxStack := 2, maxLocals := 2, code := prog_42_method_5_code, exceptionTable := #[], attributes := #[] }
def k4m2 : Method := { name := "isBefore", desc := "(Lcom/example/agree_over_wire/agreeoverwire/service/RequestStamp;)Z", sig := { parameters := [(.object "com/example/agree_over_wire/agreeoverwire/service/RequestStamp")], returnType := some .boolean }, accessFlags := 0, code := some k4c2 }
/-- com/example/agree_over_wire/agreeoverwire/service/RequestStamp -/
def k4 : Class := { plain "com/example/agree_over_wire/agreeoverwire/service/RequestStamp" (some 2) with
  accessFlags := 48
  interfaces := #[3]
  cf := some (fileOf pool4 8 #[] #[{ accessFlags := 0, nameIndex := 5, descriptorIndex := 29, attributes := #[] }, { accessFlags := 1, nameIndex := 74, descriptorIndex := 75, attributes := #[] }, { accessFlags := 0, nameIndex := 99, descriptorIndex := 100, attributes := #[] }] 48 2 #[86] #[{ accessFlags := 18, nameIndex := 11, descriptorIndex := 12, attributes := #[] }, { accessFlags := 18, nameIndex := 15, descriptorIndex := 16, attributes := #[] }])
  fields := #[{ name := "time", type := .long, accessFlags := 18, slot := 0, constantValue := 0 }, { name := "member", type := .int, accessFlags := 18, slot := 1, constantValue := 0 }]
  methods := #[k4m0, k4m1, k4m2]
  instanceTypes := #[.long, .int]
  staticTypes := #[]
  resolved := Array.replicate 136 none
  statics := none }

def pool5 : Array CpInfo := pool [(1, .class_ 2), (0, u "java/io/Serializable"), (0, .class_ 4), (0, u "java/lang/Object")] 2

/-- java/io/Serializable -/
def k5 : Class := { plain "java/io/Serializable" (some 0) with
  accessFlags := 1537
  interfaces := #[]
  cf := some (fileOf pool5 1 #[] #[] 1537 3 #[] #[])
  fields := #[]
  methods := #[]
  instanceTypes := #[]
  staticTypes := #[]
  resolved := Array.replicate 7 none
  statics := none }

def pool6 : Array CpInfo := pool [(2, .class_ 4), (1, u "java/lang/Object"), (0, u "<init>"), (0, u "()V"), (1, .class_ 10), (1, u "java/lang/Number"), (2, .class_ 14), (0, u "java/io/Serializable"), (0, u "serialVersionUID"), (0, u "J")] 20

def k6m0 : Method := { name := "<init>", desc := "()V", sig := { parameters := [], returnType := none }, accessFlags := 1, code := none }
/-- java/lang/Number -/
def k6 : Class := { plain "java/lang/Number" (some 0) with
  accessFlags := 1057
  interfaces := #[5]
  cf := some (fileOf pool6 8 #[] #[{ accessFlags := 1, nameIndex := 5, descriptorIndex := 6, attributes := #[] }] 1057 2 #[13] #[{ accessFlags := 26, nameIndex := 15, descriptorIndex := 16, attributes := #[] }])
  fields := #[{ name := "serialVersionUID", type := .long, accessFlags := 26, slot := 0, constantValue := 0 }]
  methods := #[k6m0]
  instanceTypes := #[]
  staticTypes := #[.long]
  resolved := Array.replicate 37 none
  statics := none }

def pool7 : Array CpInfo := pool [(1, .class_ 2), (0, u "java/lang/constant/Constable"), (0, .class_ 4), (0, u "java/lang/Object")] 6

/-- java/lang/constant/Constable -/
def k7 : Class := { plain "java/lang/constant/Constable" (some 0) with
  accessFlags := 1537
  interfaces := #[]
  cf := some (fileOf pool7 1 #[] #[] 1537 3 #[] #[])
  fields := #[]
  methods := #[]
  instanceTypes := #[]
  staticTypes := #[]
  resolved := Array.replicate 11 none
  statics := none }

def pool8 : Array CpInfo := pool [(1, .class_ 2), (0, u "java/lang/constant/ConstantDesc"), (0, .class_ 4), (0, u "java/lang/Object")] 32

/-- java/lang/constant/ConstantDesc -/
def k8 : Class := { plain "java/lang/constant/ConstantDesc" (some 0) with
  accessFlags := 1537
  interfaces := #[]
  cf := some (fileOf pool8 1 #[] #[] 1537 3 #[] #[])
  fields := #[]
  methods := #[]
  instanceTypes := #[]
  staticTypes := #[]
  resolved := Array.replicate 37 none
  statics := none }

def pool9 : Array CpInfo := pool [(1, .class_ 2), (0, u "java/lang/Long"), (232, .class_ 237), (1, u "java/lang/Long$LongCache"), (33, .class_ 272), (0, u "java/lang/Number"), (2, u "value"), (0, u "J"), (27, u "compare"), (0, u "(JJ)I"), (55, u "TYPE"), (0, u "Ljava/lang/Class;"), (0, .class_ 364), (0, u "java/lang/Comparable"), (0, .class_ 366), (0, u "java/lang/constant/Constable"), (0, .class_ 368), (0, u "java/lang/constant/ConstantDesc"), (0, u "MIN_VALUE"), (1, u "MAX_VALUE"), (4, u "SIZE"), (0, u "I"), (1, u "BYTES"), (1, u "serialVersionUID")] 142

def k9c0 : Code := { maxStack := 4, maxLocals := 4, code := jdk_35_method_42_code, exceptionTable := #[], attributes := #[] }
def k9m0 : Method := { name := "compare", desc := "(JJ)I", sig := { parameters := [.long, .long], returnType := some .int }, accessFlags := 9, code := some k9c0 }
/-- java/lang/Long -/
def k9 : Class := { plain "java/lang/Long" (some 6) with
  accessFlags := 49
  interfaces := #[3, 7, 8]
  cf := some (fileOf pool9 1 #[.nestMembers #[235]] #[{ accessFlags := 9, nameIndex := 304, descriptorIndex := 305, attributes := #[] }] 49 271 #[363, 365, 367] #[{ accessFlags := 25, nameIndex := 369, descriptorIndex := 276, attributes := #[] }, { accessFlags := 25, nameIndex := 371, descriptorIndex := 276, attributes := #[] }, { accessFlags := 25, nameIndex := 361, descriptorIndex := 362, attributes := #[] }, { accessFlags := 18, nameIndex := 275, descriptorIndex := 276, attributes := #[] }, { accessFlags := 25, nameIndex := 376, descriptorIndex := 377, attributes := #[] }, { accessFlags := 25, nameIndex := 379, descriptorIndex := 377, attributes := #[] }, { accessFlags := 26, nameIndex := 381, descriptorIndex := 276, attributes := #[] }])
  fields := #[{ name := "MIN_VALUE", type := .long, accessFlags := 25, slot := 0, constantValue := 0 }, { name := "MAX_VALUE", type := .long, accessFlags := 25, slot := 1, constantValue := 0 }, { name := "TYPE", type := (.object "java/lang/Class"), accessFlags := 25, slot := 2, constantValue := 0 }, { name := "value", type := .long, accessFlags := 18, slot := 0, constantValue := 0 }, { name := "SIZE", type := .int, accessFlags := 25, slot := 3, constantValue := 0 }, { name := "BYTES", type := .int, accessFlags := 25, slot := 4, constantValue := 0 }, { name := "serialVersionUID", type := .long, accessFlags := 26, slot := 5, constantValue := 0 }]
  methods := #[k9m0]
  instanceTypes := #[.long]
  staticTypes := #[.long, .long, (.object "java/lang/Class"), .int, .int, .long]
  resolved := Array.replicate 524 none
  statics := none }

def pool10 : Array CpInfo := pool [(1, .class_ 2), (0, u "java/lang/Integer"), (16, u "digits"), (0, u "[C"), (39, u "(II)I"), (24, u "DigitOnes"), (0, u "[B"), (2, u "DigitTens"), (99, .class_ 190), (0, u "java/lang/Integer$IntegerCache"), (3, u "I"), (8, .class_ 204), (0, u "java/lang/Number"), (2, u "value"), (53, u "compare"), (40, u "TYPE"), (0, u "Ljava/lang/Class;"), (0, .class_ 305), (0, u "java/lang/Comparable"), (0, .class_ 307), (0, u "java/lang/constant/Constable"), (0, .class_ 309), (0, u "java/lang/constant/ConstantDesc"), (0, u "MIN_VALUE"), (1, u "MAX_VALUE"), (3, u "SIZE"), (1, u "BYTES"), (1, u "serialVersionUID"), (0, u "J")] 131

def k10c0 : Code := { maxStack := 2, maxLocals := 2, code := jdk_33_method_40_code, exceptionTable := #[], attributes := #[] }
def k10m0 : Method := { name := "compare", desc := "(II)I", sig := { parameters := [.int, .int], returnType := some .int }, accessFlags := 9, code := some k10c0 }
/-- java/lang/Integer -/
def k10 : Class := { plain "java/lang/Integer" (some 6) with
  accessFlags := 49
  interfaces := #[3, 7, 8]
  cf := some (fileOf pool10 1 #[.nestMembers #[189]] #[{ accessFlags := 9, nameIndex := 261, descriptorIndex := 60, attributes := #[] }] 49 203 #[304, 306, 308] #[{ accessFlags := 25, nameIndex := 310, descriptorIndex := 194, attributes := #[] }, { accessFlags := 25, nameIndex := 312, descriptorIndex := 194, attributes := #[] }, { accessFlags := 25, nameIndex := 302, descriptorIndex := 303, attributes := #[] }, { accessFlags := 24, nameIndex := 19, descriptorIndex := 20, attributes := #[] }, { accessFlags := 24, nameIndex := 89, descriptorIndex := 86, attributes := #[] }, { accessFlags := 24, nameIndex := 85, descriptorIndex := 86, attributes := #[] }, { accessFlags := 18, nameIndex := 207, descriptorIndex := 194, attributes := #[] }, { accessFlags := 25, nameIndex := 316, descriptorIndex := 194, attributes := #[] }, { accessFlags := 25, nameIndex := 318, descriptorIndex := 194, attributes := #[] }, { accessFlags := 26, nameIndex := 320, descriptorIndex := 321, attributes := #[] }])
  fields := #[{ name := "MIN_VALUE", type := .int, accessFlags := 25, slot := 0, constantValue := 0 }, { name := "MAX_VALUE", type := .int, accessFlags := 25, slot := 1, constantValue := 0 }, { name := "TYPE", type := (.object "java/lang/Class"), accessFlags := 25, slot := 2, constantValue := 0 }, { name := "digits", type := (.array .char), accessFlags := 24, slot := 3, constantValue := 0 }, { name := "DigitTens", type := (.array .byte), accessFlags := 24, slot := 4, constantValue := 0 }, { name := "DigitOnes", type := (.array .byte), accessFlags := 24, slot := 5, constantValue := 0 }, { name := "value", type := .int, accessFlags := 18, slot := 0, constantValue := 0 }, { name := "SIZE", type := .int, accessFlags := 25, slot := 6, constantValue := 0 }, { name := "BYTES", type := .int, accessFlags := 25, slot := 7, constantValue := 0 }, { name := "serialVersionUID", type := .long, accessFlags := 26, slot := 8, constantValue := 0 }]
  methods := #[k10m0]
  instanceTypes := #[.int]
  staticTypes := #[.int, .int, (.object "java/lang/Class"), (.array .char), (.array .byte), (.array .byte), .int, .int, .long]
  resolved := Array.replicate 453 none
  statics := none }

def pool11 : Array CpInfo := pool [(1, u "java/lang/Cloneable"), (0, .class_ 1), (0, u "java/lang/Object"), (0, .class_ 3)] 3

/-- java/lang/Cloneable -/
def k11 : Class := { plain "java/lang/Cloneable" (some 0) with
  accessFlags := 1537
  interfaces := #[]
  cf := some (fileOf pool11 2 #[] #[] 1537 4 #[] #[])
  fields := #[]
  methods := #[]
  instanceTypes := #[]
  staticTypes := #[]
  resolved := Array.replicate 8 none
  statics := none }

/-- the primitive byte -/
def k12 : Class := { plain "byte" none with kind := .primitive 'B', accessFlags := 0x411 }
/-- [B -/
def k13 : Class := { plain "[B" (some 0) with kind := .array 12 .byte, interfaces := #[11, 5], accessFlags := 1041 }

/-- the primitive int -/
def k14 : Class := { plain "int" none with kind := .primitive 'I', accessFlags := 0x411 }
/-- [I -/
def k15 : Class := { plain "[I" (some 0) with kind := .array 14 .int, interfaces := #[11, 5], accessFlags := 1041 }

def heap : Heap := #[]
def classes : Array Class := #[k0, k1, k2, k3, k4, k5, k6, k7, k8, k9, k10, k11, k12, k13, k14, k15]
def interned : List (Array UInt16 × Addr) := []
def slotsUsed : Nat := 0
def theMethod : MethodId := ⟨1, 2⟩
def args0 : Array Value := #[.long 5, .int 7, .long 6, .int 3, .int 1]
def aboutOver (below : List Frame) : State where
  vm := { classes := classes, interned := interned.toArray }
  heap := heap
  slotsUsed := slotsUsed
  threads := #[{ frames := .invoking theMethod args0 :: below }]
def below0 : List Frame := [.native { method := ⟨0, 0⟩, args := #[] }]
def about1 : State := aboutOver below0
def p0 : Program := .bare "" "" ""
def e0 : Env := launch0.env 0 0 0
theorem w_frames : about1.frames = Frame.invoking theMethod args0 :: below0 := rfl
set_option maxRecDepth 65536 in
theorem w_args : argsFit about1.vm theMethod args0 = true := by decide +kernel
set_option maxRecDepth 65536 in
theorem w_heap : heapFits about1 = true := by decide +kernel
set_option maxRecDepth 65536 in
theorem w_runnable : about1.curStatus? = some .runnable := by decide +kernel
set_option maxRecDepth 65536 in
theorem w_alone : about1.alone = true := by decide +kernel
set_option maxRecDepth 65536 in
theorem w_named : about1.methodNamed? x = some theMethod := by decide +kernel
set_option maxRecDepth 65536 in
theorem w_hears : about1.hears theMethod below0 = true := by decide +kernel
set_option maxRecDepth 65536 in
theorem w_ripe : about1.ripe theMethod args0 below0 = true := by decide +kernel
theorem w_running : about1.status = .running := rfl
set_option maxRecDepth 65536 in
theorem w_room : about1.hasRoom e0.platform room_1 = true :=
  launch0.hasRoom_least _ room_1 (by decide +kernel) (by decide +kernel) (by decide +kernel) (by decide +kernel) (by decide +kernel) (by decide +kernel)
theorem allAtoms_all (ts : List Jvm.Cond) (a : Array Jvm.Value) (st : Jvm.State) : (allAtoms ts).before a st = ts.all (fun c => c.before a st) := by
  induction ts with
  | nil => rfl
  | cons c t ih =>
    show (Jvm.Cond.and c (allAtoms t)).before a st = _
    rw [Jvm.Cond.before_and, ih, List.all_cons]
def words1 : List Jvm.Cond := Jvm.Cond.code x code maxLocals ret :: tables_1
/-- a 'code' word, met by the world's own term for the bytes: nothing is compared byte by byte -/
theorem code_word {y : MethodName} {bytes : ByteArray} {mx : Nat} {rt : Option FieldType} {a : Array Value} {s : State} {m : MethodId} {meth : Method} {c : Code} (h1 : s.methodNamed? y = some m) (h2 : s.vm.method? m = some meth) (h3 : meth.code = some c) (h4 : c.code = bytes)
    (h5 : (c.maxLocals == mx && c.exceptionTable.isEmpty && decide (c.maxStack ≤ mostOperands) && decide (meth.sig.returnType = rt) && !meth.locks && decide (parseMethodDescriptor y.desc = some meth.sig)) = true) : (Jvm.Cond.code y bytes mx rt).before a s = true := by
  simp only [Bool.and_eq_true, beq_iff_eq, Bool.not_eq_true', decide_eq_true_eq] at h5
  obtain ⟨⟨⟨⟨⟨g1, g2⟩, g3⟩, g4⟩, g5⟩, g6⟩ := h5
  simp [Cond.before, Cond.holds, Cond.value, h1, h2, h3, h4, g1, g2, g3, g4, g5, g6]
def isCode : Jvm.Cond → Bool
  | .code _ _ _ _ => true
  | _ => false
theorem all_split {L : List Jvm.Cond} {P : Jvm.Cond → Bool} (h1 : L.all (fun c => isCode c || P c) = true) (h2 : ∀ c ∈ L.filter isCode, P c = true) : L.all P = true := by
  refine List.all_eq_true.mpr fun c hc => ?_
  have h := List.all_eq_true.mp h1 c hc
  rcases Bool.eq_false_or_eq_true (isCode c) with hi | hi
  · exact h2 c (List.mem_filter.mpr ⟨hc, hi⟩)
  · simpa [hi] using h
set_option maxRecDepth 65536 in
theorem w_c0 : (Jvm.Cond.code x code maxLocals ret).before args0 about1 = true := code_word (m := ⟨1, 2⟩) (meth := k1m2) (c := k1c2) (by decide +kernel) rfl rfl rfl (by decide +kernel)
set_option maxRecDepth 65536 in
theorem w_c1 : (Jvm.Cond.code ({ cls := "com/example/agree_over_wire/agreeoverwire/service/RequestStamp", name := "<init>", desc := "(JI)V" } : Jvm.MethodName) prog_42_method_1_code (4 : Nat) (Option.none : Option Jvm.ClassFile.FieldType)).before args0 about1 = true := code_word (m := ⟨4, 0⟩) (meth := k4m0) (c := k4c0) (by decide +kernel) rfl rfl rfl (by decide +kernel)
set_option maxRecDepth 65536 in
theorem w_c2 : (Jvm.Cond.code ({ cls := "java/lang/Record", name := "<init>", desc := "()V" } : Jvm.MethodName) jdk_30_method_1_code (1 : Nat) (Option.none : Option Jvm.ClassFile.FieldType)).before args0 about1 = true := code_word (m := ⟨2, 0⟩) (meth := k2m0) (c := k2c0) (by decide +kernel) rfl rfl rfl (by decide +kernel)
set_option maxRecDepth 65536 in
theorem w_c3 : (Jvm.Cond.code ({ cls := "java/lang/Object", name := "<init>", desc := "()V" } : Jvm.MethodName) object_method_1_code (1 : Nat) (Option.none : Option Jvm.ClassFile.FieldType)).before args0 about1 = true := code_word (m := ⟨0, 0⟩) (meth := k0m0) (c := k0c0) (by decide +kernel) rfl rfl rfl (by decide +kernel)
set_option maxRecDepth 65536 in
theorem w_c4 : (Jvm.Cond.code ({ cls := "com/example/agree_over_wire/agreeoverwire/service/RequestStamp", name := "isBefore", desc := "(Lcom/example/agree_over_wire/agreeoverwire/service/RequestStamp;)Z" } : Jvm.MethodName) prog_42_method_5_code (2 : Nat) (Option.some Jvm.ClassFile.FieldType.boolean)).before args0 about1 = true := code_word (m := ⟨4, 2⟩) (meth := k4m2) (c := k4c2) (by decide +kernel) rfl rfl rfl (by decide +kernel)
set_option maxRecDepth 65536 in
theorem w_c5 : (Jvm.Cond.code ({ cls := "com/example/agree_over_wire/agreeoverwire/service/RequestStamp", name := "compareTo", desc := "(Lcom/example/agree_over_wire/agreeoverwire/service/RequestStamp;)I" } : Jvm.MethodName) prog_42_method_4_code (3 : Nat) (Option.some Jvm.ClassFile.FieldType.int)).before args0 about1 = true := code_word (m := ⟨4, 1⟩) (meth := k4m1) (c := k4c1) (by decide +kernel) rfl rfl rfl (by decide +kernel)
set_option maxRecDepth 65536 in
theorem w_c6 : (Jvm.Cond.code ({ cls := "java/lang/Long", name := "compare", desc := "(JJ)I" } : Jvm.MethodName) jdk_35_method_42_code (4 : Nat) (Option.some Jvm.ClassFile.FieldType.int)).before args0 about1 = true := code_word (m := ⟨9, 0⟩) (meth := k9m0) (c := k9c0) (by decide +kernel) rfl rfl rfl (by decide +kernel)
set_option maxRecDepth 65536 in
theorem w_c7 : (Jvm.Cond.code ({ cls := "com/example/agree_over_wire/agreeoverwire/service/RequestStampIsBeforePinLaw", name := "lexLess", desc := "(JIJI)Z" } : Jvm.MethodName) method_2_code (6 : Nat) (Option.some Jvm.ClassFile.FieldType.boolean)).before args0 about1 = true := code_word (m := ⟨1, 1⟩) (meth := k1m1) (c := k1c1) (by decide +kernel) rfl rfl rfl (by decide +kernel)
set_option maxRecDepth 65536 in
theorem w_c8 : (Jvm.Cond.code ({ cls := "java/lang/Integer", name := "compare", desc := "(II)I" } : Jvm.MethodName) jdk_33_method_40_code (2 : Nat) (Option.some Jvm.ClassFile.FieldType.int)).before args0 about1 = true := code_word (m := ⟨10, 0⟩) (meth := k10m0) (c := k10c0) (by decide +kernel) rfl rfl rfl (by decide +kernel)
def codes1 : List Jvm.Cond := [Jvm.Cond.code x code maxLocals ret, Jvm.Cond.code ({ cls := "com/example/agree_over_wire/agreeoverwire/service/RequestStamp", name := "<init>", desc := "(JI)V" } : Jvm.MethodName) prog_42_method_1_code (4 : Nat) (Option.none : Option Jvm.ClassFile.FieldType), Jvm.Cond.code ({ cls := "java/lang/Record", name := "<init>", desc := "()V" } : Jvm.MethodName) jdk_30_method_1_code (1 : Nat) (Option.none : Option Jvm.ClassFile.FieldType), Jvm.Cond.code ({ cls := "java/lang/Object", name := "<init>", desc := "()V" } : Jvm.MethodName) object_method_1_code (1 : Nat) (Option.none : Option Jvm.ClassFile.FieldType), Jvm.Cond.code ({ cls := "com/example/agree_over_wire/agreeoverwire/service/RequestStamp", name := "isBefore", desc := "(Lcom/example/agree_over_wire/agreeoverwire/service/RequestStamp;)Z" } : Jvm.MethodName) prog_42_method_5_code (2 : Nat) (Option.some Jvm.ClassFile.FieldType.boolean), Jvm.Cond.code ({ cls := "com/example/agree_over_wire/agreeoverwire/service/RequestStamp", name := "compareTo", desc := "(Lcom/example/agree_over_wire/agreeoverwire/service/RequestStamp;)I" } : Jvm.MethodName) prog_42_method_4_code (3 : Nat) (Option.some Jvm.ClassFile.FieldType.int), Jvm.Cond.code ({ cls := "java/lang/Long", name := "compare", desc := "(JJ)I" } : Jvm.MethodName) jdk_35_method_42_code (4 : Nat) (Option.some Jvm.ClassFile.FieldType.int), Jvm.Cond.code ({ cls := "com/example/agree_over_wire/agreeoverwire/service/RequestStampIsBeforePinLaw", name := "lexLess", desc := "(JIJI)Z" } : Jvm.MethodName) method_2_code (6 : Nat) (Option.some Jvm.ClassFile.FieldType.boolean), Jvm.Cond.code ({ cls := "java/lang/Integer", name := "compare", desc := "(II)I" } : Jvm.MethodName) jdk_33_method_40_code (2 : Nat) (Option.some Jvm.ClassFile.FieldType.int)]
set_option maxRecDepth 65536 in
theorem codes_eq : words1.filter isCode = codes1 := rfl
theorem w_codes : ∀ c ∈ words1.filter isCode, c.before args0 about1 = true := by
  rw [codes_eq]
  intro c hc
  simp only [codes1, List.mem_cons, List.not_mem_nil, or_false] at hc
  rcases hc with rfl | rfl | rfl | rfl | rfl | rfl | rfl | rfl | rfl
  · exact w_c0
  · exact w_c1
  · exact w_c2
  · exact w_c3
  · exact w_c4
  · exact w_c5
  · exact w_c6
  · exact w_c7
  · exact w_c8
set_option maxRecDepth 65536 in
theorem w_t1 : (words1.take 24).all (fun c => isCode c || c.before args0 about1) = true := by decide +kernel
set_option maxRecDepth 65536 in
theorem w_t2 : (words1.drop 24).all (fun c => isCode c || c.before args0 about1) = true := by decide +kernel
theorem w_tables : (allAtoms (Jvm.Cond.code x code maxLocals ret :: tables_1)).before args0 about1 = true := by
  rw [allAtoms_all]
  show words1.all (fun c => c.before args0 about1) = true
  refine all_split ?_ w_codes
  rw [← List.take_append_drop 24 words1, List.all_append, w_t1, w_t2]
  rfl
set_option maxRecDepth 65536 in
theorem w_case : (Jvm.Cond.and given_1 narrow_1).before args0 about1 = true := by decide +kernel
theorem w_applies : (headSpec (Jvm.Cond.code x code maxLocals ret :: tables_1) room_1).applies x e0.platform about1 = true :=
  (Spec.applies_iff w_frames).mpr ⟨w_running, w_runnable, w_alone, w_named, w_hears, w_ripe, w_room, w_tables⟩
theorem atStart : AtStart classFile x code maxLocals ret World_1 tables_1 room_1 Calls_1 rest_1 Pre_1 launch0 p0 e0 about1 theMethod args0 below0 :=
  ⟨lists_1, trivial, launch0.admits_env _ _ _, launch0.least_env, fairChoices_fair.cas, fairChoices_fair.clock, w_frames, w_args, w_heap, w_applies, trivial, trivial, w_case⟩
end start1
theorem witness_1 : WitnessClaimed_1 := ⟨start1.p0, start1.e0, start1.about1, start1.theMethod, start1.args0, start1.below0, start1.atStart⟩
end Jvm.Pilot.@@N@@
