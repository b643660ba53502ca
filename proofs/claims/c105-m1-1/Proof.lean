import JvmDerived
import JvmDerived.Pilot.@@N@@Statement
import JvmDerived.Pilot.@@N@@Code
set_option linter.unusedVariables false
set_option linter.unusedSimpArgs false
@@BLOCK:NumsL.lean.txt@@
namespace Jvm.RoadKit
open Sem ClassFile Op Lib Jvm.Stand Jvm.Free Jvm.LawKit
section New
variable {p : Program} {l : Launch} {e : Env} {R : Room} {s : State} {m : MethodId} {args : Array Value} {below : List Frame} {meth : Method} {c : Code} {T : State} {locs : List Loc} {cells slots : Nat}
theorem retI (X : Stand p l e R s m args below meth c T locs cells slots) (hx : p.tables.exec = Jvm.exec) {pc : Nat} {Ls : Array Slot} {z : Int32} {rest : List Value} (hret : meth.sig.returnType = some .int) (hd : decode c.code pc = .ok (.ireturn, 1)) {fs : List Frame}
    (hl : ∀ (f : JFrame) (acts : List Action), f.method = m → f.locked = none → f.entered = [] → (doReturn e (T.setTop f) acts (some (.int z))).1 = T.setFrames fs) : Steps p.tables e below (T.setTop (mkF m pc Ls (.int z :: rest))) (T.setFrames fs) :=
  retOut X hx (w := .int z) (t := .int) (i := .ireturn) hret rfl (Or.inl ⟨rfl, Or.inl rfl, z, rfl⟩) hd hl
theorem retJ (X : Stand p l e R s m args below meth c T locs cells slots) (hx : p.tables.exec = Jvm.exec) {pc : Nat} {Ls : Array Slot} {z : Int64} {rest : List Value} (hret : meth.sig.returnType = some .long) (hd : decode c.code pc = .ok (.lreturn, 1)) {fs : List Frame}
    (hl : ∀ (f : JFrame) (acts : List Action), f.method = m → f.locked = none → f.entered = [] → (doReturn e (T.setTop f) acts (some (.long z))).1 = T.setFrames fs) : Steps p.tables e below (T.setTop (mkF m pc Ls (.long z :: rest))) (T.setFrames fs) :=
  retOut X hx (w := .long z) (t := .long) (i := .lreturn) hret rfl (Or.inr (Or.inl ⟨rfl, rfl, z, rfl⟩)) hd hl
theorem retA (X : Stand p l e R s m args below meth c T locs cells slots) (hx : p.tables.exec = Jvm.exec) {pc : Nat} {Ls : Array Slot} {w : Value} {t : FieldType} {rest : List Value} (hret : meth.sig.returnType = some t) (ht : t.isReference = true) (hw : w.isRef = true) (hn : narrow t w = w) (hd : decode c.code pc = .ok (.areturn, 1)) {fs : List Frame}
    (hl : ∀ (f : JFrame) (acts : List Action), f.method = m → f.locked = none → f.entered = [] → (doReturn e (T.setTop f) acts (some w)).1 = T.setFrames fs) : Steps p.tables e below (T.setTop (mkF m pc Ls (w :: rest))) (T.setFrames fs) :=
  retOut X hx (w := w) (t := t) (i := .areturn) hret hn (Or.inr (Or.inr (Or.inr (Or.inr ⟨rfl, ht, hw⟩)))) hd hl
end New
end Jvm.RoadKit
namespace Jvm.Pilot.@@N@@
open Jvm Jvm.ClassFile Sem Op Lib Jvm.Free Jvm.Stand Jvm.LawKit Jvm.RoadKit Bundle Jvm.Pilot.@@N@@.Jvm.D
/-- from S every run comes to T -/
abbrev Go (p : Program) (e : Env) (below : List Frame) (S T : State) : Prop := ∀ t, Steps p.tables e below T t → Steps p.tables e below S t

theorem own_ofNat {c : Int32} {n : Nat} (h : c.toInt = n) : c = Int32.ofNat n := by
  apply Int32.toInt_inj.mp
  have h2 := c.toInt_lt
  rw [Int32.toInt_ofNat', show Int32.size = 4294967296 from rfl, Int.bmod_eq_of_le (by omega) (by omega), h]
theorem own_char (x : Int32) : (x.toUInt32.toUInt16.toUInt32.toInt32).toInt = x.toInt % 65536 := by
  have h : (x.toUInt32.toUInt16.toUInt32.toInt32).toBitVec = (x.toBitVec.setWidth 16).setWidth 32 := rfl
  have h1 : (x.toUInt32.toUInt16.toUInt32.toInt32).toInt = ((x.toBitVec.setWidth 16).setWidth 32).toInt := by rw [← h]; rfl
  rw [h1, BitVec.toInt_eq_toNat_cond]
  have h3 : x.toInt = x.toBitVec.toInt := rfl
  rw [h3, BitVec.toInt_eq_toNat_cond]
  simp only [BitVec.toNat_setWidth]
  have := x.toBitVec.isLt
  split <;> split <;> omega


theorem own_m31 (x : Int32) : 0 ≤ (x &&& 2147483647).toInt := by
  have := Jvm.Kit.i32_mask x 2147483647 (k := 31) (by decide) (by decide); omega
theorem own_rem (x n : Int32) (hn : 0 < n.toInt) : 0 ≤ ((x &&& 2147483647) % n).toInt ∧ ((x &&& 2147483647) % n).toInt < n.toInt := by
  rw [Jvm.Kit.i32_rem_nonneg (own_m31 x)]
  exact ⟨Int.emod_nonneg _ (by omega), Int.emod_lt_of_pos _ hn⟩
theorem own_remeq (x y : Int32) : x - (x / y) * y = x % y := by
  apply Int32.toInt_inj.mp
  have a := (x % y).toInt_lt; have b := (x % y).le_toInt
  rw [Int32.toInt_mod] at a b ⊢
  rw [Int32.toInt_sub, Int32.toInt_mul, Int32.toInt_div, Int.bmod_mul_bmod, Int.sub_bmod_bmod, Int.mul_comm, ← Int.tmod_def]
  exact Jvm.Kit.bmod32 b a
theorem own_irem {tb : Tables} [Ours tb] {e : Env} {below : List Frame} {T target : State} {m : MethodId} {c : Code} {g : JFrame} (h : At T m c below) (hx : tb.exec = Jvm.exec) (hg : g.method = m) {x y : Int32} {rest : List Value} (hd : decode c.code g.pc = .ok (.irem, 1)) (hs : g.stack = .int y :: .int x :: rest) (hy : y ≠ 0)
    (hr : Steps tb e below (T.setTop { g with pc := g.pc + 1, stack := .int (x % y) :: rest }) target) : Steps tb e below (T.setTop g) target := XS.irem h hx hg hd hs hy (by rw [own_remeq]; exact hr)

theorem ef_1_0 (m : MethodId) (p1 : Int32) (p2 : Int32) (p3 : Int32) : entryFrame m #[(.int (0 : Int32)), (.int p1), (.int p2), (.int p3)] 4 = mkF m 0 #[.val (.int (0 : Int32)), .val (.int p1), .val (.int p2), .val (.int p3)] [] := by first | (simp [entryFrame, mkF, argsToLocals, Value.category]; done) | rfl
theorem d1_0 : decode method_2_code 0 = .ok (.iload_n 0, 1) := by decide +kernel
theorem d1_1 : decode method_2_code 1 = .ok (.ifCond .ne 7, 3) := by decide +kernel
theorem d1_4 : decode method_2_code 4 = .ok (.iconst 0, 1) := by decide +kernel
theorem d1_5 : decode method_2_code 5 = .ok (.newarray .byte, 2) := by decide +kernel
theorem d1_7 : decode method_2_code 7 = .ok (.areturn, 1) := by decide +kernel
def Q1_0 (Z : State) (p1 : Int32) (p2 : Int32) (p3 : Int32) (h0 : Heap) (n0 : Nat) (v : Option Value) (h : Heap) (L : List Loc) : Prop := ∃ b k, v = some (.ref b) ∧ n0 ≤ b ∧ Fr n0 L ∧ Keep h0 h [] ∧ Arv Z h b k .byte (0 : Int32) [] (.int (0 : Int32))
set_option maxRecDepth 65536 in
set_option maxHeartbeats 40000000 in
theorem pn_com_example_seshat_seshat_filter_ProbeFnv1aPinLaw : plainName "com/example/seshat/seshat/filter/ProbeFnv1aPinLaw" = true := by first | (simp [plainName, overriddenIn]; done) | decide +kernel
theorem rm1_0 (l : Launch) (Z : State) (a0 : Array Value) (hw : ∀ d ∈ tables_1, d.before a0 Z = true) (ws : List Jvm.Cond) (p1 : Int32) (p2 : Int32) (p3 : Int32) (h0 : Heap) (n0 : Nat) (Z0 : n0 ≤ h0.size) :
    MetFree l (⟨"com/example/seshat/seshat/filter/ProbeFnv1aPinLaw", "prefix", "(IIII)[B"⟩ : MethodName) (head1 (Jvm.Cond.code (⟨"com/example/seshat/seshat/filter/ProbeFnv1aPinLaw", "prefix", "(IIII)[B"⟩ : MethodName) method_2_code 4 (some (.array .byte)) :: ws) ({ frames := 0, cells := 1, slots := 4, locals := 0 } : Room)) (fun a U => a = #[(.int (0 : Int32)), (.int p1), (.int p2), (.int p3)] ∧ Z.Warmed39 U.vm ∧ U.heap = h0) (fun _ _ _ _ _ => True) (fun _ U o U' => ∃ v L, o = .returned v ∧ Q1_0 Z p1 p2 p3 h0 n0 v U'.heap L ∧ FrameEnd U o U' L ({ frames := 0, cells := 1, slots := 4, locals := 0 } : Room).cells ({ frames := 0, cells := 1, slots := 4, locals := 0 } : Room).slots) := by
  refine MetFree.of_bodySF (plainFor_of_name pn_com_example_seshat_seshat_filter_ProbeFnv1aPinLaw) hisR ?_
  intro p e s m args below meth c s₁ Bd hml0 hP hK
  obtain ⟨rfl, hZ, hh⟩ := hP
  have hx := Bd.exec
  have hby := Bd.bytes
  have hml : c.maxLocals = 4 := hml0
  have hown : s.vm.findClass "com/example/seshat/seshat/filter/ProbeFnv1aPinLaw" = some m.cls := findClass_of_methodNamed Bd.named
  have hnm := (name_of_methodNamed Bd.named Bd.method).1
  have hlk : meth.locks = false := BodyLoose.notSynchronized Bd
  have X0 : Stand p l e ({ frames := 0, cells := 1, slots := 4, locals := 0 } : Room) s m #[(.int (0 : Int32)), (.int p1), (.int p2), (.int p3)] below meth c s₁ [] 0 0 := Stand.of_body Bd
  have e0 : s₁.heap = h0 := by rw [← hh, Bd.state]; rfl
  have N0 := Fr.nil n0
  have pre0 : Go p e below (s₁.setTop (entryFrame m #[(.int (0 : Int32)), (.int p1), (.int p2), (.int p3)] 4)) (s₁.setTop (mkF m 0 #[.val (.int (0 : Int32)), .val (.int p1), .val (.int p2), .val (.int p3)] [])) := fun t k => castTop (ef_1_0 m p1 p2 p3) k
  have pre1 : Go p e below (s₁.setTop (entryFrame m #[(.int (0 : Int32)), (.int p1), (.int p2), (.int p3)] 4)) (s₁.setTop (mkF m 1 #[.val (.int (0 : Int32)), .val (.int p1), .val (.int p2), .val (.int p3)] [(.int (0 : Int32))])) := by
    intro t k
    refine pre0 t ?_
    show Steps p.tables e below (s₁.setTop (mkF m 0 #[.val (.int (0 : Int32)), .val (.int p1), .val (.int p2), .val (.int p3)] [])) _
    refine XS.iloadN X0.here hx rfl (hb hby d1_0) rfl ?_
    show Steps p.tables e below (s₁.setTop (mkF m 1 #[.val (.int (0 : Int32)), .val (.int p1), .val (.int p2), .val (.int p3)] [(.int (0 : Int32))])) _
    exact k
  have pre2 : Go p e below (s₁.setTop (entryFrame m #[(.int (0 : Int32)), (.int p1), (.int p2), (.int p3)] 4)) (s₁.setTop (mkF m 5 #[.val (.int (0 : Int32)), .val (.int p1), .val (.int p2), .val (.int p3)] [(.int (0 : Int32))])) := by
    intro t k
    refine pre1 t ?_
    show Steps p.tables e below (s₁.setTop (mkF m 1 #[.val (.int (0 : Int32)), .val (.int p1), .val (.int p2), .val (.int p3)] [(.int (0 : Int32))])) _
    refine XS.ifNo X0.here hx rfl (hb hby d1_1) rfl (XT.i0_ne_f (by decide : (0 : Int32) = (0 : Int32))) ?_
    show Steps p.tables e below (s₁.setTop (mkF m 4 #[.val (.int (0 : Int32)), .val (.int p1), .val (.int p2), .val (.int p3)] [])) _
    refine XS.iconst X0.here hx rfl (hb hby d1_4) ?_
    show Steps p.tables e below (s₁.setTop (mkF m 5 #[.val (.int (0 : Int32)), .val (.int p1), .val (.int p2), .val (.int p3)] [(.int (0 : Int32))])) _
    exact k
  obtain ⟨T3, h3, k3, X3, e3, E3, A3, st3⟩ := newP X0 hx hZ (hw _ (List.mem_of_getElem? (i := 0) rfl)) e0 (g := (mkF m 5 #[.val (.int (0 : Int32)), .val (.int p1), .val (.int p2), .val (.int p3)] [(.int (0 : Int32))])) rfl (hb hby d1_5) rfl (by decide) (cap := 0) (by decide) (by decide) (by decide) (by decide)
  obtain ⟨b3, g3⟩ : ∃ z, z = h0.size := ⟨_, rfl⟩
  rw [← g3] at A3 st3
  have zz4 := (Nat.le_trans Z0 E3.1)
  have K5 := (Keep.refl h0 []).ext E3
  have V_b3 : Arv Z h3 b3 k3 .byte (0 : Int32) [] (.int (0 : Int32)) := (Arv.new A3 (by decide)).pad (pad_rep [] (.int (0 : Int32)) 0)
  have g_b3 : n0 ≤ b3 := Nat.le_trans Z0 (Nat.le_of_eq g3.symm)
  have sz_b3 : h0.size ≤ b3 := Nat.le_trans (Keep.refl h0 []).1 (Nat.le_of_eq g3.symm)
  have pre6 : Go p e below (s₁.setTop (entryFrame m #[(.int (0 : Int32)), (.int p1), (.int p2), (.int p3)] 4)) (T3.setTop (mkF m 7 #[.val (.int (0 : Int32)), .val (.int p1), .val (.int p2), .val (.int p3)] [(.ref b3)])) := fun t k => pre2 t (st3 t k)
  obtain ⟨fs, hr, hrun, hended, hW, hsame⟩ := X3.leave (hlocks := hlk) (v := some (.ref b3)) (fun h => by rw [Bd.returns] at h; cases h)
  refine ⟨_, _, pre6 _ (retA X3 hx Bd.returns rfl rfl rfl (hb hby d1_7) hr), hrun, hended, _, _, rfl, ?_, ⟨_, rfl⟩, hW, hsame.mono (by decide) (by decide)⟩
  show Q1_0 Z p1 p2 p3 h0 n0 _ T3.heap _
  rw [e3]
  exact ⟨b3, k3, rfl, g_b3, N0, K5, V_b3⟩
theorem ef_2_0 (m : MethodId) (p1 : Int32) (p2 : Int32) (p3 : Int32) (p4 : Int32) : entryFrame m #[(.int (0 : Int32)), (.int p1), (.int p2), (.int p3), (.int p4)] 5 = mkF m 0 #[.val (.int (0 : Int32)), .val (.int p1), .val (.int p2), .val (.int p3), .val (.int p4)] [] := by first | (simp [entryFrame, mkF, argsToLocals, Value.category]; done) | rfl
theorem d2_0 : decode method_3_code 0 = .ok (.iload_n 0, 1) := by decide +kernel
theorem d2_1 : decode method_3_code 1 = .ok (.ifCond .ne 13, 3) := by decide +kernel
theorem d2_4 : decode method_3_code 4 = .ok (.iconst 1, 1) := by decide +kernel
theorem d2_5 : decode method_3_code 5 = .ok (.newarray .byte, 2) := by decide +kernel
theorem d2_7 : decode method_3_code 7 = .ok (.dup, 1) := by decide +kernel
theorem d2_8 : decode method_3_code 8 = .ok (.iconst 0, 1) := by decide +kernel
theorem d2_9 : decode method_3_code 9 = .ok (.iload 4, 2) := by decide +kernel
theorem d2_11 : decode method_3_code 11 = .ok (.i2b, 1) := by decide +kernel
theorem d2_12 : decode method_3_code 12 = .ok (.bastore, 1) := by decide +kernel
theorem d2_13 : decode method_3_code 13 = .ok (.areturn, 1) := by decide +kernel
def Q2_0 (Z : State) (p1 : Int32) (p2 : Int32) (p3 : Int32) (p4 : Int32) (h0 : Heap) (n0 : Nat) (v : Option Value) (h : Heap) (L : List Loc) : Prop := ∃ b k, v = some (.ref b) ∧ n0 ≤ b ∧ Fr n0 L ∧ Keep h0 h [] ∧ Arv Z h b k .byte (1 : Int32) [(.int (nar .byte (p4.toInt8.toInt32)))] (.int (0 : Int32))
set_option maxRecDepth 65536 in
set_option maxHeartbeats 40000000 in
theorem rm2_0 (l : Launch) (Z : State) (a0 : Array Value) (hw : ∀ d ∈ tables_1, d.before a0 Z = true) (ws : List Jvm.Cond) (p1 : Int32) (p2 : Int32) (p3 : Int32) (p4 : Int32) (h0 : Heap) (n0 : Nat) (Z0 : n0 ≤ h0.size) :
    MetFree l (⟨"com/example/seshat/seshat/filter/ProbeFnv1aPinLaw", "extended", "(IIIII)[B"⟩ : MethodName) (head1 (Jvm.Cond.code (⟨"com/example/seshat/seshat/filter/ProbeFnv1aPinLaw", "extended", "(IIIII)[B"⟩ : MethodName) method_3_code 5 (some (.array .byte)) :: ws) ({ frames := 0, cells := 1, slots := 4, locals := 0 } : Room)) (fun a U => a = #[(.int (0 : Int32)), (.int p1), (.int p2), (.int p3), (.int p4)] ∧ Z.Warmed39 U.vm ∧ U.heap = h0) (fun _ _ _ _ _ => True) (fun _ U o U' => ∃ v L, o = .returned v ∧ Q2_0 Z p1 p2 p3 p4 h0 n0 v U'.heap L ∧ FrameEnd U o U' L ({ frames := 0, cells := 1, slots := 4, locals := 0 } : Room).cells ({ frames := 0, cells := 1, slots := 4, locals := 0 } : Room).slots) := by
  refine MetFree.of_bodySF (plainFor_of_name pn_com_example_seshat_seshat_filter_ProbeFnv1aPinLaw) hisR ?_
  intro p e s m args below meth c s₁ Bd hml0 hP hK
  obtain ⟨rfl, hZ, hh⟩ := hP
  have hx := Bd.exec
  have hby := Bd.bytes
  have hml : c.maxLocals = 5 := hml0
  have hown : s.vm.findClass "com/example/seshat/seshat/filter/ProbeFnv1aPinLaw" = some m.cls := findClass_of_methodNamed Bd.named
  have hnm := (name_of_methodNamed Bd.named Bd.method).1
  have hlk : meth.locks = false := BodyLoose.notSynchronized Bd
  have X0 : Stand p l e ({ frames := 0, cells := 1, slots := 4, locals := 0 } : Room) s m #[(.int (0 : Int32)), (.int p1), (.int p2), (.int p3), (.int p4)] below meth c s₁ [] 0 0 := Stand.of_body Bd
  have e0 : s₁.heap = h0 := by rw [← hh, Bd.state]; rfl
  have N0 := Fr.nil n0
  have pre0 : Go p e below (s₁.setTop (entryFrame m #[(.int (0 : Int32)), (.int p1), (.int p2), (.int p3), (.int p4)] 5)) (s₁.setTop (mkF m 0 #[.val (.int (0 : Int32)), .val (.int p1), .val (.int p2), .val (.int p3), .val (.int p4)] [])) := fun t k => castTop (ef_2_0 m p1 p2 p3 p4) k
  have pre1 : Go p e below (s₁.setTop (entryFrame m #[(.int (0 : Int32)), (.int p1), (.int p2), (.int p3), (.int p4)] 5)) (s₁.setTop (mkF m 1 #[.val (.int (0 : Int32)), .val (.int p1), .val (.int p2), .val (.int p3), .val (.int p4)] [(.int (0 : Int32))])) := by
    intro t k
    refine pre0 t ?_
    show Steps p.tables e below (s₁.setTop (mkF m 0 #[.val (.int (0 : Int32)), .val (.int p1), .val (.int p2), .val (.int p3), .val (.int p4)] [])) _
    refine XS.iloadN X0.here hx rfl (hb hby d2_0) rfl ?_
    show Steps p.tables e below (s₁.setTop (mkF m 1 #[.val (.int (0 : Int32)), .val (.int p1), .val (.int p2), .val (.int p3), .val (.int p4)] [(.int (0 : Int32))])) _
    exact k
  have pre2 : Go p e below (s₁.setTop (entryFrame m #[(.int (0 : Int32)), (.int p1), (.int p2), (.int p3), (.int p4)] 5)) (s₁.setTop (mkF m 5 #[.val (.int (0 : Int32)), .val (.int p1), .val (.int p2), .val (.int p3), .val (.int p4)] [(.int (1 : Int32))])) := by
    intro t k
    refine pre1 t ?_
    show Steps p.tables e below (s₁.setTop (mkF m 1 #[.val (.int (0 : Int32)), .val (.int p1), .val (.int p2), .val (.int p3), .val (.int p4)] [(.int (0 : Int32))])) _
    refine XS.ifNo X0.here hx rfl (hb hby d2_1) rfl (XT.i0_ne_f (by decide : (0 : Int32) = (0 : Int32))) ?_
    show Steps p.tables e below (s₁.setTop (mkF m 4 #[.val (.int (0 : Int32)), .val (.int p1), .val (.int p2), .val (.int p3), .val (.int p4)] [])) _
    refine XS.iconst X0.here hx rfl (hb hby d2_4) ?_
    show Steps p.tables e below (s₁.setTop (mkF m 5 #[.val (.int (0 : Int32)), .val (.int p1), .val (.int p2), .val (.int p3), .val (.int p4)] [(.int (1 : Int32))])) _
    exact k
  obtain ⟨T3, h3, k3, X3, e3, E3, A3, st3⟩ := newP X0 hx hZ (hw _ (List.mem_of_getElem? (i := 0) rfl)) e0 (g := (mkF m 5 #[.val (.int (0 : Int32)), .val (.int p1), .val (.int p2), .val (.int p3), .val (.int p4)] [(.int (1 : Int32))])) rfl (hb hby d2_5) rfl (by decide) (cap := 1) (by decide) (by decide) (by decide) (by decide)
  obtain ⟨b3, g3⟩ : ∃ z, z = h0.size := ⟨_, rfl⟩
  rw [← g3] at A3 st3
  have zz4 := (Nat.le_trans Z0 E3.1)
  have K5 := (Keep.refl h0 []).ext E3
  have V_b3 : Arv Z h3 b3 k3 .byte (1 : Int32) [(.int (0 : Int32))] (.int (0 : Int32)) := (Arv.new A3 (by decide)).pad (pad_rep [] (.int (0 : Int32)) 1)
  have g_b3 : n0 ≤ b3 := Nat.le_trans Z0 (Nat.le_of_eq g3.symm)
  have sz_b3 : h0.size ≤ b3 := Nat.le_trans (Keep.refl h0 []).1 (Nat.le_of_eq g3.symm)
  have pre6 : Go p e below (s₁.setTop (entryFrame m #[(.int (0 : Int32)), (.int p1), (.int p2), (.int p3), (.int p4)] 5)) (T3.setTop (mkF m 7 #[.val (.int (0 : Int32)), .val (.int p1), .val (.int p2), .val (.int p3), .val (.int p4)] [(.ref b3)])) := fun t k => pre2 t (st3 t k)
  have pre7 : Go p e below (s₁.setTop (entryFrame m #[(.int (0 : Int32)), (.int p1), (.int p2), (.int p3), (.int p4)] 5)) (T3.setTop (mkF m 12 #[.val (.int (0 : Int32)), .val (.int p1), .val (.int p2), .val (.int p3), .val (.int p4)] [(.int ((p4).toInt8.toInt32)), (.int (0 : Int32)), (.ref b3), (.ref b3)])) := by
    intro t k
    refine pre6 t ?_
    show Steps p.tables e below (T3.setTop (mkF m 7 #[.val (.int (0 : Int32)), .val (.int p1), .val (.int p2), .val (.int p3), .val (.int p4)] [(.ref b3)])) _
    refine XS.dup X3.here hx rfl (hb hby d2_7) rfl rfl ?_
    show Steps p.tables e below (T3.setTop (mkF m 8 #[.val (.int (0 : Int32)), .val (.int p1), .val (.int p2), .val (.int p3), .val (.int p4)] [(.ref b3), (.ref b3)])) _
    refine XS.iconst X3.here hx rfl (hb hby d2_8) ?_
    show Steps p.tables e below (T3.setTop (mkF m 9 #[.val (.int (0 : Int32)), .val (.int p1), .val (.int p2), .val (.int p3), .val (.int p4)] [(.int (0 : Int32)), (.ref b3), (.ref b3)])) _
    refine XS.iload X3.here hx rfl (hb hby d2_9) rfl ?_
    show Steps p.tables e below (T3.setTop (mkF m 11 #[.val (.int (0 : Int32)), .val (.int p1), .val (.int p2), .val (.int p3), .val (.int p4)] [(.int p4), (.int (0 : Int32)), (.ref b3), (.ref b3)])) _
    refine XS.i2b X3.here hx rfl (hb hby d2_11) rfl ?_
    show Steps p.tables e below (T3.setTop (mkF m 12 #[.val (.int (0 : Int32)), .val (.int p1), .val (.int p2), .val (.int p3), .val (.int p4)] [(.int ((p4).toInt8.toInt32)), (.int (0 : Int32)), (.ref b3), (.ref b3)])) _
    exact k
  obtain ⟨cl8, Ar8, qq8, SS8, NN8, HH8, GG8⟩ := V_b3
  have hin8 : ¬ ((0 : Int32) < 0 ∨ cl8.slots.size ≤ ((0 : Int32)).toNatClampNeg) := inb_of SS8 ⟨by decide, by decide⟩
  obtain ⟨T8, h8, X8, e8, W8, st8⟩ := stB X3 hx hZ e3 Ar8 (j := (0 : Int32)) hin8 (g := (mkF m 12 #[.val (.int (0 : Int32)), .val (.int p1), .val (.int p2), .val (.int p3), .val (.int p4)] [(.int ((p4).toInt8.toInt32)), (.int (0 : Int32)), (.ref b3), (.ref b3)])) rfl rfl (hb hby d2_12)
  have V8 : Arv Z h8 b3 k3 .byte (1 : Int32) [(.int (nar .byte ((p4).toInt8.toInt32)))] (.int (0 : Int32)) := Arv.set Ar8 qq8 SS8 NN8 HH8 GG8 (fits_nar_byte _) W8 0 rfl (Nat.le_of_ble_eq_true rfl)
  have zz9 := (Nat.le_trans zz4 (Keep.of_wr W8).1)
  have K10 := K5.wr W8 (Or.inr sz_b3)
  have N8 := Fr.snoc X8 N0 g_b3
  have pre11 : Go p e below (s₁.setTop (entryFrame m #[(.int (0 : Int32)), (.int p1), (.int p2), (.int p3), (.int p4)] 5)) (T8.setTop (mkF m 13 #[.val (.int (0 : Int32)), .val (.int p1), .val (.int p2), .val (.int p3), .val (.int p4)] [(.ref b3)])) := fun t k => pre7 t (st8 t k)
  obtain ⟨fs, hr, hrun, hended, hW, hsame⟩ := X8.leave (hlocks := hlk) (v := some (.ref b3)) (fun h => by rw [Bd.returns] at h; cases h)
  refine ⟨_, _, pre11 _ (retA X8 hx Bd.returns rfl rfl rfl (hb hby d2_13) hr), hrun, hended, _, _, rfl, ?_, ⟨_, rfl⟩, hW, hsame.mono (by decide) (by decide)⟩
  show Q2_0 Z p1 p2 p3 p4 h0 n0 _ T8.heap _
  rw [e8]
  exact ⟨b3, k3, rfl, g_b3, N8, K10, V8⟩
theorem ef_1_1 (m : MethodId) (p1 : Int32) (p2 : Int32) (p3 : Int32) : entryFrame m #[(.int (1 : Int32)), (.int p1), (.int p2), (.int p3)] 4 = mkF m 0 #[.val (.int (1 : Int32)), .val (.int p1), .val (.int p2), .val (.int p3)] [] := by first | (simp [entryFrame, mkF, argsToLocals, Value.category]; done) | rfl
theorem d1_8 : decode method_2_code 8 = .ok (.iload_n 0, 1) := by decide +kernel
theorem d1_9 : decode method_2_code 9 = .ok (.iconst 1, 1) := by decide +kernel
theorem d1_10 : decode method_2_code 10 = .ok (.if_icmp .ne 12, 3) := by decide +kernel
theorem d1_13 : decode method_2_code 13 = .ok (.iconst 1, 1) := by decide +kernel
theorem d1_14 : decode method_2_code 14 = .ok (.newarray .byte, 2) := by decide +kernel
theorem d1_16 : decode method_2_code 16 = .ok (.dup, 1) := by decide +kernel
theorem d1_17 : decode method_2_code 17 = .ok (.iconst 0, 1) := by decide +kernel
theorem d1_18 : decode method_2_code 18 = .ok (.iload_n 1, 1) := by decide +kernel
theorem d1_19 : decode method_2_code 19 = .ok (.i2b, 1) := by decide +kernel
theorem d1_20 : decode method_2_code 20 = .ok (.bastore, 1) := by decide +kernel
theorem d1_21 : decode method_2_code 21 = .ok (.areturn, 1) := by decide +kernel
def Q1_1 (Z : State) (p1 : Int32) (p2 : Int32) (p3 : Int32) (h0 : Heap) (n0 : Nat) (v : Option Value) (h : Heap) (L : List Loc) : Prop := ∃ b k, v = some (.ref b) ∧ n0 ≤ b ∧ Fr n0 L ∧ Keep h0 h [] ∧ Arv Z h b k .byte (1 : Int32) [(.int (nar .byte (p1.toInt8.toInt32)))] (.int (0 : Int32))
set_option maxRecDepth 65536 in
set_option maxHeartbeats 40000000 in
theorem rm1_1 (l : Launch) (Z : State) (a0 : Array Value) (hw : ∀ d ∈ tables_1, d.before a0 Z = true) (ws : List Jvm.Cond) (p1 : Int32) (p2 : Int32) (p3 : Int32) (h0 : Heap) (n0 : Nat) (Z0 : n0 ≤ h0.size) :
    MetFree l (⟨"com/example/seshat/seshat/filter/ProbeFnv1aPinLaw", "prefix", "(IIII)[B"⟩ : MethodName) (head1 (Jvm.Cond.code (⟨"com/example/seshat/seshat/filter/ProbeFnv1aPinLaw", "prefix", "(IIII)[B"⟩ : MethodName) method_2_code 4 (some (.array .byte)) :: ws) ({ frames := 0, cells := 1, slots := 4, locals := 0 } : Room)) (fun a U => a = #[(.int (1 : Int32)), (.int p1), (.int p2), (.int p3)] ∧ Z.Warmed39 U.vm ∧ U.heap = h0) (fun _ _ _ _ _ => True) (fun _ U o U' => ∃ v L, o = .returned v ∧ Q1_1 Z p1 p2 p3 h0 n0 v U'.heap L ∧ FrameEnd U o U' L ({ frames := 0, cells := 1, slots := 4, locals := 0 } : Room).cells ({ frames := 0, cells := 1, slots := 4, locals := 0 } : Room).slots) := by
  refine MetFree.of_bodySF (plainFor_of_name pn_com_example_seshat_seshat_filter_ProbeFnv1aPinLaw) hisR ?_
  intro p e s m args below meth c s₁ Bd hml0 hP hK
  obtain ⟨rfl, hZ, hh⟩ := hP
  have hx := Bd.exec
  have hby := Bd.bytes
  have hml : c.maxLocals = 4 := hml0
  have hown : s.vm.findClass "com/example/seshat/seshat/filter/ProbeFnv1aPinLaw" = some m.cls := findClass_of_methodNamed Bd.named
  have hnm := (name_of_methodNamed Bd.named Bd.method).1
  have hlk : meth.locks = false := BodyLoose.notSynchronized Bd
  have X0 : Stand p l e ({ frames := 0, cells := 1, slots := 4, locals := 0 } : Room) s m #[(.int (1 : Int32)), (.int p1), (.int p2), (.int p3)] below meth c s₁ [] 0 0 := Stand.of_body Bd
  have e0 : s₁.heap = h0 := by rw [← hh, Bd.state]; rfl
  have N0 := Fr.nil n0
  have pre0 : Go p e below (s₁.setTop (entryFrame m #[(.int (1 : Int32)), (.int p1), (.int p2), (.int p3)] 4)) (s₁.setTop (mkF m 0 #[.val (.int (1 : Int32)), .val (.int p1), .val (.int p2), .val (.int p3)] [])) := fun t k => castTop (ef_1_1 m p1 p2 p3) k
  have pre1 : Go p e below (s₁.setTop (entryFrame m #[(.int (1 : Int32)), (.int p1), (.int p2), (.int p3)] 4)) (s₁.setTop (mkF m 1 #[.val (.int (1 : Int32)), .val (.int p1), .val (.int p2), .val (.int p3)] [(.int (1 : Int32))])) := by
    intro t k
    refine pre0 t ?_
    show Steps p.tables e below (s₁.setTop (mkF m 0 #[.val (.int (1 : Int32)), .val (.int p1), .val (.int p2), .val (.int p3)] [])) _
    refine XS.iloadN X0.here hx rfl (hb hby d1_0) rfl ?_
    show Steps p.tables e below (s₁.setTop (mkF m 1 #[.val (.int (1 : Int32)), .val (.int p1), .val (.int p2), .val (.int p3)] [(.int (1 : Int32))])) _
    exact k
  have pre2 : Go p e below (s₁.setTop (entryFrame m #[(.int (1 : Int32)), (.int p1), (.int p2), (.int p3)] 4)) (s₁.setTop (mkF m 10 #[.val (.int (1 : Int32)), .val (.int p1), .val (.int p2), .val (.int p3)] [(.int (1 : Int32)), (.int (1 : Int32))])) := by
    intro t k
    refine pre1 t ?_
    show Steps p.tables e below (s₁.setTop (mkF m 1 #[.val (.int (1 : Int32)), .val (.int p1), .val (.int p2), .val (.int p3)] [(.int (1 : Int32))])) _
    refine XS.ifYes X0.here hx rfl (pc0 := 1) (pc' := 8) rfl (hb hby d1_1) rfl (XT.i0_ne_t (by decide : ¬ ((1 : Int32) = (0 : Int32)))) (by decide) (by decide) ?_
    show Steps p.tables e below (s₁.setTop (mkF m 8 #[.val (.int (1 : Int32)), .val (.int p1), .val (.int p2), .val (.int p3)] [])) _
    refine XS.iloadN X0.here hx rfl (hb hby d1_8) rfl ?_
    show Steps p.tables e below (s₁.setTop (mkF m 9 #[.val (.int (1 : Int32)), .val (.int p1), .val (.int p2), .val (.int p3)] [(.int (1 : Int32))])) _
    refine XS.iconst X0.here hx rfl (hb hby d1_9) ?_
    show Steps p.tables e below (s₁.setTop (mkF m 10 #[.val (.int (1 : Int32)), .val (.int p1), .val (.int p2), .val (.int p3)] [(.int (1 : Int32)), (.int (1 : Int32))])) _
    exact k
  have pre3 : Go p e below (s₁.setTop (entryFrame m #[(.int (1 : Int32)), (.int p1), (.int p2), (.int p3)] 4)) (s₁.setTop (mkF m 14 #[.val (.int (1 : Int32)), .val (.int p1), .val (.int p2), .val (.int p3)] [(.int (1 : Int32))])) := by
    intro t k
    refine pre2 t ?_
    show Steps p.tables e below (s₁.setTop (mkF m 10 #[.val (.int (1 : Int32)), .val (.int p1), .val (.int p2), .val (.int p3)] [(.int (1 : Int32)), (.int (1 : Int32))])) _
    refine XS.icmpNo X0.here hx rfl (hb hby d1_10) rfl (XT.ii_ne_f (by decide : (1 : Int32) = (1 : Int32))) ?_
    show Steps p.tables e below (s₁.setTop (mkF m 13 #[.val (.int (1 : Int32)), .val (.int p1), .val (.int p2), .val (.int p3)] [])) _
    refine XS.iconst X0.here hx rfl (hb hby d1_13) ?_
    show Steps p.tables e below (s₁.setTop (mkF m 14 #[.val (.int (1 : Int32)), .val (.int p1), .val (.int p2), .val (.int p3)] [(.int (1 : Int32))])) _
    exact k
  obtain ⟨T4, h4, k4, X4, e4, E4, A4, st4⟩ := newP X0 hx hZ (hw _ (List.mem_of_getElem? (i := 0) rfl)) e0 (g := (mkF m 14 #[.val (.int (1 : Int32)), .val (.int p1), .val (.int p2), .val (.int p3)] [(.int (1 : Int32))])) rfl (hb hby d1_14) rfl (by decide) (cap := 1) (by decide) (by decide) (by decide) (by decide)
  obtain ⟨b4, g4⟩ : ∃ z, z = h0.size := ⟨_, rfl⟩
  rw [← g4] at A4 st4
  have zz5 := (Nat.le_trans Z0 E4.1)
  have K6 := (Keep.refl h0 []).ext E4
  have V_b4 : Arv Z h4 b4 k4 .byte (1 : Int32) [(.int (0 : Int32))] (.int (0 : Int32)) := (Arv.new A4 (by decide)).pad (pad_rep [] (.int (0 : Int32)) 1)
  have g_b4 : n0 ≤ b4 := Nat.le_trans Z0 (Nat.le_of_eq g4.symm)
  have sz_b4 : h0.size ≤ b4 := Nat.le_trans (Keep.refl h0 []).1 (Nat.le_of_eq g4.symm)
  have pre7 : Go p e below (s₁.setTop (entryFrame m #[(.int (1 : Int32)), (.int p1), (.int p2), (.int p3)] 4)) (T4.setTop (mkF m 16 #[.val (.int (1 : Int32)), .val (.int p1), .val (.int p2), .val (.int p3)] [(.ref b4)])) := fun t k => pre3 t (st4 t k)
  have pre8 : Go p e below (s₁.setTop (entryFrame m #[(.int (1 : Int32)), (.int p1), (.int p2), (.int p3)] 4)) (T4.setTop (mkF m 20 #[.val (.int (1 : Int32)), .val (.int p1), .val (.int p2), .val (.int p3)] [(.int ((p1).toInt8.toInt32)), (.int (0 : Int32)), (.ref b4), (.ref b4)])) := by
    intro t k
    refine pre7 t ?_
    show Steps p.tables e below (T4.setTop (mkF m 16 #[.val (.int (1 : Int32)), .val (.int p1), .val (.int p2), .val (.int p3)] [(.ref b4)])) _
    refine XS.dup X4.here hx rfl (hb hby d1_16) rfl rfl ?_
    show Steps p.tables e below (T4.setTop (mkF m 17 #[.val (.int (1 : Int32)), .val (.int p1), .val (.int p2), .val (.int p3)] [(.ref b4), (.ref b4)])) _
    refine XS.iconst X4.here hx rfl (hb hby d1_17) ?_
    show Steps p.tables e below (T4.setTop (mkF m 18 #[.val (.int (1 : Int32)), .val (.int p1), .val (.int p2), .val (.int p3)] [(.int (0 : Int32)), (.ref b4), (.ref b4)])) _
    refine XS.iloadN X4.here hx rfl (hb hby d1_18) rfl ?_
    show Steps p.tables e below (T4.setTop (mkF m 19 #[.val (.int (1 : Int32)), .val (.int p1), .val (.int p2), .val (.int p3)] [(.int p1), (.int (0 : Int32)), (.ref b4), (.ref b4)])) _
    refine XS.i2b X4.here hx rfl (hb hby d1_19) rfl ?_
    show Steps p.tables e below (T4.setTop (mkF m 20 #[.val (.int (1 : Int32)), .val (.int p1), .val (.int p2), .val (.int p3)] [(.int ((p1).toInt8.toInt32)), (.int (0 : Int32)), (.ref b4), (.ref b4)])) _
    exact k
  obtain ⟨cl9, Ar9, qq9, SS9, NN9, HH9, GG9⟩ := V_b4
  have hin9 : ¬ ((0 : Int32) < 0 ∨ cl9.slots.size ≤ ((0 : Int32)).toNatClampNeg) := inb_of SS9 ⟨by decide, by decide⟩
  obtain ⟨T9, h9, X9, e9, W9, st9⟩ := stB X4 hx hZ e4 Ar9 (j := (0 : Int32)) hin9 (g := (mkF m 20 #[.val (.int (1 : Int32)), .val (.int p1), .val (.int p2), .val (.int p3)] [(.int ((p1).toInt8.toInt32)), (.int (0 : Int32)), (.ref b4), (.ref b4)])) rfl rfl (hb hby d1_20)
  have V9 : Arv Z h9 b4 k4 .byte (1 : Int32) [(.int (nar .byte ((p1).toInt8.toInt32)))] (.int (0 : Int32)) := Arv.set Ar9 qq9 SS9 NN9 HH9 GG9 (fits_nar_byte _) W9 0 rfl (Nat.le_of_ble_eq_true rfl)
  have zz10 := (Nat.le_trans zz5 (Keep.of_wr W9).1)
  have K11 := K6.wr W9 (Or.inr sz_b4)
  have N9 := Fr.snoc X9 N0 g_b4
  have pre12 : Go p e below (s₁.setTop (entryFrame m #[(.int (1 : Int32)), (.int p1), (.int p2), (.int p3)] 4)) (T9.setTop (mkF m 21 #[.val (.int (1 : Int32)), .val (.int p1), .val (.int p2), .val (.int p3)] [(.ref b4)])) := fun t k => pre8 t (st9 t k)
  obtain ⟨fs, hr, hrun, hended, hW, hsame⟩ := X9.leave (hlocks := hlk) (v := some (.ref b4)) (fun h => by rw [Bd.returns] at h; cases h)
  refine ⟨_, _, pre12 _ (retA X9 hx Bd.returns rfl rfl rfl (hb hby d1_21) hr), hrun, hended, _, _, rfl, ?_, ⟨_, rfl⟩, hW, hsame.mono (by decide) (by decide)⟩
  show Q1_1 Z p1 p2 p3 h0 n0 _ T9.heap _
  rw [e9]
  exact ⟨b4, k4, rfl, g_b4, N9, K11, V9⟩
theorem ef_2_1 (m : MethodId) (p1 : Int32) (p2 : Int32) (p3 : Int32) (p4 : Int32) : entryFrame m #[(.int (1 : Int32)), (.int p1), (.int p2), (.int p3), (.int p4)] 5 = mkF m 0 #[.val (.int (1 : Int32)), .val (.int p1), .val (.int p2), .val (.int p3), .val (.int p4)] [] := by first | (simp [entryFrame, mkF, argsToLocals, Value.category]; done) | rfl
theorem d2_14 : decode method_3_code 14 = .ok (.iload_n 0, 1) := by decide +kernel
theorem d2_15 : decode method_3_code 15 = .ok (.iconst 1, 1) := by decide +kernel
theorem d2_16 : decode method_3_code 16 = .ok (.if_icmp .ne 18, 3) := by decide +kernel
theorem d2_19 : decode method_3_code 19 = .ok (.iconst 2, 1) := by decide +kernel
theorem d2_20 : decode method_3_code 20 = .ok (.newarray .byte, 2) := by decide +kernel
theorem d2_22 : decode method_3_code 22 = .ok (.dup, 1) := by decide +kernel
theorem d2_23 : decode method_3_code 23 = .ok (.iconst 0, 1) := by decide +kernel
theorem d2_24 : decode method_3_code 24 = .ok (.iload_n 1, 1) := by decide +kernel
theorem d2_25 : decode method_3_code 25 = .ok (.i2b, 1) := by decide +kernel
theorem d2_26 : decode method_3_code 26 = .ok (.bastore, 1) := by decide +kernel
theorem d2_27 : decode method_3_code 27 = .ok (.dup, 1) := by decide +kernel
theorem d2_28 : decode method_3_code 28 = .ok (.iconst 1, 1) := by decide +kernel
theorem d2_29 : decode method_3_code 29 = .ok (.iload 4, 2) := by decide +kernel
theorem d2_31 : decode method_3_code 31 = .ok (.i2b, 1) := by decide +kernel
theorem d2_32 : decode method_3_code 32 = .ok (.bastore, 1) := by decide +kernel
theorem d2_33 : decode method_3_code 33 = .ok (.areturn, 1) := by decide +kernel
def Q2_1 (Z : State) (p1 : Int32) (p2 : Int32) (p3 : Int32) (p4 : Int32) (h0 : Heap) (n0 : Nat) (v : Option Value) (h : Heap) (L : List Loc) : Prop := ∃ b k, v = some (.ref b) ∧ n0 ≤ b ∧ Fr n0 L ∧ Keep h0 h [] ∧ Arv Z h b k .byte (2 : Int32) [(.int (nar .byte (p1.toInt8.toInt32))), (.int (nar .byte (p4.toInt8.toInt32)))] (.int (0 : Int32))
set_option maxRecDepth 65536 in
set_option maxHeartbeats 40000000 in
theorem rm2_1 (l : Launch) (Z : State) (a0 : Array Value) (hw : ∀ d ∈ tables_1, d.before a0 Z = true) (ws : List Jvm.Cond) (p1 : Int32) (p2 : Int32) (p3 : Int32) (p4 : Int32) (h0 : Heap) (n0 : Nat) (Z0 : n0 ≤ h0.size) :
    MetFree l (⟨"com/example/seshat/seshat/filter/ProbeFnv1aPinLaw", "extended", "(IIIII)[B"⟩ : MethodName) (head1 (Jvm.Cond.code (⟨"com/example/seshat/seshat/filter/ProbeFnv1aPinLaw", "extended", "(IIIII)[B"⟩ : MethodName) method_3_code 5 (some (.array .byte)) :: ws) ({ frames := 0, cells := 1, slots := 4, locals := 0 } : Room)) (fun a U => a = #[(.int (1 : Int32)), (.int p1), (.int p2), (.int p3), (.int p4)] ∧ Z.Warmed39 U.vm ∧ U.heap = h0) (fun _ _ _ _ _ => True) (fun _ U o U' => ∃ v L, o = .returned v ∧ Q2_1 Z p1 p2 p3 p4 h0 n0 v U'.heap L ∧ FrameEnd U o U' L ({ frames := 0, cells := 1, slots := 4, locals := 0 } : Room).cells ({ frames := 0, cells := 1, slots := 4, locals := 0 } : Room).slots) := by
  refine MetFree.of_bodySF (plainFor_of_name pn_com_example_seshat_seshat_filter_ProbeFnv1aPinLaw) hisR ?_
  intro p e s m args below meth c s₁ Bd hml0 hP hK
  obtain ⟨rfl, hZ, hh⟩ := hP
  have hx := Bd.exec
  have hby := Bd.bytes
  have hml : c.maxLocals = 5 := hml0
  have hown : s.vm.findClass "com/example/seshat/seshat/filter/ProbeFnv1aPinLaw" = some m.cls := findClass_of_methodNamed Bd.named
  have hnm := (name_of_methodNamed Bd.named Bd.method).1
  have hlk : meth.locks = false := BodyLoose.notSynchronized Bd
  have X0 : Stand p l e ({ frames := 0, cells := 1, slots := 4, locals := 0 } : Room) s m #[(.int (1 : Int32)), (.int p1), (.int p2), (.int p3), (.int p4)] below meth c s₁ [] 0 0 := Stand.of_body Bd
  have e0 : s₁.heap = h0 := by rw [← hh, Bd.state]; rfl
  have N0 := Fr.nil n0
  have pre0 : Go p e below (s₁.setTop (entryFrame m #[(.int (1 : Int32)), (.int p1), (.int p2), (.int p3), (.int p4)] 5)) (s₁.setTop (mkF m 0 #[.val (.int (1 : Int32)), .val (.int p1), .val (.int p2), .val (.int p3), .val (.int p4)] [])) := fun t k => castTop (ef_2_1 m p1 p2 p3 p4) k
  have pre1 : Go p e below (s₁.setTop (entryFrame m #[(.int (1 : Int32)), (.int p1), (.int p2), (.int p3), (.int p4)] 5)) (s₁.setTop (mkF m 1 #[.val (.int (1 : Int32)), .val (.int p1), .val (.int p2), .val (.int p3), .val (.int p4)] [(.int (1 : Int32))])) := by
    intro t k
    refine pre0 t ?_
    show Steps p.tables e below (s₁.setTop (mkF m 0 #[.val (.int (1 : Int32)), .val (.int p1), .val (.int p2), .val (.int p3), .val (.int p4)] [])) _
    refine XS.iloadN X0.here hx rfl (hb hby d2_0) rfl ?_
    show Steps p.tables e below (s₁.setTop (mkF m 1 #[.val (.int (1 : Int32)), .val (.int p1), .val (.int p2), .val (.int p3), .val (.int p4)] [(.int (1 : Int32))])) _
    exact k
  have pre2 : Go p e below (s₁.setTop (entryFrame m #[(.int (1 : Int32)), (.int p1), (.int p2), (.int p3), (.int p4)] 5)) (s₁.setTop (mkF m 16 #[.val (.int (1 : Int32)), .val (.int p1), .val (.int p2), .val (.int p3), .val (.int p4)] [(.int (1 : Int32)), (.int (1 : Int32))])) := by
    intro t k
    refine pre1 t ?_
    show Steps p.tables e below (s₁.setTop (mkF m 1 #[.val (.int (1 : Int32)), .val (.int p1), .val (.int p2), .val (.int p3), .val (.int p4)] [(.int (1 : Int32))])) _
    refine XS.ifYes X0.here hx rfl (pc0 := 1) (pc' := 14) rfl (hb hby d2_1) rfl (XT.i0_ne_t (by decide : ¬ ((1 : Int32) = (0 : Int32)))) (by decide) (by decide) ?_
    show Steps p.tables e below (s₁.setTop (mkF m 14 #[.val (.int (1 : Int32)), .val (.int p1), .val (.int p2), .val (.int p3), .val (.int p4)] [])) _
    refine XS.iloadN X0.here hx rfl (hb hby d2_14) rfl ?_
    show Steps p.tables e below (s₁.setTop (mkF m 15 #[.val (.int (1 : Int32)), .val (.int p1), .val (.int p2), .val (.int p3), .val (.int p4)] [(.int (1 : Int32))])) _
    refine XS.iconst X0.here hx rfl (hb hby d2_15) ?_
    show Steps p.tables e below (s₁.setTop (mkF m 16 #[.val (.int (1 : Int32)), .val (.int p1), .val (.int p2), .val (.int p3), .val (.int p4)] [(.int (1 : Int32)), (.int (1 : Int32))])) _
    exact k
  have pre3 : Go p e below (s₁.setTop (entryFrame m #[(.int (1 : Int32)), (.int p1), (.int p2), (.int p3), (.int p4)] 5)) (s₁.setTop (mkF m 20 #[.val (.int (1 : Int32)), .val (.int p1), .val (.int p2), .val (.int p3), .val (.int p4)] [(.int (2 : Int32))])) := by
    intro t k
    refine pre2 t ?_
    show Steps p.tables e below (s₁.setTop (mkF m 16 #[.val (.int (1 : Int32)), .val (.int p1), .val (.int p2), .val (.int p3), .val (.int p4)] [(.int (1 : Int32)), (.int (1 : Int32))])) _
    refine XS.icmpNo X0.here hx rfl (hb hby d2_16) rfl (XT.ii_ne_f (by decide : (1 : Int32) = (1 : Int32))) ?_
    show Steps p.tables e below (s₁.setTop (mkF m 19 #[.val (.int (1 : Int32)), .val (.int p1), .val (.int p2), .val (.int p3), .val (.int p4)] [])) _
    refine XS.iconst X0.here hx rfl (hb hby d2_19) ?_
    show Steps p.tables e below (s₁.setTop (mkF m 20 #[.val (.int (1 : Int32)), .val (.int p1), .val (.int p2), .val (.int p3), .val (.int p4)] [(.int (2 : Int32))])) _
    exact k
  obtain ⟨T4, h4, k4, X4, e4, E4, A4, st4⟩ := newP X0 hx hZ (hw _ (List.mem_of_getElem? (i := 0) rfl)) e0 (g := (mkF m 20 #[.val (.int (1 : Int32)), .val (.int p1), .val (.int p2), .val (.int p3), .val (.int p4)] [(.int (2 : Int32))])) rfl (hb hby d2_20) rfl (by decide) (cap := 2) (by decide) (by decide) (by decide) (by decide)
  obtain ⟨b4, g4⟩ : ∃ z, z = h0.size := ⟨_, rfl⟩
  rw [← g4] at A4 st4
  have zz5 := (Nat.le_trans Z0 E4.1)
  have K6 := (Keep.refl h0 []).ext E4
  have V_b4 : Arv Z h4 b4 k4 .byte (2 : Int32) [(.int (0 : Int32)), (.int (0 : Int32))] (.int (0 : Int32)) := (Arv.new A4 (by decide)).pad (pad_rep [] (.int (0 : Int32)) 2)
  have g_b4 : n0 ≤ b4 := Nat.le_trans Z0 (Nat.le_of_eq g4.symm)
  have sz_b4 : h0.size ≤ b4 := Nat.le_trans (Keep.refl h0 []).1 (Nat.le_of_eq g4.symm)
  have pre7 : Go p e below (s₁.setTop (entryFrame m #[(.int (1 : Int32)), (.int p1), (.int p2), (.int p3), (.int p4)] 5)) (T4.setTop (mkF m 22 #[.val (.int (1 : Int32)), .val (.int p1), .val (.int p2), .val (.int p3), .val (.int p4)] [(.ref b4)])) := fun t k => pre3 t (st4 t k)
  have pre8 : Go p e below (s₁.setTop (entryFrame m #[(.int (1 : Int32)), (.int p1), (.int p2), (.int p3), (.int p4)] 5)) (T4.setTop (mkF m 26 #[.val (.int (1 : Int32)), .val (.int p1), .val (.int p2), .val (.int p3), .val (.int p4)] [(.int ((p1).toInt8.toInt32)), (.int (0 : Int32)), (.ref b4), (.ref b4)])) := by
    intro t k
    refine pre7 t ?_
    show Steps p.tables e below (T4.setTop (mkF m 22 #[.val (.int (1 : Int32)), .val (.int p1), .val (.int p2), .val (.int p3), .val (.int p4)] [(.ref b4)])) _
    refine XS.dup X4.here hx rfl (hb hby d2_22) rfl rfl ?_
    show Steps p.tables e below (T4.setTop (mkF m 23 #[.val (.int (1 : Int32)), .val (.int p1), .val (.int p2), .val (.int p3), .val (.int p4)] [(.ref b4), (.ref b4)])) _
    refine XS.iconst X4.here hx rfl (hb hby d2_23) ?_
    show Steps p.tables e below (T4.setTop (mkF m 24 #[.val (.int (1 : Int32)), .val (.int p1), .val (.int p2), .val (.int p3), .val (.int p4)] [(.int (0 : Int32)), (.ref b4), (.ref b4)])) _
    refine XS.iloadN X4.here hx rfl (hb hby d2_24) rfl ?_
    show Steps p.tables e below (T4.setTop (mkF m 25 #[.val (.int (1 : Int32)), .val (.int p1), .val (.int p2), .val (.int p3), .val (.int p4)] [(.int p1), (.int (0 : Int32)), (.ref b4), (.ref b4)])) _
    refine XS.i2b X4.here hx rfl (hb hby d2_25) rfl ?_
    show Steps p.tables e below (T4.setTop (mkF m 26 #[.val (.int (1 : Int32)), .val (.int p1), .val (.int p2), .val (.int p3), .val (.int p4)] [(.int ((p1).toInt8.toInt32)), (.int (0 : Int32)), (.ref b4), (.ref b4)])) _
    exact k
  obtain ⟨cl9, Ar9, qq9, SS9, NN9, HH9, GG9⟩ := V_b4
  have hin9 : ¬ ((0 : Int32) < 0 ∨ cl9.slots.size ≤ ((0 : Int32)).toNatClampNeg) := inb_of SS9 ⟨by decide, by decide⟩
  obtain ⟨T9, h9, X9, e9, W9, st9⟩ := stB X4 hx hZ e4 Ar9 (j := (0 : Int32)) hin9 (g := (mkF m 26 #[.val (.int (1 : Int32)), .val (.int p1), .val (.int p2), .val (.int p3), .val (.int p4)] [(.int ((p1).toInt8.toInt32)), (.int (0 : Int32)), (.ref b4), (.ref b4)])) rfl rfl (hb hby d2_26)
  have V9 : Arv Z h9 b4 k4 .byte (2 : Int32) [(.int (nar .byte ((p1).toInt8.toInt32))), (.int (0 : Int32))] (.int (0 : Int32)) := Arv.set Ar9 qq9 SS9 NN9 HH9 GG9 (fits_nar_byte _) W9 0 rfl (Nat.le_of_ble_eq_true rfl)
  have zz10 := (Nat.le_trans zz5 (Keep.of_wr W9).1)
  have K11 := K6.wr W9 (Or.inr sz_b4)
  have N9 := Fr.snoc X9 N0 g_b4
  have pre12 : Go p e below (s₁.setTop (entryFrame m #[(.int (1 : Int32)), (.int p1), (.int p2), (.int p3), (.int p4)] 5)) (T9.setTop (mkF m 27 #[.val (.int (1 : Int32)), .val (.int p1), .val (.int p2), .val (.int p3), .val (.int p4)] [(.ref b4)])) := fun t k => pre8 t (st9 t k)
  have pre13 : Go p e below (s₁.setTop (entryFrame m #[(.int (1 : Int32)), (.int p1), (.int p2), (.int p3), (.int p4)] 5)) (T9.setTop (mkF m 32 #[.val (.int (1 : Int32)), .val (.int p1), .val (.int p2), .val (.int p3), .val (.int p4)] [(.int ((p4).toInt8.toInt32)), (.int (1 : Int32)), (.ref b4), (.ref b4)])) := by
    intro t k
    refine pre12 t ?_
    show Steps p.tables e below (T9.setTop (mkF m 27 #[.val (.int (1 : Int32)), .val (.int p1), .val (.int p2), .val (.int p3), .val (.int p4)] [(.ref b4)])) _
    refine XS.dup X9.here hx rfl (hb hby d2_27) rfl rfl ?_
    show Steps p.tables e below (T9.setTop (mkF m 28 #[.val (.int (1 : Int32)), .val (.int p1), .val (.int p2), .val (.int p3), .val (.int p4)] [(.ref b4), (.ref b4)])) _
    refine XS.iconst X9.here hx rfl (hb hby d2_28) ?_
    show Steps p.tables e below (T9.setTop (mkF m 29 #[.val (.int (1 : Int32)), .val (.int p1), .val (.int p2), .val (.int p3), .val (.int p4)] [(.int (1 : Int32)), (.ref b4), (.ref b4)])) _
    refine XS.iload X9.here hx rfl (hb hby d2_29) rfl ?_
    show Steps p.tables e below (T9.setTop (mkF m 31 #[.val (.int (1 : Int32)), .val (.int p1), .val (.int p2), .val (.int p3), .val (.int p4)] [(.int p4), (.int (1 : Int32)), (.ref b4), (.ref b4)])) _
    refine XS.i2b X9.here hx rfl (hb hby d2_31) rfl ?_
    show Steps p.tables e below (T9.setTop (mkF m 32 #[.val (.int (1 : Int32)), .val (.int p1), .val (.int p2), .val (.int p3), .val (.int p4)] [(.int ((p4).toInt8.toInt32)), (.int (1 : Int32)), (.ref b4), (.ref b4)])) _
    exact k
  obtain ⟨cl14, Ar14, qq14, SS14, NN14, HH14, GG14⟩ := V9
  have hin14 : ¬ ((1 : Int32) < 0 ∨ cl14.slots.size ≤ ((1 : Int32)).toNatClampNeg) := inb_of SS14 ⟨by decide, by decide⟩
  obtain ⟨T14, h14, X14, e14, W14, st14⟩ := stB X9 hx hZ e9 Ar14 (j := (1 : Int32)) hin14 (g := (mkF m 32 #[.val (.int (1 : Int32)), .val (.int p1), .val (.int p2), .val (.int p3), .val (.int p4)] [(.int ((p4).toInt8.toInt32)), (.int (1 : Int32)), (.ref b4), (.ref b4)])) rfl rfl (hb hby d2_32)
  have V14 : Arv Z h14 b4 k4 .byte (2 : Int32) [(.int (nar .byte ((p1).toInt8.toInt32))), (.int (nar .byte ((p4).toInt8.toInt32)))] (.int (0 : Int32)) := Arv.set Ar14 qq14 SS14 NN14 HH14 GG14 (fits_nar_byte _) W14 1 rfl (Nat.le_of_ble_eq_true rfl)
  have zz15 := (Nat.le_trans zz10 (Keep.of_wr W14).1)
  have K16 := K11.wr W14 (Or.inr sz_b4)
  have N14 := Fr.snoc X14 N9 g_b4
  have pre17 : Go p e below (s₁.setTop (entryFrame m #[(.int (1 : Int32)), (.int p1), (.int p2), (.int p3), (.int p4)] 5)) (T14.setTop (mkF m 33 #[.val (.int (1 : Int32)), .val (.int p1), .val (.int p2), .val (.int p3), .val (.int p4)] [(.ref b4)])) := fun t k => pre13 t (st14 t k)
  obtain ⟨fs, hr, hrun, hended, hW, hsame⟩ := X14.leave (hlocks := hlk) (v := some (.ref b4)) (fun h => by rw [Bd.returns] at h; cases h)
  refine ⟨_, _, pre17 _ (retA X14 hx Bd.returns rfl rfl rfl (hb hby d2_33) hr), hrun, hended, _, _, rfl, ?_, ⟨_, rfl⟩, hW, hsame.mono (by decide) (by decide)⟩
  show Q2_1 Z p1 p2 p3 p4 h0 n0 _ T14.heap _
  rw [e14]
  exact ⟨b4, k4, rfl, g_b4, N14, K16, V14⟩
theorem ef_1_2 (m : MethodId) (p1 : Int32) (p2 : Int32) (p3 : Int32) : entryFrame m #[(.int (2 : Int32)), (.int p1), (.int p2), (.int p3)] 4 = mkF m 0 #[.val (.int (2 : Int32)), .val (.int p1), .val (.int p2), .val (.int p3)] [] := by first | (simp [entryFrame, mkF, argsToLocals, Value.category]; done) | rfl
theorem d1_22 : decode method_2_code 22 = .ok (.iload_n 0, 1) := by decide +kernel
theorem d1_23 : decode method_2_code 23 = .ok (.iconst 2, 1) := by decide +kernel
theorem d1_24 : decode method_2_code 24 = .ok (.if_icmp .ne 17, 3) := by decide +kernel
theorem d1_27 : decode method_2_code 27 = .ok (.iconst 2, 1) := by decide +kernel
theorem d1_28 : decode method_2_code 28 = .ok (.newarray .byte, 2) := by decide +kernel
theorem d1_30 : decode method_2_code 30 = .ok (.dup, 1) := by decide +kernel
theorem d1_31 : decode method_2_code 31 = .ok (.iconst 0, 1) := by decide +kernel
theorem d1_32 : decode method_2_code 32 = .ok (.iload_n 1, 1) := by decide +kernel
theorem d1_33 : decode method_2_code 33 = .ok (.i2b, 1) := by decide +kernel
theorem d1_34 : decode method_2_code 34 = .ok (.bastore, 1) := by decide +kernel
theorem d1_35 : decode method_2_code 35 = .ok (.dup, 1) := by decide +kernel
theorem d1_36 : decode method_2_code 36 = .ok (.iconst 1, 1) := by decide +kernel
theorem d1_37 : decode method_2_code 37 = .ok (.iload_n 2, 1) := by decide +kernel
theorem d1_38 : decode method_2_code 38 = .ok (.i2b, 1) := by decide +kernel
theorem d1_39 : decode method_2_code 39 = .ok (.bastore, 1) := by decide +kernel
theorem d1_40 : decode method_2_code 40 = .ok (.areturn, 1) := by decide +kernel
def Q1_2 (Z : State) (p1 : Int32) (p2 : Int32) (p3 : Int32) (h0 : Heap) (n0 : Nat) (v : Option Value) (h : Heap) (L : List Loc) : Prop := ∃ b k, v = some (.ref b) ∧ n0 ≤ b ∧ Fr n0 L ∧ Keep h0 h [] ∧ Arv Z h b k .byte (2 : Int32) [(.int (nar .byte (p1.toInt8.toInt32))), (.int (nar .byte (p2.toInt8.toInt32)))] (.int (0 : Int32))
set_option maxRecDepth 65536 in
set_option maxHeartbeats 40000000 in
theorem rm1_2 (l : Launch) (Z : State) (a0 : Array Value) (hw : ∀ d ∈ tables_1, d.before a0 Z = true) (ws : List Jvm.Cond) (p1 : Int32) (p2 : Int32) (p3 : Int32) (h0 : Heap) (n0 : Nat) (Z0 : n0 ≤ h0.size) :
    MetFree l (⟨"com/example/seshat/seshat/filter/ProbeFnv1aPinLaw", "prefix", "(IIII)[B"⟩ : MethodName) (head1 (Jvm.Cond.code (⟨"com/example/seshat/seshat/filter/ProbeFnv1aPinLaw", "prefix", "(IIII)[B"⟩ : MethodName) method_2_code 4 (some (.array .byte)) :: ws) ({ frames := 0, cells := 1, slots := 4, locals := 0 } : Room)) (fun a U => a = #[(.int (2 : Int32)), (.int p1), (.int p2), (.int p3)] ∧ Z.Warmed39 U.vm ∧ U.heap = h0) (fun _ _ _ _ _ => True) (fun _ U o U' => ∃ v L, o = .returned v ∧ Q1_2 Z p1 p2 p3 h0 n0 v U'.heap L ∧ FrameEnd U o U' L ({ frames := 0, cells := 1, slots := 4, locals := 0 } : Room).cells ({ frames := 0, cells := 1, slots := 4, locals := 0 } : Room).slots) := by
  refine MetFree.of_bodySF (plainFor_of_name pn_com_example_seshat_seshat_filter_ProbeFnv1aPinLaw) hisR ?_
  intro p e s m args below meth c s₁ Bd hml0 hP hK
  obtain ⟨rfl, hZ, hh⟩ := hP
  have hx := Bd.exec
  have hby := Bd.bytes
  have hml : c.maxLocals = 4 := hml0
  have hown : s.vm.findClass "com/example/seshat/seshat/filter/ProbeFnv1aPinLaw" = some m.cls := findClass_of_methodNamed Bd.named
  have hnm := (name_of_methodNamed Bd.named Bd.method).1
  have hlk : meth.locks = false := BodyLoose.notSynchronized Bd
  have X0 : Stand p l e ({ frames := 0, cells := 1, slots := 4, locals := 0 } : Room) s m #[(.int (2 : Int32)), (.int p1), (.int p2), (.int p3)] below meth c s₁ [] 0 0 := Stand.of_body Bd
  have e0 : s₁.heap = h0 := by rw [← hh, Bd.state]; rfl
  have N0 := Fr.nil n0
  have pre0 : Go p e below (s₁.setTop (entryFrame m #[(.int (2 : Int32)), (.int p1), (.int p2), (.int p3)] 4)) (s₁.setTop (mkF m 0 #[.val (.int (2 : Int32)), .val (.int p1), .val (.int p2), .val (.int p3)] [])) := fun t k => castTop (ef_1_2 m p1 p2 p3) k
  have pre1 : Go p e below (s₁.setTop (entryFrame m #[(.int (2 : Int32)), (.int p1), (.int p2), (.int p3)] 4)) (s₁.setTop (mkF m 1 #[.val (.int (2 : Int32)), .val (.int p1), .val (.int p2), .val (.int p3)] [(.int (2 : Int32))])) := by
    intro t k
    refine pre0 t ?_
    show Steps p.tables e below (s₁.setTop (mkF m 0 #[.val (.int (2 : Int32)), .val (.int p1), .val (.int p2), .val (.int p3)] [])) _
    refine XS.iloadN X0.here hx rfl (hb hby d1_0) rfl ?_
    show Steps p.tables e below (s₁.setTop (mkF m 1 #[.val (.int (2 : Int32)), .val (.int p1), .val (.int p2), .val (.int p3)] [(.int (2 : Int32))])) _
    exact k
  have pre2 : Go p e below (s₁.setTop (entryFrame m #[(.int (2 : Int32)), (.int p1), (.int p2), (.int p3)] 4)) (s₁.setTop (mkF m 10 #[.val (.int (2 : Int32)), .val (.int p1), .val (.int p2), .val (.int p3)] [(.int (1 : Int32)), (.int (2 : Int32))])) := by
    intro t k
    refine pre1 t ?_
    show Steps p.tables e below (s₁.setTop (mkF m 1 #[.val (.int (2 : Int32)), .val (.int p1), .val (.int p2), .val (.int p3)] [(.int (2 : Int32))])) _
    refine XS.ifYes X0.here hx rfl (pc0 := 1) (pc' := 8) rfl (hb hby d1_1) rfl (XT.i0_ne_t (by decide : ¬ ((2 : Int32) = (0 : Int32)))) (by decide) (by decide) ?_
    show Steps p.tables e below (s₁.setTop (mkF m 8 #[.val (.int (2 : Int32)), .val (.int p1), .val (.int p2), .val (.int p3)] [])) _
    refine XS.iloadN X0.here hx rfl (hb hby d1_8) rfl ?_
    show Steps p.tables e below (s₁.setTop (mkF m 9 #[.val (.int (2 : Int32)), .val (.int p1), .val (.int p2), .val (.int p3)] [(.int (2 : Int32))])) _
    refine XS.iconst X0.here hx rfl (hb hby d1_9) ?_
    show Steps p.tables e below (s₁.setTop (mkF m 10 #[.val (.int (2 : Int32)), .val (.int p1), .val (.int p2), .val (.int p3)] [(.int (1 : Int32)), (.int (2 : Int32))])) _
    exact k
  have pre3 : Go p e below (s₁.setTop (entryFrame m #[(.int (2 : Int32)), (.int p1), (.int p2), (.int p3)] 4)) (s₁.setTop (mkF m 24 #[.val (.int (2 : Int32)), .val (.int p1), .val (.int p2), .val (.int p3)] [(.int (2 : Int32)), (.int (2 : Int32))])) := by
    intro t k
    refine pre2 t ?_
    show Steps p.tables e below (s₁.setTop (mkF m 10 #[.val (.int (2 : Int32)), .val (.int p1), .val (.int p2), .val (.int p3)] [(.int (1 : Int32)), (.int (2 : Int32))])) _
    refine XS.icmpYes X0.here hx rfl (pc0 := 10) (pc' := 22) rfl (hb hby d1_10) rfl (XT.ii_ne_t (by decide : ¬ ((2 : Int32) = (1 : Int32)))) (by decide) (by decide) ?_
    show Steps p.tables e below (s₁.setTop (mkF m 22 #[.val (.int (2 : Int32)), .val (.int p1), .val (.int p2), .val (.int p3)] [])) _
    refine XS.iloadN X0.here hx rfl (hb hby d1_22) rfl ?_
    show Steps p.tables e below (s₁.setTop (mkF m 23 #[.val (.int (2 : Int32)), .val (.int p1), .val (.int p2), .val (.int p3)] [(.int (2 : Int32))])) _
    refine XS.iconst X0.here hx rfl (hb hby d1_23) ?_
    show Steps p.tables e below (s₁.setTop (mkF m 24 #[.val (.int (2 : Int32)), .val (.int p1), .val (.int p2), .val (.int p3)] [(.int (2 : Int32)), (.int (2 : Int32))])) _
    exact k
  have pre4 : Go p e below (s₁.setTop (entryFrame m #[(.int (2 : Int32)), (.int p1), (.int p2), (.int p3)] 4)) (s₁.setTop (mkF m 28 #[.val (.int (2 : Int32)), .val (.int p1), .val (.int p2), .val (.int p3)] [(.int (2 : Int32))])) := by
    intro t k
    refine pre3 t ?_
    show Steps p.tables e below (s₁.setTop (mkF m 24 #[.val (.int (2 : Int32)), .val (.int p1), .val (.int p2), .val (.int p3)] [(.int (2 : Int32)), (.int (2 : Int32))])) _
    refine XS.icmpNo X0.here hx rfl (hb hby d1_24) rfl (XT.ii_ne_f (by decide : (2 : Int32) = (2 : Int32))) ?_
    show Steps p.tables e below (s₁.setTop (mkF m 27 #[.val (.int (2 : Int32)), .val (.int p1), .val (.int p2), .val (.int p3)] [])) _
    refine XS.iconst X0.here hx rfl (hb hby d1_27) ?_
    show Steps p.tables e below (s₁.setTop (mkF m 28 #[.val (.int (2 : Int32)), .val (.int p1), .val (.int p2), .val (.int p3)] [(.int (2 : Int32))])) _
    exact k
  obtain ⟨T5, h5, k5, X5, e5, E5, A5, st5⟩ := newP X0 hx hZ (hw _ (List.mem_of_getElem? (i := 0) rfl)) e0 (g := (mkF m 28 #[.val (.int (2 : Int32)), .val (.int p1), .val (.int p2), .val (.int p3)] [(.int (2 : Int32))])) rfl (hb hby d1_28) rfl (by decide) (cap := 2) (by decide) (by decide) (by decide) (by decide)
  obtain ⟨b5, g5⟩ : ∃ z, z = h0.size := ⟨_, rfl⟩
  rw [← g5] at A5 st5
  have zz6 := (Nat.le_trans Z0 E5.1)
  have K7 := (Keep.refl h0 []).ext E5
  have V_b5 : Arv Z h5 b5 k5 .byte (2 : Int32) [(.int (0 : Int32)), (.int (0 : Int32))] (.int (0 : Int32)) := (Arv.new A5 (by decide)).pad (pad_rep [] (.int (0 : Int32)) 2)
  have g_b5 : n0 ≤ b5 := Nat.le_trans Z0 (Nat.le_of_eq g5.symm)
  have sz_b5 : h0.size ≤ b5 := Nat.le_trans (Keep.refl h0 []).1 (Nat.le_of_eq g5.symm)
  have pre8 : Go p e below (s₁.setTop (entryFrame m #[(.int (2 : Int32)), (.int p1), (.int p2), (.int p3)] 4)) (T5.setTop (mkF m 30 #[.val (.int (2 : Int32)), .val (.int p1), .val (.int p2), .val (.int p3)] [(.ref b5)])) := fun t k => pre4 t (st5 t k)
  have pre9 : Go p e below (s₁.setTop (entryFrame m #[(.int (2 : Int32)), (.int p1), (.int p2), (.int p3)] 4)) (T5.setTop (mkF m 34 #[.val (.int (2 : Int32)), .val (.int p1), .val (.int p2), .val (.int p3)] [(.int ((p1).toInt8.toInt32)), (.int (0 : Int32)), (.ref b5), (.ref b5)])) := by
    intro t k
    refine pre8 t ?_
    show Steps p.tables e below (T5.setTop (mkF m 30 #[.val (.int (2 : Int32)), .val (.int p1), .val (.int p2), .val (.int p3)] [(.ref b5)])) _
    refine XS.dup X5.here hx rfl (hb hby d1_30) rfl rfl ?_
    show Steps p.tables e below (T5.setTop (mkF m 31 #[.val (.int (2 : Int32)), .val (.int p1), .val (.int p2), .val (.int p3)] [(.ref b5), (.ref b5)])) _
    refine XS.iconst X5.here hx rfl (hb hby d1_31) ?_
    show Steps p.tables e below (T5.setTop (mkF m 32 #[.val (.int (2 : Int32)), .val (.int p1), .val (.int p2), .val (.int p3)] [(.int (0 : Int32)), (.ref b5), (.ref b5)])) _
    refine XS.iloadN X5.here hx rfl (hb hby d1_32) rfl ?_
    show Steps p.tables e below (T5.setTop (mkF m 33 #[.val (.int (2 : Int32)), .val (.int p1), .val (.int p2), .val (.int p3)] [(.int p1), (.int (0 : Int32)), (.ref b5), (.ref b5)])) _
    refine XS.i2b X5.here hx rfl (hb hby d1_33) rfl ?_
    show Steps p.tables e below (T5.setTop (mkF m 34 #[.val (.int (2 : Int32)), .val (.int p1), .val (.int p2), .val (.int p3)] [(.int ((p1).toInt8.toInt32)), (.int (0 : Int32)), (.ref b5), (.ref b5)])) _
    exact k
  obtain ⟨cl10, Ar10, qq10, SS10, NN10, HH10, GG10⟩ := V_b5
  have hin10 : ¬ ((0 : Int32) < 0 ∨ cl10.slots.size ≤ ((0 : Int32)).toNatClampNeg) := inb_of SS10 ⟨by decide, by decide⟩
  obtain ⟨T10, h10, X10, e10, W10, st10⟩ := stB X5 hx hZ e5 Ar10 (j := (0 : Int32)) hin10 (g := (mkF m 34 #[.val (.int (2 : Int32)), .val (.int p1), .val (.int p2), .val (.int p3)] [(.int ((p1).toInt8.toInt32)), (.int (0 : Int32)), (.ref b5), (.ref b5)])) rfl rfl (hb hby d1_34)
  have V10 : Arv Z h10 b5 k5 .byte (2 : Int32) [(.int (nar .byte ((p1).toInt8.toInt32))), (.int (0 : Int32))] (.int (0 : Int32)) := Arv.set Ar10 qq10 SS10 NN10 HH10 GG10 (fits_nar_byte _) W10 0 rfl (Nat.le_of_ble_eq_true rfl)
  have zz11 := (Nat.le_trans zz6 (Keep.of_wr W10).1)
  have K12 := K7.wr W10 (Or.inr sz_b5)
  have N10 := Fr.snoc X10 N0 g_b5
  have pre13 : Go p e below (s₁.setTop (entryFrame m #[(.int (2 : Int32)), (.int p1), (.int p2), (.int p3)] 4)) (T10.setTop (mkF m 35 #[.val (.int (2 : Int32)), .val (.int p1), .val (.int p2), .val (.int p3)] [(.ref b5)])) := fun t k => pre9 t (st10 t k)
  have pre14 : Go p e below (s₁.setTop (entryFrame m #[(.int (2 : Int32)), (.int p1), (.int p2), (.int p3)] 4)) (T10.setTop (mkF m 39 #[.val (.int (2 : Int32)), .val (.int p1), .val (.int p2), .val (.int p3)] [(.int ((p2).toInt8.toInt32)), (.int (1 : Int32)), (.ref b5), (.ref b5)])) := by
    intro t k
    refine pre13 t ?_
    show Steps p.tables e below (T10.setTop (mkF m 35 #[.val (.int (2 : Int32)), .val (.int p1), .val (.int p2), .val (.int p3)] [(.ref b5)])) _
    refine XS.dup X10.here hx rfl (hb hby d1_35) rfl rfl ?_
    show Steps p.tables e below (T10.setTop (mkF m 36 #[.val (.int (2 : Int32)), .val (.int p1), .val (.int p2), .val (.int p3)] [(.ref b5), (.ref b5)])) _
    refine XS.iconst X10.here hx rfl (hb hby d1_36) ?_
    show Steps p.tables e below (T10.setTop (mkF m 37 #[.val (.int (2 : Int32)), .val (.int p1), .val (.int p2), .val (.int p3)] [(.int (1 : Int32)), (.ref b5), (.ref b5)])) _
    refine XS.iloadN X10.here hx rfl (hb hby d1_37) rfl ?_
    show Steps p.tables e below (T10.setTop (mkF m 38 #[.val (.int (2 : Int32)), .val (.int p1), .val (.int p2), .val (.int p3)] [(.int p2), (.int (1 : Int32)), (.ref b5), (.ref b5)])) _
    refine XS.i2b X10.here hx rfl (hb hby d1_38) rfl ?_
    show Steps p.tables e below (T10.setTop (mkF m 39 #[.val (.int (2 : Int32)), .val (.int p1), .val (.int p2), .val (.int p3)] [(.int ((p2).toInt8.toInt32)), (.int (1 : Int32)), (.ref b5), (.ref b5)])) _
    exact k
  obtain ⟨cl15, Ar15, qq15, SS15, NN15, HH15, GG15⟩ := V10
  have hin15 : ¬ ((1 : Int32) < 0 ∨ cl15.slots.size ≤ ((1 : Int32)).toNatClampNeg) := inb_of SS15 ⟨by decide, by decide⟩
  obtain ⟨T15, h15, X15, e15, W15, st15⟩ := stB X10 hx hZ e10 Ar15 (j := (1 : Int32)) hin15 (g := (mkF m 39 #[.val (.int (2 : Int32)), .val (.int p1), .val (.int p2), .val (.int p3)] [(.int ((p2).toInt8.toInt32)), (.int (1 : Int32)), (.ref b5), (.ref b5)])) rfl rfl (hb hby d1_39)
  have V15 : Arv Z h15 b5 k5 .byte (2 : Int32) [(.int (nar .byte ((p1).toInt8.toInt32))), (.int (nar .byte ((p2).toInt8.toInt32)))] (.int (0 : Int32)) := Arv.set Ar15 qq15 SS15 NN15 HH15 GG15 (fits_nar_byte _) W15 1 rfl (Nat.le_of_ble_eq_true rfl)
  have zz16 := (Nat.le_trans zz11 (Keep.of_wr W15).1)
  have K17 := K12.wr W15 (Or.inr sz_b5)
  have N15 := Fr.snoc X15 N10 g_b5
  have pre18 : Go p e below (s₁.setTop (entryFrame m #[(.int (2 : Int32)), (.int p1), (.int p2), (.int p3)] 4)) (T15.setTop (mkF m 40 #[.val (.int (2 : Int32)), .val (.int p1), .val (.int p2), .val (.int p3)] [(.ref b5)])) := fun t k => pre14 t (st15 t k)
  obtain ⟨fs, hr, hrun, hended, hW, hsame⟩ := X15.leave (hlocks := hlk) (v := some (.ref b5)) (fun h => by rw [Bd.returns] at h; cases h)
  refine ⟨_, _, pre18 _ (retA X15 hx Bd.returns rfl rfl rfl (hb hby d1_40) hr), hrun, hended, _, _, rfl, ?_, ⟨_, rfl⟩, hW, hsame.mono (by decide) (by decide)⟩
  show Q1_2 Z p1 p2 p3 h0 n0 _ T15.heap _
  rw [e15]
  exact ⟨b5, k5, rfl, g_b5, N15, K17, V15⟩
theorem ef_2_2 (m : MethodId) (p1 : Int32) (p2 : Int32) (p3 : Int32) (p4 : Int32) : entryFrame m #[(.int (2 : Int32)), (.int p1), (.int p2), (.int p3), (.int p4)] 5 = mkF m 0 #[.val (.int (2 : Int32)), .val (.int p1), .val (.int p2), .val (.int p3), .val (.int p4)] [] := by first | (simp [entryFrame, mkF, argsToLocals, Value.category]; done) | rfl
theorem d2_34 : decode method_3_code 34 = .ok (.iload_n 0, 1) := by decide +kernel
theorem d2_35 : decode method_3_code 35 = .ok (.iconst 2, 1) := by decide +kernel
theorem d2_36 : decode method_3_code 36 = .ok (.if_icmp .ne 23, 3) := by decide +kernel
theorem d2_39 : decode method_3_code 39 = .ok (.iconst 3, 1) := by decide +kernel
theorem d2_40 : decode method_3_code 40 = .ok (.newarray .byte, 2) := by decide +kernel
theorem d2_42 : decode method_3_code 42 = .ok (.dup, 1) := by decide +kernel
theorem d2_43 : decode method_3_code 43 = .ok (.iconst 0, 1) := by decide +kernel
theorem d2_44 : decode method_3_code 44 = .ok (.iload_n 1, 1) := by decide +kernel
theorem d2_45 : decode method_3_code 45 = .ok (.i2b, 1) := by decide +kernel
theorem d2_46 : decode method_3_code 46 = .ok (.bastore, 1) := by decide +kernel
theorem d2_47 : decode method_3_code 47 = .ok (.dup, 1) := by decide +kernel
theorem d2_48 : decode method_3_code 48 = .ok (.iconst 1, 1) := by decide +kernel
theorem d2_49 : decode method_3_code 49 = .ok (.iload_n 2, 1) := by decide +kernel
theorem d2_50 : decode method_3_code 50 = .ok (.i2b, 1) := by decide +kernel
theorem d2_51 : decode method_3_code 51 = .ok (.bastore, 1) := by decide +kernel
theorem d2_52 : decode method_3_code 52 = .ok (.dup, 1) := by decide +kernel
theorem d2_53 : decode method_3_code 53 = .ok (.iconst 2, 1) := by decide +kernel
theorem d2_54 : decode method_3_code 54 = .ok (.iload 4, 2) := by decide +kernel
theorem d2_56 : decode method_3_code 56 = .ok (.i2b, 1) := by decide +kernel
theorem d2_57 : decode method_3_code 57 = .ok (.bastore, 1) := by decide +kernel
theorem d2_58 : decode method_3_code 58 = .ok (.areturn, 1) := by decide +kernel
def Q2_2 (Z : State) (p1 : Int32) (p2 : Int32) (p3 : Int32) (p4 : Int32) (h0 : Heap) (n0 : Nat) (v : Option Value) (h : Heap) (L : List Loc) : Prop := ∃ b k, v = some (.ref b) ∧ n0 ≤ b ∧ Fr n0 L ∧ Keep h0 h [] ∧ Arv Z h b k .byte (3 : Int32) [(.int (nar .byte (p1.toInt8.toInt32))), (.int (nar .byte (p2.toInt8.toInt32))), (.int (nar .byte (p4.toInt8.toInt32)))] (.int (0 : Int32))
set_option maxRecDepth 65536 in
set_option maxHeartbeats 40000000 in
theorem rm2_2 (l : Launch) (Z : State) (a0 : Array Value) (hw : ∀ d ∈ tables_1, d.before a0 Z = true) (ws : List Jvm.Cond) (p1 : Int32) (p2 : Int32) (p3 : Int32) (p4 : Int32) (h0 : Heap) (n0 : Nat) (Z0 : n0 ≤ h0.size) :
    MetFree l (⟨"com/example/seshat/seshat/filter/ProbeFnv1aPinLaw", "extended", "(IIIII)[B"⟩ : MethodName) (head1 (Jvm.Cond.code (⟨"com/example/seshat/seshat/filter/ProbeFnv1aPinLaw", "extended", "(IIIII)[B"⟩ : MethodName) method_3_code 5 (some (.array .byte)) :: ws) ({ frames := 0, cells := 1, slots := 4, locals := 0 } : Room)) (fun a U => a = #[(.int (2 : Int32)), (.int p1), (.int p2), (.int p3), (.int p4)] ∧ Z.Warmed39 U.vm ∧ U.heap = h0) (fun _ _ _ _ _ => True) (fun _ U o U' => ∃ v L, o = .returned v ∧ Q2_2 Z p1 p2 p3 p4 h0 n0 v U'.heap L ∧ FrameEnd U o U' L ({ frames := 0, cells := 1, slots := 4, locals := 0 } : Room).cells ({ frames := 0, cells := 1, slots := 4, locals := 0 } : Room).slots) := by
  refine MetFree.of_bodySF (plainFor_of_name pn_com_example_seshat_seshat_filter_ProbeFnv1aPinLaw) hisR ?_
  intro p e s m args below meth c s₁ Bd hml0 hP hK
  obtain ⟨rfl, hZ, hh⟩ := hP
  have hx := Bd.exec
  have hby := Bd.bytes
  have hml : c.maxLocals = 5 := hml0
  have hown : s.vm.findClass "com/example/seshat/seshat/filter/ProbeFnv1aPinLaw" = some m.cls := findClass_of_methodNamed Bd.named
  have hnm := (name_of_methodNamed Bd.named Bd.method).1
  have hlk : meth.locks = false := BodyLoose.notSynchronized Bd
  have X0 : Stand p l e ({ frames := 0, cells := 1, slots := 4, locals := 0 } : Room) s m #[(.int (2 : Int32)), (.int p1), (.int p2), (.int p3), (.int p4)] below meth c s₁ [] 0 0 := Stand.of_body Bd
  have e0 : s₁.heap = h0 := by rw [← hh, Bd.state]; rfl
  have N0 := Fr.nil n0
  have pre0 : Go p e below (s₁.setTop (entryFrame m #[(.int (2 : Int32)), (.int p1), (.int p2), (.int p3), (.int p4)] 5)) (s₁.setTop (mkF m 0 #[.val (.int (2 : Int32)), .val (.int p1), .val (.int p2), .val (.int p3), .val (.int p4)] [])) := fun t k => castTop (ef_2_2 m p1 p2 p3 p4) k
  have pre1 : Go p e below (s₁.setTop (entryFrame m #[(.int (2 : Int32)), (.int p1), (.int p2), (.int p3), (.int p4)] 5)) (s₁.setTop (mkF m 1 #[.val (.int (2 : Int32)), .val (.int p1), .val (.int p2), .val (.int p3), .val (.int p4)] [(.int (2 : Int32))])) := by
    intro t k
    refine pre0 t ?_
    show Steps p.tables e below (s₁.setTop (mkF m 0 #[.val (.int (2 : Int32)), .val (.int p1), .val (.int p2), .val (.int p3), .val (.int p4)] [])) _
    refine XS.iloadN X0.here hx rfl (hb hby d2_0) rfl ?_
    show Steps p.tables e below (s₁.setTop (mkF m 1 #[.val (.int (2 : Int32)), .val (.int p1), .val (.int p2), .val (.int p3), .val (.int p4)] [(.int (2 : Int32))])) _
    exact k
  have pre2 : Go p e below (s₁.setTop (entryFrame m #[(.int (2 : Int32)), (.int p1), (.int p2), (.int p3), (.int p4)] 5)) (s₁.setTop (mkF m 16 #[.val (.int (2 : Int32)), .val (.int p1), .val (.int p2), .val (.int p3), .val (.int p4)] [(.int (1 : Int32)), (.int (2 : Int32))])) := by
    intro t k
    refine pre1 t ?_
    show Steps p.tables e below (s₁.setTop (mkF m 1 #[.val (.int (2 : Int32)), .val (.int p1), .val (.int p2), .val (.int p3), .val (.int p4)] [(.int (2 : Int32))])) _
    refine XS.ifYes X0.here hx rfl (pc0 := 1) (pc' := 14) rfl (hb hby d2_1) rfl (XT.i0_ne_t (by decide : ¬ ((2 : Int32) = (0 : Int32)))) (by decide) (by decide) ?_
    show Steps p.tables e below (s₁.setTop (mkF m 14 #[.val (.int (2 : Int32)), .val (.int p1), .val (.int p2), .val (.int p3), .val (.int p4)] [])) _
    refine XS.iloadN X0.here hx rfl (hb hby d2_14) rfl ?_
    show Steps p.tables e below (s₁.setTop (mkF m 15 #[.val (.int (2 : Int32)), .val (.int p1), .val (.int p2), .val (.int p3), .val (.int p4)] [(.int (2 : Int32))])) _
    refine XS.iconst X0.here hx rfl (hb hby d2_15) ?_
    show Steps p.tables e below (s₁.setTop (mkF m 16 #[.val (.int (2 : Int32)), .val (.int p1), .val (.int p2), .val (.int p3), .val (.int p4)] [(.int (1 : Int32)), (.int (2 : Int32))])) _
    exact k
  have pre3 : Go p e below (s₁.setTop (entryFrame m #[(.int (2 : Int32)), (.int p1), (.int p2), (.int p3), (.int p4)] 5)) (s₁.setTop (mkF m 36 #[.val (.int (2 : Int32)), .val (.int p1), .val (.int p2), .val (.int p3), .val (.int p4)] [(.int (2 : Int32)), (.int (2 : Int32))])) := by
    intro t k
    refine pre2 t ?_
    show Steps p.tables e below (s₁.setTop (mkF m 16 #[.val (.int (2 : Int32)), .val (.int p1), .val (.int p2), .val (.int p3), .val (.int p4)] [(.int (1 : Int32)), (.int (2 : Int32))])) _
    refine XS.icmpYes X0.here hx rfl (pc0 := 16) (pc' := 34) rfl (hb hby d2_16) rfl (XT.ii_ne_t (by decide : ¬ ((2 : Int32) = (1 : Int32)))) (by decide) (by decide) ?_
    show Steps p.tables e below (s₁.setTop (mkF m 34 #[.val (.int (2 : Int32)), .val (.int p1), .val (.int p2), .val (.int p3), .val (.int p4)] [])) _
    refine XS.iloadN X0.here hx rfl (hb hby d2_34) rfl ?_
    show Steps p.tables e below (s₁.setTop (mkF m 35 #[.val (.int (2 : Int32)), .val (.int p1), .val (.int p2), .val (.int p3), .val (.int p4)] [(.int (2 : Int32))])) _
    refine XS.iconst X0.here hx rfl (hb hby d2_35) ?_
    show Steps p.tables e below (s₁.setTop (mkF m 36 #[.val (.int (2 : Int32)), .val (.int p1), .val (.int p2), .val (.int p3), .val (.int p4)] [(.int (2 : Int32)), (.int (2 : Int32))])) _
    exact k
  have pre4 : Go p e below (s₁.setTop (entryFrame m #[(.int (2 : Int32)), (.int p1), (.int p2), (.int p3), (.int p4)] 5)) (s₁.setTop (mkF m 40 #[.val (.int (2 : Int32)), .val (.int p1), .val (.int p2), .val (.int p3), .val (.int p4)] [(.int (3 : Int32))])) := by
    intro t k
    refine pre3 t ?_
    show Steps p.tables e below (s₁.setTop (mkF m 36 #[.val (.int (2 : Int32)), .val (.int p1), .val (.int p2), .val (.int p3), .val (.int p4)] [(.int (2 : Int32)), (.int (2 : Int32))])) _
    refine XS.icmpNo X0.here hx rfl (hb hby d2_36) rfl (XT.ii_ne_f (by decide : (2 : Int32) = (2 : Int32))) ?_
    show Steps p.tables e below (s₁.setTop (mkF m 39 #[.val (.int (2 : Int32)), .val (.int p1), .val (.int p2), .val (.int p3), .val (.int p4)] [])) _
    refine XS.iconst X0.here hx rfl (hb hby d2_39) ?_
    show Steps p.tables e below (s₁.setTop (mkF m 40 #[.val (.int (2 : Int32)), .val (.int p1), .val (.int p2), .val (.int p3), .val (.int p4)] [(.int (3 : Int32))])) _
    exact k
  obtain ⟨T5, h5, k5, X5, e5, E5, A5, st5⟩ := newP X0 hx hZ (hw _ (List.mem_of_getElem? (i := 0) rfl)) e0 (g := (mkF m 40 #[.val (.int (2 : Int32)), .val (.int p1), .val (.int p2), .val (.int p3), .val (.int p4)] [(.int (3 : Int32))])) rfl (hb hby d2_40) rfl (by decide) (cap := 3) (by decide) (by decide) (by decide) (by decide)
  obtain ⟨b5, g5⟩ : ∃ z, z = h0.size := ⟨_, rfl⟩
  rw [← g5] at A5 st5
  have zz6 := (Nat.le_trans Z0 E5.1)
  have K7 := (Keep.refl h0 []).ext E5
  have V_b5 : Arv Z h5 b5 k5 .byte (3 : Int32) [(.int (0 : Int32)), (.int (0 : Int32)), (.int (0 : Int32))] (.int (0 : Int32)) := (Arv.new A5 (by decide)).pad (pad_rep [] (.int (0 : Int32)) 3)
  have g_b5 : n0 ≤ b5 := Nat.le_trans Z0 (Nat.le_of_eq g5.symm)
  have sz_b5 : h0.size ≤ b5 := Nat.le_trans (Keep.refl h0 []).1 (Nat.le_of_eq g5.symm)
  have pre8 : Go p e below (s₁.setTop (entryFrame m #[(.int (2 : Int32)), (.int p1), (.int p2), (.int p3), (.int p4)] 5)) (T5.setTop (mkF m 42 #[.val (.int (2 : Int32)), .val (.int p1), .val (.int p2), .val (.int p3), .val (.int p4)] [(.ref b5)])) := fun t k => pre4 t (st5 t k)
  have pre9 : Go p e below (s₁.setTop (entryFrame m #[(.int (2 : Int32)), (.int p1), (.int p2), (.int p3), (.int p4)] 5)) (T5.setTop (mkF m 46 #[.val (.int (2 : Int32)), .val (.int p1), .val (.int p2), .val (.int p3), .val (.int p4)] [(.int ((p1).toInt8.toInt32)), (.int (0 : Int32)), (.ref b5), (.ref b5)])) := by
    intro t k
    refine pre8 t ?_
    show Steps p.tables e below (T5.setTop (mkF m 42 #[.val (.int (2 : Int32)), .val (.int p1), .val (.int p2), .val (.int p3), .val (.int p4)] [(.ref b5)])) _
    refine XS.dup X5.here hx rfl (hb hby d2_42) rfl rfl ?_
    show Steps p.tables e below (T5.setTop (mkF m 43 #[.val (.int (2 : Int32)), .val (.int p1), .val (.int p2), .val (.int p3), .val (.int p4)] [(.ref b5), (.ref b5)])) _
    refine XS.iconst X5.here hx rfl (hb hby d2_43) ?_
    show Steps p.tables e below (T5.setTop (mkF m 44 #[.val (.int (2 : Int32)), .val (.int p1), .val (.int p2), .val (.int p3), .val (.int p4)] [(.int (0 : Int32)), (.ref b5), (.ref b5)])) _
    refine XS.iloadN X5.here hx rfl (hb hby d2_44) rfl ?_
    show Steps p.tables e below (T5.setTop (mkF m 45 #[.val (.int (2 : Int32)), .val (.int p1), .val (.int p2), .val (.int p3), .val (.int p4)] [(.int p1), (.int (0 : Int32)), (.ref b5), (.ref b5)])) _
    refine XS.i2b X5.here hx rfl (hb hby d2_45) rfl ?_
    show Steps p.tables e below (T5.setTop (mkF m 46 #[.val (.int (2 : Int32)), .val (.int p1), .val (.int p2), .val (.int p3), .val (.int p4)] [(.int ((p1).toInt8.toInt32)), (.int (0 : Int32)), (.ref b5), (.ref b5)])) _
    exact k
  obtain ⟨cl10, Ar10, qq10, SS10, NN10, HH10, GG10⟩ := V_b5
  have hin10 : ¬ ((0 : Int32) < 0 ∨ cl10.slots.size ≤ ((0 : Int32)).toNatClampNeg) := inb_of SS10 ⟨by decide, by decide⟩
  obtain ⟨T10, h10, X10, e10, W10, st10⟩ := stB X5 hx hZ e5 Ar10 (j := (0 : Int32)) hin10 (g := (mkF m 46 #[.val (.int (2 : Int32)), .val (.int p1), .val (.int p2), .val (.int p3), .val (.int p4)] [(.int ((p1).toInt8.toInt32)), (.int (0 : Int32)), (.ref b5), (.ref b5)])) rfl rfl (hb hby d2_46)
  have V10 : Arv Z h10 b5 k5 .byte (3 : Int32) [(.int (nar .byte ((p1).toInt8.toInt32))), (.int (0 : Int32)), (.int (0 : Int32))] (.int (0 : Int32)) := Arv.set Ar10 qq10 SS10 NN10 HH10 GG10 (fits_nar_byte _) W10 0 rfl (Nat.le_of_ble_eq_true rfl)
  have zz11 := (Nat.le_trans zz6 (Keep.of_wr W10).1)
  have K12 := K7.wr W10 (Or.inr sz_b5)
  have N10 := Fr.snoc X10 N0 g_b5
  have pre13 : Go p e below (s₁.setTop (entryFrame m #[(.int (2 : Int32)), (.int p1), (.int p2), (.int p3), (.int p4)] 5)) (T10.setTop (mkF m 47 #[.val (.int (2 : Int32)), .val (.int p1), .val (.int p2), .val (.int p3), .val (.int p4)] [(.ref b5)])) := fun t k => pre9 t (st10 t k)
  have pre14 : Go p e below (s₁.setTop (entryFrame m #[(.int (2 : Int32)), (.int p1), (.int p2), (.int p3), (.int p4)] 5)) (T10.setTop (mkF m 51 #[.val (.int (2 : Int32)), .val (.int p1), .val (.int p2), .val (.int p3), .val (.int p4)] [(.int ((p2).toInt8.toInt32)), (.int (1 : Int32)), (.ref b5), (.ref b5)])) := by
    intro t k
    refine pre13 t ?_
    show Steps p.tables e below (T10.setTop (mkF m 47 #[.val (.int (2 : Int32)), .val (.int p1), .val (.int p2), .val (.int p3), .val (.int p4)] [(.ref b5)])) _
    refine XS.dup X10.here hx rfl (hb hby d2_47) rfl rfl ?_
    show Steps p.tables e below (T10.setTop (mkF m 48 #[.val (.int (2 : Int32)), .val (.int p1), .val (.int p2), .val (.int p3), .val (.int p4)] [(.ref b5), (.ref b5)])) _
    refine XS.iconst X10.here hx rfl (hb hby d2_48) ?_
    show Steps p.tables e below (T10.setTop (mkF m 49 #[.val (.int (2 : Int32)), .val (.int p1), .val (.int p2), .val (.int p3), .val (.int p4)] [(.int (1 : Int32)), (.ref b5), (.ref b5)])) _
    refine XS.iloadN X10.here hx rfl (hb hby d2_49) rfl ?_
    show Steps p.tables e below (T10.setTop (mkF m 50 #[.val (.int (2 : Int32)), .val (.int p1), .val (.int p2), .val (.int p3), .val (.int p4)] [(.int p2), (.int (1 : Int32)), (.ref b5), (.ref b5)])) _
    refine XS.i2b X10.here hx rfl (hb hby d2_50) rfl ?_
    show Steps p.tables e below (T10.setTop (mkF m 51 #[.val (.int (2 : Int32)), .val (.int p1), .val (.int p2), .val (.int p3), .val (.int p4)] [(.int ((p2).toInt8.toInt32)), (.int (1 : Int32)), (.ref b5), (.ref b5)])) _
    exact k
  obtain ⟨cl15, Ar15, qq15, SS15, NN15, HH15, GG15⟩ := V10
  have hin15 : ¬ ((1 : Int32) < 0 ∨ cl15.slots.size ≤ ((1 : Int32)).toNatClampNeg) := inb_of SS15 ⟨by decide, by decide⟩
  obtain ⟨T15, h15, X15, e15, W15, st15⟩ := stB X10 hx hZ e10 Ar15 (j := (1 : Int32)) hin15 (g := (mkF m 51 #[.val (.int (2 : Int32)), .val (.int p1), .val (.int p2), .val (.int p3), .val (.int p4)] [(.int ((p2).toInt8.toInt32)), (.int (1 : Int32)), (.ref b5), (.ref b5)])) rfl rfl (hb hby d2_51)
  have V15 : Arv Z h15 b5 k5 .byte (3 : Int32) [(.int (nar .byte ((p1).toInt8.toInt32))), (.int (nar .byte ((p2).toInt8.toInt32))), (.int (0 : Int32))] (.int (0 : Int32)) := Arv.set Ar15 qq15 SS15 NN15 HH15 GG15 (fits_nar_byte _) W15 1 rfl (Nat.le_of_ble_eq_true rfl)
  have zz16 := (Nat.le_trans zz11 (Keep.of_wr W15).1)
  have K17 := K12.wr W15 (Or.inr sz_b5)
  have N15 := Fr.snoc X15 N10 g_b5
  have pre18 : Go p e below (s₁.setTop (entryFrame m #[(.int (2 : Int32)), (.int p1), (.int p2), (.int p3), (.int p4)] 5)) (T15.setTop (mkF m 52 #[.val (.int (2 : Int32)), .val (.int p1), .val (.int p2), .val (.int p3), .val (.int p4)] [(.ref b5)])) := fun t k => pre14 t (st15 t k)
  have pre19 : Go p e below (s₁.setTop (entryFrame m #[(.int (2 : Int32)), (.int p1), (.int p2), (.int p3), (.int p4)] 5)) (T15.setTop (mkF m 57 #[.val (.int (2 : Int32)), .val (.int p1), .val (.int p2), .val (.int p3), .val (.int p4)] [(.int ((p4).toInt8.toInt32)), (.int (2 : Int32)), (.ref b5), (.ref b5)])) := by
    intro t k
    refine pre18 t ?_
    show Steps p.tables e below (T15.setTop (mkF m 52 #[.val (.int (2 : Int32)), .val (.int p1), .val (.int p2), .val (.int p3), .val (.int p4)] [(.ref b5)])) _
    refine XS.dup X15.here hx rfl (hb hby d2_52) rfl rfl ?_
    show Steps p.tables e below (T15.setTop (mkF m 53 #[.val (.int (2 : Int32)), .val (.int p1), .val (.int p2), .val (.int p3), .val (.int p4)] [(.ref b5), (.ref b5)])) _
    refine XS.iconst X15.here hx rfl (hb hby d2_53) ?_
    show Steps p.tables e below (T15.setTop (mkF m 54 #[.val (.int (2 : Int32)), .val (.int p1), .val (.int p2), .val (.int p3), .val (.int p4)] [(.int (2 : Int32)), (.ref b5), (.ref b5)])) _
    refine XS.iload X15.here hx rfl (hb hby d2_54) rfl ?_
    show Steps p.tables e below (T15.setTop (mkF m 56 #[.val (.int (2 : Int32)), .val (.int p1), .val (.int p2), .val (.int p3), .val (.int p4)] [(.int p4), (.int (2 : Int32)), (.ref b5), (.ref b5)])) _
    refine XS.i2b X15.here hx rfl (hb hby d2_56) rfl ?_
    show Steps p.tables e below (T15.setTop (mkF m 57 #[.val (.int (2 : Int32)), .val (.int p1), .val (.int p2), .val (.int p3), .val (.int p4)] [(.int ((p4).toInt8.toInt32)), (.int (2 : Int32)), (.ref b5), (.ref b5)])) _
    exact k
  obtain ⟨cl20, Ar20, qq20, SS20, NN20, HH20, GG20⟩ := V15
  have hin20 : ¬ ((2 : Int32) < 0 ∨ cl20.slots.size ≤ ((2 : Int32)).toNatClampNeg) := inb_of SS20 ⟨by decide, by decide⟩
  obtain ⟨T20, h20, X20, e20, W20, st20⟩ := stB X15 hx hZ e15 Ar20 (j := (2 : Int32)) hin20 (g := (mkF m 57 #[.val (.int (2 : Int32)), .val (.int p1), .val (.int p2), .val (.int p3), .val (.int p4)] [(.int ((p4).toInt8.toInt32)), (.int (2 : Int32)), (.ref b5), (.ref b5)])) rfl rfl (hb hby d2_57)
  have V20 : Arv Z h20 b5 k5 .byte (3 : Int32) [(.int (nar .byte ((p1).toInt8.toInt32))), (.int (nar .byte ((p2).toInt8.toInt32))), (.int (nar .byte ((p4).toInt8.toInt32)))] (.int (0 : Int32)) := Arv.set Ar20 qq20 SS20 NN20 HH20 GG20 (fits_nar_byte _) W20 2 rfl (Nat.le_of_ble_eq_true rfl)
  have zz21 := (Nat.le_trans zz16 (Keep.of_wr W20).1)
  have K22 := K17.wr W20 (Or.inr sz_b5)
  have N20 := Fr.snoc X20 N15 g_b5
  have pre23 : Go p e below (s₁.setTop (entryFrame m #[(.int (2 : Int32)), (.int p1), (.int p2), (.int p3), (.int p4)] 5)) (T20.setTop (mkF m 58 #[.val (.int (2 : Int32)), .val (.int p1), .val (.int p2), .val (.int p3), .val (.int p4)] [(.ref b5)])) := fun t k => pre19 t (st20 t k)
  obtain ⟨fs, hr, hrun, hended, hW, hsame⟩ := X20.leave (hlocks := hlk) (v := some (.ref b5)) (fun h => by rw [Bd.returns] at h; cases h)
  refine ⟨_, _, pre23 _ (retA X20 hx Bd.returns rfl rfl rfl (hb hby d2_58) hr), hrun, hended, _, _, rfl, ?_, ⟨_, rfl⟩, hW, hsame.mono (by decide) (by decide)⟩
  show Q2_2 Z p1 p2 p3 p4 h0 n0 _ T20.heap _
  rw [e20]
  exact ⟨b5, k5, rfl, g_b5, N20, K22, V20⟩
theorem ef_1_3 (m : MethodId) (p1 : Int32) (p2 : Int32) (p3 : Int32) : entryFrame m #[(.int (3 : Int32)), (.int p1), (.int p2), (.int p3)] 4 = mkF m 0 #[.val (.int (3 : Int32)), .val (.int p1), .val (.int p2), .val (.int p3)] [] := by first | (simp [entryFrame, mkF, argsToLocals, Value.category]; done) | rfl
theorem d1_41 : decode method_2_code 41 = .ok (.iconst 3, 1) := by decide +kernel
theorem d1_42 : decode method_2_code 42 = .ok (.newarray .byte, 2) := by decide +kernel
theorem d1_44 : decode method_2_code 44 = .ok (.dup, 1) := by decide +kernel
theorem d1_45 : decode method_2_code 45 = .ok (.iconst 0, 1) := by decide +kernel
theorem d1_46 : decode method_2_code 46 = .ok (.iload_n 1, 1) := by decide +kernel
theorem d1_47 : decode method_2_code 47 = .ok (.i2b, 1) := by decide +kernel
theorem d1_48 : decode method_2_code 48 = .ok (.bastore, 1) := by decide +kernel
theorem d1_49 : decode method_2_code 49 = .ok (.dup, 1) := by decide +kernel
theorem d1_50 : decode method_2_code 50 = .ok (.iconst 1, 1) := by decide +kernel
theorem d1_51 : decode method_2_code 51 = .ok (.iload_n 2, 1) := by decide +kernel
theorem d1_52 : decode method_2_code 52 = .ok (.i2b, 1) := by decide +kernel
theorem d1_53 : decode method_2_code 53 = .ok (.bastore, 1) := by decide +kernel
theorem d1_54 : decode method_2_code 54 = .ok (.dup, 1) := by decide +kernel
theorem d1_55 : decode method_2_code 55 = .ok (.iconst 2, 1) := by decide +kernel
theorem d1_56 : decode method_2_code 56 = .ok (.iload_n 3, 1) := by decide +kernel
theorem d1_57 : decode method_2_code 57 = .ok (.i2b, 1) := by decide +kernel
theorem d1_58 : decode method_2_code 58 = .ok (.bastore, 1) := by decide +kernel
theorem d1_59 : decode method_2_code 59 = .ok (.areturn, 1) := by decide +kernel
def Q1_3 (Z : State) (p1 : Int32) (p2 : Int32) (p3 : Int32) (h0 : Heap) (n0 : Nat) (v : Option Value) (h : Heap) (L : List Loc) : Prop := ∃ b k, v = some (.ref b) ∧ n0 ≤ b ∧ Fr n0 L ∧ Keep h0 h [] ∧ Arv Z h b k .byte (3 : Int32) [(.int (nar .byte (p1.toInt8.toInt32))), (.int (nar .byte (p2.toInt8.toInt32))), (.int (nar .byte (p3.toInt8.toInt32)))] (.int (0 : Int32))
set_option maxRecDepth 65536 in
set_option maxHeartbeats 40000000 in
theorem rm1_3 (l : Launch) (Z : State) (a0 : Array Value) (hw : ∀ d ∈ tables_1, d.before a0 Z = true) (ws : List Jvm.Cond) (p1 : Int32) (p2 : Int32) (p3 : Int32) (h0 : Heap) (n0 : Nat) (Z0 : n0 ≤ h0.size) :
    MetFree l (⟨"com/example/seshat/seshat/filter/ProbeFnv1aPinLaw", "prefix", "(IIII)[B"⟩ : MethodName) (head1 (Jvm.Cond.code (⟨"com/example/seshat/seshat/filter/ProbeFnv1aPinLaw", "prefix", "(IIII)[B"⟩ : MethodName) method_2_code 4 (some (.array .byte)) :: ws) ({ frames := 0, cells := 1, slots := 4, locals := 0 } : Room)) (fun a U => a = #[(.int (3 : Int32)), (.int p1), (.int p2), (.int p3)] ∧ Z.Warmed39 U.vm ∧ U.heap = h0) (fun _ _ _ _ _ => True) (fun _ U o U' => ∃ v L, o = .returned v ∧ Q1_3 Z p1 p2 p3 h0 n0 v U'.heap L ∧ FrameEnd U o U' L ({ frames := 0, cells := 1, slots := 4, locals := 0 } : Room).cells ({ frames := 0, cells := 1, slots := 4, locals := 0 } : Room).slots) := by
  refine MetFree.of_bodySF (plainFor_of_name pn_com_example_seshat_seshat_filter_ProbeFnv1aPinLaw) hisR ?_
  intro p e s m args below meth c s₁ Bd hml0 hP hK
  obtain ⟨rfl, hZ, hh⟩ := hP
  have hx := Bd.exec
  have hby := Bd.bytes
  have hml : c.maxLocals = 4 := hml0
  have hown : s.vm.findClass "com/example/seshat/seshat/filter/ProbeFnv1aPinLaw" = some m.cls := findClass_of_methodNamed Bd.named
  have hnm := (name_of_methodNamed Bd.named Bd.method).1
  have hlk : meth.locks = false := BodyLoose.notSynchronized Bd
  have X0 : Stand p l e ({ frames := 0, cells := 1, slots := 4, locals := 0 } : Room) s m #[(.int (3 : Int32)), (.int p1), (.int p2), (.int p3)] below meth c s₁ [] 0 0 := Stand.of_body Bd
  have e0 : s₁.heap = h0 := by rw [← hh, Bd.state]; rfl
  have N0 := Fr.nil n0
  have pre0 : Go p e below (s₁.setTop (entryFrame m #[(.int (3 : Int32)), (.int p1), (.int p2), (.int p3)] 4)) (s₁.setTop (mkF m 0 #[.val (.int (3 : Int32)), .val (.int p1), .val (.int p2), .val (.int p3)] [])) := fun t k => castTop (ef_1_3 m p1 p2 p3) k
  have pre1 : Go p e below (s₁.setTop (entryFrame m #[(.int (3 : Int32)), (.int p1), (.int p2), (.int p3)] 4)) (s₁.setTop (mkF m 1 #[.val (.int (3 : Int32)), .val (.int p1), .val (.int p2), .val (.int p3)] [(.int (3 : Int32))])) := by
    intro t k
    refine pre0 t ?_
    show Steps p.tables e below (s₁.setTop (mkF m 0 #[.val (.int (3 : Int32)), .val (.int p1), .val (.int p2), .val (.int p3)] [])) _
    refine XS.iloadN X0.here hx rfl (hb hby d1_0) rfl ?_
    show Steps p.tables e below (s₁.setTop (mkF m 1 #[.val (.int (3 : Int32)), .val (.int p1), .val (.int p2), .val (.int p3)] [(.int (3 : Int32))])) _
    exact k
  have pre2 : Go p e below (s₁.setTop (entryFrame m #[(.int (3 : Int32)), (.int p1), (.int p2), (.int p3)] 4)) (s₁.setTop (mkF m 10 #[.val (.int (3 : Int32)), .val (.int p1), .val (.int p2), .val (.int p3)] [(.int (1 : Int32)), (.int (3 : Int32))])) := by
    intro t k
    refine pre1 t ?_
    show Steps p.tables e below (s₁.setTop (mkF m 1 #[.val (.int (3 : Int32)), .val (.int p1), .val (.int p2), .val (.int p3)] [(.int (3 : Int32))])) _
    refine XS.ifYes X0.here hx rfl (pc0 := 1) (pc' := 8) rfl (hb hby d1_1) rfl (XT.i0_ne_t (by decide : ¬ ((3 : Int32) = (0 : Int32)))) (by decide) (by decide) ?_
    show Steps p.tables e below (s₁.setTop (mkF m 8 #[.val (.int (3 : Int32)), .val (.int p1), .val (.int p2), .val (.int p3)] [])) _
    refine XS.iloadN X0.here hx rfl (hb hby d1_8) rfl ?_
    show Steps p.tables e below (s₁.setTop (mkF m 9 #[.val (.int (3 : Int32)), .val (.int p1), .val (.int p2), .val (.int p3)] [(.int (3 : Int32))])) _
    refine XS.iconst X0.here hx rfl (hb hby d1_9) ?_
    show Steps p.tables e below (s₁.setTop (mkF m 10 #[.val (.int (3 : Int32)), .val (.int p1), .val (.int p2), .val (.int p3)] [(.int (1 : Int32)), (.int (3 : Int32))])) _
    exact k
  have pre3 : Go p e below (s₁.setTop (entryFrame m #[(.int (3 : Int32)), (.int p1), (.int p2), (.int p3)] 4)) (s₁.setTop (mkF m 24 #[.val (.int (3 : Int32)), .val (.int p1), .val (.int p2), .val (.int p3)] [(.int (2 : Int32)), (.int (3 : Int32))])) := by
    intro t k
    refine pre2 t ?_
    show Steps p.tables e below (s₁.setTop (mkF m 10 #[.val (.int (3 : Int32)), .val (.int p1), .val (.int p2), .val (.int p3)] [(.int (1 : Int32)), (.int (3 : Int32))])) _
    refine XS.icmpYes X0.here hx rfl (pc0 := 10) (pc' := 22) rfl (hb hby d1_10) rfl (XT.ii_ne_t (by decide : ¬ ((3 : Int32) = (1 : Int32)))) (by decide) (by decide) ?_
    show Steps p.tables e below (s₁.setTop (mkF m 22 #[.val (.int (3 : Int32)), .val (.int p1), .val (.int p2), .val (.int p3)] [])) _
    refine XS.iloadN X0.here hx rfl (hb hby d1_22) rfl ?_
    show Steps p.tables e below (s₁.setTop (mkF m 23 #[.val (.int (3 : Int32)), .val (.int p1), .val (.int p2), .val (.int p3)] [(.int (3 : Int32))])) _
    refine XS.iconst X0.here hx rfl (hb hby d1_23) ?_
    show Steps p.tables e below (s₁.setTop (mkF m 24 #[.val (.int (3 : Int32)), .val (.int p1), .val (.int p2), .val (.int p3)] [(.int (2 : Int32)), (.int (3 : Int32))])) _
    exact k
  have pre4 : Go p e below (s₁.setTop (entryFrame m #[(.int (3 : Int32)), (.int p1), (.int p2), (.int p3)] 4)) (s₁.setTop (mkF m 42 #[.val (.int (3 : Int32)), .val (.int p1), .val (.int p2), .val (.int p3)] [(.int (3 : Int32))])) := by
    intro t k
    refine pre3 t ?_
    show Steps p.tables e below (s₁.setTop (mkF m 24 #[.val (.int (3 : Int32)), .val (.int p1), .val (.int p2), .val (.int p3)] [(.int (2 : Int32)), (.int (3 : Int32))])) _
    refine XS.icmpYes X0.here hx rfl (pc0 := 24) (pc' := 41) rfl (hb hby d1_24) rfl (XT.ii_ne_t (by decide : ¬ ((3 : Int32) = (2 : Int32)))) (by decide) (by decide) ?_
    show Steps p.tables e below (s₁.setTop (mkF m 41 #[.val (.int (3 : Int32)), .val (.int p1), .val (.int p2), .val (.int p3)] [])) _
    refine XS.iconst X0.here hx rfl (hb hby d1_41) ?_
    show Steps p.tables e below (s₁.setTop (mkF m 42 #[.val (.int (3 : Int32)), .val (.int p1), .val (.int p2), .val (.int p3)] [(.int (3 : Int32))])) _
    exact k
  obtain ⟨T5, h5, k5, X5, e5, E5, A5, st5⟩ := newP X0 hx hZ (hw _ (List.mem_of_getElem? (i := 0) rfl)) e0 (g := (mkF m 42 #[.val (.int (3 : Int32)), .val (.int p1), .val (.int p2), .val (.int p3)] [(.int (3 : Int32))])) rfl (hb hby d1_42) rfl (by decide) (cap := 3) (by decide) (by decide) (by decide) (by decide)
  obtain ⟨b5, g5⟩ : ∃ z, z = h0.size := ⟨_, rfl⟩
  rw [← g5] at A5 st5
  have zz6 := (Nat.le_trans Z0 E5.1)
  have K7 := (Keep.refl h0 []).ext E5
  have V_b5 : Arv Z h5 b5 k5 .byte (3 : Int32) [(.int (0 : Int32)), (.int (0 : Int32)), (.int (0 : Int32))] (.int (0 : Int32)) := (Arv.new A5 (by decide)).pad (pad_rep [] (.int (0 : Int32)) 3)
  have g_b5 : n0 ≤ b5 := Nat.le_trans Z0 (Nat.le_of_eq g5.symm)
  have sz_b5 : h0.size ≤ b5 := Nat.le_trans (Keep.refl h0 []).1 (Nat.le_of_eq g5.symm)
  have pre8 : Go p e below (s₁.setTop (entryFrame m #[(.int (3 : Int32)), (.int p1), (.int p2), (.int p3)] 4)) (T5.setTop (mkF m 44 #[.val (.int (3 : Int32)), .val (.int p1), .val (.int p2), .val (.int p3)] [(.ref b5)])) := fun t k => pre4 t (st5 t k)
  have pre9 : Go p e below (s₁.setTop (entryFrame m #[(.int (3 : Int32)), (.int p1), (.int p2), (.int p3)] 4)) (T5.setTop (mkF m 48 #[.val (.int (3 : Int32)), .val (.int p1), .val (.int p2), .val (.int p3)] [(.int ((p1).toInt8.toInt32)), (.int (0 : Int32)), (.ref b5), (.ref b5)])) := by
    intro t k
    refine pre8 t ?_
    show Steps p.tables e below (T5.setTop (mkF m 44 #[.val (.int (3 : Int32)), .val (.int p1), .val (.int p2), .val (.int p3)] [(.ref b5)])) _
    refine XS.dup X5.here hx rfl (hb hby d1_44) rfl rfl ?_
    show Steps p.tables e below (T5.setTop (mkF m 45 #[.val (.int (3 : Int32)), .val (.int p1), .val (.int p2), .val (.int p3)] [(.ref b5), (.ref b5)])) _
    refine XS.iconst X5.here hx rfl (hb hby d1_45) ?_
    show Steps p.tables e below (T5.setTop (mkF m 46 #[.val (.int (3 : Int32)), .val (.int p1), .val (.int p2), .val (.int p3)] [(.int (0 : Int32)), (.ref b5), (.ref b5)])) _
    refine XS.iloadN X5.here hx rfl (hb hby d1_46) rfl ?_
    show Steps p.tables e below (T5.setTop (mkF m 47 #[.val (.int (3 : Int32)), .val (.int p1), .val (.int p2), .val (.int p3)] [(.int p1), (.int (0 : Int32)), (.ref b5), (.ref b5)])) _
    refine XS.i2b X5.here hx rfl (hb hby d1_47) rfl ?_
    show Steps p.tables e below (T5.setTop (mkF m 48 #[.val (.int (3 : Int32)), .val (.int p1), .val (.int p2), .val (.int p3)] [(.int ((p1).toInt8.toInt32)), (.int (0 : Int32)), (.ref b5), (.ref b5)])) _
    exact k
  obtain ⟨cl10, Ar10, qq10, SS10, NN10, HH10, GG10⟩ := V_b5
  have hin10 : ¬ ((0 : Int32) < 0 ∨ cl10.slots.size ≤ ((0 : Int32)).toNatClampNeg) := inb_of SS10 ⟨by decide, by decide⟩
  obtain ⟨T10, h10, X10, e10, W10, st10⟩ := stB X5 hx hZ e5 Ar10 (j := (0 : Int32)) hin10 (g := (mkF m 48 #[.val (.int (3 : Int32)), .val (.int p1), .val (.int p2), .val (.int p3)] [(.int ((p1).toInt8.toInt32)), (.int (0 : Int32)), (.ref b5), (.ref b5)])) rfl rfl (hb hby d1_48)
  have V10 : Arv Z h10 b5 k5 .byte (3 : Int32) [(.int (nar .byte ((p1).toInt8.toInt32))), (.int (0 : Int32)), (.int (0 : Int32))] (.int (0 : Int32)) := Arv.set Ar10 qq10 SS10 NN10 HH10 GG10 (fits_nar_byte _) W10 0 rfl (Nat.le_of_ble_eq_true rfl)
  have zz11 := (Nat.le_trans zz6 (Keep.of_wr W10).1)
  have K12 := K7.wr W10 (Or.inr sz_b5)
  have N10 := Fr.snoc X10 N0 g_b5
  have pre13 : Go p e below (s₁.setTop (entryFrame m #[(.int (3 : Int32)), (.int p1), (.int p2), (.int p3)] 4)) (T10.setTop (mkF m 49 #[.val (.int (3 : Int32)), .val (.int p1), .val (.int p2), .val (.int p3)] [(.ref b5)])) := fun t k => pre9 t (st10 t k)
  have pre14 : Go p e below (s₁.setTop (entryFrame m #[(.int (3 : Int32)), (.int p1), (.int p2), (.int p3)] 4)) (T10.setTop (mkF m 53 #[.val (.int (3 : Int32)), .val (.int p1), .val (.int p2), .val (.int p3)] [(.int ((p2).toInt8.toInt32)), (.int (1 : Int32)), (.ref b5), (.ref b5)])) := by
    intro t k
    refine pre13 t ?_
    show Steps p.tables e below (T10.setTop (mkF m 49 #[.val (.int (3 : Int32)), .val (.int p1), .val (.int p2), .val (.int p3)] [(.ref b5)])) _
    refine XS.dup X10.here hx rfl (hb hby d1_49) rfl rfl ?_
    show Steps p.tables e below (T10.setTop (mkF m 50 #[.val (.int (3 : Int32)), .val (.int p1), .val (.int p2), .val (.int p3)] [(.ref b5), (.ref b5)])) _
    refine XS.iconst X10.here hx rfl (hb hby d1_50) ?_
    show Steps p.tables e below (T10.setTop (mkF m 51 #[.val (.int (3 : Int32)), .val (.int p1), .val (.int p2), .val (.int p3)] [(.int (1 : Int32)), (.ref b5), (.ref b5)])) _
    refine XS.iloadN X10.here hx rfl (hb hby d1_51) rfl ?_
    show Steps p.tables e below (T10.setTop (mkF m 52 #[.val (.int (3 : Int32)), .val (.int p1), .val (.int p2), .val (.int p3)] [(.int p2), (.int (1 : Int32)), (.ref b5), (.ref b5)])) _
    refine XS.i2b X10.here hx rfl (hb hby d1_52) rfl ?_
    show Steps p.tables e below (T10.setTop (mkF m 53 #[.val (.int (3 : Int32)), .val (.int p1), .val (.int p2), .val (.int p3)] [(.int ((p2).toInt8.toInt32)), (.int (1 : Int32)), (.ref b5), (.ref b5)])) _
    exact k
  obtain ⟨cl15, Ar15, qq15, SS15, NN15, HH15, GG15⟩ := V10
  have hin15 : ¬ ((1 : Int32) < 0 ∨ cl15.slots.size ≤ ((1 : Int32)).toNatClampNeg) := inb_of SS15 ⟨by decide, by decide⟩
  obtain ⟨T15, h15, X15, e15, W15, st15⟩ := stB X10 hx hZ e10 Ar15 (j := (1 : Int32)) hin15 (g := (mkF m 53 #[.val (.int (3 : Int32)), .val (.int p1), .val (.int p2), .val (.int p3)] [(.int ((p2).toInt8.toInt32)), (.int (1 : Int32)), (.ref b5), (.ref b5)])) rfl rfl (hb hby d1_53)
  have V15 : Arv Z h15 b5 k5 .byte (3 : Int32) [(.int (nar .byte ((p1).toInt8.toInt32))), (.int (nar .byte ((p2).toInt8.toInt32))), (.int (0 : Int32))] (.int (0 : Int32)) := Arv.set Ar15 qq15 SS15 NN15 HH15 GG15 (fits_nar_byte _) W15 1 rfl (Nat.le_of_ble_eq_true rfl)
  have zz16 := (Nat.le_trans zz11 (Keep.of_wr W15).1)
  have K17 := K12.wr W15 (Or.inr sz_b5)
  have N15 := Fr.snoc X15 N10 g_b5
  have pre18 : Go p e below (s₁.setTop (entryFrame m #[(.int (3 : Int32)), (.int p1), (.int p2), (.int p3)] 4)) (T15.setTop (mkF m 54 #[.val (.int (3 : Int32)), .val (.int p1), .val (.int p2), .val (.int p3)] [(.ref b5)])) := fun t k => pre14 t (st15 t k)
  have pre19 : Go p e below (s₁.setTop (entryFrame m #[(.int (3 : Int32)), (.int p1), (.int p2), (.int p3)] 4)) (T15.setTop (mkF m 58 #[.val (.int (3 : Int32)), .val (.int p1), .val (.int p2), .val (.int p3)] [(.int ((p3).toInt8.toInt32)), (.int (2 : Int32)), (.ref b5), (.ref b5)])) := by
    intro t k
    refine pre18 t ?_
    show Steps p.tables e below (T15.setTop (mkF m 54 #[.val (.int (3 : Int32)), .val (.int p1), .val (.int p2), .val (.int p3)] [(.ref b5)])) _
    refine XS.dup X15.here hx rfl (hb hby d1_54) rfl rfl ?_
    show Steps p.tables e below (T15.setTop (mkF m 55 #[.val (.int (3 : Int32)), .val (.int p1), .val (.int p2), .val (.int p3)] [(.ref b5), (.ref b5)])) _
    refine XS.iconst X15.here hx rfl (hb hby d1_55) ?_
    show Steps p.tables e below (T15.setTop (mkF m 56 #[.val (.int (3 : Int32)), .val (.int p1), .val (.int p2), .val (.int p3)] [(.int (2 : Int32)), (.ref b5), (.ref b5)])) _
    refine XS.iloadN X15.here hx rfl (hb hby d1_56) rfl ?_
    show Steps p.tables e below (T15.setTop (mkF m 57 #[.val (.int (3 : Int32)), .val (.int p1), .val (.int p2), .val (.int p3)] [(.int p3), (.int (2 : Int32)), (.ref b5), (.ref b5)])) _
    refine XS.i2b X15.here hx rfl (hb hby d1_57) rfl ?_
    show Steps p.tables e below (T15.setTop (mkF m 58 #[.val (.int (3 : Int32)), .val (.int p1), .val (.int p2), .val (.int p3)] [(.int ((p3).toInt8.toInt32)), (.int (2 : Int32)), (.ref b5), (.ref b5)])) _
    exact k
  obtain ⟨cl20, Ar20, qq20, SS20, NN20, HH20, GG20⟩ := V15
  have hin20 : ¬ ((2 : Int32) < 0 ∨ cl20.slots.size ≤ ((2 : Int32)).toNatClampNeg) := inb_of SS20 ⟨by decide, by decide⟩
  obtain ⟨T20, h20, X20, e20, W20, st20⟩ := stB X15 hx hZ e15 Ar20 (j := (2 : Int32)) hin20 (g := (mkF m 58 #[.val (.int (3 : Int32)), .val (.int p1), .val (.int p2), .val (.int p3)] [(.int ((p3).toInt8.toInt32)), (.int (2 : Int32)), (.ref b5), (.ref b5)])) rfl rfl (hb hby d1_58)
  have V20 : Arv Z h20 b5 k5 .byte (3 : Int32) [(.int (nar .byte ((p1).toInt8.toInt32))), (.int (nar .byte ((p2).toInt8.toInt32))), (.int (nar .byte ((p3).toInt8.toInt32)))] (.int (0 : Int32)) := Arv.set Ar20 qq20 SS20 NN20 HH20 GG20 (fits_nar_byte _) W20 2 rfl (Nat.le_of_ble_eq_true rfl)
  have zz21 := (Nat.le_trans zz16 (Keep.of_wr W20).1)
  have K22 := K17.wr W20 (Or.inr sz_b5)
  have N20 := Fr.snoc X20 N15 g_b5
  have pre23 : Go p e below (s₁.setTop (entryFrame m #[(.int (3 : Int32)), (.int p1), (.int p2), (.int p3)] 4)) (T20.setTop (mkF m 59 #[.val (.int (3 : Int32)), .val (.int p1), .val (.int p2), .val (.int p3)] [(.ref b5)])) := fun t k => pre19 t (st20 t k)
  obtain ⟨fs, hr, hrun, hended, hW, hsame⟩ := X20.leave (hlocks := hlk) (v := some (.ref b5)) (fun h => by rw [Bd.returns] at h; cases h)
  refine ⟨_, _, pre23 _ (retA X20 hx Bd.returns rfl rfl rfl (hb hby d1_59) hr), hrun, hended, _, _, rfl, ?_, ⟨_, rfl⟩, hW, hsame.mono (by decide) (by decide)⟩
  show Q1_3 Z p1 p2 p3 h0 n0 _ T20.heap _
  rw [e20]
  exact ⟨b5, k5, rfl, g_b5, N20, K22, V20⟩
theorem ef_2_3 (m : MethodId) (p1 : Int32) (p2 : Int32) (p3 : Int32) (p4 : Int32) : entryFrame m #[(.int (3 : Int32)), (.int p1), (.int p2), (.int p3), (.int p4)] 5 = mkF m 0 #[.val (.int (3 : Int32)), .val (.int p1), .val (.int p2), .val (.int p3), .val (.int p4)] [] := by first | (simp [entryFrame, mkF, argsToLocals, Value.category]; done) | rfl
theorem d2_59 : decode method_3_code 59 = .ok (.iconst 4, 1) := by decide +kernel
theorem d2_60 : decode method_3_code 60 = .ok (.newarray .byte, 2) := by decide +kernel
theorem d2_62 : decode method_3_code 62 = .ok (.dup, 1) := by decide +kernel
theorem d2_63 : decode method_3_code 63 = .ok (.iconst 0, 1) := by decide +kernel
theorem d2_64 : decode method_3_code 64 = .ok (.iload_n 1, 1) := by decide +kernel
theorem d2_65 : decode method_3_code 65 = .ok (.i2b, 1) := by decide +kernel
theorem d2_66 : decode method_3_code 66 = .ok (.bastore, 1) := by decide +kernel
theorem d2_67 : decode method_3_code 67 = .ok (.dup, 1) := by decide +kernel
theorem d2_68 : decode method_3_code 68 = .ok (.iconst 1, 1) := by decide +kernel
theorem d2_69 : decode method_3_code 69 = .ok (.iload_n 2, 1) := by decide +kernel
theorem d2_70 : decode method_3_code 70 = .ok (.i2b, 1) := by decide +kernel
theorem d2_71 : decode method_3_code 71 = .ok (.bastore, 1) := by decide +kernel
theorem d2_72 : decode method_3_code 72 = .ok (.dup, 1) := by decide +kernel
theorem d2_73 : decode method_3_code 73 = .ok (.iconst 2, 1) := by decide +kernel
theorem d2_74 : decode method_3_code 74 = .ok (.iload_n 3, 1) := by decide +kernel
theorem d2_75 : decode method_3_code 75 = .ok (.i2b, 1) := by decide +kernel
theorem d2_76 : decode method_3_code 76 = .ok (.bastore, 1) := by decide +kernel
theorem d2_77 : decode method_3_code 77 = .ok (.dup, 1) := by decide +kernel
theorem d2_78 : decode method_3_code 78 = .ok (.iconst 3, 1) := by decide +kernel
theorem d2_79 : decode method_3_code 79 = .ok (.iload 4, 2) := by decide +kernel
theorem d2_81 : decode method_3_code 81 = .ok (.i2b, 1) := by decide +kernel
theorem d2_82 : decode method_3_code 82 = .ok (.bastore, 1) := by decide +kernel
theorem d2_83 : decode method_3_code 83 = .ok (.areturn, 1) := by decide +kernel
def Q2_3 (Z : State) (p1 : Int32) (p2 : Int32) (p3 : Int32) (p4 : Int32) (h0 : Heap) (n0 : Nat) (v : Option Value) (h : Heap) (L : List Loc) : Prop := ∃ b k, v = some (.ref b) ∧ n0 ≤ b ∧ Fr n0 L ∧ Keep h0 h [] ∧ Arv Z h b k .byte (4 : Int32) [(.int (nar .byte (p1.toInt8.toInt32))), (.int (nar .byte (p2.toInt8.toInt32))), (.int (nar .byte (p3.toInt8.toInt32))), (.int (nar .byte (p4.toInt8.toInt32)))] (.int (0 : Int32))
set_option maxRecDepth 65536 in
set_option maxHeartbeats 40000000 in
theorem rm2_3 (l : Launch) (Z : State) (a0 : Array Value) (hw : ∀ d ∈ tables_1, d.before a0 Z = true) (ws : List Jvm.Cond) (p1 : Int32) (p2 : Int32) (p3 : Int32) (p4 : Int32) (h0 : Heap) (n0 : Nat) (Z0 : n0 ≤ h0.size) :
    MetFree l (⟨"com/example/seshat/seshat/filter/ProbeFnv1aPinLaw", "extended", "(IIIII)[B"⟩ : MethodName) (head1 (Jvm.Cond.code (⟨"com/example/seshat/seshat/filter/ProbeFnv1aPinLaw", "extended", "(IIIII)[B"⟩ : MethodName) method_3_code 5 (some (.array .byte)) :: ws) ({ frames := 0, cells := 1, slots := 4, locals := 0 } : Room)) (fun a U => a = #[(.int (3 : Int32)), (.int p1), (.int p2), (.int p3), (.int p4)] ∧ Z.Warmed39 U.vm ∧ U.heap = h0) (fun _ _ _ _ _ => True) (fun _ U o U' => ∃ v L, o = .returned v ∧ Q2_3 Z p1 p2 p3 p4 h0 n0 v U'.heap L ∧ FrameEnd U o U' L ({ frames := 0, cells := 1, slots := 4, locals := 0 } : Room).cells ({ frames := 0, cells := 1, slots := 4, locals := 0 } : Room).slots) := by
  refine MetFree.of_bodySF (plainFor_of_name pn_com_example_seshat_seshat_filter_ProbeFnv1aPinLaw) hisR ?_
  intro p e s m args below meth c s₁ Bd hml0 hP hK
  obtain ⟨rfl, hZ, hh⟩ := hP
  have hx := Bd.exec
  have hby := Bd.bytes
  have hml : c.maxLocals = 5 := hml0
  have hown : s.vm.findClass "com/example/seshat/seshat/filter/ProbeFnv1aPinLaw" = some m.cls := findClass_of_methodNamed Bd.named
  have hnm := (name_of_methodNamed Bd.named Bd.method).1
  have hlk : meth.locks = false := BodyLoose.notSynchronized Bd
  have X0 : Stand p l e ({ frames := 0, cells := 1, slots := 4, locals := 0 } : Room) s m #[(.int (3 : Int32)), (.int p1), (.int p2), (.int p3), (.int p4)] below meth c s₁ [] 0 0 := Stand.of_body Bd
  have e0 : s₁.heap = h0 := by rw [← hh, Bd.state]; rfl
  have N0 := Fr.nil n0
  have pre0 : Go p e below (s₁.setTop (entryFrame m #[(.int (3 : Int32)), (.int p1), (.int p2), (.int p3), (.int p4)] 5)) (s₁.setTop (mkF m 0 #[.val (.int (3 : Int32)), .val (.int p1), .val (.int p2), .val (.int p3), .val (.int p4)] [])) := fun t k => castTop (ef_2_3 m p1 p2 p3 p4) k
  have pre1 : Go p e below (s₁.setTop (entryFrame m #[(.int (3 : Int32)), (.int p1), (.int p2), (.int p3), (.int p4)] 5)) (s₁.setTop (mkF m 1 #[.val (.int (3 : Int32)), .val (.int p1), .val (.int p2), .val (.int p3), .val (.int p4)] [(.int (3 : Int32))])) := by
    intro t k
    refine pre0 t ?_
    show Steps p.tables e below (s₁.setTop (mkF m 0 #[.val (.int (3 : Int32)), .val (.int p1), .val (.int p2), .val (.int p3), .val (.int p4)] [])) _
    refine XS.iloadN X0.here hx rfl (hb hby d2_0) rfl ?_
    show Steps p.tables e below (s₁.setTop (mkF m 1 #[.val (.int (3 : Int32)), .val (.int p1), .val (.int p2), .val (.int p3), .val (.int p4)] [(.int (3 : Int32))])) _
    exact k
  have pre2 : Go p e below (s₁.setTop (entryFrame m #[(.int (3 : Int32)), (.int p1), (.int p2), (.int p3), (.int p4)] 5)) (s₁.setTop (mkF m 16 #[.val (.int (3 : Int32)), .val (.int p1), .val (.int p2), .val (.int p3), .val (.int p4)] [(.int (1 : Int32)), (.int (3 : Int32))])) := by
    intro t k
    refine pre1 t ?_
    show Steps p.tables e below (s₁.setTop (mkF m 1 #[.val (.int (3 : Int32)), .val (.int p1), .val (.int p2), .val (.int p3), .val (.int p4)] [(.int (3 : Int32))])) _
    refine XS.ifYes X0.here hx rfl (pc0 := 1) (pc' := 14) rfl (hb hby d2_1) rfl (XT.i0_ne_t (by decide : ¬ ((3 : Int32) = (0 : Int32)))) (by decide) (by decide) ?_
    show Steps p.tables e below (s₁.setTop (mkF m 14 #[.val (.int (3 : Int32)), .val (.int p1), .val (.int p2), .val (.int p3), .val (.int p4)] [])) _
    refine XS.iloadN X0.here hx rfl (hb hby d2_14) rfl ?_
    show Steps p.tables e below (s₁.setTop (mkF m 15 #[.val (.int (3 : Int32)), .val (.int p1), .val (.int p2), .val (.int p3), .val (.int p4)] [(.int (3 : Int32))])) _
    refine XS.iconst X0.here hx rfl (hb hby d2_15) ?_
    show Steps p.tables e below (s₁.setTop (mkF m 16 #[.val (.int (3 : Int32)), .val (.int p1), .val (.int p2), .val (.int p3), .val (.int p4)] [(.int (1 : Int32)), (.int (3 : Int32))])) _
    exact k
  have pre3 : Go p e below (s₁.setTop (entryFrame m #[(.int (3 : Int32)), (.int p1), (.int p2), (.int p3), (.int p4)] 5)) (s₁.setTop (mkF m 36 #[.val (.int (3 : Int32)), .val (.int p1), .val (.int p2), .val (.int p3), .val (.int p4)] [(.int (2 : Int32)), (.int (3 : Int32))])) := by
    intro t k
    refine pre2 t ?_
    show Steps p.tables e below (s₁.setTop (mkF m 16 #[.val (.int (3 : Int32)), .val (.int p1), .val (.int p2), .val (.int p3), .val (.int p4)] [(.int (1 : Int32)), (.int (3 : Int32))])) _
    refine XS.icmpYes X0.here hx rfl (pc0 := 16) (pc' := 34) rfl (hb hby d2_16) rfl (XT.ii_ne_t (by decide : ¬ ((3 : Int32) = (1 : Int32)))) (by decide) (by decide) ?_
    show Steps p.tables e below (s₁.setTop (mkF m 34 #[.val (.int (3 : Int32)), .val (.int p1), .val (.int p2), .val (.int p3), .val (.int p4)] [])) _
    refine XS.iloadN X0.here hx rfl (hb hby d2_34) rfl ?_
    show Steps p.tables e below (s₁.setTop (mkF m 35 #[.val (.int (3 : Int32)), .val (.int p1), .val (.int p2), .val (.int p3), .val (.int p4)] [(.int (3 : Int32))])) _
    refine XS.iconst X0.here hx rfl (hb hby d2_35) ?_
    show Steps p.tables e below (s₁.setTop (mkF m 36 #[.val (.int (3 : Int32)), .val (.int p1), .val (.int p2), .val (.int p3), .val (.int p4)] [(.int (2 : Int32)), (.int (3 : Int32))])) _
    exact k
  have pre4 : Go p e below (s₁.setTop (entryFrame m #[(.int (3 : Int32)), (.int p1), (.int p2), (.int p3), (.int p4)] 5)) (s₁.setTop (mkF m 60 #[.val (.int (3 : Int32)), .val (.int p1), .val (.int p2), .val (.int p3), .val (.int p4)] [(.int (4 : Int32))])) := by
    intro t k
    refine pre3 t ?_
    show Steps p.tables e below (s₁.setTop (mkF m 36 #[.val (.int (3 : Int32)), .val (.int p1), .val (.int p2), .val (.int p3), .val (.int p4)] [(.int (2 : Int32)), (.int (3 : Int32))])) _
    refine XS.icmpYes X0.here hx rfl (pc0 := 36) (pc' := 59) rfl (hb hby d2_36) rfl (XT.ii_ne_t (by decide : ¬ ((3 : Int32) = (2 : Int32)))) (by decide) (by decide) ?_
    show Steps p.tables e below (s₁.setTop (mkF m 59 #[.val (.int (3 : Int32)), .val (.int p1), .val (.int p2), .val (.int p3), .val (.int p4)] [])) _
    refine XS.iconst X0.here hx rfl (hb hby d2_59) ?_
    show Steps p.tables e below (s₁.setTop (mkF m 60 #[.val (.int (3 : Int32)), .val (.int p1), .val (.int p2), .val (.int p3), .val (.int p4)] [(.int (4 : Int32))])) _
    exact k
  obtain ⟨T5, h5, k5, X5, e5, E5, A5, st5⟩ := newP X0 hx hZ (hw _ (List.mem_of_getElem? (i := 0) rfl)) e0 (g := (mkF m 60 #[.val (.int (3 : Int32)), .val (.int p1), .val (.int p2), .val (.int p3), .val (.int p4)] [(.int (4 : Int32))])) rfl (hb hby d2_60) rfl (by decide) (cap := 4) (by decide) (by decide) (by decide) (by decide)
  obtain ⟨b5, g5⟩ : ∃ z, z = h0.size := ⟨_, rfl⟩
  rw [← g5] at A5 st5
  have zz6 := (Nat.le_trans Z0 E5.1)
  have K7 := (Keep.refl h0 []).ext E5
  have V_b5 : Arv Z h5 b5 k5 .byte (4 : Int32) [(.int (0 : Int32)), (.int (0 : Int32)), (.int (0 : Int32)), (.int (0 : Int32))] (.int (0 : Int32)) := (Arv.new A5 (by decide)).pad (pad_rep [] (.int (0 : Int32)) 4)
  have g_b5 : n0 ≤ b5 := Nat.le_trans Z0 (Nat.le_of_eq g5.symm)
  have sz_b5 : h0.size ≤ b5 := Nat.le_trans (Keep.refl h0 []).1 (Nat.le_of_eq g5.symm)
  have pre8 : Go p e below (s₁.setTop (entryFrame m #[(.int (3 : Int32)), (.int p1), (.int p2), (.int p3), (.int p4)] 5)) (T5.setTop (mkF m 62 #[.val (.int (3 : Int32)), .val (.int p1), .val (.int p2), .val (.int p3), .val (.int p4)] [(.ref b5)])) := fun t k => pre4 t (st5 t k)
  have pre9 : Go p e below (s₁.setTop (entryFrame m #[(.int (3 : Int32)), (.int p1), (.int p2), (.int p3), (.int p4)] 5)) (T5.setTop (mkF m 66 #[.val (.int (3 : Int32)), .val (.int p1), .val (.int p2), .val (.int p3), .val (.int p4)] [(.int ((p1).toInt8.toInt32)), (.int (0 : Int32)), (.ref b5), (.ref b5)])) := by
    intro t k
    refine pre8 t ?_
    show Steps p.tables e below (T5.setTop (mkF m 62 #[.val (.int (3 : Int32)), .val (.int p1), .val (.int p2), .val (.int p3), .val (.int p4)] [(.ref b5)])) _
    refine XS.dup X5.here hx rfl (hb hby d2_62) rfl rfl ?_
    show Steps p.tables e below (T5.setTop (mkF m 63 #[.val (.int (3 : Int32)), .val (.int p1), .val (.int p2), .val (.int p3), .val (.int p4)] [(.ref b5), (.ref b5)])) _
    refine XS.iconst X5.here hx rfl (hb hby d2_63) ?_
    show Steps p.tables e below (T5.setTop (mkF m 64 #[.val (.int (3 : Int32)), .val (.int p1), .val (.int p2), .val (.int p3), .val (.int p4)] [(.int (0 : Int32)), (.ref b5), (.ref b5)])) _
    refine XS.iloadN X5.here hx rfl (hb hby d2_64) rfl ?_
    show Steps p.tables e below (T5.setTop (mkF m 65 #[.val (.int (3 : Int32)), .val (.int p1), .val (.int p2), .val (.int p3), .val (.int p4)] [(.int p1), (.int (0 : Int32)), (.ref b5), (.ref b5)])) _
    refine XS.i2b X5.here hx rfl (hb hby d2_65) rfl ?_
    show Steps p.tables e below (T5.setTop (mkF m 66 #[.val (.int (3 : Int32)), .val (.int p1), .val (.int p2), .val (.int p3), .val (.int p4)] [(.int ((p1).toInt8.toInt32)), (.int (0 : Int32)), (.ref b5), (.ref b5)])) _
    exact k
  obtain ⟨cl10, Ar10, qq10, SS10, NN10, HH10, GG10⟩ := V_b5
  have hin10 : ¬ ((0 : Int32) < 0 ∨ cl10.slots.size ≤ ((0 : Int32)).toNatClampNeg) := inb_of SS10 ⟨by decide, by decide⟩
  obtain ⟨T10, h10, X10, e10, W10, st10⟩ := stB X5 hx hZ e5 Ar10 (j := (0 : Int32)) hin10 (g := (mkF m 66 #[.val (.int (3 : Int32)), .val (.int p1), .val (.int p2), .val (.int p3), .val (.int p4)] [(.int ((p1).toInt8.toInt32)), (.int (0 : Int32)), (.ref b5), (.ref b5)])) rfl rfl (hb hby d2_66)
  have V10 : Arv Z h10 b5 k5 .byte (4 : Int32) [(.int (nar .byte ((p1).toInt8.toInt32))), (.int (0 : Int32)), (.int (0 : Int32)), (.int (0 : Int32))] (.int (0 : Int32)) := Arv.set Ar10 qq10 SS10 NN10 HH10 GG10 (fits_nar_byte _) W10 0 rfl (Nat.le_of_ble_eq_true rfl)
  have zz11 := (Nat.le_trans zz6 (Keep.of_wr W10).1)
  have K12 := K7.wr W10 (Or.inr sz_b5)
  have N10 := Fr.snoc X10 N0 g_b5
  have pre13 : Go p e below (s₁.setTop (entryFrame m #[(.int (3 : Int32)), (.int p1), (.int p2), (.int p3), (.int p4)] 5)) (T10.setTop (mkF m 67 #[.val (.int (3 : Int32)), .val (.int p1), .val (.int p2), .val (.int p3), .val (.int p4)] [(.ref b5)])) := fun t k => pre9 t (st10 t k)
  have pre14 : Go p e below (s₁.setTop (entryFrame m #[(.int (3 : Int32)), (.int p1), (.int p2), (.int p3), (.int p4)] 5)) (T10.setTop (mkF m 71 #[.val (.int (3 : Int32)), .val (.int p1), .val (.int p2), .val (.int p3), .val (.int p4)] [(.int ((p2).toInt8.toInt32)), (.int (1 : Int32)), (.ref b5), (.ref b5)])) := by
    intro t k
    refine pre13 t ?_
    show Steps p.tables e below (T10.setTop (mkF m 67 #[.val (.int (3 : Int32)), .val (.int p1), .val (.int p2), .val (.int p3), .val (.int p4)] [(.ref b5)])) _
    refine XS.dup X10.here hx rfl (hb hby d2_67) rfl rfl ?_
    show Steps p.tables e below (T10.setTop (mkF m 68 #[.val (.int (3 : Int32)), .val (.int p1), .val (.int p2), .val (.int p3), .val (.int p4)] [(.ref b5), (.ref b5)])) _
    refine XS.iconst X10.here hx rfl (hb hby d2_68) ?_
    show Steps p.tables e below (T10.setTop (mkF m 69 #[.val (.int (3 : Int32)), .val (.int p1), .val (.int p2), .val (.int p3), .val (.int p4)] [(.int (1 : Int32)), (.ref b5), (.ref b5)])) _
    refine XS.iloadN X10.here hx rfl (hb hby d2_69) rfl ?_
    show Steps p.tables e below (T10.setTop (mkF m 70 #[.val (.int (3 : Int32)), .val (.int p1), .val (.int p2), .val (.int p3), .val (.int p4)] [(.int p2), (.int (1 : Int32)), (.ref b5), (.ref b5)])) _
    refine XS.i2b X10.here hx rfl (hb hby d2_70) rfl ?_
    show Steps p.tables e below (T10.setTop (mkF m 71 #[.val (.int (3 : Int32)), .val (.int p1), .val (.int p2), .val (.int p3), .val (.int p4)] [(.int ((p2).toInt8.toInt32)), (.int (1 : Int32)), (.ref b5), (.ref b5)])) _
    exact k
  obtain ⟨cl15, Ar15, qq15, SS15, NN15, HH15, GG15⟩ := V10
  have hin15 : ¬ ((1 : Int32) < 0 ∨ cl15.slots.size ≤ ((1 : Int32)).toNatClampNeg) := inb_of SS15 ⟨by decide, by decide⟩
  obtain ⟨T15, h15, X15, e15, W15, st15⟩ := stB X10 hx hZ e10 Ar15 (j := (1 : Int32)) hin15 (g := (mkF m 71 #[.val (.int (3 : Int32)), .val (.int p1), .val (.int p2), .val (.int p3), .val (.int p4)] [(.int ((p2).toInt8.toInt32)), (.int (1 : Int32)), (.ref b5), (.ref b5)])) rfl rfl (hb hby d2_71)
  have V15 : Arv Z h15 b5 k5 .byte (4 : Int32) [(.int (nar .byte ((p1).toInt8.toInt32))), (.int (nar .byte ((p2).toInt8.toInt32))), (.int (0 : Int32)), (.int (0 : Int32))] (.int (0 : Int32)) := Arv.set Ar15 qq15 SS15 NN15 HH15 GG15 (fits_nar_byte _) W15 1 rfl (Nat.le_of_ble_eq_true rfl)
  have zz16 := (Nat.le_trans zz11 (Keep.of_wr W15).1)
  have K17 := K12.wr W15 (Or.inr sz_b5)
  have N15 := Fr.snoc X15 N10 g_b5
  have pre18 : Go p e below (s₁.setTop (entryFrame m #[(.int (3 : Int32)), (.int p1), (.int p2), (.int p3), (.int p4)] 5)) (T15.setTop (mkF m 72 #[.val (.int (3 : Int32)), .val (.int p1), .val (.int p2), .val (.int p3), .val (.int p4)] [(.ref b5)])) := fun t k => pre14 t (st15 t k)
  have pre19 : Go p e below (s₁.setTop (entryFrame m #[(.int (3 : Int32)), (.int p1), (.int p2), (.int p3), (.int p4)] 5)) (T15.setTop (mkF m 76 #[.val (.int (3 : Int32)), .val (.int p1), .val (.int p2), .val (.int p3), .val (.int p4)] [(.int ((p3).toInt8.toInt32)), (.int (2 : Int32)), (.ref b5), (.ref b5)])) := by
    intro t k
    refine pre18 t ?_
    show Steps p.tables e below (T15.setTop (mkF m 72 #[.val (.int (3 : Int32)), .val (.int p1), .val (.int p2), .val (.int p3), .val (.int p4)] [(.ref b5)])) _
    refine XS.dup X15.here hx rfl (hb hby d2_72) rfl rfl ?_
    show Steps p.tables e below (T15.setTop (mkF m 73 #[.val (.int (3 : Int32)), .val (.int p1), .val (.int p2), .val (.int p3), .val (.int p4)] [(.ref b5), (.ref b5)])) _
    refine XS.iconst X15.here hx rfl (hb hby d2_73) ?_
    show Steps p.tables e below (T15.setTop (mkF m 74 #[.val (.int (3 : Int32)), .val (.int p1), .val (.int p2), .val (.int p3), .val (.int p4)] [(.int (2 : Int32)), (.ref b5), (.ref b5)])) _
    refine XS.iloadN X15.here hx rfl (hb hby d2_74) rfl ?_
    show Steps p.tables e below (T15.setTop (mkF m 75 #[.val (.int (3 : Int32)), .val (.int p1), .val (.int p2), .val (.int p3), .val (.int p4)] [(.int p3), (.int (2 : Int32)), (.ref b5), (.ref b5)])) _
    refine XS.i2b X15.here hx rfl (hb hby d2_75) rfl ?_
    show Steps p.tables e below (T15.setTop (mkF m 76 #[.val (.int (3 : Int32)), .val (.int p1), .val (.int p2), .val (.int p3), .val (.int p4)] [(.int ((p3).toInt8.toInt32)), (.int (2 : Int32)), (.ref b5), (.ref b5)])) _
    exact k
  obtain ⟨cl20, Ar20, qq20, SS20, NN20, HH20, GG20⟩ := V15
  have hin20 : ¬ ((2 : Int32) < 0 ∨ cl20.slots.size ≤ ((2 : Int32)).toNatClampNeg) := inb_of SS20 ⟨by decide, by decide⟩
  obtain ⟨T20, h20, X20, e20, W20, st20⟩ := stB X15 hx hZ e15 Ar20 (j := (2 : Int32)) hin20 (g := (mkF m 76 #[.val (.int (3 : Int32)), .val (.int p1), .val (.int p2), .val (.int p3), .val (.int p4)] [(.int ((p3).toInt8.toInt32)), (.int (2 : Int32)), (.ref b5), (.ref b5)])) rfl rfl (hb hby d2_76)
  have V20 : Arv Z h20 b5 k5 .byte (4 : Int32) [(.int (nar .byte ((p1).toInt8.toInt32))), (.int (nar .byte ((p2).toInt8.toInt32))), (.int (nar .byte ((p3).toInt8.toInt32))), (.int (0 : Int32))] (.int (0 : Int32)) := Arv.set Ar20 qq20 SS20 NN20 HH20 GG20 (fits_nar_byte _) W20 2 rfl (Nat.le_of_ble_eq_true rfl)
  have zz21 := (Nat.le_trans zz16 (Keep.of_wr W20).1)
  have K22 := K17.wr W20 (Or.inr sz_b5)
  have N20 := Fr.snoc X20 N15 g_b5
  have pre23 : Go p e below (s₁.setTop (entryFrame m #[(.int (3 : Int32)), (.int p1), (.int p2), (.int p3), (.int p4)] 5)) (T20.setTop (mkF m 77 #[.val (.int (3 : Int32)), .val (.int p1), .val (.int p2), .val (.int p3), .val (.int p4)] [(.ref b5)])) := fun t k => pre19 t (st20 t k)
  have pre24 : Go p e below (s₁.setTop (entryFrame m #[(.int (3 : Int32)), (.int p1), (.int p2), (.int p3), (.int p4)] 5)) (T20.setTop (mkF m 82 #[.val (.int (3 : Int32)), .val (.int p1), .val (.int p2), .val (.int p3), .val (.int p4)] [(.int ((p4).toInt8.toInt32)), (.int (3 : Int32)), (.ref b5), (.ref b5)])) := by
    intro t k
    refine pre23 t ?_
    show Steps p.tables e below (T20.setTop (mkF m 77 #[.val (.int (3 : Int32)), .val (.int p1), .val (.int p2), .val (.int p3), .val (.int p4)] [(.ref b5)])) _
    refine XS.dup X20.here hx rfl (hb hby d2_77) rfl rfl ?_
    show Steps p.tables e below (T20.setTop (mkF m 78 #[.val (.int (3 : Int32)), .val (.int p1), .val (.int p2), .val (.int p3), .val (.int p4)] [(.ref b5), (.ref b5)])) _
    refine XS.iconst X20.here hx rfl (hb hby d2_78) ?_
    show Steps p.tables e below (T20.setTop (mkF m 79 #[.val (.int (3 : Int32)), .val (.int p1), .val (.int p2), .val (.int p3), .val (.int p4)] [(.int (3 : Int32)), (.ref b5), (.ref b5)])) _
    refine XS.iload X20.here hx rfl (hb hby d2_79) rfl ?_
    show Steps p.tables e below (T20.setTop (mkF m 81 #[.val (.int (3 : Int32)), .val (.int p1), .val (.int p2), .val (.int p3), .val (.int p4)] [(.int p4), (.int (3 : Int32)), (.ref b5), (.ref b5)])) _
    refine XS.i2b X20.here hx rfl (hb hby d2_81) rfl ?_
    show Steps p.tables e below (T20.setTop (mkF m 82 #[.val (.int (3 : Int32)), .val (.int p1), .val (.int p2), .val (.int p3), .val (.int p4)] [(.int ((p4).toInt8.toInt32)), (.int (3 : Int32)), (.ref b5), (.ref b5)])) _
    exact k
  obtain ⟨cl25, Ar25, qq25, SS25, NN25, HH25, GG25⟩ := V20
  have hin25 : ¬ ((3 : Int32) < 0 ∨ cl25.slots.size ≤ ((3 : Int32)).toNatClampNeg) := inb_of SS25 ⟨by decide, by decide⟩
  obtain ⟨T25, h25, X25, e25, W25, st25⟩ := stB X20 hx hZ e20 Ar25 (j := (3 : Int32)) hin25 (g := (mkF m 82 #[.val (.int (3 : Int32)), .val (.int p1), .val (.int p2), .val (.int p3), .val (.int p4)] [(.int ((p4).toInt8.toInt32)), (.int (3 : Int32)), (.ref b5), (.ref b5)])) rfl rfl (hb hby d2_82)
  have V25 : Arv Z h25 b5 k5 .byte (4 : Int32) [(.int (nar .byte ((p1).toInt8.toInt32))), (.int (nar .byte ((p2).toInt8.toInt32))), (.int (nar .byte ((p3).toInt8.toInt32))), (.int (nar .byte ((p4).toInt8.toInt32)))] (.int (0 : Int32)) := Arv.set Ar25 qq25 SS25 NN25 HH25 GG25 (fits_nar_byte _) W25 3 rfl (Nat.le_of_ble_eq_true rfl)
  have zz26 := (Nat.le_trans zz21 (Keep.of_wr W25).1)
  have K27 := K22.wr W25 (Or.inr sz_b5)
  have N25 := Fr.snoc X25 N20 g_b5
  have pre28 : Go p e below (s₁.setTop (entryFrame m #[(.int (3 : Int32)), (.int p1), (.int p2), (.int p3), (.int p4)] 5)) (T25.setTop (mkF m 83 #[.val (.int (3 : Int32)), .val (.int p1), .val (.int p2), .val (.int p3), .val (.int p4)] [(.ref b5)])) := fun t k => pre24 t (st25 t k)
  obtain ⟨fs, hr, hrun, hended, hW, hsame⟩ := X25.leave (hlocks := hlk) (v := some (.ref b5)) (fun h => by rw [Bd.returns] at h; cases h)
  refine ⟨_, _, pre28 _ (retA X25 hx Bd.returns rfl rfl rfl (hb hby d2_83) hr), hrun, hended, _, _, rfl, ?_, ⟨_, rfl⟩, hW, hsame.mono (by decide) (by decide)⟩
  show Q2_3 Z p1 p2 p3 p4 h0 n0 _ T25.heap _
  rw [e25]
  exact ⟨b5, k5, rfl, g_b5, N25, K27, V25⟩
theorem ef_3_0 (m : MethodId) (a1 : Addr) : entryFrame m #[(.ref a1)] 7 = mkF m 0 #[.val (.ref a1), .unset, .unset, .unset, .unset, .unset, .unset] [] := by first | (simp [entryFrame, mkF, argsToLocals, Value.category]; done) | rfl
theorem d3_0 : decode prog_6_method_7_code 0 = .ok (.ldc2_w 46, 3) := by decide +kernel
theorem d3_3 : decode prog_6_method_7_code 3 = .ok (.lstore_n 1, 1) := by decide +kernel
theorem d3_4 : decode prog_6_method_7_code 4 = .ok (.aload_n 0, 1) := by decide +kernel
theorem d3_5 : decode prog_6_method_7_code 5 = .ok (.astore_n 3, 1) := by decide +kernel
theorem d3_6 : decode prog_6_method_7_code 6 = .ok (.aload_n 3, 1) := by decide +kernel
theorem d3_7 : decode prog_6_method_7_code 7 = .ok (.arraylength, 1) := by decide +kernel
theorem d3_8 : decode prog_6_method_7_code 8 = .ok (.istore 4, 2) := by decide +kernel
theorem d3_10 : decode prog_6_method_7_code 10 = .ok (.iconst 0, 1) := by decide +kernel
theorem d3_11 : decode prog_6_method_7_code 11 = .ok (.istore 5, 2) := by decide +kernel
theorem d3_13 : decode prog_6_method_7_code 13 = .ok (.iload 5, 2) := by decide +kernel
theorem d3_15 : decode prog_6_method_7_code 15 = .ok (.iload 4, 2) := by decide +kernel
theorem d3_17 : decode prog_6_method_7_code 17 = .ok (.if_icmp .ge 29, 3) := by decide +kernel
theorem d3_46 : decode prog_6_method_7_code 46 = .ok (.lload_n 1, 1) := by decide +kernel
theorem d3_47 : decode prog_6_method_7_code 47 = .ok (.lreturn, 1) := by decide +kernel
def fnv0  : Int64 := (-3750763034362895579 : Int64)
def Q3_0 (Z : State) (a1 : Addr) (kk : ClassId) (h0 : Heap) (n0 : Nat) (v : Option Value) (h : Heap) (L : List Loc) : Prop := v = some (.long (fnv0 )) ∧ Fr n0 L ∧ h = h0
set_option maxRecDepth 65536 in
set_option maxHeartbeats 40000000 in
theorem pn_com_example_seshat_seshat_filter_Probe : plainName "com/example/seshat/seshat/filter/Probe" = true := by first | (simp [plainName, overriddenIn]; done) | decide +kernel
theorem rm3_0 (l : Launch) (Z : State) (a0 : Array Value) (hw : ∀ d ∈ tables_1, d.before a0 Z = true) (ws : List Jvm.Cond) (a1 : Addr) (kk : ClassId) (h0 : Heap) (n0 : Nat) (Z0 : n0 ≤ h0.size) (V1 : Arv Z h0 a1 kk .byte (0 : Int32) [] (.int (0 : Int32))) :
    MetFree l (⟨"com/example/seshat/seshat/filter/Probe", "fnv1a", "([B)J"⟩ : MethodName) (head1 (Jvm.Cond.code (⟨"com/example/seshat/seshat/filter/Probe", "fnv1a", "([B)J"⟩ : MethodName) prog_6_method_7_code 7 (some .long) :: ws) ({ frames := 0, cells := 0, slots := 0, locals := 0 } : Room)) (fun a U => a = #[(.ref a1)] ∧ Z.Warmed39 U.vm ∧ U.heap = h0) (fun _ _ _ _ _ => True) (fun _ U o U' => ∃ v L, o = .returned v ∧ Q3_0 Z a1 kk h0 n0 v U'.heap L ∧ FrameEnd U o U' L ({ frames := 0, cells := 0, slots := 0, locals := 0 } : Room).cells ({ frames := 0, cells := 0, slots := 0, locals := 0 } : Room).slots) := by
  refine MetFree.of_bodySF (plainFor_of_name pn_com_example_seshat_seshat_filter_Probe) hisR ?_
  intro p e s m args below meth c s₁ Bd hml0 hP hK
  obtain ⟨rfl, hZ, hh⟩ := hP
  have hx := Bd.exec
  have hby := Bd.bytes
  have hml : c.maxLocals = 7 := hml0
  have hown : s.vm.findClass "com/example/seshat/seshat/filter/Probe" = some m.cls := findClass_of_methodNamed Bd.named
  have hnm := (name_of_methodNamed Bd.named Bd.method).1
  have hlk : meth.locks = false := BodyLoose.notSynchronized Bd
  have X0 : Stand p l e ({ frames := 0, cells := 0, slots := 0, locals := 0 } : Room) s m #[(.ref a1)] below meth c s₁ [] 0 0 := Stand.of_body Bd
  have e0 : s₁.heap = h0 := by rw [← hh, Bd.state]; rfl
  have N0 := Fr.nil n0
  have pre0 : Go p e below (s₁.setTop (entryFrame m #[(.ref a1)] 7)) (s₁.setTop (mkF m 0 #[.val (.ref a1), .unset, .unset, .unset, .unset, .unset, .unset] [])) := fun t k => castTop (ef_3_0 m a1) k
  have pre1 : Go p e below (s₁.setTop (entryFrame m #[(.ref a1)] 7)) (s₁.setTop (mkF m 7 #[.val (.ref a1), .val (.long (-3750763034362895579 : Int64)), .second, .val (.ref a1), .unset, .unset, .unset] [(.ref a1)])) := by
    intro t k
    refine pre0 t ?_
    show Steps p.tables e below (s₁.setTop (mkF m 0 #[.val (.ref a1), .unset, .unset, .unset, .unset, .unset, .unset] [])) _
    refine X0.ldc2J hx hown (mvT hZ (hw _ (List.mem_of_getElem? (i := 12) rfl))) (g := (mkF m 0 #[.val (.ref a1), .unset, .unset, .unset, .unset, .unset, .unset] [])) rfl (hb hby d3_0) ?_
    show Steps p.tables e below (s₁.setTop (mkF m 3 #[.val (.ref a1), .unset, .unset, .unset, .unset, .unset, .unset] [(.long (-3750763034362895579 : Int64))])) _
    refine XT.lstoreN X0.here hx rfl (hb hby d3_3) rfl (l' := #[.val (.ref a1), .val (.long (-3750763034362895579 : Int64)), .second, .unset, .unset, .unset, .unset]) rfl ?_
    show Steps p.tables e below (s₁.setTop (mkF m 4 #[.val (.ref a1), .val (.long (-3750763034362895579 : Int64)), .second, .unset, .unset, .unset, .unset] [])) _
    refine XS.aloadN X0.here hx rfl (hb hby d3_4) rfl rfl ?_
    show Steps p.tables e below (s₁.setTop (mkF m 5 #[.val (.ref a1), .val (.long (-3750763034362895579 : Int64)), .second, .unset, .unset, .unset, .unset] [(.ref a1)])) _
    refine XS.astoreN X0.here hx rfl (hb hby d3_5) rfl rfl (l' := #[.val (.ref a1), .val (.long (-3750763034362895579 : Int64)), .second, .val (.ref a1), .unset, .unset, .unset]) rfl ?_
    show Steps p.tables e below (s₁.setTop (mkF m 6 #[.val (.ref a1), .val (.long (-3750763034362895579 : Int64)), .second, .val (.ref a1), .unset, .unset, .unset] [])) _
    refine XS.aloadN X0.here hx rfl (hb hby d3_6) rfl rfl ?_
    show Steps p.tables e below (s₁.setTop (mkF m 7 #[.val (.ref a1), .val (.long (-3750763034362895579 : Int64)), .second, .val (.ref a1), .unset, .unset, .unset] [(.ref a1)])) _
    exact k
  obtain ⟨cl, Ar, -, SS, NN, HH, -⟩ := V1
  have pre2 : Go p e below (s₁.setTop (entryFrame m #[(.ref a1)] 7)) (s₁.setTop (mkF m 17 #[.val (.ref a1), .val (.long (-3750763034362895579 : Int64)), .second, .val (.ref a1), .val (.int (0 : Int32)), .val (.int (0 : Int32)), .unset] [(.int (0 : Int32)), (.int (0 : Int32))])) := by
    intro t k
    refine pre1 t ?_
    show Steps p.tables e below (s₁.setTop (mkF m 7 #[.val (.ref a1), .val (.long (-3750763034362895579 : Int64)), .second, .val (.ref a1), .unset, .unset, .unset] [(.ref a1)])) _
    refine X0.arraylength hx (by rw [e0]; exact Ar.1) (State.isArrayOf_alike hZ.alike Ar.2.1) (g := (mkF m 7 #[.val (.ref a1), .val (.long (-3750763034362895579 : Int64)), .second, .val (.ref a1), .unset, .unset, .unset] [(.ref a1)])) rfl rfl (hb hby d3_7) _ ?_
    rw [len_of SS NN]
    show Steps p.tables e below (s₁.setTop (mkF m 8 #[.val (.ref a1), .val (.long (-3750763034362895579 : Int64)), .second, .val (.ref a1), .unset, .unset, .unset] [(.int (0 : Int32))])) _
    refine XS.istore X0.here hx rfl (hb hby d3_8) rfl (l' := #[.val (.ref a1), .val (.long (-3750763034362895579 : Int64)), .second, .val (.ref a1), .val (.int (0 : Int32)), .unset, .unset]) rfl ?_
    show Steps p.tables e below (s₁.setTop (mkF m 10 #[.val (.ref a1), .val (.long (-3750763034362895579 : Int64)), .second, .val (.ref a1), .val (.int (0 : Int32)), .unset, .unset] [])) _
    refine XS.iconst X0.here hx rfl (hb hby d3_10) ?_
    show Steps p.tables e below (s₁.setTop (mkF m 11 #[.val (.ref a1), .val (.long (-3750763034362895579 : Int64)), .second, .val (.ref a1), .val (.int (0 : Int32)), .unset, .unset] [(.int (0 : Int32))])) _
    refine XS.istore X0.here hx rfl (hb hby d3_11) rfl (l' := #[.val (.ref a1), .val (.long (-3750763034362895579 : Int64)), .second, .val (.ref a1), .val (.int (0 : Int32)), .val (.int (0 : Int32)), .unset]) rfl ?_
    show Steps p.tables e below (s₁.setTop (mkF m 13 #[.val (.ref a1), .val (.long (-3750763034362895579 : Int64)), .second, .val (.ref a1), .val (.int (0 : Int32)), .val (.int (0 : Int32)), .unset] [])) _
    refine XS.iload X0.here hx rfl (hb hby d3_13) rfl ?_
    show Steps p.tables e below (s₁.setTop (mkF m 15 #[.val (.ref a1), .val (.long (-3750763034362895579 : Int64)), .second, .val (.ref a1), .val (.int (0 : Int32)), .val (.int (0 : Int32)), .unset] [(.int (0 : Int32))])) _
    refine XS.iload X0.here hx rfl (hb hby d3_15) rfl ?_
    show Steps p.tables e below (s₁.setTop (mkF m 17 #[.val (.ref a1), .val (.long (-3750763034362895579 : Int64)), .second, .val (.ref a1), .val (.int (0 : Int32)), .val (.int (0 : Int32)), .unset] [(.int (0 : Int32)), (.int (0 : Int32))])) _
    exact k
  have pre3 : Go p e below (s₁.setTop (entryFrame m #[(.ref a1)] 7)) (s₁.setTop (mkF m 47 #[.val (.ref a1), .val (.long (-3750763034362895579 : Int64)), .second, .val (.ref a1), .val (.int (0 : Int32)), .val (.int (0 : Int32)), .unset] [(.long (-3750763034362895579 : Int64))])) := by
    intro t k
    refine pre2 t ?_
    show Steps p.tables e below (s₁.setTop (mkF m 17 #[.val (.ref a1), .val (.long (-3750763034362895579 : Int64)), .second, .val (.ref a1), .val (.int (0 : Int32)), .val (.int (0 : Int32)), .unset] [(.int (0 : Int32)), (.int (0 : Int32))])) _
    refine XS.icmpYes X0.here hx rfl (pc0 := 17) (pc' := 46) rfl (hb hby d3_17) rfl (XT.ii_ge_t (by decide : ¬ ((0 : Int32) < (0 : Int32)))) (by decide) (by decide) ?_
    show Steps p.tables e below (s₁.setTop (mkF m 46 #[.val (.ref a1), .val (.long (-3750763034362895579 : Int64)), .second, .val (.ref a1), .val (.int (0 : Int32)), .val (.int (0 : Int32)), .unset] [])) _
    refine XT.lloadN X0.here hx rfl (hb hby d3_46) rfl ?_
    show Steps p.tables e below (s₁.setTop (mkF m 47 #[.val (.ref a1), .val (.long (-3750763034362895579 : Int64)), .second, .val (.ref a1), .val (.int (0 : Int32)), .val (.int (0 : Int32)), .unset] [(.long (-3750763034362895579 : Int64))])) _
    exact k
  obtain ⟨fs, hr, hrun, hended, hW, hsame⟩ := X0.leave (hlocks := hlk) (v := some (.long (-3750763034362895579 : Int64))) (fun h => by rw [Bd.returns] at h; cases h)
  refine ⟨_, _, pre3 _ (retJ X0 hx Bd.returns (hb hby d3_47) hr), hrun, hended, _, _, rfl, ?_, ⟨_, rfl⟩, hW, hsame.mono (by decide) (by decide)⟩
  show Q3_0 Z a1 kk h0 n0 _ s₁.heap _
  rw [e0]
  exact ⟨congrArg some (congrArg Value.long (show (-3750763034362895579 : Int64) = fnv0  from by rw [fnv0])), N0, rfl⟩
theorem ef_3_1 (m : MethodId) (a1 : Addr) : entryFrame m #[(.ref a1)] 7 = mkF m 0 #[.val (.ref a1), .unset, .unset, .unset, .unset, .unset, .unset] [] := by first | (simp [entryFrame, mkF, argsToLocals, Value.category]; done) | rfl
theorem d3_20 : decode prog_6_method_7_code 20 = .ok (.aload_n 3, 1) := by decide +kernel
theorem d3_21 : decode prog_6_method_7_code 21 = .ok (.iload 5, 2) := by decide +kernel
theorem d3_23 : decode prog_6_method_7_code 23 = .ok (.baload, 1) := by decide +kernel
theorem d3_24 : decode prog_6_method_7_code 24 = .ok (.istore 6, 2) := by decide +kernel
theorem d3_26 : decode prog_6_method_7_code 26 = .ok (.lload_n 1, 1) := by decide +kernel
theorem d3_27 : decode prog_6_method_7_code 27 = .ok (.iload 6, 2) := by decide +kernel
theorem d3_29 : decode prog_6_method_7_code 29 = .ok (.sipush 255, 3) := by decide +kernel
theorem d3_32 : decode prog_6_method_7_code 32 = .ok (.iand, 1) := by decide +kernel
theorem d3_33 : decode prog_6_method_7_code 33 = .ok (.i2l, 1) := by decide +kernel
theorem d3_34 : decode prog_6_method_7_code 34 = .ok (.lxor, 1) := by decide +kernel
theorem d3_35 : decode prog_6_method_7_code 35 = .ok (.ldc2_w 48, 3) := by decide +kernel
theorem d3_38 : decode prog_6_method_7_code 38 = .ok (.lmul, 1) := by decide +kernel
theorem d3_39 : decode prog_6_method_7_code 39 = .ok (.lstore_n 1, 1) := by decide +kernel
theorem d3_40 : decode prog_6_method_7_code 40 = .ok (.iinc 5 1, 3) := by decide +kernel
theorem d3_43 : decode prog_6_method_7_code 43 = .ok (.goto (-30), 3) := by decide +kernel
def fnv1 (w0 : Int32) : Int64 := (((-3750763034362895579 : Int64) ^^^ (((w0 &&& (255 : Int32))).toInt64)) * (1099511628211 : Int64))
def Q3_1 (Z : State) (a1 : Addr) (kk : ClassId) (w0 : Int32) (h0 : Heap) (n0 : Nat) (v : Option Value) (h : Heap) (L : List Loc) : Prop := v = some (.long (fnv1 w0)) ∧ Fr n0 L ∧ h = h0
set_option maxRecDepth 65536 in
set_option maxHeartbeats 40000000 in
theorem rm3_1 (l : Launch) (Z : State) (a0 : Array Value) (hw : ∀ d ∈ tables_1, d.before a0 Z = true) (ws : List Jvm.Cond) (a1 : Addr) (kk : ClassId) (w0 : Int32) (h0 : Heap) (n0 : Nat) (Z0 : n0 ≤ h0.size) (V1 : Arv Z h0 a1 kk .byte (1 : Int32) [(.int w0)] (.int (0 : Int32))) :
    MetFree l (⟨"com/example/seshat/seshat/filter/Probe", "fnv1a", "([B)J"⟩ : MethodName) (head1 (Jvm.Cond.code (⟨"com/example/seshat/seshat/filter/Probe", "fnv1a", "([B)J"⟩ : MethodName) prog_6_method_7_code 7 (some .long) :: ws) ({ frames := 0, cells := 0, slots := 0, locals := 0 } : Room)) (fun a U => a = #[(.ref a1)] ∧ Z.Warmed39 U.vm ∧ U.heap = h0) (fun _ _ _ _ _ => True) (fun _ U o U' => ∃ v L, o = .returned v ∧ Q3_1 Z a1 kk w0 h0 n0 v U'.heap L ∧ FrameEnd U o U' L ({ frames := 0, cells := 0, slots := 0, locals := 0 } : Room).cells ({ frames := 0, cells := 0, slots := 0, locals := 0 } : Room).slots) := by
  refine MetFree.of_bodySF (plainFor_of_name pn_com_example_seshat_seshat_filter_Probe) hisR ?_
  intro p e s m args below meth c s₁ Bd hml0 hP hK
  obtain ⟨rfl, hZ, hh⟩ := hP
  have hx := Bd.exec
  have hby := Bd.bytes
  have hml : c.maxLocals = 7 := hml0
  have hown : s.vm.findClass "com/example/seshat/seshat/filter/Probe" = some m.cls := findClass_of_methodNamed Bd.named
  have hnm := (name_of_methodNamed Bd.named Bd.method).1
  have hlk : meth.locks = false := BodyLoose.notSynchronized Bd
  have X0 : Stand p l e ({ frames := 0, cells := 0, slots := 0, locals := 0 } : Room) s m #[(.ref a1)] below meth c s₁ [] 0 0 := Stand.of_body Bd
  have e0 : s₁.heap = h0 := by rw [← hh, Bd.state]; rfl
  have N0 := Fr.nil n0
  have pre0 : Go p e below (s₁.setTop (entryFrame m #[(.ref a1)] 7)) (s₁.setTop (mkF m 0 #[.val (.ref a1), .unset, .unset, .unset, .unset, .unset, .unset] [])) := fun t k => castTop (ef_3_1 m a1) k
  have pre1 : Go p e below (s₁.setTop (entryFrame m #[(.ref a1)] 7)) (s₁.setTop (mkF m 7 #[.val (.ref a1), .val (.long (-3750763034362895579 : Int64)), .second, .val (.ref a1), .unset, .unset, .unset] [(.ref a1)])) := by
    intro t k
    refine pre0 t ?_
    show Steps p.tables e below (s₁.setTop (mkF m 0 #[.val (.ref a1), .unset, .unset, .unset, .unset, .unset, .unset] [])) _
    refine X0.ldc2J hx hown (mvT hZ (hw _ (List.mem_of_getElem? (i := 12) rfl))) (g := (mkF m 0 #[.val (.ref a1), .unset, .unset, .unset, .unset, .unset, .unset] [])) rfl (hb hby d3_0) ?_
    show Steps p.tables e below (s₁.setTop (mkF m 3 #[.val (.ref a1), .unset, .unset, .unset, .unset, .unset, .unset] [(.long (-3750763034362895579 : Int64))])) _
    refine XT.lstoreN X0.here hx rfl (hb hby d3_3) rfl (l' := #[.val (.ref a1), .val (.long (-3750763034362895579 : Int64)), .second, .unset, .unset, .unset, .unset]) rfl ?_
    show Steps p.tables e below (s₁.setTop (mkF m 4 #[.val (.ref a1), .val (.long (-3750763034362895579 : Int64)), .second, .unset, .unset, .unset, .unset] [])) _
    refine XS.aloadN X0.here hx rfl (hb hby d3_4) rfl rfl ?_
    show Steps p.tables e below (s₁.setTop (mkF m 5 #[.val (.ref a1), .val (.long (-3750763034362895579 : Int64)), .second, .unset, .unset, .unset, .unset] [(.ref a1)])) _
    refine XS.astoreN X0.here hx rfl (hb hby d3_5) rfl rfl (l' := #[.val (.ref a1), .val (.long (-3750763034362895579 : Int64)), .second, .val (.ref a1), .unset, .unset, .unset]) rfl ?_
    show Steps p.tables e below (s₁.setTop (mkF m 6 #[.val (.ref a1), .val (.long (-3750763034362895579 : Int64)), .second, .val (.ref a1), .unset, .unset, .unset] [])) _
    refine XS.aloadN X0.here hx rfl (hb hby d3_6) rfl rfl ?_
    show Steps p.tables e below (s₁.setTop (mkF m 7 #[.val (.ref a1), .val (.long (-3750763034362895579 : Int64)), .second, .val (.ref a1), .unset, .unset, .unset] [(.ref a1)])) _
    exact k
  obtain ⟨cl, Ar, -, SS, NN, HH, -⟩ := V1
  have pre2 : Go p e below (s₁.setTop (entryFrame m #[(.ref a1)] 7)) (s₁.setTop (mkF m 17 #[.val (.ref a1), .val (.long (-3750763034362895579 : Int64)), .second, .val (.ref a1), .val (.int (1 : Int32)), .val (.int (0 : Int32)), .unset] [(.int (1 : Int32)), (.int (0 : Int32))])) := by
    intro t k
    refine pre1 t ?_
    show Steps p.tables e below (s₁.setTop (mkF m 7 #[.val (.ref a1), .val (.long (-3750763034362895579 : Int64)), .second, .val (.ref a1), .unset, .unset, .unset] [(.ref a1)])) _
    refine X0.arraylength hx (by rw [e0]; exact Ar.1) (State.isArrayOf_alike hZ.alike Ar.2.1) (g := (mkF m 7 #[.val (.ref a1), .val (.long (-3750763034362895579 : Int64)), .second, .val (.ref a1), .unset, .unset, .unset] [(.ref a1)])) rfl rfl (hb hby d3_7) _ ?_
    rw [len_of SS NN]
    show Steps p.tables e below (s₁.setTop (mkF m 8 #[.val (.ref a1), .val (.long (-3750763034362895579 : Int64)), .second, .val (.ref a1), .unset, .unset, .unset] [(.int (1 : Int32))])) _
    refine XS.istore X0.here hx rfl (hb hby d3_8) rfl (l' := #[.val (.ref a1), .val (.long (-3750763034362895579 : Int64)), .second, .val (.ref a1), .val (.int (1 : Int32)), .unset, .unset]) rfl ?_
    show Steps p.tables e below (s₁.setTop (mkF m 10 #[.val (.ref a1), .val (.long (-3750763034362895579 : Int64)), .second, .val (.ref a1), .val (.int (1 : Int32)), .unset, .unset] [])) _
    refine XS.iconst X0.here hx rfl (hb hby d3_10) ?_
    show Steps p.tables e below (s₁.setTop (mkF m 11 #[.val (.ref a1), .val (.long (-3750763034362895579 : Int64)), .second, .val (.ref a1), .val (.int (1 : Int32)), .unset, .unset] [(.int (0 : Int32))])) _
    refine XS.istore X0.here hx rfl (hb hby d3_11) rfl (l' := #[.val (.ref a1), .val (.long (-3750763034362895579 : Int64)), .second, .val (.ref a1), .val (.int (1 : Int32)), .val (.int (0 : Int32)), .unset]) rfl ?_
    show Steps p.tables e below (s₁.setTop (mkF m 13 #[.val (.ref a1), .val (.long (-3750763034362895579 : Int64)), .second, .val (.ref a1), .val (.int (1 : Int32)), .val (.int (0 : Int32)), .unset] [])) _
    refine XS.iload X0.here hx rfl (hb hby d3_13) rfl ?_
    show Steps p.tables e below (s₁.setTop (mkF m 15 #[.val (.ref a1), .val (.long (-3750763034362895579 : Int64)), .second, .val (.ref a1), .val (.int (1 : Int32)), .val (.int (0 : Int32)), .unset] [(.int (0 : Int32))])) _
    refine XS.iload X0.here hx rfl (hb hby d3_15) rfl ?_
    show Steps p.tables e below (s₁.setTop (mkF m 17 #[.val (.ref a1), .val (.long (-3750763034362895579 : Int64)), .second, .val (.ref a1), .val (.int (1 : Int32)), .val (.int (0 : Int32)), .unset] [(.int (1 : Int32)), (.int (0 : Int32))])) _
    exact k
  have pre3 : Go p e below (s₁.setTop (entryFrame m #[(.ref a1)] 7)) (s₁.setTop (mkF m 17 #[.val (.ref a1), .val (.long (((-3750763034362895579 : Int64) ^^^ (((w0 &&& (255 : Int32))).toInt64)) * (1099511628211 : Int64))), .second, .val (.ref a1), .val (.int (1 : Int32)), .val (.int (1 : Int32)), .val (.int w0)] [(.int (1 : Int32)), (.int (1 : Int32))])) := by
    intro t k
    refine pre2 t ?_
    show Steps p.tables e below (s₁.setTop (mkF m 17 #[.val (.ref a1), .val (.long (-3750763034362895579 : Int64)), .second, .val (.ref a1), .val (.int (1 : Int32)), .val (.int (0 : Int32)), .unset] [(.int (1 : Int32)), (.int (0 : Int32))])) _
    refine XS.icmpNo X0.here hx rfl (hb hby d3_17) rfl (XT.ii_ge_f (by decide : (0 : Int32) < (1 : Int32))) ?_
    show Steps p.tables e below (s₁.setTop (mkF m 20 #[.val (.ref a1), .val (.long (-3750763034362895579 : Int64)), .second, .val (.ref a1), .val (.int (1 : Int32)), .val (.int (0 : Int32)), .unset] [])) _
    refine XS.aloadN X0.here hx rfl (hb hby d3_20) rfl rfl ?_
    show Steps p.tables e below (s₁.setTop (mkF m 21 #[.val (.ref a1), .val (.long (-3750763034362895579 : Int64)), .second, .val (.ref a1), .val (.int (1 : Int32)), .val (.int (0 : Int32)), .unset] [(.ref a1)])) _
    refine XS.iload X0.here hx rfl (hb hby d3_21) rfl ?_
    show Steps p.tables e below (s₁.setTop (mkF m 23 #[.val (.ref a1), .val (.long (-3750763034362895579 : Int64)), .second, .val (.ref a1), .val (.int (1 : Int32)), .val (.int (0 : Int32)), .unset] [(.int (0 : Int32)), (.ref a1)])) _
    refine X0.baloadBytes hx (j := (0 : Int32)) (v := (.int w0)) (by rw [e0]; exact Ar.1) (State.isArrayOf_alike hZ.alike Ar.2.1) Ar.2.2 (inb_of SS ⟨by decide, by decide⟩) (HH.at (inb_of SS ⟨by decide, by decide⟩) rfl) (g := (mkF m 23 #[.val (.ref a1), .val (.long (-3750763034362895579 : Int64)), .second, .val (.ref a1), .val (.int (1 : Int32)), .val (.int (0 : Int32)), .unset] [(.int (0 : Int32)), (.ref a1)])) rfl rfl (hb hby d3_23) _ ?_
    show Steps p.tables e below (s₁.setTop (mkF m 24 #[.val (.ref a1), .val (.long (-3750763034362895579 : Int64)), .second, .val (.ref a1), .val (.int (1 : Int32)), .val (.int (0 : Int32)), .unset] [(.int w0)])) _
    refine XS.istore X0.here hx rfl (hb hby d3_24) rfl (l' := #[.val (.ref a1), .val (.long (-3750763034362895579 : Int64)), .second, .val (.ref a1), .val (.int (1 : Int32)), .val (.int (0 : Int32)), .val (.int w0)]) rfl ?_
    show Steps p.tables e below (s₁.setTop (mkF m 26 #[.val (.ref a1), .val (.long (-3750763034362895579 : Int64)), .second, .val (.ref a1), .val (.int (1 : Int32)), .val (.int (0 : Int32)), .val (.int w0)] [])) _
    refine XT.lloadN X0.here hx rfl (hb hby d3_26) rfl ?_
    show Steps p.tables e below (s₁.setTop (mkF m 27 #[.val (.ref a1), .val (.long (-3750763034362895579 : Int64)), .second, .val (.ref a1), .val (.int (1 : Int32)), .val (.int (0 : Int32)), .val (.int w0)] [(.long (-3750763034362895579 : Int64))])) _
    refine XS.iload X0.here hx rfl (hb hby d3_27) rfl ?_
    show Steps p.tables e below (s₁.setTop (mkF m 29 #[.val (.ref a1), .val (.long (-3750763034362895579 : Int64)), .second, .val (.ref a1), .val (.int (1 : Int32)), .val (.int (0 : Int32)), .val (.int w0)] [(.int w0), (.long (-3750763034362895579 : Int64))])) _
    refine XS.sipush X0.here hx rfl (hb hby d3_29) ?_
    show Steps p.tables e below (s₁.setTop (mkF m 32 #[.val (.ref a1), .val (.long (-3750763034362895579 : Int64)), .second, .val (.ref a1), .val (.int (1 : Int32)), .val (.int (0 : Int32)), .val (.int w0)] [(.int (255 : Int32)), (.int w0), (.long (-3750763034362895579 : Int64))])) _
    refine XS.iand X0.here hx rfl (hb hby d3_32) rfl ?_
    show Steps p.tables e below (s₁.setTop (mkF m 33 #[.val (.ref a1), .val (.long (-3750763034362895579 : Int64)), .second, .val (.ref a1), .val (.int (1 : Int32)), .val (.int (0 : Int32)), .val (.int w0)] [(.int (w0 &&& (255 : Int32))), (.long (-3750763034362895579 : Int64))])) _
    refine XS.i2l X0.here hx rfl (hb hby d3_33) rfl ?_
    show Steps p.tables e below (s₁.setTop (mkF m 34 #[.val (.ref a1), .val (.long (-3750763034362895579 : Int64)), .second, .val (.ref a1), .val (.int (1 : Int32)), .val (.int (0 : Int32)), .val (.int w0)] [(.long (((w0 &&& (255 : Int32))).toInt64)), (.long (-3750763034362895579 : Int64))])) _
    refine XS.lxor X0.here hx rfl (hb hby d3_34) rfl ?_
    show Steps p.tables e below (s₁.setTop (mkF m 35 #[.val (.ref a1), .val (.long (-3750763034362895579 : Int64)), .second, .val (.ref a1), .val (.int (1 : Int32)), .val (.int (0 : Int32)), .val (.int w0)] [(.long ((-3750763034362895579 : Int64) ^^^ (((w0 &&& (255 : Int32))).toInt64)))])) _
    refine X0.ldc2J hx hown (mvT hZ (hw _ (List.mem_of_getElem? (i := 13) rfl))) (g := (mkF m 35 #[.val (.ref a1), .val (.long (-3750763034362895579 : Int64)), .second, .val (.ref a1), .val (.int (1 : Int32)), .val (.int (0 : Int32)), .val (.int w0)] [(.long ((-3750763034362895579 : Int64) ^^^ (((w0 &&& (255 : Int32))).toInt64)))])) rfl (hb hby d3_35) ?_
    show Steps p.tables e below (s₁.setTop (mkF m 38 #[.val (.ref a1), .val (.long (-3750763034362895579 : Int64)), .second, .val (.ref a1), .val (.int (1 : Int32)), .val (.int (0 : Int32)), .val (.int w0)] [(.long (1099511628211 : Int64)), (.long ((-3750763034362895579 : Int64) ^^^ (((w0 &&& (255 : Int32))).toInt64)))])) _
    refine XS.lmul X0.here hx rfl (hb hby d3_38) rfl ?_
    show Steps p.tables e below (s₁.setTop (mkF m 39 #[.val (.ref a1), .val (.long (-3750763034362895579 : Int64)), .second, .val (.ref a1), .val (.int (1 : Int32)), .val (.int (0 : Int32)), .val (.int w0)] [(.long (((-3750763034362895579 : Int64) ^^^ (((w0 &&& (255 : Int32))).toInt64)) * (1099511628211 : Int64)))])) _
    refine XT.lstoreN X0.here hx rfl (hb hby d3_39) rfl (l' := #[.val (.ref a1), .val (.long (((-3750763034362895579 : Int64) ^^^ (((w0 &&& (255 : Int32))).toInt64)) * (1099511628211 : Int64))), .second, .val (.ref a1), .val (.int (1 : Int32)), .val (.int (0 : Int32)), .val (.int w0)]) rfl ?_
    show Steps p.tables e below (s₁.setTop (mkF m 40 #[.val (.ref a1), .val (.long (((-3750763034362895579 : Int64) ^^^ (((w0 &&& (255 : Int32))).toInt64)) * (1099511628211 : Int64))), .second, .val (.ref a1), .val (.int (1 : Int32)), .val (.int (0 : Int32)), .val (.int w0)] [])) _
    refine XS.iinc X0.here hx rfl (hb hby d3_40) rfl (l' := #[.val (.ref a1), .val (.long (((-3750763034362895579 : Int64) ^^^ (((w0 &&& (255 : Int32))).toInt64)) * (1099511628211 : Int64))), .second, .val (.ref a1), .val (.int (1 : Int32)), .val (.int (1 : Int32)), .val (.int w0)]) rfl ?_
    show Steps p.tables e below (s₁.setTop (mkF m 43 #[.val (.ref a1), .val (.long (((-3750763034362895579 : Int64) ^^^ (((w0 &&& (255 : Int32))).toInt64)) * (1099511628211 : Int64))), .second, .val (.ref a1), .val (.int (1 : Int32)), .val (.int (1 : Int32)), .val (.int w0)] [])) _
    refine XS.goto X0.here hx rfl (pc0 := 43) (pc' := 13) rfl (hb hby d3_43) (by decide) (by decide) ?_
    show Steps p.tables e below (s₁.setTop (mkF m 13 #[.val (.ref a1), .val (.long (((-3750763034362895579 : Int64) ^^^ (((w0 &&& (255 : Int32))).toInt64)) * (1099511628211 : Int64))), .second, .val (.ref a1), .val (.int (1 : Int32)), .val (.int (1 : Int32)), .val (.int w0)] [])) _
    refine XS.iload X0.here hx rfl (hb hby d3_13) rfl ?_
    show Steps p.tables e below (s₁.setTop (mkF m 15 #[.val (.ref a1), .val (.long (((-3750763034362895579 : Int64) ^^^ (((w0 &&& (255 : Int32))).toInt64)) * (1099511628211 : Int64))), .second, .val (.ref a1), .val (.int (1 : Int32)), .val (.int (1 : Int32)), .val (.int w0)] [(.int (1 : Int32))])) _
    refine XS.iload X0.here hx rfl (hb hby d3_15) rfl ?_
    show Steps p.tables e below (s₁.setTop (mkF m 17 #[.val (.ref a1), .val (.long (((-3750763034362895579 : Int64) ^^^ (((w0 &&& (255 : Int32))).toInt64)) * (1099511628211 : Int64))), .second, .val (.ref a1), .val (.int (1 : Int32)), .val (.int (1 : Int32)), .val (.int w0)] [(.int (1 : Int32)), (.int (1 : Int32))])) _
    exact k
  have pre4 : Go p e below (s₁.setTop (entryFrame m #[(.ref a1)] 7)) (s₁.setTop (mkF m 47 #[.val (.ref a1), .val (.long (((-3750763034362895579 : Int64) ^^^ (((w0 &&& (255 : Int32))).toInt64)) * (1099511628211 : Int64))), .second, .val (.ref a1), .val (.int (1 : Int32)), .val (.int (1 : Int32)), .val (.int w0)] [(.long (((-3750763034362895579 : Int64) ^^^ (((w0 &&& (255 : Int32))).toInt64)) * (1099511628211 : Int64)))])) := by
    intro t k
    refine pre3 t ?_
    show Steps p.tables e below (s₁.setTop (mkF m 17 #[.val (.ref a1), .val (.long (((-3750763034362895579 : Int64) ^^^ (((w0 &&& (255 : Int32))).toInt64)) * (1099511628211 : Int64))), .second, .val (.ref a1), .val (.int (1 : Int32)), .val (.int (1 : Int32)), .val (.int w0)] [(.int (1 : Int32)), (.int (1 : Int32))])) _
    refine XS.icmpYes X0.here hx rfl (pc0 := 17) (pc' := 46) rfl (hb hby d3_17) rfl (XT.ii_ge_t (by decide : ¬ ((1 : Int32) < (1 : Int32)))) (by decide) (by decide) ?_
    show Steps p.tables e below (s₁.setTop (mkF m 46 #[.val (.ref a1), .val (.long (((-3750763034362895579 : Int64) ^^^ (((w0 &&& (255 : Int32))).toInt64)) * (1099511628211 : Int64))), .second, .val (.ref a1), .val (.int (1 : Int32)), .val (.int (1 : Int32)), .val (.int w0)] [])) _
    refine XT.lloadN X0.here hx rfl (hb hby d3_46) rfl ?_
    show Steps p.tables e below (s₁.setTop (mkF m 47 #[.val (.ref a1), .val (.long (((-3750763034362895579 : Int64) ^^^ (((w0 &&& (255 : Int32))).toInt64)) * (1099511628211 : Int64))), .second, .val (.ref a1), .val (.int (1 : Int32)), .val (.int (1 : Int32)), .val (.int w0)] [(.long (((-3750763034362895579 : Int64) ^^^ (((w0 &&& (255 : Int32))).toInt64)) * (1099511628211 : Int64)))])) _
    exact k
  obtain ⟨fs, hr, hrun, hended, hW, hsame⟩ := X0.leave (hlocks := hlk) (v := some (.long (((-3750763034362895579 : Int64) ^^^ (((w0 &&& (255 : Int32))).toInt64)) * (1099511628211 : Int64)))) (fun h => by rw [Bd.returns] at h; cases h)
  refine ⟨_, _, pre4 _ (retJ X0 hx Bd.returns (hb hby d3_47) hr), hrun, hended, _, _, rfl, ?_, ⟨_, rfl⟩, hW, hsame.mono (by decide) (by decide)⟩
  show Q3_1 Z a1 kk w0 h0 n0 _ s₁.heap _
  rw [e0]
  exact ⟨congrArg some (congrArg Value.long (show (((-3750763034362895579 : Int64) ^^^ (((w0 &&& (255 : Int32))).toInt64)) * (1099511628211 : Int64)) = fnv1 w0 from by rw [fnv1])), N0, rfl⟩
theorem ef_3_2 (m : MethodId) (a1 : Addr) : entryFrame m #[(.ref a1)] 7 = mkF m 0 #[.val (.ref a1), .unset, .unset, .unset, .unset, .unset, .unset] [] := by first | (simp [entryFrame, mkF, argsToLocals, Value.category]; done) | rfl
def fnv2 (w0 : Int32) (w1 : Int32) : Int64 := (((((-3750763034362895579 : Int64) ^^^ (((w0 &&& (255 : Int32))).toInt64)) * (1099511628211 : Int64)) ^^^ (((w1 &&& (255 : Int32))).toInt64)) * (1099511628211 : Int64))
def Q3_2 (Z : State) (a1 : Addr) (kk : ClassId) (w0 : Int32) (w1 : Int32) (h0 : Heap) (n0 : Nat) (v : Option Value) (h : Heap) (L : List Loc) : Prop := v = some (.long (fnv2 w0 w1)) ∧ Fr n0 L ∧ h = h0
set_option maxRecDepth 65536 in
set_option maxHeartbeats 40000000 in
theorem rm3_2 (l : Launch) (Z : State) (a0 : Array Value) (hw : ∀ d ∈ tables_1, d.before a0 Z = true) (ws : List Jvm.Cond) (a1 : Addr) (kk : ClassId) (w0 : Int32) (w1 : Int32) (h0 : Heap) (n0 : Nat) (Z0 : n0 ≤ h0.size) (V1 : Arv Z h0 a1 kk .byte (2 : Int32) [(.int w0), (.int w1)] (.int (0 : Int32))) :
    MetFree l (⟨"com/example/seshat/seshat/filter/Probe", "fnv1a", "([B)J"⟩ : MethodName) (head1 (Jvm.Cond.code (⟨"com/example/seshat/seshat/filter/Probe", "fnv1a", "([B)J"⟩ : MethodName) prog_6_method_7_code 7 (some .long) :: ws) ({ frames := 0, cells := 0, slots := 0, locals := 0 } : Room)) (fun a U => a = #[(.ref a1)] ∧ Z.Warmed39 U.vm ∧ U.heap = h0) (fun _ _ _ _ _ => True) (fun _ U o U' => ∃ v L, o = .returned v ∧ Q3_2 Z a1 kk w0 w1 h0 n0 v U'.heap L ∧ FrameEnd U o U' L ({ frames := 0, cells := 0, slots := 0, locals := 0 } : Room).cells ({ frames := 0, cells := 0, slots := 0, locals := 0 } : Room).slots) := by
  refine MetFree.of_bodySF (plainFor_of_name pn_com_example_seshat_seshat_filter_Probe) hisR ?_
  intro p e s m args below meth c s₁ Bd hml0 hP hK
  obtain ⟨rfl, hZ, hh⟩ := hP
  have hx := Bd.exec
  have hby := Bd.bytes
  have hml : c.maxLocals = 7 := hml0
  have hown : s.vm.findClass "com/example/seshat/seshat/filter/Probe" = some m.cls := findClass_of_methodNamed Bd.named
  have hnm := (name_of_methodNamed Bd.named Bd.method).1
  have hlk : meth.locks = false := BodyLoose.notSynchronized Bd
  have X0 : Stand p l e ({ frames := 0, cells := 0, slots := 0, locals := 0 } : Room) s m #[(.ref a1)] below meth c s₁ [] 0 0 := Stand.of_body Bd
  have e0 : s₁.heap = h0 := by rw [← hh, Bd.state]; rfl
  have N0 := Fr.nil n0
  have pre0 : Go p e below (s₁.setTop (entryFrame m #[(.ref a1)] 7)) (s₁.setTop (mkF m 0 #[.val (.ref a1), .unset, .unset, .unset, .unset, .unset, .unset] [])) := fun t k => castTop (ef_3_2 m a1) k
  have pre1 : Go p e below (s₁.setTop (entryFrame m #[(.ref a1)] 7)) (s₁.setTop (mkF m 7 #[.val (.ref a1), .val (.long (-3750763034362895579 : Int64)), .second, .val (.ref a1), .unset, .unset, .unset] [(.ref a1)])) := by
    intro t k
    refine pre0 t ?_
    show Steps p.tables e below (s₁.setTop (mkF m 0 #[.val (.ref a1), .unset, .unset, .unset, .unset, .unset, .unset] [])) _
    refine X0.ldc2J hx hown (mvT hZ (hw _ (List.mem_of_getElem? (i := 12) rfl))) (g := (mkF m 0 #[.val (.ref a1), .unset, .unset, .unset, .unset, .unset, .unset] [])) rfl (hb hby d3_0) ?_
    show Steps p.tables e below (s₁.setTop (mkF m 3 #[.val (.ref a1), .unset, .unset, .unset, .unset, .unset, .unset] [(.long (-3750763034362895579 : Int64))])) _
    refine XT.lstoreN X0.here hx rfl (hb hby d3_3) rfl (l' := #[.val (.ref a1), .val (.long (-3750763034362895579 : Int64)), .second, .unset, .unset, .unset, .unset]) rfl ?_
    show Steps p.tables e below (s₁.setTop (mkF m 4 #[.val (.ref a1), .val (.long (-3750763034362895579 : Int64)), .second, .unset, .unset, .unset, .unset] [])) _
    refine XS.aloadN X0.here hx rfl (hb hby d3_4) rfl rfl ?_
    show Steps p.tables e below (s₁.setTop (mkF m 5 #[.val (.ref a1), .val (.long (-3750763034362895579 : Int64)), .second, .unset, .unset, .unset, .unset] [(.ref a1)])) _
    refine XS.astoreN X0.here hx rfl (hb hby d3_5) rfl rfl (l' := #[.val (.ref a1), .val (.long (-3750763034362895579 : Int64)), .second, .val (.ref a1), .unset, .unset, .unset]) rfl ?_
    show Steps p.tables e below (s₁.setTop (mkF m 6 #[.val (.ref a1), .val (.long (-3750763034362895579 : Int64)), .second, .val (.ref a1), .unset, .unset, .unset] [])) _
    refine XS.aloadN X0.here hx rfl (hb hby d3_6) rfl rfl ?_
    show Steps p.tables e below (s₁.setTop (mkF m 7 #[.val (.ref a1), .val (.long (-3750763034362895579 : Int64)), .second, .val (.ref a1), .unset, .unset, .unset] [(.ref a1)])) _
    exact k
  obtain ⟨cl, Ar, -, SS, NN, HH, -⟩ := V1
  have pre2 : Go p e below (s₁.setTop (entryFrame m #[(.ref a1)] 7)) (s₁.setTop (mkF m 17 #[.val (.ref a1), .val (.long (-3750763034362895579 : Int64)), .second, .val (.ref a1), .val (.int (2 : Int32)), .val (.int (0 : Int32)), .unset] [(.int (2 : Int32)), (.int (0 : Int32))])) := by
    intro t k
    refine pre1 t ?_
    show Steps p.tables e below (s₁.setTop (mkF m 7 #[.val (.ref a1), .val (.long (-3750763034362895579 : Int64)), .second, .val (.ref a1), .unset, .unset, .unset] [(.ref a1)])) _
    refine X0.arraylength hx (by rw [e0]; exact Ar.1) (State.isArrayOf_alike hZ.alike Ar.2.1) (g := (mkF m 7 #[.val (.ref a1), .val (.long (-3750763034362895579 : Int64)), .second, .val (.ref a1), .unset, .unset, .unset] [(.ref a1)])) rfl rfl (hb hby d3_7) _ ?_
    rw [len_of SS NN]
    show Steps p.tables e below (s₁.setTop (mkF m 8 #[.val (.ref a1), .val (.long (-3750763034362895579 : Int64)), .second, .val (.ref a1), .unset, .unset, .unset] [(.int (2 : Int32))])) _
    refine XS.istore X0.here hx rfl (hb hby d3_8) rfl (l' := #[.val (.ref a1), .val (.long (-3750763034362895579 : Int64)), .second, .val (.ref a1), .val (.int (2 : Int32)), .unset, .unset]) rfl ?_
    show Steps p.tables e below (s₁.setTop (mkF m 10 #[.val (.ref a1), .val (.long (-3750763034362895579 : Int64)), .second, .val (.ref a1), .val (.int (2 : Int32)), .unset, .unset] [])) _
    refine XS.iconst X0.here hx rfl (hb hby d3_10) ?_
    show Steps p.tables e below (s₁.setTop (mkF m 11 #[.val (.ref a1), .val (.long (-3750763034362895579 : Int64)), .second, .val (.ref a1), .val (.int (2 : Int32)), .unset, .unset] [(.int (0 : Int32))])) _
    refine XS.istore X0.here hx rfl (hb hby d3_11) rfl (l' := #[.val (.ref a1), .val (.long (-3750763034362895579 : Int64)), .second, .val (.ref a1), .val (.int (2 : Int32)), .val (.int (0 : Int32)), .unset]) rfl ?_
    show Steps p.tables e below (s₁.setTop (mkF m 13 #[.val (.ref a1), .val (.long (-3750763034362895579 : Int64)), .second, .val (.ref a1), .val (.int (2 : Int32)), .val (.int (0 : Int32)), .unset] [])) _
    refine XS.iload X0.here hx rfl (hb hby d3_13) rfl ?_
    show Steps p.tables e below (s₁.setTop (mkF m 15 #[.val (.ref a1), .val (.long (-3750763034362895579 : Int64)), .second, .val (.ref a1), .val (.int (2 : Int32)), .val (.int (0 : Int32)), .unset] [(.int (0 : Int32))])) _
    refine XS.iload X0.here hx rfl (hb hby d3_15) rfl ?_
    show Steps p.tables e below (s₁.setTop (mkF m 17 #[.val (.ref a1), .val (.long (-3750763034362895579 : Int64)), .second, .val (.ref a1), .val (.int (2 : Int32)), .val (.int (0 : Int32)), .unset] [(.int (2 : Int32)), (.int (0 : Int32))])) _
    exact k
  have pre3 : Go p e below (s₁.setTop (entryFrame m #[(.ref a1)] 7)) (s₁.setTop (mkF m 17 #[.val (.ref a1), .val (.long (((-3750763034362895579 : Int64) ^^^ (((w0 &&& (255 : Int32))).toInt64)) * (1099511628211 : Int64))), .second, .val (.ref a1), .val (.int (2 : Int32)), .val (.int (1 : Int32)), .val (.int w0)] [(.int (2 : Int32)), (.int (1 : Int32))])) := by
    intro t k
    refine pre2 t ?_
    show Steps p.tables e below (s₁.setTop (mkF m 17 #[.val (.ref a1), .val (.long (-3750763034362895579 : Int64)), .second, .val (.ref a1), .val (.int (2 : Int32)), .val (.int (0 : Int32)), .unset] [(.int (2 : Int32)), (.int (0 : Int32))])) _
    refine XS.icmpNo X0.here hx rfl (hb hby d3_17) rfl (XT.ii_ge_f (by decide : (0 : Int32) < (2 : Int32))) ?_
    show Steps p.tables e below (s₁.setTop (mkF m 20 #[.val (.ref a1), .val (.long (-3750763034362895579 : Int64)), .second, .val (.ref a1), .val (.int (2 : Int32)), .val (.int (0 : Int32)), .unset] [])) _
    refine XS.aloadN X0.here hx rfl (hb hby d3_20) rfl rfl ?_
    show Steps p.tables e below (s₁.setTop (mkF m 21 #[.val (.ref a1), .val (.long (-3750763034362895579 : Int64)), .second, .val (.ref a1), .val (.int (2 : Int32)), .val (.int (0 : Int32)), .unset] [(.ref a1)])) _
    refine XS.iload X0.here hx rfl (hb hby d3_21) rfl ?_
    show Steps p.tables e below (s₁.setTop (mkF m 23 #[.val (.ref a1), .val (.long (-3750763034362895579 : Int64)), .second, .val (.ref a1), .val (.int (2 : Int32)), .val (.int (0 : Int32)), .unset] [(.int (0 : Int32)), (.ref a1)])) _
    refine X0.baloadBytes hx (j := (0 : Int32)) (v := (.int w0)) (by rw [e0]; exact Ar.1) (State.isArrayOf_alike hZ.alike Ar.2.1) Ar.2.2 (inb_of SS ⟨by decide, by decide⟩) (HH.at (inb_of SS ⟨by decide, by decide⟩) rfl) (g := (mkF m 23 #[.val (.ref a1), .val (.long (-3750763034362895579 : Int64)), .second, .val (.ref a1), .val (.int (2 : Int32)), .val (.int (0 : Int32)), .unset] [(.int (0 : Int32)), (.ref a1)])) rfl rfl (hb hby d3_23) _ ?_
    show Steps p.tables e below (s₁.setTop (mkF m 24 #[.val (.ref a1), .val (.long (-3750763034362895579 : Int64)), .second, .val (.ref a1), .val (.int (2 : Int32)), .val (.int (0 : Int32)), .unset] [(.int w0)])) _
    refine XS.istore X0.here hx rfl (hb hby d3_24) rfl (l' := #[.val (.ref a1), .val (.long (-3750763034362895579 : Int64)), .second, .val (.ref a1), .val (.int (2 : Int32)), .val (.int (0 : Int32)), .val (.int w0)]) rfl ?_
    show Steps p.tables e below (s₁.setTop (mkF m 26 #[.val (.ref a1), .val (.long (-3750763034362895579 : Int64)), .second, .val (.ref a1), .val (.int (2 : Int32)), .val (.int (0 : Int32)), .val (.int w0)] [])) _
    refine XT.lloadN X0.here hx rfl (hb hby d3_26) rfl ?_
    show Steps p.tables e below (s₁.setTop (mkF m 27 #[.val (.ref a1), .val (.long (-3750763034362895579 : Int64)), .second, .val (.ref a1), .val (.int (2 : Int32)), .val (.int (0 : Int32)), .val (.int w0)] [(.long (-3750763034362895579 : Int64))])) _
    refine XS.iload X0.here hx rfl (hb hby d3_27) rfl ?_
    show Steps p.tables e below (s₁.setTop (mkF m 29 #[.val (.ref a1), .val (.long (-3750763034362895579 : Int64)), .second, .val (.ref a1), .val (.int (2 : Int32)), .val (.int (0 : Int32)), .val (.int w0)] [(.int w0), (.long (-3750763034362895579 : Int64))])) _
    refine XS.sipush X0.here hx rfl (hb hby d3_29) ?_
    show Steps p.tables e below (s₁.setTop (mkF m 32 #[.val (.ref a1), .val (.long (-3750763034362895579 : Int64)), .second, .val (.ref a1), .val (.int (2 : Int32)), .val (.int (0 : Int32)), .val (.int w0)] [(.int (255 : Int32)), (.int w0), (.long (-3750763034362895579 : Int64))])) _
    refine XS.iand X0.here hx rfl (hb hby d3_32) rfl ?_
    show Steps p.tables e below (s₁.setTop (mkF m 33 #[.val (.ref a1), .val (.long (-3750763034362895579 : Int64)), .second, .val (.ref a1), .val (.int (2 : Int32)), .val (.int (0 : Int32)), .val (.int w0)] [(.int (w0 &&& (255 : Int32))), (.long (-3750763034362895579 : Int64))])) _
    refine XS.i2l X0.here hx rfl (hb hby d3_33) rfl ?_
    show Steps p.tables e below (s₁.setTop (mkF m 34 #[.val (.ref a1), .val (.long (-3750763034362895579 : Int64)), .second, .val (.ref a1), .val (.int (2 : Int32)), .val (.int (0 : Int32)), .val (.int w0)] [(.long (((w0 &&& (255 : Int32))).toInt64)), (.long (-3750763034362895579 : Int64))])) _
    refine XS.lxor X0.here hx rfl (hb hby d3_34) rfl ?_
    show Steps p.tables e below (s₁.setTop (mkF m 35 #[.val (.ref a1), .val (.long (-3750763034362895579 : Int64)), .second, .val (.ref a1), .val (.int (2 : Int32)), .val (.int (0 : Int32)), .val (.int w0)] [(.long ((-3750763034362895579 : Int64) ^^^ (((w0 &&& (255 : Int32))).toInt64)))])) _
    refine X0.ldc2J hx hown (mvT hZ (hw _ (List.mem_of_getElem? (i := 13) rfl))) (g := (mkF m 35 #[.val (.ref a1), .val (.long (-3750763034362895579 : Int64)), .second, .val (.ref a1), .val (.int (2 : Int32)), .val (.int (0 : Int32)), .val (.int w0)] [(.long ((-3750763034362895579 : Int64) ^^^ (((w0 &&& (255 : Int32))).toInt64)))])) rfl (hb hby d3_35) ?_
    show Steps p.tables e below (s₁.setTop (mkF m 38 #[.val (.ref a1), .val (.long (-3750763034362895579 : Int64)), .second, .val (.ref a1), .val (.int (2 : Int32)), .val (.int (0 : Int32)), .val (.int w0)] [(.long (1099511628211 : Int64)), (.long ((-3750763034362895579 : Int64) ^^^ (((w0 &&& (255 : Int32))).toInt64)))])) _
    refine XS.lmul X0.here hx rfl (hb hby d3_38) rfl ?_
    show Steps p.tables e below (s₁.setTop (mkF m 39 #[.val (.ref a1), .val (.long (-3750763034362895579 : Int64)), .second, .val (.ref a1), .val (.int (2 : Int32)), .val (.int (0 : Int32)), .val (.int w0)] [(.long (((-3750763034362895579 : Int64) ^^^ (((w0 &&& (255 : Int32))).toInt64)) * (1099511628211 : Int64)))])) _
    refine XT.lstoreN X0.here hx rfl (hb hby d3_39) rfl (l' := #[.val (.ref a1), .val (.long (((-3750763034362895579 : Int64) ^^^ (((w0 &&& (255 : Int32))).toInt64)) * (1099511628211 : Int64))), .second, .val (.ref a1), .val (.int (2 : Int32)), .val (.int (0 : Int32)), .val (.int w0)]) rfl ?_
    show Steps p.tables e below (s₁.setTop (mkF m 40 #[.val (.ref a1), .val (.long (((-3750763034362895579 : Int64) ^^^ (((w0 &&& (255 : Int32))).toInt64)) * (1099511628211 : Int64))), .second, .val (.ref a1), .val (.int (2 : Int32)), .val (.int (0 : Int32)), .val (.int w0)] [])) _
    refine XS.iinc X0.here hx rfl (hb hby d3_40) rfl (l' := #[.val (.ref a1), .val (.long (((-3750763034362895579 : Int64) ^^^ (((w0 &&& (255 : Int32))).toInt64)) * (1099511628211 : Int64))), .second, .val (.ref a1), .val (.int (2 : Int32)), .val (.int (1 : Int32)), .val (.int w0)]) rfl ?_
    show Steps p.tables e below (s₁.setTop (mkF m 43 #[.val (.ref a1), .val (.long (((-3750763034362895579 : Int64) ^^^ (((w0 &&& (255 : Int32))).toInt64)) * (1099511628211 : Int64))), .second, .val (.ref a1), .val (.int (2 : Int32)), .val (.int (1 : Int32)), .val (.int w0)] [])) _
    refine XS.goto X0.here hx rfl (pc0 := 43) (pc' := 13) rfl (hb hby d3_43) (by decide) (by decide) ?_
    show Steps p.tables e below (s₁.setTop (mkF m 13 #[.val (.ref a1), .val (.long (((-3750763034362895579 : Int64) ^^^ (((w0 &&& (255 : Int32))).toInt64)) * (1099511628211 : Int64))), .second, .val (.ref a1), .val (.int (2 : Int32)), .val (.int (1 : Int32)), .val (.int w0)] [])) _
    refine XS.iload X0.here hx rfl (hb hby d3_13) rfl ?_
    show Steps p.tables e below (s₁.setTop (mkF m 15 #[.val (.ref a1), .val (.long (((-3750763034362895579 : Int64) ^^^ (((w0 &&& (255 : Int32))).toInt64)) * (1099511628211 : Int64))), .second, .val (.ref a1), .val (.int (2 : Int32)), .val (.int (1 : Int32)), .val (.int w0)] [(.int (1 : Int32))])) _
    refine XS.iload X0.here hx rfl (hb hby d3_15) rfl ?_
    show Steps p.tables e below (s₁.setTop (mkF m 17 #[.val (.ref a1), .val (.long (((-3750763034362895579 : Int64) ^^^ (((w0 &&& (255 : Int32))).toInt64)) * (1099511628211 : Int64))), .second, .val (.ref a1), .val (.int (2 : Int32)), .val (.int (1 : Int32)), .val (.int w0)] [(.int (2 : Int32)), (.int (1 : Int32))])) _
    exact k
  have pre4 : Go p e below (s₁.setTop (entryFrame m #[(.ref a1)] 7)) (s₁.setTop (mkF m 17 #[.val (.ref a1), .val (.long (((((-3750763034362895579 : Int64) ^^^ (((w0 &&& (255 : Int32))).toInt64)) * (1099511628211 : Int64)) ^^^ (((w1 &&& (255 : Int32))).toInt64)) * (1099511628211 : Int64))), .second, .val (.ref a1), .val (.int (2 : Int32)), .val (.int (2 : Int32)), .val (.int w1)] [(.int (2 : Int32)), (.int (2 : Int32))])) := by
    intro t k
    refine pre3 t ?_
    show Steps p.tables e below (s₁.setTop (mkF m 17 #[.val (.ref a1), .val (.long (((-3750763034362895579 : Int64) ^^^ (((w0 &&& (255 : Int32))).toInt64)) * (1099511628211 : Int64))), .second, .val (.ref a1), .val (.int (2 : Int32)), .val (.int (1 : Int32)), .val (.int w0)] [(.int (2 : Int32)), (.int (1 : Int32))])) _
    refine XS.icmpNo X0.here hx rfl (hb hby d3_17) rfl (XT.ii_ge_f (by decide : (1 : Int32) < (2 : Int32))) ?_
    show Steps p.tables e below (s₁.setTop (mkF m 20 #[.val (.ref a1), .val (.long (((-3750763034362895579 : Int64) ^^^ (((w0 &&& (255 : Int32))).toInt64)) * (1099511628211 : Int64))), .second, .val (.ref a1), .val (.int (2 : Int32)), .val (.int (1 : Int32)), .val (.int w0)] [])) _
    refine XS.aloadN X0.here hx rfl (hb hby d3_20) rfl rfl ?_
    show Steps p.tables e below (s₁.setTop (mkF m 21 #[.val (.ref a1), .val (.long (((-3750763034362895579 : Int64) ^^^ (((w0 &&& (255 : Int32))).toInt64)) * (1099511628211 : Int64))), .second, .val (.ref a1), .val (.int (2 : Int32)), .val (.int (1 : Int32)), .val (.int w0)] [(.ref a1)])) _
    refine XS.iload X0.here hx rfl (hb hby d3_21) rfl ?_
    show Steps p.tables e below (s₁.setTop (mkF m 23 #[.val (.ref a1), .val (.long (((-3750763034362895579 : Int64) ^^^ (((w0 &&& (255 : Int32))).toInt64)) * (1099511628211 : Int64))), .second, .val (.ref a1), .val (.int (2 : Int32)), .val (.int (1 : Int32)), .val (.int w0)] [(.int (1 : Int32)), (.ref a1)])) _
    refine X0.baloadBytes hx (j := (1 : Int32)) (v := (.int w1)) (by rw [e0]; exact Ar.1) (State.isArrayOf_alike hZ.alike Ar.2.1) Ar.2.2 (inb_of SS ⟨by decide, by decide⟩) (HH.at (inb_of SS ⟨by decide, by decide⟩) rfl) (g := (mkF m 23 #[.val (.ref a1), .val (.long (((-3750763034362895579 : Int64) ^^^ (((w0 &&& (255 : Int32))).toInt64)) * (1099511628211 : Int64))), .second, .val (.ref a1), .val (.int (2 : Int32)), .val (.int (1 : Int32)), .val (.int w0)] [(.int (1 : Int32)), (.ref a1)])) rfl rfl (hb hby d3_23) _ ?_
    show Steps p.tables e below (s₁.setTop (mkF m 24 #[.val (.ref a1), .val (.long (((-3750763034362895579 : Int64) ^^^ (((w0 &&& (255 : Int32))).toInt64)) * (1099511628211 : Int64))), .second, .val (.ref a1), .val (.int (2 : Int32)), .val (.int (1 : Int32)), .val (.int w0)] [(.int w1)])) _
    refine XS.istore X0.here hx rfl (hb hby d3_24) rfl (l' := #[.val (.ref a1), .val (.long (((-3750763034362895579 : Int64) ^^^ (((w0 &&& (255 : Int32))).toInt64)) * (1099511628211 : Int64))), .second, .val (.ref a1), .val (.int (2 : Int32)), .val (.int (1 : Int32)), .val (.int w1)]) rfl ?_
    show Steps p.tables e below (s₁.setTop (mkF m 26 #[.val (.ref a1), .val (.long (((-3750763034362895579 : Int64) ^^^ (((w0 &&& (255 : Int32))).toInt64)) * (1099511628211 : Int64))), .second, .val (.ref a1), .val (.int (2 : Int32)), .val (.int (1 : Int32)), .val (.int w1)] [])) _
    refine XT.lloadN X0.here hx rfl (hb hby d3_26) rfl ?_
    show Steps p.tables e below (s₁.setTop (mkF m 27 #[.val (.ref a1), .val (.long (((-3750763034362895579 : Int64) ^^^ (((w0 &&& (255 : Int32))).toInt64)) * (1099511628211 : Int64))), .second, .val (.ref a1), .val (.int (2 : Int32)), .val (.int (1 : Int32)), .val (.int w1)] [(.long (((-3750763034362895579 : Int64) ^^^ (((w0 &&& (255 : Int32))).toInt64)) * (1099511628211 : Int64)))])) _
    refine XS.iload X0.here hx rfl (hb hby d3_27) rfl ?_
    show Steps p.tables e below (s₁.setTop (mkF m 29 #[.val (.ref a1), .val (.long (((-3750763034362895579 : Int64) ^^^ (((w0 &&& (255 : Int32))).toInt64)) * (1099511628211 : Int64))), .second, .val (.ref a1), .val (.int (2 : Int32)), .val (.int (1 : Int32)), .val (.int w1)] [(.int w1), (.long (((-3750763034362895579 : Int64) ^^^ (((w0 &&& (255 : Int32))).toInt64)) * (1099511628211 : Int64)))])) _
    refine XS.sipush X0.here hx rfl (hb hby d3_29) ?_
    show Steps p.tables e below (s₁.setTop (mkF m 32 #[.val (.ref a1), .val (.long (((-3750763034362895579 : Int64) ^^^ (((w0 &&& (255 : Int32))).toInt64)) * (1099511628211 : Int64))), .second, .val (.ref a1), .val (.int (2 : Int32)), .val (.int (1 : Int32)), .val (.int w1)] [(.int (255 : Int32)), (.int w1), (.long (((-3750763034362895579 : Int64) ^^^ (((w0 &&& (255 : Int32))).toInt64)) * (1099511628211 : Int64)))])) _
    refine XS.iand X0.here hx rfl (hb hby d3_32) rfl ?_
    show Steps p.tables e below (s₁.setTop (mkF m 33 #[.val (.ref a1), .val (.long (((-3750763034362895579 : Int64) ^^^ (((w0 &&& (255 : Int32))).toInt64)) * (1099511628211 : Int64))), .second, .val (.ref a1), .val (.int (2 : Int32)), .val (.int (1 : Int32)), .val (.int w1)] [(.int (w1 &&& (255 : Int32))), (.long (((-3750763034362895579 : Int64) ^^^ (((w0 &&& (255 : Int32))).toInt64)) * (1099511628211 : Int64)))])) _
    refine XS.i2l X0.here hx rfl (hb hby d3_33) rfl ?_
    show Steps p.tables e below (s₁.setTop (mkF m 34 #[.val (.ref a1), .val (.long (((-3750763034362895579 : Int64) ^^^ (((w0 &&& (255 : Int32))).toInt64)) * (1099511628211 : Int64))), .second, .val (.ref a1), .val (.int (2 : Int32)), .val (.int (1 : Int32)), .val (.int w1)] [(.long (((w1 &&& (255 : Int32))).toInt64)), (.long (((-3750763034362895579 : Int64) ^^^ (((w0 &&& (255 : Int32))).toInt64)) * (1099511628211 : Int64)))])) _
    refine XS.lxor X0.here hx rfl (hb hby d3_34) rfl ?_
    show Steps p.tables e below (s₁.setTop (mkF m 35 #[.val (.ref a1), .val (.long (((-3750763034362895579 : Int64) ^^^ (((w0 &&& (255 : Int32))).toInt64)) * (1099511628211 : Int64))), .second, .val (.ref a1), .val (.int (2 : Int32)), .val (.int (1 : Int32)), .val (.int w1)] [(.long ((((-3750763034362895579 : Int64) ^^^ (((w0 &&& (255 : Int32))).toInt64)) * (1099511628211 : Int64)) ^^^ (((w1 &&& (255 : Int32))).toInt64)))])) _
    refine X0.ldc2J hx hown (mvT hZ (hw _ (List.mem_of_getElem? (i := 13) rfl))) (g := (mkF m 35 #[.val (.ref a1), .val (.long (((-3750763034362895579 : Int64) ^^^ (((w0 &&& (255 : Int32))).toInt64)) * (1099511628211 : Int64))), .second, .val (.ref a1), .val (.int (2 : Int32)), .val (.int (1 : Int32)), .val (.int w1)] [(.long ((((-3750763034362895579 : Int64) ^^^ (((w0 &&& (255 : Int32))).toInt64)) * (1099511628211 : Int64)) ^^^ (((w1 &&& (255 : Int32))).toInt64)))])) rfl (hb hby d3_35) ?_
    show Steps p.tables e below (s₁.setTop (mkF m 38 #[.val (.ref a1), .val (.long (((-3750763034362895579 : Int64) ^^^ (((w0 &&& (255 : Int32))).toInt64)) * (1099511628211 : Int64))), .second, .val (.ref a1), .val (.int (2 : Int32)), .val (.int (1 : Int32)), .val (.int w1)] [(.long (1099511628211 : Int64)), (.long ((((-3750763034362895579 : Int64) ^^^ (((w0 &&& (255 : Int32))).toInt64)) * (1099511628211 : Int64)) ^^^ (((w1 &&& (255 : Int32))).toInt64)))])) _
    refine XS.lmul X0.here hx rfl (hb hby d3_38) rfl ?_
    show Steps p.tables e below (s₁.setTop (mkF m 39 #[.val (.ref a1), .val (.long (((-3750763034362895579 : Int64) ^^^ (((w0 &&& (255 : Int32))).toInt64)) * (1099511628211 : Int64))), .second, .val (.ref a1), .val (.int (2 : Int32)), .val (.int (1 : Int32)), .val (.int w1)] [(.long (((((-3750763034362895579 : Int64) ^^^ (((w0 &&& (255 : Int32))).toInt64)) * (1099511628211 : Int64)) ^^^ (((w1 &&& (255 : Int32))).toInt64)) * (1099511628211 : Int64)))])) _
    refine XT.lstoreN X0.here hx rfl (hb hby d3_39) rfl (l' := #[.val (.ref a1), .val (.long (((((-3750763034362895579 : Int64) ^^^ (((w0 &&& (255 : Int32))).toInt64)) * (1099511628211 : Int64)) ^^^ (((w1 &&& (255 : Int32))).toInt64)) * (1099511628211 : Int64))), .second, .val (.ref a1), .val (.int (2 : Int32)), .val (.int (1 : Int32)), .val (.int w1)]) rfl ?_
    show Steps p.tables e below (s₁.setTop (mkF m 40 #[.val (.ref a1), .val (.long (((((-3750763034362895579 : Int64) ^^^ (((w0 &&& (255 : Int32))).toInt64)) * (1099511628211 : Int64)) ^^^ (((w1 &&& (255 : Int32))).toInt64)) * (1099511628211 : Int64))), .second, .val (.ref a1), .val (.int (2 : Int32)), .val (.int (1 : Int32)), .val (.int w1)] [])) _
    refine XS.iinc X0.here hx rfl (hb hby d3_40) rfl (l' := #[.val (.ref a1), .val (.long (((((-3750763034362895579 : Int64) ^^^ (((w0 &&& (255 : Int32))).toInt64)) * (1099511628211 : Int64)) ^^^ (((w1 &&& (255 : Int32))).toInt64)) * (1099511628211 : Int64))), .second, .val (.ref a1), .val (.int (2 : Int32)), .val (.int (2 : Int32)), .val (.int w1)]) rfl ?_
    show Steps p.tables e below (s₁.setTop (mkF m 43 #[.val (.ref a1), .val (.long (((((-3750763034362895579 : Int64) ^^^ (((w0 &&& (255 : Int32))).toInt64)) * (1099511628211 : Int64)) ^^^ (((w1 &&& (255 : Int32))).toInt64)) * (1099511628211 : Int64))), .second, .val (.ref a1), .val (.int (2 : Int32)), .val (.int (2 : Int32)), .val (.int w1)] [])) _
    refine XS.goto X0.here hx rfl (pc0 := 43) (pc' := 13) rfl (hb hby d3_43) (by decide) (by decide) ?_
    show Steps p.tables e below (s₁.setTop (mkF m 13 #[.val (.ref a1), .val (.long (((((-3750763034362895579 : Int64) ^^^ (((w0 &&& (255 : Int32))).toInt64)) * (1099511628211 : Int64)) ^^^ (((w1 &&& (255 : Int32))).toInt64)) * (1099511628211 : Int64))), .second, .val (.ref a1), .val (.int (2 : Int32)), .val (.int (2 : Int32)), .val (.int w1)] [])) _
    refine XS.iload X0.here hx rfl (hb hby d3_13) rfl ?_
    show Steps p.tables e below (s₁.setTop (mkF m 15 #[.val (.ref a1), .val (.long (((((-3750763034362895579 : Int64) ^^^ (((w0 &&& (255 : Int32))).toInt64)) * (1099511628211 : Int64)) ^^^ (((w1 &&& (255 : Int32))).toInt64)) * (1099511628211 : Int64))), .second, .val (.ref a1), .val (.int (2 : Int32)), .val (.int (2 : Int32)), .val (.int w1)] [(.int (2 : Int32))])) _
    refine XS.iload X0.here hx rfl (hb hby d3_15) rfl ?_
    show Steps p.tables e below (s₁.setTop (mkF m 17 #[.val (.ref a1), .val (.long (((((-3750763034362895579 : Int64) ^^^ (((w0 &&& (255 : Int32))).toInt64)) * (1099511628211 : Int64)) ^^^ (((w1 &&& (255 : Int32))).toInt64)) * (1099511628211 : Int64))), .second, .val (.ref a1), .val (.int (2 : Int32)), .val (.int (2 : Int32)), .val (.int w1)] [(.int (2 : Int32)), (.int (2 : Int32))])) _
    exact k
  have pre5 : Go p e below (s₁.setTop (entryFrame m #[(.ref a1)] 7)) (s₁.setTop (mkF m 47 #[.val (.ref a1), .val (.long (((((-3750763034362895579 : Int64) ^^^ (((w0 &&& (255 : Int32))).toInt64)) * (1099511628211 : Int64)) ^^^ (((w1 &&& (255 : Int32))).toInt64)) * (1099511628211 : Int64))), .second, .val (.ref a1), .val (.int (2 : Int32)), .val (.int (2 : Int32)), .val (.int w1)] [(.long (((((-3750763034362895579 : Int64) ^^^ (((w0 &&& (255 : Int32))).toInt64)) * (1099511628211 : Int64)) ^^^ (((w1 &&& (255 : Int32))).toInt64)) * (1099511628211 : Int64)))])) := by
    intro t k
    refine pre4 t ?_
    show Steps p.tables e below (s₁.setTop (mkF m 17 #[.val (.ref a1), .val (.long (((((-3750763034362895579 : Int64) ^^^ (((w0 &&& (255 : Int32))).toInt64)) * (1099511628211 : Int64)) ^^^ (((w1 &&& (255 : Int32))).toInt64)) * (1099511628211 : Int64))), .second, .val (.ref a1), .val (.int (2 : Int32)), .val (.int (2 : Int32)), .val (.int w1)] [(.int (2 : Int32)), (.int (2 : Int32))])) _
    refine XS.icmpYes X0.here hx rfl (pc0 := 17) (pc' := 46) rfl (hb hby d3_17) rfl (XT.ii_ge_t (by decide : ¬ ((2 : Int32) < (2 : Int32)))) (by decide) (by decide) ?_
    show Steps p.tables e below (s₁.setTop (mkF m 46 #[.val (.ref a1), .val (.long (((((-3750763034362895579 : Int64) ^^^ (((w0 &&& (255 : Int32))).toInt64)) * (1099511628211 : Int64)) ^^^ (((w1 &&& (255 : Int32))).toInt64)) * (1099511628211 : Int64))), .second, .val (.ref a1), .val (.int (2 : Int32)), .val (.int (2 : Int32)), .val (.int w1)] [])) _
    refine XT.lloadN X0.here hx rfl (hb hby d3_46) rfl ?_
    show Steps p.tables e below (s₁.setTop (mkF m 47 #[.val (.ref a1), .val (.long (((((-3750763034362895579 : Int64) ^^^ (((w0 &&& (255 : Int32))).toInt64)) * (1099511628211 : Int64)) ^^^ (((w1 &&& (255 : Int32))).toInt64)) * (1099511628211 : Int64))), .second, .val (.ref a1), .val (.int (2 : Int32)), .val (.int (2 : Int32)), .val (.int w1)] [(.long (((((-3750763034362895579 : Int64) ^^^ (((w0 &&& (255 : Int32))).toInt64)) * (1099511628211 : Int64)) ^^^ (((w1 &&& (255 : Int32))).toInt64)) * (1099511628211 : Int64)))])) _
    exact k
  obtain ⟨fs, hr, hrun, hended, hW, hsame⟩ := X0.leave (hlocks := hlk) (v := some (.long (((((-3750763034362895579 : Int64) ^^^ (((w0 &&& (255 : Int32))).toInt64)) * (1099511628211 : Int64)) ^^^ (((w1 &&& (255 : Int32))).toInt64)) * (1099511628211 : Int64)))) (fun h => by rw [Bd.returns] at h; cases h)
  refine ⟨_, _, pre5 _ (retJ X0 hx Bd.returns (hb hby d3_47) hr), hrun, hended, _, _, rfl, ?_, ⟨_, rfl⟩, hW, hsame.mono (by decide) (by decide)⟩
  show Q3_2 Z a1 kk w0 w1 h0 n0 _ s₁.heap _
  rw [e0]
  exact ⟨congrArg some (congrArg Value.long (show (((((-3750763034362895579 : Int64) ^^^ (((w0 &&& (255 : Int32))).toInt64)) * (1099511628211 : Int64)) ^^^ (((w1 &&& (255 : Int32))).toInt64)) * (1099511628211 : Int64)) = fnv2 w0 w1 from by rw [fnv2])), N0, rfl⟩
theorem ef_3_3 (m : MethodId) (a1 : Addr) : entryFrame m #[(.ref a1)] 7 = mkF m 0 #[.val (.ref a1), .unset, .unset, .unset, .unset, .unset, .unset] [] := by first | (simp [entryFrame, mkF, argsToLocals, Value.category]; done) | rfl
def fnv3 (w0 : Int32) (w1 : Int32) (w2 : Int32) : Int64 := (((((((-3750763034362895579 : Int64) ^^^ (((w0 &&& (255 : Int32))).toInt64)) * (1099511628211 : Int64)) ^^^ (((w1 &&& (255 : Int32))).toInt64)) * (1099511628211 : Int64)) ^^^ (((w2 &&& (255 : Int32))).toInt64)) * (1099511628211 : Int64))
def Q3_3 (Z : State) (a1 : Addr) (kk : ClassId) (w0 : Int32) (w1 : Int32) (w2 : Int32) (h0 : Heap) (n0 : Nat) (v : Option Value) (h : Heap) (L : List Loc) : Prop := v = some (.long (fnv3 w0 w1 w2)) ∧ Fr n0 L ∧ h = h0
set_option maxRecDepth 65536 in
set_option maxHeartbeats 40000000 in
theorem rm3_3 (l : Launch) (Z : State) (a0 : Array Value) (hw : ∀ d ∈ tables_1, d.before a0 Z = true) (ws : List Jvm.Cond) (a1 : Addr) (kk : ClassId) (w0 : Int32) (w1 : Int32) (w2 : Int32) (h0 : Heap) (n0 : Nat) (Z0 : n0 ≤ h0.size) (V1 : Arv Z h0 a1 kk .byte (3 : Int32) [(.int w0), (.int w1), (.int w2)] (.int (0 : Int32))) :
    MetFree l (⟨"com/example/seshat/seshat/filter/Probe", "fnv1a", "([B)J"⟩ : MethodName) (head1 (Jvm.Cond.code (⟨"com/example/seshat/seshat/filter/Probe", "fnv1a", "([B)J"⟩ : MethodName) prog_6_method_7_code 7 (some .long) :: ws) ({ frames := 0, cells := 0, slots := 0, locals := 0 } : Room)) (fun a U => a = #[(.ref a1)] ∧ Z.Warmed39 U.vm ∧ U.heap = h0) (fun _ _ _ _ _ => True) (fun _ U o U' => ∃ v L, o = .returned v ∧ Q3_3 Z a1 kk w0 w1 w2 h0 n0 v U'.heap L ∧ FrameEnd U o U' L ({ frames := 0, cells := 0, slots := 0, locals := 0 } : Room).cells ({ frames := 0, cells := 0, slots := 0, locals := 0 } : Room).slots) := by
  refine MetFree.of_bodySF (plainFor_of_name pn_com_example_seshat_seshat_filter_Probe) hisR ?_
  intro p e s m args below meth c s₁ Bd hml0 hP hK
  obtain ⟨rfl, hZ, hh⟩ := hP
  have hx := Bd.exec
  have hby := Bd.bytes
  have hml : c.maxLocals = 7 := hml0
  have hown : s.vm.findClass "com/example/seshat/seshat/filter/Probe" = some m.cls := findClass_of_methodNamed Bd.named
  have hnm := (name_of_methodNamed Bd.named Bd.method).1
  have hlk : meth.locks = false := BodyLoose.notSynchronized Bd
  have X0 : Stand p l e ({ frames := 0, cells := 0, slots := 0, locals := 0 } : Room) s m #[(.ref a1)] below meth c s₁ [] 0 0 := Stand.of_body Bd
  have e0 : s₁.heap = h0 := by rw [← hh, Bd.state]; rfl
  have N0 := Fr.nil n0
  have pre0 : Go p e below (s₁.setTop (entryFrame m #[(.ref a1)] 7)) (s₁.setTop (mkF m 0 #[.val (.ref a1), .unset, .unset, .unset, .unset, .unset, .unset] [])) := fun t k => castTop (ef_3_3 m a1) k
  have pre1 : Go p e below (s₁.setTop (entryFrame m #[(.ref a1)] 7)) (s₁.setTop (mkF m 7 #[.val (.ref a1), .val (.long (-3750763034362895579 : Int64)), .second, .val (.ref a1), .unset, .unset, .unset] [(.ref a1)])) := by
    intro t k
    refine pre0 t ?_
    show Steps p.tables e below (s₁.setTop (mkF m 0 #[.val (.ref a1), .unset, .unset, .unset, .unset, .unset, .unset] [])) _
    refine X0.ldc2J hx hown (mvT hZ (hw _ (List.mem_of_getElem? (i := 12) rfl))) (g := (mkF m 0 #[.val (.ref a1), .unset, .unset, .unset, .unset, .unset, .unset] [])) rfl (hb hby d3_0) ?_
    show Steps p.tables e below (s₁.setTop (mkF m 3 #[.val (.ref a1), .unset, .unset, .unset, .unset, .unset, .unset] [(.long (-3750763034362895579 : Int64))])) _
    refine XT.lstoreN X0.here hx rfl (hb hby d3_3) rfl (l' := #[.val (.ref a1), .val (.long (-3750763034362895579 : Int64)), .second, .unset, .unset, .unset, .unset]) rfl ?_
    show Steps p.tables e below (s₁.setTop (mkF m 4 #[.val (.ref a1), .val (.long (-3750763034362895579 : Int64)), .second, .unset, .unset, .unset, .unset] [])) _
    refine XS.aloadN X0.here hx rfl (hb hby d3_4) rfl rfl ?_
    show Steps p.tables e below (s₁.setTop (mkF m 5 #[.val (.ref a1), .val (.long (-3750763034362895579 : Int64)), .second, .unset, .unset, .unset, .unset] [(.ref a1)])) _
    refine XS.astoreN X0.here hx rfl (hb hby d3_5) rfl rfl (l' := #[.val (.ref a1), .val (.long (-3750763034362895579 : Int64)), .second, .val (.ref a1), .unset, .unset, .unset]) rfl ?_
    show Steps p.tables e below (s₁.setTop (mkF m 6 #[.val (.ref a1), .val (.long (-3750763034362895579 : Int64)), .second, .val (.ref a1), .unset, .unset, .unset] [])) _
    refine XS.aloadN X0.here hx rfl (hb hby d3_6) rfl rfl ?_
    show Steps p.tables e below (s₁.setTop (mkF m 7 #[.val (.ref a1), .val (.long (-3750763034362895579 : Int64)), .second, .val (.ref a1), .unset, .unset, .unset] [(.ref a1)])) _
    exact k
  obtain ⟨cl, Ar, -, SS, NN, HH, -⟩ := V1
  have pre2 : Go p e below (s₁.setTop (entryFrame m #[(.ref a1)] 7)) (s₁.setTop (mkF m 17 #[.val (.ref a1), .val (.long (-3750763034362895579 : Int64)), .second, .val (.ref a1), .val (.int (3 : Int32)), .val (.int (0 : Int32)), .unset] [(.int (3 : Int32)), (.int (0 : Int32))])) := by
    intro t k
    refine pre1 t ?_
    show Steps p.tables e below (s₁.setTop (mkF m 7 #[.val (.ref a1), .val (.long (-3750763034362895579 : Int64)), .second, .val (.ref a1), .unset, .unset, .unset] [(.ref a1)])) _
    refine X0.arraylength hx (by rw [e0]; exact Ar.1) (State.isArrayOf_alike hZ.alike Ar.2.1) (g := (mkF m 7 #[.val (.ref a1), .val (.long (-3750763034362895579 : Int64)), .second, .val (.ref a1), .unset, .unset, .unset] [(.ref a1)])) rfl rfl (hb hby d3_7) _ ?_
    rw [len_of SS NN]
    show Steps p.tables e below (s₁.setTop (mkF m 8 #[.val (.ref a1), .val (.long (-3750763034362895579 : Int64)), .second, .val (.ref a1), .unset, .unset, .unset] [(.int (3 : Int32))])) _
    refine XS.istore X0.here hx rfl (hb hby d3_8) rfl (l' := #[.val (.ref a1), .val (.long (-3750763034362895579 : Int64)), .second, .val (.ref a1), .val (.int (3 : Int32)), .unset, .unset]) rfl ?_
    show Steps p.tables e below (s₁.setTop (mkF m 10 #[.val (.ref a1), .val (.long (-3750763034362895579 : Int64)), .second, .val (.ref a1), .val (.int (3 : Int32)), .unset, .unset] [])) _
    refine XS.iconst X0.here hx rfl (hb hby d3_10) ?_
    show Steps p.tables e below (s₁.setTop (mkF m 11 #[.val (.ref a1), .val (.long (-3750763034362895579 : Int64)), .second, .val (.ref a1), .val (.int (3 : Int32)), .unset, .unset] [(.int (0 : Int32))])) _
    refine XS.istore X0.here hx rfl (hb hby d3_11) rfl (l' := #[.val (.ref a1), .val (.long (-3750763034362895579 : Int64)), .second, .val (.ref a1), .val (.int (3 : Int32)), .val (.int (0 : Int32)), .unset]) rfl ?_
    show Steps p.tables e below (s₁.setTop (mkF m 13 #[.val (.ref a1), .val (.long (-3750763034362895579 : Int64)), .second, .val (.ref a1), .val (.int (3 : Int32)), .val (.int (0 : Int32)), .unset] [])) _
    refine XS.iload X0.here hx rfl (hb hby d3_13) rfl ?_
    show Steps p.tables e below (s₁.setTop (mkF m 15 #[.val (.ref a1), .val (.long (-3750763034362895579 : Int64)), .second, .val (.ref a1), .val (.int (3 : Int32)), .val (.int (0 : Int32)), .unset] [(.int (0 : Int32))])) _
    refine XS.iload X0.here hx rfl (hb hby d3_15) rfl ?_
    show Steps p.tables e below (s₁.setTop (mkF m 17 #[.val (.ref a1), .val (.long (-3750763034362895579 : Int64)), .second, .val (.ref a1), .val (.int (3 : Int32)), .val (.int (0 : Int32)), .unset] [(.int (3 : Int32)), (.int (0 : Int32))])) _
    exact k
  have pre3 : Go p e below (s₁.setTop (entryFrame m #[(.ref a1)] 7)) (s₁.setTop (mkF m 17 #[.val (.ref a1), .val (.long (((-3750763034362895579 : Int64) ^^^ (((w0 &&& (255 : Int32))).toInt64)) * (1099511628211 : Int64))), .second, .val (.ref a1), .val (.int (3 : Int32)), .val (.int (1 : Int32)), .val (.int w0)] [(.int (3 : Int32)), (.int (1 : Int32))])) := by
    intro t k
    refine pre2 t ?_
    show Steps p.tables e below (s₁.setTop (mkF m 17 #[.val (.ref a1), .val (.long (-3750763034362895579 : Int64)), .second, .val (.ref a1), .val (.int (3 : Int32)), .val (.int (0 : Int32)), .unset] [(.int (3 : Int32)), (.int (0 : Int32))])) _
    refine XS.icmpNo X0.here hx rfl (hb hby d3_17) rfl (XT.ii_ge_f (by decide : (0 : Int32) < (3 : Int32))) ?_
    show Steps p.tables e below (s₁.setTop (mkF m 20 #[.val (.ref a1), .val (.long (-3750763034362895579 : Int64)), .second, .val (.ref a1), .val (.int (3 : Int32)), .val (.int (0 : Int32)), .unset] [])) _
    refine XS.aloadN X0.here hx rfl (hb hby d3_20) rfl rfl ?_
    show Steps p.tables e below (s₁.setTop (mkF m 21 #[.val (.ref a1), .val (.long (-3750763034362895579 : Int64)), .second, .val (.ref a1), .val (.int (3 : Int32)), .val (.int (0 : Int32)), .unset] [(.ref a1)])) _
    refine XS.iload X0.here hx rfl (hb hby d3_21) rfl ?_
    show Steps p.tables e below (s₁.setTop (mkF m 23 #[.val (.ref a1), .val (.long (-3750763034362895579 : Int64)), .second, .val (.ref a1), .val (.int (3 : Int32)), .val (.int (0 : Int32)), .unset] [(.int (0 : Int32)), (.ref a1)])) _
    refine X0.baloadBytes hx (j := (0 : Int32)) (v := (.int w0)) (by rw [e0]; exact Ar.1) (State.isArrayOf_alike hZ.alike Ar.2.1) Ar.2.2 (inb_of SS ⟨by decide, by decide⟩) (HH.at (inb_of SS ⟨by decide, by decide⟩) rfl) (g := (mkF m 23 #[.val (.ref a1), .val (.long (-3750763034362895579 : Int64)), .second, .val (.ref a1), .val (.int (3 : Int32)), .val (.int (0 : Int32)), .unset] [(.int (0 : Int32)), (.ref a1)])) rfl rfl (hb hby d3_23) _ ?_
    show Steps p.tables e below (s₁.setTop (mkF m 24 #[.val (.ref a1), .val (.long (-3750763034362895579 : Int64)), .second, .val (.ref a1), .val (.int (3 : Int32)), .val (.int (0 : Int32)), .unset] [(.int w0)])) _
    refine XS.istore X0.here hx rfl (hb hby d3_24) rfl (l' := #[.val (.ref a1), .val (.long (-3750763034362895579 : Int64)), .second, .val (.ref a1), .val (.int (3 : Int32)), .val (.int (0 : Int32)), .val (.int w0)]) rfl ?_
    show Steps p.tables e below (s₁.setTop (mkF m 26 #[.val (.ref a1), .val (.long (-3750763034362895579 : Int64)), .second, .val (.ref a1), .val (.int (3 : Int32)), .val (.int (0 : Int32)), .val (.int w0)] [])) _
    refine XT.lloadN X0.here hx rfl (hb hby d3_26) rfl ?_
    show Steps p.tables e below (s₁.setTop (mkF m 27 #[.val (.ref a1), .val (.long (-3750763034362895579 : Int64)), .second, .val (.ref a1), .val (.int (3 : Int32)), .val (.int (0 : Int32)), .val (.int w0)] [(.long (-3750763034362895579 : Int64))])) _
    refine XS.iload X0.here hx rfl (hb hby d3_27) rfl ?_
    show Steps p.tables e below (s₁.setTop (mkF m 29 #[.val (.ref a1), .val (.long (-3750763034362895579 : Int64)), .second, .val (.ref a1), .val (.int (3 : Int32)), .val (.int (0 : Int32)), .val (.int w0)] [(.int w0), (.long (-3750763034362895579 : Int64))])) _
    refine XS.sipush X0.here hx rfl (hb hby d3_29) ?_
    show Steps p.tables e below (s₁.setTop (mkF m 32 #[.val (.ref a1), .val (.long (-3750763034362895579 : Int64)), .second, .val (.ref a1), .val (.int (3 : Int32)), .val (.int (0 : Int32)), .val (.int w0)] [(.int (255 : Int32)), (.int w0), (.long (-3750763034362895579 : Int64))])) _
    refine XS.iand X0.here hx rfl (hb hby d3_32) rfl ?_
    show Steps p.tables e below (s₁.setTop (mkF m 33 #[.val (.ref a1), .val (.long (-3750763034362895579 : Int64)), .second, .val (.ref a1), .val (.int (3 : Int32)), .val (.int (0 : Int32)), .val (.int w0)] [(.int (w0 &&& (255 : Int32))), (.long (-3750763034362895579 : Int64))])) _
    refine XS.i2l X0.here hx rfl (hb hby d3_33) rfl ?_
    show Steps p.tables e below (s₁.setTop (mkF m 34 #[.val (.ref a1), .val (.long (-3750763034362895579 : Int64)), .second, .val (.ref a1), .val (.int (3 : Int32)), .val (.int (0 : Int32)), .val (.int w0)] [(.long (((w0 &&& (255 : Int32))).toInt64)), (.long (-3750763034362895579 : Int64))])) _
    refine XS.lxor X0.here hx rfl (hb hby d3_34) rfl ?_
    show Steps p.tables e below (s₁.setTop (mkF m 35 #[.val (.ref a1), .val (.long (-3750763034362895579 : Int64)), .second, .val (.ref a1), .val (.int (3 : Int32)), .val (.int (0 : Int32)), .val (.int w0)] [(.long ((-3750763034362895579 : Int64) ^^^ (((w0 &&& (255 : Int32))).toInt64)))])) _
    refine X0.ldc2J hx hown (mvT hZ (hw _ (List.mem_of_getElem? (i := 13) rfl))) (g := (mkF m 35 #[.val (.ref a1), .val (.long (-3750763034362895579 : Int64)), .second, .val (.ref a1), .val (.int (3 : Int32)), .val (.int (0 : Int32)), .val (.int w0)] [(.long ((-3750763034362895579 : Int64) ^^^ (((w0 &&& (255 : Int32))).toInt64)))])) rfl (hb hby d3_35) ?_
    show Steps p.tables e below (s₁.setTop (mkF m 38 #[.val (.ref a1), .val (.long (-3750763034362895579 : Int64)), .second, .val (.ref a1), .val (.int (3 : Int32)), .val (.int (0 : Int32)), .val (.int w0)] [(.long (1099511628211 : Int64)), (.long ((-3750763034362895579 : Int64) ^^^ (((w0 &&& (255 : Int32))).toInt64)))])) _
    refine XS.lmul X0.here hx rfl (hb hby d3_38) rfl ?_
    show Steps p.tables e below (s₁.setTop (mkF m 39 #[.val (.ref a1), .val (.long (-3750763034362895579 : Int64)), .second, .val (.ref a1), .val (.int (3 : Int32)), .val (.int (0 : Int32)), .val (.int w0)] [(.long (((-3750763034362895579 : Int64) ^^^ (((w0 &&& (255 : Int32))).toInt64)) * (1099511628211 : Int64)))])) _
    refine XT.lstoreN X0.here hx rfl (hb hby d3_39) rfl (l' := #[.val (.ref a1), .val (.long (((-3750763034362895579 : Int64) ^^^ (((w0 &&& (255 : Int32))).toInt64)) * (1099511628211 : Int64))), .second, .val (.ref a1), .val (.int (3 : Int32)), .val (.int (0 : Int32)), .val (.int w0)]) rfl ?_
    show Steps p.tables e below (s₁.setTop (mkF m 40 #[.val (.ref a1), .val (.long (((-3750763034362895579 : Int64) ^^^ (((w0 &&& (255 : Int32))).toInt64)) * (1099511628211 : Int64))), .second, .val (.ref a1), .val (.int (3 : Int32)), .val (.int (0 : Int32)), .val (.int w0)] [])) _
    refine XS.iinc X0.here hx rfl (hb hby d3_40) rfl (l' := #[.val (.ref a1), .val (.long (((-3750763034362895579 : Int64) ^^^ (((w0 &&& (255 : Int32))).toInt64)) * (1099511628211 : Int64))), .second, .val (.ref a1), .val (.int (3 : Int32)), .val (.int (1 : Int32)), .val (.int w0)]) rfl ?_
    show Steps p.tables e below (s₁.setTop (mkF m 43 #[.val (.ref a1), .val (.long (((-3750763034362895579 : Int64) ^^^ (((w0 &&& (255 : Int32))).toInt64)) * (1099511628211 : Int64))), .second, .val (.ref a1), .val (.int (3 : Int32)), .val (.int (1 : Int32)), .val (.int w0)] [])) _
    refine XS.goto X0.here hx rfl (pc0 := 43) (pc' := 13) rfl (hb hby d3_43) (by decide) (by decide) ?_
    show Steps p.tables e below (s₁.setTop (mkF m 13 #[.val (.ref a1), .val (.long (((-3750763034362895579 : Int64) ^^^ (((w0 &&& (255 : Int32))).toInt64)) * (1099511628211 : Int64))), .second, .val (.ref a1), .val (.int (3 : Int32)), .val (.int (1 : Int32)), .val (.int w0)] [])) _
    refine XS.iload X0.here hx rfl (hb hby d3_13) rfl ?_
    show Steps p.tables e below (s₁.setTop (mkF m 15 #[.val (.ref a1), .val (.long (((-3750763034362895579 : Int64) ^^^ (((w0 &&& (255 : Int32))).toInt64)) * (1099511628211 : Int64))), .second, .val (.ref a1), .val (.int (3 : Int32)), .val (.int (1 : Int32)), .val (.int w0)] [(.int (1 : Int32))])) _
    refine XS.iload X0.here hx rfl (hb hby d3_15) rfl ?_
    show Steps p.tables e below (s₁.setTop (mkF m 17 #[.val (.ref a1), .val (.long (((-3750763034362895579 : Int64) ^^^ (((w0 &&& (255 : Int32))).toInt64)) * (1099511628211 : Int64))), .second, .val (.ref a1), .val (.int (3 : Int32)), .val (.int (1 : Int32)), .val (.int w0)] [(.int (3 : Int32)), (.int (1 : Int32))])) _
    exact k
  have pre4 : Go p e below (s₁.setTop (entryFrame m #[(.ref a1)] 7)) (s₁.setTop (mkF m 17 #[.val (.ref a1), .val (.long (((((-3750763034362895579 : Int64) ^^^ (((w0 &&& (255 : Int32))).toInt64)) * (1099511628211 : Int64)) ^^^ (((w1 &&& (255 : Int32))).toInt64)) * (1099511628211 : Int64))), .second, .val (.ref a1), .val (.int (3 : Int32)), .val (.int (2 : Int32)), .val (.int w1)] [(.int (3 : Int32)), (.int (2 : Int32))])) := by
    intro t k
    refine pre3 t ?_
    show Steps p.tables e below (s₁.setTop (mkF m 17 #[.val (.ref a1), .val (.long (((-3750763034362895579 : Int64) ^^^ (((w0 &&& (255 : Int32))).toInt64)) * (1099511628211 : Int64))), .second, .val (.ref a1), .val (.int (3 : Int32)), .val (.int (1 : Int32)), .val (.int w0)] [(.int (3 : Int32)), (.int (1 : Int32))])) _
    refine XS.icmpNo X0.here hx rfl (hb hby d3_17) rfl (XT.ii_ge_f (by decide : (1 : Int32) < (3 : Int32))) ?_
    show Steps p.tables e below (s₁.setTop (mkF m 20 #[.val (.ref a1), .val (.long (((-3750763034362895579 : Int64) ^^^ (((w0 &&& (255 : Int32))).toInt64)) * (1099511628211 : Int64))), .second, .val (.ref a1), .val (.int (3 : Int32)), .val (.int (1 : Int32)), .val (.int w0)] [])) _
    refine XS.aloadN X0.here hx rfl (hb hby d3_20) rfl rfl ?_
    show Steps p.tables e below (s₁.setTop (mkF m 21 #[.val (.ref a1), .val (.long (((-3750763034362895579 : Int64) ^^^ (((w0 &&& (255 : Int32))).toInt64)) * (1099511628211 : Int64))), .second, .val (.ref a1), .val (.int (3 : Int32)), .val (.int (1 : Int32)), .val (.int w0)] [(.ref a1)])) _
    refine XS.iload X0.here hx rfl (hb hby d3_21) rfl ?_
    show Steps p.tables e below (s₁.setTop (mkF m 23 #[.val (.ref a1), .val (.long (((-3750763034362895579 : Int64) ^^^ (((w0 &&& (255 : Int32))).toInt64)) * (1099511628211 : Int64))), .second, .val (.ref a1), .val (.int (3 : Int32)), .val (.int (1 : Int32)), .val (.int w0)] [(.int (1 : Int32)), (.ref a1)])) _
    refine X0.baloadBytes hx (j := (1 : Int32)) (v := (.int w1)) (by rw [e0]; exact Ar.1) (State.isArrayOf_alike hZ.alike Ar.2.1) Ar.2.2 (inb_of SS ⟨by decide, by decide⟩) (HH.at (inb_of SS ⟨by decide, by decide⟩) rfl) (g := (mkF m 23 #[.val (.ref a1), .val (.long (((-3750763034362895579 : Int64) ^^^ (((w0 &&& (255 : Int32))).toInt64)) * (1099511628211 : Int64))), .second, .val (.ref a1), .val (.int (3 : Int32)), .val (.int (1 : Int32)), .val (.int w0)] [(.int (1 : Int32)), (.ref a1)])) rfl rfl (hb hby d3_23) _ ?_
    show Steps p.tables e below (s₁.setTop (mkF m 24 #[.val (.ref a1), .val (.long (((-3750763034362895579 : Int64) ^^^ (((w0 &&& (255 : Int32))).toInt64)) * (1099511628211 : Int64))), .second, .val (.ref a1), .val (.int (3 : Int32)), .val (.int (1 : Int32)), .val (.int w0)] [(.int w1)])) _
    refine XS.istore X0.here hx rfl (hb hby d3_24) rfl (l' := #[.val (.ref a1), .val (.long (((-3750763034362895579 : Int64) ^^^ (((w0 &&& (255 : Int32))).toInt64)) * (1099511628211 : Int64))), .second, .val (.ref a1), .val (.int (3 : Int32)), .val (.int (1 : Int32)), .val (.int w1)]) rfl ?_
    show Steps p.tables e below (s₁.setTop (mkF m 26 #[.val (.ref a1), .val (.long (((-3750763034362895579 : Int64) ^^^ (((w0 &&& (255 : Int32))).toInt64)) * (1099511628211 : Int64))), .second, .val (.ref a1), .val (.int (3 : Int32)), .val (.int (1 : Int32)), .val (.int w1)] [])) _
    refine XT.lloadN X0.here hx rfl (hb hby d3_26) rfl ?_
    show Steps p.tables e below (s₁.setTop (mkF m 27 #[.val (.ref a1), .val (.long (((-3750763034362895579 : Int64) ^^^ (((w0 &&& (255 : Int32))).toInt64)) * (1099511628211 : Int64))), .second, .val (.ref a1), .val (.int (3 : Int32)), .val (.int (1 : Int32)), .val (.int w1)] [(.long (((-3750763034362895579 : Int64) ^^^ (((w0 &&& (255 : Int32))).toInt64)) * (1099511628211 : Int64)))])) _
    refine XS.iload X0.here hx rfl (hb hby d3_27) rfl ?_
    show Steps p.tables e below (s₁.setTop (mkF m 29 #[.val (.ref a1), .val (.long (((-3750763034362895579 : Int64) ^^^ (((w0 &&& (255 : Int32))).toInt64)) * (1099511628211 : Int64))), .second, .val (.ref a1), .val (.int (3 : Int32)), .val (.int (1 : Int32)), .val (.int w1)] [(.int w1), (.long (((-3750763034362895579 : Int64) ^^^ (((w0 &&& (255 : Int32))).toInt64)) * (1099511628211 : Int64)))])) _
    refine XS.sipush X0.here hx rfl (hb hby d3_29) ?_
    show Steps p.tables e below (s₁.setTop (mkF m 32 #[.val (.ref a1), .val (.long (((-3750763034362895579 : Int64) ^^^ (((w0 &&& (255 : Int32))).toInt64)) * (1099511628211 : Int64))), .second, .val (.ref a1), .val (.int (3 : Int32)), .val (.int (1 : Int32)), .val (.int w1)] [(.int (255 : Int32)), (.int w1), (.long (((-3750763034362895579 : Int64) ^^^ (((w0 &&& (255 : Int32))).toInt64)) * (1099511628211 : Int64)))])) _
    refine XS.iand X0.here hx rfl (hb hby d3_32) rfl ?_
    show Steps p.tables e below (s₁.setTop (mkF m 33 #[.val (.ref a1), .val (.long (((-3750763034362895579 : Int64) ^^^ (((w0 &&& (255 : Int32))).toInt64)) * (1099511628211 : Int64))), .second, .val (.ref a1), .val (.int (3 : Int32)), .val (.int (1 : Int32)), .val (.int w1)] [(.int (w1 &&& (255 : Int32))), (.long (((-3750763034362895579 : Int64) ^^^ (((w0 &&& (255 : Int32))).toInt64)) * (1099511628211 : Int64)))])) _
    refine XS.i2l X0.here hx rfl (hb hby d3_33) rfl ?_
    show Steps p.tables e below (s₁.setTop (mkF m 34 #[.val (.ref a1), .val (.long (((-3750763034362895579 : Int64) ^^^ (((w0 &&& (255 : Int32))).toInt64)) * (1099511628211 : Int64))), .second, .val (.ref a1), .val (.int (3 : Int32)), .val (.int (1 : Int32)), .val (.int w1)] [(.long (((w1 &&& (255 : Int32))).toInt64)), (.long (((-3750763034362895579 : Int64) ^^^ (((w0 &&& (255 : Int32))).toInt64)) * (1099511628211 : Int64)))])) _
    refine XS.lxor X0.here hx rfl (hb hby d3_34) rfl ?_
    show Steps p.tables e below (s₁.setTop (mkF m 35 #[.val (.ref a1), .val (.long (((-3750763034362895579 : Int64) ^^^ (((w0 &&& (255 : Int32))).toInt64)) * (1099511628211 : Int64))), .second, .val (.ref a1), .val (.int (3 : Int32)), .val (.int (1 : Int32)), .val (.int w1)] [(.long ((((-3750763034362895579 : Int64) ^^^ (((w0 &&& (255 : Int32))).toInt64)) * (1099511628211 : Int64)) ^^^ (((w1 &&& (255 : Int32))).toInt64)))])) _
    refine X0.ldc2J hx hown (mvT hZ (hw _ (List.mem_of_getElem? (i := 13) rfl))) (g := (mkF m 35 #[.val (.ref a1), .val (.long (((-3750763034362895579 : Int64) ^^^ (((w0 &&& (255 : Int32))).toInt64)) * (1099511628211 : Int64))), .second, .val (.ref a1), .val (.int (3 : Int32)), .val (.int (1 : Int32)), .val (.int w1)] [(.long ((((-3750763034362895579 : Int64) ^^^ (((w0 &&& (255 : Int32))).toInt64)) * (1099511628211 : Int64)) ^^^ (((w1 &&& (255 : Int32))).toInt64)))])) rfl (hb hby d3_35) ?_
    show Steps p.tables e below (s₁.setTop (mkF m 38 #[.val (.ref a1), .val (.long (((-3750763034362895579 : Int64) ^^^ (((w0 &&& (255 : Int32))).toInt64)) * (1099511628211 : Int64))), .second, .val (.ref a1), .val (.int (3 : Int32)), .val (.int (1 : Int32)), .val (.int w1)] [(.long (1099511628211 : Int64)), (.long ((((-3750763034362895579 : Int64) ^^^ (((w0 &&& (255 : Int32))).toInt64)) * (1099511628211 : Int64)) ^^^ (((w1 &&& (255 : Int32))).toInt64)))])) _
    refine XS.lmul X0.here hx rfl (hb hby d3_38) rfl ?_
    show Steps p.tables e below (s₁.setTop (mkF m 39 #[.val (.ref a1), .val (.long (((-3750763034362895579 : Int64) ^^^ (((w0 &&& (255 : Int32))).toInt64)) * (1099511628211 : Int64))), .second, .val (.ref a1), .val (.int (3 : Int32)), .val (.int (1 : Int32)), .val (.int w1)] [(.long (((((-3750763034362895579 : Int64) ^^^ (((w0 &&& (255 : Int32))).toInt64)) * (1099511628211 : Int64)) ^^^ (((w1 &&& (255 : Int32))).toInt64)) * (1099511628211 : Int64)))])) _
    refine XT.lstoreN X0.here hx rfl (hb hby d3_39) rfl (l' := #[.val (.ref a1), .val (.long (((((-3750763034362895579 : Int64) ^^^ (((w0 &&& (255 : Int32))).toInt64)) * (1099511628211 : Int64)) ^^^ (((w1 &&& (255 : Int32))).toInt64)) * (1099511628211 : Int64))), .second, .val (.ref a1), .val (.int (3 : Int32)), .val (.int (1 : Int32)), .val (.int w1)]) rfl ?_
    show Steps p.tables e below (s₁.setTop (mkF m 40 #[.val (.ref a1), .val (.long (((((-3750763034362895579 : Int64) ^^^ (((w0 &&& (255 : Int32))).toInt64)) * (1099511628211 : Int64)) ^^^ (((w1 &&& (255 : Int32))).toInt64)) * (1099511628211 : Int64))), .second, .val (.ref a1), .val (.int (3 : Int32)), .val (.int (1 : Int32)), .val (.int w1)] [])) _
    refine XS.iinc X0.here hx rfl (hb hby d3_40) rfl (l' := #[.val (.ref a1), .val (.long (((((-3750763034362895579 : Int64) ^^^ (((w0 &&& (255 : Int32))).toInt64)) * (1099511628211 : Int64)) ^^^ (((w1 &&& (255 : Int32))).toInt64)) * (1099511628211 : Int64))), .second, .val (.ref a1), .val (.int (3 : Int32)), .val (.int (2 : Int32)), .val (.int w1)]) rfl ?_
    show Steps p.tables e below (s₁.setTop (mkF m 43 #[.val (.ref a1), .val (.long (((((-3750763034362895579 : Int64) ^^^ (((w0 &&& (255 : Int32))).toInt64)) * (1099511628211 : Int64)) ^^^ (((w1 &&& (255 : Int32))).toInt64)) * (1099511628211 : Int64))), .second, .val (.ref a1), .val (.int (3 : Int32)), .val (.int (2 : Int32)), .val (.int w1)] [])) _
    refine XS.goto X0.here hx rfl (pc0 := 43) (pc' := 13) rfl (hb hby d3_43) (by decide) (by decide) ?_
    show Steps p.tables e below (s₁.setTop (mkF m 13 #[.val (.ref a1), .val (.long (((((-3750763034362895579 : Int64) ^^^ (((w0 &&& (255 : Int32))).toInt64)) * (1099511628211 : Int64)) ^^^ (((w1 &&& (255 : Int32))).toInt64)) * (1099511628211 : Int64))), .second, .val (.ref a1), .val (.int (3 : Int32)), .val (.int (2 : Int32)), .val (.int w1)] [])) _
    refine XS.iload X0.here hx rfl (hb hby d3_13) rfl ?_
    show Steps p.tables e below (s₁.setTop (mkF m 15 #[.val (.ref a1), .val (.long (((((-3750763034362895579 : Int64) ^^^ (((w0 &&& (255 : Int32))).toInt64)) * (1099511628211 : Int64)) ^^^ (((w1 &&& (255 : Int32))).toInt64)) * (1099511628211 : Int64))), .second, .val (.ref a1), .val (.int (3 : Int32)), .val (.int (2 : Int32)), .val (.int w1)] [(.int (2 : Int32))])) _
    refine XS.iload X0.here hx rfl (hb hby d3_15) rfl ?_
    show Steps p.tables e below (s₁.setTop (mkF m 17 #[.val (.ref a1), .val (.long (((((-3750763034362895579 : Int64) ^^^ (((w0 &&& (255 : Int32))).toInt64)) * (1099511628211 : Int64)) ^^^ (((w1 &&& (255 : Int32))).toInt64)) * (1099511628211 : Int64))), .second, .val (.ref a1), .val (.int (3 : Int32)), .val (.int (2 : Int32)), .val (.int w1)] [(.int (3 : Int32)), (.int (2 : Int32))])) _
    exact k
  have pre5 : Go p e below (s₁.setTop (entryFrame m #[(.ref a1)] 7)) (s₁.setTop (mkF m 17 #[.val (.ref a1), .val (.long (((((((-3750763034362895579 : Int64) ^^^ (((w0 &&& (255 : Int32))).toInt64)) * (1099511628211 : Int64)) ^^^ (((w1 &&& (255 : Int32))).toInt64)) * (1099511628211 : Int64)) ^^^ (((w2 &&& (255 : Int32))).toInt64)) * (1099511628211 : Int64))), .second, .val (.ref a1), .val (.int (3 : Int32)), .val (.int (3 : Int32)), .val (.int w2)] [(.int (3 : Int32)), (.int (3 : Int32))])) := by
    intro t k
    refine pre4 t ?_
    show Steps p.tables e below (s₁.setTop (mkF m 17 #[.val (.ref a1), .val (.long (((((-3750763034362895579 : Int64) ^^^ (((w0 &&& (255 : Int32))).toInt64)) * (1099511628211 : Int64)) ^^^ (((w1 &&& (255 : Int32))).toInt64)) * (1099511628211 : Int64))), .second, .val (.ref a1), .val (.int (3 : Int32)), .val (.int (2 : Int32)), .val (.int w1)] [(.int (3 : Int32)), (.int (2 : Int32))])) _
    refine XS.icmpNo X0.here hx rfl (hb hby d3_17) rfl (XT.ii_ge_f (by decide : (2 : Int32) < (3 : Int32))) ?_
    show Steps p.tables e below (s₁.setTop (mkF m 20 #[.val (.ref a1), .val (.long (((((-3750763034362895579 : Int64) ^^^ (((w0 &&& (255 : Int32))).toInt64)) * (1099511628211 : Int64)) ^^^ (((w1 &&& (255 : Int32))).toInt64)) * (1099511628211 : Int64))), .second, .val (.ref a1), .val (.int (3 : Int32)), .val (.int (2 : Int32)), .val (.int w1)] [])) _
    refine XS.aloadN X0.here hx rfl (hb hby d3_20) rfl rfl ?_
    show Steps p.tables e below (s₁.setTop (mkF m 21 #[.val (.ref a1), .val (.long (((((-3750763034362895579 : Int64) ^^^ (((w0 &&& (255 : Int32))).toInt64)) * (1099511628211 : Int64)) ^^^ (((w1 &&& (255 : Int32))).toInt64)) * (1099511628211 : Int64))), .second, .val (.ref a1), .val (.int (3 : Int32)), .val (.int (2 : Int32)), .val (.int w1)] [(.ref a1)])) _
    refine XS.iload X0.here hx rfl (hb hby d3_21) rfl ?_
    show Steps p.tables e below (s₁.setTop (mkF m 23 #[.val (.ref a1), .val (.long (((((-3750763034362895579 : Int64) ^^^ (((w0 &&& (255 : Int32))).toInt64)) * (1099511628211 : Int64)) ^^^ (((w1 &&& (255 : Int32))).toInt64)) * (1099511628211 : Int64))), .second, .val (.ref a1), .val (.int (3 : Int32)), .val (.int (2 : Int32)), .val (.int w1)] [(.int (2 : Int32)), (.ref a1)])) _
    refine X0.baloadBytes hx (j := (2 : Int32)) (v := (.int w2)) (by rw [e0]; exact Ar.1) (State.isArrayOf_alike hZ.alike Ar.2.1) Ar.2.2 (inb_of SS ⟨by decide, by decide⟩) (HH.at (inb_of SS ⟨by decide, by decide⟩) rfl) (g := (mkF m 23 #[.val (.ref a1), .val (.long (((((-3750763034362895579 : Int64) ^^^ (((w0 &&& (255 : Int32))).toInt64)) * (1099511628211 : Int64)) ^^^ (((w1 &&& (255 : Int32))).toInt64)) * (1099511628211 : Int64))), .second, .val (.ref a1), .val (.int (3 : Int32)), .val (.int (2 : Int32)), .val (.int w1)] [(.int (2 : Int32)), (.ref a1)])) rfl rfl (hb hby d3_23) _ ?_
    show Steps p.tables e below (s₁.setTop (mkF m 24 #[.val (.ref a1), .val (.long (((((-3750763034362895579 : Int64) ^^^ (((w0 &&& (255 : Int32))).toInt64)) * (1099511628211 : Int64)) ^^^ (((w1 &&& (255 : Int32))).toInt64)) * (1099511628211 : Int64))), .second, .val (.ref a1), .val (.int (3 : Int32)), .val (.int (2 : Int32)), .val (.int w1)] [(.int w2)])) _
    refine XS.istore X0.here hx rfl (hb hby d3_24) rfl (l' := #[.val (.ref a1), .val (.long (((((-3750763034362895579 : Int64) ^^^ (((w0 &&& (255 : Int32))).toInt64)) * (1099511628211 : Int64)) ^^^ (((w1 &&& (255 : Int32))).toInt64)) * (1099511628211 : Int64))), .second, .val (.ref a1), .val (.int (3 : Int32)), .val (.int (2 : Int32)), .val (.int w2)]) rfl ?_
    show Steps p.tables e below (s₁.setTop (mkF m 26 #[.val (.ref a1), .val (.long (((((-3750763034362895579 : Int64) ^^^ (((w0 &&& (255 : Int32))).toInt64)) * (1099511628211 : Int64)) ^^^ (((w1 &&& (255 : Int32))).toInt64)) * (1099511628211 : Int64))), .second, .val (.ref a1), .val (.int (3 : Int32)), .val (.int (2 : Int32)), .val (.int w2)] [])) _
    refine XT.lloadN X0.here hx rfl (hb hby d3_26) rfl ?_
    show Steps p.tables e below (s₁.setTop (mkF m 27 #[.val (.ref a1), .val (.long (((((-3750763034362895579 : Int64) ^^^ (((w0 &&& (255 : Int32))).toInt64)) * (1099511628211 : Int64)) ^^^ (((w1 &&& (255 : Int32))).toInt64)) * (1099511628211 : Int64))), .second, .val (.ref a1), .val (.int (3 : Int32)), .val (.int (2 : Int32)), .val (.int w2)] [(.long (((((-3750763034362895579 : Int64) ^^^ (((w0 &&& (255 : Int32))).toInt64)) * (1099511628211 : Int64)) ^^^ (((w1 &&& (255 : Int32))).toInt64)) * (1099511628211 : Int64)))])) _
    refine XS.iload X0.here hx rfl (hb hby d3_27) rfl ?_
    show Steps p.tables e below (s₁.setTop (mkF m 29 #[.val (.ref a1), .val (.long (((((-3750763034362895579 : Int64) ^^^ (((w0 &&& (255 : Int32))).toInt64)) * (1099511628211 : Int64)) ^^^ (((w1 &&& (255 : Int32))).toInt64)) * (1099511628211 : Int64))), .second, .val (.ref a1), .val (.int (3 : Int32)), .val (.int (2 : Int32)), .val (.int w2)] [(.int w2), (.long (((((-3750763034362895579 : Int64) ^^^ (((w0 &&& (255 : Int32))).toInt64)) * (1099511628211 : Int64)) ^^^ (((w1 &&& (255 : Int32))).toInt64)) * (1099511628211 : Int64)))])) _
    refine XS.sipush X0.here hx rfl (hb hby d3_29) ?_
    show Steps p.tables e below (s₁.setTop (mkF m 32 #[.val (.ref a1), .val (.long (((((-3750763034362895579 : Int64) ^^^ (((w0 &&& (255 : Int32))).toInt64)) * (1099511628211 : Int64)) ^^^ (((w1 &&& (255 : Int32))).toInt64)) * (1099511628211 : Int64))), .second, .val (.ref a1), .val (.int (3 : Int32)), .val (.int (2 : Int32)), .val (.int w2)] [(.int (255 : Int32)), (.int w2), (.long (((((-3750763034362895579 : Int64) ^^^ (((w0 &&& (255 : Int32))).toInt64)) * (1099511628211 : Int64)) ^^^ (((w1 &&& (255 : Int32))).toInt64)) * (1099511628211 : Int64)))])) _
    refine XS.iand X0.here hx rfl (hb hby d3_32) rfl ?_
    show Steps p.tables e below (s₁.setTop (mkF m 33 #[.val (.ref a1), .val (.long (((((-3750763034362895579 : Int64) ^^^ (((w0 &&& (255 : Int32))).toInt64)) * (1099511628211 : Int64)) ^^^ (((w1 &&& (255 : Int32))).toInt64)) * (1099511628211 : Int64))), .second, .val (.ref a1), .val (.int (3 : Int32)), .val (.int (2 : Int32)), .val (.int w2)] [(.int (w2 &&& (255 : Int32))), (.long (((((-3750763034362895579 : Int64) ^^^ (((w0 &&& (255 : Int32))).toInt64)) * (1099511628211 : Int64)) ^^^ (((w1 &&& (255 : Int32))).toInt64)) * (1099511628211 : Int64)))])) _
    refine XS.i2l X0.here hx rfl (hb hby d3_33) rfl ?_
    show Steps p.tables e below (s₁.setTop (mkF m 34 #[.val (.ref a1), .val (.long (((((-3750763034362895579 : Int64) ^^^ (((w0 &&& (255 : Int32))).toInt64)) * (1099511628211 : Int64)) ^^^ (((w1 &&& (255 : Int32))).toInt64)) * (1099511628211 : Int64))), .second, .val (.ref a1), .val (.int (3 : Int32)), .val (.int (2 : Int32)), .val (.int w2)] [(.long (((w2 &&& (255 : Int32))).toInt64)), (.long (((((-3750763034362895579 : Int64) ^^^ (((w0 &&& (255 : Int32))).toInt64)) * (1099511628211 : Int64)) ^^^ (((w1 &&& (255 : Int32))).toInt64)) * (1099511628211 : Int64)))])) _
    refine XS.lxor X0.here hx rfl (hb hby d3_34) rfl ?_
    show Steps p.tables e below (s₁.setTop (mkF m 35 #[.val (.ref a1), .val (.long (((((-3750763034362895579 : Int64) ^^^ (((w0 &&& (255 : Int32))).toInt64)) * (1099511628211 : Int64)) ^^^ (((w1 &&& (255 : Int32))).toInt64)) * (1099511628211 : Int64))), .second, .val (.ref a1), .val (.int (3 : Int32)), .val (.int (2 : Int32)), .val (.int w2)] [(.long ((((((-3750763034362895579 : Int64) ^^^ (((w0 &&& (255 : Int32))).toInt64)) * (1099511628211 : Int64)) ^^^ (((w1 &&& (255 : Int32))).toInt64)) * (1099511628211 : Int64)) ^^^ (((w2 &&& (255 : Int32))).toInt64)))])) _
    refine X0.ldc2J hx hown (mvT hZ (hw _ (List.mem_of_getElem? (i := 13) rfl))) (g := (mkF m 35 #[.val (.ref a1), .val (.long (((((-3750763034362895579 : Int64) ^^^ (((w0 &&& (255 : Int32))).toInt64)) * (1099511628211 : Int64)) ^^^ (((w1 &&& (255 : Int32))).toInt64)) * (1099511628211 : Int64))), .second, .val (.ref a1), .val (.int (3 : Int32)), .val (.int (2 : Int32)), .val (.int w2)] [(.long ((((((-3750763034362895579 : Int64) ^^^ (((w0 &&& (255 : Int32))).toInt64)) * (1099511628211 : Int64)) ^^^ (((w1 &&& (255 : Int32))).toInt64)) * (1099511628211 : Int64)) ^^^ (((w2 &&& (255 : Int32))).toInt64)))])) rfl (hb hby d3_35) ?_
    show Steps p.tables e below (s₁.setTop (mkF m 38 #[.val (.ref a1), .val (.long (((((-3750763034362895579 : Int64) ^^^ (((w0 &&& (255 : Int32))).toInt64)) * (1099511628211 : Int64)) ^^^ (((w1 &&& (255 : Int32))).toInt64)) * (1099511628211 : Int64))), .second, .val (.ref a1), .val (.int (3 : Int32)), .val (.int (2 : Int32)), .val (.int w2)] [(.long (1099511628211 : Int64)), (.long ((((((-3750763034362895579 : Int64) ^^^ (((w0 &&& (255 : Int32))).toInt64)) * (1099511628211 : Int64)) ^^^ (((w1 &&& (255 : Int32))).toInt64)) * (1099511628211 : Int64)) ^^^ (((w2 &&& (255 : Int32))).toInt64)))])) _
    refine XS.lmul X0.here hx rfl (hb hby d3_38) rfl ?_
    show Steps p.tables e below (s₁.setTop (mkF m 39 #[.val (.ref a1), .val (.long (((((-3750763034362895579 : Int64) ^^^ (((w0 &&& (255 : Int32))).toInt64)) * (1099511628211 : Int64)) ^^^ (((w1 &&& (255 : Int32))).toInt64)) * (1099511628211 : Int64))), .second, .val (.ref a1), .val (.int (3 : Int32)), .val (.int (2 : Int32)), .val (.int w2)] [(.long (((((((-3750763034362895579 : Int64) ^^^ (((w0 &&& (255 : Int32))).toInt64)) * (1099511628211 : Int64)) ^^^ (((w1 &&& (255 : Int32))).toInt64)) * (1099511628211 : Int64)) ^^^ (((w2 &&& (255 : Int32))).toInt64)) * (1099511628211 : Int64)))])) _
    refine XT.lstoreN X0.here hx rfl (hb hby d3_39) rfl (l' := #[.val (.ref a1), .val (.long (((((((-3750763034362895579 : Int64) ^^^ (((w0 &&& (255 : Int32))).toInt64)) * (1099511628211 : Int64)) ^^^ (((w1 &&& (255 : Int32))).toInt64)) * (1099511628211 : Int64)) ^^^ (((w2 &&& (255 : Int32))).toInt64)) * (1099511628211 : Int64))), .second, .val (.ref a1), .val (.int (3 : Int32)), .val (.int (2 : Int32)), .val (.int w2)]) rfl ?_
    show Steps p.tables e below (s₁.setTop (mkF m 40 #[.val (.ref a1), .val (.long (((((((-3750763034362895579 : Int64) ^^^ (((w0 &&& (255 : Int32))).toInt64)) * (1099511628211 : Int64)) ^^^ (((w1 &&& (255 : Int32))).toInt64)) * (1099511628211 : Int64)) ^^^ (((w2 &&& (255 : Int32))).toInt64)) * (1099511628211 : Int64))), .second, .val (.ref a1), .val (.int (3 : Int32)), .val (.int (2 : Int32)), .val (.int w2)] [])) _
    refine XS.iinc X0.here hx rfl (hb hby d3_40) rfl (l' := #[.val (.ref a1), .val (.long (((((((-3750763034362895579 : Int64) ^^^ (((w0 &&& (255 : Int32))).toInt64)) * (1099511628211 : Int64)) ^^^ (((w1 &&& (255 : Int32))).toInt64)) * (1099511628211 : Int64)) ^^^ (((w2 &&& (255 : Int32))).toInt64)) * (1099511628211 : Int64))), .second, .val (.ref a1), .val (.int (3 : Int32)), .val (.int (3 : Int32)), .val (.int w2)]) rfl ?_
    show Steps p.tables e below (s₁.setTop (mkF m 43 #[.val (.ref a1), .val (.long (((((((-3750763034362895579 : Int64) ^^^ (((w0 &&& (255 : Int32))).toInt64)) * (1099511628211 : Int64)) ^^^ (((w1 &&& (255 : Int32))).toInt64)) * (1099511628211 : Int64)) ^^^ (((w2 &&& (255 : Int32))).toInt64)) * (1099511628211 : Int64))), .second, .val (.ref a1), .val (.int (3 : Int32)), .val (.int (3 : Int32)), .val (.int w2)] [])) _
    refine XS.goto X0.here hx rfl (pc0 := 43) (pc' := 13) rfl (hb hby d3_43) (by decide) (by decide) ?_
    show Steps p.tables e below (s₁.setTop (mkF m 13 #[.val (.ref a1), .val (.long (((((((-3750763034362895579 : Int64) ^^^ (((w0 &&& (255 : Int32))).toInt64)) * (1099511628211 : Int64)) ^^^ (((w1 &&& (255 : Int32))).toInt64)) * (1099511628211 : Int64)) ^^^ (((w2 &&& (255 : Int32))).toInt64)) * (1099511628211 : Int64))), .second, .val (.ref a1), .val (.int (3 : Int32)), .val (.int (3 : Int32)), .val (.int w2)] [])) _
    refine XS.iload X0.here hx rfl (hb hby d3_13) rfl ?_
    show Steps p.tables e below (s₁.setTop (mkF m 15 #[.val (.ref a1), .val (.long (((((((-3750763034362895579 : Int64) ^^^ (((w0 &&& (255 : Int32))).toInt64)) * (1099511628211 : Int64)) ^^^ (((w1 &&& (255 : Int32))).toInt64)) * (1099511628211 : Int64)) ^^^ (((w2 &&& (255 : Int32))).toInt64)) * (1099511628211 : Int64))), .second, .val (.ref a1), .val (.int (3 : Int32)), .val (.int (3 : Int32)), .val (.int w2)] [(.int (3 : Int32))])) _
    refine XS.iload X0.here hx rfl (hb hby d3_15) rfl ?_
    show Steps p.tables e below (s₁.setTop (mkF m 17 #[.val (.ref a1), .val (.long (((((((-3750763034362895579 : Int64) ^^^ (((w0 &&& (255 : Int32))).toInt64)) * (1099511628211 : Int64)) ^^^ (((w1 &&& (255 : Int32))).toInt64)) * (1099511628211 : Int64)) ^^^ (((w2 &&& (255 : Int32))).toInt64)) * (1099511628211 : Int64))), .second, .val (.ref a1), .val (.int (3 : Int32)), .val (.int (3 : Int32)), .val (.int w2)] [(.int (3 : Int32)), (.int (3 : Int32))])) _
    exact k
  have pre6 : Go p e below (s₁.setTop (entryFrame m #[(.ref a1)] 7)) (s₁.setTop (mkF m 47 #[.val (.ref a1), .val (.long (((((((-3750763034362895579 : Int64) ^^^ (((w0 &&& (255 : Int32))).toInt64)) * (1099511628211 : Int64)) ^^^ (((w1 &&& (255 : Int32))).toInt64)) * (1099511628211 : Int64)) ^^^ (((w2 &&& (255 : Int32))).toInt64)) * (1099511628211 : Int64))), .second, .val (.ref a1), .val (.int (3 : Int32)), .val (.int (3 : Int32)), .val (.int w2)] [(.long (((((((-3750763034362895579 : Int64) ^^^ (((w0 &&& (255 : Int32))).toInt64)) * (1099511628211 : Int64)) ^^^ (((w1 &&& (255 : Int32))).toInt64)) * (1099511628211 : Int64)) ^^^ (((w2 &&& (255 : Int32))).toInt64)) * (1099511628211 : Int64)))])) := by
    intro t k
    refine pre5 t ?_
    show Steps p.tables e below (s₁.setTop (mkF m 17 #[.val (.ref a1), .val (.long (((((((-3750763034362895579 : Int64) ^^^ (((w0 &&& (255 : Int32))).toInt64)) * (1099511628211 : Int64)) ^^^ (((w1 &&& (255 : Int32))).toInt64)) * (1099511628211 : Int64)) ^^^ (((w2 &&& (255 : Int32))).toInt64)) * (1099511628211 : Int64))), .second, .val (.ref a1), .val (.int (3 : Int32)), .val (.int (3 : Int32)), .val (.int w2)] [(.int (3 : Int32)), (.int (3 : Int32))])) _
    refine XS.icmpYes X0.here hx rfl (pc0 := 17) (pc' := 46) rfl (hb hby d3_17) rfl (XT.ii_ge_t (by decide : ¬ ((3 : Int32) < (3 : Int32)))) (by decide) (by decide) ?_
    show Steps p.tables e below (s₁.setTop (mkF m 46 #[.val (.ref a1), .val (.long (((((((-3750763034362895579 : Int64) ^^^ (((w0 &&& (255 : Int32))).toInt64)) * (1099511628211 : Int64)) ^^^ (((w1 &&& (255 : Int32))).toInt64)) * (1099511628211 : Int64)) ^^^ (((w2 &&& (255 : Int32))).toInt64)) * (1099511628211 : Int64))), .second, .val (.ref a1), .val (.int (3 : Int32)), .val (.int (3 : Int32)), .val (.int w2)] [])) _
    refine XT.lloadN X0.here hx rfl (hb hby d3_46) rfl ?_
    show Steps p.tables e below (s₁.setTop (mkF m 47 #[.val (.ref a1), .val (.long (((((((-3750763034362895579 : Int64) ^^^ (((w0 &&& (255 : Int32))).toInt64)) * (1099511628211 : Int64)) ^^^ (((w1 &&& (255 : Int32))).toInt64)) * (1099511628211 : Int64)) ^^^ (((w2 &&& (255 : Int32))).toInt64)) * (1099511628211 : Int64))), .second, .val (.ref a1), .val (.int (3 : Int32)), .val (.int (3 : Int32)), .val (.int w2)] [(.long (((((((-3750763034362895579 : Int64) ^^^ (((w0 &&& (255 : Int32))).toInt64)) * (1099511628211 : Int64)) ^^^ (((w1 &&& (255 : Int32))).toInt64)) * (1099511628211 : Int64)) ^^^ (((w2 &&& (255 : Int32))).toInt64)) * (1099511628211 : Int64)))])) _
    exact k
  obtain ⟨fs, hr, hrun, hended, hW, hsame⟩ := X0.leave (hlocks := hlk) (v := some (.long (((((((-3750763034362895579 : Int64) ^^^ (((w0 &&& (255 : Int32))).toInt64)) * (1099511628211 : Int64)) ^^^ (((w1 &&& (255 : Int32))).toInt64)) * (1099511628211 : Int64)) ^^^ (((w2 &&& (255 : Int32))).toInt64)) * (1099511628211 : Int64)))) (fun h => by rw [Bd.returns] at h; cases h)
  refine ⟨_, _, pre6 _ (retJ X0 hx Bd.returns (hb hby d3_47) hr), hrun, hended, _, _, rfl, ?_, ⟨_, rfl⟩, hW, hsame.mono (by decide) (by decide)⟩
  show Q3_3 Z a1 kk w0 w1 w2 h0 n0 _ s₁.heap _
  rw [e0]
  exact ⟨congrArg some (congrArg Value.long (show (((((((-3750763034362895579 : Int64) ^^^ (((w0 &&& (255 : Int32))).toInt64)) * (1099511628211 : Int64)) ^^^ (((w1 &&& (255 : Int32))).toInt64)) * (1099511628211 : Int64)) ^^^ (((w2 &&& (255 : Int32))).toInt64)) * (1099511628211 : Int64)) = fnv3 w0 w1 w2 from by rw [fnv3])), N0, rfl⟩
theorem ef_3_4 (m : MethodId) (a1 : Addr) : entryFrame m #[(.ref a1)] 7 = mkF m 0 #[.val (.ref a1), .unset, .unset, .unset, .unset, .unset, .unset] [] := by first | (simp [entryFrame, mkF, argsToLocals, Value.category]; done) | rfl
def fnv4 (w0 : Int32) (w1 : Int32) (w2 : Int32) (w3 : Int32) : Int64 := (((((((((-3750763034362895579 : Int64) ^^^ (((w0 &&& (255 : Int32))).toInt64)) * (1099511628211 : Int64)) ^^^ (((w1 &&& (255 : Int32))).toInt64)) * (1099511628211 : Int64)) ^^^ (((w2 &&& (255 : Int32))).toInt64)) * (1099511628211 : Int64)) ^^^ (((w3 &&& (255 : Int32))).toInt64)) * (1099511628211 : Int64))
def Q3_4 (Z : State) (a1 : Addr) (kk : ClassId) (w0 : Int32) (w1 : Int32) (w2 : Int32) (w3 : Int32) (h0 : Heap) (n0 : Nat) (v : Option Value) (h : Heap) (L : List Loc) : Prop := v = some (.long (fnv4 w0 w1 w2 w3)) ∧ Fr n0 L ∧ h = h0
set_option maxRecDepth 65536 in
set_option maxHeartbeats 40000000 in
theorem rm3_4 (l : Launch) (Z : State) (a0 : Array Value) (hw : ∀ d ∈ tables_1, d.before a0 Z = true) (ws : List Jvm.Cond) (a1 : Addr) (kk : ClassId) (w0 : Int32) (w1 : Int32) (w2 : Int32) (w3 : Int32) (h0 : Heap) (n0 : Nat) (Z0 : n0 ≤ h0.size) (V1 : Arv Z h0 a1 kk .byte (4 : Int32) [(.int w0), (.int w1), (.int w2), (.int w3)] (.int (0 : Int32))) :
    MetFree l (⟨"com/example/seshat/seshat/filter/Probe", "fnv1a", "([B)J"⟩ : MethodName) (head1 (Jvm.Cond.code (⟨"com/example/seshat/seshat/filter/Probe", "fnv1a", "([B)J"⟩ : MethodName) prog_6_method_7_code 7 (some .long) :: ws) ({ frames := 0, cells := 0, slots := 0, locals := 0 } : Room)) (fun a U => a = #[(.ref a1)] ∧ Z.Warmed39 U.vm ∧ U.heap = h0) (fun _ _ _ _ _ => True) (fun _ U o U' => ∃ v L, o = .returned v ∧ Q3_4 Z a1 kk w0 w1 w2 w3 h0 n0 v U'.heap L ∧ FrameEnd U o U' L ({ frames := 0, cells := 0, slots := 0, locals := 0 } : Room).cells ({ frames := 0, cells := 0, slots := 0, locals := 0 } : Room).slots) := by
  refine MetFree.of_bodySF (plainFor_of_name pn_com_example_seshat_seshat_filter_Probe) hisR ?_
  intro p e s m args below meth c s₁ Bd hml0 hP hK
  obtain ⟨rfl, hZ, hh⟩ := hP
  have hx := Bd.exec
  have hby := Bd.bytes
  have hml : c.maxLocals = 7 := hml0
  have hown : s.vm.findClass "com/example/seshat/seshat/filter/Probe" = some m.cls := findClass_of_methodNamed Bd.named
  have hnm := (name_of_methodNamed Bd.named Bd.method).1
  have hlk : meth.locks = false := BodyLoose.notSynchronized Bd
  have X0 : Stand p l e ({ frames := 0, cells := 0, slots := 0, locals := 0 } : Room) s m #[(.ref a1)] below meth c s₁ [] 0 0 := Stand.of_body Bd
  have e0 : s₁.heap = h0 := by rw [← hh, Bd.state]; rfl
  have N0 := Fr.nil n0
  have pre0 : Go p e below (s₁.setTop (entryFrame m #[(.ref a1)] 7)) (s₁.setTop (mkF m 0 #[.val (.ref a1), .unset, .unset, .unset, .unset, .unset, .unset] [])) := fun t k => castTop (ef_3_4 m a1) k
  have pre1 : Go p e below (s₁.setTop (entryFrame m #[(.ref a1)] 7)) (s₁.setTop (mkF m 7 #[.val (.ref a1), .val (.long (-3750763034362895579 : Int64)), .second, .val (.ref a1), .unset, .unset, .unset] [(.ref a1)])) := by
    intro t k
    refine pre0 t ?_
    show Steps p.tables e below (s₁.setTop (mkF m 0 #[.val (.ref a1), .unset, .unset, .unset, .unset, .unset, .unset] [])) _
    refine X0.ldc2J hx hown (mvT hZ (hw _ (List.mem_of_getElem? (i := 12) rfl))) (g := (mkF m 0 #[.val (.ref a1), .unset, .unset, .unset, .unset, .unset, .unset] [])) rfl (hb hby d3_0) ?_
    show Steps p.tables e below (s₁.setTop (mkF m 3 #[.val (.ref a1), .unset, .unset, .unset, .unset, .unset, .unset] [(.long (-3750763034362895579 : Int64))])) _
    refine XT.lstoreN X0.here hx rfl (hb hby d3_3) rfl (l' := #[.val (.ref a1), .val (.long (-3750763034362895579 : Int64)), .second, .unset, .unset, .unset, .unset]) rfl ?_
    show Steps p.tables e below (s₁.setTop (mkF m 4 #[.val (.ref a1), .val (.long (-3750763034362895579 : Int64)), .second, .unset, .unset, .unset, .unset] [])) _
    refine XS.aloadN X0.here hx rfl (hb hby d3_4) rfl rfl ?_
    show Steps p.tables e below (s₁.setTop (mkF m 5 #[.val (.ref a1), .val (.long (-3750763034362895579 : Int64)), .second, .unset, .unset, .unset, .unset] [(.ref a1)])) _
    refine XS.astoreN X0.here hx rfl (hb hby d3_5) rfl rfl (l' := #[.val (.ref a1), .val (.long (-3750763034362895579 : Int64)), .second, .val (.ref a1), .unset, .unset, .unset]) rfl ?_
    show Steps p.tables e below (s₁.setTop (mkF m 6 #[.val (.ref a1), .val (.long (-3750763034362895579 : Int64)), .second, .val (.ref a1), .unset, .unset, .unset] [])) _
    refine XS.aloadN X0.here hx rfl (hb hby d3_6) rfl rfl ?_
    show Steps p.tables e below (s₁.setTop (mkF m 7 #[.val (.ref a1), .val (.long (-3750763034362895579 : Int64)), .second, .val (.ref a1), .unset, .unset, .unset] [(.ref a1)])) _
    exact k
  obtain ⟨cl, Ar, -, SS, NN, HH, -⟩ := V1
  have pre2 : Go p e below (s₁.setTop (entryFrame m #[(.ref a1)] 7)) (s₁.setTop (mkF m 17 #[.val (.ref a1), .val (.long (-3750763034362895579 : Int64)), .second, .val (.ref a1), .val (.int (4 : Int32)), .val (.int (0 : Int32)), .unset] [(.int (4 : Int32)), (.int (0 : Int32))])) := by
    intro t k
    refine pre1 t ?_
    show Steps p.tables e below (s₁.setTop (mkF m 7 #[.val (.ref a1), .val (.long (-3750763034362895579 : Int64)), .second, .val (.ref a1), .unset, .unset, .unset] [(.ref a1)])) _
    refine X0.arraylength hx (by rw [e0]; exact Ar.1) (State.isArrayOf_alike hZ.alike Ar.2.1) (g := (mkF m 7 #[.val (.ref a1), .val (.long (-3750763034362895579 : Int64)), .second, .val (.ref a1), .unset, .unset, .unset] [(.ref a1)])) rfl rfl (hb hby d3_7) _ ?_
    rw [len_of SS NN]
    show Steps p.tables e below (s₁.setTop (mkF m 8 #[.val (.ref a1), .val (.long (-3750763034362895579 : Int64)), .second, .val (.ref a1), .unset, .unset, .unset] [(.int (4 : Int32))])) _
    refine XS.istore X0.here hx rfl (hb hby d3_8) rfl (l' := #[.val (.ref a1), .val (.long (-3750763034362895579 : Int64)), .second, .val (.ref a1), .val (.int (4 : Int32)), .unset, .unset]) rfl ?_
    show Steps p.tables e below (s₁.setTop (mkF m 10 #[.val (.ref a1), .val (.long (-3750763034362895579 : Int64)), .second, .val (.ref a1), .val (.int (4 : Int32)), .unset, .unset] [])) _
    refine XS.iconst X0.here hx rfl (hb hby d3_10) ?_
    show Steps p.tables e below (s₁.setTop (mkF m 11 #[.val (.ref a1), .val (.long (-3750763034362895579 : Int64)), .second, .val (.ref a1), .val (.int (4 : Int32)), .unset, .unset] [(.int (0 : Int32))])) _
    refine XS.istore X0.here hx rfl (hb hby d3_11) rfl (l' := #[.val (.ref a1), .val (.long (-3750763034362895579 : Int64)), .second, .val (.ref a1), .val (.int (4 : Int32)), .val (.int (0 : Int32)), .unset]) rfl ?_
    show Steps p.tables e below (s₁.setTop (mkF m 13 #[.val (.ref a1), .val (.long (-3750763034362895579 : Int64)), .second, .val (.ref a1), .val (.int (4 : Int32)), .val (.int (0 : Int32)), .unset] [])) _
    refine XS.iload X0.here hx rfl (hb hby d3_13) rfl ?_
    show Steps p.tables e below (s₁.setTop (mkF m 15 #[.val (.ref a1), .val (.long (-3750763034362895579 : Int64)), .second, .val (.ref a1), .val (.int (4 : Int32)), .val (.int (0 : Int32)), .unset] [(.int (0 : Int32))])) _
    refine XS.iload X0.here hx rfl (hb hby d3_15) rfl ?_
    show Steps p.tables e below (s₁.setTop (mkF m 17 #[.val (.ref a1), .val (.long (-3750763034362895579 : Int64)), .second, .val (.ref a1), .val (.int (4 : Int32)), .val (.int (0 : Int32)), .unset] [(.int (4 : Int32)), (.int (0 : Int32))])) _
    exact k
  have pre3 : Go p e below (s₁.setTop (entryFrame m #[(.ref a1)] 7)) (s₁.setTop (mkF m 17 #[.val (.ref a1), .val (.long (((-3750763034362895579 : Int64) ^^^ (((w0 &&& (255 : Int32))).toInt64)) * (1099511628211 : Int64))), .second, .val (.ref a1), .val (.int (4 : Int32)), .val (.int (1 : Int32)), .val (.int w0)] [(.int (4 : Int32)), (.int (1 : Int32))])) := by
    intro t k
    refine pre2 t ?_
    show Steps p.tables e below (s₁.setTop (mkF m 17 #[.val (.ref a1), .val (.long (-3750763034362895579 : Int64)), .second, .val (.ref a1), .val (.int (4 : Int32)), .val (.int (0 : Int32)), .unset] [(.int (4 : Int32)), (.int (0 : Int32))])) _
    refine XS.icmpNo X0.here hx rfl (hb hby d3_17) rfl (XT.ii_ge_f (by decide : (0 : Int32) < (4 : Int32))) ?_
    show Steps p.tables e below (s₁.setTop (mkF m 20 #[.val (.ref a1), .val (.long (-3750763034362895579 : Int64)), .second, .val (.ref a1), .val (.int (4 : Int32)), .val (.int (0 : Int32)), .unset] [])) _
    refine XS.aloadN X0.here hx rfl (hb hby d3_20) rfl rfl ?_
    show Steps p.tables e below (s₁.setTop (mkF m 21 #[.val (.ref a1), .val (.long (-3750763034362895579 : Int64)), .second, .val (.ref a1), .val (.int (4 : Int32)), .val (.int (0 : Int32)), .unset] [(.ref a1)])) _
    refine XS.iload X0.here hx rfl (hb hby d3_21) rfl ?_
    show Steps p.tables e below (s₁.setTop (mkF m 23 #[.val (.ref a1), .val (.long (-3750763034362895579 : Int64)), .second, .val (.ref a1), .val (.int (4 : Int32)), .val (.int (0 : Int32)), .unset] [(.int (0 : Int32)), (.ref a1)])) _
    refine X0.baloadBytes hx (j := (0 : Int32)) (v := (.int w0)) (by rw [e0]; exact Ar.1) (State.isArrayOf_alike hZ.alike Ar.2.1) Ar.2.2 (inb_of SS ⟨by decide, by decide⟩) (HH.at (inb_of SS ⟨by decide, by decide⟩) rfl) (g := (mkF m 23 #[.val (.ref a1), .val (.long (-3750763034362895579 : Int64)), .second, .val (.ref a1), .val (.int (4 : Int32)), .val (.int (0 : Int32)), .unset] [(.int (0 : Int32)), (.ref a1)])) rfl rfl (hb hby d3_23) _ ?_
    show Steps p.tables e below (s₁.setTop (mkF m 24 #[.val (.ref a1), .val (.long (-3750763034362895579 : Int64)), .second, .val (.ref a1), .val (.int (4 : Int32)), .val (.int (0 : Int32)), .unset] [(.int w0)])) _
    refine XS.istore X0.here hx rfl (hb hby d3_24) rfl (l' := #[.val (.ref a1), .val (.long (-3750763034362895579 : Int64)), .second, .val (.ref a1), .val (.int (4 : Int32)), .val (.int (0 : Int32)), .val (.int w0)]) rfl ?_
    show Steps p.tables e below (s₁.setTop (mkF m 26 #[.val (.ref a1), .val (.long (-3750763034362895579 : Int64)), .second, .val (.ref a1), .val (.int (4 : Int32)), .val (.int (0 : Int32)), .val (.int w0)] [])) _
    refine XT.lloadN X0.here hx rfl (hb hby d3_26) rfl ?_
    show Steps p.tables e below (s₁.setTop (mkF m 27 #[.val (.ref a1), .val (.long (-3750763034362895579 : Int64)), .second, .val (.ref a1), .val (.int (4 : Int32)), .val (.int (0 : Int32)), .val (.int w0)] [(.long (-3750763034362895579 : Int64))])) _
    refine XS.iload X0.here hx rfl (hb hby d3_27) rfl ?_
    show Steps p.tables e below (s₁.setTop (mkF m 29 #[.val (.ref a1), .val (.long (-3750763034362895579 : Int64)), .second, .val (.ref a1), .val (.int (4 : Int32)), .val (.int (0 : Int32)), .val (.int w0)] [(.int w0), (.long (-3750763034362895579 : Int64))])) _
    refine XS.sipush X0.here hx rfl (hb hby d3_29) ?_
    show Steps p.tables e below (s₁.setTop (mkF m 32 #[.val (.ref a1), .val (.long (-3750763034362895579 : Int64)), .second, .val (.ref a1), .val (.int (4 : Int32)), .val (.int (0 : Int32)), .val (.int w0)] [(.int (255 : Int32)), (.int w0), (.long (-3750763034362895579 : Int64))])) _
    refine XS.iand X0.here hx rfl (hb hby d3_32) rfl ?_
    show Steps p.tables e below (s₁.setTop (mkF m 33 #[.val (.ref a1), .val (.long (-3750763034362895579 : Int64)), .second, .val (.ref a1), .val (.int (4 : Int32)), .val (.int (0 : Int32)), .val (.int w0)] [(.int (w0 &&& (255 : Int32))), (.long (-3750763034362895579 : Int64))])) _
    refine XS.i2l X0.here hx rfl (hb hby d3_33) rfl ?_
    show Steps p.tables e below (s₁.setTop (mkF m 34 #[.val (.ref a1), .val (.long (-3750763034362895579 : Int64)), .second, .val (.ref a1), .val (.int (4 : Int32)), .val (.int (0 : Int32)), .val (.int w0)] [(.long (((w0 &&& (255 : Int32))).toInt64)), (.long (-3750763034362895579 : Int64))])) _
    refine XS.lxor X0.here hx rfl (hb hby d3_34) rfl ?_
    show Steps p.tables e below (s₁.setTop (mkF m 35 #[.val (.ref a1), .val (.long (-3750763034362895579 : Int64)), .second, .val (.ref a1), .val (.int (4 : Int32)), .val (.int (0 : Int32)), .val (.int w0)] [(.long ((-3750763034362895579 : Int64) ^^^ (((w0 &&& (255 : Int32))).toInt64)))])) _
    refine X0.ldc2J hx hown (mvT hZ (hw _ (List.mem_of_getElem? (i := 13) rfl))) (g := (mkF m 35 #[.val (.ref a1), .val (.long (-3750763034362895579 : Int64)), .second, .val (.ref a1), .val (.int (4 : Int32)), .val (.int (0 : Int32)), .val (.int w0)] [(.long ((-3750763034362895579 : Int64) ^^^ (((w0 &&& (255 : Int32))).toInt64)))])) rfl (hb hby d3_35) ?_
    show Steps p.tables e below (s₁.setTop (mkF m 38 #[.val (.ref a1), .val (.long (-3750763034362895579 : Int64)), .second, .val (.ref a1), .val (.int (4 : Int32)), .val (.int (0 : Int32)), .val (.int w0)] [(.long (1099511628211 : Int64)), (.long ((-3750763034362895579 : Int64) ^^^ (((w0 &&& (255 : Int32))).toInt64)))])) _
    refine XS.lmul X0.here hx rfl (hb hby d3_38) rfl ?_
    show Steps p.tables e below (s₁.setTop (mkF m 39 #[.val (.ref a1), .val (.long (-3750763034362895579 : Int64)), .second, .val (.ref a1), .val (.int (4 : Int32)), .val (.int (0 : Int32)), .val (.int w0)] [(.long (((-3750763034362895579 : Int64) ^^^ (((w0 &&& (255 : Int32))).toInt64)) * (1099511628211 : Int64)))])) _
    refine XT.lstoreN X0.here hx rfl (hb hby d3_39) rfl (l' := #[.val (.ref a1), .val (.long (((-3750763034362895579 : Int64) ^^^ (((w0 &&& (255 : Int32))).toInt64)) * (1099511628211 : Int64))), .second, .val (.ref a1), .val (.int (4 : Int32)), .val (.int (0 : Int32)), .val (.int w0)]) rfl ?_
    show Steps p.tables e below (s₁.setTop (mkF m 40 #[.val (.ref a1), .val (.long (((-3750763034362895579 : Int64) ^^^ (((w0 &&& (255 : Int32))).toInt64)) * (1099511628211 : Int64))), .second, .val (.ref a1), .val (.int (4 : Int32)), .val (.int (0 : Int32)), .val (.int w0)] [])) _
    refine XS.iinc X0.here hx rfl (hb hby d3_40) rfl (l' := #[.val (.ref a1), .val (.long (((-3750763034362895579 : Int64) ^^^ (((w0 &&& (255 : Int32))).toInt64)) * (1099511628211 : Int64))), .second, .val (.ref a1), .val (.int (4 : Int32)), .val (.int (1 : Int32)), .val (.int w0)]) rfl ?_
    show Steps p.tables e below (s₁.setTop (mkF m 43 #[.val (.ref a1), .val (.long (((-3750763034362895579 : Int64) ^^^ (((w0 &&& (255 : Int32))).toInt64)) * (1099511628211 : Int64))), .second, .val (.ref a1), .val (.int (4 : Int32)), .val (.int (1 : Int32)), .val (.int w0)] [])) _
    refine XS.goto X0.here hx rfl (pc0 := 43) (pc' := 13) rfl (hb hby d3_43) (by decide) (by decide) ?_
    show Steps p.tables e below (s₁.setTop (mkF m 13 #[.val (.ref a1), .val (.long (((-3750763034362895579 : Int64) ^^^ (((w0 &&& (255 : Int32))).toInt64)) * (1099511628211 : Int64))), .second, .val (.ref a1), .val (.int (4 : Int32)), .val (.int (1 : Int32)), .val (.int w0)] [])) _
    refine XS.iload X0.here hx rfl (hb hby d3_13) rfl ?_
    show Steps p.tables e below (s₁.setTop (mkF m 15 #[.val (.ref a1), .val (.long (((-3750763034362895579 : Int64) ^^^ (((w0 &&& (255 : Int32))).toInt64)) * (1099511628211 : Int64))), .second, .val (.ref a1), .val (.int (4 : Int32)), .val (.int (1 : Int32)), .val (.int w0)] [(.int (1 : Int32))])) _
    refine XS.iload X0.here hx rfl (hb hby d3_15) rfl ?_
    show Steps p.tables e below (s₁.setTop (mkF m 17 #[.val (.ref a1), .val (.long (((-3750763034362895579 : Int64) ^^^ (((w0 &&& (255 : Int32))).toInt64)) * (1099511628211 : Int64))), .second, .val (.ref a1), .val (.int (4 : Int32)), .val (.int (1 : Int32)), .val (.int w0)] [(.int (4 : Int32)), (.int (1 : Int32))])) _
    exact k
  have pre4 : Go p e below (s₁.setTop (entryFrame m #[(.ref a1)] 7)) (s₁.setTop (mkF m 17 #[.val (.ref a1), .val (.long (((((-3750763034362895579 : Int64) ^^^ (((w0 &&& (255 : Int32))).toInt64)) * (1099511628211 : Int64)) ^^^ (((w1 &&& (255 : Int32))).toInt64)) * (1099511628211 : Int64))), .second, .val (.ref a1), .val (.int (4 : Int32)), .val (.int (2 : Int32)), .val (.int w1)] [(.int (4 : Int32)), (.int (2 : Int32))])) := by
    intro t k
    refine pre3 t ?_
    show Steps p.tables e below (s₁.setTop (mkF m 17 #[.val (.ref a1), .val (.long (((-3750763034362895579 : Int64) ^^^ (((w0 &&& (255 : Int32))).toInt64)) * (1099511628211 : Int64))), .second, .val (.ref a1), .val (.int (4 : Int32)), .val (.int (1 : Int32)), .val (.int w0)] [(.int (4 : Int32)), (.int (1 : Int32))])) _
    refine XS.icmpNo X0.here hx rfl (hb hby d3_17) rfl (XT.ii_ge_f (by decide : (1 : Int32) < (4 : Int32))) ?_
    show Steps p.tables e below (s₁.setTop (mkF m 20 #[.val (.ref a1), .val (.long (((-3750763034362895579 : Int64) ^^^ (((w0 &&& (255 : Int32))).toInt64)) * (1099511628211 : Int64))), .second, .val (.ref a1), .val (.int (4 : Int32)), .val (.int (1 : Int32)), .val (.int w0)] [])) _
    refine XS.aloadN X0.here hx rfl (hb hby d3_20) rfl rfl ?_
    show Steps p.tables e below (s₁.setTop (mkF m 21 #[.val (.ref a1), .val (.long (((-3750763034362895579 : Int64) ^^^ (((w0 &&& (255 : Int32))).toInt64)) * (1099511628211 : Int64))), .second, .val (.ref a1), .val (.int (4 : Int32)), .val (.int (1 : Int32)), .val (.int w0)] [(.ref a1)])) _
    refine XS.iload X0.here hx rfl (hb hby d3_21) rfl ?_
    show Steps p.tables e below (s₁.setTop (mkF m 23 #[.val (.ref a1), .val (.long (((-3750763034362895579 : Int64) ^^^ (((w0 &&& (255 : Int32))).toInt64)) * (1099511628211 : Int64))), .second, .val (.ref a1), .val (.int (4 : Int32)), .val (.int (1 : Int32)), .val (.int w0)] [(.int (1 : Int32)), (.ref a1)])) _
    refine X0.baloadBytes hx (j := (1 : Int32)) (v := (.int w1)) (by rw [e0]; exact Ar.1) (State.isArrayOf_alike hZ.alike Ar.2.1) Ar.2.2 (inb_of SS ⟨by decide, by decide⟩) (HH.at (inb_of SS ⟨by decide, by decide⟩) rfl) (g := (mkF m 23 #[.val (.ref a1), .val (.long (((-3750763034362895579 : Int64) ^^^ (((w0 &&& (255 : Int32))).toInt64)) * (1099511628211 : Int64))), .second, .val (.ref a1), .val (.int (4 : Int32)), .val (.int (1 : Int32)), .val (.int w0)] [(.int (1 : Int32)), (.ref a1)])) rfl rfl (hb hby d3_23) _ ?_
    show Steps p.tables e below (s₁.setTop (mkF m 24 #[.val (.ref a1), .val (.long (((-3750763034362895579 : Int64) ^^^ (((w0 &&& (255 : Int32))).toInt64)) * (1099511628211 : Int64))), .second, .val (.ref a1), .val (.int (4 : Int32)), .val (.int (1 : Int32)), .val (.int w0)] [(.int w1)])) _
    refine XS.istore X0.here hx rfl (hb hby d3_24) rfl (l' := #[.val (.ref a1), .val (.long (((-3750763034362895579 : Int64) ^^^ (((w0 &&& (255 : Int32))).toInt64)) * (1099511628211 : Int64))), .second, .val (.ref a1), .val (.int (4 : Int32)), .val (.int (1 : Int32)), .val (.int w1)]) rfl ?_
    show Steps p.tables e below (s₁.setTop (mkF m 26 #[.val (.ref a1), .val (.long (((-3750763034362895579 : Int64) ^^^ (((w0 &&& (255 : Int32))).toInt64)) * (1099511628211 : Int64))), .second, .val (.ref a1), .val (.int (4 : Int32)), .val (.int (1 : Int32)), .val (.int w1)] [])) _
    refine XT.lloadN X0.here hx rfl (hb hby d3_26) rfl ?_
    show Steps p.tables e below (s₁.setTop (mkF m 27 #[.val (.ref a1), .val (.long (((-3750763034362895579 : Int64) ^^^ (((w0 &&& (255 : Int32))).toInt64)) * (1099511628211 : Int64))), .second, .val (.ref a1), .val (.int (4 : Int32)), .val (.int (1 : Int32)), .val (.int w1)] [(.long (((-3750763034362895579 : Int64) ^^^ (((w0 &&& (255 : Int32))).toInt64)) * (1099511628211 : Int64)))])) _
    refine XS.iload X0.here hx rfl (hb hby d3_27) rfl ?_
    show Steps p.tables e below (s₁.setTop (mkF m 29 #[.val (.ref a1), .val (.long (((-3750763034362895579 : Int64) ^^^ (((w0 &&& (255 : Int32))).toInt64)) * (1099511628211 : Int64))), .second, .val (.ref a1), .val (.int (4 : Int32)), .val (.int (1 : Int32)), .val (.int w1)] [(.int w1), (.long (((-3750763034362895579 : Int64) ^^^ (((w0 &&& (255 : Int32))).toInt64)) * (1099511628211 : Int64)))])) _
    refine XS.sipush X0.here hx rfl (hb hby d3_29) ?_
    show Steps p.tables e below (s₁.setTop (mkF m 32 #[.val (.ref a1), .val (.long (((-3750763034362895579 : Int64) ^^^ (((w0 &&& (255 : Int32))).toInt64)) * (1099511628211 : Int64))), .second, .val (.ref a1), .val (.int (4 : Int32)), .val (.int (1 : Int32)), .val (.int w1)] [(.int (255 : Int32)), (.int w1), (.long (((-3750763034362895579 : Int64) ^^^ (((w0 &&& (255 : Int32))).toInt64)) * (1099511628211 : Int64)))])) _
    refine XS.iand X0.here hx rfl (hb hby d3_32) rfl ?_
    show Steps p.tables e below (s₁.setTop (mkF m 33 #[.val (.ref a1), .val (.long (((-3750763034362895579 : Int64) ^^^ (((w0 &&& (255 : Int32))).toInt64)) * (1099511628211 : Int64))), .second, .val (.ref a1), .val (.int (4 : Int32)), .val (.int (1 : Int32)), .val (.int w1)] [(.int (w1 &&& (255 : Int32))), (.long (((-3750763034362895579 : Int64) ^^^ (((w0 &&& (255 : Int32))).toInt64)) * (1099511628211 : Int64)))])) _
    refine XS.i2l X0.here hx rfl (hb hby d3_33) rfl ?_
    show Steps p.tables e below (s₁.setTop (mkF m 34 #[.val (.ref a1), .val (.long (((-3750763034362895579 : Int64) ^^^ (((w0 &&& (255 : Int32))).toInt64)) * (1099511628211 : Int64))), .second, .val (.ref a1), .val (.int (4 : Int32)), .val (.int (1 : Int32)), .val (.int w1)] [(.long (((w1 &&& (255 : Int32))).toInt64)), (.long (((-3750763034362895579 : Int64) ^^^ (((w0 &&& (255 : Int32))).toInt64)) * (1099511628211 : Int64)))])) _
    refine XS.lxor X0.here hx rfl (hb hby d3_34) rfl ?_
    show Steps p.tables e below (s₁.setTop (mkF m 35 #[.val (.ref a1), .val (.long (((-3750763034362895579 : Int64) ^^^ (((w0 &&& (255 : Int32))).toInt64)) * (1099511628211 : Int64))), .second, .val (.ref a1), .val (.int (4 : Int32)), .val (.int (1 : Int32)), .val (.int w1)] [(.long ((((-3750763034362895579 : Int64) ^^^ (((w0 &&& (255 : Int32))).toInt64)) * (1099511628211 : Int64)) ^^^ (((w1 &&& (255 : Int32))).toInt64)))])) _
    refine X0.ldc2J hx hown (mvT hZ (hw _ (List.mem_of_getElem? (i := 13) rfl))) (g := (mkF m 35 #[.val (.ref a1), .val (.long (((-3750763034362895579 : Int64) ^^^ (((w0 &&& (255 : Int32))).toInt64)) * (1099511628211 : Int64))), .second, .val (.ref a1), .val (.int (4 : Int32)), .val (.int (1 : Int32)), .val (.int w1)] [(.long ((((-3750763034362895579 : Int64) ^^^ (((w0 &&& (255 : Int32))).toInt64)) * (1099511628211 : Int64)) ^^^ (((w1 &&& (255 : Int32))).toInt64)))])) rfl (hb hby d3_35) ?_
    show Steps p.tables e below (s₁.setTop (mkF m 38 #[.val (.ref a1), .val (.long (((-3750763034362895579 : Int64) ^^^ (((w0 &&& (255 : Int32))).toInt64)) * (1099511628211 : Int64))), .second, .val (.ref a1), .val (.int (4 : Int32)), .val (.int (1 : Int32)), .val (.int w1)] [(.long (1099511628211 : Int64)), (.long ((((-3750763034362895579 : Int64) ^^^ (((w0 &&& (255 : Int32))).toInt64)) * (1099511628211 : Int64)) ^^^ (((w1 &&& (255 : Int32))).toInt64)))])) _
    refine XS.lmul X0.here hx rfl (hb hby d3_38) rfl ?_
    show Steps p.tables e below (s₁.setTop (mkF m 39 #[.val (.ref a1), .val (.long (((-3750763034362895579 : Int64) ^^^ (((w0 &&& (255 : Int32))).toInt64)) * (1099511628211 : Int64))), .second, .val (.ref a1), .val (.int (4 : Int32)), .val (.int (1 : Int32)), .val (.int w1)] [(.long (((((-3750763034362895579 : Int64) ^^^ (((w0 &&& (255 : Int32))).toInt64)) * (1099511628211 : Int64)) ^^^ (((w1 &&& (255 : Int32))).toInt64)) * (1099511628211 : Int64)))])) _
    refine XT.lstoreN X0.here hx rfl (hb hby d3_39) rfl (l' := #[.val (.ref a1), .val (.long (((((-3750763034362895579 : Int64) ^^^ (((w0 &&& (255 : Int32))).toInt64)) * (1099511628211 : Int64)) ^^^ (((w1 &&& (255 : Int32))).toInt64)) * (1099511628211 : Int64))), .second, .val (.ref a1), .val (.int (4 : Int32)), .val (.int (1 : Int32)), .val (.int w1)]) rfl ?_
    show Steps p.tables e below (s₁.setTop (mkF m 40 #[.val (.ref a1), .val (.long (((((-3750763034362895579 : Int64) ^^^ (((w0 &&& (255 : Int32))).toInt64)) * (1099511628211 : Int64)) ^^^ (((w1 &&& (255 : Int32))).toInt64)) * (1099511628211 : Int64))), .second, .val (.ref a1), .val (.int (4 : Int32)), .val (.int (1 : Int32)), .val (.int w1)] [])) _
    refine XS.iinc X0.here hx rfl (hb hby d3_40) rfl (l' := #[.val (.ref a1), .val (.long (((((-3750763034362895579 : Int64) ^^^ (((w0 &&& (255 : Int32))).toInt64)) * (1099511628211 : Int64)) ^^^ (((w1 &&& (255 : Int32))).toInt64)) * (1099511628211 : Int64))), .second, .val (.ref a1), .val (.int (4 : Int32)), .val (.int (2 : Int32)), .val (.int w1)]) rfl ?_
    show Steps p.tables e below (s₁.setTop (mkF m 43 #[.val (.ref a1), .val (.long (((((-3750763034362895579 : Int64) ^^^ (((w0 &&& (255 : Int32))).toInt64)) * (1099511628211 : Int64)) ^^^ (((w1 &&& (255 : Int32))).toInt64)) * (1099511628211 : Int64))), .second, .val (.ref a1), .val (.int (4 : Int32)), .val (.int (2 : Int32)), .val (.int w1)] [])) _
    refine XS.goto X0.here hx rfl (pc0 := 43) (pc' := 13) rfl (hb hby d3_43) (by decide) (by decide) ?_
    show Steps p.tables e below (s₁.setTop (mkF m 13 #[.val (.ref a1), .val (.long (((((-3750763034362895579 : Int64) ^^^ (((w0 &&& (255 : Int32))).toInt64)) * (1099511628211 : Int64)) ^^^ (((w1 &&& (255 : Int32))).toInt64)) * (1099511628211 : Int64))), .second, .val (.ref a1), .val (.int (4 : Int32)), .val (.int (2 : Int32)), .val (.int w1)] [])) _
    refine XS.iload X0.here hx rfl (hb hby d3_13) rfl ?_
    show Steps p.tables e below (s₁.setTop (mkF m 15 #[.val (.ref a1), .val (.long (((((-3750763034362895579 : Int64) ^^^ (((w0 &&& (255 : Int32))).toInt64)) * (1099511628211 : Int64)) ^^^ (((w1 &&& (255 : Int32))).toInt64)) * (1099511628211 : Int64))), .second, .val (.ref a1), .val (.int (4 : Int32)), .val (.int (2 : Int32)), .val (.int w1)] [(.int (2 : Int32))])) _
    refine XS.iload X0.here hx rfl (hb hby d3_15) rfl ?_
    show Steps p.tables e below (s₁.setTop (mkF m 17 #[.val (.ref a1), .val (.long (((((-3750763034362895579 : Int64) ^^^ (((w0 &&& (255 : Int32))).toInt64)) * (1099511628211 : Int64)) ^^^ (((w1 &&& (255 : Int32))).toInt64)) * (1099511628211 : Int64))), .second, .val (.ref a1), .val (.int (4 : Int32)), .val (.int (2 : Int32)), .val (.int w1)] [(.int (4 : Int32)), (.int (2 : Int32))])) _
    exact k
  have pre5 : Go p e below (s₁.setTop (entryFrame m #[(.ref a1)] 7)) (s₁.setTop (mkF m 17 #[.val (.ref a1), .val (.long (((((((-3750763034362895579 : Int64) ^^^ (((w0 &&& (255 : Int32))).toInt64)) * (1099511628211 : Int64)) ^^^ (((w1 &&& (255 : Int32))).toInt64)) * (1099511628211 : Int64)) ^^^ (((w2 &&& (255 : Int32))).toInt64)) * (1099511628211 : Int64))), .second, .val (.ref a1), .val (.int (4 : Int32)), .val (.int (3 : Int32)), .val (.int w2)] [(.int (4 : Int32)), (.int (3 : Int32))])) := by
    intro t k
    refine pre4 t ?_
    show Steps p.tables e below (s₁.setTop (mkF m 17 #[.val (.ref a1), .val (.long (((((-3750763034362895579 : Int64) ^^^ (((w0 &&& (255 : Int32))).toInt64)) * (1099511628211 : Int64)) ^^^ (((w1 &&& (255 : Int32))).toInt64)) * (1099511628211 : Int64))), .second, .val (.ref a1), .val (.int (4 : Int32)), .val (.int (2 : Int32)), .val (.int w1)] [(.int (4 : Int32)), (.int (2 : Int32))])) _
    refine XS.icmpNo X0.here hx rfl (hb hby d3_17) rfl (XT.ii_ge_f (by decide : (2 : Int32) < (4 : Int32))) ?_
    show Steps p.tables e below (s₁.setTop (mkF m 20 #[.val (.ref a1), .val (.long (((((-3750763034362895579 : Int64) ^^^ (((w0 &&& (255 : Int32))).toInt64)) * (1099511628211 : Int64)) ^^^ (((w1 &&& (255 : Int32))).toInt64)) * (1099511628211 : Int64))), .second, .val (.ref a1), .val (.int (4 : Int32)), .val (.int (2 : Int32)), .val (.int w1)] [])) _
    refine XS.aloadN X0.here hx rfl (hb hby d3_20) rfl rfl ?_
    show Steps p.tables e below (s₁.setTop (mkF m 21 #[.val (.ref a1), .val (.long (((((-3750763034362895579 : Int64) ^^^ (((w0 &&& (255 : Int32))).toInt64)) * (1099511628211 : Int64)) ^^^ (((w1 &&& (255 : Int32))).toInt64)) * (1099511628211 : Int64))), .second, .val (.ref a1), .val (.int (4 : Int32)), .val (.int (2 : Int32)), .val (.int w1)] [(.ref a1)])) _
    refine XS.iload X0.here hx rfl (hb hby d3_21) rfl ?_
    show Steps p.tables e below (s₁.setTop (mkF m 23 #[.val (.ref a1), .val (.long (((((-3750763034362895579 : Int64) ^^^ (((w0 &&& (255 : Int32))).toInt64)) * (1099511628211 : Int64)) ^^^ (((w1 &&& (255 : Int32))).toInt64)) * (1099511628211 : Int64))), .second, .val (.ref a1), .val (.int (4 : Int32)), .val (.int (2 : Int32)), .val (.int w1)] [(.int (2 : Int32)), (.ref a1)])) _
    refine X0.baloadBytes hx (j := (2 : Int32)) (v := (.int w2)) (by rw [e0]; exact Ar.1) (State.isArrayOf_alike hZ.alike Ar.2.1) Ar.2.2 (inb_of SS ⟨by decide, by decide⟩) (HH.at (inb_of SS ⟨by decide, by decide⟩) rfl) (g := (mkF m 23 #[.val (.ref a1), .val (.long (((((-3750763034362895579 : Int64) ^^^ (((w0 &&& (255 : Int32))).toInt64)) * (1099511628211 : Int64)) ^^^ (((w1 &&& (255 : Int32))).toInt64)) * (1099511628211 : Int64))), .second, .val (.ref a1), .val (.int (4 : Int32)), .val (.int (2 : Int32)), .val (.int w1)] [(.int (2 : Int32)), (.ref a1)])) rfl rfl (hb hby d3_23) _ ?_
    show Steps p.tables e below (s₁.setTop (mkF m 24 #[.val (.ref a1), .val (.long (((((-3750763034362895579 : Int64) ^^^ (((w0 &&& (255 : Int32))).toInt64)) * (1099511628211 : Int64)) ^^^ (((w1 &&& (255 : Int32))).toInt64)) * (1099511628211 : Int64))), .second, .val (.ref a1), .val (.int (4 : Int32)), .val (.int (2 : Int32)), .val (.int w1)] [(.int w2)])) _
    refine XS.istore X0.here hx rfl (hb hby d3_24) rfl (l' := #[.val (.ref a1), .val (.long (((((-3750763034362895579 : Int64) ^^^ (((w0 &&& (255 : Int32))).toInt64)) * (1099511628211 : Int64)) ^^^ (((w1 &&& (255 : Int32))).toInt64)) * (1099511628211 : Int64))), .second, .val (.ref a1), .val (.int (4 : Int32)), .val (.int (2 : Int32)), .val (.int w2)]) rfl ?_
    show Steps p.tables e below (s₁.setTop (mkF m 26 #[.val (.ref a1), .val (.long (((((-3750763034362895579 : Int64) ^^^ (((w0 &&& (255 : Int32))).toInt64)) * (1099511628211 : Int64)) ^^^ (((w1 &&& (255 : Int32))).toInt64)) * (1099511628211 : Int64))), .second, .val (.ref a1), .val (.int (4 : Int32)), .val (.int (2 : Int32)), .val (.int w2)] [])) _
    refine XT.lloadN X0.here hx rfl (hb hby d3_26) rfl ?_
    show Steps p.tables e below (s₁.setTop (mkF m 27 #[.val (.ref a1), .val (.long (((((-3750763034362895579 : Int64) ^^^ (((w0 &&& (255 : Int32))).toInt64)) * (1099511628211 : Int64)) ^^^ (((w1 &&& (255 : Int32))).toInt64)) * (1099511628211 : Int64))), .second, .val (.ref a1), .val (.int (4 : Int32)), .val (.int (2 : Int32)), .val (.int w2)] [(.long (((((-3750763034362895579 : Int64) ^^^ (((w0 &&& (255 : Int32))).toInt64)) * (1099511628211 : Int64)) ^^^ (((w1 &&& (255 : Int32))).toInt64)) * (1099511628211 : Int64)))])) _
    refine XS.iload X0.here hx rfl (hb hby d3_27) rfl ?_
    show Steps p.tables e below (s₁.setTop (mkF m 29 #[.val (.ref a1), .val (.long (((((-3750763034362895579 : Int64) ^^^ (((w0 &&& (255 : Int32))).toInt64)) * (1099511628211 : Int64)) ^^^ (((w1 &&& (255 : Int32))).toInt64)) * (1099511628211 : Int64))), .second, .val (.ref a1), .val (.int (4 : Int32)), .val (.int (2 : Int32)), .val (.int w2)] [(.int w2), (.long (((((-3750763034362895579 : Int64) ^^^ (((w0 &&& (255 : Int32))).toInt64)) * (1099511628211 : Int64)) ^^^ (((w1 &&& (255 : Int32))).toInt64)) * (1099511628211 : Int64)))])) _
    refine XS.sipush X0.here hx rfl (hb hby d3_29) ?_
    show Steps p.tables e below (s₁.setTop (mkF m 32 #[.val (.ref a1), .val (.long (((((-3750763034362895579 : Int64) ^^^ (((w0 &&& (255 : Int32))).toInt64)) * (1099511628211 : Int64)) ^^^ (((w1 &&& (255 : Int32))).toInt64)) * (1099511628211 : Int64))), .second, .val (.ref a1), .val (.int (4 : Int32)), .val (.int (2 : Int32)), .val (.int w2)] [(.int (255 : Int32)), (.int w2), (.long (((((-3750763034362895579 : Int64) ^^^ (((w0 &&& (255 : Int32))).toInt64)) * (1099511628211 : Int64)) ^^^ (((w1 &&& (255 : Int32))).toInt64)) * (1099511628211 : Int64)))])) _
    refine XS.iand X0.here hx rfl (hb hby d3_32) rfl ?_
    show Steps p.tables e below (s₁.setTop (mkF m 33 #[.val (.ref a1), .val (.long (((((-3750763034362895579 : Int64) ^^^ (((w0 &&& (255 : Int32))).toInt64)) * (1099511628211 : Int64)) ^^^ (((w1 &&& (255 : Int32))).toInt64)) * (1099511628211 : Int64))), .second, .val (.ref a1), .val (.int (4 : Int32)), .val (.int (2 : Int32)), .val (.int w2)] [(.int (w2 &&& (255 : Int32))), (.long (((((-3750763034362895579 : Int64) ^^^ (((w0 &&& (255 : Int32))).toInt64)) * (1099511628211 : Int64)) ^^^ (((w1 &&& (255 : Int32))).toInt64)) * (1099511628211 : Int64)))])) _
    refine XS.i2l X0.here hx rfl (hb hby d3_33) rfl ?_
    show Steps p.tables e below (s₁.setTop (mkF m 34 #[.val (.ref a1), .val (.long (((((-3750763034362895579 : Int64) ^^^ (((w0 &&& (255 : Int32))).toInt64)) * (1099511628211 : Int64)) ^^^ (((w1 &&& (255 : Int32))).toInt64)) * (1099511628211 : Int64))), .second, .val (.ref a1), .val (.int (4 : Int32)), .val (.int (2 : Int32)), .val (.int w2)] [(.long (((w2 &&& (255 : Int32))).toInt64)), (.long (((((-3750763034362895579 : Int64) ^^^ (((w0 &&& (255 : Int32))).toInt64)) * (1099511628211 : Int64)) ^^^ (((w1 &&& (255 : Int32))).toInt64)) * (1099511628211 : Int64)))])) _
    refine XS.lxor X0.here hx rfl (hb hby d3_34) rfl ?_
    show Steps p.tables e below (s₁.setTop (mkF m 35 #[.val (.ref a1), .val (.long (((((-3750763034362895579 : Int64) ^^^ (((w0 &&& (255 : Int32))).toInt64)) * (1099511628211 : Int64)) ^^^ (((w1 &&& (255 : Int32))).toInt64)) * (1099511628211 : Int64))), .second, .val (.ref a1), .val (.int (4 : Int32)), .val (.int (2 : Int32)), .val (.int w2)] [(.long ((((((-3750763034362895579 : Int64) ^^^ (((w0 &&& (255 : Int32))).toInt64)) * (1099511628211 : Int64)) ^^^ (((w1 &&& (255 : Int32))).toInt64)) * (1099511628211 : Int64)) ^^^ (((w2 &&& (255 : Int32))).toInt64)))])) _
    refine X0.ldc2J hx hown (mvT hZ (hw _ (List.mem_of_getElem? (i := 13) rfl))) (g := (mkF m 35 #[.val (.ref a1), .val (.long (((((-3750763034362895579 : Int64) ^^^ (((w0 &&& (255 : Int32))).toInt64)) * (1099511628211 : Int64)) ^^^ (((w1 &&& (255 : Int32))).toInt64)) * (1099511628211 : Int64))), .second, .val (.ref a1), .val (.int (4 : Int32)), .val (.int (2 : Int32)), .val (.int w2)] [(.long ((((((-3750763034362895579 : Int64) ^^^ (((w0 &&& (255 : Int32))).toInt64)) * (1099511628211 : Int64)) ^^^ (((w1 &&& (255 : Int32))).toInt64)) * (1099511628211 : Int64)) ^^^ (((w2 &&& (255 : Int32))).toInt64)))])) rfl (hb hby d3_35) ?_
    show Steps p.tables e below (s₁.setTop (mkF m 38 #[.val (.ref a1), .val (.long (((((-3750763034362895579 : Int64) ^^^ (((w0 &&& (255 : Int32))).toInt64)) * (1099511628211 : Int64)) ^^^ (((w1 &&& (255 : Int32))).toInt64)) * (1099511628211 : Int64))), .second, .val (.ref a1), .val (.int (4 : Int32)), .val (.int (2 : Int32)), .val (.int w2)] [(.long (1099511628211 : Int64)), (.long ((((((-3750763034362895579 : Int64) ^^^ (((w0 &&& (255 : Int32))).toInt64)) * (1099511628211 : Int64)) ^^^ (((w1 &&& (255 : Int32))).toInt64)) * (1099511628211 : Int64)) ^^^ (((w2 &&& (255 : Int32))).toInt64)))])) _
    refine XS.lmul X0.here hx rfl (hb hby d3_38) rfl ?_
    show Steps p.tables e below (s₁.setTop (mkF m 39 #[.val (.ref a1), .val (.long (((((-3750763034362895579 : Int64) ^^^ (((w0 &&& (255 : Int32))).toInt64)) * (1099511628211 : Int64)) ^^^ (((w1 &&& (255 : Int32))).toInt64)) * (1099511628211 : Int64))), .second, .val (.ref a1), .val (.int (4 : Int32)), .val (.int (2 : Int32)), .val (.int w2)] [(.long (((((((-3750763034362895579 : Int64) ^^^ (((w0 &&& (255 : Int32))).toInt64)) * (1099511628211 : Int64)) ^^^ (((w1 &&& (255 : Int32))).toInt64)) * (1099511628211 : Int64)) ^^^ (((w2 &&& (255 : Int32))).toInt64)) * (1099511628211 : Int64)))])) _
    refine XT.lstoreN X0.here hx rfl (hb hby d3_39) rfl (l' := #[.val (.ref a1), .val (.long (((((((-3750763034362895579 : Int64) ^^^ (((w0 &&& (255 : Int32))).toInt64)) * (1099511628211 : Int64)) ^^^ (((w1 &&& (255 : Int32))).toInt64)) * (1099511628211 : Int64)) ^^^ (((w2 &&& (255 : Int32))).toInt64)) * (1099511628211 : Int64))), .second, .val (.ref a1), .val (.int (4 : Int32)), .val (.int (2 : Int32)), .val (.int w2)]) rfl ?_
    show Steps p.tables e below (s₁.setTop (mkF m 40 #[.val (.ref a1), .val (.long (((((((-3750763034362895579 : Int64) ^^^ (((w0 &&& (255 : Int32))).toInt64)) * (1099511628211 : Int64)) ^^^ (((w1 &&& (255 : Int32))).toInt64)) * (1099511628211 : Int64)) ^^^ (((w2 &&& (255 : Int32))).toInt64)) * (1099511628211 : Int64))), .second, .val (.ref a1), .val (.int (4 : Int32)), .val (.int (2 : Int32)), .val (.int w2)] [])) _
    refine XS.iinc X0.here hx rfl (hb hby d3_40) rfl (l' := #[.val (.ref a1), .val (.long (((((((-3750763034362895579 : Int64) ^^^ (((w0 &&& (255 : Int32))).toInt64)) * (1099511628211 : Int64)) ^^^ (((w1 &&& (255 : Int32))).toInt64)) * (1099511628211 : Int64)) ^^^ (((w2 &&& (255 : Int32))).toInt64)) * (1099511628211 : Int64))), .second, .val (.ref a1), .val (.int (4 : Int32)), .val (.int (3 : Int32)), .val (.int w2)]) rfl ?_
    show Steps p.tables e below (s₁.setTop (mkF m 43 #[.val (.ref a1), .val (.long (((((((-3750763034362895579 : Int64) ^^^ (((w0 &&& (255 : Int32))).toInt64)) * (1099511628211 : Int64)) ^^^ (((w1 &&& (255 : Int32))).toInt64)) * (1099511628211 : Int64)) ^^^ (((w2 &&& (255 : Int32))).toInt64)) * (1099511628211 : Int64))), .second, .val (.ref a1), .val (.int (4 : Int32)), .val (.int (3 : Int32)), .val (.int w2)] [])) _
    refine XS.goto X0.here hx rfl (pc0 := 43) (pc' := 13) rfl (hb hby d3_43) (by decide) (by decide) ?_
    show Steps p.tables e below (s₁.setTop (mkF m 13 #[.val (.ref a1), .val (.long (((((((-3750763034362895579 : Int64) ^^^ (((w0 &&& (255 : Int32))).toInt64)) * (1099511628211 : Int64)) ^^^ (((w1 &&& (255 : Int32))).toInt64)) * (1099511628211 : Int64)) ^^^ (((w2 &&& (255 : Int32))).toInt64)) * (1099511628211 : Int64))), .second, .val (.ref a1), .val (.int (4 : Int32)), .val (.int (3 : Int32)), .val (.int w2)] [])) _
    refine XS.iload X0.here hx rfl (hb hby d3_13) rfl ?_
    show Steps p.tables e below (s₁.setTop (mkF m 15 #[.val (.ref a1), .val (.long (((((((-3750763034362895579 : Int64) ^^^ (((w0 &&& (255 : Int32))).toInt64)) * (1099511628211 : Int64)) ^^^ (((w1 &&& (255 : Int32))).toInt64)) * (1099511628211 : Int64)) ^^^ (((w2 &&& (255 : Int32))).toInt64)) * (1099511628211 : Int64))), .second, .val (.ref a1), .val (.int (4 : Int32)), .val (.int (3 : Int32)), .val (.int w2)] [(.int (3 : Int32))])) _
    refine XS.iload X0.here hx rfl (hb hby d3_15) rfl ?_
    show Steps p.tables e below (s₁.setTop (mkF m 17 #[.val (.ref a1), .val (.long (((((((-3750763034362895579 : Int64) ^^^ (((w0 &&& (255 : Int32))).toInt64)) * (1099511628211 : Int64)) ^^^ (((w1 &&& (255 : Int32))).toInt64)) * (1099511628211 : Int64)) ^^^ (((w2 &&& (255 : Int32))).toInt64)) * (1099511628211 : Int64))), .second, .val (.ref a1), .val (.int (4 : Int32)), .val (.int (3 : Int32)), .val (.int w2)] [(.int (4 : Int32)), (.int (3 : Int32))])) _
    exact k
  have pre6 : Go p e below (s₁.setTop (entryFrame m #[(.ref a1)] 7)) (s₁.setTop (mkF m 17 #[.val (.ref a1), .val (.long (((((((((-3750763034362895579 : Int64) ^^^ (((w0 &&& (255 : Int32))).toInt64)) * (1099511628211 : Int64)) ^^^ (((w1 &&& (255 : Int32))).toInt64)) * (1099511628211 : Int64)) ^^^ (((w2 &&& (255 : Int32))).toInt64)) * (1099511628211 : Int64)) ^^^ (((w3 &&& (255 : Int32))).toInt64)) * (1099511628211 : Int64))), .second, .val (.ref a1), .val (.int (4 : Int32)), .val (.int (4 : Int32)), .val (.int w3)] [(.int (4 : Int32)), (.int (4 : Int32))])) := by
    intro t k
    refine pre5 t ?_
    show Steps p.tables e below (s₁.setTop (mkF m 17 #[.val (.ref a1), .val (.long (((((((-3750763034362895579 : Int64) ^^^ (((w0 &&& (255 : Int32))).toInt64)) * (1099511628211 : Int64)) ^^^ (((w1 &&& (255 : Int32))).toInt64)) * (1099511628211 : Int64)) ^^^ (((w2 &&& (255 : Int32))).toInt64)) * (1099511628211 : Int64))), .second, .val (.ref a1), .val (.int (4 : Int32)), .val (.int (3 : Int32)), .val (.int w2)] [(.int (4 : Int32)), (.int (3 : Int32))])) _
    refine XS.icmpNo X0.here hx rfl (hb hby d3_17) rfl (XT.ii_ge_f (by decide : (3 : Int32) < (4 : Int32))) ?_
    show Steps p.tables e below (s₁.setTop (mkF m 20 #[.val (.ref a1), .val (.long (((((((-3750763034362895579 : Int64) ^^^ (((w0 &&& (255 : Int32))).toInt64)) * (1099511628211 : Int64)) ^^^ (((w1 &&& (255 : Int32))).toInt64)) * (1099511628211 : Int64)) ^^^ (((w2 &&& (255 : Int32))).toInt64)) * (1099511628211 : Int64))), .second, .val (.ref a1), .val (.int (4 : Int32)), .val (.int (3 : Int32)), .val (.int w2)] [])) _
    refine XS.aloadN X0.here hx rfl (hb hby d3_20) rfl rfl ?_
    show Steps p.tables e below (s₁.setTop (mkF m 21 #[.val (.ref a1), .val (.long (((((((-3750763034362895579 : Int64) ^^^ (((w0 &&& (255 : Int32))).toInt64)) * (1099511628211 : Int64)) ^^^ (((w1 &&& (255 : Int32))).toInt64)) * (1099511628211 : Int64)) ^^^ (((w2 &&& (255 : Int32))).toInt64)) * (1099511628211 : Int64))), .second, .val (.ref a1), .val (.int (4 : Int32)), .val (.int (3 : Int32)), .val (.int w2)] [(.ref a1)])) _
    refine XS.iload X0.here hx rfl (hb hby d3_21) rfl ?_
    show Steps p.tables e below (s₁.setTop (mkF m 23 #[.val (.ref a1), .val (.long (((((((-3750763034362895579 : Int64) ^^^ (((w0 &&& (255 : Int32))).toInt64)) * (1099511628211 : Int64)) ^^^ (((w1 &&& (255 : Int32))).toInt64)) * (1099511628211 : Int64)) ^^^ (((w2 &&& (255 : Int32))).toInt64)) * (1099511628211 : Int64))), .second, .val (.ref a1), .val (.int (4 : Int32)), .val (.int (3 : Int32)), .val (.int w2)] [(.int (3 : Int32)), (.ref a1)])) _
    refine X0.baloadBytes hx (j := (3 : Int32)) (v := (.int w3)) (by rw [e0]; exact Ar.1) (State.isArrayOf_alike hZ.alike Ar.2.1) Ar.2.2 (inb_of SS ⟨by decide, by decide⟩) (HH.at (inb_of SS ⟨by decide, by decide⟩) rfl) (g := (mkF m 23 #[.val (.ref a1), .val (.long (((((((-3750763034362895579 : Int64) ^^^ (((w0 &&& (255 : Int32))).toInt64)) * (1099511628211 : Int64)) ^^^ (((w1 &&& (255 : Int32))).toInt64)) * (1099511628211 : Int64)) ^^^ (((w2 &&& (255 : Int32))).toInt64)) * (1099511628211 : Int64))), .second, .val (.ref a1), .val (.int (4 : Int32)), .val (.int (3 : Int32)), .val (.int w2)] [(.int (3 : Int32)), (.ref a1)])) rfl rfl (hb hby d3_23) _ ?_
    show Steps p.tables e below (s₁.setTop (mkF m 24 #[.val (.ref a1), .val (.long (((((((-3750763034362895579 : Int64) ^^^ (((w0 &&& (255 : Int32))).toInt64)) * (1099511628211 : Int64)) ^^^ (((w1 &&& (255 : Int32))).toInt64)) * (1099511628211 : Int64)) ^^^ (((w2 &&& (255 : Int32))).toInt64)) * (1099511628211 : Int64))), .second, .val (.ref a1), .val (.int (4 : Int32)), .val (.int (3 : Int32)), .val (.int w2)] [(.int w3)])) _
    refine XS.istore X0.here hx rfl (hb hby d3_24) rfl (l' := #[.val (.ref a1), .val (.long (((((((-3750763034362895579 : Int64) ^^^ (((w0 &&& (255 : Int32))).toInt64)) * (1099511628211 : Int64)) ^^^ (((w1 &&& (255 : Int32))).toInt64)) * (1099511628211 : Int64)) ^^^ (((w2 &&& (255 : Int32))).toInt64)) * (1099511628211 : Int64))), .second, .val (.ref a1), .val (.int (4 : Int32)), .val (.int (3 : Int32)), .val (.int w3)]) rfl ?_
    show Steps p.tables e below (s₁.setTop (mkF m 26 #[.val (.ref a1), .val (.long (((((((-3750763034362895579 : Int64) ^^^ (((w0 &&& (255 : Int32))).toInt64)) * (1099511628211 : Int64)) ^^^ (((w1 &&& (255 : Int32))).toInt64)) * (1099511628211 : Int64)) ^^^ (((w2 &&& (255 : Int32))).toInt64)) * (1099511628211 : Int64))), .second, .val (.ref a1), .val (.int (4 : Int32)), .val (.int (3 : Int32)), .val (.int w3)] [])) _
    refine XT.lloadN X0.here hx rfl (hb hby d3_26) rfl ?_
    show Steps p.tables e below (s₁.setTop (mkF m 27 #[.val (.ref a1), .val (.long (((((((-3750763034362895579 : Int64) ^^^ (((w0 &&& (255 : Int32))).toInt64)) * (1099511628211 : Int64)) ^^^ (((w1 &&& (255 : Int32))).toInt64)) * (1099511628211 : Int64)) ^^^ (((w2 &&& (255 : Int32))).toInt64)) * (1099511628211 : Int64))), .second, .val (.ref a1), .val (.int (4 : Int32)), .val (.int (3 : Int32)), .val (.int w3)] [(.long (((((((-3750763034362895579 : Int64) ^^^ (((w0 &&& (255 : Int32))).toInt64)) * (1099511628211 : Int64)) ^^^ (((w1 &&& (255 : Int32))).toInt64)) * (1099511628211 : Int64)) ^^^ (((w2 &&& (255 : Int32))).toInt64)) * (1099511628211 : Int64)))])) _
    refine XS.iload X0.here hx rfl (hb hby d3_27) rfl ?_
    show Steps p.tables e below (s₁.setTop (mkF m 29 #[.val (.ref a1), .val (.long (((((((-3750763034362895579 : Int64) ^^^ (((w0 &&& (255 : Int32))).toInt64)) * (1099511628211 : Int64)) ^^^ (((w1 &&& (255 : Int32))).toInt64)) * (1099511628211 : Int64)) ^^^ (((w2 &&& (255 : Int32))).toInt64)) * (1099511628211 : Int64))), .second, .val (.ref a1), .val (.int (4 : Int32)), .val (.int (3 : Int32)), .val (.int w3)] [(.int w3), (.long (((((((-3750763034362895579 : Int64) ^^^ (((w0 &&& (255 : Int32))).toInt64)) * (1099511628211 : Int64)) ^^^ (((w1 &&& (255 : Int32))).toInt64)) * (1099511628211 : Int64)) ^^^ (((w2 &&& (255 : Int32))).toInt64)) * (1099511628211 : Int64)))])) _
    refine XS.sipush X0.here hx rfl (hb hby d3_29) ?_
    show Steps p.tables e below (s₁.setTop (mkF m 32 #[.val (.ref a1), .val (.long (((((((-3750763034362895579 : Int64) ^^^ (((w0 &&& (255 : Int32))).toInt64)) * (1099511628211 : Int64)) ^^^ (((w1 &&& (255 : Int32))).toInt64)) * (1099511628211 : Int64)) ^^^ (((w2 &&& (255 : Int32))).toInt64)) * (1099511628211 : Int64))), .second, .val (.ref a1), .val (.int (4 : Int32)), .val (.int (3 : Int32)), .val (.int w3)] [(.int (255 : Int32)), (.int w3), (.long (((((((-3750763034362895579 : Int64) ^^^ (((w0 &&& (255 : Int32))).toInt64)) * (1099511628211 : Int64)) ^^^ (((w1 &&& (255 : Int32))).toInt64)) * (1099511628211 : Int64)) ^^^ (((w2 &&& (255 : Int32))).toInt64)) * (1099511628211 : Int64)))])) _
    refine XS.iand X0.here hx rfl (hb hby d3_32) rfl ?_
    show Steps p.tables e below (s₁.setTop (mkF m 33 #[.val (.ref a1), .val (.long (((((((-3750763034362895579 : Int64) ^^^ (((w0 &&& (255 : Int32))).toInt64)) * (1099511628211 : Int64)) ^^^ (((w1 &&& (255 : Int32))).toInt64)) * (1099511628211 : Int64)) ^^^ (((w2 &&& (255 : Int32))).toInt64)) * (1099511628211 : Int64))), .second, .val (.ref a1), .val (.int (4 : Int32)), .val (.int (3 : Int32)), .val (.int w3)] [(.int (w3 &&& (255 : Int32))), (.long (((((((-3750763034362895579 : Int64) ^^^ (((w0 &&& (255 : Int32))).toInt64)) * (1099511628211 : Int64)) ^^^ (((w1 &&& (255 : Int32))).toInt64)) * (1099511628211 : Int64)) ^^^ (((w2 &&& (255 : Int32))).toInt64)) * (1099511628211 : Int64)))])) _
    refine XS.i2l X0.here hx rfl (hb hby d3_33) rfl ?_
    show Steps p.tables e below (s₁.setTop (mkF m 34 #[.val (.ref a1), .val (.long (((((((-3750763034362895579 : Int64) ^^^ (((w0 &&& (255 : Int32))).toInt64)) * (1099511628211 : Int64)) ^^^ (((w1 &&& (255 : Int32))).toInt64)) * (1099511628211 : Int64)) ^^^ (((w2 &&& (255 : Int32))).toInt64)) * (1099511628211 : Int64))), .second, .val (.ref a1), .val (.int (4 : Int32)), .val (.int (3 : Int32)), .val (.int w3)] [(.long (((w3 &&& (255 : Int32))).toInt64)), (.long (((((((-3750763034362895579 : Int64) ^^^ (((w0 &&& (255 : Int32))).toInt64)) * (1099511628211 : Int64)) ^^^ (((w1 &&& (255 : Int32))).toInt64)) * (1099511628211 : Int64)) ^^^ (((w2 &&& (255 : Int32))).toInt64)) * (1099511628211 : Int64)))])) _
    refine XS.lxor X0.here hx rfl (hb hby d3_34) rfl ?_
    show Steps p.tables e below (s₁.setTop (mkF m 35 #[.val (.ref a1), .val (.long (((((((-3750763034362895579 : Int64) ^^^ (((w0 &&& (255 : Int32))).toInt64)) * (1099511628211 : Int64)) ^^^ (((w1 &&& (255 : Int32))).toInt64)) * (1099511628211 : Int64)) ^^^ (((w2 &&& (255 : Int32))).toInt64)) * (1099511628211 : Int64))), .second, .val (.ref a1), .val (.int (4 : Int32)), .val (.int (3 : Int32)), .val (.int w3)] [(.long ((((((((-3750763034362895579 : Int64) ^^^ (((w0 &&& (255 : Int32))).toInt64)) * (1099511628211 : Int64)) ^^^ (((w1 &&& (255 : Int32))).toInt64)) * (1099511628211 : Int64)) ^^^ (((w2 &&& (255 : Int32))).toInt64)) * (1099511628211 : Int64)) ^^^ (((w3 &&& (255 : Int32))).toInt64)))])) _
    refine X0.ldc2J hx hown (mvT hZ (hw _ (List.mem_of_getElem? (i := 13) rfl))) (g := (mkF m 35 #[.val (.ref a1), .val (.long (((((((-3750763034362895579 : Int64) ^^^ (((w0 &&& (255 : Int32))).toInt64)) * (1099511628211 : Int64)) ^^^ (((w1 &&& (255 : Int32))).toInt64)) * (1099511628211 : Int64)) ^^^ (((w2 &&& (255 : Int32))).toInt64)) * (1099511628211 : Int64))), .second, .val (.ref a1), .val (.int (4 : Int32)), .val (.int (3 : Int32)), .val (.int w3)] [(.long ((((((((-3750763034362895579 : Int64) ^^^ (((w0 &&& (255 : Int32))).toInt64)) * (1099511628211 : Int64)) ^^^ (((w1 &&& (255 : Int32))).toInt64)) * (1099511628211 : Int64)) ^^^ (((w2 &&& (255 : Int32))).toInt64)) * (1099511628211 : Int64)) ^^^ (((w3 &&& (255 : Int32))).toInt64)))])) rfl (hb hby d3_35) ?_
    show Steps p.tables e below (s₁.setTop (mkF m 38 #[.val (.ref a1), .val (.long (((((((-3750763034362895579 : Int64) ^^^ (((w0 &&& (255 : Int32))).toInt64)) * (1099511628211 : Int64)) ^^^ (((w1 &&& (255 : Int32))).toInt64)) * (1099511628211 : Int64)) ^^^ (((w2 &&& (255 : Int32))).toInt64)) * (1099511628211 : Int64))), .second, .val (.ref a1), .val (.int (4 : Int32)), .val (.int (3 : Int32)), .val (.int w3)] [(.long (1099511628211 : Int64)), (.long ((((((((-3750763034362895579 : Int64) ^^^ (((w0 &&& (255 : Int32))).toInt64)) * (1099511628211 : Int64)) ^^^ (((w1 &&& (255 : Int32))).toInt64)) * (1099511628211 : Int64)) ^^^ (((w2 &&& (255 : Int32))).toInt64)) * (1099511628211 : Int64)) ^^^ (((w3 &&& (255 : Int32))).toInt64)))])) _
    refine XS.lmul X0.here hx rfl (hb hby d3_38) rfl ?_
    show Steps p.tables e below (s₁.setTop (mkF m 39 #[.val (.ref a1), .val (.long (((((((-3750763034362895579 : Int64) ^^^ (((w0 &&& (255 : Int32))).toInt64)) * (1099511628211 : Int64)) ^^^ (((w1 &&& (255 : Int32))).toInt64)) * (1099511628211 : Int64)) ^^^ (((w2 &&& (255 : Int32))).toInt64)) * (1099511628211 : Int64))), .second, .val (.ref a1), .val (.int (4 : Int32)), .val (.int (3 : Int32)), .val (.int w3)] [(.long (((((((((-3750763034362895579 : Int64) ^^^ (((w0 &&& (255 : Int32))).toInt64)) * (1099511628211 : Int64)) ^^^ (((w1 &&& (255 : Int32))).toInt64)) * (1099511628211 : Int64)) ^^^ (((w2 &&& (255 : Int32))).toInt64)) * (1099511628211 : Int64)) ^^^ (((w3 &&& (255 : Int32))).toInt64)) * (1099511628211 : Int64)))])) _
    refine XT.lstoreN X0.here hx rfl (hb hby d3_39) rfl (l' := #[.val (.ref a1), .val (.long (((((((((-3750763034362895579 : Int64) ^^^ (((w0 &&& (255 : Int32))).toInt64)) * (1099511628211 : Int64)) ^^^ (((w1 &&& (255 : Int32))).toInt64)) * (1099511628211 : Int64)) ^^^ (((w2 &&& (255 : Int32))).toInt64)) * (1099511628211 : Int64)) ^^^ (((w3 &&& (255 : Int32))).toInt64)) * (1099511628211 : Int64))), .second, .val (.ref a1), .val (.int (4 : Int32)), .val (.int (3 : Int32)), .val (.int w3)]) rfl ?_
    show Steps p.tables e below (s₁.setTop (mkF m 40 #[.val (.ref a1), .val (.long (((((((((-3750763034362895579 : Int64) ^^^ (((w0 &&& (255 : Int32))).toInt64)) * (1099511628211 : Int64)) ^^^ (((w1 &&& (255 : Int32))).toInt64)) * (1099511628211 : Int64)) ^^^ (((w2 &&& (255 : Int32))).toInt64)) * (1099511628211 : Int64)) ^^^ (((w3 &&& (255 : Int32))).toInt64)) * (1099511628211 : Int64))), .second, .val (.ref a1), .val (.int (4 : Int32)), .val (.int (3 : Int32)), .val (.int w3)] [])) _
    refine XS.iinc X0.here hx rfl (hb hby d3_40) rfl (l' := #[.val (.ref a1), .val (.long (((((((((-3750763034362895579 : Int64) ^^^ (((w0 &&& (255 : Int32))).toInt64)) * (1099511628211 : Int64)) ^^^ (((w1 &&& (255 : Int32))).toInt64)) * (1099511628211 : Int64)) ^^^ (((w2 &&& (255 : Int32))).toInt64)) * (1099511628211 : Int64)) ^^^ (((w3 &&& (255 : Int32))).toInt64)) * (1099511628211 : Int64))), .second, .val (.ref a1), .val (.int (4 : Int32)), .val (.int (4 : Int32)), .val (.int w3)]) rfl ?_
    show Steps p.tables e below (s₁.setTop (mkF m 43 #[.val (.ref a1), .val (.long (((((((((-3750763034362895579 : Int64) ^^^ (((w0 &&& (255 : Int32))).toInt64)) * (1099511628211 : Int64)) ^^^ (((w1 &&& (255 : Int32))).toInt64)) * (1099511628211 : Int64)) ^^^ (((w2 &&& (255 : Int32))).toInt64)) * (1099511628211 : Int64)) ^^^ (((w3 &&& (255 : Int32))).toInt64)) * (1099511628211 : Int64))), .second, .val (.ref a1), .val (.int (4 : Int32)), .val (.int (4 : Int32)), .val (.int w3)] [])) _
    refine XS.goto X0.here hx rfl (pc0 := 43) (pc' := 13) rfl (hb hby d3_43) (by decide) (by decide) ?_
    show Steps p.tables e below (s₁.setTop (mkF m 13 #[.val (.ref a1), .val (.long (((((((((-3750763034362895579 : Int64) ^^^ (((w0 &&& (255 : Int32))).toInt64)) * (1099511628211 : Int64)) ^^^ (((w1 &&& (255 : Int32))).toInt64)) * (1099511628211 : Int64)) ^^^ (((w2 &&& (255 : Int32))).toInt64)) * (1099511628211 : Int64)) ^^^ (((w3 &&& (255 : Int32))).toInt64)) * (1099511628211 : Int64))), .second, .val (.ref a1), .val (.int (4 : Int32)), .val (.int (4 : Int32)), .val (.int w3)] [])) _
    refine XS.iload X0.here hx rfl (hb hby d3_13) rfl ?_
    show Steps p.tables e below (s₁.setTop (mkF m 15 #[.val (.ref a1), .val (.long (((((((((-3750763034362895579 : Int64) ^^^ (((w0 &&& (255 : Int32))).toInt64)) * (1099511628211 : Int64)) ^^^ (((w1 &&& (255 : Int32))).toInt64)) * (1099511628211 : Int64)) ^^^ (((w2 &&& (255 : Int32))).toInt64)) * (1099511628211 : Int64)) ^^^ (((w3 &&& (255 : Int32))).toInt64)) * (1099511628211 : Int64))), .second, .val (.ref a1), .val (.int (4 : Int32)), .val (.int (4 : Int32)), .val (.int w3)] [(.int (4 : Int32))])) _
    refine XS.iload X0.here hx rfl (hb hby d3_15) rfl ?_
    show Steps p.tables e below (s₁.setTop (mkF m 17 #[.val (.ref a1), .val (.long (((((((((-3750763034362895579 : Int64) ^^^ (((w0 &&& (255 : Int32))).toInt64)) * (1099511628211 : Int64)) ^^^ (((w1 &&& (255 : Int32))).toInt64)) * (1099511628211 : Int64)) ^^^ (((w2 &&& (255 : Int32))).toInt64)) * (1099511628211 : Int64)) ^^^ (((w3 &&& (255 : Int32))).toInt64)) * (1099511628211 : Int64))), .second, .val (.ref a1), .val (.int (4 : Int32)), .val (.int (4 : Int32)), .val (.int w3)] [(.int (4 : Int32)), (.int (4 : Int32))])) _
    exact k
  have pre7 : Go p e below (s₁.setTop (entryFrame m #[(.ref a1)] 7)) (s₁.setTop (mkF m 47 #[.val (.ref a1), .val (.long (((((((((-3750763034362895579 : Int64) ^^^ (((w0 &&& (255 : Int32))).toInt64)) * (1099511628211 : Int64)) ^^^ (((w1 &&& (255 : Int32))).toInt64)) * (1099511628211 : Int64)) ^^^ (((w2 &&& (255 : Int32))).toInt64)) * (1099511628211 : Int64)) ^^^ (((w3 &&& (255 : Int32))).toInt64)) * (1099511628211 : Int64))), .second, .val (.ref a1), .val (.int (4 : Int32)), .val (.int (4 : Int32)), .val (.int w3)] [(.long (((((((((-3750763034362895579 : Int64) ^^^ (((w0 &&& (255 : Int32))).toInt64)) * (1099511628211 : Int64)) ^^^ (((w1 &&& (255 : Int32))).toInt64)) * (1099511628211 : Int64)) ^^^ (((w2 &&& (255 : Int32))).toInt64)) * (1099511628211 : Int64)) ^^^ (((w3 &&& (255 : Int32))).toInt64)) * (1099511628211 : Int64)))])) := by
    intro t k
    refine pre6 t ?_
    show Steps p.tables e below (s₁.setTop (mkF m 17 #[.val (.ref a1), .val (.long (((((((((-3750763034362895579 : Int64) ^^^ (((w0 &&& (255 : Int32))).toInt64)) * (1099511628211 : Int64)) ^^^ (((w1 &&& (255 : Int32))).toInt64)) * (1099511628211 : Int64)) ^^^ (((w2 &&& (255 : Int32))).toInt64)) * (1099511628211 : Int64)) ^^^ (((w3 &&& (255 : Int32))).toInt64)) * (1099511628211 : Int64))), .second, .val (.ref a1), .val (.int (4 : Int32)), .val (.int (4 : Int32)), .val (.int w3)] [(.int (4 : Int32)), (.int (4 : Int32))])) _
    refine XS.icmpYes X0.here hx rfl (pc0 := 17) (pc' := 46) rfl (hb hby d3_17) rfl (XT.ii_ge_t (by decide : ¬ ((4 : Int32) < (4 : Int32)))) (by decide) (by decide) ?_
    show Steps p.tables e below (s₁.setTop (mkF m 46 #[.val (.ref a1), .val (.long (((((((((-3750763034362895579 : Int64) ^^^ (((w0 &&& (255 : Int32))).toInt64)) * (1099511628211 : Int64)) ^^^ (((w1 &&& (255 : Int32))).toInt64)) * (1099511628211 : Int64)) ^^^ (((w2 &&& (255 : Int32))).toInt64)) * (1099511628211 : Int64)) ^^^ (((w3 &&& (255 : Int32))).toInt64)) * (1099511628211 : Int64))), .second, .val (.ref a1), .val (.int (4 : Int32)), .val (.int (4 : Int32)), .val (.int w3)] [])) _
    refine XT.lloadN X0.here hx rfl (hb hby d3_46) rfl ?_
    show Steps p.tables e below (s₁.setTop (mkF m 47 #[.val (.ref a1), .val (.long (((((((((-3750763034362895579 : Int64) ^^^ (((w0 &&& (255 : Int32))).toInt64)) * (1099511628211 : Int64)) ^^^ (((w1 &&& (255 : Int32))).toInt64)) * (1099511628211 : Int64)) ^^^ (((w2 &&& (255 : Int32))).toInt64)) * (1099511628211 : Int64)) ^^^ (((w3 &&& (255 : Int32))).toInt64)) * (1099511628211 : Int64))), .second, .val (.ref a1), .val (.int (4 : Int32)), .val (.int (4 : Int32)), .val (.int w3)] [(.long (((((((((-3750763034362895579 : Int64) ^^^ (((w0 &&& (255 : Int32))).toInt64)) * (1099511628211 : Int64)) ^^^ (((w1 &&& (255 : Int32))).toInt64)) * (1099511628211 : Int64)) ^^^ (((w2 &&& (255 : Int32))).toInt64)) * (1099511628211 : Int64)) ^^^ (((w3 &&& (255 : Int32))).toInt64)) * (1099511628211 : Int64)))])) _
    exact k
  obtain ⟨fs, hr, hrun, hended, hW, hsame⟩ := X0.leave (hlocks := hlk) (v := some (.long (((((((((-3750763034362895579 : Int64) ^^^ (((w0 &&& (255 : Int32))).toInt64)) * (1099511628211 : Int64)) ^^^ (((w1 &&& (255 : Int32))).toInt64)) * (1099511628211 : Int64)) ^^^ (((w2 &&& (255 : Int32))).toInt64)) * (1099511628211 : Int64)) ^^^ (((w3 &&& (255 : Int32))).toInt64)) * (1099511628211 : Int64)))) (fun h => by rw [Bd.returns] at h; cases h)
  refine ⟨_, _, pre7 _ (retJ X0 hx Bd.returns (hb hby d3_47) hr), hrun, hended, _, _, rfl, ?_, ⟨_, rfl⟩, hW, hsame.mono (by decide) (by decide)⟩
  show Q3_4 Z a1 kk w0 w1 w2 w3 h0 n0 _ s₁.heap _
  rw [e0]
  exact ⟨congrArg some (congrArg Value.long (show (((((((((-3750763034362895579 : Int64) ^^^ (((w0 &&& (255 : Int32))).toInt64)) * (1099511628211 : Int64)) ^^^ (((w1 &&& (255 : Int32))).toInt64)) * (1099511628211 : Int64)) ^^^ (((w2 &&& (255 : Int32))).toInt64)) * (1099511628211 : Int64)) ^^^ (((w3 &&& (255 : Int32))).toInt64)) * (1099511628211 : Int64)) = fnv4 w0 w1 w2 w3 from by rw [fnv4])), N0, rfl⟩
theorem own_n3 (x : Int32) : x &&& (3 : Int32) = 0 ∨ x &&& (3 : Int32) = 1 ∨ x &&& (3 : Int32) = 2 ∨ x &&& (3 : Int32) = 3 := by
  have e := Jvm.Kit.i32_mask x 3 (k := 2) (by decide) (by decide)
  have h : (x &&& (3 : Int32)).toInt = (0 : Nat) ∨ (x &&& (3 : Int32)).toInt = (1 : Nat) ∨ (x &&& (3 : Int32)).toInt = (2 : Nat) ∨ (x &&& (3 : Int32)).toInt = (3 : Nat) := by omega
  rcases h with h | h | h | h
  · exact Or.inl (own_ofNat h)
  · exact Or.inr (Or.inl (own_ofNat h))
  · exact Or.inr (Or.inr (Or.inl (own_ofNat h)))
  · exact Or.inr (Or.inr (Or.inr (own_ofNat h)))
theorem own_byte (x : Int32) : (nar .byte (x.toInt8.toInt32)) &&& (255 : Int32) = x &&& (255 : Int32) := by
  rw [show nar .byte (x.toInt8.toInt32) = x.toInt8.toInt32 from Value.int.inj (XT.narrow_b x)]
  apply Int32.toBitVec_inj.mp
  have e : (x.toInt8.toInt32 &&& (255 : Int32)).toBitVec = (x.toBitVec.signExtend 8).signExtend 32 &&& 255#32 := rfl
  have e2 : (x &&& (255 : Int32)).toBitVec = x.toBitVec &&& 255#32 := rfl
  rw [e, e2]
  apply BitVec.eq_of_getLsbD_eq
  intro i hi
  have h255 : (255#32).getLsbD i = decide (i < 8) := by
    have : ∀ j : Fin 32, (255#32).getLsbD j.val = decide (j.val < 8) := by decide
    exact this ⟨i, hi⟩
  rw [BitVec.getLsbD_and, BitVec.getLsbD_and, h255, BitVec.getLsbD_signExtend]
  by_cases h8 : i < 8
  · rw [if_pos h8, BitVec.getLsbD_signExtend, if_pos hi]; simp [h8, hi]
  · simp [h8]
theorem ef_0 (m : MethodId) (x0 : Int32) (x1 : Int32) (x2 : Int32) (x3 : Int32) (x4 : Int32) : entryFrame m #[(.int x0), (.int x1), (.int x2), (.int x3), (.int x4)] maxLocals = mkF m 0 #[.val (.int x0), .val (.int x1), .val (.int x2), .val (.int x3), .val (.int x4), .unset, .unset, .unset, .unset, .unset, .unset, .unset, .unset, .unset, .unset, .unset, .unset] [] := by first | (simp [entryFrame, mkF, argsToLocals, Value.category, maxLocals]; done) | rfl
theorem pd_3 : parseMethodDescriptor "(IIII)[B" = some ⟨[.int, .int, .int, .int], some (.array .byte)⟩ := by decide +kernel
theorem pd_4 : parseMethodDescriptor "(IIIII)[B" = some ⟨[.int, .int, .int, .int, .int], some (.array .byte)⟩ := by decide +kernel
theorem pd_5 : parseMethodDescriptor "([B)J" = some ⟨[(.array .byte)], some .long⟩ := by decide +kernel
def Q0 (Z : State) (x0 : Int32) (x1 : Int32) (x2 : Int32) (x3 : Int32) (x4 : Int32) (h0 : Heap) (n0 : Nat) (v : Option Value) (h : Heap) (L : List Loc) : Prop := v = some (.int 1) ∧ Fr n0 L
set_option maxRecDepth 65536 in
set_option maxHeartbeats 40000000 in
theorem rm0 (l : Launch) (Z : State) (a0 : Array Value) (hw : ∀ d ∈ tables_1, d.before a0 Z = true) (ws : List Jvm.Cond) (x0 : Int32) (x1 : Int32) (x2 : Int32) (x3 : Int32) (x4 : Int32) (h0 : Heap) (n0 : Nat) (Z0 : n0 ≤ h0.size) :
    MetFree l x (head1 (Jvm.Cond.code x code maxLocals ret :: ws) room_1) (fun a U => a = #[(.int x0), (.int x1), (.int x2), (.int x3), (.int x4)] ∧ Z.Warmed39 U.vm ∧ U.heap = h0) (fun _ _ _ _ _ => True) (fun _ U o U' => ∃ v L, o = .returned v ∧ Q0 Z x0 x1 x2 x3 x4 h0 n0 v U'.heap L ∧ FrameEnd U o U' L 16 128) := by
  refine MetFree.of_bodySF (plainFor_of_name pn_com_example_seshat_seshat_filter_ProbeFnv1aPinLaw) hisR ?_
  intro p e s m args below meth c s₁ Bd hml0 hP hK
  obtain ⟨rfl, hZ, hh⟩ := hP
  have hx := Bd.exec
  have hby := Bd.bytes
  have hml : c.maxLocals = 17 := hml0
  have hown : s.vm.findClass "com/example/seshat/seshat/filter/ProbeFnv1aPinLaw" = some m.cls := findClass_of_methodNamed Bd.named
  have hnm := (name_of_methodNamed Bd.named Bd.method).1
  have hlk : meth.locks = false := BodyLoose.notSynchronized Bd
  have X0 : Stand p l e room_1 s m #[(.int x0), (.int x1), (.int x2), (.int x3), (.int x4)] below meth c s₁ [] 0 0 := Stand.of_body Bd
  have e0 : s₁.heap = h0 := by rw [← hh, Bd.state]; rfl
  have N0 := Fr.nil n0
  have pre0 : Go p e below (s₁.setTop (entryFrame m #[(.int x0), (.int x1), (.int x2), (.int x3), (.int x4)] maxLocals)) (s₁.setTop (mkF m 0 #[.val (.int x0), .val (.int x1), .val (.int x2), .val (.int x3), .val (.int x4), .unset, .unset, .unset, .unset, .unset, .unset, .unset, .unset, .unset, .unset, .unset, .unset] [])) := fun t k => castTop (ef_0 m x0 x1 x2 x3 x4) k
  have pre1 : Go p e below (s₁.setTop (entryFrame m #[(.int x0), (.int x1), (.int x2), (.int x3), (.int x4)] maxLocals)) (s₁.setTop (mkF m 3 #[.val (.int x0), .val (.int x1), .val (.int x2), .val (.int x3), .val (.int x4), .unset, .unset, .unset, .unset, .unset, .unset, .unset, .unset, .unset, .unset, .unset, .unset] [(.int (x0 &&& (3 : Int32)))])) := by
    intro t k
    refine pre0 t ?_
    show Steps p.tables e below (s₁.setTop (mkF m 0 #[.val (.int x0), .val (.int x1), .val (.int x2), .val (.int x3), .val (.int x4), .unset, .unset, .unset, .unset, .unset, .unset, .unset, .unset, .unset, .unset, .unset, .unset] [])) _
    refine XS.iloadN X0.here hx rfl (hb hby at_0) rfl ?_
    show Steps p.tables e below (s₁.setTop (mkF m 1 #[.val (.int x0), .val (.int x1), .val (.int x2), .val (.int x3), .val (.int x4), .unset, .unset, .unset, .unset, .unset, .unset, .unset, .unset, .unset, .unset, .unset, .unset] [(.int x0)])) _
    refine XS.iconst X0.here hx rfl (hb hby at_1) ?_
    show Steps p.tables e below (s₁.setTop (mkF m 2 #[.val (.int x0), .val (.int x1), .val (.int x2), .val (.int x3), .val (.int x4), .unset, .unset, .unset, .unset, .unset, .unset, .unset, .unset, .unset, .unset, .unset, .unset] [(.int (3 : Int32)), (.int x0)])) _
    refine XS.iand X0.here hx rfl (hb hby at_2) rfl ?_
    show Steps p.tables e below (s₁.setTop (mkF m 3 #[.val (.int x0), .val (.int x1), .val (.int x2), .val (.int x3), .val (.int x4), .unset, .unset, .unset, .unset, .unset, .unset, .unset, .unset, .unset, .unset, .unset, .unset] [(.int (x0 &&& (3 : Int32)))])) _
    exact k
  obtain ⟨nn, h_nn⟩ : ∃ z : Int32, z = (x0 &&& (3 : Int32)) := ⟨_, rfl⟩
  have pre2 : Go p e below (s₁.setTop (entryFrame m #[(.int x0), (.int x1), (.int x2), (.int x3), (.int x4)] maxLocals)) (s₁.setTop (mkF m 3 #[.val (.int x0), .val (.int x1), .val (.int x2), .val (.int x3), .val (.int x4), .unset, .unset, .unset, .unset, .unset, .unset, .unset, .unset, .unset, .unset, .unset, .unset] [(.int nn)])) := by rw [h_nn]; exact pre1
  have hnn := own_n3 x0; rw [← h_nn] at hnn; clear h_nn
  rcases hnn with hq3 | hq3 | hq3 | hq3
  · skip
    subst hq3
    have pre4 : Go p e below (s₁.setTop (entryFrame m #[(.int x0), (.int x1), (.int x2), (.int x3), (.int x4)] maxLocals)) (s₁.setTop (mkF m 6 #[.val (.int x0), .val (.int x1), .val (.int x2), .val (.int x3), .val (.int x4), .val (.int (0 : Int32)), .unset, .unset, .unset, .unset, .unset, .unset, .unset, .unset, .unset, .unset, .unset] [(.int (0 : Int32))])) := by
      intro t k
      refine pre2 t ?_
      show Steps p.tables e below (s₁.setTop (mkF m 3 #[.val (.int x0), .val (.int x1), .val (.int x2), .val (.int x3), .val (.int x4), .unset, .unset, .unset, .unset, .unset, .unset, .unset, .unset, .unset, .unset, .unset, .unset] [(.int (0 : Int32))])) _
      refine XS.istore X0.here hx rfl (hb hby at_3) rfl (l' := #[.val (.int x0), .val (.int x1), .val (.int x2), .val (.int x3), .val (.int x4), .val (.int (0 : Int32)), .unset, .unset, .unset, .unset, .unset, .unset, .unset, .unset, .unset, .unset, .unset]) rfl ?_
      show Steps p.tables e below (s₁.setTop (mkF m 5 #[.val (.int x0), .val (.int x1), .val (.int x2), .val (.int x3), .val (.int x4), .val (.int (0 : Int32)), .unset, .unset, .unset, .unset, .unset, .unset, .unset, .unset, .unset, .unset, .unset] [])) _
      refine XS.iconst X0.here hx rfl (hb hby at_5) ?_
      show Steps p.tables e below (s₁.setTop (mkF m 6 #[.val (.int x0), .val (.int x1), .val (.int x2), .val (.int x3), .val (.int x4), .val (.int (0 : Int32)), .unset, .unset, .unset, .unset, .unset, .unset, .unset, .unset, .unset, .unset, .unset] [(.int (0 : Int32))])) _
      exact k
    obtain ⟨T5, h5, k5, X5, e5, E5, A5, st5⟩ := newP X0 hx hZ (hw _ (List.mem_of_getElem? (i := 0) rfl)) e0 (g := (mkF m 6 #[.val (.int x0), .val (.int x1), .val (.int x2), .val (.int x3), .val (.int x4), .val (.int (0 : Int32)), .unset, .unset, .unset, .unset, .unset, .unset, .unset, .unset, .unset, .unset, .unset] [(.int (0 : Int32))])) rfl (hb hby at_6) rfl (by decide) (cap := 0) (by decide) (by decide) (by decide) (by decide)
    obtain ⟨ee, g5⟩ : ∃ z, z = h0.size := ⟨_, rfl⟩
    rw [← g5] at A5 st5
    have zz6 := (Nat.le_trans Z0 E5.1)
    have V_ee : Arv Z h5 ee k5 .byte (0 : Int32) [] (.int (0 : Int32)) := (Arv.new A5 (by decide)).pad (pad_rep [] (.int (0 : Int32)) 0)
    have g_ee : n0 ≤ ee := Nat.le_trans Z0 (Nat.le_of_eq g5.symm)
    have pre7 : Go p e below (s₁.setTop (entryFrame m #[(.int x0), (.int x1), (.int x2), (.int x3), (.int x4)] maxLocals)) (T5.setTop (mkF m 8 #[.val (.int x0), .val (.int x1), .val (.int x2), .val (.int x3), .val (.int x4), .val (.int (0 : Int32)), .unset, .unset, .unset, .unset, .unset, .unset, .unset, .unset, .unset, .unset, .unset] [(.ref ee)])) := fun t k => pre4 t (st5 t k)
    have pre8 : Go p e below (s₁.setTop (entryFrame m #[(.int x0), (.int x1), (.int x2), (.int x3), (.int x4)] maxLocals)) (T5.setTop (mkF m 15 #[.val (.int x0), .val (.int x1), .val (.int x2), .val (.int x3), .val (.int x4), .val (.int (0 : Int32)), .val (.ref ee), .unset, .unset, .unset, .unset, .unset, .unset, .unset, .unset, .unset, .unset] [(.int x3), (.int x2), (.int x1), (.int (0 : Int32))])) := by
      intro t k
      refine pre7 t ?_
      show Steps p.tables e below (T5.setTop (mkF m 8 #[.val (.int x0), .val (.int x1), .val (.int x2), .val (.int x3), .val (.int x4), .val (.int (0 : Int32)), .unset, .unset, .unset, .unset, .unset, .unset, .unset, .unset, .unset, .unset, .unset] [(.ref ee)])) _
      refine XS.astore X5.here hx rfl (hb hby at_8) rfl rfl (l' := #[.val (.int x0), .val (.int x1), .val (.int x2), .val (.int x3), .val (.int x4), .val (.int (0 : Int32)), .val (.ref ee), .unset, .unset, .unset, .unset, .unset, .unset, .unset, .unset, .unset, .unset]) rfl ?_
      show Steps p.tables e below (T5.setTop (mkF m 10 #[.val (.int x0), .val (.int x1), .val (.int x2), .val (.int x3), .val (.int x4), .val (.int (0 : Int32)), .val (.ref ee), .unset, .unset, .unset, .unset, .unset, .unset, .unset, .unset, .unset, .unset] [])) _
      refine XS.iload X5.here hx rfl (hb hby at_10) rfl ?_
      show Steps p.tables e below (T5.setTop (mkF m 12 #[.val (.int x0), .val (.int x1), .val (.int x2), .val (.int x3), .val (.int x4), .val (.int (0 : Int32)), .val (.ref ee), .unset, .unset, .unset, .unset, .unset, .unset, .unset, .unset, .unset, .unset] [(.int (0 : Int32))])) _
      refine XS.iloadN X5.here hx rfl (hb hby at_12) rfl ?_
      show Steps p.tables e below (T5.setTop (mkF m 13 #[.val (.int x0), .val (.int x1), .val (.int x2), .val (.int x3), .val (.int x4), .val (.int (0 : Int32)), .val (.ref ee), .unset, .unset, .unset, .unset, .unset, .unset, .unset, .unset, .unset, .unset] [(.int x1), (.int (0 : Int32))])) _
      refine XS.iloadN X5.here hx rfl (hb hby at_13) rfl ?_
      show Steps p.tables e below (T5.setTop (mkF m 14 #[.val (.int x0), .val (.int x1), .val (.int x2), .val (.int x3), .val (.int x4), .val (.int (0 : Int32)), .val (.ref ee), .unset, .unset, .unset, .unset, .unset, .unset, .unset, .unset, .unset, .unset] [(.int x2), (.int x1), (.int (0 : Int32))])) _
      refine XS.iloadN X5.here hx rfl (hb hby at_14) rfl ?_
      show Steps p.tables e below (T5.setTop (mkF m 15 #[.val (.int x0), .val (.int x1), .val (.int x2), .val (.int x3), .val (.int x4), .val (.int (0 : Int32)), .val (.ref ee), .unset, .unset, .unset, .unset, .unset, .unset, .unset, .unset, .unset, .unset] [(.int x3), (.int x2), (.int x1), (.int (0 : Int32))])) _
      exact k
    obtain ⟨_, _, ⟨T9, L9, k9, n9⟩, -, X9, ⟨Lc9, hQ9, l9, y9, z9⟩, st9⟩ := Jvm.LawKit.callS X5 hx (y := (⟨"com/example/seshat/seshat/filter/ProbeFnv1aPinLaw", "prefix", "(IIII)[B"⟩ : MethodName)) hown (mvT hZ (hw _ (List.mem_of_getElem? (i := 1) rfl))) (mvT hZ (hw _ (List.mem_of_getElem? (i := 2) rfl))) (mvT hZ (hw _ (List.mem_of_getElem? (i := 3) rfl))) (mvT hZ (hw _ (List.mem_of_getElem? (i := 4) rfl))) (by decide) (backOf (W := 0) (rm1_0 l Z a0 hw [] x1 x2 x3  h5 n0 zz6 ) hZ (hw _ (List.mem_of_getElem? (i := 4) rfl)) (hw _ (List.mem_of_getElem? (i := 3) rfl)) (by decide) (by decide)) (g := (mkF m 15 #[.val (.int x0), .val (.int x1), .val (.int x2), .val (.int x3), .val (.int x4), .val (.int (0 : Int32)), .val (.ref ee), .unset, .unset, .unset, .unset, .unset, .unset, .unset, .unset, .unset, .unset] [(.int x3), (.int x2), (.int x1), (.int (0 : Int32))])) rfl (by rw [hml]; rfl) (argsL := [(.int (0 : Int32)), (.int x1), (.int x2), (.int x3)]) (rest := []) (lenOf pd_3 rfl) rfl (by show 2 * 0 + _ ≤ _; exact Nat.le_of_eq rfl) (hb hby at_15) (fun _ _ => ⟨rfl, e5, (by decide : 1 + 1 ≤ _), (by decide : 0 + 4 ≤ _)⟩)
    dsimp only [Pt.U, Pt.locs, Pt.cells, Pt.slots] at X9 l9 y9 z9 st9 hQ9
    subst l9 y9 z9
    obtain ⟨ea, k_ea, rfl, g_ea, N9q, K9, V_ea⟩ := hQ9
    have N9 := Fr.app N0 N9q
    have kc10 := V_ee.keep K9 nin0
    have zz11 := Nat.le_trans zz6 K9.1
    have pre12 : Go p e below (s₁.setTop (entryFrame m #[(.int x0), (.int x1), (.int x2), (.int x3), (.int x4)] maxLocals)) (T9.setTop (mkF m 18 #[.val (.int x0), .val (.int x1), .val (.int x2), .val (.int x3), .val (.int x4), .val (.int (0 : Int32)), .val (.ref ee), .unset, .unset, .unset, .unset, .unset, .unset, .unset, .unset, .unset, .unset] [(.ref ea)])) := fun t k => pre8 t (st9 t k)
    have pre13 : Go p e below (s₁.setTop (entryFrame m #[(.int x0), (.int x1), (.int x2), (.int x3), (.int x4)] maxLocals)) (T9.setTop (mkF m 27 #[.val (.int x0), .val (.int x1), .val (.int x2), .val (.int x3), .val (.int x4), .val (.int (0 : Int32)), .val (.ref ee), .val (.ref ea), .unset, .unset, .unset, .unset, .unset, .unset, .unset, .unset, .unset] [(.int x4), (.int x3), (.int x2), (.int x1), (.int (0 : Int32))])) := by
      intro t k
      refine pre12 t ?_
      show Steps p.tables e below (T9.setTop (mkF m 18 #[.val (.int x0), .val (.int x1), .val (.int x2), .val (.int x3), .val (.int x4), .val (.int (0 : Int32)), .val (.ref ee), .unset, .unset, .unset, .unset, .unset, .unset, .unset, .unset, .unset, .unset] [(.ref ea)])) _
      refine XS.astore X9.here hx rfl (hb hby at_18) rfl rfl (l' := #[.val (.int x0), .val (.int x1), .val (.int x2), .val (.int x3), .val (.int x4), .val (.int (0 : Int32)), .val (.ref ee), .val (.ref ea), .unset, .unset, .unset, .unset, .unset, .unset, .unset, .unset, .unset]) rfl ?_
      show Steps p.tables e below (T9.setTop (mkF m 20 #[.val (.int x0), .val (.int x1), .val (.int x2), .val (.int x3), .val (.int x4), .val (.int (0 : Int32)), .val (.ref ee), .val (.ref ea), .unset, .unset, .unset, .unset, .unset, .unset, .unset, .unset, .unset] [])) _
      refine XS.iload X9.here hx rfl (hb hby at_20) rfl ?_
      show Steps p.tables e below (T9.setTop (mkF m 22 #[.val (.int x0), .val (.int x1), .val (.int x2), .val (.int x3), .val (.int x4), .val (.int (0 : Int32)), .val (.ref ee), .val (.ref ea), .unset, .unset, .unset, .unset, .unset, .unset, .unset, .unset, .unset] [(.int (0 : Int32))])) _
      refine XS.iloadN X9.here hx rfl (hb hby at_22) rfl ?_
      show Steps p.tables e below (T9.setTop (mkF m 23 #[.val (.int x0), .val (.int x1), .val (.int x2), .val (.int x3), .val (.int x4), .val (.int (0 : Int32)), .val (.ref ee), .val (.ref ea), .unset, .unset, .unset, .unset, .unset, .unset, .unset, .unset, .unset] [(.int x1), (.int (0 : Int32))])) _
      refine XS.iloadN X9.here hx rfl (hb hby at_23) rfl ?_
      show Steps p.tables e below (T9.setTop (mkF m 24 #[.val (.int x0), .val (.int x1), .val (.int x2), .val (.int x3), .val (.int x4), .val (.int (0 : Int32)), .val (.ref ee), .val (.ref ea), .unset, .unset, .unset, .unset, .unset, .unset, .unset, .unset, .unset] [(.int x2), (.int x1), (.int (0 : Int32))])) _
      refine XS.iloadN X9.here hx rfl (hb hby at_24) rfl ?_
      show Steps p.tables e below (T9.setTop (mkF m 25 #[.val (.int x0), .val (.int x1), .val (.int x2), .val (.int x3), .val (.int x4), .val (.int (0 : Int32)), .val (.ref ee), .val (.ref ea), .unset, .unset, .unset, .unset, .unset, .unset, .unset, .unset, .unset] [(.int x3), (.int x2), (.int x1), (.int (0 : Int32))])) _
      refine XS.iload X9.here hx rfl (hb hby at_25) rfl ?_
      show Steps p.tables e below (T9.setTop (mkF m 27 #[.val (.int x0), .val (.int x1), .val (.int x2), .val (.int x3), .val (.int x4), .val (.int (0 : Int32)), .val (.ref ee), .val (.ref ea), .unset, .unset, .unset, .unset, .unset, .unset, .unset, .unset, .unset] [(.int x4), (.int x3), (.int x2), (.int x1), (.int (0 : Int32))])) _
      exact k
    obtain ⟨_, _, ⟨T14, L14, k14, n14⟩, -, X14, ⟨Lc14, hQ14, l14, y14, z14⟩, st14⟩ := Jvm.LawKit.callS X9 hx (y := (⟨"com/example/seshat/seshat/filter/ProbeFnv1aPinLaw", "extended", "(IIIII)[B"⟩ : MethodName)) hown (mvT hZ (hw _ (List.mem_of_getElem? (i := 5) rfl))) (mvT hZ (hw _ (List.mem_of_getElem? (i := 6) rfl))) (mvT hZ (hw _ (List.mem_of_getElem? (i := 3) rfl))) (mvT hZ (hw _ (List.mem_of_getElem? (i := 7) rfl))) (by decide) (backOf (W := 0) (rm2_0 l Z a0 hw [] x1 x2 x3 x4  T9.heap n0 zz11 ) hZ (hw _ (List.mem_of_getElem? (i := 7) rfl)) (hw _ (List.mem_of_getElem? (i := 3) rfl)) (by decide) (by decide)) (g := (mkF m 27 #[.val (.int x0), .val (.int x1), .val (.int x2), .val (.int x3), .val (.int x4), .val (.int (0 : Int32)), .val (.ref ee), .val (.ref ea), .unset, .unset, .unset, .unset, .unset, .unset, .unset, .unset, .unset] [(.int x4), (.int x3), (.int x2), (.int x1), (.int (0 : Int32))])) rfl (by rw [hml]; rfl) (argsL := [(.int (0 : Int32)), (.int x1), (.int x2), (.int x3), (.int x4)]) (rest := []) (lenOf pd_4 rfl) rfl (by show 2 * 0 + _ ≤ _; exact Nat.le_of_eq rfl) (hb hby at_27) (fun _ _ => ⟨rfl, rfl, (by decide : 2 + 1 ≤ _), (by decide : 4 + 4 ≤ _)⟩)
    dsimp only [Pt.U, Pt.locs, Pt.cells, Pt.slots] at X14 l14 y14 z14 st14 hQ14
    subst l14 y14 z14
    obtain ⟨ec, k_ec, rfl, g_ec, N14q, K14, V_ec⟩ := hQ14
    have N14 := Fr.app N9 N14q
    have kc15 := kc10.keep K14 nin0
    have kc16 := V_ea.keep K14 nin0
    have zz17 := Nat.le_trans zz11 K14.1
    have pre18 : Go p e below (s₁.setTop (entryFrame m #[(.int x0), (.int x1), (.int x2), (.int x3), (.int x4)] maxLocals)) (T14.setTop (mkF m 30 #[.val (.int x0), .val (.int x1), .val (.int x2), .val (.int x3), .val (.int x4), .val (.int (0 : Int32)), .val (.ref ee), .val (.ref ea), .unset, .unset, .unset, .unset, .unset, .unset, .unset, .unset, .unset] [(.ref ec)])) := fun t k => pre13 t (st14 t k)
    have pre19 : Go p e below (s₁.setTop (entryFrame m #[(.int x0), (.int x1), (.int x2), (.int x3), (.int x4)] maxLocals)) (T14.setTop (mkF m 34 #[.val (.int x0), .val (.int x1), .val (.int x2), .val (.int x3), .val (.int x4), .val (.int (0 : Int32)), .val (.ref ee), .val (.ref ea), .val (.ref ec), .unset, .unset, .unset, .unset, .unset, .unset, .unset, .unset] [(.ref ee)])) := by
      intro t k
      refine pre18 t ?_
      show Steps p.tables e below (T14.setTop (mkF m 30 #[.val (.int x0), .val (.int x1), .val (.int x2), .val (.int x3), .val (.int x4), .val (.int (0 : Int32)), .val (.ref ee), .val (.ref ea), .unset, .unset, .unset, .unset, .unset, .unset, .unset, .unset, .unset] [(.ref ec)])) _
      refine XS.astore X14.here hx rfl (hb hby at_30) rfl rfl (l' := #[.val (.int x0), .val (.int x1), .val (.int x2), .val (.int x3), .val (.int x4), .val (.int (0 : Int32)), .val (.ref ee), .val (.ref ea), .val (.ref ec), .unset, .unset, .unset, .unset, .unset, .unset, .unset, .unset]) rfl ?_
      show Steps p.tables e below (T14.setTop (mkF m 32 #[.val (.int x0), .val (.int x1), .val (.int x2), .val (.int x3), .val (.int x4), .val (.int (0 : Int32)), .val (.ref ee), .val (.ref ea), .val (.ref ec), .unset, .unset, .unset, .unset, .unset, .unset, .unset, .unset] [])) _
      refine XS.aload X14.here hx rfl (hb hby at_32) rfl rfl ?_
      show Steps p.tables e below (T14.setTop (mkF m 34 #[.val (.int x0), .val (.int x1), .val (.int x2), .val (.int x3), .val (.int x4), .val (.int (0 : Int32)), .val (.ref ee), .val (.ref ea), .val (.ref ec), .unset, .unset, .unset, .unset, .unset, .unset, .unset, .unset] [(.ref ee)])) _
      exact k
    obtain ⟨_, _, ⟨T20, L20, k20, n20⟩, -, X20, ⟨Lc20, hQ20, l20, y20, z20⟩, st20⟩ := Jvm.LawKit.callS X14 hx (y := (⟨"com/example/seshat/seshat/filter/Probe", "fnv1a", "([B)J"⟩ : MethodName)) hown (mvT hZ (hw _ (List.mem_of_getElem? (i := 8) rfl))) (mvT hZ (hw _ (List.mem_of_getElem? (i := 9) rfl))) (mvT hZ (hw _ (List.mem_of_getElem? (i := 10) rfl))) (mvT hZ (hw _ (List.mem_of_getElem? (i := 11) rfl))) (by decide) (backOf (W := 0) (rm3_0 l Z a0 hw [] ee k5 T14.heap n0 zz17 kc15) hZ (hw _ (List.mem_of_getElem? (i := 11) rfl)) (hw _ (List.mem_of_getElem? (i := 10) rfl)) (by decide) (by decide)) (g := (mkF m 34 #[.val (.int x0), .val (.int x1), .val (.int x2), .val (.int x3), .val (.int x4), .val (.int (0 : Int32)), .val (.ref ee), .val (.ref ea), .val (.ref ec), .unset, .unset, .unset, .unset, .unset, .unset, .unset, .unset] [(.ref ee)])) rfl (by rw [hml]; rfl) (argsL := [(.ref ee)]) (rest := []) (lenOf pd_5 rfl) rfl (by show 2 * 0 + _ ≤ _; exact Nat.le_of_eq rfl) (hb hby at_34) (fun _ _ => ⟨rfl, rfl, (by decide : 3 + 0 ≤ _), (by decide : 8 + 0 ≤ _)⟩)
    dsimp only [Pt.U, Pt.locs, Pt.cells, Pt.slots] at X20 l20 y20 z20 st20 hQ20
    subst l20 y20 z20
    obtain ⟨rfl, N20q, hh20⟩ := hQ20
    have N20 := Fr.app N14 N20q
    have pre21 : Go p e below (s₁.setTop (entryFrame m #[(.int x0), (.int x1), (.int x2), (.int x3), (.int x4)] maxLocals)) (T20.setTop (mkF m 37 #[.val (.int x0), .val (.int x1), .val (.int x2), .val (.int x3), .val (.int x4), .val (.int (0 : Int32)), .val (.ref ee), .val (.ref ea), .val (.ref ec), .unset, .unset, .unset, .unset, .unset, .unset, .unset, .unset] [(.long fnv0)])) := fun t k => pre19 t (st20 t k)
    have pre22 : Go p e below (s₁.setTop (entryFrame m #[(.int x0), (.int x1), (.int x2), (.int x3), (.int x4)] maxLocals)) (T20.setTop (mkF m 41 #[.val (.int x0), .val (.int x1), .val (.int x2), .val (.int x3), .val (.int x4), .val (.int (0 : Int32)), .val (.ref ee), .val (.ref ea), .val (.ref ec), .val (.long fnv0), .second, .unset, .unset, .unset, .unset, .unset, .unset] [(.ref ea)])) := by
      intro t k
      refine pre21 t ?_
      show Steps p.tables e below (T20.setTop (mkF m 37 #[.val (.int x0), .val (.int x1), .val (.int x2), .val (.int x3), .val (.int x4), .val (.int (0 : Int32)), .val (.ref ee), .val (.ref ea), .val (.ref ec), .unset, .unset, .unset, .unset, .unset, .unset, .unset, .unset] [(.long fnv0)])) _
      refine XT.lstore X20.here hx rfl (hb hby at_37) rfl (l' := #[.val (.int x0), .val (.int x1), .val (.int x2), .val (.int x3), .val (.int x4), .val (.int (0 : Int32)), .val (.ref ee), .val (.ref ea), .val (.ref ec), .val (.long fnv0), .second, .unset, .unset, .unset, .unset, .unset, .unset]) rfl ?_
      show Steps p.tables e below (T20.setTop (mkF m 39 #[.val (.int x0), .val (.int x1), .val (.int x2), .val (.int x3), .val (.int x4), .val (.int (0 : Int32)), .val (.ref ee), .val (.ref ea), .val (.ref ec), .val (.long fnv0), .second, .unset, .unset, .unset, .unset, .unset, .unset] [])) _
      refine XS.aload X20.here hx rfl (hb hby at_39) rfl rfl ?_
      show Steps p.tables e below (T20.setTop (mkF m 41 #[.val (.int x0), .val (.int x1), .val (.int x2), .val (.int x3), .val (.int x4), .val (.int (0 : Int32)), .val (.ref ee), .val (.ref ea), .val (.ref ec), .val (.long fnv0), .second, .unset, .unset, .unset, .unset, .unset, .unset] [(.ref ea)])) _
      exact k
    obtain ⟨_, _, ⟨T23, L23, k23, n23⟩, -, X23, ⟨Lc23, hQ23, l23, y23, z23⟩, st23⟩ := Jvm.LawKit.callS X20 hx (y := (⟨"com/example/seshat/seshat/filter/Probe", "fnv1a", "([B)J"⟩ : MethodName)) hown (mvT hZ (hw _ (List.mem_of_getElem? (i := 8) rfl))) (mvT hZ (hw _ (List.mem_of_getElem? (i := 9) rfl))) (mvT hZ (hw _ (List.mem_of_getElem? (i := 10) rfl))) (mvT hZ (hw _ (List.mem_of_getElem? (i := 11) rfl))) (by decide) (backOf (W := 0) (rm3_0 l Z a0 hw [] ea k_ea T14.heap n0 zz17 kc16) hZ (hw _ (List.mem_of_getElem? (i := 11) rfl)) (hw _ (List.mem_of_getElem? (i := 10) rfl)) (by decide) (by decide)) (g := (mkF m 41 #[.val (.int x0), .val (.int x1), .val (.int x2), .val (.int x3), .val (.int x4), .val (.int (0 : Int32)), .val (.ref ee), .val (.ref ea), .val (.ref ec), .val (.long fnv0), .second, .unset, .unset, .unset, .unset, .unset, .unset] [(.ref ea)])) rfl (by rw [hml]; rfl) (argsL := [(.ref ea)]) (rest := []) (lenOf pd_5 rfl) rfl (by show 2 * 0 + _ ≤ _; exact Nat.le_of_eq rfl) (hb hby at_41) (fun _ _ => ⟨rfl, hh20, (by decide : 3 + 0 ≤ _), (by decide : 8 + 0 ≤ _)⟩)
    dsimp only [Pt.U, Pt.locs, Pt.cells, Pt.slots] at X23 l23 y23 z23 st23 hQ23
    subst l23 y23 z23
    obtain ⟨rfl, N23q, hh23⟩ := hQ23
    have N23 := Fr.app N20 N23q
    have pre24 : Go p e below (s₁.setTop (entryFrame m #[(.int x0), (.int x1), (.int x2), (.int x3), (.int x4)] maxLocals)) (T23.setTop (mkF m 44 #[.val (.int x0), .val (.int x1), .val (.int x2), .val (.int x3), .val (.int x4), .val (.int (0 : Int32)), .val (.ref ee), .val (.ref ea), .val (.ref ec), .val (.long fnv0), .second, .unset, .unset, .unset, .unset, .unset, .unset] [(.long fnv0)])) := fun t k => pre22 t (st23 t k)
    have pre25 : Go p e below (s₁.setTop (entryFrame m #[(.int x0), (.int x1), (.int x2), (.int x3), (.int x4)] maxLocals)) (T23.setTop (mkF m 48 #[.val (.int x0), .val (.int x1), .val (.int x2), .val (.int x3), .val (.int x4), .val (.int (0 : Int32)), .val (.ref ee), .val (.ref ea), .val (.ref ec), .val (.long fnv0), .second, .val (.long fnv0), .second, .unset, .unset, .unset, .unset] [(.ref ec)])) := by
      intro t k
      refine pre24 t ?_
      show Steps p.tables e below (T23.setTop (mkF m 44 #[.val (.int x0), .val (.int x1), .val (.int x2), .val (.int x3), .val (.int x4), .val (.int (0 : Int32)), .val (.ref ee), .val (.ref ea), .val (.ref ec), .val (.long fnv0), .second, .unset, .unset, .unset, .unset, .unset, .unset] [(.long fnv0)])) _
      refine XT.lstore X23.here hx rfl (hb hby at_44) rfl (l' := #[.val (.int x0), .val (.int x1), .val (.int x2), .val (.int x3), .val (.int x4), .val (.int (0 : Int32)), .val (.ref ee), .val (.ref ea), .val (.ref ec), .val (.long fnv0), .second, .val (.long fnv0), .second, .unset, .unset, .unset, .unset]) rfl ?_
      show Steps p.tables e below (T23.setTop (mkF m 46 #[.val (.int x0), .val (.int x1), .val (.int x2), .val (.int x3), .val (.int x4), .val (.int (0 : Int32)), .val (.ref ee), .val (.ref ea), .val (.ref ec), .val (.long fnv0), .second, .val (.long fnv0), .second, .unset, .unset, .unset, .unset] [])) _
      refine XS.aload X23.here hx rfl (hb hby at_46) rfl rfl ?_
      show Steps p.tables e below (T23.setTop (mkF m 48 #[.val (.int x0), .val (.int x1), .val (.int x2), .val (.int x3), .val (.int x4), .val (.int (0 : Int32)), .val (.ref ee), .val (.ref ea), .val (.ref ec), .val (.long fnv0), .second, .val (.long fnv0), .second, .unset, .unset, .unset, .unset] [(.ref ec)])) _
      exact k
    obtain ⟨_, _, ⟨T26, L26, k26, n26⟩, -, X26, ⟨Lc26, hQ26, l26, y26, z26⟩, st26⟩ := Jvm.LawKit.callS X23 hx (y := (⟨"com/example/seshat/seshat/filter/Probe", "fnv1a", "([B)J"⟩ : MethodName)) hown (mvT hZ (hw _ (List.mem_of_getElem? (i := 8) rfl))) (mvT hZ (hw _ (List.mem_of_getElem? (i := 9) rfl))) (mvT hZ (hw _ (List.mem_of_getElem? (i := 10) rfl))) (mvT hZ (hw _ (List.mem_of_getElem? (i := 11) rfl))) (by decide) (backOf (W := 0) (rm3_1 l Z a0 hw [] ec k_ec (nar .byte (x4.toInt8.toInt32)) T14.heap n0 zz17 V_ec) hZ (hw _ (List.mem_of_getElem? (i := 11) rfl)) (hw _ (List.mem_of_getElem? (i := 10) rfl)) (by decide) (by decide)) (g := (mkF m 48 #[.val (.int x0), .val (.int x1), .val (.int x2), .val (.int x3), .val (.int x4), .val (.int (0 : Int32)), .val (.ref ee), .val (.ref ea), .val (.ref ec), .val (.long fnv0), .second, .val (.long fnv0), .second, .unset, .unset, .unset, .unset] [(.ref ec)])) rfl (by rw [hml]; rfl) (argsL := [(.ref ec)]) (rest := []) (lenOf pd_5 rfl) rfl (by show 2 * 0 + _ ≤ _; exact Nat.le_of_eq rfl) (hb hby at_48) (fun _ _ => ⟨rfl, hh23, (by decide : 3 + 0 ≤ _), (by decide : 8 + 0 ≤ _)⟩)
    dsimp only [Pt.U, Pt.locs, Pt.cells, Pt.slots] at X26 l26 y26 z26 st26 hQ26
    subst l26 y26 z26
    obtain ⟨rfl, N26q, hh26⟩ := hQ26
    have N26 := Fr.app N23 N26q
    have pre27 : Go p e below (s₁.setTop (entryFrame m #[(.int x0), (.int x1), (.int x2), (.int x3), (.int x4)] maxLocals)) (T26.setTop (mkF m 51 #[.val (.int x0), .val (.int x1), .val (.int x2), .val (.int x3), .val (.int x4), .val (.int (0 : Int32)), .val (.ref ee), .val (.ref ea), .val (.ref ec), .val (.long fnv0), .second, .val (.long fnv0), .second, .unset, .unset, .unset, .unset] [(.long (fnv1 (nar .byte (x4.toInt8.toInt32))))])) := fun t k => pre25 t (st26 t k)
    have pre28 : Go p e below (s₁.setTop (entryFrame m #[(.int x0), (.int x1), (.int x2), (.int x3), (.int x4)] maxLocals)) (T26.setTop (mkF m 75 #[.val (.int x0), .val (.int x1), .val (.int x2), .val (.int x3), .val (.int x4), .val (.int (0 : Int32)), .val (.ref ee), .val (.ref ea), .val (.ref ec), .val (.long fnv0), .second, .val (.long fnv0), .second, .val (.long (fnv1 (nar .byte (x4.toInt8.toInt32)))), .second, .val (.long ((fnv0 ^^^ (((x4 &&& (255 : Int32))).toInt64)) * (1099511628211 : Int64))), .second] [(.int (XT.cmpL fnv0 (-3750763034362895579 : Int64)))])) := by
      intro t k
      refine pre27 t ?_
      show Steps p.tables e below (T26.setTop (mkF m 51 #[.val (.int x0), .val (.int x1), .val (.int x2), .val (.int x3), .val (.int x4), .val (.int (0 : Int32)), .val (.ref ee), .val (.ref ea), .val (.ref ec), .val (.long fnv0), .second, .val (.long fnv0), .second, .unset, .unset, .unset, .unset] [(.long (fnv1 (nar .byte (x4.toInt8.toInt32))))])) _
      refine XT.lstore X26.here hx rfl (hb hby at_51) rfl (l' := #[.val (.int x0), .val (.int x1), .val (.int x2), .val (.int x3), .val (.int x4), .val (.int (0 : Int32)), .val (.ref ee), .val (.ref ea), .val (.ref ec), .val (.long fnv0), .second, .val (.long fnv0), .second, .val (.long (fnv1 (nar .byte (x4.toInt8.toInt32)))), .second, .unset, .unset]) rfl ?_
      show Steps p.tables e below (T26.setTop (mkF m 53 #[.val (.int x0), .val (.int x1), .val (.int x2), .val (.int x3), .val (.int x4), .val (.int (0 : Int32)), .val (.ref ee), .val (.ref ea), .val (.ref ec), .val (.long fnv0), .second, .val (.long fnv0), .second, .val (.long (fnv1 (nar .byte (x4.toInt8.toInt32)))), .second, .unset, .unset] [])) _
      refine XT.lload X26.here hx rfl (hb hby at_53) rfl ?_
      show Steps p.tables e below (T26.setTop (mkF m 55 #[.val (.int x0), .val (.int x1), .val (.int x2), .val (.int x3), .val (.int x4), .val (.int (0 : Int32)), .val (.ref ee), .val (.ref ea), .val (.ref ec), .val (.long fnv0), .second, .val (.long fnv0), .second, .val (.long (fnv1 (nar .byte (x4.toInt8.toInt32)))), .second, .unset, .unset] [(.long fnv0)])) _
      refine XS.iload X26.here hx rfl (hb hby at_55) rfl ?_
      show Steps p.tables e below (T26.setTop (mkF m 57 #[.val (.int x0), .val (.int x1), .val (.int x2), .val (.int x3), .val (.int x4), .val (.int (0 : Int32)), .val (.ref ee), .val (.ref ea), .val (.ref ec), .val (.long fnv0), .second, .val (.long fnv0), .second, .val (.long (fnv1 (nar .byte (x4.toInt8.toInt32)))), .second, .unset, .unset] [(.int x4), (.long fnv0)])) _
      refine XS.sipush X26.here hx rfl (hb hby at_57) ?_
      show Steps p.tables e below (T26.setTop (mkF m 60 #[.val (.int x0), .val (.int x1), .val (.int x2), .val (.int x3), .val (.int x4), .val (.int (0 : Int32)), .val (.ref ee), .val (.ref ea), .val (.ref ec), .val (.long fnv0), .second, .val (.long fnv0), .second, .val (.long (fnv1 (nar .byte (x4.toInt8.toInt32)))), .second, .unset, .unset] [(.int (255 : Int32)), (.int x4), (.long fnv0)])) _
      refine XS.iand X26.here hx rfl (hb hby at_60) rfl ?_
      show Steps p.tables e below (T26.setTop (mkF m 61 #[.val (.int x0), .val (.int x1), .val (.int x2), .val (.int x3), .val (.int x4), .val (.int (0 : Int32)), .val (.ref ee), .val (.ref ea), .val (.ref ec), .val (.long fnv0), .second, .val (.long fnv0), .second, .val (.long (fnv1 (nar .byte (x4.toInt8.toInt32)))), .second, .unset, .unset] [(.int (x4 &&& (255 : Int32))), (.long fnv0)])) _
      refine XS.i2l X26.here hx rfl (hb hby at_61) rfl ?_
      show Steps p.tables e below (T26.setTop (mkF m 62 #[.val (.int x0), .val (.int x1), .val (.int x2), .val (.int x3), .val (.int x4), .val (.int (0 : Int32)), .val (.ref ee), .val (.ref ea), .val (.ref ec), .val (.long fnv0), .second, .val (.long fnv0), .second, .val (.long (fnv1 (nar .byte (x4.toInt8.toInt32)))), .second, .unset, .unset] [(.long (((x4 &&& (255 : Int32))).toInt64)), (.long fnv0)])) _
      refine XS.lxor X26.here hx rfl (hb hby at_62) rfl ?_
      show Steps p.tables e below (T26.setTop (mkF m 63 #[.val (.int x0), .val (.int x1), .val (.int x2), .val (.int x3), .val (.int x4), .val (.int (0 : Int32)), .val (.ref ee), .val (.ref ea), .val (.ref ec), .val (.long fnv0), .second, .val (.long fnv0), .second, .val (.long (fnv1 (nar .byte (x4.toInt8.toInt32)))), .second, .unset, .unset] [(.long (fnv0 ^^^ (((x4 &&& (255 : Int32))).toInt64)))])) _
      refine X26.ldc2J hx hown (mvT hZ (hw _ (List.mem_of_getElem? (i := 14) rfl))) (g := (mkF m 63 #[.val (.int x0), .val (.int x1), .val (.int x2), .val (.int x3), .val (.int x4), .val (.int (0 : Int32)), .val (.ref ee), .val (.ref ea), .val (.ref ec), .val (.long fnv0), .second, .val (.long fnv0), .second, .val (.long (fnv1 (nar .byte (x4.toInt8.toInt32)))), .second, .unset, .unset] [(.long (fnv0 ^^^ (((x4 &&& (255 : Int32))).toInt64)))])) rfl (hb hby at_63) ?_
      show Steps p.tables e below (T26.setTop (mkF m 66 #[.val (.int x0), .val (.int x1), .val (.int x2), .val (.int x3), .val (.int x4), .val (.int (0 : Int32)), .val (.ref ee), .val (.ref ea), .val (.ref ec), .val (.long fnv0), .second, .val (.long fnv0), .second, .val (.long (fnv1 (nar .byte (x4.toInt8.toInt32)))), .second, .unset, .unset] [(.long (1099511628211 : Int64)), (.long (fnv0 ^^^ (((x4 &&& (255 : Int32))).toInt64)))])) _
      refine XS.lmul X26.here hx rfl (hb hby at_66) rfl ?_
      show Steps p.tables e below (T26.setTop (mkF m 67 #[.val (.int x0), .val (.int x1), .val (.int x2), .val (.int x3), .val (.int x4), .val (.int (0 : Int32)), .val (.ref ee), .val (.ref ea), .val (.ref ec), .val (.long fnv0), .second, .val (.long fnv0), .second, .val (.long (fnv1 (nar .byte (x4.toInt8.toInt32)))), .second, .unset, .unset] [(.long ((fnv0 ^^^ (((x4 &&& (255 : Int32))).toInt64)) * (1099511628211 : Int64)))])) _
      refine XT.lstore X26.here hx rfl (hb hby at_67) rfl (l' := #[.val (.int x0), .val (.int x1), .val (.int x2), .val (.int x3), .val (.int x4), .val (.int (0 : Int32)), .val (.ref ee), .val (.ref ea), .val (.ref ec), .val (.long fnv0), .second, .val (.long fnv0), .second, .val (.long (fnv1 (nar .byte (x4.toInt8.toInt32)))), .second, .val (.long ((fnv0 ^^^ (((x4 &&& (255 : Int32))).toInt64)) * (1099511628211 : Int64))), .second]) rfl ?_
      show Steps p.tables e below (T26.setTop (mkF m 69 #[.val (.int x0), .val (.int x1), .val (.int x2), .val (.int x3), .val (.int x4), .val (.int (0 : Int32)), .val (.ref ee), .val (.ref ea), .val (.ref ec), .val (.long fnv0), .second, .val (.long fnv0), .second, .val (.long (fnv1 (nar .byte (x4.toInt8.toInt32)))), .second, .val (.long ((fnv0 ^^^ (((x4 &&& (255 : Int32))).toInt64)) * (1099511628211 : Int64))), .second] [])) _
      refine XT.lload X26.here hx rfl (hb hby at_69) rfl ?_
      show Steps p.tables e below (T26.setTop (mkF m 71 #[.val (.int x0), .val (.int x1), .val (.int x2), .val (.int x3), .val (.int x4), .val (.int (0 : Int32)), .val (.ref ee), .val (.ref ea), .val (.ref ec), .val (.long fnv0), .second, .val (.long fnv0), .second, .val (.long (fnv1 (nar .byte (x4.toInt8.toInt32)))), .second, .val (.long ((fnv0 ^^^ (((x4 &&& (255 : Int32))).toInt64)) * (1099511628211 : Int64))), .second] [(.long fnv0)])) _
      refine X26.ldc2J hx hown (mvT hZ (hw _ (List.mem_of_getElem? (i := 15) rfl))) (g := (mkF m 71 #[.val (.int x0), .val (.int x1), .val (.int x2), .val (.int x3), .val (.int x4), .val (.int (0 : Int32)), .val (.ref ee), .val (.ref ea), .val (.ref ec), .val (.long fnv0), .second, .val (.long fnv0), .second, .val (.long (fnv1 (nar .byte (x4.toInt8.toInt32)))), .second, .val (.long ((fnv0 ^^^ (((x4 &&& (255 : Int32))).toInt64)) * (1099511628211 : Int64))), .second] [(.long fnv0)])) rfl (hb hby at_71) ?_
      show Steps p.tables e below (T26.setTop (mkF m 74 #[.val (.int x0), .val (.int x1), .val (.int x2), .val (.int x3), .val (.int x4), .val (.int (0 : Int32)), .val (.ref ee), .val (.ref ea), .val (.ref ec), .val (.long fnv0), .second, .val (.long fnv0), .second, .val (.long (fnv1 (nar .byte (x4.toInt8.toInt32)))), .second, .val (.long ((fnv0 ^^^ (((x4 &&& (255 : Int32))).toInt64)) * (1099511628211 : Int64))), .second] [(.long (-3750763034362895579 : Int64)), (.long fnv0)])) _
      refine XT.lcmp X26.here hx rfl (hb hby at_74) rfl ?_
      show Steps p.tables e below (T26.setTop (mkF m 75 #[.val (.int x0), .val (.int x1), .val (.int x2), .val (.int x3), .val (.int x4), .val (.int (0 : Int32)), .val (.ref ee), .val (.ref ea), .val (.ref ec), .val (.long fnv0), .second, .val (.long fnv0), .second, .val (.long (fnv1 (nar .byte (x4.toInt8.toInt32)))), .second, .val (.long ((fnv0 ^^^ (((x4 &&& (255 : Int32))).toInt64)) * (1099511628211 : Int64))), .second] [(.int (XT.cmpL fnv0 (-3750763034362895579 : Int64)))])) _
      exact k
    have hc75_29 : fnv0 = (-3750763034362895579 : Int64) := by
      rfl
    have pre30 : Go p e below (s₁.setTop (entryFrame m #[(.int x0), (.int x1), (.int x2), (.int x3), (.int x4)] maxLocals)) (T26.setTop (mkF m 83 #[.val (.int x0), .val (.int x1), .val (.int x2), .val (.int x3), .val (.int x4), .val (.int (0 : Int32)), .val (.ref ee), .val (.ref ea), .val (.ref ec), .val (.long fnv0), .second, .val (.long fnv0), .second, .val (.long (fnv1 (nar .byte (x4.toInt8.toInt32)))), .second, .val (.long ((fnv0 ^^^ (((x4 &&& (255 : Int32))).toInt64)) * (1099511628211 : Int64))), .second] [(.int (XT.cmpL (fnv1 (nar .byte (x4.toInt8.toInt32))) ((fnv0 ^^^ (((x4 &&& (255 : Int32))).toInt64)) * (1099511628211 : Int64))))])) := by
      intro t k
      refine pre28 t ?_
      show Steps p.tables e below (T26.setTop (mkF m 75 #[.val (.int x0), .val (.int x1), .val (.int x2), .val (.int x3), .val (.int x4), .val (.int (0 : Int32)), .val (.ref ee), .val (.ref ea), .val (.ref ec), .val (.long fnv0), .second, .val (.long fnv0), .second, .val (.long (fnv1 (nar .byte (x4.toInt8.toInt32)))), .second, .val (.long ((fnv0 ^^^ (((x4 &&& (255 : Int32))).toInt64)) * (1099511628211 : Int64))), .second] [(.int (XT.cmpL fnv0 (-3750763034362895579 : Int64)))])) _
      refine XS.ifNo X26.here hx rfl (hb hby at_75) rfl (XT.ll_ne_f hc75_29) ?_
      show Steps p.tables e below (T26.setTop (mkF m 78 #[.val (.int x0), .val (.int x1), .val (.int x2), .val (.int x3), .val (.int x4), .val (.int (0 : Int32)), .val (.ref ee), .val (.ref ea), .val (.ref ec), .val (.long fnv0), .second, .val (.long fnv0), .second, .val (.long (fnv1 (nar .byte (x4.toInt8.toInt32)))), .second, .val (.long ((fnv0 ^^^ (((x4 &&& (255 : Int32))).toInt64)) * (1099511628211 : Int64))), .second] [])) _
      refine XT.lload X26.here hx rfl (hb hby at_78) rfl ?_
      show Steps p.tables e below (T26.setTop (mkF m 80 #[.val (.int x0), .val (.int x1), .val (.int x2), .val (.int x3), .val (.int x4), .val (.int (0 : Int32)), .val (.ref ee), .val (.ref ea), .val (.ref ec), .val (.long fnv0), .second, .val (.long fnv0), .second, .val (.long (fnv1 (nar .byte (x4.toInt8.toInt32)))), .second, .val (.long ((fnv0 ^^^ (((x4 &&& (255 : Int32))).toInt64)) * (1099511628211 : Int64))), .second] [(.long (fnv1 (nar .byte (x4.toInt8.toInt32))))])) _
      refine XT.lload X26.here hx rfl (hb hby at_80) rfl ?_
      show Steps p.tables e below (T26.setTop (mkF m 82 #[.val (.int x0), .val (.int x1), .val (.int x2), .val (.int x3), .val (.int x4), .val (.int (0 : Int32)), .val (.ref ee), .val (.ref ea), .val (.ref ec), .val (.long fnv0), .second, .val (.long fnv0), .second, .val (.long (fnv1 (nar .byte (x4.toInt8.toInt32)))), .second, .val (.long ((fnv0 ^^^ (((x4 &&& (255 : Int32))).toInt64)) * (1099511628211 : Int64))), .second] [(.long ((fnv0 ^^^ (((x4 &&& (255 : Int32))).toInt64)) * (1099511628211 : Int64))), (.long (fnv1 (nar .byte (x4.toInt8.toInt32))))])) _
      refine XT.lcmp X26.here hx rfl (hb hby at_82) rfl ?_
      show Steps p.tables e below (T26.setTop (mkF m 83 #[.val (.int x0), .val (.int x1), .val (.int x2), .val (.int x3), .val (.int x4), .val (.int (0 : Int32)), .val (.ref ee), .val (.ref ea), .val (.ref ec), .val (.long fnv0), .second, .val (.long fnv0), .second, .val (.long (fnv1 (nar .byte (x4.toInt8.toInt32)))), .second, .val (.long ((fnv0 ^^^ (((x4 &&& (255 : Int32))).toInt64)) * (1099511628211 : Int64))), .second] [(.int (XT.cmpL (fnv1 (nar .byte (x4.toInt8.toInt32))) ((fnv0 ^^^ (((x4 &&& (255 : Int32))).toInt64)) * (1099511628211 : Int64))))])) _
      exact k
    have hc83_31 : (fnv1 (nar .byte (x4.toInt8.toInt32))) = ((fnv0 ^^^ (((x4 &&& (255 : Int32))).toInt64)) * (1099511628211 : Int64)) := by
      rw [← own_byte x4]; rfl
    have pre32 : Go p e below (s₁.setTop (entryFrame m #[(.int x0), (.int x1), (.int x2), (.int x3), (.int x4)] maxLocals)) (T26.setTop (mkF m 91 #[.val (.int x0), .val (.int x1), .val (.int x2), .val (.int x3), .val (.int x4), .val (.int (0 : Int32)), .val (.ref ee), .val (.ref ea), .val (.ref ec), .val (.long fnv0), .second, .val (.long fnv0), .second, .val (.long (fnv1 (nar .byte (x4.toInt8.toInt32)))), .second, .val (.long ((fnv0 ^^^ (((x4 &&& (255 : Int32))).toInt64)) * (1099511628211 : Int64))), .second] [(.int (1 : Int32))])) := by
      intro t k
      refine pre30 t ?_
      show Steps p.tables e below (T26.setTop (mkF m 83 #[.val (.int x0), .val (.int x1), .val (.int x2), .val (.int x3), .val (.int x4), .val (.int (0 : Int32)), .val (.ref ee), .val (.ref ea), .val (.ref ec), .val (.long fnv0), .second, .val (.long fnv0), .second, .val (.long (fnv1 (nar .byte (x4.toInt8.toInt32)))), .second, .val (.long ((fnv0 ^^^ (((x4 &&& (255 : Int32))).toInt64)) * (1099511628211 : Int64))), .second] [(.int (XT.cmpL (fnv1 (nar .byte (x4.toInt8.toInt32))) ((fnv0 ^^^ (((x4 &&& (255 : Int32))).toInt64)) * (1099511628211 : Int64))))])) _
      refine XS.ifNo X26.here hx rfl (hb hby at_83) rfl (XT.ll_ne_f hc83_31) ?_
      show Steps p.tables e below (T26.setTop (mkF m 86 #[.val (.int x0), .val (.int x1), .val (.int x2), .val (.int x3), .val (.int x4), .val (.int (0 : Int32)), .val (.ref ee), .val (.ref ea), .val (.ref ec), .val (.long fnv0), .second, .val (.long fnv0), .second, .val (.long (fnv1 (nar .byte (x4.toInt8.toInt32)))), .second, .val (.long ((fnv0 ^^^ (((x4 &&& (255 : Int32))).toInt64)) * (1099511628211 : Int64))), .second] [])) _
      refine XS.iconst X26.here hx rfl (hb hby at_86) ?_
      show Steps p.tables e below (T26.setTop (mkF m 87 #[.val (.int x0), .val (.int x1), .val (.int x2), .val (.int x3), .val (.int x4), .val (.int (0 : Int32)), .val (.ref ee), .val (.ref ea), .val (.ref ec), .val (.long fnv0), .second, .val (.long fnv0), .second, .val (.long (fnv1 (nar .byte (x4.toInt8.toInt32)))), .second, .val (.long ((fnv0 ^^^ (((x4 &&& (255 : Int32))).toInt64)) * (1099511628211 : Int64))), .second] [(.int (1 : Int32))])) _
      refine XS.goto X26.here hx rfl (pc0 := 87) (pc' := 91) rfl (hb hby at_87) (by decide) (by decide) ?_
      show Steps p.tables e below (T26.setTop (mkF m 91 #[.val (.int x0), .val (.int x1), .val (.int x2), .val (.int x3), .val (.int x4), .val (.int (0 : Int32)), .val (.ref ee), .val (.ref ea), .val (.ref ec), .val (.long fnv0), .second, .val (.long fnv0), .second, .val (.long (fnv1 (nar .byte (x4.toInt8.toInt32)))), .second, .val (.long ((fnv0 ^^^ (((x4 &&& (255 : Int32))).toInt64)) * (1099511628211 : Int64))), .second] [(.int (1 : Int32))])) _
      exact k
    obtain ⟨fs, hr, hrun, hended, hW, hsame⟩ := X26.leave (hlocks := hlk) (v := some (.int (1 : Int32))) (fun h => by rw [Bd.returns] at h; cases h)
    refine ⟨_, _, pre32 _ (retN X26 hx (t := .boolean) Bd.returns (by simp) (hb hby at_91) hr), hrun, hended, _, _, rfl, ?_, ⟨_, rfl⟩, hW, hsame.mono (by decide) (by decide)⟩
    show Q0 Z x0 x1 x2 x3 x4 h0 n0 _ T26.heap _
    rw [hh26]
    exact ⟨rfl, N26⟩
  · skip
    subst hq3
    have pre33 : Go p e below (s₁.setTop (entryFrame m #[(.int x0), (.int x1), (.int x2), (.int x3), (.int x4)] maxLocals)) (s₁.setTop (mkF m 6 #[.val (.int x0), .val (.int x1), .val (.int x2), .val (.int x3), .val (.int x4), .val (.int (1 : Int32)), .unset, .unset, .unset, .unset, .unset, .unset, .unset, .unset, .unset, .unset, .unset] [(.int (0 : Int32))])) := by
      intro t k
      refine pre2 t ?_
      show Steps p.tables e below (s₁.setTop (mkF m 3 #[.val (.int x0), .val (.int x1), .val (.int x2), .val (.int x3), .val (.int x4), .unset, .unset, .unset, .unset, .unset, .unset, .unset, .unset, .unset, .unset, .unset, .unset] [(.int (1 : Int32))])) _
      refine XS.istore X0.here hx rfl (hb hby at_3) rfl (l' := #[.val (.int x0), .val (.int x1), .val (.int x2), .val (.int x3), .val (.int x4), .val (.int (1 : Int32)), .unset, .unset, .unset, .unset, .unset, .unset, .unset, .unset, .unset, .unset, .unset]) rfl ?_
      show Steps p.tables e below (s₁.setTop (mkF m 5 #[.val (.int x0), .val (.int x1), .val (.int x2), .val (.int x3), .val (.int x4), .val (.int (1 : Int32)), .unset, .unset, .unset, .unset, .unset, .unset, .unset, .unset, .unset, .unset, .unset] [])) _
      refine XS.iconst X0.here hx rfl (hb hby at_5) ?_
      show Steps p.tables e below (s₁.setTop (mkF m 6 #[.val (.int x0), .val (.int x1), .val (.int x2), .val (.int x3), .val (.int x4), .val (.int (1 : Int32)), .unset, .unset, .unset, .unset, .unset, .unset, .unset, .unset, .unset, .unset, .unset] [(.int (0 : Int32))])) _
      exact k
    obtain ⟨T34, h34, k34, X34, e34, E34, A34, st34⟩ := newP X0 hx hZ (hw _ (List.mem_of_getElem? (i := 0) rfl)) e0 (g := (mkF m 6 #[.val (.int x0), .val (.int x1), .val (.int x2), .val (.int x3), .val (.int x4), .val (.int (1 : Int32)), .unset, .unset, .unset, .unset, .unset, .unset, .unset, .unset, .unset, .unset, .unset] [(.int (0 : Int32))])) rfl (hb hby at_6) rfl (by decide) (cap := 0) (by decide) (by decide) (by decide) (by decide)
    obtain ⟨ee, g34⟩ : ∃ z, z = h0.size := ⟨_, rfl⟩
    rw [← g34] at A34 st34
    have zz35 := (Nat.le_trans Z0 E34.1)
    have V_ee : Arv Z h34 ee k34 .byte (0 : Int32) [] (.int (0 : Int32)) := (Arv.new A34 (by decide)).pad (pad_rep [] (.int (0 : Int32)) 0)
    have g_ee : n0 ≤ ee := Nat.le_trans Z0 (Nat.le_of_eq g34.symm)
    have pre36 : Go p e below (s₁.setTop (entryFrame m #[(.int x0), (.int x1), (.int x2), (.int x3), (.int x4)] maxLocals)) (T34.setTop (mkF m 8 #[.val (.int x0), .val (.int x1), .val (.int x2), .val (.int x3), .val (.int x4), .val (.int (1 : Int32)), .unset, .unset, .unset, .unset, .unset, .unset, .unset, .unset, .unset, .unset, .unset] [(.ref ee)])) := fun t k => pre33 t (st34 t k)
    have pre37 : Go p e below (s₁.setTop (entryFrame m #[(.int x0), (.int x1), (.int x2), (.int x3), (.int x4)] maxLocals)) (T34.setTop (mkF m 15 #[.val (.int x0), .val (.int x1), .val (.int x2), .val (.int x3), .val (.int x4), .val (.int (1 : Int32)), .val (.ref ee), .unset, .unset, .unset, .unset, .unset, .unset, .unset, .unset, .unset, .unset] [(.int x3), (.int x2), (.int x1), (.int (1 : Int32))])) := by
      intro t k
      refine pre36 t ?_
      show Steps p.tables e below (T34.setTop (mkF m 8 #[.val (.int x0), .val (.int x1), .val (.int x2), .val (.int x3), .val (.int x4), .val (.int (1 : Int32)), .unset, .unset, .unset, .unset, .unset, .unset, .unset, .unset, .unset, .unset, .unset] [(.ref ee)])) _
      refine XS.astore X34.here hx rfl (hb hby at_8) rfl rfl (l' := #[.val (.int x0), .val (.int x1), .val (.int x2), .val (.int x3), .val (.int x4), .val (.int (1 : Int32)), .val (.ref ee), .unset, .unset, .unset, .unset, .unset, .unset, .unset, .unset, .unset, .unset]) rfl ?_
      show Steps p.tables e below (T34.setTop (mkF m 10 #[.val (.int x0), .val (.int x1), .val (.int x2), .val (.int x3), .val (.int x4), .val (.int (1 : Int32)), .val (.ref ee), .unset, .unset, .unset, .unset, .unset, .unset, .unset, .unset, .unset, .unset] [])) _
      refine XS.iload X34.here hx rfl (hb hby at_10) rfl ?_
      show Steps p.tables e below (T34.setTop (mkF m 12 #[.val (.int x0), .val (.int x1), .val (.int x2), .val (.int x3), .val (.int x4), .val (.int (1 : Int32)), .val (.ref ee), .unset, .unset, .unset, .unset, .unset, .unset, .unset, .unset, .unset, .unset] [(.int (1 : Int32))])) _
      refine XS.iloadN X34.here hx rfl (hb hby at_12) rfl ?_
      show Steps p.tables e below (T34.setTop (mkF m 13 #[.val (.int x0), .val (.int x1), .val (.int x2), .val (.int x3), .val (.int x4), .val (.int (1 : Int32)), .val (.ref ee), .unset, .unset, .unset, .unset, .unset, .unset, .unset, .unset, .unset, .unset] [(.int x1), (.int (1 : Int32))])) _
      refine XS.iloadN X34.here hx rfl (hb hby at_13) rfl ?_
      show Steps p.tables e below (T34.setTop (mkF m 14 #[.val (.int x0), .val (.int x1), .val (.int x2), .val (.int x3), .val (.int x4), .val (.int (1 : Int32)), .val (.ref ee), .unset, .unset, .unset, .unset, .unset, .unset, .unset, .unset, .unset, .unset] [(.int x2), (.int x1), (.int (1 : Int32))])) _
      refine XS.iloadN X34.here hx rfl (hb hby at_14) rfl ?_
      show Steps p.tables e below (T34.setTop (mkF m 15 #[.val (.int x0), .val (.int x1), .val (.int x2), .val (.int x3), .val (.int x4), .val (.int (1 : Int32)), .val (.ref ee), .unset, .unset, .unset, .unset, .unset, .unset, .unset, .unset, .unset, .unset] [(.int x3), (.int x2), (.int x1), (.int (1 : Int32))])) _
      exact k
    obtain ⟨_, _, ⟨T38, L38, k38, n38⟩, -, X38, ⟨Lc38, hQ38, l38, y38, z38⟩, st38⟩ := Jvm.LawKit.callS X34 hx (y := (⟨"com/example/seshat/seshat/filter/ProbeFnv1aPinLaw", "prefix", "(IIII)[B"⟩ : MethodName)) hown (mvT hZ (hw _ (List.mem_of_getElem? (i := 1) rfl))) (mvT hZ (hw _ (List.mem_of_getElem? (i := 2) rfl))) (mvT hZ (hw _ (List.mem_of_getElem? (i := 3) rfl))) (mvT hZ (hw _ (List.mem_of_getElem? (i := 4) rfl))) (by decide) (backOf (W := 0) (rm1_1 l Z a0 hw [] x1 x2 x3  h34 n0 zz35 ) hZ (hw _ (List.mem_of_getElem? (i := 4) rfl)) (hw _ (List.mem_of_getElem? (i := 3) rfl)) (by decide) (by decide)) (g := (mkF m 15 #[.val (.int x0), .val (.int x1), .val (.int x2), .val (.int x3), .val (.int x4), .val (.int (1 : Int32)), .val (.ref ee), .unset, .unset, .unset, .unset, .unset, .unset, .unset, .unset, .unset, .unset] [(.int x3), (.int x2), (.int x1), (.int (1 : Int32))])) rfl (by rw [hml]; rfl) (argsL := [(.int (1 : Int32)), (.int x1), (.int x2), (.int x3)]) (rest := []) (lenOf pd_3 rfl) rfl (by show 2 * 0 + _ ≤ _; exact Nat.le_of_eq rfl) (hb hby at_15) (fun _ _ => ⟨rfl, e34, (by decide : 1 + 1 ≤ _), (by decide : 0 + 4 ≤ _)⟩)
    dsimp only [Pt.U, Pt.locs, Pt.cells, Pt.slots] at X38 l38 y38 z38 st38 hQ38
    subst l38 y38 z38
    obtain ⟨ea, k_ea, rfl, g_ea, N38q, K38, V_ea⟩ := hQ38
    have N38 := Fr.app N0 N38q
    have kc39 := V_ee.keep K38 nin0
    have zz40 := Nat.le_trans zz35 K38.1
    have pre41 : Go p e below (s₁.setTop (entryFrame m #[(.int x0), (.int x1), (.int x2), (.int x3), (.int x4)] maxLocals)) (T38.setTop (mkF m 18 #[.val (.int x0), .val (.int x1), .val (.int x2), .val (.int x3), .val (.int x4), .val (.int (1 : Int32)), .val (.ref ee), .unset, .unset, .unset, .unset, .unset, .unset, .unset, .unset, .unset, .unset] [(.ref ea)])) := fun t k => pre37 t (st38 t k)
    have pre42 : Go p e below (s₁.setTop (entryFrame m #[(.int x0), (.int x1), (.int x2), (.int x3), (.int x4)] maxLocals)) (T38.setTop (mkF m 27 #[.val (.int x0), .val (.int x1), .val (.int x2), .val (.int x3), .val (.int x4), .val (.int (1 : Int32)), .val (.ref ee), .val (.ref ea), .unset, .unset, .unset, .unset, .unset, .unset, .unset, .unset, .unset] [(.int x4), (.int x3), (.int x2), (.int x1), (.int (1 : Int32))])) := by
      intro t k
      refine pre41 t ?_
      show Steps p.tables e below (T38.setTop (mkF m 18 #[.val (.int x0), .val (.int x1), .val (.int x2), .val (.int x3), .val (.int x4), .val (.int (1 : Int32)), .val (.ref ee), .unset, .unset, .unset, .unset, .unset, .unset, .unset, .unset, .unset, .unset] [(.ref ea)])) _
      refine XS.astore X38.here hx rfl (hb hby at_18) rfl rfl (l' := #[.val (.int x0), .val (.int x1), .val (.int x2), .val (.int x3), .val (.int x4), .val (.int (1 : Int32)), .val (.ref ee), .val (.ref ea), .unset, .unset, .unset, .unset, .unset, .unset, .unset, .unset, .unset]) rfl ?_
      show Steps p.tables e below (T38.setTop (mkF m 20 #[.val (.int x0), .val (.int x1), .val (.int x2), .val (.int x3), .val (.int x4), .val (.int (1 : Int32)), .val (.ref ee), .val (.ref ea), .unset, .unset, .unset, .unset, .unset, .unset, .unset, .unset, .unset] [])) _
      refine XS.iload X38.here hx rfl (hb hby at_20) rfl ?_
      show Steps p.tables e below (T38.setTop (mkF m 22 #[.val (.int x0), .val (.int x1), .val (.int x2), .val (.int x3), .val (.int x4), .val (.int (1 : Int32)), .val (.ref ee), .val (.ref ea), .unset, .unset, .unset, .unset, .unset, .unset, .unset, .unset, .unset] [(.int (1 : Int32))])) _
      refine XS.iloadN X38.here hx rfl (hb hby at_22) rfl ?_
      show Steps p.tables e below (T38.setTop (mkF m 23 #[.val (.int x0), .val (.int x1), .val (.int x2), .val (.int x3), .val (.int x4), .val (.int (1 : Int32)), .val (.ref ee), .val (.ref ea), .unset, .unset, .unset, .unset, .unset, .unset, .unset, .unset, .unset] [(.int x1), (.int (1 : Int32))])) _
      refine XS.iloadN X38.here hx rfl (hb hby at_23) rfl ?_
      show Steps p.tables e below (T38.setTop (mkF m 24 #[.val (.int x0), .val (.int x1), .val (.int x2), .val (.int x3), .val (.int x4), .val (.int (1 : Int32)), .val (.ref ee), .val (.ref ea), .unset, .unset, .unset, .unset, .unset, .unset, .unset, .unset, .unset] [(.int x2), (.int x1), (.int (1 : Int32))])) _
      refine XS.iloadN X38.here hx rfl (hb hby at_24) rfl ?_
      show Steps p.tables e below (T38.setTop (mkF m 25 #[.val (.int x0), .val (.int x1), .val (.int x2), .val (.int x3), .val (.int x4), .val (.int (1 : Int32)), .val (.ref ee), .val (.ref ea), .unset, .unset, .unset, .unset, .unset, .unset, .unset, .unset, .unset] [(.int x3), (.int x2), (.int x1), (.int (1 : Int32))])) _
      refine XS.iload X38.here hx rfl (hb hby at_25) rfl ?_
      show Steps p.tables e below (T38.setTop (mkF m 27 #[.val (.int x0), .val (.int x1), .val (.int x2), .val (.int x3), .val (.int x4), .val (.int (1 : Int32)), .val (.ref ee), .val (.ref ea), .unset, .unset, .unset, .unset, .unset, .unset, .unset, .unset, .unset] [(.int x4), (.int x3), (.int x2), (.int x1), (.int (1 : Int32))])) _
      exact k
    obtain ⟨_, _, ⟨T43, L43, k43, n43⟩, -, X43, ⟨Lc43, hQ43, l43, y43, z43⟩, st43⟩ := Jvm.LawKit.callS X38 hx (y := (⟨"com/example/seshat/seshat/filter/ProbeFnv1aPinLaw", "extended", "(IIIII)[B"⟩ : MethodName)) hown (mvT hZ (hw _ (List.mem_of_getElem? (i := 5) rfl))) (mvT hZ (hw _ (List.mem_of_getElem? (i := 6) rfl))) (mvT hZ (hw _ (List.mem_of_getElem? (i := 3) rfl))) (mvT hZ (hw _ (List.mem_of_getElem? (i := 7) rfl))) (by decide) (backOf (W := 0) (rm2_1 l Z a0 hw [] x1 x2 x3 x4  T38.heap n0 zz40 ) hZ (hw _ (List.mem_of_getElem? (i := 7) rfl)) (hw _ (List.mem_of_getElem? (i := 3) rfl)) (by decide) (by decide)) (g := (mkF m 27 #[.val (.int x0), .val (.int x1), .val (.int x2), .val (.int x3), .val (.int x4), .val (.int (1 : Int32)), .val (.ref ee), .val (.ref ea), .unset, .unset, .unset, .unset, .unset, .unset, .unset, .unset, .unset] [(.int x4), (.int x3), (.int x2), (.int x1), (.int (1 : Int32))])) rfl (by rw [hml]; rfl) (argsL := [(.int (1 : Int32)), (.int x1), (.int x2), (.int x3), (.int x4)]) (rest := []) (lenOf pd_4 rfl) rfl (by show 2 * 0 + _ ≤ _; exact Nat.le_of_eq rfl) (hb hby at_27) (fun _ _ => ⟨rfl, rfl, (by decide : 2 + 1 ≤ _), (by decide : 4 + 4 ≤ _)⟩)
    dsimp only [Pt.U, Pt.locs, Pt.cells, Pt.slots] at X43 l43 y43 z43 st43 hQ43
    subst l43 y43 z43
    obtain ⟨ec, k_ec, rfl, g_ec, N43q, K43, V_ec⟩ := hQ43
    have N43 := Fr.app N38 N43q
    have kc44 := kc39.keep K43 nin0
    have kc45 := V_ea.keep K43 nin0
    have zz46 := Nat.le_trans zz40 K43.1
    have pre47 : Go p e below (s₁.setTop (entryFrame m #[(.int x0), (.int x1), (.int x2), (.int x3), (.int x4)] maxLocals)) (T43.setTop (mkF m 30 #[.val (.int x0), .val (.int x1), .val (.int x2), .val (.int x3), .val (.int x4), .val (.int (1 : Int32)), .val (.ref ee), .val (.ref ea), .unset, .unset, .unset, .unset, .unset, .unset, .unset, .unset, .unset] [(.ref ec)])) := fun t k => pre42 t (st43 t k)
    have pre48 : Go p e below (s₁.setTop (entryFrame m #[(.int x0), (.int x1), (.int x2), (.int x3), (.int x4)] maxLocals)) (T43.setTop (mkF m 34 #[.val (.int x0), .val (.int x1), .val (.int x2), .val (.int x3), .val (.int x4), .val (.int (1 : Int32)), .val (.ref ee), .val (.ref ea), .val (.ref ec), .unset, .unset, .unset, .unset, .unset, .unset, .unset, .unset] [(.ref ee)])) := by
      intro t k
      refine pre47 t ?_
      show Steps p.tables e below (T43.setTop (mkF m 30 #[.val (.int x0), .val (.int x1), .val (.int x2), .val (.int x3), .val (.int x4), .val (.int (1 : Int32)), .val (.ref ee), .val (.ref ea), .unset, .unset, .unset, .unset, .unset, .unset, .unset, .unset, .unset] [(.ref ec)])) _
      refine XS.astore X43.here hx rfl (hb hby at_30) rfl rfl (l' := #[.val (.int x0), .val (.int x1), .val (.int x2), .val (.int x3), .val (.int x4), .val (.int (1 : Int32)), .val (.ref ee), .val (.ref ea), .val (.ref ec), .unset, .unset, .unset, .unset, .unset, .unset, .unset, .unset]) rfl ?_
      show Steps p.tables e below (T43.setTop (mkF m 32 #[.val (.int x0), .val (.int x1), .val (.int x2), .val (.int x3), .val (.int x4), .val (.int (1 : Int32)), .val (.ref ee), .val (.ref ea), .val (.ref ec), .unset, .unset, .unset, .unset, .unset, .unset, .unset, .unset] [])) _
      refine XS.aload X43.here hx rfl (hb hby at_32) rfl rfl ?_
      show Steps p.tables e below (T43.setTop (mkF m 34 #[.val (.int x0), .val (.int x1), .val (.int x2), .val (.int x3), .val (.int x4), .val (.int (1 : Int32)), .val (.ref ee), .val (.ref ea), .val (.ref ec), .unset, .unset, .unset, .unset, .unset, .unset, .unset, .unset] [(.ref ee)])) _
      exact k
    obtain ⟨_, _, ⟨T49, L49, k49, n49⟩, -, X49, ⟨Lc49, hQ49, l49, y49, z49⟩, st49⟩ := Jvm.LawKit.callS X43 hx (y := (⟨"com/example/seshat/seshat/filter/Probe", "fnv1a", "([B)J"⟩ : MethodName)) hown (mvT hZ (hw _ (List.mem_of_getElem? (i := 8) rfl))) (mvT hZ (hw _ (List.mem_of_getElem? (i := 9) rfl))) (mvT hZ (hw _ (List.mem_of_getElem? (i := 10) rfl))) (mvT hZ (hw _ (List.mem_of_getElem? (i := 11) rfl))) (by decide) (backOf (W := 0) (rm3_0 l Z a0 hw [] ee k34 T43.heap n0 zz46 kc44) hZ (hw _ (List.mem_of_getElem? (i := 11) rfl)) (hw _ (List.mem_of_getElem? (i := 10) rfl)) (by decide) (by decide)) (g := (mkF m 34 #[.val (.int x0), .val (.int x1), .val (.int x2), .val (.int x3), .val (.int x4), .val (.int (1 : Int32)), .val (.ref ee), .val (.ref ea), .val (.ref ec), .unset, .unset, .unset, .unset, .unset, .unset, .unset, .unset] [(.ref ee)])) rfl (by rw [hml]; rfl) (argsL := [(.ref ee)]) (rest := []) (lenOf pd_5 rfl) rfl (by show 2 * 0 + _ ≤ _; exact Nat.le_of_eq rfl) (hb hby at_34) (fun _ _ => ⟨rfl, rfl, (by decide : 3 + 0 ≤ _), (by decide : 8 + 0 ≤ _)⟩)
    dsimp only [Pt.U, Pt.locs, Pt.cells, Pt.slots] at X49 l49 y49 z49 st49 hQ49
    subst l49 y49 z49
    obtain ⟨rfl, N49q, hh49⟩ := hQ49
    have N49 := Fr.app N43 N49q
    have pre50 : Go p e below (s₁.setTop (entryFrame m #[(.int x0), (.int x1), (.int x2), (.int x3), (.int x4)] maxLocals)) (T49.setTop (mkF m 37 #[.val (.int x0), .val (.int x1), .val (.int x2), .val (.int x3), .val (.int x4), .val (.int (1 : Int32)), .val (.ref ee), .val (.ref ea), .val (.ref ec), .unset, .unset, .unset, .unset, .unset, .unset, .unset, .unset] [(.long fnv0)])) := fun t k => pre48 t (st49 t k)
    have pre51 : Go p e below (s₁.setTop (entryFrame m #[(.int x0), (.int x1), (.int x2), (.int x3), (.int x4)] maxLocals)) (T49.setTop (mkF m 41 #[.val (.int x0), .val (.int x1), .val (.int x2), .val (.int x3), .val (.int x4), .val (.int (1 : Int32)), .val (.ref ee), .val (.ref ea), .val (.ref ec), .val (.long fnv0), .second, .unset, .unset, .unset, .unset, .unset, .unset] [(.ref ea)])) := by
      intro t k
      refine pre50 t ?_
      show Steps p.tables e below (T49.setTop (mkF m 37 #[.val (.int x0), .val (.int x1), .val (.int x2), .val (.int x3), .val (.int x4), .val (.int (1 : Int32)), .val (.ref ee), .val (.ref ea), .val (.ref ec), .unset, .unset, .unset, .unset, .unset, .unset, .unset, .unset] [(.long fnv0)])) _
      refine XT.lstore X49.here hx rfl (hb hby at_37) rfl (l' := #[.val (.int x0), .val (.int x1), .val (.int x2), .val (.int x3), .val (.int x4), .val (.int (1 : Int32)), .val (.ref ee), .val (.ref ea), .val (.ref ec), .val (.long fnv0), .second, .unset, .unset, .unset, .unset, .unset, .unset]) rfl ?_
      show Steps p.tables e below (T49.setTop (mkF m 39 #[.val (.int x0), .val (.int x1), .val (.int x2), .val (.int x3), .val (.int x4), .val (.int (1 : Int32)), .val (.ref ee), .val (.ref ea), .val (.ref ec), .val (.long fnv0), .second, .unset, .unset, .unset, .unset, .unset, .unset] [])) _
      refine XS.aload X49.here hx rfl (hb hby at_39) rfl rfl ?_
      show Steps p.tables e below (T49.setTop (mkF m 41 #[.val (.int x0), .val (.int x1), .val (.int x2), .val (.int x3), .val (.int x4), .val (.int (1 : Int32)), .val (.ref ee), .val (.ref ea), .val (.ref ec), .val (.long fnv0), .second, .unset, .unset, .unset, .unset, .unset, .unset] [(.ref ea)])) _
      exact k
    obtain ⟨_, _, ⟨T52, L52, k52, n52⟩, -, X52, ⟨Lc52, hQ52, l52, y52, z52⟩, st52⟩ := Jvm.LawKit.callS X49 hx (y := (⟨"com/example/seshat/seshat/filter/Probe", "fnv1a", "([B)J"⟩ : MethodName)) hown (mvT hZ (hw _ (List.mem_of_getElem? (i := 8) rfl))) (mvT hZ (hw _ (List.mem_of_getElem? (i := 9) rfl))) (mvT hZ (hw _ (List.mem_of_getElem? (i := 10) rfl))) (mvT hZ (hw _ (List.mem_of_getElem? (i := 11) rfl))) (by decide) (backOf (W := 0) (rm3_1 l Z a0 hw [] ea k_ea (nar .byte (x1.toInt8.toInt32)) T43.heap n0 zz46 kc45) hZ (hw _ (List.mem_of_getElem? (i := 11) rfl)) (hw _ (List.mem_of_getElem? (i := 10) rfl)) (by decide) (by decide)) (g := (mkF m 41 #[.val (.int x0), .val (.int x1), .val (.int x2), .val (.int x3), .val (.int x4), .val (.int (1 : Int32)), .val (.ref ee), .val (.ref ea), .val (.ref ec), .val (.long fnv0), .second, .unset, .unset, .unset, .unset, .unset, .unset] [(.ref ea)])) rfl (by rw [hml]; rfl) (argsL := [(.ref ea)]) (rest := []) (lenOf pd_5 rfl) rfl (by show 2 * 0 + _ ≤ _; exact Nat.le_of_eq rfl) (hb hby at_41) (fun _ _ => ⟨rfl, hh49, (by decide : 3 + 0 ≤ _), (by decide : 8 + 0 ≤ _)⟩)
    dsimp only [Pt.U, Pt.locs, Pt.cells, Pt.slots] at X52 l52 y52 z52 st52 hQ52
    subst l52 y52 z52
    obtain ⟨rfl, N52q, hh52⟩ := hQ52
    have N52 := Fr.app N49 N52q
    have pre53 : Go p e below (s₁.setTop (entryFrame m #[(.int x0), (.int x1), (.int x2), (.int x3), (.int x4)] maxLocals)) (T52.setTop (mkF m 44 #[.val (.int x0), .val (.int x1), .val (.int x2), .val (.int x3), .val (.int x4), .val (.int (1 : Int32)), .val (.ref ee), .val (.ref ea), .val (.ref ec), .val (.long fnv0), .second, .unset, .unset, .unset, .unset, .unset, .unset] [(.long (fnv1 (nar .byte (x1.toInt8.toInt32))))])) := fun t k => pre51 t (st52 t k)
    have pre54 : Go p e below (s₁.setTop (entryFrame m #[(.int x0), (.int x1), (.int x2), (.int x3), (.int x4)] maxLocals)) (T52.setTop (mkF m 48 #[.val (.int x0), .val (.int x1), .val (.int x2), .val (.int x3), .val (.int x4), .val (.int (1 : Int32)), .val (.ref ee), .val (.ref ea), .val (.ref ec), .val (.long fnv0), .second, .val (.long (fnv1 (nar .byte (x1.toInt8.toInt32)))), .second, .unset, .unset, .unset, .unset] [(.ref ec)])) := by
      intro t k
      refine pre53 t ?_
      show Steps p.tables e below (T52.setTop (mkF m 44 #[.val (.int x0), .val (.int x1), .val (.int x2), .val (.int x3), .val (.int x4), .val (.int (1 : Int32)), .val (.ref ee), .val (.ref ea), .val (.ref ec), .val (.long fnv0), .second, .unset, .unset, .unset, .unset, .unset, .unset] [(.long (fnv1 (nar .byte (x1.toInt8.toInt32))))])) _
      refine XT.lstore X52.here hx rfl (hb hby at_44) rfl (l' := #[.val (.int x0), .val (.int x1), .val (.int x2), .val (.int x3), .val (.int x4), .val (.int (1 : Int32)), .val (.ref ee), .val (.ref ea), .val (.ref ec), .val (.long fnv0), .second, .val (.long (fnv1 (nar .byte (x1.toInt8.toInt32)))), .second, .unset, .unset, .unset, .unset]) rfl ?_
      show Steps p.tables e below (T52.setTop (mkF m 46 #[.val (.int x0), .val (.int x1), .val (.int x2), .val (.int x3), .val (.int x4), .val (.int (1 : Int32)), .val (.ref ee), .val (.ref ea), .val (.ref ec), .val (.long fnv0), .second, .val (.long (fnv1 (nar .byte (x1.toInt8.toInt32)))), .second, .unset, .unset, .unset, .unset] [])) _
      refine XS.aload X52.here hx rfl (hb hby at_46) rfl rfl ?_
      show Steps p.tables e below (T52.setTop (mkF m 48 #[.val (.int x0), .val (.int x1), .val (.int x2), .val (.int x3), .val (.int x4), .val (.int (1 : Int32)), .val (.ref ee), .val (.ref ea), .val (.ref ec), .val (.long fnv0), .second, .val (.long (fnv1 (nar .byte (x1.toInt8.toInt32)))), .second, .unset, .unset, .unset, .unset] [(.ref ec)])) _
      exact k
    obtain ⟨_, _, ⟨T55, L55, k55, n55⟩, -, X55, ⟨Lc55, hQ55, l55, y55, z55⟩, st55⟩ := Jvm.LawKit.callS X52 hx (y := (⟨"com/example/seshat/seshat/filter/Probe", "fnv1a", "([B)J"⟩ : MethodName)) hown (mvT hZ (hw _ (List.mem_of_getElem? (i := 8) rfl))) (mvT hZ (hw _ (List.mem_of_getElem? (i := 9) rfl))) (mvT hZ (hw _ (List.mem_of_getElem? (i := 10) rfl))) (mvT hZ (hw _ (List.mem_of_getElem? (i := 11) rfl))) (by decide) (backOf (W := 0) (rm3_2 l Z a0 hw [] ec k_ec (nar .byte (x1.toInt8.toInt32)) (nar .byte (x4.toInt8.toInt32)) T43.heap n0 zz46 V_ec) hZ (hw _ (List.mem_of_getElem? (i := 11) rfl)) (hw _ (List.mem_of_getElem? (i := 10) rfl)) (by decide) (by decide)) (g := (mkF m 48 #[.val (.int x0), .val (.int x1), .val (.int x2), .val (.int x3), .val (.int x4), .val (.int (1 : Int32)), .val (.ref ee), .val (.ref ea), .val (.ref ec), .val (.long fnv0), .second, .val (.long (fnv1 (nar .byte (x1.toInt8.toInt32)))), .second, .unset, .unset, .unset, .unset] [(.ref ec)])) rfl (by rw [hml]; rfl) (argsL := [(.ref ec)]) (rest := []) (lenOf pd_5 rfl) rfl (by show 2 * 0 + _ ≤ _; exact Nat.le_of_eq rfl) (hb hby at_48) (fun _ _ => ⟨rfl, hh52, (by decide : 3 + 0 ≤ _), (by decide : 8 + 0 ≤ _)⟩)
    dsimp only [Pt.U, Pt.locs, Pt.cells, Pt.slots] at X55 l55 y55 z55 st55 hQ55
    subst l55 y55 z55
    obtain ⟨rfl, N55q, hh55⟩ := hQ55
    have N55 := Fr.app N52 N55q
    have pre56 : Go p e below (s₁.setTop (entryFrame m #[(.int x0), (.int x1), (.int x2), (.int x3), (.int x4)] maxLocals)) (T55.setTop (mkF m 51 #[.val (.int x0), .val (.int x1), .val (.int x2), .val (.int x3), .val (.int x4), .val (.int (1 : Int32)), .val (.ref ee), .val (.ref ea), .val (.ref ec), .val (.long fnv0), .second, .val (.long (fnv1 (nar .byte (x1.toInt8.toInt32)))), .second, .unset, .unset, .unset, .unset] [(.long (fnv2 (nar .byte (x1.toInt8.toInt32)) (nar .byte (x4.toInt8.toInt32))))])) := fun t k => pre54 t (st55 t k)
    have pre57 : Go p e below (s₁.setTop (entryFrame m #[(.int x0), (.int x1), (.int x2), (.int x3), (.int x4)] maxLocals)) (T55.setTop (mkF m 75 #[.val (.int x0), .val (.int x1), .val (.int x2), .val (.int x3), .val (.int x4), .val (.int (1 : Int32)), .val (.ref ee), .val (.ref ea), .val (.ref ec), .val (.long fnv0), .second, .val (.long (fnv1 (nar .byte (x1.toInt8.toInt32)))), .second, .val (.long (fnv2 (nar .byte (x1.toInt8.toInt32)) (nar .byte (x4.toInt8.toInt32)))), .second, .val (.long (((fnv1 (nar .byte (x1.toInt8.toInt32))) ^^^ (((x4 &&& (255 : Int32))).toInt64)) * (1099511628211 : Int64))), .second] [(.int (XT.cmpL fnv0 (-3750763034362895579 : Int64)))])) := by
      intro t k
      refine pre56 t ?_
      show Steps p.tables e below (T55.setTop (mkF m 51 #[.val (.int x0), .val (.int x1), .val (.int x2), .val (.int x3), .val (.int x4), .val (.int (1 : Int32)), .val (.ref ee), .val (.ref ea), .val (.ref ec), .val (.long fnv0), .second, .val (.long (fnv1 (nar .byte (x1.toInt8.toInt32)))), .second, .unset, .unset, .unset, .unset] [(.long (fnv2 (nar .byte (x1.toInt8.toInt32)) (nar .byte (x4.toInt8.toInt32))))])) _
      refine XT.lstore X55.here hx rfl (hb hby at_51) rfl (l' := #[.val (.int x0), .val (.int x1), .val (.int x2), .val (.int x3), .val (.int x4), .val (.int (1 : Int32)), .val (.ref ee), .val (.ref ea), .val (.ref ec), .val (.long fnv0), .second, .val (.long (fnv1 (nar .byte (x1.toInt8.toInt32)))), .second, .val (.long (fnv2 (nar .byte (x1.toInt8.toInt32)) (nar .byte (x4.toInt8.toInt32)))), .second, .unset, .unset]) rfl ?_
      show Steps p.tables e below (T55.setTop (mkF m 53 #[.val (.int x0), .val (.int x1), .val (.int x2), .val (.int x3), .val (.int x4), .val (.int (1 : Int32)), .val (.ref ee), .val (.ref ea), .val (.ref ec), .val (.long fnv0), .second, .val (.long (fnv1 (nar .byte (x1.toInt8.toInt32)))), .second, .val (.long (fnv2 (nar .byte (x1.toInt8.toInt32)) (nar .byte (x4.toInt8.toInt32)))), .second, .unset, .unset] [])) _
      refine XT.lload X55.here hx rfl (hb hby at_53) rfl ?_
      show Steps p.tables e below (T55.setTop (mkF m 55 #[.val (.int x0), .val (.int x1), .val (.int x2), .val (.int x3), .val (.int x4), .val (.int (1 : Int32)), .val (.ref ee), .val (.ref ea), .val (.ref ec), .val (.long fnv0), .second, .val (.long (fnv1 (nar .byte (x1.toInt8.toInt32)))), .second, .val (.long (fnv2 (nar .byte (x1.toInt8.toInt32)) (nar .byte (x4.toInt8.toInt32)))), .second, .unset, .unset] [(.long (fnv1 (nar .byte (x1.toInt8.toInt32))))])) _
      refine XS.iload X55.here hx rfl (hb hby at_55) rfl ?_
      show Steps p.tables e below (T55.setTop (mkF m 57 #[.val (.int x0), .val (.int x1), .val (.int x2), .val (.int x3), .val (.int x4), .val (.int (1 : Int32)), .val (.ref ee), .val (.ref ea), .val (.ref ec), .val (.long fnv0), .second, .val (.long (fnv1 (nar .byte (x1.toInt8.toInt32)))), .second, .val (.long (fnv2 (nar .byte (x1.toInt8.toInt32)) (nar .byte (x4.toInt8.toInt32)))), .second, .unset, .unset] [(.int x4), (.long (fnv1 (nar .byte (x1.toInt8.toInt32))))])) _
      refine XS.sipush X55.here hx rfl (hb hby at_57) ?_
      show Steps p.tables e below (T55.setTop (mkF m 60 #[.val (.int x0), .val (.int x1), .val (.int x2), .val (.int x3), .val (.int x4), .val (.int (1 : Int32)), .val (.ref ee), .val (.ref ea), .val (.ref ec), .val (.long fnv0), .second, .val (.long (fnv1 (nar .byte (x1.toInt8.toInt32)))), .second, .val (.long (fnv2 (nar .byte (x1.toInt8.toInt32)) (nar .byte (x4.toInt8.toInt32)))), .second, .unset, .unset] [(.int (255 : Int32)), (.int x4), (.long (fnv1 (nar .byte (x1.toInt8.toInt32))))])) _
      refine XS.iand X55.here hx rfl (hb hby at_60) rfl ?_
      show Steps p.tables e below (T55.setTop (mkF m 61 #[.val (.int x0), .val (.int x1), .val (.int x2), .val (.int x3), .val (.int x4), .val (.int (1 : Int32)), .val (.ref ee), .val (.ref ea), .val (.ref ec), .val (.long fnv0), .second, .val (.long (fnv1 (nar .byte (x1.toInt8.toInt32)))), .second, .val (.long (fnv2 (nar .byte (x1.toInt8.toInt32)) (nar .byte (x4.toInt8.toInt32)))), .second, .unset, .unset] [(.int (x4 &&& (255 : Int32))), (.long (fnv1 (nar .byte (x1.toInt8.toInt32))))])) _
      refine XS.i2l X55.here hx rfl (hb hby at_61) rfl ?_
      show Steps p.tables e below (T55.setTop (mkF m 62 #[.val (.int x0), .val (.int x1), .val (.int x2), .val (.int x3), .val (.int x4), .val (.int (1 : Int32)), .val (.ref ee), .val (.ref ea), .val (.ref ec), .val (.long fnv0), .second, .val (.long (fnv1 (nar .byte (x1.toInt8.toInt32)))), .second, .val (.long (fnv2 (nar .byte (x1.toInt8.toInt32)) (nar .byte (x4.toInt8.toInt32)))), .second, .unset, .unset] [(.long (((x4 &&& (255 : Int32))).toInt64)), (.long (fnv1 (nar .byte (x1.toInt8.toInt32))))])) _
      refine XS.lxor X55.here hx rfl (hb hby at_62) rfl ?_
      show Steps p.tables e below (T55.setTop (mkF m 63 #[.val (.int x0), .val (.int x1), .val (.int x2), .val (.int x3), .val (.int x4), .val (.int (1 : Int32)), .val (.ref ee), .val (.ref ea), .val (.ref ec), .val (.long fnv0), .second, .val (.long (fnv1 (nar .byte (x1.toInt8.toInt32)))), .second, .val (.long (fnv2 (nar .byte (x1.toInt8.toInt32)) (nar .byte (x4.toInt8.toInt32)))), .second, .unset, .unset] [(.long ((fnv1 (nar .byte (x1.toInt8.toInt32))) ^^^ (((x4 &&& (255 : Int32))).toInt64)))])) _
      refine X55.ldc2J hx hown (mvT hZ (hw _ (List.mem_of_getElem? (i := 14) rfl))) (g := (mkF m 63 #[.val (.int x0), .val (.int x1), .val (.int x2), .val (.int x3), .val (.int x4), .val (.int (1 : Int32)), .val (.ref ee), .val (.ref ea), .val (.ref ec), .val (.long fnv0), .second, .val (.long (fnv1 (nar .byte (x1.toInt8.toInt32)))), .second, .val (.long (fnv2 (nar .byte (x1.toInt8.toInt32)) (nar .byte (x4.toInt8.toInt32)))), .second, .unset, .unset] [(.long ((fnv1 (nar .byte (x1.toInt8.toInt32))) ^^^ (((x4 &&& (255 : Int32))).toInt64)))])) rfl (hb hby at_63) ?_
      show Steps p.tables e below (T55.setTop (mkF m 66 #[.val (.int x0), .val (.int x1), .val (.int x2), .val (.int x3), .val (.int x4), .val (.int (1 : Int32)), .val (.ref ee), .val (.ref ea), .val (.ref ec), .val (.long fnv0), .second, .val (.long (fnv1 (nar .byte (x1.toInt8.toInt32)))), .second, .val (.long (fnv2 (nar .byte (x1.toInt8.toInt32)) (nar .byte (x4.toInt8.toInt32)))), .second, .unset, .unset] [(.long (1099511628211 : Int64)), (.long ((fnv1 (nar .byte (x1.toInt8.toInt32))) ^^^ (((x4 &&& (255 : Int32))).toInt64)))])) _
      refine XS.lmul X55.here hx rfl (hb hby at_66) rfl ?_
      show Steps p.tables e below (T55.setTop (mkF m 67 #[.val (.int x0), .val (.int x1), .val (.int x2), .val (.int x3), .val (.int x4), .val (.int (1 : Int32)), .val (.ref ee), .val (.ref ea), .val (.ref ec), .val (.long fnv0), .second, .val (.long (fnv1 (nar .byte (x1.toInt8.toInt32)))), .second, .val (.long (fnv2 (nar .byte (x1.toInt8.toInt32)) (nar .byte (x4.toInt8.toInt32)))), .second, .unset, .unset] [(.long (((fnv1 (nar .byte (x1.toInt8.toInt32))) ^^^ (((x4 &&& (255 : Int32))).toInt64)) * (1099511628211 : Int64)))])) _
      refine XT.lstore X55.here hx rfl (hb hby at_67) rfl (l' := #[.val (.int x0), .val (.int x1), .val (.int x2), .val (.int x3), .val (.int x4), .val (.int (1 : Int32)), .val (.ref ee), .val (.ref ea), .val (.ref ec), .val (.long fnv0), .second, .val (.long (fnv1 (nar .byte (x1.toInt8.toInt32)))), .second, .val (.long (fnv2 (nar .byte (x1.toInt8.toInt32)) (nar .byte (x4.toInt8.toInt32)))), .second, .val (.long (((fnv1 (nar .byte (x1.toInt8.toInt32))) ^^^ (((x4 &&& (255 : Int32))).toInt64)) * (1099511628211 : Int64))), .second]) rfl ?_
      show Steps p.tables e below (T55.setTop (mkF m 69 #[.val (.int x0), .val (.int x1), .val (.int x2), .val (.int x3), .val (.int x4), .val (.int (1 : Int32)), .val (.ref ee), .val (.ref ea), .val (.ref ec), .val (.long fnv0), .second, .val (.long (fnv1 (nar .byte (x1.toInt8.toInt32)))), .second, .val (.long (fnv2 (nar .byte (x1.toInt8.toInt32)) (nar .byte (x4.toInt8.toInt32)))), .second, .val (.long (((fnv1 (nar .byte (x1.toInt8.toInt32))) ^^^ (((x4 &&& (255 : Int32))).toInt64)) * (1099511628211 : Int64))), .second] [])) _
      refine XT.lload X55.here hx rfl (hb hby at_69) rfl ?_
      show Steps p.tables e below (T55.setTop (mkF m 71 #[.val (.int x0), .val (.int x1), .val (.int x2), .val (.int x3), .val (.int x4), .val (.int (1 : Int32)), .val (.ref ee), .val (.ref ea), .val (.ref ec), .val (.long fnv0), .second, .val (.long (fnv1 (nar .byte (x1.toInt8.toInt32)))), .second, .val (.long (fnv2 (nar .byte (x1.toInt8.toInt32)) (nar .byte (x4.toInt8.toInt32)))), .second, .val (.long (((fnv1 (nar .byte (x1.toInt8.toInt32))) ^^^ (((x4 &&& (255 : Int32))).toInt64)) * (1099511628211 : Int64))), .second] [(.long fnv0)])) _
      refine X55.ldc2J hx hown (mvT hZ (hw _ (List.mem_of_getElem? (i := 15) rfl))) (g := (mkF m 71 #[.val (.int x0), .val (.int x1), .val (.int x2), .val (.int x3), .val (.int x4), .val (.int (1 : Int32)), .val (.ref ee), .val (.ref ea), .val (.ref ec), .val (.long fnv0), .second, .val (.long (fnv1 (nar .byte (x1.toInt8.toInt32)))), .second, .val (.long (fnv2 (nar .byte (x1.toInt8.toInt32)) (nar .byte (x4.toInt8.toInt32)))), .second, .val (.long (((fnv1 (nar .byte (x1.toInt8.toInt32))) ^^^ (((x4 &&& (255 : Int32))).toInt64)) * (1099511628211 : Int64))), .second] [(.long fnv0)])) rfl (hb hby at_71) ?_
      show Steps p.tables e below (T55.setTop (mkF m 74 #[.val (.int x0), .val (.int x1), .val (.int x2), .val (.int x3), .val (.int x4), .val (.int (1 : Int32)), .val (.ref ee), .val (.ref ea), .val (.ref ec), .val (.long fnv0), .second, .val (.long (fnv1 (nar .byte (x1.toInt8.toInt32)))), .second, .val (.long (fnv2 (nar .byte (x1.toInt8.toInt32)) (nar .byte (x4.toInt8.toInt32)))), .second, .val (.long (((fnv1 (nar .byte (x1.toInt8.toInt32))) ^^^ (((x4 &&& (255 : Int32))).toInt64)) * (1099511628211 : Int64))), .second] [(.long (-3750763034362895579 : Int64)), (.long fnv0)])) _
      refine XT.lcmp X55.here hx rfl (hb hby at_74) rfl ?_
      show Steps p.tables e below (T55.setTop (mkF m 75 #[.val (.int x0), .val (.int x1), .val (.int x2), .val (.int x3), .val (.int x4), .val (.int (1 : Int32)), .val (.ref ee), .val (.ref ea), .val (.ref ec), .val (.long fnv0), .second, .val (.long (fnv1 (nar .byte (x1.toInt8.toInt32)))), .second, .val (.long (fnv2 (nar .byte (x1.toInt8.toInt32)) (nar .byte (x4.toInt8.toInt32)))), .second, .val (.long (((fnv1 (nar .byte (x1.toInt8.toInt32))) ^^^ (((x4 &&& (255 : Int32))).toInt64)) * (1099511628211 : Int64))), .second] [(.int (XT.cmpL fnv0 (-3750763034362895579 : Int64)))])) _
      exact k
    have hc75_58 : fnv0 = (-3750763034362895579 : Int64) := by
      rfl
    have pre59 : Go p e below (s₁.setTop (entryFrame m #[(.int x0), (.int x1), (.int x2), (.int x3), (.int x4)] maxLocals)) (T55.setTop (mkF m 83 #[.val (.int x0), .val (.int x1), .val (.int x2), .val (.int x3), .val (.int x4), .val (.int (1 : Int32)), .val (.ref ee), .val (.ref ea), .val (.ref ec), .val (.long fnv0), .second, .val (.long (fnv1 (nar .byte (x1.toInt8.toInt32)))), .second, .val (.long (fnv2 (nar .byte (x1.toInt8.toInt32)) (nar .byte (x4.toInt8.toInt32)))), .second, .val (.long (((fnv1 (nar .byte (x1.toInt8.toInt32))) ^^^ (((x4 &&& (255 : Int32))).toInt64)) * (1099511628211 : Int64))), .second] [(.int (XT.cmpL (fnv2 (nar .byte (x1.toInt8.toInt32)) (nar .byte (x4.toInt8.toInt32))) (((fnv1 (nar .byte (x1.toInt8.toInt32))) ^^^ (((x4 &&& (255 : Int32))).toInt64)) * (1099511628211 : Int64))))])) := by
      intro t k
      refine pre57 t ?_
      show Steps p.tables e below (T55.setTop (mkF m 75 #[.val (.int x0), .val (.int x1), .val (.int x2), .val (.int x3), .val (.int x4), .val (.int (1 : Int32)), .val (.ref ee), .val (.ref ea), .val (.ref ec), .val (.long fnv0), .second, .val (.long (fnv1 (nar .byte (x1.toInt8.toInt32)))), .second, .val (.long (fnv2 (nar .byte (x1.toInt8.toInt32)) (nar .byte (x4.toInt8.toInt32)))), .second, .val (.long (((fnv1 (nar .byte (x1.toInt8.toInt32))) ^^^ (((x4 &&& (255 : Int32))).toInt64)) * (1099511628211 : Int64))), .second] [(.int (XT.cmpL fnv0 (-3750763034362895579 : Int64)))])) _
      refine XS.ifNo X55.here hx rfl (hb hby at_75) rfl (XT.ll_ne_f hc75_58) ?_
      show Steps p.tables e below (T55.setTop (mkF m 78 #[.val (.int x0), .val (.int x1), .val (.int x2), .val (.int x3), .val (.int x4), .val (.int (1 : Int32)), .val (.ref ee), .val (.ref ea), .val (.ref ec), .val (.long fnv0), .second, .val (.long (fnv1 (nar .byte (x1.toInt8.toInt32)))), .second, .val (.long (fnv2 (nar .byte (x1.toInt8.toInt32)) (nar .byte (x4.toInt8.toInt32)))), .second, .val (.long (((fnv1 (nar .byte (x1.toInt8.toInt32))) ^^^ (((x4 &&& (255 : Int32))).toInt64)) * (1099511628211 : Int64))), .second] [])) _
      refine XT.lload X55.here hx rfl (hb hby at_78) rfl ?_
      show Steps p.tables e below (T55.setTop (mkF m 80 #[.val (.int x0), .val (.int x1), .val (.int x2), .val (.int x3), .val (.int x4), .val (.int (1 : Int32)), .val (.ref ee), .val (.ref ea), .val (.ref ec), .val (.long fnv0), .second, .val (.long (fnv1 (nar .byte (x1.toInt8.toInt32)))), .second, .val (.long (fnv2 (nar .byte (x1.toInt8.toInt32)) (nar .byte (x4.toInt8.toInt32)))), .second, .val (.long (((fnv1 (nar .byte (x1.toInt8.toInt32))) ^^^ (((x4 &&& (255 : Int32))).toInt64)) * (1099511628211 : Int64))), .second] [(.long (fnv2 (nar .byte (x1.toInt8.toInt32)) (nar .byte (x4.toInt8.toInt32))))])) _
      refine XT.lload X55.here hx rfl (hb hby at_80) rfl ?_
      show Steps p.tables e below (T55.setTop (mkF m 82 #[.val (.int x0), .val (.int x1), .val (.int x2), .val (.int x3), .val (.int x4), .val (.int (1 : Int32)), .val (.ref ee), .val (.ref ea), .val (.ref ec), .val (.long fnv0), .second, .val (.long (fnv1 (nar .byte (x1.toInt8.toInt32)))), .second, .val (.long (fnv2 (nar .byte (x1.toInt8.toInt32)) (nar .byte (x4.toInt8.toInt32)))), .second, .val (.long (((fnv1 (nar .byte (x1.toInt8.toInt32))) ^^^ (((x4 &&& (255 : Int32))).toInt64)) * (1099511628211 : Int64))), .second] [(.long (((fnv1 (nar .byte (x1.toInt8.toInt32))) ^^^ (((x4 &&& (255 : Int32))).toInt64)) * (1099511628211 : Int64))), (.long (fnv2 (nar .byte (x1.toInt8.toInt32)) (nar .byte (x4.toInt8.toInt32))))])) _
      refine XT.lcmp X55.here hx rfl (hb hby at_82) rfl ?_
      show Steps p.tables e below (T55.setTop (mkF m 83 #[.val (.int x0), .val (.int x1), .val (.int x2), .val (.int x3), .val (.int x4), .val (.int (1 : Int32)), .val (.ref ee), .val (.ref ea), .val (.ref ec), .val (.long fnv0), .second, .val (.long (fnv1 (nar .byte (x1.toInt8.toInt32)))), .second, .val (.long (fnv2 (nar .byte (x1.toInt8.toInt32)) (nar .byte (x4.toInt8.toInt32)))), .second, .val (.long (((fnv1 (nar .byte (x1.toInt8.toInt32))) ^^^ (((x4 &&& (255 : Int32))).toInt64)) * (1099511628211 : Int64))), .second] [(.int (XT.cmpL (fnv2 (nar .byte (x1.toInt8.toInt32)) (nar .byte (x4.toInt8.toInt32))) (((fnv1 (nar .byte (x1.toInt8.toInt32))) ^^^ (((x4 &&& (255 : Int32))).toInt64)) * (1099511628211 : Int64))))])) _
      exact k
    have hc83_60 : (fnv2 (nar .byte (x1.toInt8.toInt32)) (nar .byte (x4.toInt8.toInt32))) = (((fnv1 (nar .byte (x1.toInt8.toInt32))) ^^^ (((x4 &&& (255 : Int32))).toInt64)) * (1099511628211 : Int64)) := by
      rw [← own_byte x4]; rfl
    have pre61 : Go p e below (s₁.setTop (entryFrame m #[(.int x0), (.int x1), (.int x2), (.int x3), (.int x4)] maxLocals)) (T55.setTop (mkF m 91 #[.val (.int x0), .val (.int x1), .val (.int x2), .val (.int x3), .val (.int x4), .val (.int (1 : Int32)), .val (.ref ee), .val (.ref ea), .val (.ref ec), .val (.long fnv0), .second, .val (.long (fnv1 (nar .byte (x1.toInt8.toInt32)))), .second, .val (.long (fnv2 (nar .byte (x1.toInt8.toInt32)) (nar .byte (x4.toInt8.toInt32)))), .second, .val (.long (((fnv1 (nar .byte (x1.toInt8.toInt32))) ^^^ (((x4 &&& (255 : Int32))).toInt64)) * (1099511628211 : Int64))), .second] [(.int (1 : Int32))])) := by
      intro t k
      refine pre59 t ?_
      show Steps p.tables e below (T55.setTop (mkF m 83 #[.val (.int x0), .val (.int x1), .val (.int x2), .val (.int x3), .val (.int x4), .val (.int (1 : Int32)), .val (.ref ee), .val (.ref ea), .val (.ref ec), .val (.long fnv0), .second, .val (.long (fnv1 (nar .byte (x1.toInt8.toInt32)))), .second, .val (.long (fnv2 (nar .byte (x1.toInt8.toInt32)) (nar .byte (x4.toInt8.toInt32)))), .second, .val (.long (((fnv1 (nar .byte (x1.toInt8.toInt32))) ^^^ (((x4 &&& (255 : Int32))).toInt64)) * (1099511628211 : Int64))), .second] [(.int (XT.cmpL (fnv2 (nar .byte (x1.toInt8.toInt32)) (nar .byte (x4.toInt8.toInt32))) (((fnv1 (nar .byte (x1.toInt8.toInt32))) ^^^ (((x4 &&& (255 : Int32))).toInt64)) * (1099511628211 : Int64))))])) _
      refine XS.ifNo X55.here hx rfl (hb hby at_83) rfl (XT.ll_ne_f hc83_60) ?_
      show Steps p.tables e below (T55.setTop (mkF m 86 #[.val (.int x0), .val (.int x1), .val (.int x2), .val (.int x3), .val (.int x4), .val (.int (1 : Int32)), .val (.ref ee), .val (.ref ea), .val (.ref ec), .val (.long fnv0), .second, .val (.long (fnv1 (nar .byte (x1.toInt8.toInt32)))), .second, .val (.long (fnv2 (nar .byte (x1.toInt8.toInt32)) (nar .byte (x4.toInt8.toInt32)))), .second, .val (.long (((fnv1 (nar .byte (x1.toInt8.toInt32))) ^^^ (((x4 &&& (255 : Int32))).toInt64)) * (1099511628211 : Int64))), .second] [])) _
      refine XS.iconst X55.here hx rfl (hb hby at_86) ?_
      show Steps p.tables e below (T55.setTop (mkF m 87 #[.val (.int x0), .val (.int x1), .val (.int x2), .val (.int x3), .val (.int x4), .val (.int (1 : Int32)), .val (.ref ee), .val (.ref ea), .val (.ref ec), .val (.long fnv0), .second, .val (.long (fnv1 (nar .byte (x1.toInt8.toInt32)))), .second, .val (.long (fnv2 (nar .byte (x1.toInt8.toInt32)) (nar .byte (x4.toInt8.toInt32)))), .second, .val (.long (((fnv1 (nar .byte (x1.toInt8.toInt32))) ^^^ (((x4 &&& (255 : Int32))).toInt64)) * (1099511628211 : Int64))), .second] [(.int (1 : Int32))])) _
      refine XS.goto X55.here hx rfl (pc0 := 87) (pc' := 91) rfl (hb hby at_87) (by decide) (by decide) ?_
      show Steps p.tables e below (T55.setTop (mkF m 91 #[.val (.int x0), .val (.int x1), .val (.int x2), .val (.int x3), .val (.int x4), .val (.int (1 : Int32)), .val (.ref ee), .val (.ref ea), .val (.ref ec), .val (.long fnv0), .second, .val (.long (fnv1 (nar .byte (x1.toInt8.toInt32)))), .second, .val (.long (fnv2 (nar .byte (x1.toInt8.toInt32)) (nar .byte (x4.toInt8.toInt32)))), .second, .val (.long (((fnv1 (nar .byte (x1.toInt8.toInt32))) ^^^ (((x4 &&& (255 : Int32))).toInt64)) * (1099511628211 : Int64))), .second] [(.int (1 : Int32))])) _
      exact k
    obtain ⟨fs, hr, hrun, hended, hW, hsame⟩ := X55.leave (hlocks := hlk) (v := some (.int (1 : Int32))) (fun h => by rw [Bd.returns] at h; cases h)
    refine ⟨_, _, pre61 _ (retN X55 hx (t := .boolean) Bd.returns (by simp) (hb hby at_91) hr), hrun, hended, _, _, rfl, ?_, ⟨_, rfl⟩, hW, hsame.mono (by decide) (by decide)⟩
    show Q0 Z x0 x1 x2 x3 x4 h0 n0 _ T55.heap _
    rw [hh55]
    exact ⟨rfl, N55⟩
  · skip
    subst hq3
    have pre62 : Go p e below (s₁.setTop (entryFrame m #[(.int x0), (.int x1), (.int x2), (.int x3), (.int x4)] maxLocals)) (s₁.setTop (mkF m 6 #[.val (.int x0), .val (.int x1), .val (.int x2), .val (.int x3), .val (.int x4), .val (.int (2 : Int32)), .unset, .unset, .unset, .unset, .unset, .unset, .unset, .unset, .unset, .unset, .unset] [(.int (0 : Int32))])) := by
      intro t k
      refine pre2 t ?_
      show Steps p.tables e below (s₁.setTop (mkF m 3 #[.val (.int x0), .val (.int x1), .val (.int x2), .val (.int x3), .val (.int x4), .unset, .unset, .unset, .unset, .unset, .unset, .unset, .unset, .unset, .unset, .unset, .unset] [(.int (2 : Int32))])) _
      refine XS.istore X0.here hx rfl (hb hby at_3) rfl (l' := #[.val (.int x0), .val (.int x1), .val (.int x2), .val (.int x3), .val (.int x4), .val (.int (2 : Int32)), .unset, .unset, .unset, .unset, .unset, .unset, .unset, .unset, .unset, .unset, .unset]) rfl ?_
      show Steps p.tables e below (s₁.setTop (mkF m 5 #[.val (.int x0), .val (.int x1), .val (.int x2), .val (.int x3), .val (.int x4), .val (.int (2 : Int32)), .unset, .unset, .unset, .unset, .unset, .unset, .unset, .unset, .unset, .unset, .unset] [])) _
      refine XS.iconst X0.here hx rfl (hb hby at_5) ?_
      show Steps p.tables e below (s₁.setTop (mkF m 6 #[.val (.int x0), .val (.int x1), .val (.int x2), .val (.int x3), .val (.int x4), .val (.int (2 : Int32)), .unset, .unset, .unset, .unset, .unset, .unset, .unset, .unset, .unset, .unset, .unset] [(.int (0 : Int32))])) _
      exact k
    obtain ⟨T63, h63, k63, X63, e63, E63, A63, st63⟩ := newP X0 hx hZ (hw _ (List.mem_of_getElem? (i := 0) rfl)) e0 (g := (mkF m 6 #[.val (.int x0), .val (.int x1), .val (.int x2), .val (.int x3), .val (.int x4), .val (.int (2 : Int32)), .unset, .unset, .unset, .unset, .unset, .unset, .unset, .unset, .unset, .unset, .unset] [(.int (0 : Int32))])) rfl (hb hby at_6) rfl (by decide) (cap := 0) (by decide) (by decide) (by decide) (by decide)
    obtain ⟨ee, g63⟩ : ∃ z, z = h0.size := ⟨_, rfl⟩
    rw [← g63] at A63 st63
    have zz64 := (Nat.le_trans Z0 E63.1)
    have V_ee : Arv Z h63 ee k63 .byte (0 : Int32) [] (.int (0 : Int32)) := (Arv.new A63 (by decide)).pad (pad_rep [] (.int (0 : Int32)) 0)
    have g_ee : n0 ≤ ee := Nat.le_trans Z0 (Nat.le_of_eq g63.symm)
    have pre65 : Go p e below (s₁.setTop (entryFrame m #[(.int x0), (.int x1), (.int x2), (.int x3), (.int x4)] maxLocals)) (T63.setTop (mkF m 8 #[.val (.int x0), .val (.int x1), .val (.int x2), .val (.int x3), .val (.int x4), .val (.int (2 : Int32)), .unset, .unset, .unset, .unset, .unset, .unset, .unset, .unset, .unset, .unset, .unset] [(.ref ee)])) := fun t k => pre62 t (st63 t k)
    have pre66 : Go p e below (s₁.setTop (entryFrame m #[(.int x0), (.int x1), (.int x2), (.int x3), (.int x4)] maxLocals)) (T63.setTop (mkF m 15 #[.val (.int x0), .val (.int x1), .val (.int x2), .val (.int x3), .val (.int x4), .val (.int (2 : Int32)), .val (.ref ee), .unset, .unset, .unset, .unset, .unset, .unset, .unset, .unset, .unset, .unset] [(.int x3), (.int x2), (.int x1), (.int (2 : Int32))])) := by
      intro t k
      refine pre65 t ?_
      show Steps p.tables e below (T63.setTop (mkF m 8 #[.val (.int x0), .val (.int x1), .val (.int x2), .val (.int x3), .val (.int x4), .val (.int (2 : Int32)), .unset, .unset, .unset, .unset, .unset, .unset, .unset, .unset, .unset, .unset, .unset] [(.ref ee)])) _
      refine XS.astore X63.here hx rfl (hb hby at_8) rfl rfl (l' := #[.val (.int x0), .val (.int x1), .val (.int x2), .val (.int x3), .val (.int x4), .val (.int (2 : Int32)), .val (.ref ee), .unset, .unset, .unset, .unset, .unset, .unset, .unset, .unset, .unset, .unset]) rfl ?_
      show Steps p.tables e below (T63.setTop (mkF m 10 #[.val (.int x0), .val (.int x1), .val (.int x2), .val (.int x3), .val (.int x4), .val (.int (2 : Int32)), .val (.ref ee), .unset, .unset, .unset, .unset, .unset, .unset, .unset, .unset, .unset, .unset] [])) _
      refine XS.iload X63.here hx rfl (hb hby at_10) rfl ?_
      show Steps p.tables e below (T63.setTop (mkF m 12 #[.val (.int x0), .val (.int x1), .val (.int x2), .val (.int x3), .val (.int x4), .val (.int (2 : Int32)), .val (.ref ee), .unset, .unset, .unset, .unset, .unset, .unset, .unset, .unset, .unset, .unset] [(.int (2 : Int32))])) _
      refine XS.iloadN X63.here hx rfl (hb hby at_12) rfl ?_
      show Steps p.tables e below (T63.setTop (mkF m 13 #[.val (.int x0), .val (.int x1), .val (.int x2), .val (.int x3), .val (.int x4), .val (.int (2 : Int32)), .val (.ref ee), .unset, .unset, .unset, .unset, .unset, .unset, .unset, .unset, .unset, .unset] [(.int x1), (.int (2 : Int32))])) _
      refine XS.iloadN X63.here hx rfl (hb hby at_13) rfl ?_
      show Steps p.tables e below (T63.setTop (mkF m 14 #[.val (.int x0), .val (.int x1), .val (.int x2), .val (.int x3), .val (.int x4), .val (.int (2 : Int32)), .val (.ref ee), .unset, .unset, .unset, .unset, .unset, .unset, .unset, .unset, .unset, .unset] [(.int x2), (.int x1), (.int (2 : Int32))])) _
      refine XS.iloadN X63.here hx rfl (hb hby at_14) rfl ?_
      show Steps p.tables e below (T63.setTop (mkF m 15 #[.val (.int x0), .val (.int x1), .val (.int x2), .val (.int x3), .val (.int x4), .val (.int (2 : Int32)), .val (.ref ee), .unset, .unset, .unset, .unset, .unset, .unset, .unset, .unset, .unset, .unset] [(.int x3), (.int x2), (.int x1), (.int (2 : Int32))])) _
      exact k
    obtain ⟨_, _, ⟨T67, L67, k67, n67⟩, -, X67, ⟨Lc67, hQ67, l67, y67, z67⟩, st67⟩ := Jvm.LawKit.callS X63 hx (y := (⟨"com/example/seshat/seshat/filter/ProbeFnv1aPinLaw", "prefix", "(IIII)[B"⟩ : MethodName)) hown (mvT hZ (hw _ (List.mem_of_getElem? (i := 1) rfl))) (mvT hZ (hw _ (List.mem_of_getElem? (i := 2) rfl))) (mvT hZ (hw _ (List.mem_of_getElem? (i := 3) rfl))) (mvT hZ (hw _ (List.mem_of_getElem? (i := 4) rfl))) (by decide) (backOf (W := 0) (rm1_2 l Z a0 hw [] x1 x2 x3  h63 n0 zz64 ) hZ (hw _ (List.mem_of_getElem? (i := 4) rfl)) (hw _ (List.mem_of_getElem? (i := 3) rfl)) (by decide) (by decide)) (g := (mkF m 15 #[.val (.int x0), .val (.int x1), .val (.int x2), .val (.int x3), .val (.int x4), .val (.int (2 : Int32)), .val (.ref ee), .unset, .unset, .unset, .unset, .unset, .unset, .unset, .unset, .unset, .unset] [(.int x3), (.int x2), (.int x1), (.int (2 : Int32))])) rfl (by rw [hml]; rfl) (argsL := [(.int (2 : Int32)), (.int x1), (.int x2), (.int x3)]) (rest := []) (lenOf pd_3 rfl) rfl (by show 2 * 0 + _ ≤ _; exact Nat.le_of_eq rfl) (hb hby at_15) (fun _ _ => ⟨rfl, e63, (by decide : 1 + 1 ≤ _), (by decide : 0 + 4 ≤ _)⟩)
    dsimp only [Pt.U, Pt.locs, Pt.cells, Pt.slots] at X67 l67 y67 z67 st67 hQ67
    subst l67 y67 z67
    obtain ⟨ea, k_ea, rfl, g_ea, N67q, K67, V_ea⟩ := hQ67
    have N67 := Fr.app N0 N67q
    have kc68 := V_ee.keep K67 nin0
    have zz69 := Nat.le_trans zz64 K67.1
    have pre70 : Go p e below (s₁.setTop (entryFrame m #[(.int x0), (.int x1), (.int x2), (.int x3), (.int x4)] maxLocals)) (T67.setTop (mkF m 18 #[.val (.int x0), .val (.int x1), .val (.int x2), .val (.int x3), .val (.int x4), .val (.int (2 : Int32)), .val (.ref ee), .unset, .unset, .unset, .unset, .unset, .unset, .unset, .unset, .unset, .unset] [(.ref ea)])) := fun t k => pre66 t (st67 t k)
    have pre71 : Go p e below (s₁.setTop (entryFrame m #[(.int x0), (.int x1), (.int x2), (.int x3), (.int x4)] maxLocals)) (T67.setTop (mkF m 27 #[.val (.int x0), .val (.int x1), .val (.int x2), .val (.int x3), .val (.int x4), .val (.int (2 : Int32)), .val (.ref ee), .val (.ref ea), .unset, .unset, .unset, .unset, .unset, .unset, .unset, .unset, .unset] [(.int x4), (.int x3), (.int x2), (.int x1), (.int (2 : Int32))])) := by
      intro t k
      refine pre70 t ?_
      show Steps p.tables e below (T67.setTop (mkF m 18 #[.val (.int x0), .val (.int x1), .val (.int x2), .val (.int x3), .val (.int x4), .val (.int (2 : Int32)), .val (.ref ee), .unset, .unset, .unset, .unset, .unset, .unset, .unset, .unset, .unset, .unset] [(.ref ea)])) _
      refine XS.astore X67.here hx rfl (hb hby at_18) rfl rfl (l' := #[.val (.int x0), .val (.int x1), .val (.int x2), .val (.int x3), .val (.int x4), .val (.int (2 : Int32)), .val (.ref ee), .val (.ref ea), .unset, .unset, .unset, .unset, .unset, .unset, .unset, .unset, .unset]) rfl ?_
      show Steps p.tables e below (T67.setTop (mkF m 20 #[.val (.int x0), .val (.int x1), .val (.int x2), .val (.int x3), .val (.int x4), .val (.int (2 : Int32)), .val (.ref ee), .val (.ref ea), .unset, .unset, .unset, .unset, .unset, .unset, .unset, .unset, .unset] [])) _
      refine XS.iload X67.here hx rfl (hb hby at_20) rfl ?_
      show Steps p.tables e below (T67.setTop (mkF m 22 #[.val (.int x0), .val (.int x1), .val (.int x2), .val (.int x3), .val (.int x4), .val (.int (2 : Int32)), .val (.ref ee), .val (.ref ea), .unset, .unset, .unset, .unset, .unset, .unset, .unset, .unset, .unset] [(.int (2 : Int32))])) _
      refine XS.iloadN X67.here hx rfl (hb hby at_22) rfl ?_
      show Steps p.tables e below (T67.setTop (mkF m 23 #[.val (.int x0), .val (.int x1), .val (.int x2), .val (.int x3), .val (.int x4), .val (.int (2 : Int32)), .val (.ref ee), .val (.ref ea), .unset, .unset, .unset, .unset, .unset, .unset, .unset, .unset, .unset] [(.int x1), (.int (2 : Int32))])) _
      refine XS.iloadN X67.here hx rfl (hb hby at_23) rfl ?_
      show Steps p.tables e below (T67.setTop (mkF m 24 #[.val (.int x0), .val (.int x1), .val (.int x2), .val (.int x3), .val (.int x4), .val (.int (2 : Int32)), .val (.ref ee), .val (.ref ea), .unset, .unset, .unset, .unset, .unset, .unset, .unset, .unset, .unset] [(.int x2), (.int x1), (.int (2 : Int32))])) _
      refine XS.iloadN X67.here hx rfl (hb hby at_24) rfl ?_
      show Steps p.tables e below (T67.setTop (mkF m 25 #[.val (.int x0), .val (.int x1), .val (.int x2), .val (.int x3), .val (.int x4), .val (.int (2 : Int32)), .val (.ref ee), .val (.ref ea), .unset, .unset, .unset, .unset, .unset, .unset, .unset, .unset, .unset] [(.int x3), (.int x2), (.int x1), (.int (2 : Int32))])) _
      refine XS.iload X67.here hx rfl (hb hby at_25) rfl ?_
      show Steps p.tables e below (T67.setTop (mkF m 27 #[.val (.int x0), .val (.int x1), .val (.int x2), .val (.int x3), .val (.int x4), .val (.int (2 : Int32)), .val (.ref ee), .val (.ref ea), .unset, .unset, .unset, .unset, .unset, .unset, .unset, .unset, .unset] [(.int x4), (.int x3), (.int x2), (.int x1), (.int (2 : Int32))])) _
      exact k
    obtain ⟨_, _, ⟨T72, L72, k72, n72⟩, -, X72, ⟨Lc72, hQ72, l72, y72, z72⟩, st72⟩ := Jvm.LawKit.callS X67 hx (y := (⟨"com/example/seshat/seshat/filter/ProbeFnv1aPinLaw", "extended", "(IIIII)[B"⟩ : MethodName)) hown (mvT hZ (hw _ (List.mem_of_getElem? (i := 5) rfl))) (mvT hZ (hw _ (List.mem_of_getElem? (i := 6) rfl))) (mvT hZ (hw _ (List.mem_of_getElem? (i := 3) rfl))) (mvT hZ (hw _ (List.mem_of_getElem? (i := 7) rfl))) (by decide) (backOf (W := 0) (rm2_2 l Z a0 hw [] x1 x2 x3 x4  T67.heap n0 zz69 ) hZ (hw _ (List.mem_of_getElem? (i := 7) rfl)) (hw _ (List.mem_of_getElem? (i := 3) rfl)) (by decide) (by decide)) (g := (mkF m 27 #[.val (.int x0), .val (.int x1), .val (.int x2), .val (.int x3), .val (.int x4), .val (.int (2 : Int32)), .val (.ref ee), .val (.ref ea), .unset, .unset, .unset, .unset, .unset, .unset, .unset, .unset, .unset] [(.int x4), (.int x3), (.int x2), (.int x1), (.int (2 : Int32))])) rfl (by rw [hml]; rfl) (argsL := [(.int (2 : Int32)), (.int x1), (.int x2), (.int x3), (.int x4)]) (rest := []) (lenOf pd_4 rfl) rfl (by show 2 * 0 + _ ≤ _; exact Nat.le_of_eq rfl) (hb hby at_27) (fun _ _ => ⟨rfl, rfl, (by decide : 2 + 1 ≤ _), (by decide : 4 + 4 ≤ _)⟩)
    dsimp only [Pt.U, Pt.locs, Pt.cells, Pt.slots] at X72 l72 y72 z72 st72 hQ72
    subst l72 y72 z72
    obtain ⟨ec, k_ec, rfl, g_ec, N72q, K72, V_ec⟩ := hQ72
    have N72 := Fr.app N67 N72q
    have kc73 := kc68.keep K72 nin0
    have kc74 := V_ea.keep K72 nin0
    have zz75 := Nat.le_trans zz69 K72.1
    have pre76 : Go p e below (s₁.setTop (entryFrame m #[(.int x0), (.int x1), (.int x2), (.int x3), (.int x4)] maxLocals)) (T72.setTop (mkF m 30 #[.val (.int x0), .val (.int x1), .val (.int x2), .val (.int x3), .val (.int x4), .val (.int (2 : Int32)), .val (.ref ee), .val (.ref ea), .unset, .unset, .unset, .unset, .unset, .unset, .unset, .unset, .unset] [(.ref ec)])) := fun t k => pre71 t (st72 t k)
    have pre77 : Go p e below (s₁.setTop (entryFrame m #[(.int x0), (.int x1), (.int x2), (.int x3), (.int x4)] maxLocals)) (T72.setTop (mkF m 34 #[.val (.int x0), .val (.int x1), .val (.int x2), .val (.int x3), .val (.int x4), .val (.int (2 : Int32)), .val (.ref ee), .val (.ref ea), .val (.ref ec), .unset, .unset, .unset, .unset, .unset, .unset, .unset, .unset] [(.ref ee)])) := by
      intro t k
      refine pre76 t ?_
      show Steps p.tables e below (T72.setTop (mkF m 30 #[.val (.int x0), .val (.int x1), .val (.int x2), .val (.int x3), .val (.int x4), .val (.int (2 : Int32)), .val (.ref ee), .val (.ref ea), .unset, .unset, .unset, .unset, .unset, .unset, .unset, .unset, .unset] [(.ref ec)])) _
      refine XS.astore X72.here hx rfl (hb hby at_30) rfl rfl (l' := #[.val (.int x0), .val (.int x1), .val (.int x2), .val (.int x3), .val (.int x4), .val (.int (2 : Int32)), .val (.ref ee), .val (.ref ea), .val (.ref ec), .unset, .unset, .unset, .unset, .unset, .unset, .unset, .unset]) rfl ?_
      show Steps p.tables e below (T72.setTop (mkF m 32 #[.val (.int x0), .val (.int x1), .val (.int x2), .val (.int x3), .val (.int x4), .val (.int (2 : Int32)), .val (.ref ee), .val (.ref ea), .val (.ref ec), .unset, .unset, .unset, .unset, .unset, .unset, .unset, .unset] [])) _
      refine XS.aload X72.here hx rfl (hb hby at_32) rfl rfl ?_
      show Steps p.tables e below (T72.setTop (mkF m 34 #[.val (.int x0), .val (.int x1), .val (.int x2), .val (.int x3), .val (.int x4), .val (.int (2 : Int32)), .val (.ref ee), .val (.ref ea), .val (.ref ec), .unset, .unset, .unset, .unset, .unset, .unset, .unset, .unset] [(.ref ee)])) _
      exact k
    obtain ⟨_, _, ⟨T78, L78, k78, n78⟩, -, X78, ⟨Lc78, hQ78, l78, y78, z78⟩, st78⟩ := Jvm.LawKit.callS X72 hx (y := (⟨"com/example/seshat/seshat/filter/Probe", "fnv1a", "([B)J"⟩ : MethodName)) hown (mvT hZ (hw _ (List.mem_of_getElem? (i := 8) rfl))) (mvT hZ (hw _ (List.mem_of_getElem? (i := 9) rfl))) (mvT hZ (hw _ (List.mem_of_getElem? (i := 10) rfl))) (mvT hZ (hw _ (List.mem_of_getElem? (i := 11) rfl))) (by decide) (backOf (W := 0) (rm3_0 l Z a0 hw [] ee k63 T72.heap n0 zz75 kc73) hZ (hw _ (List.mem_of_getElem? (i := 11) rfl)) (hw _ (List.mem_of_getElem? (i := 10) rfl)) (by decide) (by decide)) (g := (mkF m 34 #[.val (.int x0), .val (.int x1), .val (.int x2), .val (.int x3), .val (.int x4), .val (.int (2 : Int32)), .val (.ref ee), .val (.ref ea), .val (.ref ec), .unset, .unset, .unset, .unset, .unset, .unset, .unset, .unset] [(.ref ee)])) rfl (by rw [hml]; rfl) (argsL := [(.ref ee)]) (rest := []) (lenOf pd_5 rfl) rfl (by show 2 * 0 + _ ≤ _; exact Nat.le_of_eq rfl) (hb hby at_34) (fun _ _ => ⟨rfl, rfl, (by decide : 3 + 0 ≤ _), (by decide : 8 + 0 ≤ _)⟩)
    dsimp only [Pt.U, Pt.locs, Pt.cells, Pt.slots] at X78 l78 y78 z78 st78 hQ78
    subst l78 y78 z78
    obtain ⟨rfl, N78q, hh78⟩ := hQ78
    have N78 := Fr.app N72 N78q
    have pre79 : Go p e below (s₁.setTop (entryFrame m #[(.int x0), (.int x1), (.int x2), (.int x3), (.int x4)] maxLocals)) (T78.setTop (mkF m 37 #[.val (.int x0), .val (.int x1), .val (.int x2), .val (.int x3), .val (.int x4), .val (.int (2 : Int32)), .val (.ref ee), .val (.ref ea), .val (.ref ec), .unset, .unset, .unset, .unset, .unset, .unset, .unset, .unset] [(.long fnv0)])) := fun t k => pre77 t (st78 t k)
    have pre80 : Go p e below (s₁.setTop (entryFrame m #[(.int x0), (.int x1), (.int x2), (.int x3), (.int x4)] maxLocals)) (T78.setTop (mkF m 41 #[.val (.int x0), .val (.int x1), .val (.int x2), .val (.int x3), .val (.int x4), .val (.int (2 : Int32)), .val (.ref ee), .val (.ref ea), .val (.ref ec), .val (.long fnv0), .second, .unset, .unset, .unset, .unset, .unset, .unset] [(.ref ea)])) := by
      intro t k
      refine pre79 t ?_
      show Steps p.tables e below (T78.setTop (mkF m 37 #[.val (.int x0), .val (.int x1), .val (.int x2), .val (.int x3), .val (.int x4), .val (.int (2 : Int32)), .val (.ref ee), .val (.ref ea), .val (.ref ec), .unset, .unset, .unset, .unset, .unset, .unset, .unset, .unset] [(.long fnv0)])) _
      refine XT.lstore X78.here hx rfl (hb hby at_37) rfl (l' := #[.val (.int x0), .val (.int x1), .val (.int x2), .val (.int x3), .val (.int x4), .val (.int (2 : Int32)), .val (.ref ee), .val (.ref ea), .val (.ref ec), .val (.long fnv0), .second, .unset, .unset, .unset, .unset, .unset, .unset]) rfl ?_
      show Steps p.tables e below (T78.setTop (mkF m 39 #[.val (.int x0), .val (.int x1), .val (.int x2), .val (.int x3), .val (.int x4), .val (.int (2 : Int32)), .val (.ref ee), .val (.ref ea), .val (.ref ec), .val (.long fnv0), .second, .unset, .unset, .unset, .unset, .unset, .unset] [])) _
      refine XS.aload X78.here hx rfl (hb hby at_39) rfl rfl ?_
      show Steps p.tables e below (T78.setTop (mkF m 41 #[.val (.int x0), .val (.int x1), .val (.int x2), .val (.int x3), .val (.int x4), .val (.int (2 : Int32)), .val (.ref ee), .val (.ref ea), .val (.ref ec), .val (.long fnv0), .second, .unset, .unset, .unset, .unset, .unset, .unset] [(.ref ea)])) _
      exact k
    obtain ⟨_, _, ⟨T81, L81, k81, n81⟩, -, X81, ⟨Lc81, hQ81, l81, y81, z81⟩, st81⟩ := Jvm.LawKit.callS X78 hx (y := (⟨"com/example/seshat/seshat/filter/Probe", "fnv1a", "([B)J"⟩ : MethodName)) hown (mvT hZ (hw _ (List.mem_of_getElem? (i := 8) rfl))) (mvT hZ (hw _ (List.mem_of_getElem? (i := 9) rfl))) (mvT hZ (hw _ (List.mem_of_getElem? (i := 10) rfl))) (mvT hZ (hw _ (List.mem_of_getElem? (i := 11) rfl))) (by decide) (backOf (W := 0) (rm3_2 l Z a0 hw [] ea k_ea (nar .byte (x1.toInt8.toInt32)) (nar .byte (x2.toInt8.toInt32)) T72.heap n0 zz75 kc74) hZ (hw _ (List.mem_of_getElem? (i := 11) rfl)) (hw _ (List.mem_of_getElem? (i := 10) rfl)) (by decide) (by decide)) (g := (mkF m 41 #[.val (.int x0), .val (.int x1), .val (.int x2), .val (.int x3), .val (.int x4), .val (.int (2 : Int32)), .val (.ref ee), .val (.ref ea), .val (.ref ec), .val (.long fnv0), .second, .unset, .unset, .unset, .unset, .unset, .unset] [(.ref ea)])) rfl (by rw [hml]; rfl) (argsL := [(.ref ea)]) (rest := []) (lenOf pd_5 rfl) rfl (by show 2 * 0 + _ ≤ _; exact Nat.le_of_eq rfl) (hb hby at_41) (fun _ _ => ⟨rfl, hh78, (by decide : 3 + 0 ≤ _), (by decide : 8 + 0 ≤ _)⟩)
    dsimp only [Pt.U, Pt.locs, Pt.cells, Pt.slots] at X81 l81 y81 z81 st81 hQ81
    subst l81 y81 z81
    obtain ⟨rfl, N81q, hh81⟩ := hQ81
    have N81 := Fr.app N78 N81q
    have pre82 : Go p e below (s₁.setTop (entryFrame m #[(.int x0), (.int x1), (.int x2), (.int x3), (.int x4)] maxLocals)) (T81.setTop (mkF m 44 #[.val (.int x0), .val (.int x1), .val (.int x2), .val (.int x3), .val (.int x4), .val (.int (2 : Int32)), .val (.ref ee), .val (.ref ea), .val (.ref ec), .val (.long fnv0), .second, .unset, .unset, .unset, .unset, .unset, .unset] [(.long (fnv2 (nar .byte (x1.toInt8.toInt32)) (nar .byte (x2.toInt8.toInt32))))])) := fun t k => pre80 t (st81 t k)
    have pre83 : Go p e below (s₁.setTop (entryFrame m #[(.int x0), (.int x1), (.int x2), (.int x3), (.int x4)] maxLocals)) (T81.setTop (mkF m 48 #[.val (.int x0), .val (.int x1), .val (.int x2), .val (.int x3), .val (.int x4), .val (.int (2 : Int32)), .val (.ref ee), .val (.ref ea), .val (.ref ec), .val (.long fnv0), .second, .val (.long (fnv2 (nar .byte (x1.toInt8.toInt32)) (nar .byte (x2.toInt8.toInt32)))), .second, .unset, .unset, .unset, .unset] [(.ref ec)])) := by
      intro t k
      refine pre82 t ?_
      show Steps p.tables e below (T81.setTop (mkF m 44 #[.val (.int x0), .val (.int x1), .val (.int x2), .val (.int x3), .val (.int x4), .val (.int (2 : Int32)), .val (.ref ee), .val (.ref ea), .val (.ref ec), .val (.long fnv0), .second, .unset, .unset, .unset, .unset, .unset, .unset] [(.long (fnv2 (nar .byte (x1.toInt8.toInt32)) (nar .byte (x2.toInt8.toInt32))))])) _
      refine XT.lstore X81.here hx rfl (hb hby at_44) rfl (l' := #[.val (.int x0), .val (.int x1), .val (.int x2), .val (.int x3), .val (.int x4), .val (.int (2 : Int32)), .val (.ref ee), .val (.ref ea), .val (.ref ec), .val (.long fnv0), .second, .val (.long (fnv2 (nar .byte (x1.toInt8.toInt32)) (nar .byte (x2.toInt8.toInt32)))), .second, .unset, .unset, .unset, .unset]) rfl ?_
      show Steps p.tables e below (T81.setTop (mkF m 46 #[.val (.int x0), .val (.int x1), .val (.int x2), .val (.int x3), .val (.int x4), .val (.int (2 : Int32)), .val (.ref ee), .val (.ref ea), .val (.ref ec), .val (.long fnv0), .second, .val (.long (fnv2 (nar .byte (x1.toInt8.toInt32)) (nar .byte (x2.toInt8.toInt32)))), .second, .unset, .unset, .unset, .unset] [])) _
      refine XS.aload X81.here hx rfl (hb hby at_46) rfl rfl ?_
      show Steps p.tables e below (T81.setTop (mkF m 48 #[.val (.int x0), .val (.int x1), .val (.int x2), .val (.int x3), .val (.int x4), .val (.int (2 : Int32)), .val (.ref ee), .val (.ref ea), .val (.ref ec), .val (.long fnv0), .second, .val (.long (fnv2 (nar .byte (x1.toInt8.toInt32)) (nar .byte (x2.toInt8.toInt32)))), .second, .unset, .unset, .unset, .unset] [(.ref ec)])) _
      exact k
    obtain ⟨_, _, ⟨T84, L84, k84, n84⟩, -, X84, ⟨Lc84, hQ84, l84, y84, z84⟩, st84⟩ := Jvm.LawKit.callS X81 hx (y := (⟨"com/example/seshat/seshat/filter/Probe", "fnv1a", "([B)J"⟩ : MethodName)) hown (mvT hZ (hw _ (List.mem_of_getElem? (i := 8) rfl))) (mvT hZ (hw _ (List.mem_of_getElem? (i := 9) rfl))) (mvT hZ (hw _ (List.mem_of_getElem? (i := 10) rfl))) (mvT hZ (hw _ (List.mem_of_getElem? (i := 11) rfl))) (by decide) (backOf (W := 0) (rm3_3 l Z a0 hw [] ec k_ec (nar .byte (x1.toInt8.toInt32)) (nar .byte (x2.toInt8.toInt32)) (nar .byte (x4.toInt8.toInt32)) T72.heap n0 zz75 V_ec) hZ (hw _ (List.mem_of_getElem? (i := 11) rfl)) (hw _ (List.mem_of_getElem? (i := 10) rfl)) (by decide) (by decide)) (g := (mkF m 48 #[.val (.int x0), .val (.int x1), .val (.int x2), .val (.int x3), .val (.int x4), .val (.int (2 : Int32)), .val (.ref ee), .val (.ref ea), .val (.ref ec), .val (.long fnv0), .second, .val (.long (fnv2 (nar .byte (x1.toInt8.toInt32)) (nar .byte (x2.toInt8.toInt32)))), .second, .unset, .unset, .unset, .unset] [(.ref ec)])) rfl (by rw [hml]; rfl) (argsL := [(.ref ec)]) (rest := []) (lenOf pd_5 rfl) rfl (by show 2 * 0 + _ ≤ _; exact Nat.le_of_eq rfl) (hb hby at_48) (fun _ _ => ⟨rfl, hh81, (by decide : 3 + 0 ≤ _), (by decide : 8 + 0 ≤ _)⟩)
    dsimp only [Pt.U, Pt.locs, Pt.cells, Pt.slots] at X84 l84 y84 z84 st84 hQ84
    subst l84 y84 z84
    obtain ⟨rfl, N84q, hh84⟩ := hQ84
    have N84 := Fr.app N81 N84q
    have pre85 : Go p e below (s₁.setTop (entryFrame m #[(.int x0), (.int x1), (.int x2), (.int x3), (.int x4)] maxLocals)) (T84.setTop (mkF m 51 #[.val (.int x0), .val (.int x1), .val (.int x2), .val (.int x3), .val (.int x4), .val (.int (2 : Int32)), .val (.ref ee), .val (.ref ea), .val (.ref ec), .val (.long fnv0), .second, .val (.long (fnv2 (nar .byte (x1.toInt8.toInt32)) (nar .byte (x2.toInt8.toInt32)))), .second, .unset, .unset, .unset, .unset] [(.long (fnv3 (nar .byte (x1.toInt8.toInt32)) (nar .byte (x2.toInt8.toInt32)) (nar .byte (x4.toInt8.toInt32))))])) := fun t k => pre83 t (st84 t k)
    have pre86 : Go p e below (s₁.setTop (entryFrame m #[(.int x0), (.int x1), (.int x2), (.int x3), (.int x4)] maxLocals)) (T84.setTop (mkF m 75 #[.val (.int x0), .val (.int x1), .val (.int x2), .val (.int x3), .val (.int x4), .val (.int (2 : Int32)), .val (.ref ee), .val (.ref ea), .val (.ref ec), .val (.long fnv0), .second, .val (.long (fnv2 (nar .byte (x1.toInt8.toInt32)) (nar .byte (x2.toInt8.toInt32)))), .second, .val (.long (fnv3 (nar .byte (x1.toInt8.toInt32)) (nar .byte (x2.toInt8.toInt32)) (nar .byte (x4.toInt8.toInt32)))), .second, .val (.long (((fnv2 (nar .byte (x1.toInt8.toInt32)) (nar .byte (x2.toInt8.toInt32))) ^^^ (((x4 &&& (255 : Int32))).toInt64)) * (1099511628211 : Int64))), .second] [(.int (XT.cmpL fnv0 (-3750763034362895579 : Int64)))])) := by
      intro t k
      refine pre85 t ?_
      show Steps p.tables e below (T84.setTop (mkF m 51 #[.val (.int x0), .val (.int x1), .val (.int x2), .val (.int x3), .val (.int x4), .val (.int (2 : Int32)), .val (.ref ee), .val (.ref ea), .val (.ref ec), .val (.long fnv0), .second, .val (.long (fnv2 (nar .byte (x1.toInt8.toInt32)) (nar .byte (x2.toInt8.toInt32)))), .second, .unset, .unset, .unset, .unset] [(.long (fnv3 (nar .byte (x1.toInt8.toInt32)) (nar .byte (x2.toInt8.toInt32)) (nar .byte (x4.toInt8.toInt32))))])) _
      refine XT.lstore X84.here hx rfl (hb hby at_51) rfl (l' := #[.val (.int x0), .val (.int x1), .val (.int x2), .val (.int x3), .val (.int x4), .val (.int (2 : Int32)), .val (.ref ee), .val (.ref ea), .val (.ref ec), .val (.long fnv0), .second, .val (.long (fnv2 (nar .byte (x1.toInt8.toInt32)) (nar .byte (x2.toInt8.toInt32)))), .second, .val (.long (fnv3 (nar .byte (x1.toInt8.toInt32)) (nar .byte (x2.toInt8.toInt32)) (nar .byte (x4.toInt8.toInt32)))), .second, .unset, .unset]) rfl ?_
      show Steps p.tables e below (T84.setTop (mkF m 53 #[.val (.int x0), .val (.int x1), .val (.int x2), .val (.int x3), .val (.int x4), .val (.int (2 : Int32)), .val (.ref ee), .val (.ref ea), .val (.ref ec), .val (.long fnv0), .second, .val (.long (fnv2 (nar .byte (x1.toInt8.toInt32)) (nar .byte (x2.toInt8.toInt32)))), .second, .val (.long (fnv3 (nar .byte (x1.toInt8.toInt32)) (nar .byte (x2.toInt8.toInt32)) (nar .byte (x4.toInt8.toInt32)))), .second, .unset, .unset] [])) _
      refine XT.lload X84.here hx rfl (hb hby at_53) rfl ?_
      show Steps p.tables e below (T84.setTop (mkF m 55 #[.val (.int x0), .val (.int x1), .val (.int x2), .val (.int x3), .val (.int x4), .val (.int (2 : Int32)), .val (.ref ee), .val (.ref ea), .val (.ref ec), .val (.long fnv0), .second, .val (.long (fnv2 (nar .byte (x1.toInt8.toInt32)) (nar .byte (x2.toInt8.toInt32)))), .second, .val (.long (fnv3 (nar .byte (x1.toInt8.toInt32)) (nar .byte (x2.toInt8.toInt32)) (nar .byte (x4.toInt8.toInt32)))), .second, .unset, .unset] [(.long (fnv2 (nar .byte (x1.toInt8.toInt32)) (nar .byte (x2.toInt8.toInt32))))])) _
      refine XS.iload X84.here hx rfl (hb hby at_55) rfl ?_
      show Steps p.tables e below (T84.setTop (mkF m 57 #[.val (.int x0), .val (.int x1), .val (.int x2), .val (.int x3), .val (.int x4), .val (.int (2 : Int32)), .val (.ref ee), .val (.ref ea), .val (.ref ec), .val (.long fnv0), .second, .val (.long (fnv2 (nar .byte (x1.toInt8.toInt32)) (nar .byte (x2.toInt8.toInt32)))), .second, .val (.long (fnv3 (nar .byte (x1.toInt8.toInt32)) (nar .byte (x2.toInt8.toInt32)) (nar .byte (x4.toInt8.toInt32)))), .second, .unset, .unset] [(.int x4), (.long (fnv2 (nar .byte (x1.toInt8.toInt32)) (nar .byte (x2.toInt8.toInt32))))])) _
      refine XS.sipush X84.here hx rfl (hb hby at_57) ?_
      show Steps p.tables e below (T84.setTop (mkF m 60 #[.val (.int x0), .val (.int x1), .val (.int x2), .val (.int x3), .val (.int x4), .val (.int (2 : Int32)), .val (.ref ee), .val (.ref ea), .val (.ref ec), .val (.long fnv0), .second, .val (.long (fnv2 (nar .byte (x1.toInt8.toInt32)) (nar .byte (x2.toInt8.toInt32)))), .second, .val (.long (fnv3 (nar .byte (x1.toInt8.toInt32)) (nar .byte (x2.toInt8.toInt32)) (nar .byte (x4.toInt8.toInt32)))), .second, .unset, .unset] [(.int (255 : Int32)), (.int x4), (.long (fnv2 (nar .byte (x1.toInt8.toInt32)) (nar .byte (x2.toInt8.toInt32))))])) _
      refine XS.iand X84.here hx rfl (hb hby at_60) rfl ?_
      show Steps p.tables e below (T84.setTop (mkF m 61 #[.val (.int x0), .val (.int x1), .val (.int x2), .val (.int x3), .val (.int x4), .val (.int (2 : Int32)), .val (.ref ee), .val (.ref ea), .val (.ref ec), .val (.long fnv0), .second, .val (.long (fnv2 (nar .byte (x1.toInt8.toInt32)) (nar .byte (x2.toInt8.toInt32)))), .second, .val (.long (fnv3 (nar .byte (x1.toInt8.toInt32)) (nar .byte (x2.toInt8.toInt32)) (nar .byte (x4.toInt8.toInt32)))), .second, .unset, .unset] [(.int (x4 &&& (255 : Int32))), (.long (fnv2 (nar .byte (x1.toInt8.toInt32)) (nar .byte (x2.toInt8.toInt32))))])) _
      refine XS.i2l X84.here hx rfl (hb hby at_61) rfl ?_
      show Steps p.tables e below (T84.setTop (mkF m 62 #[.val (.int x0), .val (.int x1), .val (.int x2), .val (.int x3), .val (.int x4), .val (.int (2 : Int32)), .val (.ref ee), .val (.ref ea), .val (.ref ec), .val (.long fnv0), .second, .val (.long (fnv2 (nar .byte (x1.toInt8.toInt32)) (nar .byte (x2.toInt8.toInt32)))), .second, .val (.long (fnv3 (nar .byte (x1.toInt8.toInt32)) (nar .byte (x2.toInt8.toInt32)) (nar .byte (x4.toInt8.toInt32)))), .second, .unset, .unset] [(.long (((x4 &&& (255 : Int32))).toInt64)), (.long (fnv2 (nar .byte (x1.toInt8.toInt32)) (nar .byte (x2.toInt8.toInt32))))])) _
      refine XS.lxor X84.here hx rfl (hb hby at_62) rfl ?_
      show Steps p.tables e below (T84.setTop (mkF m 63 #[.val (.int x0), .val (.int x1), .val (.int x2), .val (.int x3), .val (.int x4), .val (.int (2 : Int32)), .val (.ref ee), .val (.ref ea), .val (.ref ec), .val (.long fnv0), .second, .val (.long (fnv2 (nar .byte (x1.toInt8.toInt32)) (nar .byte (x2.toInt8.toInt32)))), .second, .val (.long (fnv3 (nar .byte (x1.toInt8.toInt32)) (nar .byte (x2.toInt8.toInt32)) (nar .byte (x4.toInt8.toInt32)))), .second, .unset, .unset] [(.long ((fnv2 (nar .byte (x1.toInt8.toInt32)) (nar .byte (x2.toInt8.toInt32))) ^^^ (((x4 &&& (255 : Int32))).toInt64)))])) _
      refine X84.ldc2J hx hown (mvT hZ (hw _ (List.mem_of_getElem? (i := 14) rfl))) (g := (mkF m 63 #[.val (.int x0), .val (.int x1), .val (.int x2), .val (.int x3), .val (.int x4), .val (.int (2 : Int32)), .val (.ref ee), .val (.ref ea), .val (.ref ec), .val (.long fnv0), .second, .val (.long (fnv2 (nar .byte (x1.toInt8.toInt32)) (nar .byte (x2.toInt8.toInt32)))), .second, .val (.long (fnv3 (nar .byte (x1.toInt8.toInt32)) (nar .byte (x2.toInt8.toInt32)) (nar .byte (x4.toInt8.toInt32)))), .second, .unset, .unset] [(.long ((fnv2 (nar .byte (x1.toInt8.toInt32)) (nar .byte (x2.toInt8.toInt32))) ^^^ (((x4 &&& (255 : Int32))).toInt64)))])) rfl (hb hby at_63) ?_
      show Steps p.tables e below (T84.setTop (mkF m 66 #[.val (.int x0), .val (.int x1), .val (.int x2), .val (.int x3), .val (.int x4), .val (.int (2 : Int32)), .val (.ref ee), .val (.ref ea), .val (.ref ec), .val (.long fnv0), .second, .val (.long (fnv2 (nar .byte (x1.toInt8.toInt32)) (nar .byte (x2.toInt8.toInt32)))), .second, .val (.long (fnv3 (nar .byte (x1.toInt8.toInt32)) (nar .byte (x2.toInt8.toInt32)) (nar .byte (x4.toInt8.toInt32)))), .second, .unset, .unset] [(.long (1099511628211 : Int64)), (.long ((fnv2 (nar .byte (x1.toInt8.toInt32)) (nar .byte (x2.toInt8.toInt32))) ^^^ (((x4 &&& (255 : Int32))).toInt64)))])) _
      refine XS.lmul X84.here hx rfl (hb hby at_66) rfl ?_
      show Steps p.tables e below (T84.setTop (mkF m 67 #[.val (.int x0), .val (.int x1), .val (.int x2), .val (.int x3), .val (.int x4), .val (.int (2 : Int32)), .val (.ref ee), .val (.ref ea), .val (.ref ec), .val (.long fnv0), .second, .val (.long (fnv2 (nar .byte (x1.toInt8.toInt32)) (nar .byte (x2.toInt8.toInt32)))), .second, .val (.long (fnv3 (nar .byte (x1.toInt8.toInt32)) (nar .byte (x2.toInt8.toInt32)) (nar .byte (x4.toInt8.toInt32)))), .second, .unset, .unset] [(.long (((fnv2 (nar .byte (x1.toInt8.toInt32)) (nar .byte (x2.toInt8.toInt32))) ^^^ (((x4 &&& (255 : Int32))).toInt64)) * (1099511628211 : Int64)))])) _
      refine XT.lstore X84.here hx rfl (hb hby at_67) rfl (l' := #[.val (.int x0), .val (.int x1), .val (.int x2), .val (.int x3), .val (.int x4), .val (.int (2 : Int32)), .val (.ref ee), .val (.ref ea), .val (.ref ec), .val (.long fnv0), .second, .val (.long (fnv2 (nar .byte (x1.toInt8.toInt32)) (nar .byte (x2.toInt8.toInt32)))), .second, .val (.long (fnv3 (nar .byte (x1.toInt8.toInt32)) (nar .byte (x2.toInt8.toInt32)) (nar .byte (x4.toInt8.toInt32)))), .second, .val (.long (((fnv2 (nar .byte (x1.toInt8.toInt32)) (nar .byte (x2.toInt8.toInt32))) ^^^ (((x4 &&& (255 : Int32))).toInt64)) * (1099511628211 : Int64))), .second]) rfl ?_
      show Steps p.tables e below (T84.setTop (mkF m 69 #[.val (.int x0), .val (.int x1), .val (.int x2), .val (.int x3), .val (.int x4), .val (.int (2 : Int32)), .val (.ref ee), .val (.ref ea), .val (.ref ec), .val (.long fnv0), .second, .val (.long (fnv2 (nar .byte (x1.toInt8.toInt32)) (nar .byte (x2.toInt8.toInt32)))), .second, .val (.long (fnv3 (nar .byte (x1.toInt8.toInt32)) (nar .byte (x2.toInt8.toInt32)) (nar .byte (x4.toInt8.toInt32)))), .second, .val (.long (((fnv2 (nar .byte (x1.toInt8.toInt32)) (nar .byte (x2.toInt8.toInt32))) ^^^ (((x4 &&& (255 : Int32))).toInt64)) * (1099511628211 : Int64))), .second] [])) _
      refine XT.lload X84.here hx rfl (hb hby at_69) rfl ?_
      show Steps p.tables e below (T84.setTop (mkF m 71 #[.val (.int x0), .val (.int x1), .val (.int x2), .val (.int x3), .val (.int x4), .val (.int (2 : Int32)), .val (.ref ee), .val (.ref ea), .val (.ref ec), .val (.long fnv0), .second, .val (.long (fnv2 (nar .byte (x1.toInt8.toInt32)) (nar .byte (x2.toInt8.toInt32)))), .second, .val (.long (fnv3 (nar .byte (x1.toInt8.toInt32)) (nar .byte (x2.toInt8.toInt32)) (nar .byte (x4.toInt8.toInt32)))), .second, .val (.long (((fnv2 (nar .byte (x1.toInt8.toInt32)) (nar .byte (x2.toInt8.toInt32))) ^^^ (((x4 &&& (255 : Int32))).toInt64)) * (1099511628211 : Int64))), .second] [(.long fnv0)])) _
      refine X84.ldc2J hx hown (mvT hZ (hw _ (List.mem_of_getElem? (i := 15) rfl))) (g := (mkF m 71 #[.val (.int x0), .val (.int x1), .val (.int x2), .val (.int x3), .val (.int x4), .val (.int (2 : Int32)), .val (.ref ee), .val (.ref ea), .val (.ref ec), .val (.long fnv0), .second, .val (.long (fnv2 (nar .byte (x1.toInt8.toInt32)) (nar .byte (x2.toInt8.toInt32)))), .second, .val (.long (fnv3 (nar .byte (x1.toInt8.toInt32)) (nar .byte (x2.toInt8.toInt32)) (nar .byte (x4.toInt8.toInt32)))), .second, .val (.long (((fnv2 (nar .byte (x1.toInt8.toInt32)) (nar .byte (x2.toInt8.toInt32))) ^^^ (((x4 &&& (255 : Int32))).toInt64)) * (1099511628211 : Int64))), .second] [(.long fnv0)])) rfl (hb hby at_71) ?_
      show Steps p.tables e below (T84.setTop (mkF m 74 #[.val (.int x0), .val (.int x1), .val (.int x2), .val (.int x3), .val (.int x4), .val (.int (2 : Int32)), .val (.ref ee), .val (.ref ea), .val (.ref ec), .val (.long fnv0), .second, .val (.long (fnv2 (nar .byte (x1.toInt8.toInt32)) (nar .byte (x2.toInt8.toInt32)))), .second, .val (.long (fnv3 (nar .byte (x1.toInt8.toInt32)) (nar .byte (x2.toInt8.toInt32)) (nar .byte (x4.toInt8.toInt32)))), .second, .val (.long (((fnv2 (nar .byte (x1.toInt8.toInt32)) (nar .byte (x2.toInt8.toInt32))) ^^^ (((x4 &&& (255 : Int32))).toInt64)) * (1099511628211 : Int64))), .second] [(.long (-3750763034362895579 : Int64)), (.long fnv0)])) _
      refine XT.lcmp X84.here hx rfl (hb hby at_74) rfl ?_
      show Steps p.tables e below (T84.setTop (mkF m 75 #[.val (.int x0), .val (.int x1), .val (.int x2), .val (.int x3), .val (.int x4), .val (.int (2 : Int32)), .val (.ref ee), .val (.ref ea), .val (.ref ec), .val (.long fnv0), .second, .val (.long (fnv2 (nar .byte (x1.toInt8.toInt32)) (nar .byte (x2.toInt8.toInt32)))), .second, .val (.long (fnv3 (nar .byte (x1.toInt8.toInt32)) (nar .byte (x2.toInt8.toInt32)) (nar .byte (x4.toInt8.toInt32)))), .second, .val (.long (((fnv2 (nar .byte (x1.toInt8.toInt32)) (nar .byte (x2.toInt8.toInt32))) ^^^ (((x4 &&& (255 : Int32))).toInt64)) * (1099511628211 : Int64))), .second] [(.int (XT.cmpL fnv0 (-3750763034362895579 : Int64)))])) _
      exact k
    have hc75_87 : fnv0 = (-3750763034362895579 : Int64) := by
      rfl
    have pre88 : Go p e below (s₁.setTop (entryFrame m #[(.int x0), (.int x1), (.int x2), (.int x3), (.int x4)] maxLocals)) (T84.setTop (mkF m 83 #[.val (.int x0), .val (.int x1), .val (.int x2), .val (.int x3), .val (.int x4), .val (.int (2 : Int32)), .val (.ref ee), .val (.ref ea), .val (.ref ec), .val (.long fnv0), .second, .val (.long (fnv2 (nar .byte (x1.toInt8.toInt32)) (nar .byte (x2.toInt8.toInt32)))), .second, .val (.long (fnv3 (nar .byte (x1.toInt8.toInt32)) (nar .byte (x2.toInt8.toInt32)) (nar .byte (x4.toInt8.toInt32)))), .second, .val (.long (((fnv2 (nar .byte (x1.toInt8.toInt32)) (nar .byte (x2.toInt8.toInt32))) ^^^ (((x4 &&& (255 : Int32))).toInt64)) * (1099511628211 : Int64))), .second] [(.int (XT.cmpL (fnv3 (nar .byte (x1.toInt8.toInt32)) (nar .byte (x2.toInt8.toInt32)) (nar .byte (x4.toInt8.toInt32))) (((fnv2 (nar .byte (x1.toInt8.toInt32)) (nar .byte (x2.toInt8.toInt32))) ^^^ (((x4 &&& (255 : Int32))).toInt64)) * (1099511628211 : Int64))))])) := by
      intro t k
      refine pre86 t ?_
      show Steps p.tables e below (T84.setTop (mkF m 75 #[.val (.int x0), .val (.int x1), .val (.int x2), .val (.int x3), .val (.int x4), .val (.int (2 : Int32)), .val (.ref ee), .val (.ref ea), .val (.ref ec), .val (.long fnv0), .second, .val (.long (fnv2 (nar .byte (x1.toInt8.toInt32)) (nar .byte (x2.toInt8.toInt32)))), .second, .val (.long (fnv3 (nar .byte (x1.toInt8.toInt32)) (nar .byte (x2.toInt8.toInt32)) (nar .byte (x4.toInt8.toInt32)))), .second, .val (.long (((fnv2 (nar .byte (x1.toInt8.toInt32)) (nar .byte (x2.toInt8.toInt32))) ^^^ (((x4 &&& (255 : Int32))).toInt64)) * (1099511628211 : Int64))), .second] [(.int (XT.cmpL fnv0 (-3750763034362895579 : Int64)))])) _
      refine XS.ifNo X84.here hx rfl (hb hby at_75) rfl (XT.ll_ne_f hc75_87) ?_
      show Steps p.tables e below (T84.setTop (mkF m 78 #[.val (.int x0), .val (.int x1), .val (.int x2), .val (.int x3), .val (.int x4), .val (.int (2 : Int32)), .val (.ref ee), .val (.ref ea), .val (.ref ec), .val (.long fnv0), .second, .val (.long (fnv2 (nar .byte (x1.toInt8.toInt32)) (nar .byte (x2.toInt8.toInt32)))), .second, .val (.long (fnv3 (nar .byte (x1.toInt8.toInt32)) (nar .byte (x2.toInt8.toInt32)) (nar .byte (x4.toInt8.toInt32)))), .second, .val (.long (((fnv2 (nar .byte (x1.toInt8.toInt32)) (nar .byte (x2.toInt8.toInt32))) ^^^ (((x4 &&& (255 : Int32))).toInt64)) * (1099511628211 : Int64))), .second] [])) _
      refine XT.lload X84.here hx rfl (hb hby at_78) rfl ?_
      show Steps p.tables e below (T84.setTop (mkF m 80 #[.val (.int x0), .val (.int x1), .val (.int x2), .val (.int x3), .val (.int x4), .val (.int (2 : Int32)), .val (.ref ee), .val (.ref ea), .val (.ref ec), .val (.long fnv0), .second, .val (.long (fnv2 (nar .byte (x1.toInt8.toInt32)) (nar .byte (x2.toInt8.toInt32)))), .second, .val (.long (fnv3 (nar .byte (x1.toInt8.toInt32)) (nar .byte (x2.toInt8.toInt32)) (nar .byte (x4.toInt8.toInt32)))), .second, .val (.long (((fnv2 (nar .byte (x1.toInt8.toInt32)) (nar .byte (x2.toInt8.toInt32))) ^^^ (((x4 &&& (255 : Int32))).toInt64)) * (1099511628211 : Int64))), .second] [(.long (fnv3 (nar .byte (x1.toInt8.toInt32)) (nar .byte (x2.toInt8.toInt32)) (nar .byte (x4.toInt8.toInt32))))])) _
      refine XT.lload X84.here hx rfl (hb hby at_80) rfl ?_
      show Steps p.tables e below (T84.setTop (mkF m 82 #[.val (.int x0), .val (.int x1), .val (.int x2), .val (.int x3), .val (.int x4), .val (.int (2 : Int32)), .val (.ref ee), .val (.ref ea), .val (.ref ec), .val (.long fnv0), .second, .val (.long (fnv2 (nar .byte (x1.toInt8.toInt32)) (nar .byte (x2.toInt8.toInt32)))), .second, .val (.long (fnv3 (nar .byte (x1.toInt8.toInt32)) (nar .byte (x2.toInt8.toInt32)) (nar .byte (x4.toInt8.toInt32)))), .second, .val (.long (((fnv2 (nar .byte (x1.toInt8.toInt32)) (nar .byte (x2.toInt8.toInt32))) ^^^ (((x4 &&& (255 : Int32))).toInt64)) * (1099511628211 : Int64))), .second] [(.long (((fnv2 (nar .byte (x1.toInt8.toInt32)) (nar .byte (x2.toInt8.toInt32))) ^^^ (((x4 &&& (255 : Int32))).toInt64)) * (1099511628211 : Int64))), (.long (fnv3 (nar .byte (x1.toInt8.toInt32)) (nar .byte (x2.toInt8.toInt32)) (nar .byte (x4.toInt8.toInt32))))])) _
      refine XT.lcmp X84.here hx rfl (hb hby at_82) rfl ?_
      show Steps p.tables e below (T84.setTop (mkF m 83 #[.val (.int x0), .val (.int x1), .val (.int x2), .val (.int x3), .val (.int x4), .val (.int (2 : Int32)), .val (.ref ee), .val (.ref ea), .val (.ref ec), .val (.long fnv0), .second, .val (.long (fnv2 (nar .byte (x1.toInt8.toInt32)) (nar .byte (x2.toInt8.toInt32)))), .second, .val (.long (fnv3 (nar .byte (x1.toInt8.toInt32)) (nar .byte (x2.toInt8.toInt32)) (nar .byte (x4.toInt8.toInt32)))), .second, .val (.long (((fnv2 (nar .byte (x1.toInt8.toInt32)) (nar .byte (x2.toInt8.toInt32))) ^^^ (((x4 &&& (255 : Int32))).toInt64)) * (1099511628211 : Int64))), .second] [(.int (XT.cmpL (fnv3 (nar .byte (x1.toInt8.toInt32)) (nar .byte (x2.toInt8.toInt32)) (nar .byte (x4.toInt8.toInt32))) (((fnv2 (nar .byte (x1.toInt8.toInt32)) (nar .byte (x2.toInt8.toInt32))) ^^^ (((x4 &&& (255 : Int32))).toInt64)) * (1099511628211 : Int64))))])) _
      exact k
    have hc83_89 : (fnv3 (nar .byte (x1.toInt8.toInt32)) (nar .byte (x2.toInt8.toInt32)) (nar .byte (x4.toInt8.toInt32))) = (((fnv2 (nar .byte (x1.toInt8.toInt32)) (nar .byte (x2.toInt8.toInt32))) ^^^ (((x4 &&& (255 : Int32))).toInt64)) * (1099511628211 : Int64)) := by
      rw [← own_byte x4]; rfl
    have pre90 : Go p e below (s₁.setTop (entryFrame m #[(.int x0), (.int x1), (.int x2), (.int x3), (.int x4)] maxLocals)) (T84.setTop (mkF m 91 #[.val (.int x0), .val (.int x1), .val (.int x2), .val (.int x3), .val (.int x4), .val (.int (2 : Int32)), .val (.ref ee), .val (.ref ea), .val (.ref ec), .val (.long fnv0), .second, .val (.long (fnv2 (nar .byte (x1.toInt8.toInt32)) (nar .byte (x2.toInt8.toInt32)))), .second, .val (.long (fnv3 (nar .byte (x1.toInt8.toInt32)) (nar .byte (x2.toInt8.toInt32)) (nar .byte (x4.toInt8.toInt32)))), .second, .val (.long (((fnv2 (nar .byte (x1.toInt8.toInt32)) (nar .byte (x2.toInt8.toInt32))) ^^^ (((x4 &&& (255 : Int32))).toInt64)) * (1099511628211 : Int64))), .second] [(.int (1 : Int32))])) := by
      intro t k
      refine pre88 t ?_
      show Steps p.tables e below (T84.setTop (mkF m 83 #[.val (.int x0), .val (.int x1), .val (.int x2), .val (.int x3), .val (.int x4), .val (.int (2 : Int32)), .val (.ref ee), .val (.ref ea), .val (.ref ec), .val (.long fnv0), .second, .val (.long (fnv2 (nar .byte (x1.toInt8.toInt32)) (nar .byte (x2.toInt8.toInt32)))), .second, .val (.long (fnv3 (nar .byte (x1.toInt8.toInt32)) (nar .byte (x2.toInt8.toInt32)) (nar .byte (x4.toInt8.toInt32)))), .second, .val (.long (((fnv2 (nar .byte (x1.toInt8.toInt32)) (nar .byte (x2.toInt8.toInt32))) ^^^ (((x4 &&& (255 : Int32))).toInt64)) * (1099511628211 : Int64))), .second] [(.int (XT.cmpL (fnv3 (nar .byte (x1.toInt8.toInt32)) (nar .byte (x2.toInt8.toInt32)) (nar .byte (x4.toInt8.toInt32))) (((fnv2 (nar .byte (x1.toInt8.toInt32)) (nar .byte (x2.toInt8.toInt32))) ^^^ (((x4 &&& (255 : Int32))).toInt64)) * (1099511628211 : Int64))))])) _
      refine XS.ifNo X84.here hx rfl (hb hby at_83) rfl (XT.ll_ne_f hc83_89) ?_
      show Steps p.tables e below (T84.setTop (mkF m 86 #[.val (.int x0), .val (.int x1), .val (.int x2), .val (.int x3), .val (.int x4), .val (.int (2 : Int32)), .val (.ref ee), .val (.ref ea), .val (.ref ec), .val (.long fnv0), .second, .val (.long (fnv2 (nar .byte (x1.toInt8.toInt32)) (nar .byte (x2.toInt8.toInt32)))), .second, .val (.long (fnv3 (nar .byte (x1.toInt8.toInt32)) (nar .byte (x2.toInt8.toInt32)) (nar .byte (x4.toInt8.toInt32)))), .second, .val (.long (((fnv2 (nar .byte (x1.toInt8.toInt32)) (nar .byte (x2.toInt8.toInt32))) ^^^ (((x4 &&& (255 : Int32))).toInt64)) * (1099511628211 : Int64))), .second] [])) _
      refine XS.iconst X84.here hx rfl (hb hby at_86) ?_
      show Steps p.tables e below (T84.setTop (mkF m 87 #[.val (.int x0), .val (.int x1), .val (.int x2), .val (.int x3), .val (.int x4), .val (.int (2 : Int32)), .val (.ref ee), .val (.ref ea), .val (.ref ec), .val (.long fnv0), .second, .val (.long (fnv2 (nar .byte (x1.toInt8.toInt32)) (nar .byte (x2.toInt8.toInt32)))), .second, .val (.long (fnv3 (nar .byte (x1.toInt8.toInt32)) (nar .byte (x2.toInt8.toInt32)) (nar .byte (x4.toInt8.toInt32)))), .second, .val (.long (((fnv2 (nar .byte (x1.toInt8.toInt32)) (nar .byte (x2.toInt8.toInt32))) ^^^ (((x4 &&& (255 : Int32))).toInt64)) * (1099511628211 : Int64))), .second] [(.int (1 : Int32))])) _
      refine XS.goto X84.here hx rfl (pc0 := 87) (pc' := 91) rfl (hb hby at_87) (by decide) (by decide) ?_
      show Steps p.tables e below (T84.setTop (mkF m 91 #[.val (.int x0), .val (.int x1), .val (.int x2), .val (.int x3), .val (.int x4), .val (.int (2 : Int32)), .val (.ref ee), .val (.ref ea), .val (.ref ec), .val (.long fnv0), .second, .val (.long (fnv2 (nar .byte (x1.toInt8.toInt32)) (nar .byte (x2.toInt8.toInt32)))), .second, .val (.long (fnv3 (nar .byte (x1.toInt8.toInt32)) (nar .byte (x2.toInt8.toInt32)) (nar .byte (x4.toInt8.toInt32)))), .second, .val (.long (((fnv2 (nar .byte (x1.toInt8.toInt32)) (nar .byte (x2.toInt8.toInt32))) ^^^ (((x4 &&& (255 : Int32))).toInt64)) * (1099511628211 : Int64))), .second] [(.int (1 : Int32))])) _
      exact k
    obtain ⟨fs, hr, hrun, hended, hW, hsame⟩ := X84.leave (hlocks := hlk) (v := some (.int (1 : Int32))) (fun h => by rw [Bd.returns] at h; cases h)
    refine ⟨_, _, pre90 _ (retN X84 hx (t := .boolean) Bd.returns (by simp) (hb hby at_91) hr), hrun, hended, _, _, rfl, ?_, ⟨_, rfl⟩, hW, hsame.mono (by decide) (by decide)⟩
    show Q0 Z x0 x1 x2 x3 x4 h0 n0 _ T84.heap _
    rw [hh84]
    exact ⟨rfl, N84⟩
  · skip
    subst hq3
    have pre91 : Go p e below (s₁.setTop (entryFrame m #[(.int x0), (.int x1), (.int x2), (.int x3), (.int x4)] maxLocals)) (s₁.setTop (mkF m 6 #[.val (.int x0), .val (.int x1), .val (.int x2), .val (.int x3), .val (.int x4), .val (.int (3 : Int32)), .unset, .unset, .unset, .unset, .unset, .unset, .unset, .unset, .unset, .unset, .unset] [(.int (0 : Int32))])) := by
      intro t k
      refine pre2 t ?_
      show Steps p.tables e below (s₁.setTop (mkF m 3 #[.val (.int x0), .val (.int x1), .val (.int x2), .val (.int x3), .val (.int x4), .unset, .unset, .unset, .unset, .unset, .unset, .unset, .unset, .unset, .unset, .unset, .unset] [(.int (3 : Int32))])) _
      refine XS.istore X0.here hx rfl (hb hby at_3) rfl (l' := #[.val (.int x0), .val (.int x1), .val (.int x2), .val (.int x3), .val (.int x4), .val (.int (3 : Int32)), .unset, .unset, .unset, .unset, .unset, .unset, .unset, .unset, .unset, .unset, .unset]) rfl ?_
      show Steps p.tables e below (s₁.setTop (mkF m 5 #[.val (.int x0), .val (.int x1), .val (.int x2), .val (.int x3), .val (.int x4), .val (.int (3 : Int32)), .unset, .unset, .unset, .unset, .unset, .unset, .unset, .unset, .unset, .unset, .unset] [])) _
      refine XS.iconst X0.here hx rfl (hb hby at_5) ?_
      show Steps p.tables e below (s₁.setTop (mkF m 6 #[.val (.int x0), .val (.int x1), .val (.int x2), .val (.int x3), .val (.int x4), .val (.int (3 : Int32)), .unset, .unset, .unset, .unset, .unset, .unset, .unset, .unset, .unset, .unset, .unset] [(.int (0 : Int32))])) _
      exact k
    obtain ⟨T92, h92, k92, X92, e92, E92, A92, st92⟩ := newP X0 hx hZ (hw _ (List.mem_of_getElem? (i := 0) rfl)) e0 (g := (mkF m 6 #[.val (.int x0), .val (.int x1), .val (.int x2), .val (.int x3), .val (.int x4), .val (.int (3 : Int32)), .unset, .unset, .unset, .unset, .unset, .unset, .unset, .unset, .unset, .unset, .unset] [(.int (0 : Int32))])) rfl (hb hby at_6) rfl (by decide) (cap := 0) (by decide) (by decide) (by decide) (by decide)
    obtain ⟨ee, g92⟩ : ∃ z, z = h0.size := ⟨_, rfl⟩
    rw [← g92] at A92 st92
    have zz93 := (Nat.le_trans Z0 E92.1)
    have V_ee : Arv Z h92 ee k92 .byte (0 : Int32) [] (.int (0 : Int32)) := (Arv.new A92 (by decide)).pad (pad_rep [] (.int (0 : Int32)) 0)
    have g_ee : n0 ≤ ee := Nat.le_trans Z0 (Nat.le_of_eq g92.symm)
    have pre94 : Go p e below (s₁.setTop (entryFrame m #[(.int x0), (.int x1), (.int x2), (.int x3), (.int x4)] maxLocals)) (T92.setTop (mkF m 8 #[.val (.int x0), .val (.int x1), .val (.int x2), .val (.int x3), .val (.int x4), .val (.int (3 : Int32)), .unset, .unset, .unset, .unset, .unset, .unset, .unset, .unset, .unset, .unset, .unset] [(.ref ee)])) := fun t k => pre91 t (st92 t k)
    have pre95 : Go p e below (s₁.setTop (entryFrame m #[(.int x0), (.int x1), (.int x2), (.int x3), (.int x4)] maxLocals)) (T92.setTop (mkF m 15 #[.val (.int x0), .val (.int x1), .val (.int x2), .val (.int x3), .val (.int x4), .val (.int (3 : Int32)), .val (.ref ee), .unset, .unset, .unset, .unset, .unset, .unset, .unset, .unset, .unset, .unset] [(.int x3), (.int x2), (.int x1), (.int (3 : Int32))])) := by
      intro t k
      refine pre94 t ?_
      show Steps p.tables e below (T92.setTop (mkF m 8 #[.val (.int x0), .val (.int x1), .val (.int x2), .val (.int x3), .val (.int x4), .val (.int (3 : Int32)), .unset, .unset, .unset, .unset, .unset, .unset, .unset, .unset, .unset, .unset, .unset] [(.ref ee)])) _
      refine XS.astore X92.here hx rfl (hb hby at_8) rfl rfl (l' := #[.val (.int x0), .val (.int x1), .val (.int x2), .val (.int x3), .val (.int x4), .val (.int (3 : Int32)), .val (.ref ee), .unset, .unset, .unset, .unset, .unset, .unset, .unset, .unset, .unset, .unset]) rfl ?_
      show Steps p.tables e below (T92.setTop (mkF m 10 #[.val (.int x0), .val (.int x1), .val (.int x2), .val (.int x3), .val (.int x4), .val (.int (3 : Int32)), .val (.ref ee), .unset, .unset, .unset, .unset, .unset, .unset, .unset, .unset, .unset, .unset] [])) _
      refine XS.iload X92.here hx rfl (hb hby at_10) rfl ?_
      show Steps p.tables e below (T92.setTop (mkF m 12 #[.val (.int x0), .val (.int x1), .val (.int x2), .val (.int x3), .val (.int x4), .val (.int (3 : Int32)), .val (.ref ee), .unset, .unset, .unset, .unset, .unset, .unset, .unset, .unset, .unset, .unset] [(.int (3 : Int32))])) _
      refine XS.iloadN X92.here hx rfl (hb hby at_12) rfl ?_
      show Steps p.tables e below (T92.setTop (mkF m 13 #[.val (.int x0), .val (.int x1), .val (.int x2), .val (.int x3), .val (.int x4), .val (.int (3 : Int32)), .val (.ref ee), .unset, .unset, .unset, .unset, .unset, .unset, .unset, .unset, .unset, .unset] [(.int x1), (.int (3 : Int32))])) _
      refine XS.iloadN X92.here hx rfl (hb hby at_13) rfl ?_
      show Steps p.tables e below (T92.setTop (mkF m 14 #[.val (.int x0), .val (.int x1), .val (.int x2), .val (.int x3), .val (.int x4), .val (.int (3 : Int32)), .val (.ref ee), .unset, .unset, .unset, .unset, .unset, .unset, .unset, .unset, .unset, .unset] [(.int x2), (.int x1), (.int (3 : Int32))])) _
      refine XS.iloadN X92.here hx rfl (hb hby at_14) rfl ?_
      show Steps p.tables e below (T92.setTop (mkF m 15 #[.val (.int x0), .val (.int x1), .val (.int x2), .val (.int x3), .val (.int x4), .val (.int (3 : Int32)), .val (.ref ee), .unset, .unset, .unset, .unset, .unset, .unset, .unset, .unset, .unset, .unset] [(.int x3), (.int x2), (.int x1), (.int (3 : Int32))])) _
      exact k
    obtain ⟨_, _, ⟨T96, L96, k96, n96⟩, -, X96, ⟨Lc96, hQ96, l96, y96, z96⟩, st96⟩ := Jvm.LawKit.callS X92 hx (y := (⟨"com/example/seshat/seshat/filter/ProbeFnv1aPinLaw", "prefix", "(IIII)[B"⟩ : MethodName)) hown (mvT hZ (hw _ (List.mem_of_getElem? (i := 1) rfl))) (mvT hZ (hw _ (List.mem_of_getElem? (i := 2) rfl))) (mvT hZ (hw _ (List.mem_of_getElem? (i := 3) rfl))) (mvT hZ (hw _ (List.mem_of_getElem? (i := 4) rfl))) (by decide) (backOf (W := 0) (rm1_3 l Z a0 hw [] x1 x2 x3  h92 n0 zz93 ) hZ (hw _ (List.mem_of_getElem? (i := 4) rfl)) (hw _ (List.mem_of_getElem? (i := 3) rfl)) (by decide) (by decide)) (g := (mkF m 15 #[.val (.int x0), .val (.int x1), .val (.int x2), .val (.int x3), .val (.int x4), .val (.int (3 : Int32)), .val (.ref ee), .unset, .unset, .unset, .unset, .unset, .unset, .unset, .unset, .unset, .unset] [(.int x3), (.int x2), (.int x1), (.int (3 : Int32))])) rfl (by rw [hml]; rfl) (argsL := [(.int (3 : Int32)), (.int x1), (.int x2), (.int x3)]) (rest := []) (lenOf pd_3 rfl) rfl (by show 2 * 0 + _ ≤ _; exact Nat.le_of_eq rfl) (hb hby at_15) (fun _ _ => ⟨rfl, e92, (by decide : 1 + 1 ≤ _), (by decide : 0 + 4 ≤ _)⟩)
    dsimp only [Pt.U, Pt.locs, Pt.cells, Pt.slots] at X96 l96 y96 z96 st96 hQ96
    subst l96 y96 z96
    obtain ⟨ea, k_ea, rfl, g_ea, N96q, K96, V_ea⟩ := hQ96
    have N96 := Fr.app N0 N96q
    have kc97 := V_ee.keep K96 nin0
    have zz98 := Nat.le_trans zz93 K96.1
    have pre99 : Go p e below (s₁.setTop (entryFrame m #[(.int x0), (.int x1), (.int x2), (.int x3), (.int x4)] maxLocals)) (T96.setTop (mkF m 18 #[.val (.int x0), .val (.int x1), .val (.int x2), .val (.int x3), .val (.int x4), .val (.int (3 : Int32)), .val (.ref ee), .unset, .unset, .unset, .unset, .unset, .unset, .unset, .unset, .unset, .unset] [(.ref ea)])) := fun t k => pre95 t (st96 t k)
    have pre100 : Go p e below (s₁.setTop (entryFrame m #[(.int x0), (.int x1), (.int x2), (.int x3), (.int x4)] maxLocals)) (T96.setTop (mkF m 27 #[.val (.int x0), .val (.int x1), .val (.int x2), .val (.int x3), .val (.int x4), .val (.int (3 : Int32)), .val (.ref ee), .val (.ref ea), .unset, .unset, .unset, .unset, .unset, .unset, .unset, .unset, .unset] [(.int x4), (.int x3), (.int x2), (.int x1), (.int (3 : Int32))])) := by
      intro t k
      refine pre99 t ?_
      show Steps p.tables e below (T96.setTop (mkF m 18 #[.val (.int x0), .val (.int x1), .val (.int x2), .val (.int x3), .val (.int x4), .val (.int (3 : Int32)), .val (.ref ee), .unset, .unset, .unset, .unset, .unset, .unset, .unset, .unset, .unset, .unset] [(.ref ea)])) _
      refine XS.astore X96.here hx rfl (hb hby at_18) rfl rfl (l' := #[.val (.int x0), .val (.int x1), .val (.int x2), .val (.int x3), .val (.int x4), .val (.int (3 : Int32)), .val (.ref ee), .val (.ref ea), .unset, .unset, .unset, .unset, .unset, .unset, .unset, .unset, .unset]) rfl ?_
      show Steps p.tables e below (T96.setTop (mkF m 20 #[.val (.int x0), .val (.int x1), .val (.int x2), .val (.int x3), .val (.int x4), .val (.int (3 : Int32)), .val (.ref ee), .val (.ref ea), .unset, .unset, .unset, .unset, .unset, .unset, .unset, .unset, .unset] [])) _
      refine XS.iload X96.here hx rfl (hb hby at_20) rfl ?_
      show Steps p.tables e below (T96.setTop (mkF m 22 #[.val (.int x0), .val (.int x1), .val (.int x2), .val (.int x3), .val (.int x4), .val (.int (3 : Int32)), .val (.ref ee), .val (.ref ea), .unset, .unset, .unset, .unset, .unset, .unset, .unset, .unset, .unset] [(.int (3 : Int32))])) _
      refine XS.iloadN X96.here hx rfl (hb hby at_22) rfl ?_
      show Steps p.tables e below (T96.setTop (mkF m 23 #[.val (.int x0), .val (.int x1), .val (.int x2), .val (.int x3), .val (.int x4), .val (.int (3 : Int32)), .val (.ref ee), .val (.ref ea), .unset, .unset, .unset, .unset, .unset, .unset, .unset, .unset, .unset] [(.int x1), (.int (3 : Int32))])) _
      refine XS.iloadN X96.here hx rfl (hb hby at_23) rfl ?_
      show Steps p.tables e below (T96.setTop (mkF m 24 #[.val (.int x0), .val (.int x1), .val (.int x2), .val (.int x3), .val (.int x4), .val (.int (3 : Int32)), .val (.ref ee), .val (.ref ea), .unset, .unset, .unset, .unset, .unset, .unset, .unset, .unset, .unset] [(.int x2), (.int x1), (.int (3 : Int32))])) _
      refine XS.iloadN X96.here hx rfl (hb hby at_24) rfl ?_
      show Steps p.tables e below (T96.setTop (mkF m 25 #[.val (.int x0), .val (.int x1), .val (.int x2), .val (.int x3), .val (.int x4), .val (.int (3 : Int32)), .val (.ref ee), .val (.ref ea), .unset, .unset, .unset, .unset, .unset, .unset, .unset, .unset, .unset] [(.int x3), (.int x2), (.int x1), (.int (3 : Int32))])) _
      refine XS.iload X96.here hx rfl (hb hby at_25) rfl ?_
      show Steps p.tables e below (T96.setTop (mkF m 27 #[.val (.int x0), .val (.int x1), .val (.int x2), .val (.int x3), .val (.int x4), .val (.int (3 : Int32)), .val (.ref ee), .val (.ref ea), .unset, .unset, .unset, .unset, .unset, .unset, .unset, .unset, .unset] [(.int x4), (.int x3), (.int x2), (.int x1), (.int (3 : Int32))])) _
      exact k
    obtain ⟨_, _, ⟨T101, L101, k101, n101⟩, -, X101, ⟨Lc101, hQ101, l101, y101, z101⟩, st101⟩ := Jvm.LawKit.callS X96 hx (y := (⟨"com/example/seshat/seshat/filter/ProbeFnv1aPinLaw", "extended", "(IIIII)[B"⟩ : MethodName)) hown (mvT hZ (hw _ (List.mem_of_getElem? (i := 5) rfl))) (mvT hZ (hw _ (List.mem_of_getElem? (i := 6) rfl))) (mvT hZ (hw _ (List.mem_of_getElem? (i := 3) rfl))) (mvT hZ (hw _ (List.mem_of_getElem? (i := 7) rfl))) (by decide) (backOf (W := 0) (rm2_3 l Z a0 hw [] x1 x2 x3 x4  T96.heap n0 zz98 ) hZ (hw _ (List.mem_of_getElem? (i := 7) rfl)) (hw _ (List.mem_of_getElem? (i := 3) rfl)) (by decide) (by decide)) (g := (mkF m 27 #[.val (.int x0), .val (.int x1), .val (.int x2), .val (.int x3), .val (.int x4), .val (.int (3 : Int32)), .val (.ref ee), .val (.ref ea), .unset, .unset, .unset, .unset, .unset, .unset, .unset, .unset, .unset] [(.int x4), (.int x3), (.int x2), (.int x1), (.int (3 : Int32))])) rfl (by rw [hml]; rfl) (argsL := [(.int (3 : Int32)), (.int x1), (.int x2), (.int x3), (.int x4)]) (rest := []) (lenOf pd_4 rfl) rfl (by show 2 * 0 + _ ≤ _; exact Nat.le_of_eq rfl) (hb hby at_27) (fun _ _ => ⟨rfl, rfl, (by decide : 2 + 1 ≤ _), (by decide : 4 + 4 ≤ _)⟩)
    dsimp only [Pt.U, Pt.locs, Pt.cells, Pt.slots] at X101 l101 y101 z101 st101 hQ101
    subst l101 y101 z101
    obtain ⟨ec, k_ec, rfl, g_ec, N101q, K101, V_ec⟩ := hQ101
    have N101 := Fr.app N96 N101q
    have kc102 := kc97.keep K101 nin0
    have kc103 := V_ea.keep K101 nin0
    have zz104 := Nat.le_trans zz98 K101.1
    have pre105 : Go p e below (s₁.setTop (entryFrame m #[(.int x0), (.int x1), (.int x2), (.int x3), (.int x4)] maxLocals)) (T101.setTop (mkF m 30 #[.val (.int x0), .val (.int x1), .val (.int x2), .val (.int x3), .val (.int x4), .val (.int (3 : Int32)), .val (.ref ee), .val (.ref ea), .unset, .unset, .unset, .unset, .unset, .unset, .unset, .unset, .unset] [(.ref ec)])) := fun t k => pre100 t (st101 t k)
    have pre106 : Go p e below (s₁.setTop (entryFrame m #[(.int x0), (.int x1), (.int x2), (.int x3), (.int x4)] maxLocals)) (T101.setTop (mkF m 34 #[.val (.int x0), .val (.int x1), .val (.int x2), .val (.int x3), .val (.int x4), .val (.int (3 : Int32)), .val (.ref ee), .val (.ref ea), .val (.ref ec), .unset, .unset, .unset, .unset, .unset, .unset, .unset, .unset] [(.ref ee)])) := by
      intro t k
      refine pre105 t ?_
      show Steps p.tables e below (T101.setTop (mkF m 30 #[.val (.int x0), .val (.int x1), .val (.int x2), .val (.int x3), .val (.int x4), .val (.int (3 : Int32)), .val (.ref ee), .val (.ref ea), .unset, .unset, .unset, .unset, .unset, .unset, .unset, .unset, .unset] [(.ref ec)])) _
      refine XS.astore X101.here hx rfl (hb hby at_30) rfl rfl (l' := #[.val (.int x0), .val (.int x1), .val (.int x2), .val (.int x3), .val (.int x4), .val (.int (3 : Int32)), .val (.ref ee), .val (.ref ea), .val (.ref ec), .unset, .unset, .unset, .unset, .unset, .unset, .unset, .unset]) rfl ?_
      show Steps p.tables e below (T101.setTop (mkF m 32 #[.val (.int x0), .val (.int x1), .val (.int x2), .val (.int x3), .val (.int x4), .val (.int (3 : Int32)), .val (.ref ee), .val (.ref ea), .val (.ref ec), .unset, .unset, .unset, .unset, .unset, .unset, .unset, .unset] [])) _
      refine XS.aload X101.here hx rfl (hb hby at_32) rfl rfl ?_
      show Steps p.tables e below (T101.setTop (mkF m 34 #[.val (.int x0), .val (.int x1), .val (.int x2), .val (.int x3), .val (.int x4), .val (.int (3 : Int32)), .val (.ref ee), .val (.ref ea), .val (.ref ec), .unset, .unset, .unset, .unset, .unset, .unset, .unset, .unset] [(.ref ee)])) _
      exact k
    obtain ⟨_, _, ⟨T107, L107, k107, n107⟩, -, X107, ⟨Lc107, hQ107, l107, y107, z107⟩, st107⟩ := Jvm.LawKit.callS X101 hx (y := (⟨"com/example/seshat/seshat/filter/Probe", "fnv1a", "([B)J"⟩ : MethodName)) hown (mvT hZ (hw _ (List.mem_of_getElem? (i := 8) rfl))) (mvT hZ (hw _ (List.mem_of_getElem? (i := 9) rfl))) (mvT hZ (hw _ (List.mem_of_getElem? (i := 10) rfl))) (mvT hZ (hw _ (List.mem_of_getElem? (i := 11) rfl))) (by decide) (backOf (W := 0) (rm3_0 l Z a0 hw [] ee k92 T101.heap n0 zz104 kc102) hZ (hw _ (List.mem_of_getElem? (i := 11) rfl)) (hw _ (List.mem_of_getElem? (i := 10) rfl)) (by decide) (by decide)) (g := (mkF m 34 #[.val (.int x0), .val (.int x1), .val (.int x2), .val (.int x3), .val (.int x4), .val (.int (3 : Int32)), .val (.ref ee), .val (.ref ea), .val (.ref ec), .unset, .unset, .unset, .unset, .unset, .unset, .unset, .unset] [(.ref ee)])) rfl (by rw [hml]; rfl) (argsL := [(.ref ee)]) (rest := []) (lenOf pd_5 rfl) rfl (by show 2 * 0 + _ ≤ _; exact Nat.le_of_eq rfl) (hb hby at_34) (fun _ _ => ⟨rfl, rfl, (by decide : 3 + 0 ≤ _), (by decide : 8 + 0 ≤ _)⟩)
    dsimp only [Pt.U, Pt.locs, Pt.cells, Pt.slots] at X107 l107 y107 z107 st107 hQ107
    subst l107 y107 z107
    obtain ⟨rfl, N107q, hh107⟩ := hQ107
    have N107 := Fr.app N101 N107q
    have pre108 : Go p e below (s₁.setTop (entryFrame m #[(.int x0), (.int x1), (.int x2), (.int x3), (.int x4)] maxLocals)) (T107.setTop (mkF m 37 #[.val (.int x0), .val (.int x1), .val (.int x2), .val (.int x3), .val (.int x4), .val (.int (3 : Int32)), .val (.ref ee), .val (.ref ea), .val (.ref ec), .unset, .unset, .unset, .unset, .unset, .unset, .unset, .unset] [(.long fnv0)])) := fun t k => pre106 t (st107 t k)
    have pre109 : Go p e below (s₁.setTop (entryFrame m #[(.int x0), (.int x1), (.int x2), (.int x3), (.int x4)] maxLocals)) (T107.setTop (mkF m 41 #[.val (.int x0), .val (.int x1), .val (.int x2), .val (.int x3), .val (.int x4), .val (.int (3 : Int32)), .val (.ref ee), .val (.ref ea), .val (.ref ec), .val (.long fnv0), .second, .unset, .unset, .unset, .unset, .unset, .unset] [(.ref ea)])) := by
      intro t k
      refine pre108 t ?_
      show Steps p.tables e below (T107.setTop (mkF m 37 #[.val (.int x0), .val (.int x1), .val (.int x2), .val (.int x3), .val (.int x4), .val (.int (3 : Int32)), .val (.ref ee), .val (.ref ea), .val (.ref ec), .unset, .unset, .unset, .unset, .unset, .unset, .unset, .unset] [(.long fnv0)])) _
      refine XT.lstore X107.here hx rfl (hb hby at_37) rfl (l' := #[.val (.int x0), .val (.int x1), .val (.int x2), .val (.int x3), .val (.int x4), .val (.int (3 : Int32)), .val (.ref ee), .val (.ref ea), .val (.ref ec), .val (.long fnv0), .second, .unset, .unset, .unset, .unset, .unset, .unset]) rfl ?_
      show Steps p.tables e below (T107.setTop (mkF m 39 #[.val (.int x0), .val (.int x1), .val (.int x2), .val (.int x3), .val (.int x4), .val (.int (3 : Int32)), .val (.ref ee), .val (.ref ea), .val (.ref ec), .val (.long fnv0), .second, .unset, .unset, .unset, .unset, .unset, .unset] [])) _
      refine XS.aload X107.here hx rfl (hb hby at_39) rfl rfl ?_
      show Steps p.tables e below (T107.setTop (mkF m 41 #[.val (.int x0), .val (.int x1), .val (.int x2), .val (.int x3), .val (.int x4), .val (.int (3 : Int32)), .val (.ref ee), .val (.ref ea), .val (.ref ec), .val (.long fnv0), .second, .unset, .unset, .unset, .unset, .unset, .unset] [(.ref ea)])) _
      exact k
    obtain ⟨_, _, ⟨T110, L110, k110, n110⟩, -, X110, ⟨Lc110, hQ110, l110, y110, z110⟩, st110⟩ := Jvm.LawKit.callS X107 hx (y := (⟨"com/example/seshat/seshat/filter/Probe", "fnv1a", "([B)J"⟩ : MethodName)) hown (mvT hZ (hw _ (List.mem_of_getElem? (i := 8) rfl))) (mvT hZ (hw _ (List.mem_of_getElem? (i := 9) rfl))) (mvT hZ (hw _ (List.mem_of_getElem? (i := 10) rfl))) (mvT hZ (hw _ (List.mem_of_getElem? (i := 11) rfl))) (by decide) (backOf (W := 0) (rm3_3 l Z a0 hw [] ea k_ea (nar .byte (x1.toInt8.toInt32)) (nar .byte (x2.toInt8.toInt32)) (nar .byte (x3.toInt8.toInt32)) T101.heap n0 zz104 kc103) hZ (hw _ (List.mem_of_getElem? (i := 11) rfl)) (hw _ (List.mem_of_getElem? (i := 10) rfl)) (by decide) (by decide)) (g := (mkF m 41 #[.val (.int x0), .val (.int x1), .val (.int x2), .val (.int x3), .val (.int x4), .val (.int (3 : Int32)), .val (.ref ee), .val (.ref ea), .val (.ref ec), .val (.long fnv0), .second, .unset, .unset, .unset, .unset, .unset, .unset] [(.ref ea)])) rfl (by rw [hml]; rfl) (argsL := [(.ref ea)]) (rest := []) (lenOf pd_5 rfl) rfl (by show 2 * 0 + _ ≤ _; exact Nat.le_of_eq rfl) (hb hby at_41) (fun _ _ => ⟨rfl, hh107, (by decide : 3 + 0 ≤ _), (by decide : 8 + 0 ≤ _)⟩)
    dsimp only [Pt.U, Pt.locs, Pt.cells, Pt.slots] at X110 l110 y110 z110 st110 hQ110
    subst l110 y110 z110
    obtain ⟨rfl, N110q, hh110⟩ := hQ110
    have N110 := Fr.app N107 N110q
    have pre111 : Go p e below (s₁.setTop (entryFrame m #[(.int x0), (.int x1), (.int x2), (.int x3), (.int x4)] maxLocals)) (T110.setTop (mkF m 44 #[.val (.int x0), .val (.int x1), .val (.int x2), .val (.int x3), .val (.int x4), .val (.int (3 : Int32)), .val (.ref ee), .val (.ref ea), .val (.ref ec), .val (.long fnv0), .second, .unset, .unset, .unset, .unset, .unset, .unset] [(.long (fnv3 (nar .byte (x1.toInt8.toInt32)) (nar .byte (x2.toInt8.toInt32)) (nar .byte (x3.toInt8.toInt32))))])) := fun t k => pre109 t (st110 t k)
    have pre112 : Go p e below (s₁.setTop (entryFrame m #[(.int x0), (.int x1), (.int x2), (.int x3), (.int x4)] maxLocals)) (T110.setTop (mkF m 48 #[.val (.int x0), .val (.int x1), .val (.int x2), .val (.int x3), .val (.int x4), .val (.int (3 : Int32)), .val (.ref ee), .val (.ref ea), .val (.ref ec), .val (.long fnv0), .second, .val (.long (fnv3 (nar .byte (x1.toInt8.toInt32)) (nar .byte (x2.toInt8.toInt32)) (nar .byte (x3.toInt8.toInt32)))), .second, .unset, .unset, .unset, .unset] [(.ref ec)])) := by
      intro t k
      refine pre111 t ?_
      show Steps p.tables e below (T110.setTop (mkF m 44 #[.val (.int x0), .val (.int x1), .val (.int x2), .val (.int x3), .val (.int x4), .val (.int (3 : Int32)), .val (.ref ee), .val (.ref ea), .val (.ref ec), .val (.long fnv0), .second, .unset, .unset, .unset, .unset, .unset, .unset] [(.long (fnv3 (nar .byte (x1.toInt8.toInt32)) (nar .byte (x2.toInt8.toInt32)) (nar .byte (x3.toInt8.toInt32))))])) _
      refine XT.lstore X110.here hx rfl (hb hby at_44) rfl (l' := #[.val (.int x0), .val (.int x1), .val (.int x2), .val (.int x3), .val (.int x4), .val (.int (3 : Int32)), .val (.ref ee), .val (.ref ea), .val (.ref ec), .val (.long fnv0), .second, .val (.long (fnv3 (nar .byte (x1.toInt8.toInt32)) (nar .byte (x2.toInt8.toInt32)) (nar .byte (x3.toInt8.toInt32)))), .second, .unset, .unset, .unset, .unset]) rfl ?_
      show Steps p.tables e below (T110.setTop (mkF m 46 #[.val (.int x0), .val (.int x1), .val (.int x2), .val (.int x3), .val (.int x4), .val (.int (3 : Int32)), .val (.ref ee), .val (.ref ea), .val (.ref ec), .val (.long fnv0), .second, .val (.long (fnv3 (nar .byte (x1.toInt8.toInt32)) (nar .byte (x2.toInt8.toInt32)) (nar .byte (x3.toInt8.toInt32)))), .second, .unset, .unset, .unset, .unset] [])) _
      refine XS.aload X110.here hx rfl (hb hby at_46) rfl rfl ?_
      show Steps p.tables e below (T110.setTop (mkF m 48 #[.val (.int x0), .val (.int x1), .val (.int x2), .val (.int x3), .val (.int x4), .val (.int (3 : Int32)), .val (.ref ee), .val (.ref ea), .val (.ref ec), .val (.long fnv0), .second, .val (.long (fnv3 (nar .byte (x1.toInt8.toInt32)) (nar .byte (x2.toInt8.toInt32)) (nar .byte (x3.toInt8.toInt32)))), .second, .unset, .unset, .unset, .unset] [(.ref ec)])) _
      exact k
    obtain ⟨_, _, ⟨T113, L113, k113, n113⟩, -, X113, ⟨Lc113, hQ113, l113, y113, z113⟩, st113⟩ := Jvm.LawKit.callS X110 hx (y := (⟨"com/example/seshat/seshat/filter/Probe", "fnv1a", "([B)J"⟩ : MethodName)) hown (mvT hZ (hw _ (List.mem_of_getElem? (i := 8) rfl))) (mvT hZ (hw _ (List.mem_of_getElem? (i := 9) rfl))) (mvT hZ (hw _ (List.mem_of_getElem? (i := 10) rfl))) (mvT hZ (hw _ (List.mem_of_getElem? (i := 11) rfl))) (by decide) (backOf (W := 0) (rm3_4 l Z a0 hw [] ec k_ec (nar .byte (x1.toInt8.toInt32)) (nar .byte (x2.toInt8.toInt32)) (nar .byte (x3.toInt8.toInt32)) (nar .byte (x4.toInt8.toInt32)) T101.heap n0 zz104 V_ec) hZ (hw _ (List.mem_of_getElem? (i := 11) rfl)) (hw _ (List.mem_of_getElem? (i := 10) rfl)) (by decide) (by decide)) (g := (mkF m 48 #[.val (.int x0), .val (.int x1), .val (.int x2), .val (.int x3), .val (.int x4), .val (.int (3 : Int32)), .val (.ref ee), .val (.ref ea), .val (.ref ec), .val (.long fnv0), .second, .val (.long (fnv3 (nar .byte (x1.toInt8.toInt32)) (nar .byte (x2.toInt8.toInt32)) (nar .byte (x3.toInt8.toInt32)))), .second, .unset, .unset, .unset, .unset] [(.ref ec)])) rfl (by rw [hml]; rfl) (argsL := [(.ref ec)]) (rest := []) (lenOf pd_5 rfl) rfl (by show 2 * 0 + _ ≤ _; exact Nat.le_of_eq rfl) (hb hby at_48) (fun _ _ => ⟨rfl, hh110, (by decide : 3 + 0 ≤ _), (by decide : 8 + 0 ≤ _)⟩)
    dsimp only [Pt.U, Pt.locs, Pt.cells, Pt.slots] at X113 l113 y113 z113 st113 hQ113
    subst l113 y113 z113
    obtain ⟨rfl, N113q, hh113⟩ := hQ113
    have N113 := Fr.app N110 N113q
    have pre114 : Go p e below (s₁.setTop (entryFrame m #[(.int x0), (.int x1), (.int x2), (.int x3), (.int x4)] maxLocals)) (T113.setTop (mkF m 51 #[.val (.int x0), .val (.int x1), .val (.int x2), .val (.int x3), .val (.int x4), .val (.int (3 : Int32)), .val (.ref ee), .val (.ref ea), .val (.ref ec), .val (.long fnv0), .second, .val (.long (fnv3 (nar .byte (x1.toInt8.toInt32)) (nar .byte (x2.toInt8.toInt32)) (nar .byte (x3.toInt8.toInt32)))), .second, .unset, .unset, .unset, .unset] [(.long (fnv4 (nar .byte (x1.toInt8.toInt32)) (nar .byte (x2.toInt8.toInt32)) (nar .byte (x3.toInt8.toInt32)) (nar .byte (x4.toInt8.toInt32))))])) := fun t k => pre112 t (st113 t k)
    have pre115 : Go p e below (s₁.setTop (entryFrame m #[(.int x0), (.int x1), (.int x2), (.int x3), (.int x4)] maxLocals)) (T113.setTop (mkF m 75 #[.val (.int x0), .val (.int x1), .val (.int x2), .val (.int x3), .val (.int x4), .val (.int (3 : Int32)), .val (.ref ee), .val (.ref ea), .val (.ref ec), .val (.long fnv0), .second, .val (.long (fnv3 (nar .byte (x1.toInt8.toInt32)) (nar .byte (x2.toInt8.toInt32)) (nar .byte (x3.toInt8.toInt32)))), .second, .val (.long (fnv4 (nar .byte (x1.toInt8.toInt32)) (nar .byte (x2.toInt8.toInt32)) (nar .byte (x3.toInt8.toInt32)) (nar .byte (x4.toInt8.toInt32)))), .second, .val (.long (((fnv3 (nar .byte (x1.toInt8.toInt32)) (nar .byte (x2.toInt8.toInt32)) (nar .byte (x3.toInt8.toInt32))) ^^^ (((x4 &&& (255 : Int32))).toInt64)) * (1099511628211 : Int64))), .second] [(.int (XT.cmpL fnv0 (-3750763034362895579 : Int64)))])) := by
      intro t k
      refine pre114 t ?_
      show Steps p.tables e below (T113.setTop (mkF m 51 #[.val (.int x0), .val (.int x1), .val (.int x2), .val (.int x3), .val (.int x4), .val (.int (3 : Int32)), .val (.ref ee), .val (.ref ea), .val (.ref ec), .val (.long fnv0), .second, .val (.long (fnv3 (nar .byte (x1.toInt8.toInt32)) (nar .byte (x2.toInt8.toInt32)) (nar .byte (x3.toInt8.toInt32)))), .second, .unset, .unset, .unset, .unset] [(.long (fnv4 (nar .byte (x1.toInt8.toInt32)) (nar .byte (x2.toInt8.toInt32)) (nar .byte (x3.toInt8.toInt32)) (nar .byte (x4.toInt8.toInt32))))])) _
      refine XT.lstore X113.here hx rfl (hb hby at_51) rfl (l' := #[.val (.int x0), .val (.int x1), .val (.int x2), .val (.int x3), .val (.int x4), .val (.int (3 : Int32)), .val (.ref ee), .val (.ref ea), .val (.ref ec), .val (.long fnv0), .second, .val (.long (fnv3 (nar .byte (x1.toInt8.toInt32)) (nar .byte (x2.toInt8.toInt32)) (nar .byte (x3.toInt8.toInt32)))), .second, .val (.long (fnv4 (nar .byte (x1.toInt8.toInt32)) (nar .byte (x2.toInt8.toInt32)) (nar .byte (x3.toInt8.toInt32)) (nar .byte (x4.toInt8.toInt32)))), .second, .unset, .unset]) rfl ?_
      show Steps p.tables e below (T113.setTop (mkF m 53 #[.val (.int x0), .val (.int x1), .val (.int x2), .val (.int x3), .val (.int x4), .val (.int (3 : Int32)), .val (.ref ee), .val (.ref ea), .val (.ref ec), .val (.long fnv0), .second, .val (.long (fnv3 (nar .byte (x1.toInt8.toInt32)) (nar .byte (x2.toInt8.toInt32)) (nar .byte (x3.toInt8.toInt32)))), .second, .val (.long (fnv4 (nar .byte (x1.toInt8.toInt32)) (nar .byte (x2.toInt8.toInt32)) (nar .byte (x3.toInt8.toInt32)) (nar .byte (x4.toInt8.toInt32)))), .second, .unset, .unset] [])) _
      refine XT.lload X113.here hx rfl (hb hby at_53) rfl ?_
      show Steps p.tables e below (T113.setTop (mkF m 55 #[.val (.int x0), .val (.int x1), .val (.int x2), .val (.int x3), .val (.int x4), .val (.int (3 : Int32)), .val (.ref ee), .val (.ref ea), .val (.ref ec), .val (.long fnv0), .second, .val (.long (fnv3 (nar .byte (x1.toInt8.toInt32)) (nar .byte (x2.toInt8.toInt32)) (nar .byte (x3.toInt8.toInt32)))), .second, .val (.long (fnv4 (nar .byte (x1.toInt8.toInt32)) (nar .byte (x2.toInt8.toInt32)) (nar .byte (x3.toInt8.toInt32)) (nar .byte (x4.toInt8.toInt32)))), .second, .unset, .unset] [(.long (fnv3 (nar .byte (x1.toInt8.toInt32)) (nar .byte (x2.toInt8.toInt32)) (nar .byte (x3.toInt8.toInt32))))])) _
      refine XS.iload X113.here hx rfl (hb hby at_55) rfl ?_
      show Steps p.tables e below (T113.setTop (mkF m 57 #[.val (.int x0), .val (.int x1), .val (.int x2), .val (.int x3), .val (.int x4), .val (.int (3 : Int32)), .val (.ref ee), .val (.ref ea), .val (.ref ec), .val (.long fnv0), .second, .val (.long (fnv3 (nar .byte (x1.toInt8.toInt32)) (nar .byte (x2.toInt8.toInt32)) (nar .byte (x3.toInt8.toInt32)))), .second, .val (.long (fnv4 (nar .byte (x1.toInt8.toInt32)) (nar .byte (x2.toInt8.toInt32)) (nar .byte (x3.toInt8.toInt32)) (nar .byte (x4.toInt8.toInt32)))), .second, .unset, .unset] [(.int x4), (.long (fnv3 (nar .byte (x1.toInt8.toInt32)) (nar .byte (x2.toInt8.toInt32)) (nar .byte (x3.toInt8.toInt32))))])) _
      refine XS.sipush X113.here hx rfl (hb hby at_57) ?_
      show Steps p.tables e below (T113.setTop (mkF m 60 #[.val (.int x0), .val (.int x1), .val (.int x2), .val (.int x3), .val (.int x4), .val (.int (3 : Int32)), .val (.ref ee), .val (.ref ea), .val (.ref ec), .val (.long fnv0), .second, .val (.long (fnv3 (nar .byte (x1.toInt8.toInt32)) (nar .byte (x2.toInt8.toInt32)) (nar .byte (x3.toInt8.toInt32)))), .second, .val (.long (fnv4 (nar .byte (x1.toInt8.toInt32)) (nar .byte (x2.toInt8.toInt32)) (nar .byte (x3.toInt8.toInt32)) (nar .byte (x4.toInt8.toInt32)))), .second, .unset, .unset] [(.int (255 : Int32)), (.int x4), (.long (fnv3 (nar .byte (x1.toInt8.toInt32)) (nar .byte (x2.toInt8.toInt32)) (nar .byte (x3.toInt8.toInt32))))])) _
      refine XS.iand X113.here hx rfl (hb hby at_60) rfl ?_
      show Steps p.tables e below (T113.setTop (mkF m 61 #[.val (.int x0), .val (.int x1), .val (.int x2), .val (.int x3), .val (.int x4), .val (.int (3 : Int32)), .val (.ref ee), .val (.ref ea), .val (.ref ec), .val (.long fnv0), .second, .val (.long (fnv3 (nar .byte (x1.toInt8.toInt32)) (nar .byte (x2.toInt8.toInt32)) (nar .byte (x3.toInt8.toInt32)))), .second, .val (.long (fnv4 (nar .byte (x1.toInt8.toInt32)) (nar .byte (x2.toInt8.toInt32)) (nar .byte (x3.toInt8.toInt32)) (nar .byte (x4.toInt8.toInt32)))), .second, .unset, .unset] [(.int (x4 &&& (255 : Int32))), (.long (fnv3 (nar .byte (x1.toInt8.toInt32)) (nar .byte (x2.toInt8.toInt32)) (nar .byte (x3.toInt8.toInt32))))])) _
      refine XS.i2l X113.here hx rfl (hb hby at_61) rfl ?_
      show Steps p.tables e below (T113.setTop (mkF m 62 #[.val (.int x0), .val (.int x1), .val (.int x2), .val (.int x3), .val (.int x4), .val (.int (3 : Int32)), .val (.ref ee), .val (.ref ea), .val (.ref ec), .val (.long fnv0), .second, .val (.long (fnv3 (nar .byte (x1.toInt8.toInt32)) (nar .byte (x2.toInt8.toInt32)) (nar .byte (x3.toInt8.toInt32)))), .second, .val (.long (fnv4 (nar .byte (x1.toInt8.toInt32)) (nar .byte (x2.toInt8.toInt32)) (nar .byte (x3.toInt8.toInt32)) (nar .byte (x4.toInt8.toInt32)))), .second, .unset, .unset] [(.long (((x4 &&& (255 : Int32))).toInt64)), (.long (fnv3 (nar .byte (x1.toInt8.toInt32)) (nar .byte (x2.toInt8.toInt32)) (nar .byte (x3.toInt8.toInt32))))])) _
      refine XS.lxor X113.here hx rfl (hb hby at_62) rfl ?_
      show Steps p.tables e below (T113.setTop (mkF m 63 #[.val (.int x0), .val (.int x1), .val (.int x2), .val (.int x3), .val (.int x4), .val (.int (3 : Int32)), .val (.ref ee), .val (.ref ea), .val (.ref ec), .val (.long fnv0), .second, .val (.long (fnv3 (nar .byte (x1.toInt8.toInt32)) (nar .byte (x2.toInt8.toInt32)) (nar .byte (x3.toInt8.toInt32)))), .second, .val (.long (fnv4 (nar .byte (x1.toInt8.toInt32)) (nar .byte (x2.toInt8.toInt32)) (nar .byte (x3.toInt8.toInt32)) (nar .byte (x4.toInt8.toInt32)))), .second, .unset, .unset] [(.long ((fnv3 (nar .byte (x1.toInt8.toInt32)) (nar .byte (x2.toInt8.toInt32)) (nar .byte (x3.toInt8.toInt32))) ^^^ (((x4 &&& (255 : Int32))).toInt64)))])) _
      refine X113.ldc2J hx hown (mvT hZ (hw _ (List.mem_of_getElem? (i := 14) rfl))) (g := (mkF m 63 #[.val (.int x0), .val (.int x1), .val (.int x2), .val (.int x3), .val (.int x4), .val (.int (3 : Int32)), .val (.ref ee), .val (.ref ea), .val (.ref ec), .val (.long fnv0), .second, .val (.long (fnv3 (nar .byte (x1.toInt8.toInt32)) (nar .byte (x2.toInt8.toInt32)) (nar .byte (x3.toInt8.toInt32)))), .second, .val (.long (fnv4 (nar .byte (x1.toInt8.toInt32)) (nar .byte (x2.toInt8.toInt32)) (nar .byte (x3.toInt8.toInt32)) (nar .byte (x4.toInt8.toInt32)))), .second, .unset, .unset] [(.long ((fnv3 (nar .byte (x1.toInt8.toInt32)) (nar .byte (x2.toInt8.toInt32)) (nar .byte (x3.toInt8.toInt32))) ^^^ (((x4 &&& (255 : Int32))).toInt64)))])) rfl (hb hby at_63) ?_
      show Steps p.tables e below (T113.setTop (mkF m 66 #[.val (.int x0), .val (.int x1), .val (.int x2), .val (.int x3), .val (.int x4), .val (.int (3 : Int32)), .val (.ref ee), .val (.ref ea), .val (.ref ec), .val (.long fnv0), .second, .val (.long (fnv3 (nar .byte (x1.toInt8.toInt32)) (nar .byte (x2.toInt8.toInt32)) (nar .byte (x3.toInt8.toInt32)))), .second, .val (.long (fnv4 (nar .byte (x1.toInt8.toInt32)) (nar .byte (x2.toInt8.toInt32)) (nar .byte (x3.toInt8.toInt32)) (nar .byte (x4.toInt8.toInt32)))), .second, .unset, .unset] [(.long (1099511628211 : Int64)), (.long ((fnv3 (nar .byte (x1.toInt8.toInt32)) (nar .byte (x2.toInt8.toInt32)) (nar .byte (x3.toInt8.toInt32))) ^^^ (((x4 &&& (255 : Int32))).toInt64)))])) _
      refine XS.lmul X113.here hx rfl (hb hby at_66) rfl ?_
      show Steps p.tables e below (T113.setTop (mkF m 67 #[.val (.int x0), .val (.int x1), .val (.int x2), .val (.int x3), .val (.int x4), .val (.int (3 : Int32)), .val (.ref ee), .val (.ref ea), .val (.ref ec), .val (.long fnv0), .second, .val (.long (fnv3 (nar .byte (x1.toInt8.toInt32)) (nar .byte (x2.toInt8.toInt32)) (nar .byte (x3.toInt8.toInt32)))), .second, .val (.long (fnv4 (nar .byte (x1.toInt8.toInt32)) (nar .byte (x2.toInt8.toInt32)) (nar .byte (x3.toInt8.toInt32)) (nar .byte (x4.toInt8.toInt32)))), .second, .unset, .unset] [(.long (((fnv3 (nar .byte (x1.toInt8.toInt32)) (nar .byte (x2.toInt8.toInt32)) (nar .byte (x3.toInt8.toInt32))) ^^^ (((x4 &&& (255 : Int32))).toInt64)) * (1099511628211 : Int64)))])) _
      refine XT.lstore X113.here hx rfl (hb hby at_67) rfl (l' := #[.val (.int x0), .val (.int x1), .val (.int x2), .val (.int x3), .val (.int x4), .val (.int (3 : Int32)), .val (.ref ee), .val (.ref ea), .val (.ref ec), .val (.long fnv0), .second, .val (.long (fnv3 (nar .byte (x1.toInt8.toInt32)) (nar .byte (x2.toInt8.toInt32)) (nar .byte (x3.toInt8.toInt32)))), .second, .val (.long (fnv4 (nar .byte (x1.toInt8.toInt32)) (nar .byte (x2.toInt8.toInt32)) (nar .byte (x3.toInt8.toInt32)) (nar .byte (x4.toInt8.toInt32)))), .second, .val (.long (((fnv3 (nar .byte (x1.toInt8.toInt32)) (nar .byte (x2.toInt8.toInt32)) (nar .byte (x3.toInt8.toInt32))) ^^^ (((x4 &&& (255 : Int32))).toInt64)) * (1099511628211 : Int64))), .second]) rfl ?_
      show Steps p.tables e below (T113.setTop (mkF m 69 #[.val (.int x0), .val (.int x1), .val (.int x2), .val (.int x3), .val (.int x4), .val (.int (3 : Int32)), .val (.ref ee), .val (.ref ea), .val (.ref ec), .val (.long fnv0), .second, .val (.long (fnv3 (nar .byte (x1.toInt8.toInt32)) (nar .byte (x2.toInt8.toInt32)) (nar .byte (x3.toInt8.toInt32)))), .second, .val (.long (fnv4 (nar .byte (x1.toInt8.toInt32)) (nar .byte (x2.toInt8.toInt32)) (nar .byte (x3.toInt8.toInt32)) (nar .byte (x4.toInt8.toInt32)))), .second, .val (.long (((fnv3 (nar .byte (x1.toInt8.toInt32)) (nar .byte (x2.toInt8.toInt32)) (nar .byte (x3.toInt8.toInt32))) ^^^ (((x4 &&& (255 : Int32))).toInt64)) * (1099511628211 : Int64))), .second] [])) _
      refine XT.lload X113.here hx rfl (hb hby at_69) rfl ?_
      show Steps p.tables e below (T113.setTop (mkF m 71 #[.val (.int x0), .val (.int x1), .val (.int x2), .val (.int x3), .val (.int x4), .val (.int (3 : Int32)), .val (.ref ee), .val (.ref ea), .val (.ref ec), .val (.long fnv0), .second, .val (.long (fnv3 (nar .byte (x1.toInt8.toInt32)) (nar .byte (x2.toInt8.toInt32)) (nar .byte (x3.toInt8.toInt32)))), .second, .val (.long (fnv4 (nar .byte (x1.toInt8.toInt32)) (nar .byte (x2.toInt8.toInt32)) (nar .byte (x3.toInt8.toInt32)) (nar .byte (x4.toInt8.toInt32)))), .second, .val (.long (((fnv3 (nar .byte (x1.toInt8.toInt32)) (nar .byte (x2.toInt8.toInt32)) (nar .byte (x3.toInt8.toInt32))) ^^^ (((x4 &&& (255 : Int32))).toInt64)) * (1099511628211 : Int64))), .second] [(.long fnv0)])) _
      refine X113.ldc2J hx hown (mvT hZ (hw _ (List.mem_of_getElem? (i := 15) rfl))) (g := (mkF m 71 #[.val (.int x0), .val (.int x1), .val (.int x2), .val (.int x3), .val (.int x4), .val (.int (3 : Int32)), .val (.ref ee), .val (.ref ea), .val (.ref ec), .val (.long fnv0), .second, .val (.long (fnv3 (nar .byte (x1.toInt8.toInt32)) (nar .byte (x2.toInt8.toInt32)) (nar .byte (x3.toInt8.toInt32)))), .second, .val (.long (fnv4 (nar .byte (x1.toInt8.toInt32)) (nar .byte (x2.toInt8.toInt32)) (nar .byte (x3.toInt8.toInt32)) (nar .byte (x4.toInt8.toInt32)))), .second, .val (.long (((fnv3 (nar .byte (x1.toInt8.toInt32)) (nar .byte (x2.toInt8.toInt32)) (nar .byte (x3.toInt8.toInt32))) ^^^ (((x4 &&& (255 : Int32))).toInt64)) * (1099511628211 : Int64))), .second] [(.long fnv0)])) rfl (hb hby at_71) ?_
      show Steps p.tables e below (T113.setTop (mkF m 74 #[.val (.int x0), .val (.int x1), .val (.int x2), .val (.int x3), .val (.int x4), .val (.int (3 : Int32)), .val (.ref ee), .val (.ref ea), .val (.ref ec), .val (.long fnv0), .second, .val (.long (fnv3 (nar .byte (x1.toInt8.toInt32)) (nar .byte (x2.toInt8.toInt32)) (nar .byte (x3.toInt8.toInt32)))), .second, .val (.long (fnv4 (nar .byte (x1.toInt8.toInt32)) (nar .byte (x2.toInt8.toInt32)) (nar .byte (x3.toInt8.toInt32)) (nar .byte (x4.toInt8.toInt32)))), .second, .val (.long (((fnv3 (nar .byte (x1.toInt8.toInt32)) (nar .byte (x2.toInt8.toInt32)) (nar .byte (x3.toInt8.toInt32))) ^^^ (((x4 &&& (255 : Int32))).toInt64)) * (1099511628211 : Int64))), .second] [(.long (-3750763034362895579 : Int64)), (.long fnv0)])) _
      refine XT.lcmp X113.here hx rfl (hb hby at_74) rfl ?_
      show Steps p.tables e below (T113.setTop (mkF m 75 #[.val (.int x0), .val (.int x1), .val (.int x2), .val (.int x3), .val (.int x4), .val (.int (3 : Int32)), .val (.ref ee), .val (.ref ea), .val (.ref ec), .val (.long fnv0), .second, .val (.long (fnv3 (nar .byte (x1.toInt8.toInt32)) (nar .byte (x2.toInt8.toInt32)) (nar .byte (x3.toInt8.toInt32)))), .second, .val (.long (fnv4 (nar .byte (x1.toInt8.toInt32)) (nar .byte (x2.toInt8.toInt32)) (nar .byte (x3.toInt8.toInt32)) (nar .byte (x4.toInt8.toInt32)))), .second, .val (.long (((fnv3 (nar .byte (x1.toInt8.toInt32)) (nar .byte (x2.toInt8.toInt32)) (nar .byte (x3.toInt8.toInt32))) ^^^ (((x4 &&& (255 : Int32))).toInt64)) * (1099511628211 : Int64))), .second] [(.int (XT.cmpL fnv0 (-3750763034362895579 : Int64)))])) _
      exact k
    have hc75_116 : fnv0 = (-3750763034362895579 : Int64) := by
      rfl
    have pre117 : Go p e below (s₁.setTop (entryFrame m #[(.int x0), (.int x1), (.int x2), (.int x3), (.int x4)] maxLocals)) (T113.setTop (mkF m 83 #[.val (.int x0), .val (.int x1), .val (.int x2), .val (.int x3), .val (.int x4), .val (.int (3 : Int32)), .val (.ref ee), .val (.ref ea), .val (.ref ec), .val (.long fnv0), .second, .val (.long (fnv3 (nar .byte (x1.toInt8.toInt32)) (nar .byte (x2.toInt8.toInt32)) (nar .byte (x3.toInt8.toInt32)))), .second, .val (.long (fnv4 (nar .byte (x1.toInt8.toInt32)) (nar .byte (x2.toInt8.toInt32)) (nar .byte (x3.toInt8.toInt32)) (nar .byte (x4.toInt8.toInt32)))), .second, .val (.long (((fnv3 (nar .byte (x1.toInt8.toInt32)) (nar .byte (x2.toInt8.toInt32)) (nar .byte (x3.toInt8.toInt32))) ^^^ (((x4 &&& (255 : Int32))).toInt64)) * (1099511628211 : Int64))), .second] [(.int (XT.cmpL (fnv4 (nar .byte (x1.toInt8.toInt32)) (nar .byte (x2.toInt8.toInt32)) (nar .byte (x3.toInt8.toInt32)) (nar .byte (x4.toInt8.toInt32))) (((fnv3 (nar .byte (x1.toInt8.toInt32)) (nar .byte (x2.toInt8.toInt32)) (nar .byte (x3.toInt8.toInt32))) ^^^ (((x4 &&& (255 : Int32))).toInt64)) * (1099511628211 : Int64))))])) := by
      intro t k
      refine pre115 t ?_
      show Steps p.tables e below (T113.setTop (mkF m 75 #[.val (.int x0), .val (.int x1), .val (.int x2), .val (.int x3), .val (.int x4), .val (.int (3 : Int32)), .val (.ref ee), .val (.ref ea), .val (.ref ec), .val (.long fnv0), .second, .val (.long (fnv3 (nar .byte (x1.toInt8.toInt32)) (nar .byte (x2.toInt8.toInt32)) (nar .byte (x3.toInt8.toInt32)))), .second, .val (.long (fnv4 (nar .byte (x1.toInt8.toInt32)) (nar .byte (x2.toInt8.toInt32)) (nar .byte (x3.toInt8.toInt32)) (nar .byte (x4.toInt8.toInt32)))), .second, .val (.long (((fnv3 (nar .byte (x1.toInt8.toInt32)) (nar .byte (x2.toInt8.toInt32)) (nar .byte (x3.toInt8.toInt32))) ^^^ (((x4 &&& (255 : Int32))).toInt64)) * (1099511628211 : Int64))), .second] [(.int (XT.cmpL fnv0 (-3750763034362895579 : Int64)))])) _
      refine XS.ifNo X113.here hx rfl (hb hby at_75) rfl (XT.ll_ne_f hc75_116) ?_
      show Steps p.tables e below (T113.setTop (mkF m 78 #[.val (.int x0), .val (.int x1), .val (.int x2), .val (.int x3), .val (.int x4), .val (.int (3 : Int32)), .val (.ref ee), .val (.ref ea), .val (.ref ec), .val (.long fnv0), .second, .val (.long (fnv3 (nar .byte (x1.toInt8.toInt32)) (nar .byte (x2.toInt8.toInt32)) (nar .byte (x3.toInt8.toInt32)))), .second, .val (.long (fnv4 (nar .byte (x1.toInt8.toInt32)) (nar .byte (x2.toInt8.toInt32)) (nar .byte (x3.toInt8.toInt32)) (nar .byte (x4.toInt8.toInt32)))), .second, .val (.long (((fnv3 (nar .byte (x1.toInt8.toInt32)) (nar .byte (x2.toInt8.toInt32)) (nar .byte (x3.toInt8.toInt32))) ^^^ (((x4 &&& (255 : Int32))).toInt64)) * (1099511628211 : Int64))), .second] [])) _
      refine XT.lload X113.here hx rfl (hb hby at_78) rfl ?_
      show Steps p.tables e below (T113.setTop (mkF m 80 #[.val (.int x0), .val (.int x1), .val (.int x2), .val (.int x3), .val (.int x4), .val (.int (3 : Int32)), .val (.ref ee), .val (.ref ea), .val (.ref ec), .val (.long fnv0), .second, .val (.long (fnv3 (nar .byte (x1.toInt8.toInt32)) (nar .byte (x2.toInt8.toInt32)) (nar .byte (x3.toInt8.toInt32)))), .second, .val (.long (fnv4 (nar .byte (x1.toInt8.toInt32)) (nar .byte (x2.toInt8.toInt32)) (nar .byte (x3.toInt8.toInt32)) (nar .byte (x4.toInt8.toInt32)))), .second, .val (.long (((fnv3 (nar .byte (x1.toInt8.toInt32)) (nar .byte (x2.toInt8.toInt32)) (nar .byte (x3.toInt8.toInt32))) ^^^ (((x4 &&& (255 : Int32))).toInt64)) * (1099511628211 : Int64))), .second] [(.long (fnv4 (nar .byte (x1.toInt8.toInt32)) (nar .byte (x2.toInt8.toInt32)) (nar .byte (x3.toInt8.toInt32)) (nar .byte (x4.toInt8.toInt32))))])) _
      refine XT.lload X113.here hx rfl (hb hby at_80) rfl ?_
      show Steps p.tables e below (T113.setTop (mkF m 82 #[.val (.int x0), .val (.int x1), .val (.int x2), .val (.int x3), .val (.int x4), .val (.int (3 : Int32)), .val (.ref ee), .val (.ref ea), .val (.ref ec), .val (.long fnv0), .second, .val (.long (fnv3 (nar .byte (x1.toInt8.toInt32)) (nar .byte (x2.toInt8.toInt32)) (nar .byte (x3.toInt8.toInt32)))), .second, .val (.long (fnv4 (nar .byte (x1.toInt8.toInt32)) (nar .byte (x2.toInt8.toInt32)) (nar .byte (x3.toInt8.toInt32)) (nar .byte (x4.toInt8.toInt32)))), .second, .val (.long (((fnv3 (nar .byte (x1.toInt8.toInt32)) (nar .byte (x2.toInt8.toInt32)) (nar .byte (x3.toInt8.toInt32))) ^^^ (((x4 &&& (255 : Int32))).toInt64)) * (1099511628211 : Int64))), .second] [(.long (((fnv3 (nar .byte (x1.toInt8.toInt32)) (nar .byte (x2.toInt8.toInt32)) (nar .byte (x3.toInt8.toInt32))) ^^^ (((x4 &&& (255 : Int32))).toInt64)) * (1099511628211 : Int64))), (.long (fnv4 (nar .byte (x1.toInt8.toInt32)) (nar .byte (x2.toInt8.toInt32)) (nar .byte (x3.toInt8.toInt32)) (nar .byte (x4.toInt8.toInt32))))])) _
      refine XT.lcmp X113.here hx rfl (hb hby at_82) rfl ?_
      show Steps p.tables e below (T113.setTop (mkF m 83 #[.val (.int x0), .val (.int x1), .val (.int x2), .val (.int x3), .val (.int x4), .val (.int (3 : Int32)), .val (.ref ee), .val (.ref ea), .val (.ref ec), .val (.long fnv0), .second, .val (.long (fnv3 (nar .byte (x1.toInt8.toInt32)) (nar .byte (x2.toInt8.toInt32)) (nar .byte (x3.toInt8.toInt32)))), .second, .val (.long (fnv4 (nar .byte (x1.toInt8.toInt32)) (nar .byte (x2.toInt8.toInt32)) (nar .byte (x3.toInt8.toInt32)) (nar .byte (x4.toInt8.toInt32)))), .second, .val (.long (((fnv3 (nar .byte (x1.toInt8.toInt32)) (nar .byte (x2.toInt8.toInt32)) (nar .byte (x3.toInt8.toInt32))) ^^^ (((x4 &&& (255 : Int32))).toInt64)) * (1099511628211 : Int64))), .second] [(.int (XT.cmpL (fnv4 (nar .byte (x1.toInt8.toInt32)) (nar .byte (x2.toInt8.toInt32)) (nar .byte (x3.toInt8.toInt32)) (nar .byte (x4.toInt8.toInt32))) (((fnv3 (nar .byte (x1.toInt8.toInt32)) (nar .byte (x2.toInt8.toInt32)) (nar .byte (x3.toInt8.toInt32))) ^^^ (((x4 &&& (255 : Int32))).toInt64)) * (1099511628211 : Int64))))])) _
      exact k
    have hc83_118 : (fnv4 (nar .byte (x1.toInt8.toInt32)) (nar .byte (x2.toInt8.toInt32)) (nar .byte (x3.toInt8.toInt32)) (nar .byte (x4.toInt8.toInt32))) = (((fnv3 (nar .byte (x1.toInt8.toInt32)) (nar .byte (x2.toInt8.toInt32)) (nar .byte (x3.toInt8.toInt32))) ^^^ (((x4 &&& (255 : Int32))).toInt64)) * (1099511628211 : Int64)) := by
      rw [← own_byte x4]; rfl
    have pre119 : Go p e below (s₁.setTop (entryFrame m #[(.int x0), (.int x1), (.int x2), (.int x3), (.int x4)] maxLocals)) (T113.setTop (mkF m 91 #[.val (.int x0), .val (.int x1), .val (.int x2), .val (.int x3), .val (.int x4), .val (.int (3 : Int32)), .val (.ref ee), .val (.ref ea), .val (.ref ec), .val (.long fnv0), .second, .val (.long (fnv3 (nar .byte (x1.toInt8.toInt32)) (nar .byte (x2.toInt8.toInt32)) (nar .byte (x3.toInt8.toInt32)))), .second, .val (.long (fnv4 (nar .byte (x1.toInt8.toInt32)) (nar .byte (x2.toInt8.toInt32)) (nar .byte (x3.toInt8.toInt32)) (nar .byte (x4.toInt8.toInt32)))), .second, .val (.long (((fnv3 (nar .byte (x1.toInt8.toInt32)) (nar .byte (x2.toInt8.toInt32)) (nar .byte (x3.toInt8.toInt32))) ^^^ (((x4 &&& (255 : Int32))).toInt64)) * (1099511628211 : Int64))), .second] [(.int (1 : Int32))])) := by
      intro t k
      refine pre117 t ?_
      show Steps p.tables e below (T113.setTop (mkF m 83 #[.val (.int x0), .val (.int x1), .val (.int x2), .val (.int x3), .val (.int x4), .val (.int (3 : Int32)), .val (.ref ee), .val (.ref ea), .val (.ref ec), .val (.long fnv0), .second, .val (.long (fnv3 (nar .byte (x1.toInt8.toInt32)) (nar .byte (x2.toInt8.toInt32)) (nar .byte (x3.toInt8.toInt32)))), .second, .val (.long (fnv4 (nar .byte (x1.toInt8.toInt32)) (nar .byte (x2.toInt8.toInt32)) (nar .byte (x3.toInt8.toInt32)) (nar .byte (x4.toInt8.toInt32)))), .second, .val (.long (((fnv3 (nar .byte (x1.toInt8.toInt32)) (nar .byte (x2.toInt8.toInt32)) (nar .byte (x3.toInt8.toInt32))) ^^^ (((x4 &&& (255 : Int32))).toInt64)) * (1099511628211 : Int64))), .second] [(.int (XT.cmpL (fnv4 (nar .byte (x1.toInt8.toInt32)) (nar .byte (x2.toInt8.toInt32)) (nar .byte (x3.toInt8.toInt32)) (nar .byte (x4.toInt8.toInt32))) (((fnv3 (nar .byte (x1.toInt8.toInt32)) (nar .byte (x2.toInt8.toInt32)) (nar .byte (x3.toInt8.toInt32))) ^^^ (((x4 &&& (255 : Int32))).toInt64)) * (1099511628211 : Int64))))])) _
      refine XS.ifNo X113.here hx rfl (hb hby at_83) rfl (XT.ll_ne_f hc83_118) ?_
      show Steps p.tables e below (T113.setTop (mkF m 86 #[.val (.int x0), .val (.int x1), .val (.int x2), .val (.int x3), .val (.int x4), .val (.int (3 : Int32)), .val (.ref ee), .val (.ref ea), .val (.ref ec), .val (.long fnv0), .second, .val (.long (fnv3 (nar .byte (x1.toInt8.toInt32)) (nar .byte (x2.toInt8.toInt32)) (nar .byte (x3.toInt8.toInt32)))), .second, .val (.long (fnv4 (nar .byte (x1.toInt8.toInt32)) (nar .byte (x2.toInt8.toInt32)) (nar .byte (x3.toInt8.toInt32)) (nar .byte (x4.toInt8.toInt32)))), .second, .val (.long (((fnv3 (nar .byte (x1.toInt8.toInt32)) (nar .byte (x2.toInt8.toInt32)) (nar .byte (x3.toInt8.toInt32))) ^^^ (((x4 &&& (255 : Int32))).toInt64)) * (1099511628211 : Int64))), .second] [])) _
      refine XS.iconst X113.here hx rfl (hb hby at_86) ?_
      show Steps p.tables e below (T113.setTop (mkF m 87 #[.val (.int x0), .val (.int x1), .val (.int x2), .val (.int x3), .val (.int x4), .val (.int (3 : Int32)), .val (.ref ee), .val (.ref ea), .val (.ref ec), .val (.long fnv0), .second, .val (.long (fnv3 (nar .byte (x1.toInt8.toInt32)) (nar .byte (x2.toInt8.toInt32)) (nar .byte (x3.toInt8.toInt32)))), .second, .val (.long (fnv4 (nar .byte (x1.toInt8.toInt32)) (nar .byte (x2.toInt8.toInt32)) (nar .byte (x3.toInt8.toInt32)) (nar .byte (x4.toInt8.toInt32)))), .second, .val (.long (((fnv3 (nar .byte (x1.toInt8.toInt32)) (nar .byte (x2.toInt8.toInt32)) (nar .byte (x3.toInt8.toInt32))) ^^^ (((x4 &&& (255 : Int32))).toInt64)) * (1099511628211 : Int64))), .second] [(.int (1 : Int32))])) _
      refine XS.goto X113.here hx rfl (pc0 := 87) (pc' := 91) rfl (hb hby at_87) (by decide) (by decide) ?_
      show Steps p.tables e below (T113.setTop (mkF m 91 #[.val (.int x0), .val (.int x1), .val (.int x2), .val (.int x3), .val (.int x4), .val (.int (3 : Int32)), .val (.ref ee), .val (.ref ea), .val (.ref ec), .val (.long fnv0), .second, .val (.long (fnv3 (nar .byte (x1.toInt8.toInt32)) (nar .byte (x2.toInt8.toInt32)) (nar .byte (x3.toInt8.toInt32)))), .second, .val (.long (fnv4 (nar .byte (x1.toInt8.toInt32)) (nar .byte (x2.toInt8.toInt32)) (nar .byte (x3.toInt8.toInt32)) (nar .byte (x4.toInt8.toInt32)))), .second, .val (.long (((fnv3 (nar .byte (x1.toInt8.toInt32)) (nar .byte (x2.toInt8.toInt32)) (nar .byte (x3.toInt8.toInt32))) ^^^ (((x4 &&& (255 : Int32))).toInt64)) * (1099511628211 : Int64))), .second] [(.int (1 : Int32))])) _
      exact k
    obtain ⟨fs, hr, hrun, hended, hW, hsame⟩ := X113.leave (hlocks := hlk) (v := some (.int (1 : Int32))) (fun h => by rw [Bd.returns] at h; cases h)
    refine ⟨_, _, pre119 _ (retN X113 hx (t := .boolean) Bd.returns (by simp) (hb hby at_91) hr), hrun, hended, _, _, rfl, ?_, ⟨_, rfl⟩, hW, hsame.mono (by decide) (by decide)⟩
    show Q0 Z x0 x1 x2 x3 x4 h0 n0 _ T113.heap _
    rw [hh113]
    exact ⟨rfl, N113⟩
set_option maxRecDepth 65536 in
set_option maxHeartbeats 40000000 in
theorem comes_1 {Post : Tables → Env → Array Value → State → Outcome → State → Prop} (hpost : ∀ tb e args s v u, (limb_1_1.after args s (.returned v) u = true ∧ limb_1_2.after args s (.returned v) u = true ∧ True) → FrameEnd s (.returned v) u (Jvm.fieldLocs frame_1_writes args s ++ Jvm.arrayLocs frame_1_arrays args s ++ Jvm.staticLocs frame_1_statics s) 16 128 → Post tb e args s (.returned v) u) :
    ArmFor flags0 classFile x code maxLocals ret World_1 tables_1 room_1 Calls_1 rest_1 Pre_1 Post := by
  intro l hfl _ _ p e ha hc hk s m args below hf hA hF happ hP
  obtain ⟨hcalls, hrest, hpre⟩ := hP
  obtain ⟨-, -, -, hnamed, -, -, -, hat⟩ := (Spec.applies_iff hf).mp happ
  obtain ⟨hg, hn⟩ := and_e (Cond.before_iff.mp (show (Jvm.Cond.and given_1 narrow_1).before args s = true from hpre))
  obtain ⟨u1, u2⟩ := and_e hg
  obtain ⟨u3, u4⟩ := and_e u2
  obtain ⟨u5, u6⟩ := and_e u4
  obtain ⟨u7, u8⟩ := and_e u6
  obtain ⟨u9, u10⟩ := and_e u8
  obtain ⟨w0, w1, w2, w3, w4, rfl⟩ : ∃ w0 w1 w2 w3 w4 : Value, args = #[w0, w1, w2, w3, w4] := by
    have hs : args.size = 5 := by simpa [Cond.value, given_1] using u1
    obtain ⟨L⟩ := args
    match L, hs with
    | [w0, w1, w2, w3, w4], _ => exact ⟨w0, w1, w2, w3, w4, rfl⟩
  have hw := fun d (hd : d ∈ tables_1) => atoms_spec (ws := Jvm.Cond.code x code maxLocals ret :: tables_1) hat d (List.mem_cons_of_mem _ hd)
  obtain ⟨i0, ei0⟩ := is_v u3
  obtain rfl : w0 = (.int i0) := Option.some.inj ei0
  obtain ⟨i1, ei1⟩ := is_v u5
  obtain rfl : w1 = (.int i1) := Option.some.inj ei1
  obtain ⟨i2, ei2⟩ := is_v u7
  obtain rfl : w2 = (.int i2) := Option.some.inj ei2
  obtain ⟨i3, ei3⟩ := is_v u9
  obtain rfl : w3 = (.int i3) := Option.some.inj ei3
  obtain ⟨i4, ei4⟩ := is_v u10
  obtain rfl : w4 = (.int i4) := Option.some.inj ei4
  obtain ⟨n, o, h1, h2, h3, _, L, rfl, ⟨rfl, N⟩, hq⟩ := rm0 l s _ hw tables_1 i0 i1 i2 i3 i4 s.heap s.heap.size (Nat.le_refl _) p e ha hc hk s m _ below hf ((Spec.applies_iff_loose hf).mp happ).1 ⟨rfl, State.Warmed39.refl s, rfl⟩ trivial
  refine ⟨n, _, h1, h2, h3, hpost _ _ _ _ _ _ ⟨Cond.after_iff.mpr rfl, Cond.after_iff.mpr (eq_i res_at (Term.int_eval (1)) rfl), trivial⟩ ⟨hq.1, hq.2.1, (hq.2.2.sift fun y hy => Or.inr (N y hy)).mono (by decide) (by decide)⟩⟩
theorem main_1_1 : Claimed_1_1 := comes_1 fun _ _ _ _ _ _ h hF => ⟨h.1, hF⟩
theorem main_1_2 : Claimed_1_2 := comes_1 fun _ _ _ _ _ _ h hF => ⟨h.2.1, hF⟩
end Jvm.Pilot.@@N@@
namespace Jvm.Pilot.@@N@@
open Jvm Jvm.ClassFile Sem Op Lib Jvm.Free Jvm.Stand Jvm.Pilot.@@N@@.Jvm.D
/-! MADE BY PROGRAM (witnessworld.py) out of the Statement's table words and the real class files: 9 classes; the members and pool entries that the words name. The judged class is class 1, her method 3. -/
namespace start1
open Jvm.ClassFile
def u (s : String) : CpInfo := .utf8 (stringToUtf16 s)
/-- a pool by its gaps: so many unusable entries, then the entry; so many at the end -/
def gap : Nat → List CpInfo → List CpInfo
  | 0, r => r
  | n + 1, r => .unusable :: gap n r
def poolList (es : List (Nat × CpInfo)) (last : Nat) : List CpInfo := es.foldr (fun e r => gap e.1 (e.2 :: r)) (gap last [])
def pool (es : List (Nat × CpInfo)) (last : Nat) : Array CpInfo := ⟨poolList es last⟩
def fileOf (pool : Array CpInfo) (this : Nat) (attrs : Array Attribute := #[]) (ms : Array MethodInfo := #[]) (fl : Nat := 33) (sup : Nat := 0) (ifs : Array Nat := #[]) (fds : Array FieldInfo := #[]) : ClassFile where
  minorVersion := 0
  majorVersion := 65
  constantPool := pool
  accessFlags := fl
  thisClass := this
  superClass := sup
  interfaces := ifs
  fields := fds
  methods := ms
  attributes := attrs
def plain (name : String) (sup : Option ClassId) : Class where
  name := name
  kind := .ordinary
  loader := none
  accessFlags := 33
  super := sup
  interfaces := #[]
  cf := none
  fields := #[]
  methods := #[]
  instanceTypes := #[]
  staticTypes := #[]
  resolved := #[]
  callSites := []
  init := .initialized
  statics := none
  mirror := none

def pool0 : Array CpInfo := pool [(5, u "<init>"), (0, u "()V"), (1, .class_ 10), (1, u "java/lang/Object")] 113

def k0m0 : Method := { name := "<init>", desc := "()V", sig := { parameters := [], returnType := none }, accessFlags := 1, code := none }
/-- java/lang/Object -/
def k0 : Class := { plain "java/lang/Object" none with
  accessFlags := 33
  interfaces := #[]
  cf := some (fileOf pool0 8 #[] #[{ accessFlags := 1, nameIndex := 5, descriptorIndex := 6, attributes := #[] }] 33 0 #[] #[])
  fields := #[]
  methods := #[k0m0]
  instanceTypes := #[]
  staticTypes := #[]
  resolved := Array.replicate 124 none
  statics := none }

def pool1 : Array CpInfo := pool [(2, .class_ 4), (1, u "java/lang/Object"), (0, u "<init>"), (0, u "()V"), (0, .methodref 8 9), (0, .class_ 10), (0, .nameAndType 11 12), (0, u "com/example/seshat/seshat/filter/ProbeFnv1aPinLaw"), (0, u "prefix"), (0, u "(IIII)[B"), (0, .methodref 8 14), (0, .nameAndType 15 16), (0, u "extended"), (0, u "(IIIII)[B"), (0, .methodref 18 19), (0, .class_ 20), (0, .nameAndType 21 22), (0, u "com/example/seshat/seshat/filter/Probe"), (0, u "fnv1a"), (0, u "([B)J"), (0, .long 1099511628211), (1, .long 14695981039346656037), (4, u "law"), (0, u "(IIIII)Z")] 4

def k1m0 : Method := { name := "<init>", desc := "()V", sig := { parameters := [], returnType := none }, accessFlags := 2, code := none }
def k1c1 : Code := { maxStack := 4, maxLocals := 4, code := method_2_code, exceptionTable := #[], attributes := #[] }
def k1m1 : Method := { name := "prefix", desc := "(IIII)[B", sig := { parameters := [.int, .int, .int, .int], returnType := some (.array .byte) }, accessFlags := 10, code := some k1c1 }
def k1c2 : Code := { maxStack := 4, maxLocals := 5, code := method_3_code, exceptionTable := #[], attributes := #[] }
def k1m2 : Method := { name := "extended", desc := "(IIIII)[B", sig := { parameters := [.int, .int, .int, .int, .int], returnType := some (.array .byte) }, accessFlags := 10, code := some k1c2 }
def k1c3 : Code := { maxStack := 5, maxLocals := 17, code := code, exceptionTable := #[], attributes := #[] }
def k1m3 : Method := { name := "law", desc := "(IIIII)Z", sig := { parameters := [.int, .int, .int, .int, .int], returnType := some .boolean }, accessFlags := 9, code := some k1c3 }
/-- com/example/seshat/seshat/filter/ProbeFnv1aPinLaw -/
def k1 : Class := { plain "com/example/seshat/seshat/filter/ProbeFnv1aPinLaw" (some 0) with
  accessFlags := 49
  interfaces := #[]
  cf := some (fileOf pool1 8 #[] #[{ accessFlags := 2, nameIndex := 5, descriptorIndex := 6, attributes := #[] }, { accessFlags := 10, nameIndex := 11, descriptorIndex := 12, attributes := #[] }, { accessFlags := 10, nameIndex := 15, descriptorIndex := 16, attributes := #[] }, { accessFlags := 9, nameIndex := 30, descriptorIndex := 31, attributes := #[] }] 49 2 #[] #[])
  fields := #[]
  methods := #[k1m0, k1m1, k1m2, k1m3]
  instanceTypes := #[]
  staticTypes := #[]
  resolved := Array.replicate 36 none
  statics := none }

def pool2 : Array CpInfo := pool [(2, .class_ 4), (1, u "java/lang/Object"), (3, .class_ 10), (1, u "com/example/seshat/seshat/filter/Probe"), (0, u "block"), (0, u "I"), (2, u "bits"), (0, u "[I"), (14, u "fnv1a"), (0, u "([B)J"), (13, .long 14695981039346656037), (1, .long 1099511628211), (7, u "FNV_OFFSET_BASIS"), (0, u "J"), (1, u "FNV_PRIME"), (0, u "GOLDEN_GAMMA"), (0, u "BIT_FIELD"), (1, u "FIELDS_PER_NUMBER")] 17

def k2c0 : Code := { maxStack := 4, maxLocals := 7, code := prog_6_method_7_code, exceptionTable := #[], attributes := #[] }
def k2m0 : Method := { name := "fnv1a", desc := "([B)J", sig := { parameters := [(.array .byte)], returnType := some .long }, accessFlags := 8, code := some k2c0 }
/-- com/example/seshat/seshat/filter/Probe -/
def k2 : Class := { plain "com/example/seshat/seshat/filter/Probe" (some 0) with
  accessFlags := 49
  interfaces := #[]
  cf := some (fileOf pool2 8 #[] #[{ accessFlags := 8, nameIndex := 31, descriptorIndex := 32, attributes := #[] }] 49 2 #[] #[{ accessFlags := 26, nameIndex := 56, descriptorIndex := 57, attributes := #[] }, { accessFlags := 26, nameIndex := 59, descriptorIndex := 57, attributes := #[] }, { accessFlags := 26, nameIndex := 60, descriptorIndex := 57, attributes := #[] }, { accessFlags := 26, nameIndex := 61, descriptorIndex := 12, attributes := #[] }, { accessFlags := 26, nameIndex := 63, descriptorIndex := 12, attributes := #[] }, { accessFlags := 18, nameIndex := 11, descriptorIndex := 12, attributes := #[] }, { accessFlags := 18, nameIndex := 15, descriptorIndex := 16, attributes := #[] }])
  fields := #[{ name := "FNV_OFFSET_BASIS", type := .long, accessFlags := 26, slot := 0, constantValue := 0 }, { name := "FNV_PRIME", type := .long, accessFlags := 26, slot := 1, constantValue := 0 }, { name := "GOLDEN_GAMMA", type := .long, accessFlags := 26, slot := 2, constantValue := 0 }, { name := "BIT_FIELD", type := .int, accessFlags := 26, slot := 3, constantValue := 0 }, { name := "FIELDS_PER_NUMBER", type := .int, accessFlags := 26, slot := 4, constantValue := 0 }, { name := "block", type := .int, accessFlags := 18, slot := 0, constantValue := 0 }, { name := "bits", type := (.array .int), accessFlags := 18, slot := 1, constantValue := 0 }]
  methods := #[k2m0]
  instanceTypes := #[.int, (.array .int)]
  staticTypes := #[.long, .long, .long, .int, .int]
  resolved := Array.replicate 81 none
  statics := none }

def pool3 : Array CpInfo := pool [(1, u "java/lang/Cloneable"), (0, .class_ 1), (0, u "java/lang/Object"), (0, .class_ 3)] 3

/-- java/lang/Cloneable -/
def k3 : Class := { plain "java/lang/Cloneable" (some 0) with
  accessFlags := 1537
  interfaces := #[]
  cf := some (fileOf pool3 2 #[] #[] 1537 4 #[] #[])
  fields := #[]
  methods := #[]
  instanceTypes := #[]
  staticTypes := #[]
  resolved := Array.replicate 8 none
  statics := none }

def pool4 : Array CpInfo := pool [(1, u "java/io/Serializable"), (0, .class_ 1), (0, u "java/lang/Object"), (0, .class_ 3)] 3

/-- java/io/Serializable -/
def k4 : Class := { plain "java/io/Serializable" (some 0) with
  accessFlags := 1537
  interfaces := #[]
  cf := some (fileOf pool4 2 #[] #[] 1537 4 #[] #[])
  fields := #[]
  methods := #[]
  instanceTypes := #[]
  staticTypes := #[]
  resolved := Array.replicate 8 none
  statics := none }

/-- the primitive byte -/
def k5 : Class := { plain "byte" none with kind := .primitive 'B', accessFlags := 0x411 }
/-- [B -/
def k6 : Class := { plain "[B" (some 0) with kind := .array 5 .byte, interfaces := #[3, 4], accessFlags := 1041 }

/-- the primitive int -/
def k7 : Class := { plain "int" none with kind := .primitive 'I', accessFlags := 0x411 }
/-- [I -/
def k8 : Class := { plain "[I" (some 0) with kind := .array 7 .int, interfaces := #[3, 4], accessFlags := 1041 }

def heap : Heap := #[]
def classes : Array Class := #[k0, k1, k2, k3, k4, k5, k6, k7, k8]
def interned : List (Array UInt16 × Addr) := []
def slotsUsed : Nat := 0
def theMethod : MethodId := ⟨1, 3⟩
def args0 : Array Value := #[.int 5, .int 7, .int 6, .int 3, .int 1]
def aboutOver (below : List Frame) : State where
  vm := { classes := classes, interned := interned.toArray }
  heap := heap
  slotsUsed := slotsUsed
  threads := #[{ frames := .invoking theMethod args0 :: below }]
def below0 : List Frame := [.native { method := ⟨0, 0⟩, args := #[] }]
def about1 : State := aboutOver below0
def p0 : Program := .bare "" "" ""
def e0 : Env := launch0.env 0 0 0
theorem w_frames : about1.frames = Frame.invoking theMethod args0 :: below0 := rfl
set_option maxRecDepth 65536 in
theorem w_args : argsFit about1.vm theMethod args0 = true := by decide +kernel
set_option maxRecDepth 65536 in
theorem w_heap : heapFits about1 = true := by decide +kernel
set_option maxRecDepth 65536 in
theorem w_runnable : about1.curStatus? = some .runnable := by decide +kernel
set_option maxRecDepth 65536 in
theorem w_alone : about1.alone = true := by decide +kernel
set_option maxRecDepth 65536 in
theorem w_named : about1.methodNamed? x = some theMethod := by decide +kernel
set_option maxRecDepth 65536 in
theorem w_hears : about1.hears theMethod below0 = true := by decide +kernel
set_option maxRecDepth 65536 in
theorem w_ripe : about1.ripe theMethod args0 below0 = true := by decide +kernel
theorem w_running : about1.status = .running := rfl
set_option maxRecDepth 65536 in
theorem w_room : about1.hasRoom e0.platform room_1 = true :=
  launch0.hasRoom_least _ room_1 (by decide +kernel) (by decide +kernel) (by decide +kernel) (by decide +kernel) (by decide +kernel) (by decide +kernel)
theorem allAtoms_all (ts : List Jvm.Cond) (a : Array Jvm.Value) (st : Jvm.State) : (allAtoms ts).before a st = ts.all (fun c => c.before a st) := by
  induction ts with
  | nil => rfl
  | cons c t ih =>
    show (Jvm.Cond.and c (allAtoms t)).before a st = _
    rw [Jvm.Cond.before_and, ih, List.all_cons]
def words1 : List Jvm.Cond := Jvm.Cond.code x code maxLocals ret :: tables_1
/-- a 'code' word, met by the world's own term for the bytes: nothing is compared byte by byte -/
theorem code_word {y : MethodName} {bytes : ByteArray} {mx : Nat} {rt : Option FieldType} {a : Array Value} {s : State} {m : MethodId} {meth : Method} {c : Code} (h1 : s.methodNamed? y = some m) (h2 : s.vm.method? m = some meth) (h3 : meth.code = some c) (h4 : c.code = bytes)
    (h5 : (c.maxLocals == mx && c.exceptionTable.isEmpty && decide (c.maxStack ≤ mostOperands) && decide (meth.sig.returnType = rt) && !meth.locks && decide (parseMethodDescriptor y.desc = some meth.sig)) = true) : (Jvm.Cond.code y bytes mx rt).before a s = true := by
  simp only [Bool.and_eq_true, beq_iff_eq, Bool.not_eq_true', decide_eq_true_eq] at h5
  obtain ⟨⟨⟨⟨⟨g1, g2⟩, g3⟩, g4⟩, g5⟩, g6⟩ := h5
  simp [Cond.before, Cond.holds, Cond.value, h1, h2, h3, h4, g1, g2, g3, g4, g5, g6]
def isCode : Jvm.Cond → Bool
  | .code _ _ _ _ => true
  | _ => false
theorem all_split {L : List Jvm.Cond} {P : Jvm.Cond → Bool} (h1 : L.all (fun c => isCode c || P c) = true) (h2 : ∀ c ∈ L.filter isCode, P c = true) : L.all P = true := by
  refine List.all_eq_true.mpr fun c hc => ?_
  have h := List.all_eq_true.mp h1 c hc
  rcases Bool.eq_false_or_eq_true (isCode c) with hi | hi
  · exact h2 c (List.mem_filter.mpr ⟨hc, hi⟩)
  · simpa [hi] using h
set_option maxRecDepth 65536 in
theorem w_c0 : (Jvm.Cond.code x code maxLocals ret).before args0 about1 = true := code_word (m := ⟨1, 3⟩) (meth := k1m3) (c := k1c3) (by decide +kernel) rfl rfl rfl (by decide +kernel)
set_option maxRecDepth 65536 in
theorem w_c1 : (Jvm.Cond.code ({ cls := "com/example/seshat/seshat/filter/ProbeFnv1aPinLaw", name := "prefix", desc := "(IIII)[B" } : Jvm.MethodName) method_2_code (4 : Nat) (Option.some (Jvm.ClassFile.FieldType.array Jvm.ClassFile.FieldType.byte))).before args0 about1 = true := code_word (m := ⟨1, 1⟩) (meth := k1m1) (c := k1c1) (by decide +kernel) rfl rfl rfl (by decide +kernel)
set_option maxRecDepth 65536 in
theorem w_c2 : (Jvm.Cond.code ({ cls := "com/example/seshat/seshat/filter/ProbeFnv1aPinLaw", name := "extended", desc := "(IIIII)[B" } : Jvm.MethodName) method_3_code (5 : Nat) (Option.some (Jvm.ClassFile.FieldType.array Jvm.ClassFile.FieldType.byte))).before args0 about1 = true := code_word (m := ⟨1, 2⟩) (meth := k1m2) (c := k1c2) (by decide +kernel) rfl rfl rfl (by decide +kernel)
set_option maxRecDepth 65536 in
theorem w_c3 : (Jvm.Cond.code ({ cls := "com/example/seshat/seshat/filter/Probe", name := "fnv1a", desc := "([B)J" } : Jvm.MethodName) prog_6_method_7_code (7 : Nat) (Option.some Jvm.ClassFile.FieldType.long)).before args0 about1 = true := code_word (m := ⟨2, 0⟩) (meth := k2m0) (c := k2c0) (by decide +kernel) rfl rfl rfl (by decide +kernel)
def codes1 : List Jvm.Cond := [Jvm.Cond.code x code maxLocals ret, Jvm.Cond.code ({ cls := "com/example/seshat/seshat/filter/ProbeFnv1aPinLaw", name := "prefix", desc := "(IIII)[B" } : Jvm.MethodName) method_2_code (4 : Nat) (Option.some (Jvm.ClassFile.FieldType.array Jvm.ClassFile.FieldType.byte)), Jvm.Cond.code ({ cls := "com/example/seshat/seshat/filter/ProbeFnv1aPinLaw", name := "extended", desc := "(IIIII)[B" } : Jvm.MethodName) method_3_code (5 : Nat) (Option.some (Jvm.ClassFile.FieldType.array Jvm.ClassFile.FieldType.byte)), Jvm.Cond.code ({ cls := "com/example/seshat/seshat/filter/Probe", name := "fnv1a", desc := "([B)J" } : Jvm.MethodName) prog_6_method_7_code (7 : Nat) (Option.some Jvm.ClassFile.FieldType.long)]
set_option maxRecDepth 65536 in
theorem codes_eq : words1.filter isCode = codes1 := rfl
theorem w_codes : ∀ c ∈ words1.filter isCode, c.before args0 about1 = true := by
  rw [codes_eq]
  intro c hc
  simp only [codes1, List.mem_cons, List.not_mem_nil, or_false] at hc
  rcases hc with rfl | rfl | rfl | rfl
  · exact w_c0
  · exact w_c1
  · exact w_c2
  · exact w_c3
set_option maxRecDepth 65536 in
theorem w_t1 : words1.all (fun c => isCode c || c.before args0 about1) = true := by decide +kernel
theorem w_tables : (allAtoms (Jvm.Cond.code x code maxLocals ret :: tables_1)).before args0 about1 = true := by
  rw [allAtoms_all]
  show words1.all (fun c => c.before args0 about1) = true
  refine all_split ?_ w_codes
  rw [w_t1]
set_option maxRecDepth 65536 in
theorem w_case : (Jvm.Cond.and given_1 narrow_1).before args0 about1 = true := by decide +kernel
theorem w_applies : (headSpec (Jvm.Cond.code x code maxLocals ret :: tables_1) room_1).applies x e0.platform about1 = true :=
  (Spec.applies_iff w_frames).mpr ⟨w_running, w_runnable, w_alone, w_named, w_hears, w_ripe, w_room, w_tables⟩
theorem atStart : AtStart classFile x code maxLocals ret World_1 tables_1 room_1 Calls_1 rest_1 Pre_1 launch0 p0 e0 about1 theMethod args0 below0 :=
  ⟨lists_1, trivial, launch0.admits_env _ _ _, launch0.least_env, fairChoices_fair.cas, fairChoices_fair.clock, w_frames, w_args, w_heap, w_applies, trivial, trivial, w_case⟩
end start1
theorem witness_1 : WitnessClaimed_1 := ⟨start1.p0, start1.e0, start1.about1, start1.theMethod, start1.args0, start1.below0, start1.atStart⟩
end Jvm.Pilot.@@N@@
