import JvmDerived
import JvmDerived.Pilot.@@N@@Statement
import JvmDerived.Pilot.@@N@@Code
set_option linter.unusedVariables false
set_option linter.unusedSimpArgs false
@@BLOCK:NumsL.lean.txt@@
namespace Jvm.RoadKit
open Sem ClassFile Op Lib Jvm.Stand Jvm.Free Jvm.LawKit
section New
variable {p : Program} {l : Launch} {e : Env} {R : Room} {s : State} {m : MethodId} {args : Array Value} {below : List Frame} {meth : Method} {c : Code} {T : State} {locs : List Loc} {cells slots : Nat}
theorem retI (X : Stand p l e R s m args below meth c T locs cells slots) (hx : p.tables.exec = Jvm.exec) {pc : Nat} {Ls : Array Slot} {z : Int32} {rest : List Value} (hret : meth.sig.returnType = some .int) (hd : decode c.code pc = .ok (.ireturn, 1)) {fs : List Frame}
    (hl : ∀ (f : JFrame) (acts : List Action), f.method = m → f.locked = none → f.entered = [] → (doReturn e (T.setTop f) acts (some (.int z))).1 = T.setFrames fs) : Steps p.tables e below (T.setTop (mkF m pc Ls (.int z :: rest))) (T.setFrames fs) :=
  retOut X hx (w := .int z) (t := .int) (i := .ireturn) hret rfl (Or.inl ⟨rfl, Or.inl rfl, z, rfl⟩) hd hl
theorem retJ (X : Stand p l e R s m args below meth c T locs cells slots) (hx : p.tables.exec = Jvm.exec) {pc : Nat} {Ls : Array Slot} {z : Int64} {rest : List Value} (hret : meth.sig.returnType = some .long) (hd : decode c.code pc = .ok (.lreturn, 1)) {fs : List Frame}
    (hl : ∀ (f : JFrame) (acts : List Action), f.method = m → f.locked = none → f.entered = [] → (doReturn e (T.setTop f) acts (some (.long z))).1 = T.setFrames fs) : Steps p.tables e below (T.setTop (mkF m pc Ls (.long z :: rest))) (T.setFrames fs) :=
  retOut X hx (w := .long z) (t := .long) (i := .lreturn) hret rfl (Or.inr (Or.inl ⟨rfl, rfl, z, rfl⟩)) hd hl
theorem retA (X : Stand p l e R s m args below meth c T locs cells slots) (hx : p.tables.exec = Jvm.exec) {pc : Nat} {Ls : Array Slot} {w : Value} {t : FieldType} {rest : List Value} (hret : meth.sig.returnType = some t) (ht : t.isReference = true) (hw : w.isRef = true) (hn : narrow t w = w) (hd : decode c.code pc = .ok (.areturn, 1)) {fs : List Frame}
    (hl : ∀ (f : JFrame) (acts : List Action), f.method = m → f.locked = none → f.entered = [] → (doReturn e (T.setTop f) acts (some w)).1 = T.setFrames fs) : Steps p.tables e below (T.setTop (mkF m pc Ls (w :: rest))) (T.setFrames fs) :=
  retOut X hx (w := w) (t := t) (i := .areturn) hret hn (Or.inr (Or.inr (Or.inr (Or.inr ⟨rfl, ht, hw⟩)))) hd hl
end New
end Jvm.RoadKit
namespace Jvm.Pilot.@@N@@
open Jvm Jvm.ClassFile Sem Op Lib Jvm.Free Jvm.Stand Jvm.LawKit Jvm.RoadKit Bundle Jvm.Pilot.@@N@@.Jvm.D
/-- from S every run comes to T -/
abbrev Go (p : Program) (e : Env) (below : List Frame) (S T : State) : Prop := ∀ t, Steps p.tables e below T t → Steps p.tables e below S t

theorem own_ofNat {c : Int32} {n : Nat} (h : c.toInt = n) : c = Int32.ofNat n := by
  apply Int32.toInt_inj.mp
  have h2 := c.toInt_lt
  rw [Int32.toInt_ofNat', show Int32.size = 4294967296 from rfl, Int.bmod_eq_of_le (by omega) (by omega), h]
theorem own_char (x : Int32) : (x.toUInt32.toUInt16.toUInt32.toInt32).toInt = x.toInt % 65536 := by
  have h : (x.toUInt32.toUInt16.toUInt32.toInt32).toBitVec = (x.toBitVec.setWidth 16).setWidth 32 := rfl
  have h1 : (x.toUInt32.toUInt16.toUInt32.toInt32).toInt = ((x.toBitVec.setWidth 16).setWidth 32).toInt := by rw [← h]; rfl
  rw [h1, BitVec.toInt_eq_toNat_cond]
  have h3 : x.toInt = x.toBitVec.toInt := rfl
  rw [h3, BitVec.toInt_eq_toNat_cond]
  simp only [BitVec.toNat_setWidth]
  have := x.toBitVec.isLt
  split <;> split <;> omega


theorem own_m31 (x : Int32) : 0 ≤ (x &&& 2147483647).toInt := by
  have := Jvm.Kit.i32_mask x 2147483647 (k := 31) (by decide) (by decide); omega
theorem own_rem (x n : Int32) (hn : 0 < n.toInt) : 0 ≤ ((x &&& 2147483647) % n).toInt ∧ ((x &&& 2147483647) % n).toInt < n.toInt := by
  rw [Jvm.Kit.i32_rem_nonneg (own_m31 x)]
  exact ⟨Int.emod_nonneg _ (by omega), Int.emod_lt_of_pos _ hn⟩
theorem own_remeq (x y : Int32) : x - (x / y) * y = x % y := by
  apply Int32.toInt_inj.mp
  have a := (x % y).toInt_lt; have b := (x % y).le_toInt
  rw [Int32.toInt_mod] at a b ⊢
  rw [Int32.toInt_sub, Int32.toInt_mul, Int32.toInt_div, Int.bmod_mul_bmod, Int.sub_bmod_bmod, Int.mul_comm, ← Int.tmod_def]
  exact Jvm.Kit.bmod32 b a
theorem own_irem {tb : Tables} [Ours tb] {e : Env} {below : List Frame} {T target : State} {m : MethodId} {c : Code} {g : JFrame} (h : At T m c below) (hx : tb.exec = Jvm.exec) (hg : g.method = m) {x y : Int32} {rest : List Value} (hd : decode c.code g.pc = .ok (.irem, 1)) (hs : g.stack = .int y :: .int x :: rest) (hy : y ≠ 0)
    (hr : Steps tb e below (T.setTop { g with pc := g.pc + 1, stack := .int (x % y) :: rest }) target) : Steps tb e below (T.setTop g) target := XS.irem h hx hg hd hs hy (by rw [own_remeq]; exact hr)

/-- an array by a function of the place -/
def Arf (Z : State) (h : Heap) (a : Addr) (k : ClassId) (ty : FieldType) (n : Int32) (f : Nat → Value) : Prop := ∃ hs vs dv, Arh Z h a k ty n hs vs dv ∧ ∀ i, i < n.toNatClampNeg → getH hs vs dv i = f i
theorem Arf.ext {Z : State} {h h' : Heap} {a : Addr} {k : ClassId} {ty : FieldType} {n : Int32} {f : Nat → Value} (F : Arf Z h a k ty n f) (E : Ext h h') : Arf Z h' a k ty n f := by
  obtain ⟨hs, vs, dv, A, q⟩ := F; exact ⟨hs, vs, dv, A.ext E, q⟩
theorem Arf.other {Z : State} {h h' : Heap} {a b : Addr} {k : ClassId} {ty : FieldType} {n : Int32} {f : Nat → Value} {sl : Nat} {v : Value} (F : Arf Z h b k ty n f) (W : Wr h h' a sl v) (q : b ≠ a) : Arf Z h' b k ty n f := by
  obtain ⟨hs, vs, dv, A, r⟩ := F; exact ⟨hs, vs, dv, A.other W q, r⟩
theorem Arf.keep {Z : State} {h h' : Heap} {a : Addr} {k : ClassId} {ty : FieldType} {n : Int32} {f : Nat → Value} {ws : List Addr} (F : Arf Z h a k ty n f) (K : Keep h h' ws) (q : a ∉ ws) : Arf Z h' a k ty n f := by
  obtain ⟨hs, vs, dv, A, r⟩ := F; exact ⟨hs, vs, dv, A.keep K q, r⟩
theorem Arf.lt {Z : State} {h : Heap} {a : Addr} {k : ClassId} {ty : FieldType} {n : Int32} {f : Nat → Value} (F : Arf Z h a k ty n f) : a < h.size := by
  obtain ⟨hs, vs, dv, A, r⟩ := F; exact A.lt
theorem Arf.cell {Z : State} {h : Heap} {a : Addr} {k : ClassId} {ty : FieldType} {n : Int32} {f : Nat → Value} (F : Arf Z h a k ty n f) : ∃ cl : Cell, Arr Z h a cl ty ∧ cl.slots.size = n.toNatClampNeg ∧ ¬ n < 0 ∧ ∀ i, i < n.toNatClampNeg → cl.slots[i]? = some (f i) := by
  obtain ⟨hs, vs, dv, ⟨c, A, r1, r2, r3, H, G⟩, q⟩ := F
  exact ⟨c, A, r2, r3, fun i hi => by rw [← q i hi]; exact H i (r2 ▸ hi)⟩
/-- f with v at the place j -/
def own_up (f : Nat → Value) (j : Int32) (v : Value) : Nat → Value := fun i => if i = j.toNatClampNeg then v else f i
theorem Arf.set {Z : State} {h h' : Heap} {a : Addr} {k : ClassId} {ty : FieldType} {n j : Int32} {f : Nat → Value} {v : Value} (F : Arf Z h a k ty n f) (hv : fits ty v = true) (W : Wr h h' a j.toNatClampNeg v) (hj : ¬ j < 0 ∧ j < n) : Arf Z h' a k ty n (own_up f j v) := by
  obtain ⟨hs, vs, dv, ⟨c, A, r1, r2, r3, H, G⟩, q⟩ := F
  refine ⟨(j, v) :: hs, vs, dv, Arh.push A r1 r2 r3 H G hv W (inb_of r2 hj), fun i hi => ?_⟩
  have e := nat_of hj.1
  show (if j.toInt = (i : Int) then v else getH hs vs dv i) = if i = j.toNatClampNeg then v else f i
  by_cases hc : i = j.toNatClampNeg
  · rw [if_pos hc, if_pos (by rw [e, hc])]
  · rw [if_neg hc, if_neg (by rw [e]; omega), q i hi]
theorem Arf.of_arv {Z : State} {h : Heap} {a : Addr} {k : ClassId} {ty : FieldType} {n : Int32} {vs : List Value} {dv : Value} (F : Arv Z h a k ty n vs dv) : Arf Z h a k ty n (fun i => vs.getD i dv) := ⟨[], vs, dv, F, fun _ _ => rfl⟩
theorem Arf.as {Z : State} {h : Heap} {a : Addr} {k : ClassId} {ty : FieldType} {n : Int32} {f g : Nat → Value} (F : Arf Z h a k ty n f) (e : ∀ i, i < n.toNatClampNeg → f i = g i) : Arf Z h a k ty n g := by
  obtain ⟨hs, vs, dv, A, q⟩ := F; exact ⟨hs, vs, dv, A, fun i hi => (q i hi).trans (e i hi)⟩
theorem Arf.new {Z : State} {h : Heap} {a : Addr} {k : ClassId} {ty : FieldType} {n : Int32} (A : Arr Z h a (newA k ty n) ty) (q : ¬ n < 0) : Arf Z h a k ty n (fun _ => defaultValue ty) := (Arf.of_arv (Arv.new A q)).as fun _ _ => rfl
theorem own_lt {j n : Int32} (h : ¬ j < 0 ∧ j < n) : j.toNatClampNeg < n.toNatClampNeg := by
  have h1 := h.1; have h2 := h.2
  rw [Int32.lt_iff_toInt_lt] at h1 h2
  have : (0 : Int32).toInt = 0 := rfl
  show j.toInt.toNat < n.toInt.toNat; omega
theorem ef_1 (m : MethodId) (a1 : Addr) (a2 : Addr) : entryFrame m #[(.ref a1), (.ref a2)] 2 = mkF m 0 #[.val (.ref a1), .val (.ref a2)] [] := by first | (simp [entryFrame, mkF, argsToLocals, Value.category]; done) | rfl
theorem d1_0 : decode prog_38_method_1_code 0 = .ok (.aload_n 0, 1) := by decide +kernel
theorem d1_1 : decode prog_38_method_1_code 1 = .ok (.invokespecial 3, 3) := by decide +kernel
theorem d1_4 : decode prog_38_method_1_code 4 = .ok (.aload_n 0, 1) := by decide +kernel
theorem d1_5 : decode prog_38_method_1_code 5 = .ok (.aload_n 1, 1) := by decide +kernel
theorem d1_6 : decode prog_38_method_1_code 6 = .ok (.invokevirtual 9, 3) := by decide +kernel
theorem d1_9 : decode prog_38_method_1_code 9 = .ok (.checkcast 10, 3) := by decide +kernel
theorem d1_12 : decode prog_38_method_1_code 12 = .ok (.putfield 15, 3) := by decide +kernel
theorem d1_15 : decode prog_38_method_1_code 15 = .ok (.return_, 1) := by decide +kernel
def Q1 (Z : State) (a1 : Addr) (a2 : Addr) (kk : ClassId) (zz : Int32) (f0 : Nat → Value) (h0 : Heap) (n0 : Nat) (v : Option Value) (h : Heap) (L : List Loc) : Prop := v = none ∧ Fr n0 L ∧ Keep h0 h [a1] ∧ Exa Z h a1 "com/example/patchcord/patchcord/media/Sound" ∧ ∃ b, Fld Z h a1 "com/example/patchcord/patchcord/media/Sound" "samples" "[S" (.ref b) ∧ Arf Z h b kk .short zz f0
set_option maxRecDepth 65536 in
set_option maxHeartbeats 40000000 in
theorem pn_com_example_patchcord_patchcord_media_Sound : plainName "com/example/patchcord/patchcord/media/Sound" = true := by first | (simp [plainName, overriddenIn]; done) | decide +kernel
theorem rm1 (l : Launch) (Z : State) (a0 : Array Value) (hw : ∀ d ∈ tables_1, d.before a0 Z = true) (ws : List Jvm.Cond) (a1 : Addr) (a2 : Addr) (kk : ClassId) (zz : Int32) (f0 : Nat → Value) (h0 : Heap) (n0 : Nat) (Z0 : n0 ≤ h0.size) (E1 : Exa Z h0 a1 "com/example/patchcord/patchcord/media/Sound") (F1 : Fld Z h0 a1 "com/example/patchcord/patchcord/media/Sound" "samples" "[S" .null) (E2 : Exa Z h0 a2 "[S") (V2 : Arf Z h0 a2 kk .short zz f0) (hcap : zz.toNatClampNeg ≤ 2047) (g_a1 : n0 ≤ a1) (ne12 : a2 ≠ a1) :
    MetFree l (⟨"com/example/patchcord/patchcord/media/Sound", "<init>", "([S)V"⟩ : MethodName) (head1 (Jvm.Cond.code (⟨"com/example/patchcord/patchcord/media/Sound", "<init>", "([S)V"⟩ : MethodName) prog_38_method_1_code 2 none :: ws) ({ frames := 1, cells := 1, slots := 2047, locals := 15 } : Room)) (fun a U => a = #[(.ref a1), (.ref a2)] ∧ Z.Warmed39 U.vm ∧ U.heap = h0) (fun _ _ _ _ _ => True) (fun _ U o U' => ∃ v L, o = .returned v ∧ Q1 Z a1 a2 kk zz f0 h0 n0 v U'.heap L ∧ FrameEnd U o U' L ({ frames := 1, cells := 1, slots := 2047, locals := 15 } : Room).cells ({ frames := 1, cells := 1, slots := 2047, locals := 15 } : Room).slots) := by
  refine MetFree.of_bodySF (plainFor_of_name pn_com_example_patchcord_patchcord_media_Sound) hisR ?_
  intro p e s m args below meth c s₁ Bd hml0 hP hK
  obtain ⟨rfl, hZ, hh⟩ := hP
  have hx := Bd.exec
  have hby := Bd.bytes
  have hml : c.maxLocals = 2 := hml0
  have hown : s.vm.findClass "com/example/patchcord/patchcord/media/Sound" = some m.cls := findClass_of_methodNamed Bd.named
  have hnm := (name_of_methodNamed Bd.named Bd.method).1
  have hlk : meth.locks = false := BodyLoose.notSynchronized Bd
  have X0 : Stand p l e ({ frames := 1, cells := 1, slots := 2047, locals := 15 } : Room) s m #[(.ref a1), (.ref a2)] below meth c s₁ [] 0 0 := Stand.of_body Bd
  have e0 : s₁.heap = h0 := by rw [← hh, Bd.state]; rfl
  have N0 := Fr.nil n0
  have pre0 : Go p e below (s₁.setTop (entryFrame m #[(.ref a1), (.ref a2)] 2)) (s₁.setTop (mkF m 0 #[.val (.ref a1), .val (.ref a2)] [])) := fun t k => castTop (ef_1 m a1 a2) k
  have pre1 : Go p e below (s₁.setTop (entryFrame m #[(.ref a1), (.ref a2)] 2)) (s₁.setTop (mkF m 1 #[.val (.ref a1), .val (.ref a2)] [(.ref a1)])) := by
    intro t k
    refine pre0 t ?_
    show Steps p.tables e below (s₁.setTop (mkF m 0 #[.val (.ref a1), .val (.ref a2)] [])) _
    refine XS.aloadN X0.here hx rfl (hb hby d1_0) rfl rfl ?_
    show Steps p.tables e below (s₁.setTop (mkF m 1 #[.val (.ref a1), .val (.ref a2)] [(.ref a1)])) _
    exact k
  obtain ⟨T2, X2, e2, st2⟩ := initO X0 hx hZ hown (hw _ (List.mem_of_getElem? (i := 7) rfl)) (hw _ (List.mem_of_getElem? (i := 8) rfl)) (hw _ (List.mem_of_getElem? (i := 9) rfl)) e0 (g := (mkF m 1 #[.val (.ref a1), .val (.ref a2)] [(.ref a1)])) rfl (by rw [hml]; rfl) rfl (hb hby d1_1) (by decide) (W := 0) (by show 2 * 0 + _ ≤ _; exact Nat.le_of_eq rfl) (by decide)
  have pre3 : Go p e below (s₁.setTop (entryFrame m #[(.ref a1), (.ref a2)] 2)) (T2.setTop (mkF m 4 #[.val (.ref a1), .val (.ref a2)] [])) := fun t k => pre1 t (st2 t k)
  have pre4 : Go p e below (s₁.setTop (entryFrame m #[(.ref a1), (.ref a2)] 2)) (T2.setTop (mkF m 6 #[.val (.ref a1), .val (.ref a2)] [(.ref a2), (.ref a1)])) := by
    intro t k
    refine pre3 t ?_
    show Steps p.tables e below (T2.setTop (mkF m 4 #[.val (.ref a1), .val (.ref a2)] [])) _
    refine XS.aloadN X2.here hx rfl (hb hby d1_4) rfl rfl ?_
    show Steps p.tables e below (T2.setTop (mkF m 5 #[.val (.ref a1), .val (.ref a2)] [(.ref a1)])) _
    refine XS.aloadN X2.here hx rfl (hb hby d1_5) rfl rfl ?_
    show Steps p.tables e below (T2.setTop (mkF m 6 #[.val (.ref a1), .val (.ref a2)] [(.ref a2), (.ref a1)])) _
    exact k
  have AQ5 := V2
  obtain ⟨hs0, vs0, dv0, AH5, qh5⟩ := AQ5
  obtain ⟨T5, h5, X5, e5, E5, V5, A5, st5⟩ := cloneH X2 hx hZ hown (hw _ (List.mem_of_getElem? (i := 10) rfl)) (hw _ (List.mem_of_getElem? (i := 11) rfl)) (hw _ (List.mem_of_getElem? (i := 15) rfl)) (hw _ (List.mem_of_getElem? (i := 13) rfl)) (hw _ (List.mem_of_getElem? (i := 14) rfl)) (hw _ (List.mem_of_getElem? (i := 16) rfl)) e2 AH5 E2 (g := (mkF m 6 #[.val (.ref a1), .val (.ref a2)] [(.ref a2), (.ref a1)])) rfl (by rw [hml]; rfl) rfl (hb hby d1_6) (by decide) (W := 1) (by show 2 * 0 + _ ≤ _; exact Nat.le_of_eq rfl) (by decide) (cap := 2047) hcap (by decide) (by decide)
  obtain ⟨b5, g5⟩ : ∃ z, z = h0.size := ⟨_, rfl⟩
  rw [← g5] at V5 A5 st5
  have VF5 : Arf Z h5 b5 kk .short zz f0 := ⟨_, _, _, V5, qh5⟩
  have c6_5 := E1.ext E5
  have c7_5 := F1.ext E5
  have c8_5 := E2.ext E5
  have c9_5 := V2.ext E5
  have zz10 := (Nat.le_trans Z0 E5.1)
  have K11 := (Keep.refl h0 [a1]).ext E5
  have pre12 : Go p e below (s₁.setTop (entryFrame m #[(.ref a1), (.ref a2)] 2)) (T5.setTop (mkF m 9 #[.val (.ref a1), .val (.ref a2)] [(.ref b5), (.ref a1)])) := fun t k => pre4 t (st5 t k)
  obtain ⟨T13, X13, e13, st13⟩ := castY X5 hx hZ hown (hw _ (List.mem_of_getElem? (i := 17) rfl)) e5 (Ins.self A5) (g := (mkF m 9 #[.val (.ref a1), .val (.ref a2)] [(.ref b5), (.ref a1)])) rfl rfl (hb hby d1_9)
  have pre14 : Go p e below (s₁.setTop (entryFrame m #[(.ref a1), (.ref a2)] 2)) (T13.setTop (mkF m 12 #[.val (.ref a1), .val (.ref a2)] [(.ref b5), (.ref a1)])) := fun t k => pre12 t (st13 t k)
  obtain ⟨T15, h15, X15, e15, W15, st15⟩ := putF X13 hx hZ hown (host := "") (Or.inl (hw _ (List.mem_of_getElem? (i := 19) rfl))) Via.refl e13 c7_5 c6_5 (Or.inr ⟨(hw _ (List.mem_of_getElem? (i := 20) rfl)), rfl, hnm⟩) (hw _ (List.mem_of_getElem? (i := 2) rfl)) (ty := (.array .short)) (by decide) rfl rfl (g := (mkF m 12 #[.val (.ref a1), .val (.ref a2)] [(.ref b5), (.ref a1)])) rfl rfl (hb hby d1_12)
  have Fw15 := c7_5.same W15
  have c16_15 := c6_5.wr W15
  have c17_15 := c8_5.wr W15
  have c18_15 := c9_5.other W15 ne12
  have c19_15 := VF5.other W15 (Nat.ne_of_gt (Nat.lt_of_lt_of_le E1.lt (Nat.le_of_eq g5.symm)))
  have c20_15 := A5.wr W15
  have zz21 := (Nat.le_trans zz10 (Keep.of_wr W15).1)
  have K22 := K11.wr W15 (Or.inl (List.mem_singleton.mpr rfl))
  have N15 := Fr.snoc X15 N0 g_a1
  have pre23 : Go p e below (s₁.setTop (entryFrame m #[(.ref a1), (.ref a2)] 2)) (T15.setTop (mkF m 15 #[.val (.ref a1), .val (.ref a2)] [])) := fun t k => pre14 t (st15 t k)
  obtain ⟨fs, hr, hrun, hended, hW, hsame⟩ := X15.leave (hlocks := hlk) (v := none) (fun _ => rfl)
  refine ⟨_, _, pre23 _ (X15.returnOut hx Bd.returns (hb hby d1_15) hr), hrun, hended, _, _, rfl, ?_, ⟨_, rfl⟩, hW, hsame.mono (by decide) (by decide)⟩
  show Q1 Z a1 a2 kk zz f0 h0 n0 _ T15.heap _
  rw [e15]
  exact ⟨rfl, N15, K22, c16_15, ⟨b5, Fw15, c19_15⟩⟩
theorem ef_3 (m : MethodId) (a1 : Addr) : entryFrame m #[(.ref a1)] 1 = mkF m 0 #[.val (.ref a1)] [] := by first | (simp [entryFrame, mkF, argsToLocals, Value.category]; done) | rfl
theorem d3_0 : decode prog_38_method_5_code 0 = .ok (.aload_n 0, 1) := by decide +kernel
theorem d3_1 : decode prog_38_method_5_code 1 = .ok (.getfield 15, 3) := by decide +kernel
theorem d3_4 : decode prog_38_method_5_code 4 = .ok (.arraylength, 1) := by decide +kernel
theorem d3_5 : decode prog_38_method_5_code 5 = .ok (.sipush 160, 3) := by decide +kernel
theorem d3_8 : decode prog_38_method_5_code 8 = .ok (.iadd, 1) := by decide +kernel
theorem d3_9 : decode prog_38_method_5_code 9 = .ok (.iconst 1, 1) := by decide +kernel
theorem d3_10 : decode prog_38_method_5_code 10 = .ok (.isub, 1) := by decide +kernel
theorem d3_11 : decode prog_38_method_5_code 11 = .ok (.sipush 160, 3) := by decide +kernel
theorem d3_14 : decode prog_38_method_5_code 14 = .ok (.idiv, 1) := by decide +kernel
theorem d3_15 : decode prog_38_method_5_code 15 = .ok (.ireturn, 1) := by decide +kernel
def Q3 (Z : State) (a1 : Addr) (b : Addr) (kk : ClassId) (zz : Int32) (f0 : Nat → Value) (h0 : Heap) (n0 : Nat) (v : Option Value) (h : Heap) (L : List Loc) : Prop := v = some (.int (((zz + (160 : Int32)) - (1 : Int32)) / (160 : Int32))) ∧ Fr n0 L ∧ h = h0
set_option maxRecDepth 65536 in
set_option maxHeartbeats 40000000 in
theorem rm3 (l : Launch) (Z : State) (a0 : Array Value) (hw : ∀ d ∈ tables_1, d.before a0 Z = true) (ws : List Jvm.Cond) (a1 : Addr) (b : Addr) (kk : ClassId) (zz : Int32) (f0 : Nat → Value) (h0 : Heap) (n0 : Nat) (Z0 : n0 ≤ h0.size) (F1 : Fld Z h0 a1 "com/example/patchcord/patchcord/media/Sound" "samples" "[S" (.ref b)) (V2 : ∃ cl : Cell, Arr Z h0 b cl .short ∧ cl.slots.size = zz.toNatClampNeg ∧ ¬ zz < 0 ∧ ∀ i, i < zz.toNatClampNeg → cl.slots[i]? = some (f0 i)) :
    MetFree l (⟨"com/example/patchcord/patchcord/media/Sound", "frames", "()I"⟩ : MethodName) (head1 (Jvm.Cond.code (⟨"com/example/patchcord/patchcord/media/Sound", "frames", "()I"⟩ : MethodName) prog_38_method_5_code 1 (some .int) :: ws) ({ frames := 0, cells := 0, slots := 0, locals := 0 } : Room)) (fun a U => a = #[(.ref a1)] ∧ Z.Warmed39 U.vm ∧ U.heap = h0) (fun _ _ _ _ _ => True) (fun _ U o U' => ∃ v L, o = .returned v ∧ Q3 Z a1 b kk zz f0 h0 n0 v U'.heap L ∧ FrameEnd U o U' L ({ frames := 0, cells := 0, slots := 0, locals := 0 } : Room).cells ({ frames := 0, cells := 0, slots := 0, locals := 0 } : Room).slots) := by
  refine MetFree.of_bodySF (plainFor_of_name pn_com_example_patchcord_patchcord_media_Sound) hisR ?_
  intro p e s m args below meth c s₁ Bd hml0 hP hK
  obtain ⟨rfl, hZ, hh⟩ := hP
  have hx := Bd.exec
  have hby := Bd.bytes
  have hml : c.maxLocals = 1 := hml0
  have hown : s.vm.findClass "com/example/patchcord/patchcord/media/Sound" = some m.cls := findClass_of_methodNamed Bd.named
  have hnm := (name_of_methodNamed Bd.named Bd.method).1
  have hlk : meth.locks = false := BodyLoose.notSynchronized Bd
  have X0 : Stand p l e ({ frames := 0, cells := 0, slots := 0, locals := 0 } : Room) s m #[(.ref a1)] below meth c s₁ [] 0 0 := Stand.of_body Bd
  have e0 : s₁.heap = h0 := by rw [← hh, Bd.state]; rfl
  have N0 := Fr.nil n0
  have pre0 : Go p e below (s₁.setTop (entryFrame m #[(.ref a1)] 1)) (s₁.setTop (mkF m 0 #[.val (.ref a1)] [])) := fun t k => castTop (ef_3 m a1) k
  have pre1 : Go p e below (s₁.setTop (entryFrame m #[(.ref a1)] 1)) (s₁.setTop (mkF m 1 #[.val (.ref a1)] [(.ref a1)])) := by
    intro t k
    refine pre0 t ?_
    show Steps p.tables e below (s₁.setTop (mkF m 0 #[.val (.ref a1)] [])) _
    refine XS.aloadN X0.here hx rfl (hb hby d3_0) rfl rfl ?_
    show Steps p.tables e below (s₁.setTop (mkF m 1 #[.val (.ref a1)] [(.ref a1)])) _
    exact k
  obtain ⟨T2, X2, e2, st2⟩ := getF X0 hx hZ hown (host := "") (Or.inl (hw _ (List.mem_of_getElem? (i := 19) rfl))) Via.refl e0 F1 (g := (mkF m 1 #[.val (.ref a1)] [(.ref a1)])) rfl rfl (hb hby d3_1)
  have pre3 : Go p e below (s₁.setTop (entryFrame m #[(.ref a1)] 1)) (T2.setTop (mkF m 4 #[.val (.ref a1)] [(.ref b)])) := fun t k => pre1 t (st2 t k)
  obtain ⟨cl, Ar, SS, NN, -⟩ := V2
  have pre4 : Go p e below (s₁.setTop (entryFrame m #[(.ref a1)] 1)) (T2.setTop (mkF m 15 #[.val (.ref a1)] [(.int (((zz + (160 : Int32)) - (1 : Int32)) / (160 : Int32)))])) := by
    intro t k
    refine pre3 t ?_
    show Steps p.tables e below (T2.setTop (mkF m 4 #[.val (.ref a1)] [(.ref b)])) _
    refine X2.arraylength hx (by rw [e2]; exact Ar.1) (State.isArrayOf_alike hZ.alike Ar.2.1) (g := (mkF m 4 #[.val (.ref a1)] [(.ref b)])) rfl rfl (hb hby d3_4) _ ?_
    rw [len_of SS NN]
    show Steps p.tables e below (T2.setTop (mkF m 5 #[.val (.ref a1)] [(.int zz)])) _
    refine XS.sipush X2.here hx rfl (hb hby d3_5) ?_
    show Steps p.tables e below (T2.setTop (mkF m 8 #[.val (.ref a1)] [(.int (160 : Int32)), (.int zz)])) _
    refine XS.iadd X2.here hx rfl (hb hby d3_8) rfl ?_
    show Steps p.tables e below (T2.setTop (mkF m 9 #[.val (.ref a1)] [(.int (zz + (160 : Int32)))])) _
    refine XS.iconst X2.here hx rfl (hb hby d3_9) ?_
    show Steps p.tables e below (T2.setTop (mkF m 10 #[.val (.ref a1)] [(.int (1 : Int32)), (.int (zz + (160 : Int32)))])) _
    refine XS.isub X2.here hx rfl (hb hby d3_10) rfl ?_
    show Steps p.tables e below (T2.setTop (mkF m 11 #[.val (.ref a1)] [(.int ((zz + (160 : Int32)) - (1 : Int32)))])) _
    refine XS.sipush X2.here hx rfl (hb hby d3_11) ?_
    show Steps p.tables e below (T2.setTop (mkF m 14 #[.val (.ref a1)] [(.int (160 : Int32)), (.int ((zz + (160 : Int32)) - (1 : Int32)))])) _
    refine XS.idiv X2.here hx rfl (hb hby d3_14) rfl (by decide) ?_
    show Steps p.tables e below (T2.setTop (mkF m 15 #[.val (.ref a1)] [(.int (((zz + (160 : Int32)) - (1 : Int32)) / (160 : Int32)))])) _
    exact k
  obtain ⟨fs, hr, hrun, hended, hW, hsame⟩ := X2.leave (hlocks := hlk) (v := some (.int (((zz + (160 : Int32)) - (1 : Int32)) / (160 : Int32)))) (fun h => by rw [Bd.returns] at h; cases h)
  refine ⟨_, _, pre4 _ (retI X2 hx Bd.returns (hb hby d3_15) hr), hrun, hended, _, _, rfl, ?_, ⟨_, rfl⟩, hW, hsame.mono (by decide) (by decide)⟩
  show Q3 Z a1 b kk zz f0 h0 n0 _ T2.heap _
  rw [e2]
  exact ⟨rfl, N0, rfl⟩
theorem own_n {x n : Int32} (h : n = x &&& (2047 : Int32)) : 0 ≤ n.toInt ∧ n.toInt ≤ 2047 := by
  have e := Jvm.Kit.i32_mask x 2047 (k := 11) (by decide) (by decide)
  rw [h, e]; omega
theorem own_f {n f : Int32} (h : 0 ≤ n.toInt ∧ n.toInt ≤ 2047) (hf : f = (((n + (160 : Int32)) - (1 : Int32)) / (160 : Int32))) : f.toInt = (n.toInt + 159) / 160 := by
  have c1 : (160 : Int32).toInt = 160 := rfl
  have c2 : (1 : Int32).toInt = 1 := rfl
  have e1 : (n + (160 : Int32)).toInt = n.toInt + 160 := by rw [Jvm.Kit.i32_add (by omega) (by omega), c1]
  have e2 : ((n + (160 : Int32)) - (1 : Int32)).toInt = n.toInt + 159 := by rw [Jvm.Kit.i32_sub (by omega) (by omega), e1, c2]; omega
  rw [hf, Jvm.Kit.i32_div (by omega), e2, c1, Int.tdiv_eq_ediv_of_nonneg (by omega)]
theorem own_cov {f : Int32} {c : Int64} (h : 0 ≤ f.toInt ∧ f.toInt ≤ 2047) (hc : c = f.toInt64 * (160 : Int64)) : c.toInt = f.toInt * 160 := by
  have c1 : (160 : Int64).toInt = 160 := rfl
  have e := Int32.toInt_toInt64 f
  rw [hc, Jvm.Kit.i64_mul (by rw [c1]; omega) (by rw [c1]; omega), c1, e]
theorem own_bef {f : Int32} {c : Int64} (h : 0 ≤ f.toInt ∧ f.toInt ≤ 2047) (hc : c = (f.toInt64 - (1 : Int64)) * (160 : Int64)) : c.toInt = (f.toInt - 1) * 160 := by
  have c1 : (160 : Int64).toInt = 160 := rfl
  have c2 : (1 : Int64).toInt = 1 := rfl
  have e := Int32.toInt_toInt64 f
  have e1 : (f.toInt64 - (1 : Int64)).toInt = f.toInt - 1 := by rw [Jvm.Kit.i64_sub (by omega) (by omega), c2, e]
  rw [hc, Jvm.Kit.i64_mul (by rw [c1]; omega) (by rw [c1]; omega), c1, e1]
theorem ef_0 (m : MethodId) (x0 : Int32) (x1 : Int32) : entryFrame m #[(.int x0), (.int x1)] maxLocals = mkF m 0 #[.val (.int x0), .val (.int x1), .unset, .unset, .unset, .unset, .unset, .unset, .unset, .unset] [] := by first | (simp [entryFrame, mkF, argsToLocals, Value.category, maxLocals]; done) | rfl
theorem pd_2 : parseMethodDescriptor "([S)V" = some ⟨[(.array .short)], none⟩ := by decide +kernel
theorem pd_3 : parseMethodDescriptor "()I" = some ⟨[], some .int⟩ := by decide +kernel
def Q0 (Z : State) (x0 : Int32) (x1 : Int32) (h0 : Heap) (n0 : Nat) (v : Option Value) (h : Heap) (L : List Loc) : Prop := v = some (.int 1) ∧ Fr n0 L
theorem pn_com_example_patchcord_patchcord_media_SoundFramesPinLaw : plainName "com/example/patchcord/patchcord/media/SoundFramesPinLaw" = true := by first | (simp [plainName, overriddenIn]; done) | decide +kernel
set_option maxRecDepth 65536 in
set_option maxHeartbeats 40000000 in
theorem rm0 (l : Launch) (Z : State) (a0 : Array Value) (hw : ∀ d ∈ tables_1, d.before a0 Z = true) (ws : List Jvm.Cond) (x0 : Int32) (x1 : Int32) (h0 : Heap) (n0 : Nat) (Z0 : n0 ≤ h0.size) :
    MetFree l x (head1 (Jvm.Cond.code x code maxLocals ret :: ws) room_1) (fun a U => a = #[(.int x0), (.int x1)] ∧ Z.Warmed39 U.vm ∧ U.heap = h0) (fun _ _ _ _ _ => True) (fun _ U o U' => ∃ v L, o = .returned v ∧ Q0 Z x0 x1 h0 n0 v U'.heap L ∧ FrameEnd U o U' L 16 8256) := by
  refine MetFree.of_bodySF (plainFor_of_name pn_com_example_patchcord_patchcord_media_SoundFramesPinLaw) hisR ?_
  intro p e s m args below meth c s₁ Bd hml0 hP hK
  obtain ⟨rfl, hZ, hh⟩ := hP
  have hx := Bd.exec
  have hby := Bd.bytes
  have hml : c.maxLocals = 10 := hml0
  have hown : s.vm.findClass "com/example/patchcord/patchcord/media/SoundFramesPinLaw" = some m.cls := findClass_of_methodNamed Bd.named
  have hnm := (name_of_methodNamed Bd.named Bd.method).1
  have hlk : meth.locks = false := BodyLoose.notSynchronized Bd
  have X0 : Stand p l e room_1 s m #[(.int x0), (.int x1)] below meth c s₁ [] 0 0 := Stand.of_body Bd
  have e0 : s₁.heap = h0 := by rw [← hh, Bd.state]; rfl
  have N0 := Fr.nil n0
  have pre0 : Go p e below (s₁.setTop (entryFrame m #[(.int x0), (.int x1)] maxLocals)) (s₁.setTop (mkF m 0 #[.val (.int x0), .val (.int x1), .unset, .unset, .unset, .unset, .unset, .unset, .unset, .unset] [])) := fun t k => castTop (ef_0 m x0 x1) k
  have pre1 : Go p e below (s₁.setTop (entryFrame m #[(.int x0), (.int x1)] maxLocals)) (s₁.setTop (mkF m 5 #[.val (.int x0), .val (.int x1), .unset, .unset, .unset, .unset, .unset, .unset, .unset, .unset] [(.int (x0 &&& (2047 : Int32)))])) := by
    intro t k
    refine pre0 t ?_
    show Steps p.tables e below (s₁.setTop (mkF m 0 #[.val (.int x0), .val (.int x1), .unset, .unset, .unset, .unset, .unset, .unset, .unset, .unset] [])) _
    refine XS.iloadN X0.here hx rfl (hb hby at_0) rfl ?_
    show Steps p.tables e below (s₁.setTop (mkF m 1 #[.val (.int x0), .val (.int x1), .unset, .unset, .unset, .unset, .unset, .unset, .unset, .unset] [(.int x0)])) _
    refine XS.sipush X0.here hx rfl (hb hby at_1) ?_
    show Steps p.tables e below (s₁.setTop (mkF m 4 #[.val (.int x0), .val (.int x1), .unset, .unset, .unset, .unset, .unset, .unset, .unset, .unset] [(.int (2047 : Int32)), (.int x0)])) _
    refine XS.iand X0.here hx rfl (hb hby at_4) rfl ?_
    show Steps p.tables e below (s₁.setTop (mkF m 5 #[.val (.int x0), .val (.int x1), .unset, .unset, .unset, .unset, .unset, .unset, .unset, .unset] [(.int (x0 &&& (2047 : Int32)))])) _
    exact k
  obtain ⟨nn, h_nn⟩ : ∃ z : Int32, z = (x0 &&& (2047 : Int32)) := ⟨_, rfl⟩
  have pre2 : Go p e below (s₁.setTop (entryFrame m #[(.int x0), (.int x1)] maxLocals)) (s₁.setTop (mkF m 5 #[.val (.int x0), .val (.int x1), .unset, .unset, .unset, .unset, .unset, .unset, .unset, .unset] [(.int nn)])) := by rw [h_nn]; exact pre1
  have hnn := own_n h_nn
  have hneg : ¬ nn < 0 := by rw [Int32.lt_iff_toInt_lt]; exact Int.not_lt.mpr hnn.1
  have hcap : nn.toNatClampNeg ≤ 2047 := by show nn.toInt.toNat ≤ 2047; omega
  have pre3 : Go p e below (s₁.setTop (entryFrame m #[(.int x0), (.int x1)] maxLocals)) (s₁.setTop (mkF m 7 #[.val (.int x0), .val (.int x1), .val (.int nn), .unset, .unset, .unset, .unset, .unset, .unset, .unset] [(.int nn)])) := by
    intro t k
    refine pre2 t ?_
    show Steps p.tables e below (s₁.setTop (mkF m 5 #[.val (.int x0), .val (.int x1), .unset, .unset, .unset, .unset, .unset, .unset, .unset, .unset] [(.int nn)])) _
    refine XS.istoreN X0.here hx rfl (hb hby at_5) rfl (l' := #[.val (.int x0), .val (.int x1), .val (.int nn), .unset, .unset, .unset, .unset, .unset, .unset, .unset]) rfl ?_
    show Steps p.tables e below (s₁.setTop (mkF m 6 #[.val (.int x0), .val (.int x1), .val (.int nn), .unset, .unset, .unset, .unset, .unset, .unset, .unset] [])) _
    refine XS.iloadN X0.here hx rfl (hb hby at_6) rfl ?_
    show Steps p.tables e below (s₁.setTop (mkF m 7 #[.val (.int x0), .val (.int x1), .val (.int nn), .unset, .unset, .unset, .unset, .unset, .unset, .unset] [(.int nn)])) _
    exact k
  obtain ⟨T4, h4, k4, X4, e4, E4, A4, B4, st4⟩ := newPE X0 hx hZ (hw _ (List.mem_of_getElem? (i := 0) rfl)) e0 (g := (mkF m 7 #[.val (.int x0), .val (.int x1), .val (.int nn), .unset, .unset, .unset, .unset, .unset, .unset, .unset] [(.int nn)])) rfl (hb hby at_7) rfl hneg (cap := 2047) hcap (by decide) (by decide) (by decide) (ad := "[S") (by decide)
  obtain ⟨b0, gb0⟩ : ∃ z, z = h0.size := ⟨_, rfl⟩
  rw [← gb0] at A4 B4 st4
  have VA := Arf.new A4 hneg
  have g_b0 : n0 ≤ b0 := Nat.le_trans Z0 (Nat.le_of_eq gb0.symm)
  have zz5 := (Nat.le_trans Z0 E4.1)
  have pre6 : Go p e below (s₁.setTop (entryFrame m #[(.int x0), (.int x1)] maxLocals)) (T4.setTop (mkF m 9 #[.val (.int x0), .val (.int x1), .val (.int nn), .unset, .unset, .unset, .unset, .unset, .unset, .unset] [(.ref b0)])) := fun t k => pre3 t (st4 t k)
  have pre7 : Go p e below (s₁.setTop (entryFrame m #[(.int x0), (.int x1)] maxLocals)) (T4.setTop (mkF m 11 #[.val (.int x0), .val (.int x1), .val (.int nn), .val (.ref b0), .unset, .unset, .unset, .unset, .unset, .unset] [(.int nn)])) := by
    intro t k
    refine pre6 t ?_
    show Steps p.tables e below (T4.setTop (mkF m 9 #[.val (.int x0), .val (.int x1), .val (.int nn), .unset, .unset, .unset, .unset, .unset, .unset, .unset] [(.ref b0)])) _
    refine XS.astoreN X4.here hx rfl (hb hby at_9) rfl rfl (l' := #[.val (.int x0), .val (.int x1), .val (.int nn), .val (.ref b0), .unset, .unset, .unset, .unset, .unset, .unset]) rfl ?_
    show Steps p.tables e below (T4.setTop (mkF m 10 #[.val (.int x0), .val (.int x1), .val (.int nn), .val (.ref b0), .unset, .unset, .unset, .unset, .unset, .unset] [])) _
    refine XS.iloadN X4.here hx rfl (hb hby at_10) rfl ?_
    show Steps p.tables e below (T4.setTop (mkF m 11 #[.val (.int x0), .val (.int x1), .val (.int nn), .val (.ref b0), .unset, .unset, .unset, .unset, .unset, .unset] [(.int nn)])) _
    exact k
  by_cases hc11_8 : (0 : Int32) < nn
  · skip
    have pre9 : Go p e below (s₁.setTop (entryFrame m #[(.int x0), (.int x1)] maxLocals)) (T4.setTop (mkF m 20 #[.val (.int x0), .val (.int x1), .val (.int nn), .val (.ref b0), .unset, .unset, .unset, .unset, .unset, .unset] [(.int ((x1).toInt16.toInt32)), (.int (nn - (1 : Int32))), (.ref b0)])) := by
      intro t k
      refine pre7 t ?_
      show Steps p.tables e below (T4.setTop (mkF m 11 #[.val (.int x0), .val (.int x1), .val (.int nn), .val (.ref b0), .unset, .unset, .unset, .unset, .unset, .unset] [(.int nn)])) _
      refine XS.ifNo X4.here hx rfl (hb hby at_11) rfl (XT.i0_le_f hc11_8) ?_
      show Steps p.tables e below (T4.setTop (mkF m 14 #[.val (.int x0), .val (.int x1), .val (.int nn), .val (.ref b0), .unset, .unset, .unset, .unset, .unset, .unset] [])) _
      refine XS.aloadN X4.here hx rfl (hb hby at_14) rfl rfl ?_
      show Steps p.tables e below (T4.setTop (mkF m 15 #[.val (.int x0), .val (.int x1), .val (.int nn), .val (.ref b0), .unset, .unset, .unset, .unset, .unset, .unset] [(.ref b0)])) _
      refine XS.iloadN X4.here hx rfl (hb hby at_15) rfl ?_
      show Steps p.tables e below (T4.setTop (mkF m 16 #[.val (.int x0), .val (.int x1), .val (.int nn), .val (.ref b0), .unset, .unset, .unset, .unset, .unset, .unset] [(.int nn), (.ref b0)])) _
      refine XS.iconst X4.here hx rfl (hb hby at_16) ?_
      show Steps p.tables e below (T4.setTop (mkF m 17 #[.val (.int x0), .val (.int x1), .val (.int nn), .val (.ref b0), .unset, .unset, .unset, .unset, .unset, .unset] [(.int (1 : Int32)), (.int nn), (.ref b0)])) _
      refine XS.isub X4.here hx rfl (hb hby at_17) rfl ?_
      show Steps p.tables e below (T4.setTop (mkF m 18 #[.val (.int x0), .val (.int x1), .val (.int nn), .val (.ref b0), .unset, .unset, .unset, .unset, .unset, .unset] [(.int (nn - (1 : Int32))), (.ref b0)])) _
      refine XS.iloadN X4.here hx rfl (hb hby at_18) rfl ?_
      show Steps p.tables e below (T4.setTop (mkF m 19 #[.val (.int x0), .val (.int x1), .val (.int nn), .val (.ref b0), .unset, .unset, .unset, .unset, .unset, .unset] [(.int x1), (.int (nn - (1 : Int32))), (.ref b0)])) _
      refine XS.i2s X4.here hx rfl (hb hby at_19) rfl ?_
      show Steps p.tables e below (T4.setTop (mkF m 20 #[.val (.int x0), .val (.int x1), .val (.int nn), .val (.ref b0), .unset, .unset, .unset, .unset, .unset, .unset] [(.int ((x1).toInt16.toInt32)), (.int (nn - (1 : Int32))), (.ref b0)])) _
      exact k
    obtain ⟨cl10, Ar10, SS10, NN10, -⟩ := VA.cell
    have hj10 : ¬ (nn - (1 : Int32)) < 0 ∧ (nn - (1 : Int32)) < nn := by
      have c1 : (1 : Int32).toInt = 1 := rfl
      have c0 : (0 : Int32).toInt = 0 := rfl
      have hp : 0 < nn.toInt := by have q := hc11_8; rw [Int32.lt_iff_toInt_lt] at q; exact q
      have e1 : (nn - (1 : Int32)).toInt = nn.toInt - 1 := by rw [Jvm.Kit.i32_sub (by omega) (by omega), c1]
      rw [Int32.lt_iff_toInt_lt, Int32.lt_iff_toInt_lt]; omega
    obtain ⟨T10, h10, X10, e10, W10, st10⟩ := stS X4 hx hZ e4 Ar10 (j := (nn - (1 : Int32))) (inb_of SS10 hj10) (g := (mkF m 20 #[.val (.int x0), .val (.int x1), .val (.int nn), .val (.ref b0), .unset, .unset, .unset, .unset, .unset, .unset] [(.int ((x1).toInt16.toInt32)), (.int (nn - (1 : Int32))), (.ref b0)])) rfl rfl (hb hby at_20)
    have VA10 := VA.set (fits_nar_short _) W10 hj10
    have c11_10 := B4.wr W10
    have zz12 := (Nat.le_trans zz5 (Keep.of_wr W10).1)
    have N10 := Fr.snoc X10 N0 g_b0
    have pre13 : Go p e below (s₁.setTop (entryFrame m #[(.int x0), (.int x1)] maxLocals)) (T10.setTop (mkF m 21 #[.val (.int x0), .val (.int x1), .val (.int nn), .val (.ref b0), .unset, .unset, .unset, .unset, .unset, .unset] [])) := fun t k => pre9 t (st10 t k)
    obtain ⟨T14, h14, X14, e14, E14, A14, D14, -, st14⟩ := newO X10 hx hZ hown (hw _ (List.mem_of_getElem? (i := 1) rfl)) (hw _ (List.mem_of_getElem? (i := 2) rfl)) (hw _ (List.mem_of_getElem? (i := 3) rfl)) e10 (g := (mkF m 21 #[.val (.int x0), .val (.int x1), .val (.int nn), .val (.ref b0), .unset, .unset, .unset, .unset, .unset, .unset] [])) rfl (hb hby at_21) (by decide) (by decide)
    obtain ⟨b1, g14⟩ : ∃ z, z = h10.size := ⟨_, rfl⟩
    rw [← g14] at A14 D14 st14
    have c15_14 := VA10.ext E14
    have c16_14 := c11_10.ext E14
    have zz17 := (Nat.le_trans zz12 E14.1)
    have F_samples_b1 : Fld Z h14 b1 "com/example/patchcord/patchcord/media/Sound" "samples" "[S" .null := D14 (Or.inr (hw _ (List.mem_of_getElem? (i := 20) rfl))) (ty := (.array .short)) (by decide)
    have g_b1 : n0 ≤ b1 := Nat.le_trans zz12 (Nat.le_of_eq g14.symm)
    have ne_b0_b1 : b0 ≠ b1 := Nat.ne_of_lt (Nat.lt_of_lt_of_le VA10.lt (Nat.le_of_eq g14.symm))
    have ne_b0_b1 : b0 ≠ b1 := Nat.ne_of_lt (Nat.lt_of_lt_of_le c11_10.lt (Nat.le_of_eq g14.symm))
    have pre18 : Go p e below (s₁.setTop (entryFrame m #[(.int x0), (.int x1)] maxLocals)) (T14.setTop (mkF m 24 #[.val (.int x0), .val (.int x1), .val (.int nn), .val (.ref b0), .unset, .unset, .unset, .unset, .unset, .unset] [(.ref b1)])) := fun t k => pre13 t (st14 t k)
    have pre19 : Go p e below (s₁.setTop (entryFrame m #[(.int x0), (.int x1)] maxLocals)) (T14.setTop (mkF m 26 #[.val (.int x0), .val (.int x1), .val (.int nn), .val (.ref b0), .unset, .unset, .unset, .unset, .unset, .unset] [(.ref b0), (.ref b1), (.ref b1)])) := by
      intro t k
      refine pre18 t ?_
      show Steps p.tables e below (T14.setTop (mkF m 24 #[.val (.int x0), .val (.int x1), .val (.int nn), .val (.ref b0), .unset, .unset, .unset, .unset, .unset, .unset] [(.ref b1)])) _
      refine XS.dup X14.here hx rfl (hb hby at_24) rfl rfl ?_
      show Steps p.tables e below (T14.setTop (mkF m 25 #[.val (.int x0), .val (.int x1), .val (.int nn), .val (.ref b0), .unset, .unset, .unset, .unset, .unset, .unset] [(.ref b1), (.ref b1)])) _
      refine XS.aloadN X14.here hx rfl (hb hby at_25) rfl rfl ?_
      show Steps p.tables e below (T14.setTop (mkF m 26 #[.val (.int x0), .val (.int x1), .val (.int nn), .val (.ref b0), .unset, .unset, .unset, .unset, .unset, .unset] [(.ref b0), (.ref b1), (.ref b1)])) _
      exact k
    obtain ⟨_, _, ⟨T20, L20, k20, n20⟩, -, X20, ⟨Lc20, hQ20, l20, y20, z20⟩, st20⟩ := X14.specialBack hx (y := (⟨"com/example/patchcord/patchcord/media/Sound", "<init>", "([S)V"⟩ : MethodName)) rfl hown (mvT hZ (hw _ (List.mem_of_getElem? (i := 4) rfl))) (mvT hZ (hw _ (List.mem_of_getElem? (i := 5) rfl))) (mvT hZ (hw _ (List.mem_of_getElem? (i := 6) rfl))) (by decide) (backOf (W := 1) (rm1 l Z a0 hw [] b1 b0 k4 nn (own_up (fun _ => defaultValue .short) (nn - (1 : Int32)) (.int (nar .short ((x1).toInt16.toInt32)))) h14 n0 zz17 A14 F_samples_b1 c16_14 c15_14 hcap g_b1 ne_b0_b1) hZ (hw _ (List.mem_of_getElem? (i := 6) rfl)) (hw _ (List.mem_of_getElem? (i := 3) rfl)) (by decide) (by decide)) (g := (mkF m 26 #[.val (.int x0), .val (.int x1), .val (.int nn), .val (.ref b0), .unset, .unset, .unset, .unset, .unset, .unset] [(.ref b0), (.ref b1), (.ref b1)])) rfl (by rw [hml]; rfl) (Steps.refl _) (a := b1) (argsL := [(.ref b0)]) (rest := [(.ref b1)]) (lenOf pd_2 rfl) rfl (by show 2 * 0 + _ ≤ _; exact Nat.le_of_eq rfl) (hb hby at_26) (fun _ _ => ⟨rfl, e14, (by decide : 2 + 1 ≤ _), (by decide : 2048 + 2047 ≤ _)⟩)
    dsimp only [Pt.U, Pt.locs, Pt.cells, Pt.slots] at X20 l20 y20 z20 st20 hQ20
    subst l20 y20 z20
    obtain ⟨rfl, N20q, K20, X20e, ⟨bb, Fb, Vb⟩⟩ := hQ20
    have N20 := Fr.app N10 N20q
    have kc21 := c15_14.keep K20 (ninS ne_b0_b1 nin0)
    have kc22 := c16_14.keep K20
    have kc23 := A14.keep K20
    have zz24 := Nat.le_trans zz17 K20.1
    have pre25 : Go p e below (s₁.setTop (entryFrame m #[(.int x0), (.int x1)] maxLocals)) (T20.setTop (mkF m 29 #[.val (.int x0), .val (.int x1), .val (.int nn), .val (.ref b0), .unset, .unset, .unset, .unset, .unset, .unset] [(.ref b1)])) := fun t k => pre19 t (st20.trans k)
    have pre26 : Go p e below (s₁.setTop (entryFrame m #[(.int x0), (.int x1)] maxLocals)) (T20.setTop (mkF m 33 #[.val (.int x0), .val (.int x1), .val (.int nn), .val (.ref b0), .val (.ref b1), .unset, .unset, .unset, .unset, .unset] [(.ref b1)])) := by
      intro t k
      refine pre25 t ?_
      show Steps p.tables e below (T20.setTop (mkF m 29 #[.val (.int x0), .val (.int x1), .val (.int nn), .val (.ref b0), .unset, .unset, .unset, .unset, .unset, .unset] [(.ref b1)])) _
      refine XS.astore X20.here hx rfl (hb hby at_29) rfl rfl (l' := #[.val (.int x0), .val (.int x1), .val (.int nn), .val (.ref b0), .val (.ref b1), .unset, .unset, .unset, .unset, .unset]) rfl ?_
      show Steps p.tables e below (T20.setTop (mkF m 31 #[.val (.int x0), .val (.int x1), .val (.int nn), .val (.ref b0), .val (.ref b1), .unset, .unset, .unset, .unset, .unset] [])) _
      refine XS.aload X20.here hx rfl (hb hby at_31) rfl rfl ?_
      show Steps p.tables e below (T20.setTop (mkF m 33 #[.val (.int x0), .val (.int x1), .val (.int nn), .val (.ref b0), .val (.ref b1), .unset, .unset, .unset, .unset, .unset] [(.ref b1)])) _
      exact k
    obtain ⟨cq27, kq27, q27a, q27b, q27c⟩ := isOf hZ rfl kc23
    obtain ⟨_, _, ⟨T27, L27, k27, n27⟩, -, X27, ⟨Lc27, hQ27, l27, y27, z27⟩, st27⟩ := X20.virtualBack hx (y := (⟨"com/example/patchcord/patchcord/media/Sound", "frames", "()I"⟩ : MethodName)) (z := (⟨"com/example/patchcord/patchcord/media/Sound", "frames", "()I"⟩ : MethodName)) hown (mvT hZ (hw _ (List.mem_of_getElem? (i := 21) rfl))) (mvT hZ (hw _ (List.mem_of_getElem? (i := 22) rfl))) (notFace_of_selects (args := #[]) (mvT hZ (hw _ (List.mem_of_getElem? (i := 24) rfl)))) (mvT hZ (hw _ (List.mem_of_getElem? (i := 24) rfl))) (mvT hZ (hw _ (List.mem_of_getElem? (i := 23) rfl))) (by decide) (backOf (W := 0) (rm3 l Z a0 hw [] b1 bb k4 nn (own_up (fun _ => defaultValue .short) (nn - (1 : Int32)) (.int (nar .short ((x1).toInt16.toInt32)))) T20.heap n0 zz24 Fb Vb.cell) hZ (hw _ (List.mem_of_getElem? (i := 25) rfl)) (hw _ (List.mem_of_getElem? (i := 3) rfl)) (by decide) (by decide)) q27a q27c (g := (mkF m 33 #[.val (.int x0), .val (.int x1), .val (.int nn), .val (.ref b0), .val (.ref b1), .unset, .unset, .unset, .unset, .unset] [(.ref b1)])) rfl (by rw [hml]; rfl) (Steps.refl _) (argsL := []) (rest := []) (lenOf pd_3 rfl) rfl (by show 2 * 0 + _ ≤ _; exact Nat.le_of_eq rfl) (hb hby at_33) (fun _ _ => ⟨rfl, rfl, (by decide : 3 + 0 ≤ _), (by decide : 4095 + 0 ≤ _)⟩)
    dsimp only [Pt.U, Pt.locs, Pt.cells, Pt.slots] at X27 l27 y27 z27 st27 hQ27
    subst l27 y27 z27
    obtain ⟨rfl, N27q, hh27⟩ := hQ27
    have N27 := Fr.app N20 N27q
    have pre28 : Go p e below (s₁.setTop (entryFrame m #[(.int x0), (.int x1)] maxLocals)) (T27.setTop (mkF m 36 #[.val (.int x0), .val (.int x1), .val (.int nn), .val (.ref b0), .val (.ref b1), .unset, .unset, .unset, .unset, .unset] [(.int (((nn + (160 : Int32)) - (1 : Int32)) / (160 : Int32)))])) := fun t k => pre26 t (st27.trans k)
    obtain ⟨ff, h_ff⟩ : ∃ z : Int32, z = (((nn + (160 : Int32)) - (1 : Int32)) / (160 : Int32)) := ⟨_, rfl⟩
    have pre29 : Go p e below (s₁.setTop (entryFrame m #[(.int x0), (.int x1)] maxLocals)) (T27.setTop (mkF m 36 #[.val (.int x0), .val (.int x1), .val (.int nn), .val (.ref b0), .val (.ref b1), .unset, .unset, .unset, .unset, .unset] [(.int ff)])) := by rw [h_ff]; exact pre28
    have hff := own_f hnn h_ff
    have pre30 : Go p e below (s₁.setTop (entryFrame m #[(.int x0), (.int x1)] maxLocals)) (T27.setTop (mkF m 45 #[.val (.int x0), .val (.int x1), .val (.int nn), .val (.ref b0), .val (.ref b1), .val (.int ff), .unset, .unset, .unset, .unset] [(.long (((ff).toInt64) * (160 : Int64)))])) := by
      intro t k
      refine pre29 t ?_
      show Steps p.tables e below (T27.setTop (mkF m 36 #[.val (.int x0), .val (.int x1), .val (.int nn), .val (.ref b0), .val (.ref b1), .unset, .unset, .unset, .unset, .unset] [(.int ff)])) _
      refine XS.istore X27.here hx rfl (hb hby at_36) rfl (l' := #[.val (.int x0), .val (.int x1), .val (.int nn), .val (.ref b0), .val (.ref b1), .val (.int ff), .unset, .unset, .unset, .unset]) rfl ?_
      show Steps p.tables e below (T27.setTop (mkF m 38 #[.val (.int x0), .val (.int x1), .val (.int nn), .val (.ref b0), .val (.ref b1), .val (.int ff), .unset, .unset, .unset, .unset] [])) _
      refine XS.iload X27.here hx rfl (hb hby at_38) rfl ?_
      show Steps p.tables e below (T27.setTop (mkF m 40 #[.val (.int x0), .val (.int x1), .val (.int nn), .val (.ref b0), .val (.ref b1), .val (.int ff), .unset, .unset, .unset, .unset] [(.int ff)])) _
      refine XS.i2l X27.here hx rfl (hb hby at_40) rfl ?_
      show Steps p.tables e below (T27.setTop (mkF m 41 #[.val (.int x0), .val (.int x1), .val (.int nn), .val (.ref b0), .val (.ref b1), .val (.int ff), .unset, .unset, .unset, .unset] [(.long ((ff).toInt64))])) _
      refine X27.ldc2J hx hown (mvT hZ (hw _ (List.mem_of_getElem? (i := 26) rfl))) (g := (mkF m 41 #[.val (.int x0), .val (.int x1), .val (.int nn), .val (.ref b0), .val (.ref b1), .val (.int ff), .unset, .unset, .unset, .unset] [(.long ((ff).toInt64))])) rfl (hb hby at_41) ?_
      show Steps p.tables e below (T27.setTop (mkF m 44 #[.val (.int x0), .val (.int x1), .val (.int nn), .val (.ref b0), .val (.ref b1), .val (.int ff), .unset, .unset, .unset, .unset] [(.long (160 : Int64)), (.long ((ff).toInt64))])) _
      refine XS.lmul X27.here hx rfl (hb hby at_44) rfl ?_
      show Steps p.tables e below (T27.setTop (mkF m 45 #[.val (.int x0), .val (.int x1), .val (.int nn), .val (.ref b0), .val (.ref b1), .val (.int ff), .unset, .unset, .unset, .unset] [(.long (((ff).toInt64) * (160 : Int64)))])) _
      exact k
    obtain ⟨cov, h_cov⟩ : ∃ z : Int64, z = (((ff).toInt64) * (160 : Int64)) := ⟨_, rfl⟩
    have pre31 : Go p e below (s₁.setTop (entryFrame m #[(.int x0), (.int x1)] maxLocals)) (T27.setTop (mkF m 45 #[.val (.int x0), .val (.int x1), .val (.int nn), .val (.ref b0), .val (.ref b1), .val (.int ff), .unset, .unset, .unset, .unset] [(.long cov)])) := by rw [h_cov]; exact pre30
    have hcov := own_cov ⟨by omega, by omega⟩ h_cov
    have pre32 : Go p e below (s₁.setTop (entryFrame m #[(.int x0), (.int x1)] maxLocals)) (T27.setTop (mkF m 56 #[.val (.int x0), .val (.int x1), .val (.int nn), .val (.ref b0), .val (.ref b1), .val (.int ff), .val (.long cov), .second, .unset, .unset] [(.long ((((ff).toInt64) - (1 : Int64)) * (160 : Int64)))])) := by
      intro t k
      refine pre31 t ?_
      show Steps p.tables e below (T27.setTop (mkF m 45 #[.val (.int x0), .val (.int x1), .val (.int nn), .val (.ref b0), .val (.ref b1), .val (.int ff), .unset, .unset, .unset, .unset] [(.long cov)])) _
      refine XT.lstore X27.here hx rfl (hb hby at_45) rfl (l' := #[.val (.int x0), .val (.int x1), .val (.int nn), .val (.ref b0), .val (.ref b1), .val (.int ff), .val (.long cov), .second, .unset, .unset]) rfl ?_
      show Steps p.tables e below (T27.setTop (mkF m 47 #[.val (.int x0), .val (.int x1), .val (.int nn), .val (.ref b0), .val (.ref b1), .val (.int ff), .val (.long cov), .second, .unset, .unset] [])) _
      refine XS.iload X27.here hx rfl (hb hby at_47) rfl ?_
      show Steps p.tables e below (T27.setTop (mkF m 49 #[.val (.int x0), .val (.int x1), .val (.int nn), .val (.ref b0), .val (.ref b1), .val (.int ff), .val (.long cov), .second, .unset, .unset] [(.int ff)])) _
      refine XS.i2l X27.here hx rfl (hb hby at_49) rfl ?_
      show Steps p.tables e below (T27.setTop (mkF m 50 #[.val (.int x0), .val (.int x1), .val (.int nn), .val (.ref b0), .val (.ref b1), .val (.int ff), .val (.long cov), .second, .unset, .unset] [(.long ((ff).toInt64))])) _
      refine XT.lconstV X27.here hx rfl (1 : Int64) (hb hby at_50) rfl ?_
      show Steps p.tables e below (T27.setTop (mkF m 51 #[.val (.int x0), .val (.int x1), .val (.int nn), .val (.ref b0), .val (.ref b1), .val (.int ff), .val (.long cov), .second, .unset, .unset] [(.long (1 : Int64)), (.long ((ff).toInt64))])) _
      refine XS.lsub X27.here hx rfl (hb hby at_51) rfl ?_
      show Steps p.tables e below (T27.setTop (mkF m 52 #[.val (.int x0), .val (.int x1), .val (.int nn), .val (.ref b0), .val (.ref b1), .val (.int ff), .val (.long cov), .second, .unset, .unset] [(.long (((ff).toInt64) - (1 : Int64)))])) _
      refine X27.ldc2J hx hown (mvT hZ (hw _ (List.mem_of_getElem? (i := 26) rfl))) (g := (mkF m 52 #[.val (.int x0), .val (.int x1), .val (.int nn), .val (.ref b0), .val (.ref b1), .val (.int ff), .val (.long cov), .second, .unset, .unset] [(.long (((ff).toInt64) - (1 : Int64)))])) rfl (hb hby at_52) ?_
      show Steps p.tables e below (T27.setTop (mkF m 55 #[.val (.int x0), .val (.int x1), .val (.int nn), .val (.ref b0), .val (.ref b1), .val (.int ff), .val (.long cov), .second, .unset, .unset] [(.long (160 : Int64)), (.long (((ff).toInt64) - (1 : Int64)))])) _
      refine XS.lmul X27.here hx rfl (hb hby at_55) rfl ?_
      show Steps p.tables e below (T27.setTop (mkF m 56 #[.val (.int x0), .val (.int x1), .val (.int nn), .val (.ref b0), .val (.ref b1), .val (.int ff), .val (.long cov), .second, .unset, .unset] [(.long ((((ff).toInt64) - (1 : Int64)) * (160 : Int64)))])) _
      exact k
    obtain ⟨bef, h_bef⟩ : ∃ z : Int64, z = ((((ff).toInt64) - (1 : Int64)) * (160 : Int64)) := ⟨_, rfl⟩
    have pre33 : Go p e below (s₁.setTop (entryFrame m #[(.int x0), (.int x1)] maxLocals)) (T27.setTop (mkF m 56 #[.val (.int x0), .val (.int x1), .val (.int nn), .val (.ref b0), .val (.ref b1), .val (.int ff), .val (.long cov), .second, .unset, .unset] [(.long bef)])) := by rw [h_bef]; exact pre32
    have hbef := own_bef ⟨by omega, by omega⟩ h_bef
    have pre34 : Go p e below (s₁.setTop (entryFrame m #[(.int x0), (.int x1)] maxLocals)) (T27.setTop (mkF m 60 #[.val (.int x0), .val (.int x1), .val (.int nn), .val (.ref b0), .val (.ref b1), .val (.int ff), .val (.long cov), .second, .val (.long bef), .second] [(.int ff)])) := by
      intro t k
      refine pre33 t ?_
      show Steps p.tables e below (T27.setTop (mkF m 56 #[.val (.int x0), .val (.int x1), .val (.int nn), .val (.ref b0), .val (.ref b1), .val (.int ff), .val (.long cov), .second, .unset, .unset] [(.long bef)])) _
      refine XT.lstore X27.here hx rfl (hb hby at_56) rfl (l' := #[.val (.int x0), .val (.int x1), .val (.int nn), .val (.ref b0), .val (.ref b1), .val (.int ff), .val (.long cov), .second, .val (.long bef), .second]) rfl ?_
      show Steps p.tables e below (T27.setTop (mkF m 58 #[.val (.int x0), .val (.int x1), .val (.int nn), .val (.ref b0), .val (.ref b1), .val (.int ff), .val (.long cov), .second, .val (.long bef), .second] [])) _
      refine XS.iload X27.here hx rfl (hb hby at_58) rfl ?_
      show Steps p.tables e below (T27.setTop (mkF m 60 #[.val (.int x0), .val (.int x1), .val (.int nn), .val (.ref b0), .val (.ref b1), .val (.int ff), .val (.long cov), .second, .val (.long bef), .second] [(.int ff)])) _
      exact k
    have hc60_35 : ¬ (ff < (0 : Int32)) := by
      rw [Int32.lt_iff_toInt_lt]; have c0 : (0 : Int32).toInt = 0 := rfl; have c3 := Int32.toInt_toInt64 nn; omega
    have pre36 : Go p e below (s₁.setTop (entryFrame m #[(.int x0), (.int x1)] maxLocals)) (T27.setTop (mkF m 68 #[.val (.int x0), .val (.int x1), .val (.int nn), .val (.ref b0), .val (.ref b1), .val (.int ff), .val (.long cov), .second, .val (.long bef), .second] [(.int (XT.cmpL cov ((nn).toInt64)))])) := by
      intro t k
      refine pre34 t ?_
      show Steps p.tables e below (T27.setTop (mkF m 60 #[.val (.int x0), .val (.int x1), .val (.int nn), .val (.ref b0), .val (.ref b1), .val (.int ff), .val (.long cov), .second, .val (.long bef), .second] [(.int ff)])) _
      refine XS.ifNo X27.here hx rfl (hb hby at_60) rfl (XT.i0_lt_f hc60_35) ?_
      show Steps p.tables e below (T27.setTop (mkF m 63 #[.val (.int x0), .val (.int x1), .val (.int nn), .val (.ref b0), .val (.ref b1), .val (.int ff), .val (.long cov), .second, .val (.long bef), .second] [])) _
      refine XT.lload X27.here hx rfl (hb hby at_63) rfl ?_
      show Steps p.tables e below (T27.setTop (mkF m 65 #[.val (.int x0), .val (.int x1), .val (.int nn), .val (.ref b0), .val (.ref b1), .val (.int ff), .val (.long cov), .second, .val (.long bef), .second] [(.long cov)])) _
      refine XS.iloadN X27.here hx rfl (hb hby at_65) rfl ?_
      show Steps p.tables e below (T27.setTop (mkF m 66 #[.val (.int x0), .val (.int x1), .val (.int nn), .val (.ref b0), .val (.ref b1), .val (.int ff), .val (.long cov), .second, .val (.long bef), .second] [(.int nn), (.long cov)])) _
      refine XS.i2l X27.here hx rfl (hb hby at_66) rfl ?_
      show Steps p.tables e below (T27.setTop (mkF m 67 #[.val (.int x0), .val (.int x1), .val (.int nn), .val (.ref b0), .val (.ref b1), .val (.int ff), .val (.long cov), .second, .val (.long bef), .second] [(.long ((nn).toInt64)), (.long cov)])) _
      refine XT.lcmp X27.here hx rfl (hb hby at_67) rfl ?_
      show Steps p.tables e below (T27.setTop (mkF m 68 #[.val (.int x0), .val (.int x1), .val (.int nn), .val (.ref b0), .val (.ref b1), .val (.int ff), .val (.long cov), .second, .val (.long bef), .second] [(.int (XT.cmpL cov ((nn).toInt64)))])) _
      exact k
    have hc68_37 : ¬ (cov < ((nn).toInt64)) := by
      rw [Int64.lt_iff_toInt_lt]; have c0 : (0 : Int32).toInt = 0 := rfl; have c3 := Int32.toInt_toInt64 nn; omega
    have pre38 : Go p e below (s₁.setTop (entryFrame m #[(.int x0), (.int x1)] maxLocals)) (T27.setTop (mkF m 76 #[.val (.int x0), .val (.int x1), .val (.int nn), .val (.ref b0), .val (.ref b1), .val (.int ff), .val (.long cov), .second, .val (.long bef), .second] [(.int (XT.cmpL bef ((nn).toInt64)))])) := by
      intro t k
      refine pre36 t ?_
      show Steps p.tables e below (T27.setTop (mkF m 68 #[.val (.int x0), .val (.int x1), .val (.int nn), .val (.ref b0), .val (.ref b1), .val (.int ff), .val (.long cov), .second, .val (.long bef), .second] [(.int (XT.cmpL cov ((nn).toInt64)))])) _
      refine XS.ifNo X27.here hx rfl (hb hby at_68) rfl (XT.ll_lt_f hc68_37) ?_
      show Steps p.tables e below (T27.setTop (mkF m 71 #[.val (.int x0), .val (.int x1), .val (.int nn), .val (.ref b0), .val (.ref b1), .val (.int ff), .val (.long cov), .second, .val (.long bef), .second] [])) _
      refine XT.lload X27.here hx rfl (hb hby at_71) rfl ?_
      show Steps p.tables e below (T27.setTop (mkF m 73 #[.val (.int x0), .val (.int x1), .val (.int nn), .val (.ref b0), .val (.ref b1), .val (.int ff), .val (.long cov), .second, .val (.long bef), .second] [(.long bef)])) _
      refine XS.iloadN X27.here hx rfl (hb hby at_73) rfl ?_
      show Steps p.tables e below (T27.setTop (mkF m 74 #[.val (.int x0), .val (.int x1), .val (.int nn), .val (.ref b0), .val (.ref b1), .val (.int ff), .val (.long cov), .second, .val (.long bef), .second] [(.int nn), (.long bef)])) _
      refine XS.i2l X27.here hx rfl (hb hby at_74) rfl ?_
      show Steps p.tables e below (T27.setTop (mkF m 75 #[.val (.int x0), .val (.int x1), .val (.int nn), .val (.ref b0), .val (.ref b1), .val (.int ff), .val (.long cov), .second, .val (.long bef), .second] [(.long ((nn).toInt64)), (.long bef)])) _
      refine XT.lcmp X27.here hx rfl (hb hby at_75) rfl ?_
      show Steps p.tables e below (T27.setTop (mkF m 76 #[.val (.int x0), .val (.int x1), .val (.int nn), .val (.ref b0), .val (.ref b1), .val (.int ff), .val (.long cov), .second, .val (.long bef), .second] [(.int (XT.cmpL bef ((nn).toInt64)))])) _
      exact k
    have hc76_39 : bef < ((nn).toInt64) := by
      rw [Int64.lt_iff_toInt_lt]; have c0 : (0 : Int32).toInt = 0 := rfl; have c3 := Int32.toInt_toInt64 nn; omega
    have pre40 : Go p e below (s₁.setTop (entryFrame m #[(.int x0), (.int x1)] maxLocals)) (T27.setTop (mkF m 84 #[.val (.int x0), .val (.int x1), .val (.int nn), .val (.ref b0), .val (.ref b1), .val (.int ff), .val (.long cov), .second, .val (.long bef), .second] [(.int (1 : Int32))])) := by
      intro t k
      refine pre38 t ?_
      show Steps p.tables e below (T27.setTop (mkF m 76 #[.val (.int x0), .val (.int x1), .val (.int nn), .val (.ref b0), .val (.ref b1), .val (.int ff), .val (.long cov), .second, .val (.long bef), .second] [(.int (XT.cmpL bef ((nn).toInt64)))])) _
      refine XS.ifNo X27.here hx rfl (hb hby at_76) rfl (XT.ll_ge_f hc76_39) ?_
      show Steps p.tables e below (T27.setTop (mkF m 79 #[.val (.int x0), .val (.int x1), .val (.int nn), .val (.ref b0), .val (.ref b1), .val (.int ff), .val (.long cov), .second, .val (.long bef), .second] [])) _
      refine XS.iconst X27.here hx rfl (hb hby at_79) ?_
      show Steps p.tables e below (T27.setTop (mkF m 80 #[.val (.int x0), .val (.int x1), .val (.int nn), .val (.ref b0), .val (.ref b1), .val (.int ff), .val (.long cov), .second, .val (.long bef), .second] [(.int (1 : Int32))])) _
      refine XS.goto X27.here hx rfl (pc0 := 80) (pc' := 84) rfl (hb hby at_80) (by decide) (by decide) ?_
      show Steps p.tables e below (T27.setTop (mkF m 84 #[.val (.int x0), .val (.int x1), .val (.int nn), .val (.ref b0), .val (.ref b1), .val (.int ff), .val (.long cov), .second, .val (.long bef), .second] [(.int (1 : Int32))])) _
      exact k
    obtain ⟨fs, hr, hrun, hended, hW, hsame⟩ := X27.leave (hlocks := hlk) (v := some (.int (1 : Int32))) (fun h => by rw [Bd.returns] at h; cases h)
    refine ⟨_, _, pre40 _ (retN X27 hx (t := .boolean) Bd.returns (by simp) (hb hby at_84) hr), hrun, hended, _, _, rfl, ?_, ⟨_, rfl⟩, hW, hsame.mono (by decide) (by decide)⟩
    show Q0 Z x0 x1 h0 n0 _ T27.heap _
    rw [hh27]
    exact ⟨rfl, N27⟩
  · skip
    have pre41 : Go p e below (s₁.setTop (entryFrame m #[(.int x0), (.int x1)] maxLocals)) (T4.setTop (mkF m 21 #[.val (.int x0), .val (.int x1), .val (.int nn), .val (.ref b0), .unset, .unset, .unset, .unset, .unset, .unset] [])) := by
      intro t k
      refine pre7 t ?_
      show Steps p.tables e below (T4.setTop (mkF m 11 #[.val (.int x0), .val (.int x1), .val (.int nn), .val (.ref b0), .unset, .unset, .unset, .unset, .unset, .unset] [(.int nn)])) _
      refine XS.ifYes X4.here hx rfl (pc0 := 11) (pc' := 21) rfl (hb hby at_11) rfl (XT.i0_le_t hc11_8) (by decide) (by decide) ?_
      show Steps p.tables e below (T4.setTop (mkF m 21 #[.val (.int x0), .val (.int x1), .val (.int nn), .val (.ref b0), .unset, .unset, .unset, .unset, .unset, .unset] [])) _
      exact k
    obtain ⟨T42, h42, X42, e42, E42, A42, D42, -, st42⟩ := newO X4 hx hZ hown (hw _ (List.mem_of_getElem? (i := 1) rfl)) (hw _ (List.mem_of_getElem? (i := 2) rfl)) (hw _ (List.mem_of_getElem? (i := 3) rfl)) e4 (g := (mkF m 21 #[.val (.int x0), .val (.int x1), .val (.int nn), .val (.ref b0), .unset, .unset, .unset, .unset, .unset, .unset] [])) rfl (hb hby at_21) (by decide) (by decide)
    obtain ⟨b1, g42⟩ : ∃ z, z = h4.size := ⟨_, rfl⟩
    rw [← g42] at A42 D42 st42
    have c43_42 := VA.ext E42
    have c44_42 := B4.ext E42
    have zz45 := (Nat.le_trans zz5 E42.1)
    have F_samples_b1 : Fld Z h42 b1 "com/example/patchcord/patchcord/media/Sound" "samples" "[S" .null := D42 (Or.inr (hw _ (List.mem_of_getElem? (i := 20) rfl))) (ty := (.array .short)) (by decide)
    have g_b1 : n0 ≤ b1 := Nat.le_trans zz5 (Nat.le_of_eq g42.symm)
    have ne_b0_b1 : b0 ≠ b1 := Nat.ne_of_lt (Nat.lt_of_lt_of_le VA.lt (Nat.le_of_eq g42.symm))
    have ne_b0_b1 : b0 ≠ b1 := Nat.ne_of_lt (Nat.lt_of_lt_of_le B4.lt (Nat.le_of_eq g42.symm))
    have pre46 : Go p e below (s₁.setTop (entryFrame m #[(.int x0), (.int x1)] maxLocals)) (T42.setTop (mkF m 24 #[.val (.int x0), .val (.int x1), .val (.int nn), .val (.ref b0), .unset, .unset, .unset, .unset, .unset, .unset] [(.ref b1)])) := fun t k => pre41 t (st42 t k)
    have pre47 : Go p e below (s₁.setTop (entryFrame m #[(.int x0), (.int x1)] maxLocals)) (T42.setTop (mkF m 26 #[.val (.int x0), .val (.int x1), .val (.int nn), .val (.ref b0), .unset, .unset, .unset, .unset, .unset, .unset] [(.ref b0), (.ref b1), (.ref b1)])) := by
      intro t k
      refine pre46 t ?_
      show Steps p.tables e below (T42.setTop (mkF m 24 #[.val (.int x0), .val (.int x1), .val (.int nn), .val (.ref b0), .unset, .unset, .unset, .unset, .unset, .unset] [(.ref b1)])) _
      refine XS.dup X42.here hx rfl (hb hby at_24) rfl rfl ?_
      show Steps p.tables e below (T42.setTop (mkF m 25 #[.val (.int x0), .val (.int x1), .val (.int nn), .val (.ref b0), .unset, .unset, .unset, .unset, .unset, .unset] [(.ref b1), (.ref b1)])) _
      refine XS.aloadN X42.here hx rfl (hb hby at_25) rfl rfl ?_
      show Steps p.tables e below (T42.setTop (mkF m 26 #[.val (.int x0), .val (.int x1), .val (.int nn), .val (.ref b0), .unset, .unset, .unset, .unset, .unset, .unset] [(.ref b0), (.ref b1), (.ref b1)])) _
      exact k
    obtain ⟨_, _, ⟨T48, L48, k48, n48⟩, -, X48, ⟨Lc48, hQ48, l48, y48, z48⟩, st48⟩ := X42.specialBack hx (y := (⟨"com/example/patchcord/patchcord/media/Sound", "<init>", "([S)V"⟩ : MethodName)) rfl hown (mvT hZ (hw _ (List.mem_of_getElem? (i := 4) rfl))) (mvT hZ (hw _ (List.mem_of_getElem? (i := 5) rfl))) (mvT hZ (hw _ (List.mem_of_getElem? (i := 6) rfl))) (by decide) (backOf (W := 1) (rm1 l Z a0 hw [] b1 b0 k4 nn (fun _ => defaultValue .short) h42 n0 zz45 A42 F_samples_b1 c44_42 c43_42 hcap g_b1 ne_b0_b1) hZ (hw _ (List.mem_of_getElem? (i := 6) rfl)) (hw _ (List.mem_of_getElem? (i := 3) rfl)) (by decide) (by decide)) (g := (mkF m 26 #[.val (.int x0), .val (.int x1), .val (.int nn), .val (.ref b0), .unset, .unset, .unset, .unset, .unset, .unset] [(.ref b0), (.ref b1), (.ref b1)])) rfl (by rw [hml]; rfl) (Steps.refl _) (a := b1) (argsL := [(.ref b0)]) (rest := [(.ref b1)]) (lenOf pd_2 rfl) rfl (by show 2 * 0 + _ ≤ _; exact Nat.le_of_eq rfl) (hb hby at_26) (fun _ _ => ⟨rfl, e42, (by decide : 2 + 1 ≤ _), (by decide : 2048 + 2047 ≤ _)⟩)
    dsimp only [Pt.U, Pt.locs, Pt.cells, Pt.slots] at X48 l48 y48 z48 st48 hQ48
    subst l48 y48 z48
    obtain ⟨rfl, N48q, K48, X48e, ⟨bb, Fb, Vb⟩⟩ := hQ48
    have N48 := Fr.app N0 N48q
    have kc49 := c43_42.keep K48 (ninS ne_b0_b1 nin0)
    have kc50 := c44_42.keep K48
    have kc51 := A42.keep K48
    have zz52 := Nat.le_trans zz45 K48.1
    have pre53 : Go p e below (s₁.setTop (entryFrame m #[(.int x0), (.int x1)] maxLocals)) (T48.setTop (mkF m 29 #[.val (.int x0), .val (.int x1), .val (.int nn), .val (.ref b0), .unset, .unset, .unset, .unset, .unset, .unset] [(.ref b1)])) := fun t k => pre47 t (st48.trans k)
    have pre54 : Go p e below (s₁.setTop (entryFrame m #[(.int x0), (.int x1)] maxLocals)) (T48.setTop (mkF m 33 #[.val (.int x0), .val (.int x1), .val (.int nn), .val (.ref b0), .val (.ref b1), .unset, .unset, .unset, .unset, .unset] [(.ref b1)])) := by
      intro t k
      refine pre53 t ?_
      show Steps p.tables e below (T48.setTop (mkF m 29 #[.val (.int x0), .val (.int x1), .val (.int nn), .val (.ref b0), .unset, .unset, .unset, .unset, .unset, .unset] [(.ref b1)])) _
      refine XS.astore X48.here hx rfl (hb hby at_29) rfl rfl (l' := #[.val (.int x0), .val (.int x1), .val (.int nn), .val (.ref b0), .val (.ref b1), .unset, .unset, .unset, .unset, .unset]) rfl ?_
      show Steps p.tables e below (T48.setTop (mkF m 31 #[.val (.int x0), .val (.int x1), .val (.int nn), .val (.ref b0), .val (.ref b1), .unset, .unset, .unset, .unset, .unset] [])) _
      refine XS.aload X48.here hx rfl (hb hby at_31) rfl rfl ?_
      show Steps p.tables e below (T48.setTop (mkF m 33 #[.val (.int x0), .val (.int x1), .val (.int nn), .val (.ref b0), .val (.ref b1), .unset, .unset, .unset, .unset, .unset] [(.ref b1)])) _
      exact k
    obtain ⟨cq55, kq55, q55a, q55b, q55c⟩ := isOf hZ rfl kc51
    obtain ⟨_, _, ⟨T55, L55, k55, n55⟩, -, X55, ⟨Lc55, hQ55, l55, y55, z55⟩, st55⟩ := X48.virtualBack hx (y := (⟨"com/example/patchcord/patchcord/media/Sound", "frames", "()I"⟩ : MethodName)) (z := (⟨"com/example/patchcord/patchcord/media/Sound", "frames", "()I"⟩ : MethodName)) hown (mvT hZ (hw _ (List.mem_of_getElem? (i := 21) rfl))) (mvT hZ (hw _ (List.mem_of_getElem? (i := 22) rfl))) (notFace_of_selects (args := #[]) (mvT hZ (hw _ (List.mem_of_getElem? (i := 24) rfl)))) (mvT hZ (hw _ (List.mem_of_getElem? (i := 24) rfl))) (mvT hZ (hw _ (List.mem_of_getElem? (i := 23) rfl))) (by decide) (backOf (W := 0) (rm3 l Z a0 hw [] b1 bb k4 nn (fun _ => defaultValue .short) T48.heap n0 zz52 Fb Vb.cell) hZ (hw _ (List.mem_of_getElem? (i := 25) rfl)) (hw _ (List.mem_of_getElem? (i := 3) rfl)) (by decide) (by decide)) q55a q55c (g := (mkF m 33 #[.val (.int x0), .val (.int x1), .val (.int nn), .val (.ref b0), .val (.ref b1), .unset, .unset, .unset, .unset, .unset] [(.ref b1)])) rfl (by rw [hml]; rfl) (Steps.refl _) (argsL := []) (rest := []) (lenOf pd_3 rfl) rfl (by show 2 * 0 + _ ≤ _; exact Nat.le_of_eq rfl) (hb hby at_33) (fun _ _ => ⟨rfl, rfl, (by decide : 3 + 0 ≤ _), (by decide : 4095 + 0 ≤ _)⟩)
    dsimp only [Pt.U, Pt.locs, Pt.cells, Pt.slots] at X55 l55 y55 z55 st55 hQ55
    subst l55 y55 z55
    obtain ⟨rfl, N55q, hh55⟩ := hQ55
    have N55 := Fr.app N48 N55q
    have pre56 : Go p e below (s₁.setTop (entryFrame m #[(.int x0), (.int x1)] maxLocals)) (T55.setTop (mkF m 36 #[.val (.int x0), .val (.int x1), .val (.int nn), .val (.ref b0), .val (.ref b1), .unset, .unset, .unset, .unset, .unset] [(.int (((nn + (160 : Int32)) - (1 : Int32)) / (160 : Int32)))])) := fun t k => pre54 t (st55.trans k)
    obtain ⟨ff, h_ff⟩ : ∃ z : Int32, z = (((nn + (160 : Int32)) - (1 : Int32)) / (160 : Int32)) := ⟨_, rfl⟩
    have pre57 : Go p e below (s₁.setTop (entryFrame m #[(.int x0), (.int x1)] maxLocals)) (T55.setTop (mkF m 36 #[.val (.int x0), .val (.int x1), .val (.int nn), .val (.ref b0), .val (.ref b1), .unset, .unset, .unset, .unset, .unset] [(.int ff)])) := by rw [h_ff]; exact pre56
    have hff := own_f hnn h_ff
    have pre58 : Go p e below (s₁.setTop (entryFrame m #[(.int x0), (.int x1)] maxLocals)) (T55.setTop (mkF m 45 #[.val (.int x0), .val (.int x1), .val (.int nn), .val (.ref b0), .val (.ref b1), .val (.int ff), .unset, .unset, .unset, .unset] [(.long (((ff).toInt64) * (160 : Int64)))])) := by
      intro t k
      refine pre57 t ?_
      show Steps p.tables e below (T55.setTop (mkF m 36 #[.val (.int x0), .val (.int x1), .val (.int nn), .val (.ref b0), .val (.ref b1), .unset, .unset, .unset, .unset, .unset] [(.int ff)])) _
      refine XS.istore X55.here hx rfl (hb hby at_36) rfl (l' := #[.val (.int x0), .val (.int x1), .val (.int nn), .val (.ref b0), .val (.ref b1), .val (.int ff), .unset, .unset, .unset, .unset]) rfl ?_
      show Steps p.tables e below (T55.setTop (mkF m 38 #[.val (.int x0), .val (.int x1), .val (.int nn), .val (.ref b0), .val (.ref b1), .val (.int ff), .unset, .unset, .unset, .unset] [])) _
      refine XS.iload X55.here hx rfl (hb hby at_38) rfl ?_
      show Steps p.tables e below (T55.setTop (mkF m 40 #[.val (.int x0), .val (.int x1), .val (.int nn), .val (.ref b0), .val (.ref b1), .val (.int ff), .unset, .unset, .unset, .unset] [(.int ff)])) _
      refine XS.i2l X55.here hx rfl (hb hby at_40) rfl ?_
      show Steps p.tables e below (T55.setTop (mkF m 41 #[.val (.int x0), .val (.int x1), .val (.int nn), .val (.ref b0), .val (.ref b1), .val (.int ff), .unset, .unset, .unset, .unset] [(.long ((ff).toInt64))])) _
      refine X55.ldc2J hx hown (mvT hZ (hw _ (List.mem_of_getElem? (i := 26) rfl))) (g := (mkF m 41 #[.val (.int x0), .val (.int x1), .val (.int nn), .val (.ref b0), .val (.ref b1), .val (.int ff), .unset, .unset, .unset, .unset] [(.long ((ff).toInt64))])) rfl (hb hby at_41) ?_
      show Steps p.tables e below (T55.setTop (mkF m 44 #[.val (.int x0), .val (.int x1), .val (.int nn), .val (.ref b0), .val (.ref b1), .val (.int ff), .unset, .unset, .unset, .unset] [(.long (160 : Int64)), (.long ((ff).toInt64))])) _
      refine XS.lmul X55.here hx rfl (hb hby at_44) rfl ?_
      show Steps p.tables e below (T55.setTop (mkF m 45 #[.val (.int x0), .val (.int x1), .val (.int nn), .val (.ref b0), .val (.ref b1), .val (.int ff), .unset, .unset, .unset, .unset] [(.long (((ff).toInt64) * (160 : Int64)))])) _
      exact k
    obtain ⟨cov, h_cov⟩ : ∃ z : Int64, z = (((ff).toInt64) * (160 : Int64)) := ⟨_, rfl⟩
    have pre59 : Go p e below (s₁.setTop (entryFrame m #[(.int x0), (.int x1)] maxLocals)) (T55.setTop (mkF m 45 #[.val (.int x0), .val (.int x1), .val (.int nn), .val (.ref b0), .val (.ref b1), .val (.int ff), .unset, .unset, .unset, .unset] [(.long cov)])) := by rw [h_cov]; exact pre58
    have hcov := own_cov ⟨by omega, by omega⟩ h_cov
    have pre60 : Go p e below (s₁.setTop (entryFrame m #[(.int x0), (.int x1)] maxLocals)) (T55.setTop (mkF m 56 #[.val (.int x0), .val (.int x1), .val (.int nn), .val (.ref b0), .val (.ref b1), .val (.int ff), .val (.long cov), .second, .unset, .unset] [(.long ((((ff).toInt64) - (1 : Int64)) * (160 : Int64)))])) := by
      intro t k
      refine pre59 t ?_
      show Steps p.tables e below (T55.setTop (mkF m 45 #[.val (.int x0), .val (.int x1), .val (.int nn), .val (.ref b0), .val (.ref b1), .val (.int ff), .unset, .unset, .unset, .unset] [(.long cov)])) _
      refine XT.lstore X55.here hx rfl (hb hby at_45) rfl (l' := #[.val (.int x0), .val (.int x1), .val (.int nn), .val (.ref b0), .val (.ref b1), .val (.int ff), .val (.long cov), .second, .unset, .unset]) rfl ?_
      show Steps p.tables e below (T55.setTop (mkF m 47 #[.val (.int x0), .val (.int x1), .val (.int nn), .val (.ref b0), .val (.ref b1), .val (.int ff), .val (.long cov), .second, .unset, .unset] [])) _
      refine XS.iload X55.here hx rfl (hb hby at_47) rfl ?_
      show Steps p.tables e below (T55.setTop (mkF m 49 #[.val (.int x0), .val (.int x1), .val (.int nn), .val (.ref b0), .val (.ref b1), .val (.int ff), .val (.long cov), .second, .unset, .unset] [(.int ff)])) _
      refine XS.i2l X55.here hx rfl (hb hby at_49) rfl ?_
      show Steps p.tables e below (T55.setTop (mkF m 50 #[.val (.int x0), .val (.int x1), .val (.int nn), .val (.ref b0), .val (.ref b1), .val (.int ff), .val (.long cov), .second, .unset, .unset] [(.long ((ff).toInt64))])) _
      refine XT.lconstV X55.here hx rfl (1 : Int64) (hb hby at_50) rfl ?_
      show Steps p.tables e below (T55.setTop (mkF m 51 #[.val (.int x0), .val (.int x1), .val (.int nn), .val (.ref b0), .val (.ref b1), .val (.int ff), .val (.long cov), .second, .unset, .unset] [(.long (1 : Int64)), (.long ((ff).toInt64))])) _
      refine XS.lsub X55.here hx rfl (hb hby at_51) rfl ?_
      show Steps p.tables e below (T55.setTop (mkF m 52 #[.val (.int x0), .val (.int x1), .val (.int nn), .val (.ref b0), .val (.ref b1), .val (.int ff), .val (.long cov), .second, .unset, .unset] [(.long (((ff).toInt64) - (1 : Int64)))])) _
      refine X55.ldc2J hx hown (mvT hZ (hw _ (List.mem_of_getElem? (i := 26) rfl))) (g := (mkF m 52 #[.val (.int x0), .val (.int x1), .val (.int nn), .val (.ref b0), .val (.ref b1), .val (.int ff), .val (.long cov), .second, .unset, .unset] [(.long (((ff).toInt64) - (1 : Int64)))])) rfl (hb hby at_52) ?_
      show Steps p.tables e below (T55.setTop (mkF m 55 #[.val (.int x0), .val (.int x1), .val (.int nn), .val (.ref b0), .val (.ref b1), .val (.int ff), .val (.long cov), .second, .unset, .unset] [(.long (160 : Int64)), (.long (((ff).toInt64) - (1 : Int64)))])) _
      refine XS.lmul X55.here hx rfl (hb hby at_55) rfl ?_
      show Steps p.tables e below (T55.setTop (mkF m 56 #[.val (.int x0), .val (.int x1), .val (.int nn), .val (.ref b0), .val (.ref b1), .val (.int ff), .val (.long cov), .second, .unset, .unset] [(.long ((((ff).toInt64) - (1 : Int64)) * (160 : Int64)))])) _
      exact k
    obtain ⟨bef, h_bef⟩ : ∃ z : Int64, z = ((((ff).toInt64) - (1 : Int64)) * (160 : Int64)) := ⟨_, rfl⟩
    have pre61 : Go p e below (s₁.setTop (entryFrame m #[(.int x0), (.int x1)] maxLocals)) (T55.setTop (mkF m 56 #[.val (.int x0), .val (.int x1), .val (.int nn), .val (.ref b0), .val (.ref b1), .val (.int ff), .val (.long cov), .second, .unset, .unset] [(.long bef)])) := by rw [h_bef]; exact pre60
    have hbef := own_bef ⟨by omega, by omega⟩ h_bef
    have pre62 : Go p e below (s₁.setTop (entryFrame m #[(.int x0), (.int x1)] maxLocals)) (T55.setTop (mkF m 60 #[.val (.int x0), .val (.int x1), .val (.int nn), .val (.ref b0), .val (.ref b1), .val (.int ff), .val (.long cov), .second, .val (.long bef), .second] [(.int ff)])) := by
      intro t k
      refine pre61 t ?_
      show Steps p.tables e below (T55.setTop (mkF m 56 #[.val (.int x0), .val (.int x1), .val (.int nn), .val (.ref b0), .val (.ref b1), .val (.int ff), .val (.long cov), .second, .unset, .unset] [(.long bef)])) _
      refine XT.lstore X55.here hx rfl (hb hby at_56) rfl (l' := #[.val (.int x0), .val (.int x1), .val (.int nn), .val (.ref b0), .val (.ref b1), .val (.int ff), .val (.long cov), .second, .val (.long bef), .second]) rfl ?_
      show Steps p.tables e below (T55.setTop (mkF m 58 #[.val (.int x0), .val (.int x1), .val (.int nn), .val (.ref b0), .val (.ref b1), .val (.int ff), .val (.long cov), .second, .val (.long bef), .second] [])) _
      refine XS.iload X55.here hx rfl (hb hby at_58) rfl ?_
      show Steps p.tables e below (T55.setTop (mkF m 60 #[.val (.int x0), .val (.int x1), .val (.int nn), .val (.ref b0), .val (.ref b1), .val (.int ff), .val (.long cov), .second, .val (.long bef), .second] [(.int ff)])) _
      exact k
    have hc60_63 : ¬ (ff < (0 : Int32)) := by
      rw [Int32.lt_iff_toInt_lt]; have c0 : (0 : Int32).toInt = 0 := rfl; have c3 := Int32.toInt_toInt64 nn; omega
    have pre64 : Go p e below (s₁.setTop (entryFrame m #[(.int x0), (.int x1)] maxLocals)) (T55.setTop (mkF m 68 #[.val (.int x0), .val (.int x1), .val (.int nn), .val (.ref b0), .val (.ref b1), .val (.int ff), .val (.long cov), .second, .val (.long bef), .second] [(.int (XT.cmpL cov ((nn).toInt64)))])) := by
      intro t k
      refine pre62 t ?_
      show Steps p.tables e below (T55.setTop (mkF m 60 #[.val (.int x0), .val (.int x1), .val (.int nn), .val (.ref b0), .val (.ref b1), .val (.int ff), .val (.long cov), .second, .val (.long bef), .second] [(.int ff)])) _
      refine XS.ifNo X55.here hx rfl (hb hby at_60) rfl (XT.i0_lt_f hc60_63) ?_
      show Steps p.tables e below (T55.setTop (mkF m 63 #[.val (.int x0), .val (.int x1), .val (.int nn), .val (.ref b0), .val (.ref b1), .val (.int ff), .val (.long cov), .second, .val (.long bef), .second] [])) _
      refine XT.lload X55.here hx rfl (hb hby at_63) rfl ?_
      show Steps p.tables e below (T55.setTop (mkF m 65 #[.val (.int x0), .val (.int x1), .val (.int nn), .val (.ref b0), .val (.ref b1), .val (.int ff), .val (.long cov), .second, .val (.long bef), .second] [(.long cov)])) _
      refine XS.iloadN X55.here hx rfl (hb hby at_65) rfl ?_
      show Steps p.tables e below (T55.setTop (mkF m 66 #[.val (.int x0), .val (.int x1), .val (.int nn), .val (.ref b0), .val (.ref b1), .val (.int ff), .val (.long cov), .second, .val (.long bef), .second] [(.int nn), (.long cov)])) _
      refine XS.i2l X55.here hx rfl (hb hby at_66) rfl ?_
      show Steps p.tables e below (T55.setTop (mkF m 67 #[.val (.int x0), .val (.int x1), .val (.int nn), .val (.ref b0), .val (.ref b1), .val (.int ff), .val (.long cov), .second, .val (.long bef), .second] [(.long ((nn).toInt64)), (.long cov)])) _
      refine XT.lcmp X55.here hx rfl (hb hby at_67) rfl ?_
      show Steps p.tables e below (T55.setTop (mkF m 68 #[.val (.int x0), .val (.int x1), .val (.int nn), .val (.ref b0), .val (.ref b1), .val (.int ff), .val (.long cov), .second, .val (.long bef), .second] [(.int (XT.cmpL cov ((nn).toInt64)))])) _
      exact k
    have hc68_65 : ¬ (cov < ((nn).toInt64)) := by
      rw [Int64.lt_iff_toInt_lt]; have c0 : (0 : Int32).toInt = 0 := rfl; have c3 := Int32.toInt_toInt64 nn; omega
    have pre66 : Go p e below (s₁.setTop (entryFrame m #[(.int x0), (.int x1)] maxLocals)) (T55.setTop (mkF m 76 #[.val (.int x0), .val (.int x1), .val (.int nn), .val (.ref b0), .val (.ref b1), .val (.int ff), .val (.long cov), .second, .val (.long bef), .second] [(.int (XT.cmpL bef ((nn).toInt64)))])) := by
      intro t k
      refine pre64 t ?_
      show Steps p.tables e below (T55.setTop (mkF m 68 #[.val (.int x0), .val (.int x1), .val (.int nn), .val (.ref b0), .val (.ref b1), .val (.int ff), .val (.long cov), .second, .val (.long bef), .second] [(.int (XT.cmpL cov ((nn).toInt64)))])) _
      refine XS.ifNo X55.here hx rfl (hb hby at_68) rfl (XT.ll_lt_f hc68_65) ?_
      show Steps p.tables e below (T55.setTop (mkF m 71 #[.val (.int x0), .val (.int x1), .val (.int nn), .val (.ref b0), .val (.ref b1), .val (.int ff), .val (.long cov), .second, .val (.long bef), .second] [])) _
      refine XT.lload X55.here hx rfl (hb hby at_71) rfl ?_
      show Steps p.tables e below (T55.setTop (mkF m 73 #[.val (.int x0), .val (.int x1), .val (.int nn), .val (.ref b0), .val (.ref b1), .val (.int ff), .val (.long cov), .second, .val (.long bef), .second] [(.long bef)])) _
      refine XS.iloadN X55.here hx rfl (hb hby at_73) rfl ?_
      show Steps p.tables e below (T55.setTop (mkF m 74 #[.val (.int x0), .val (.int x1), .val (.int nn), .val (.ref b0), .val (.ref b1), .val (.int ff), .val (.long cov), .second, .val (.long bef), .second] [(.int nn), (.long bef)])) _
      refine XS.i2l X55.here hx rfl (hb hby at_74) rfl ?_
      show Steps p.tables e below (T55.setTop (mkF m 75 #[.val (.int x0), .val (.int x1), .val (.int nn), .val (.ref b0), .val (.ref b1), .val (.int ff), .val (.long cov), .second, .val (.long bef), .second] [(.long ((nn).toInt64)), (.long bef)])) _
      refine XT.lcmp X55.here hx rfl (hb hby at_75) rfl ?_
      show Steps p.tables e below (T55.setTop (mkF m 76 #[.val (.int x0), .val (.int x1), .val (.int nn), .val (.ref b0), .val (.ref b1), .val (.int ff), .val (.long cov), .second, .val (.long bef), .second] [(.int (XT.cmpL bef ((nn).toInt64)))])) _
      exact k
    have hc76_67 : bef < ((nn).toInt64) := by
      rw [Int64.lt_iff_toInt_lt]; have c0 : (0 : Int32).toInt = 0 := rfl; have c3 := Int32.toInt_toInt64 nn; omega
    have pre68 : Go p e below (s₁.setTop (entryFrame m #[(.int x0), (.int x1)] maxLocals)) (T55.setTop (mkF m 84 #[.val (.int x0), .val (.int x1), .val (.int nn), .val (.ref b0), .val (.ref b1), .val (.int ff), .val (.long cov), .second, .val (.long bef), .second] [(.int (1 : Int32))])) := by
      intro t k
      refine pre66 t ?_
      show Steps p.tables e below (T55.setTop (mkF m 76 #[.val (.int x0), .val (.int x1), .val (.int nn), .val (.ref b0), .val (.ref b1), .val (.int ff), .val (.long cov), .second, .val (.long bef), .second] [(.int (XT.cmpL bef ((nn).toInt64)))])) _
      refine XS.ifNo X55.here hx rfl (hb hby at_76) rfl (XT.ll_ge_f hc76_67) ?_
      show Steps p.tables e below (T55.setTop (mkF m 79 #[.val (.int x0), .val (.int x1), .val (.int nn), .val (.ref b0), .val (.ref b1), .val (.int ff), .val (.long cov), .second, .val (.long bef), .second] [])) _
      refine XS.iconst X55.here hx rfl (hb hby at_79) ?_
      show Steps p.tables e below (T55.setTop (mkF m 80 #[.val (.int x0), .val (.int x1), .val (.int nn), .val (.ref b0), .val (.ref b1), .val (.int ff), .val (.long cov), .second, .val (.long bef), .second] [(.int (1 : Int32))])) _
      refine XS.goto X55.here hx rfl (pc0 := 80) (pc' := 84) rfl (hb hby at_80) (by decide) (by decide) ?_
      show Steps p.tables e below (T55.setTop (mkF m 84 #[.val (.int x0), .val (.int x1), .val (.int nn), .val (.ref b0), .val (.ref b1), .val (.int ff), .val (.long cov), .second, .val (.long bef), .second] [(.int (1 : Int32))])) _
      exact k
    obtain ⟨fs, hr, hrun, hended, hW, hsame⟩ := X55.leave (hlocks := hlk) (v := some (.int (1 : Int32))) (fun h => by rw [Bd.returns] at h; cases h)
    refine ⟨_, _, pre68 _ (retN X55 hx (t := .boolean) Bd.returns (by simp) (hb hby at_84) hr), hrun, hended, _, _, rfl, ?_, ⟨_, rfl⟩, hW, hsame.mono (by decide) (by decide)⟩
    show Q0 Z x0 x1 h0 n0 _ T55.heap _
    rw [hh55]
    exact ⟨rfl, N55⟩
set_option maxRecDepth 65536 in
set_option maxHeartbeats 40000000 in
theorem comes_1 {Post : Tables → Env → Array Value → State → Outcome → State → Prop} (hpost : ∀ tb e args s v u, (limb_1_1.after args s (.returned v) u = true ∧ limb_1_2.after args s (.returned v) u = true ∧ True) → FrameEnd s (.returned v) u (Jvm.fieldLocs frame_1_writes args s ++ Jvm.arrayLocs frame_1_arrays args s ++ Jvm.staticLocs frame_1_statics s) 16 8256 → Post tb e args s (.returned v) u) :
    ArmFor flags0 classFile x code maxLocals ret World_1 tables_1 room_1 Calls_1 rest_1 Pre_1 Post := by
  intro l hfl _ _ p e ha hc hk s m args below hf hA hF happ hP
  obtain ⟨hcalls, hrest, hpre⟩ := hP
  obtain ⟨-, -, -, hnamed, -, -, -, hat⟩ := (Spec.applies_iff hf).mp happ
  obtain ⟨hg, hn⟩ := and_e (Cond.before_iff.mp (show (Jvm.Cond.and given_1 narrow_1).before args s = true from hpre))
  obtain ⟨u1, u2⟩ := and_e hg
  obtain ⟨u3, u4⟩ := and_e u2
  obtain ⟨w0, w1, rfl⟩ : ∃ w0 w1 : Value, args = #[w0, w1] := by
    have hs : args.size = 2 := by simpa [Cond.value, given_1] using u1
    obtain ⟨L⟩ := args
    match L, hs with
    | [w0, w1], _ => exact ⟨w0, w1, rfl⟩
  have hw := fun d (hd : d ∈ tables_1) => atoms_spec (ws := Jvm.Cond.code x code maxLocals ret :: tables_1) hat d (List.mem_cons_of_mem _ hd)
  obtain ⟨i0, ei0⟩ := is_v u3
  obtain rfl : w0 = (.int i0) := Option.some.inj ei0
  obtain ⟨i1, ei1⟩ := is_v u4
  obtain rfl : w1 = (.int i1) := Option.some.inj ei1
  obtain ⟨n, o, h1, h2, h3, _, L, rfl, ⟨rfl, N⟩, hq⟩ := rm0 l s _ hw tables_1 i0 i1 s.heap s.heap.size (Nat.le_refl _) p e ha hc hk s m _ below hf ((Spec.applies_iff_loose hf).mp happ).1 ⟨rfl, State.Warmed39.refl s, rfl⟩ trivial
  refine ⟨n, _, h1, h2, h3, hpost _ _ _ _ _ _ ⟨Cond.after_iff.mpr rfl, Cond.after_iff.mpr (eq_i res_at (Term.int_eval (1)) rfl), trivial⟩ ⟨hq.1, hq.2.1, (hq.2.2.sift fun y hy => Or.inr (N y hy)).mono (by decide) (by decide)⟩⟩
theorem main_1_1 : Claimed_1_1 := comes_1 fun _ _ _ _ _ _ h hF => ⟨h.1, hF⟩
theorem main_1_2 : Claimed_1_2 := comes_1 fun _ _ _ _ _ _ h hF => ⟨h.2.1, hF⟩
end Jvm.Pilot.@@N@@
namespace Jvm.Pilot.@@N@@
open Jvm Jvm.ClassFile Sem Op Lib Jvm.Free Jvm.Stand Jvm.Pilot.@@N@@.Jvm.D
/-! MADE BY PROGRAM (witnessworld.py) out of the Statement's table words and the real class files: 11 classes; the members and pool entries that the words name. The judged class is class 1, her method 1. -/
namespace start1
open Jvm.ClassFile
def u (s : String) : CpInfo := .utf8 (stringToUtf16 s)
/-- a pool by its gaps: so many unusable entries, then the entry; so many at the end -/
def gap : Nat → List CpInfo → List CpInfo
  | 0, r => r
  | n + 1, r => .unusable :: gap n r
def poolList (es : List (Nat × CpInfo)) (last : Nat) : List CpInfo := es.foldr (fun e r => gap e.1 (e.2 :: r)) (gap last [])
def pool (es : List (Nat × CpInfo)) (last : Nat) : Array CpInfo := ⟨poolList es last⟩
def fileOf (pool : Array CpInfo) (this : Nat) (attrs : Array Attribute := #[]) (ms : Array MethodInfo := #[]) (fl : Nat := 33) (sup : Nat := 0) (ifs : Array Nat := #[]) (fds : Array FieldInfo := #[]) : ClassFile where
  minorVersion := 0
  majorVersion := 65
  constantPool := pool
  accessFlags := fl
  thisClass := this
  superClass := sup
  interfaces := ifs
  fields := fds
  methods := ms
  attributes := attrs
def plain (name : String) (sup : Option ClassId) : Class where
  name := name
  kind := .ordinary
  loader := none
  accessFlags := 33
  super := sup
  interfaces := #[]
  cf := none
  fields := #[]
  methods := #[]
  instanceTypes := #[]
  staticTypes := #[]
  resolved := #[]
  callSites := []
  init := .initialized
  statics := none
  mirror := none

def pool0 : Array CpInfo := pool [(5, u "<init>"), (0, u "()V"), (1, .class_ 10), (1, u "java/lang/Object"), (85, u "clone"), (0, u "()Ljava/lang/Object;")] 26

def k0c0 : Code := { maxStack := 0, maxLocals := 1, code := object_method_1_code, exceptionTable := #[], attributes := #[] }
def k0m0 : Method := { name := "<init>", desc := "()V", sig := { parameters := [], returnType := none }, accessFlags := 1, code := some k0c0 }
def k0m1 : Method := { name := "clone", desc := "()Ljava/lang/Object;", sig := { parameters := [], returnType := some (.object "java/lang/Object") }, accessFlags := 260, code := none }
/-- java/lang/Object -/
def k0 : Class := { plain "java/lang/Object" none with
  accessFlags := 33
  interfaces := #[]
  cf := some (fileOf pool0 8 #[] #[{ accessFlags := 1, nameIndex := 5, descriptorIndex := 6, attributes := #[] }, { accessFlags := 260, nameIndex := 96, descriptorIndex := 97, attributes := #[] }] 33 0 #[] #[])
  fields := #[]
  methods := #[k0m0, k0m1]
  instanceTypes := #[]
  staticTypes := #[]
  resolved := Array.replicate 124 none
  statics := none }

def pool1 : Array CpInfo := pool [(2, .class_ 4), (1, u "java/lang/Object"), (0, u "<init>"), (0, u "()V"), (0, .class_ 8), (0, u "com/example/patchcord/patchcord/media/Sound"), (0, .methodref 7 10), (0, .nameAndType 5 11), (0, u "([S)V"), (0, .methodref 7 13), (0, .nameAndType 14 15), (0, u "frames"), (0, u "()I"), (0, .long 160), (1, .class_ 19), (0, u "com/example/patchcord/patchcord/media/SoundFramesPinLaw"), (2, u "law"), (0, u "(II)Z")] 5

def k1m0 : Method := { name := "<init>", desc := "()V", sig := { parameters := [], returnType := none }, accessFlags := 2, code := none }
def k1c1 : Code := { maxStack := 4, maxLocals := 10, code := code, exceptionTable := #[], attributes := #[] }
def k1m1 : Method := { name := "law", desc := "(II)Z", sig := { parameters := [.int, .int], returnType := some .boolean }, accessFlags := 9, code := some k1c1 }
/-- com/example/patchcord/patchcord/media/SoundFramesPinLaw -/
def k1 : Class := { plain "com/example/patchcord/patchcord/media/SoundFramesPinLaw" (some 0) with
  accessFlags := 49
  interfaces := #[]
  cf := some (fileOf pool1 18 #[] #[{ accessFlags := 2, nameIndex := 5, descriptorIndex := 6, attributes := #[] }, { accessFlags := 9, nameIndex := 22, descriptorIndex := 23, attributes := #[] }] 49 2 #[] #[])
  fields := #[]
  methods := #[k1m0, k1m1]
  instanceTypes := #[]
  staticTypes := #[]
  resolved := Array.replicate 29 none
  statics := none }

def pool2 : Array CpInfo := pool [(1, .class_ 2), (0, u "com/example/patchcord/patchcord/media/Sound"), (0, .methodref 4 5), (0, .class_ 6), (0, .nameAndType 7 8), (0, u "java/lang/Object"), (0, u "<init>"), (0, u "()V"), (0, .methodref 10 11), (0, .class_ 12), (0, .nameAndType 13 14), (0, u "[S"), (0, u "clone"), (0, u "()Ljava/lang/Object;"), (0, .fieldref 1 16), (0, .nameAndType 17 12), (0, u "samples"), (8, u "([S)V"), (25, u "FRAME"), (0, u "Ljava/time/Duration;"), (0, u "RATE"), (0, u "I"), (2, u "FRAME_SAMPLES"), (1, u "NANOS_PER_SAMPLE"), (0, u "J"), (7, u "()I"), (0, u "frames")] 5

def k2c0 : Code := { maxStack := 2, maxLocals := 2, code := prog_38_method_1_code, exceptionTable := #[], attributes := #[] }
def k2m0 : Method := { name := "<init>", desc := "([S)V", sig := { parameters := [(.array .short)], returnType := none }, accessFlags := 1, code := some k2c0 }
def k2c1 : Code := { maxStack := 2, maxLocals := 1, code := prog_38_method_5_code, exceptionTable := #[], attributes := #[] }
def k2m1 : Method := { name := "frames", desc := "()I", sig := { parameters := [], returnType := some .int }, accessFlags := 1, code := some k2c1 }
/-- com/example/patchcord/patchcord/media/Sound -/
def k2 : Class := { plain "com/example/patchcord/patchcord/media/Sound" (some 0) with
  accessFlags := 49
  interfaces := #[]
  cf := some (fileOf pool2 1 #[] #[{ accessFlags := 1, nameIndex := 7, descriptorIndex := 26, attributes := #[] }, { accessFlags := 1, nameIndex := 70, descriptorIndex := 69, attributes := #[] }] 49 4 #[] #[{ accessFlags := 25, nameIndex := 54, descriptorIndex := 55, attributes := #[] }, { accessFlags := 25, nameIndex := 52, descriptorIndex := 53, attributes := #[] }, { accessFlags := 25, nameIndex := 58, descriptorIndex := 55, attributes := #[] }, { accessFlags := 26, nameIndex := 60, descriptorIndex := 61, attributes := #[] }, { accessFlags := 18, nameIndex := 17, descriptorIndex := 12, attributes := #[] }])
  fields := #[{ name := "RATE", type := .int, accessFlags := 25, slot := 0, constantValue := 0 }, { name := "FRAME", type := (.object "java/time/Duration"), accessFlags := 25, slot := 1, constantValue := 0 }, { name := "FRAME_SAMPLES", type := .int, accessFlags := 25, slot := 2, constantValue := 0 }, { name := "NANOS_PER_SAMPLE", type := .long, accessFlags := 26, slot := 3, constantValue := 0 }, { name := "samples", type := (.array .short), accessFlags := 18, slot := 0, constantValue := 0 }]
  methods := #[k2m0, k2m1]
  instanceTypes := #[(.array .short)]
  staticTypes := #[.int, (.object "java/time/Duration"), .int, .long]
  resolved := Array.replicate 76 none
  statics := none }

def pool3 : Array CpInfo := pool [(1, .class_ 2), (0, u "java/lang/Cloneable"), (0, .class_ 4), (0, u "java/lang/Object")] 2

/-- java/lang/Cloneable -/
def k3 : Class := { plain "java/lang/Cloneable" (some 0) with
  accessFlags := 1537
  interfaces := #[]
  cf := some (fileOf pool3 1 #[] #[] 1537 3 #[] #[])
  fields := #[]
  methods := #[]
  instanceTypes := #[]
  staticTypes := #[]
  resolved := Array.replicate 7 none
  statics := none }

def pool4 : Array CpInfo := pool [(1, u "java/io/Serializable"), (0, .class_ 1), (0, u "java/lang/Object"), (0, .class_ 3)] 3

/-- java/io/Serializable -/
def k4 : Class := { plain "java/io/Serializable" (some 0) with
  accessFlags := 1537
  interfaces := #[]
  cf := some (fileOf pool4 2 #[] #[] 1537 4 #[] #[])
  fields := #[]
  methods := #[]
  instanceTypes := #[]
  staticTypes := #[]
  resolved := Array.replicate 8 none
  statics := none }

/-- the primitive byte -/
def k5 : Class := { plain "byte" none with kind := .primitive 'B', accessFlags := 0x411 }
/-- [B -/
def k6 : Class := { plain "[B" (some 0) with kind := .array 5 .byte, interfaces := #[3, 4], accessFlags := 1041 }

/-- the primitive int -/
def k7 : Class := { plain "int" none with kind := .primitive 'I', accessFlags := 0x411 }
/-- [I -/
def k8 : Class := { plain "[I" (some 0) with kind := .array 7 .int, interfaces := #[3, 4], accessFlags := 1041 }

/-- the primitive short -/
def k9 : Class := { plain "short" none with kind := .primitive 'S', accessFlags := 0x411 }
/-- [S -/
def k10 : Class := { plain "[S" (some 0) with kind := .array 9 .short, interfaces := #[3, 4], accessFlags := 1041 }

def heap : Heap := #[]
def classes : Array Class := #[k0, k1, k2, k3, k4, k5, k6, k7, k8, k9, k10]
def interned : List (Array UInt16 × Addr) := []
def slotsUsed : Nat := 0
def theMethod : MethodId := ⟨1, 1⟩
def args0 : Array Value := #[.int 5, .int 7]
def aboutOver (below : List Frame) : State where
  vm := { classes := classes, interned := interned.toArray }
  heap := heap
  slotsUsed := slotsUsed
  threads := #[{ frames := .invoking theMethod args0 :: below }]
def below0 : List Frame := [.native { method := ⟨0, 0⟩, args := #[] }]
def about1 : State := aboutOver below0
def p0 : Program := .bare "" "" ""
def e0 : Env := launch0.env 0 0 0
theorem w_frames : about1.frames = Frame.invoking theMethod args0 :: below0 := rfl
set_option maxRecDepth 65536 in
theorem w_args : argsFit about1.vm theMethod args0 = true := by decide +kernel
set_option maxRecDepth 65536 in
theorem w_heap : heapFits about1 = true := by decide +kernel
set_option maxRecDepth 65536 in
theorem w_runnable : about1.curStatus? = some .runnable := by decide +kernel
set_option maxRecDepth 65536 in
theorem w_alone : about1.alone = true := by decide +kernel
set_option maxRecDepth 65536 in
theorem w_named : about1.methodNamed? x = some theMethod := by decide +kernel
set_option maxRecDepth 65536 in
theorem w_hears : about1.hears theMethod below0 = true := by decide +kernel
set_option maxRecDepth 65536 in
theorem w_ripe : about1.ripe theMethod args0 below0 = true := by decide +kernel
theorem w_running : about1.status = .running := rfl
set_option maxRecDepth 65536 in
theorem w_room : about1.hasRoom e0.platform room_1 = true :=
  launch0.hasRoom_least _ room_1 (by decide +kernel) (by decide +kernel) (by decide +kernel) (by decide +kernel) (by decide +kernel) (by decide +kernel)
theorem allAtoms_all (ts : List Jvm.Cond) (a : Array Jvm.Value) (st : Jvm.State) : (allAtoms ts).before a st = ts.all (fun c => c.before a st) := by
  induction ts with
  | nil => rfl
  | cons c t ih =>
    show (Jvm.Cond.and c (allAtoms t)).before a st = _
    rw [Jvm.Cond.before_and, ih, List.all_cons]
def words1 : List Jvm.Cond := Jvm.Cond.code x code maxLocals ret :: tables_1
/-- a 'code' word, met by the world's own term for the bytes: nothing is compared byte by byte -/
theorem code_word {y : MethodName} {bytes : ByteArray} {mx : Nat} {rt : Option FieldType} {a : Array Value} {s : State} {m : MethodId} {meth : Method} {c : Code} (h1 : s.methodNamed? y = some m) (h2 : s.vm.method? m = some meth) (h3 : meth.code = some c) (h4 : c.code = bytes)
    (h5 : (c.maxLocals == mx && c.exceptionTable.isEmpty && decide (c.maxStack ≤ mostOperands) && decide (meth.sig.returnType = rt) && !meth.locks && decide (parseMethodDescriptor y.desc = some meth.sig)) = true) : (Jvm.Cond.code y bytes mx rt).before a s = true := by
  simp only [Bool.and_eq_true, beq_iff_eq, Bool.not_eq_true', decide_eq_true_eq] at h5
  obtain ⟨⟨⟨⟨⟨g1, g2⟩, g3⟩, g4⟩, g5⟩, g6⟩ := h5
  simp [Cond.before, Cond.holds, Cond.value, h1, h2, h3, h4, g1, g2, g3, g4, g5, g6]
def isCode : Jvm.Cond → Bool
  | .code _ _ _ _ => true
  | _ => false
theorem all_split {L : List Jvm.Cond} {P : Jvm.Cond → Bool} (h1 : L.all (fun c => isCode c || P c) = true) (h2 : ∀ c ∈ L.filter isCode, P c = true) : L.all P = true := by
  refine List.all_eq_true.mpr fun c hc => ?_
  have h := List.all_eq_true.mp h1 c hc
  rcases Bool.eq_false_or_eq_true (isCode c) with hi | hi
  · exact h2 c (List.mem_filter.mpr ⟨hc, hi⟩)
  · simpa [hi] using h
set_option maxRecDepth 65536 in
theorem w_c0 : (Jvm.Cond.code x code maxLocals ret).before args0 about1 = true := code_word (m := ⟨1, 1⟩) (meth := k1m1) (c := k1c1) (by decide +kernel) rfl rfl rfl (by decide +kernel)
set_option maxRecDepth 65536 in
theorem w_c1 : (Jvm.Cond.code ({ cls := "com/example/patchcord/patchcord/media/Sound", name := "<init>", desc := "([S)V" } : Jvm.MethodName) prog_38_method_1_code (2 : Nat) (Option.none : Option Jvm.ClassFile.FieldType)).before args0 about1 = true := code_word (m := ⟨2, 0⟩) (meth := k2m0) (c := k2c0) (by decide +kernel) rfl rfl rfl (by decide +kernel)
set_option maxRecDepth 65536 in
theorem w_c2 : (Jvm.Cond.code ({ cls := "java/lang/Object", name := "<init>", desc := "()V" } : Jvm.MethodName) object_method_1_code (1 : Nat) (Option.none : Option Jvm.ClassFile.FieldType)).before args0 about1 = true := code_word (m := ⟨0, 0⟩) (meth := k0m0) (c := k0c0) (by decide +kernel) rfl rfl rfl (by decide +kernel)
set_option maxRecDepth 65536 in
theorem w_c3 : (Jvm.Cond.code ({ cls := "com/example/patchcord/patchcord/media/Sound", name := "frames", desc := "()I" } : Jvm.MethodName) prog_38_method_5_code (1 : Nat) (Option.some Jvm.ClassFile.FieldType.int)).before args0 about1 = true := code_word (m := ⟨2, 1⟩) (meth := k2m1) (c := k2c1) (by decide +kernel) rfl rfl rfl (by decide +kernel)
def codes1 : List Jvm.Cond := [Jvm.Cond.code x code maxLocals ret, Jvm.Cond.code ({ cls := "com/example/patchcord/patchcord/media/Sound", name := "<init>", desc := "([S)V" } : Jvm.MethodName) prog_38_method_1_code (2 : Nat) (Option.none : Option Jvm.ClassFile.FieldType), Jvm.Cond.code ({ cls := "java/lang/Object", name := "<init>", desc := "()V" } : Jvm.MethodName) object_method_1_code (1 : Nat) (Option.none : Option Jvm.ClassFile.FieldType), Jvm.Cond.code ({ cls := "com/example/patchcord/patchcord/media/Sound", name := "frames", desc := "()I" } : Jvm.MethodName) prog_38_method_5_code (1 : Nat) (Option.some Jvm.ClassFile.FieldType.int)]
set_option maxRecDepth 65536 in
theorem codes_eq : words1.filter isCode = codes1 := rfl
theorem w_codes : ∀ c ∈ words1.filter isCode, c.before args0 about1 = true := by
  rw [codes_eq]
  intro c hc
  simp only [codes1, List.mem_cons, List.not_mem_nil, or_false] at hc
  rcases hc with rfl | rfl | rfl | rfl
  · exact w_c0
  · exact w_c1
  · exact w_c2
  · exact w_c3
set_option maxRecDepth 65536 in
theorem w_t1 : (words1.take 24).all (fun c => isCode c || c.before args0 about1) = true := by decide +kernel
set_option maxRecDepth 65536 in
theorem w_t2 : (words1.drop 24).all (fun c => isCode c || c.before args0 about1) = true := by decide +kernel
theorem w_tables : (allAtoms (Jvm.Cond.code x code maxLocals ret :: tables_1)).before args0 about1 = true := by
  rw [allAtoms_all]
  show words1.all (fun c => c.before args0 about1) = true
  refine all_split ?_ w_codes
  rw [← List.take_append_drop 24 words1, List.all_append, w_t1, w_t2]
  rfl
set_option maxRecDepth 65536 in
theorem w_case : (Jvm.Cond.and given_1 narrow_1).before args0 about1 = true := by decide +kernel
theorem w_applies : (headSpec (Jvm.Cond.code x code maxLocals ret :: tables_1) room_1).applies x e0.platform about1 = true :=
  (Spec.applies_iff w_frames).mpr ⟨w_running, w_runnable, w_alone, w_named, w_hears, w_ripe, w_room, w_tables⟩
theorem atStart : AtStart classFile x code maxLocals ret World_1 tables_1 room_1 Calls_1 rest_1 Pre_1 launch0 p0 e0 about1 theMethod args0 below0 :=
  ⟨lists_1, trivial, launch0.admits_env _ _ _, launch0.least_env, fairChoices_fair.cas, fairChoices_fair.clock, w_frames, w_args, w_heap, w_applies, trivial, trivial, w_case⟩
end start1
theorem witness_1 : WitnessClaimed_1 := ⟨start1.p0, start1.e0, start1.about1, start1.theMethod, start1.args0, start1.below0, start1.atStart⟩
end Jvm.Pilot.@@N@@
