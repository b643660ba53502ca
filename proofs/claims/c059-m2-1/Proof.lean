import JvmDerived
import JvmDerived.Pilot.@@N@@Statement
import JvmDerived.Pilot.@@N@@Code
set_option linter.unusedVariables false
set_option linter.unusedSimpArgs false
@@BLOCK:NumsL.lean.txt@@
namespace Jvm.RoadKit
open Sem ClassFile Op Lib Jvm.Stand Jvm.Free Jvm.LawKit
section New
variable {p : Program} {l : Launch} {e : Env} {R : Room} {s : State} {m : MethodId} {args : Array Value} {below : List Frame} {meth : Method} {c : Code} {T : State} {locs : List Loc} {cells slots : Nat}
theorem retI (X : Stand p l e R s m args below meth c T locs cells slots) (hx : p.tables.exec = Jvm.exec) {pc : Nat} {Ls : Array Slot} {z : Int32} {rest : List Value} (hret : meth.sig.returnType = some .int) (hd : decode c.code pc = .ok (.ireturn, 1)) {fs : List Frame}
    (hl : ∀ (f : JFrame) (acts : List Action), f.method = m → f.locked = none → f.entered = [] → (doReturn e (T.setTop f) acts (some (.int z))).1 = T.setFrames fs) : Steps p.tables e below (T.setTop (mkF m pc Ls (.int z :: rest))) (T.setFrames fs) :=
  retOut X hx (w := .int z) (t := .int) (i := .ireturn) hret rfl (Or.inl ⟨rfl, Or.inl rfl, z, rfl⟩) hd hl
theorem retJ (X : Stand p l e R s m args below meth c T locs cells slots) (hx : p.tables.exec = Jvm.exec) {pc : Nat} {Ls : Array Slot} {z : Int64} {rest : List Value} (hret : meth.sig.returnType = some .long) (hd : decode c.code pc = .ok (.lreturn, 1)) {fs : List Frame}
    (hl : ∀ (f : JFrame) (acts : List Action), f.method = m → f.locked = none → f.entered = [] → (doReturn e (T.setTop f) acts (some (.long z))).1 = T.setFrames fs) : Steps p.tables e below (T.setTop (mkF m pc Ls (.long z :: rest))) (T.setFrames fs) :=
  retOut X hx (w := .long z) (t := .long) (i := .lreturn) hret rfl (Or.inr (Or.inl ⟨rfl, rfl, z, rfl⟩)) hd hl
theorem retA (X : Stand p l e R s m args below meth c T locs cells slots) (hx : p.tables.exec = Jvm.exec) {pc : Nat} {Ls : Array Slot} {w : Value} {t : FieldType} {rest : List Value} (hret : meth.sig.returnType = some t) (ht : t.isReference = true) (hw : w.isRef = true) (hn : narrow t w = w) (hd : decode c.code pc = .ok (.areturn, 1)) {fs : List Frame}
    (hl : ∀ (f : JFrame) (acts : List Action), f.method = m → f.locked = none → f.entered = [] → (doReturn e (T.setTop f) acts (some w)).1 = T.setFrames fs) : Steps p.tables e below (T.setTop (mkF m pc Ls (w :: rest))) (T.setFrames fs) :=
  retOut X hx (w := w) (t := t) (i := .areturn) hret hn (Or.inr (Or.inr (Or.inr (Or.inr ⟨rfl, ht, hw⟩)))) hd hl
end New
end Jvm.RoadKit
namespace Jvm.Pilot.@@N@@
open Jvm Jvm.ClassFile Sem Op Lib Jvm.Free Jvm.Stand Jvm.LawKit Jvm.RoadKit Bundle Jvm.Pilot.@@N@@.Jvm.D
/-- from S every run comes to T -/
abbrev Go (p : Program) (e : Env) (below : List Frame) (S T : State) : Prop := ∀ t, Steps p.tables e below T t → Steps p.tables e below S t

theorem own_ofNat {c : Int32} {n : Nat} (h : c.toInt = n) : c = Int32.ofNat n := by
  apply Int32.toInt_inj.mp
  have h2 := c.toInt_lt
  rw [Int32.toInt_ofNat', show Int32.size = 4294967296 from rfl, Int.bmod_eq_of_le (by omega) (by omega), h]
theorem own_char (x : Int32) : (x.toUInt32.toUInt16.toUInt32.toInt32).toInt = x.toInt % 65536 := by
  have h : (x.toUInt32.toUInt16.toUInt32.toInt32).toBitVec = (x.toBitVec.setWidth 16).setWidth 32 := rfl
  have h1 : (x.toUInt32.toUInt16.toUInt32.toInt32).toInt = ((x.toBitVec.setWidth 16).setWidth 32).toInt := by rw [← h]; rfl
  rw [h1, BitVec.toInt_eq_toNat_cond]
  have h3 : x.toInt = x.toBitVec.toInt := rfl
  rw [h3, BitVec.toInt_eq_toNat_cond]
  simp only [BitVec.toNat_setWidth]
  have := x.toBitVec.isLt
  split <;> split <;> omega


theorem own_m31 (x : Int32) : 0 ≤ (x &&& 2147483647).toInt := by
  have := Jvm.Kit.i32_mask x 2147483647 (k := 31) (by decide) (by decide); omega
theorem own_rem (x n : Int32) (hn : 0 < n.toInt) : 0 ≤ ((x &&& 2147483647) % n).toInt ∧ ((x &&& 2147483647) % n).toInt < n.toInt := by
  rw [Jvm.Kit.i32_rem_nonneg (own_m31 x)]
  exact ⟨Int.emod_nonneg _ (by omega), Int.emod_lt_of_pos _ hn⟩
theorem own_remeq (x y : Int32) : x - (x / y) * y = x % y := by
  apply Int32.toInt_inj.mp
  have a := (x % y).toInt_lt; have b := (x % y).le_toInt
  rw [Int32.toInt_mod] at a b ⊢
  rw [Int32.toInt_sub, Int32.toInt_mul, Int32.toInt_div, Int.bmod_mul_bmod, Int.sub_bmod_bmod, Int.mul_comm, ← Int.tmod_def]
  exact Jvm.Kit.bmod32 b a
theorem own_irem {tb : Tables} [Ours tb] {e : Env} {below : List Frame} {T target : State} {m : MethodId} {c : Code} {g : JFrame} (h : At T m c below) (hx : tb.exec = Jvm.exec) (hg : g.method = m) {x y : Int32} {rest : List Value} (hd : decode c.code g.pc = .ok (.irem, 1)) (hs : g.stack = .int y :: .int x :: rest) (hy : y ≠ 0)
    (hr : Steps tb e below (T.setTop { g with pc := g.pc + 1, stack := .int (x % y) :: rest }) target) : Steps tb e below (T.setTop g) target := XS.irem h hx hg hd hs hy (by rw [own_remeq]; exact hr)

/-- an array by a function of the place -/
def Arf (Z : State) (h : Heap) (a : Addr) (k : ClassId) (ty : FieldType) (n : Int32) (f : Nat → Value) : Prop := ∃ hs vs dv, Arh Z h a k ty n hs vs dv ∧ ∀ i, i < n.toNatClampNeg → getH hs vs dv i = f i
theorem Arf.ext {Z : State} {h h' : Heap} {a : Addr} {k : ClassId} {ty : FieldType} {n : Int32} {f : Nat → Value} (F : Arf Z h a k ty n f) (E : Ext h h') : Arf Z h' a k ty n f := by
  obtain ⟨hs, vs, dv, A, q⟩ := F; exact ⟨hs, vs, dv, A.ext E, q⟩
theorem Arf.other {Z : State} {h h' : Heap} {a b : Addr} {k : ClassId} {ty : FieldType} {n : Int32} {f : Nat → Value} {sl : Nat} {v : Value} (F : Arf Z h b k ty n f) (W : Wr h h' a sl v) (q : b ≠ a) : Arf Z h' b k ty n f := by
  obtain ⟨hs, vs, dv, A, r⟩ := F; exact ⟨hs, vs, dv, A.other W q, r⟩
theorem Arf.keep {Z : State} {h h' : Heap} {a : Addr} {k : ClassId} {ty : FieldType} {n : Int32} {f : Nat → Value} {ws : List Addr} (F : Arf Z h a k ty n f) (K : Keep h h' ws) (q : a ∉ ws) : Arf Z h' a k ty n f := by
  obtain ⟨hs, vs, dv, A, r⟩ := F; exact ⟨hs, vs, dv, A.keep K q, r⟩
theorem Arf.lt {Z : State} {h : Heap} {a : Addr} {k : ClassId} {ty : FieldType} {n : Int32} {f : Nat → Value} (F : Arf Z h a k ty n f) : a < h.size := by
  obtain ⟨hs, vs, dv, A, r⟩ := F; exact A.lt
theorem Arf.cell {Z : State} {h : Heap} {a : Addr} {k : ClassId} {ty : FieldType} {n : Int32} {f : Nat → Value} (F : Arf Z h a k ty n f) : ∃ cl : Cell, Arr Z h a cl ty ∧ cl.slots.size = n.toNatClampNeg ∧ ¬ n < 0 ∧ ∀ i, i < n.toNatClampNeg → cl.slots[i]? = some (f i) := by
  obtain ⟨hs, vs, dv, ⟨c, A, r1, r2, r3, H, G⟩, q⟩ := F
  exact ⟨c, A, r2, r3, fun i hi => by rw [← q i hi]; exact H i (r2 ▸ hi)⟩
/-- f with v at the place j -/
def own_up (f : Nat → Value) (j : Int32) (v : Value) : Nat → Value := fun i => if i = j.toNatClampNeg then v else f i
theorem Arf.set {Z : State} {h h' : Heap} {a : Addr} {k : ClassId} {ty : FieldType} {n j : Int32} {f : Nat → Value} {v : Value} (F : Arf Z h a k ty n f) (hv : fits ty v = true) (W : Wr h h' a j.toNatClampNeg v) (hj : ¬ j < 0 ∧ j < n) : Arf Z h' a k ty n (own_up f j v) := by
  obtain ⟨hs, vs, dv, ⟨c, A, r1, r2, r3, H, G⟩, q⟩ := F
  refine ⟨(j, v) :: hs, vs, dv, Arh.push A r1 r2 r3 H G hv W (inb_of r2 hj), fun i hi => ?_⟩
  have e := nat_of hj.1
  show (if j.toInt = (i : Int) then v else getH hs vs dv i) = if i = j.toNatClampNeg then v else f i
  by_cases hc : i = j.toNatClampNeg
  · rw [if_pos hc, if_pos (by rw [e, hc])]
  · rw [if_neg hc, if_neg (by rw [e]; omega), q i hi]
theorem Arf.of_arv {Z : State} {h : Heap} {a : Addr} {k : ClassId} {ty : FieldType} {n : Int32} {vs : List Value} {dv : Value} (F : Arv Z h a k ty n vs dv) : Arf Z h a k ty n (fun i => vs.getD i dv) := ⟨[], vs, dv, F, fun _ _ => rfl⟩
theorem Arf.as {Z : State} {h : Heap} {a : Addr} {k : ClassId} {ty : FieldType} {n : Int32} {f g : Nat → Value} (F : Arf Z h a k ty n f) (e : ∀ i, i < n.toNatClampNeg → f i = g i) : Arf Z h a k ty n g := by
  obtain ⟨hs, vs, dv, A, q⟩ := F; exact ⟨hs, vs, dv, A, fun i hi => (q i hi).trans (e i hi)⟩
theorem Arf.new {Z : State} {h : Heap} {a : Addr} {k : ClassId} {ty : FieldType} {n : Int32} (A : Arr Z h a (newA k ty n) ty) (q : ¬ n < 0) : Arf Z h a k ty n (fun _ => defaultValue ty) := (Arf.of_arv (Arv.new A q)).as fun _ _ => rfl
theorem own_lt {j n : Int32} (h : ¬ j < 0 ∧ j < n) : j.toNatClampNeg < n.toNatClampNeg := by
  have h1 := h.1; have h2 := h.2
  rw [Int32.lt_iff_toInt_lt] at h1 h2
  have : (0 : Int32).toInt = 0 := rfl
  show j.toInt.toNat < n.toInt.toNat; omega
theorem ef_3 (m : MethodId) (p0 : Int32) (p1 : Int32) : entryFrame m #[(.int p0), (.int p1)] 2 = mkF m 0 #[.val (.int p0), .val (.int p1)] [] := by first | (simp [entryFrame, mkF, argsToLocals, Value.category]; done) | rfl
theorem d3_0 : decode method_3_code 0 = .ok (.iload_n 0, 1) := by decide +kernel
theorem d3_1 : decode method_3_code 1 = .ok (.iload_n 1, 1) := by decide +kernel
theorem d3_2 : decode method_3_code 2 = .ok (.if_icmp .ne 5, 3) := by decide +kernel
theorem d3_5 : decode method_3_code 5 = .ok (.iconst 1, 1) := by decide +kernel
theorem d3_6 : decode method_3_code 6 = .ok (.ireturn, 1) := by decide +kernel
theorem d3_7 : decode method_3_code 7 = .ok (.iconst 0, 1) := by decide +kernel
theorem d3_8 : decode method_3_code 8 = .ok (.ireturn, 1) := by decide +kernel
def fhit (p0 : Int32) (p1 : Int32) : Int32 := (if p0 = p1 then (1 : Int32) else (0 : Int32))
def Q3 (Z : State) (p0 : Int32) (p1 : Int32) (h0 : Heap) (n0 : Nat) (v : Option Value) (h : Heap) (L : List Loc) : Prop := v = some (.int (fhit p0 p1)) ∧ Fr n0 L ∧ h = h0
set_option maxRecDepth 65536 in
set_option maxHeartbeats 40000000 in
theorem pn_com_example_kripketools_kripketools_AdjacencyDegreePinLaw : plainName "com/example/kripketools/kripketools/AdjacencyDegreePinLaw" = true := by first | (simp [plainName, overriddenIn]; done) | decide +kernel
theorem rm3 (l : Launch) (Z : State) (a0 : Array Value) (hw : ∀ d ∈ tables_1, d.before a0 Z = true) (ws : List Jvm.Cond) (p0 : Int32) (p1 : Int32) (h0 : Heap) (n0 : Nat) (Z0 : n0 ≤ h0.size) :
    MetFree l (⟨"com/example/kripketools/kripketools/AdjacencyDegreePinLaw", "hit", "(II)I"⟩ : MethodName) (head1 (Jvm.Cond.code (⟨"com/example/kripketools/kripketools/AdjacencyDegreePinLaw", "hit", "(II)I"⟩ : MethodName) method_3_code 2 (some .int) :: ws) ({ frames := 0, cells := 0, slots := 0, locals := 0 } : Room)) (fun a U => a = #[(.int p0), (.int p1)] ∧ Z.Warmed39 U.vm ∧ U.heap = h0) (fun _ _ _ _ _ => True) (fun _ U o U' => ∃ v L, o = .returned v ∧ Q3 Z p0 p1 h0 n0 v U'.heap L ∧ FrameEnd U o U' L ({ frames := 0, cells := 0, slots := 0, locals := 0 } : Room).cells ({ frames := 0, cells := 0, slots := 0, locals := 0 } : Room).slots) := by
  refine MetFree.of_bodySF (plainFor_of_name pn_com_example_kripketools_kripketools_AdjacencyDegreePinLaw) hisR ?_
  intro p e s m args below meth c s₁ Bd hml0 hP hK
  obtain ⟨rfl, hZ, hh⟩ := hP
  have hx := Bd.exec
  have hby := Bd.bytes
  have hml : c.maxLocals = 2 := hml0
  have hown : s.vm.findClass "com/example/kripketools/kripketools/AdjacencyDegreePinLaw" = some m.cls := findClass_of_methodNamed Bd.named
  have hnm := (name_of_methodNamed Bd.named Bd.method).1
  have hlk : meth.locks = false := BodyLoose.notSynchronized Bd
  have X0 : Stand p l e ({ frames := 0, cells := 0, slots := 0, locals := 0 } : Room) s m #[(.int p0), (.int p1)] below meth c s₁ [] 0 0 := Stand.of_body Bd
  have e0 : s₁.heap = h0 := by rw [← hh, Bd.state]; rfl
  have N0 := Fr.nil n0
  have pre0 : Go p e below (s₁.setTop (entryFrame m #[(.int p0), (.int p1)] 2)) (s₁.setTop (mkF m 0 #[.val (.int p0), .val (.int p1)] [])) := fun t k => castTop (ef_3 m p0 p1) k
  have pre1 : Go p e below (s₁.setTop (entryFrame m #[(.int p0), (.int p1)] 2)) (s₁.setTop (mkF m 2 #[.val (.int p0), .val (.int p1)] [(.int p1), (.int p0)])) := by
    intro t k
    refine pre0 t ?_
    show Steps p.tables e below (s₁.setTop (mkF m 0 #[.val (.int p0), .val (.int p1)] [])) _
    refine XS.iloadN X0.here hx rfl (hb hby d3_0) rfl ?_
    show Steps p.tables e below (s₁.setTop (mkF m 1 #[.val (.int p0), .val (.int p1)] [(.int p0)])) _
    refine XS.iloadN X0.here hx rfl (hb hby d3_1) rfl ?_
    show Steps p.tables e below (s₁.setTop (mkF m 2 #[.val (.int p0), .val (.int p1)] [(.int p1), (.int p0)])) _
    exact k
  by_cases hc2_2 : p0 = p1
  · skip
    have pre3 : Go p e below (s₁.setTop (entryFrame m #[(.int p0), (.int p1)] 2)) (s₁.setTop (mkF m 6 #[.val (.int p0), .val (.int p1)] [(.int (1 : Int32))])) := by
      intro t k
      refine pre1 t ?_
      show Steps p.tables e below (s₁.setTop (mkF m 2 #[.val (.int p0), .val (.int p1)] [(.int p1), (.int p0)])) _
      refine XS.icmpNo X0.here hx rfl (hb hby d3_2) rfl (XT.ii_ne_f hc2_2) ?_
      show Steps p.tables e below (s₁.setTop (mkF m 5 #[.val (.int p0), .val (.int p1)] [])) _
      refine XS.iconst X0.here hx rfl (hb hby d3_5) ?_
      show Steps p.tables e below (s₁.setTop (mkF m 6 #[.val (.int p0), .val (.int p1)] [(.int (1 : Int32))])) _
      exact k
    obtain ⟨fs, hr, hrun, hended, hW, hsame⟩ := X0.leave (hlocks := hlk) (v := some (.int (1 : Int32))) (fun h => by rw [Bd.returns] at h; cases h)
    refine ⟨_, _, pre3 _ (retI X0 hx Bd.returns (hb hby d3_6) hr), hrun, hended, _, _, rfl, ?_, ⟨_, rfl⟩, hW, hsame.mono (by decide) (by decide)⟩
    show Q3 Z p0 p1 h0 n0 _ s₁.heap _
    rw [e0]
    exact ⟨congrArg some (congrArg Value.int (show (1 : Int32) = fhit p0 p1 from by rw [fhit, if_pos hc2_2])), N0, rfl⟩
  · skip
    have pre4 : Go p e below (s₁.setTop (entryFrame m #[(.int p0), (.int p1)] 2)) (s₁.setTop (mkF m 8 #[.val (.int p0), .val (.int p1)] [(.int (0 : Int32))])) := by
      intro t k
      refine pre1 t ?_
      show Steps p.tables e below (s₁.setTop (mkF m 2 #[.val (.int p0), .val (.int p1)] [(.int p1), (.int p0)])) _
      refine XS.icmpYes X0.here hx rfl (pc0 := 2) (pc' := 7) rfl (hb hby d3_2) rfl (XT.ii_ne_t hc2_2) (by decide) (by decide) ?_
      show Steps p.tables e below (s₁.setTop (mkF m 7 #[.val (.int p0), .val (.int p1)] [])) _
      refine XS.iconst X0.here hx rfl (hb hby d3_7) ?_
      show Steps p.tables e below (s₁.setTop (mkF m 8 #[.val (.int p0), .val (.int p1)] [(.int (0 : Int32))])) _
      exact k
    obtain ⟨fs, hr, hrun, hended, hW, hsame⟩ := X0.leave (hlocks := hlk) (v := some (.int (0 : Int32))) (fun h => by rw [Bd.returns] at h; cases h)
    refine ⟨_, _, pre4 _ (retI X0 hx Bd.returns (hb hby d3_8) hr), hrun, hended, _, _, rfl, ?_, ⟨_, rfl⟩, hW, hsame.mono (by decide) (by decide)⟩
    show Q3 Z p0 p1 h0 n0 _ s₁.heap _
    rw [e0]
    exact ⟨congrArg some (congrArg Value.int (show (0 : Int32) = fhit p0 p1 from by rw [fhit, if_neg hc2_2])), N0, rfl⟩
/-- an int array by naturals -/
def own_st (c : Nat → Nat) : Nat → Value := fun i => .int (Int32.ofNat (c i))
def own_cnt : List Int32 → Nat → Nat
  | [], _ => 0
  | e :: t, i => own_cnt t i + (if i = (e + (1 : Int32)).toNatClampNeg then 1 else 0)
def own_nx : List Int32 → Nat → Nat
  | [], _ => 0
  | e :: t, i => own_nx t i + (if i = e.toNatClampNeg then 1 else 0)
def own_le : List Int32 → Nat → Nat
  | [], _ => 0
  | e :: t, i => own_le t i + (if (e + (1 : Int32)).toNatClampNeg ≤ i then 1 else 0)
def own_acc (c : Nat → Nat) : Nat → Nat → Nat
  | 0 => c
  | s + 1 => fun i => if i = s + 1 then own_acc c s (s + 1) + own_acc c s s else own_acc c s i
theorem own_ofadd (a : Nat) : Int32.ofNat a + (1 : Int32) = Int32.ofNat (a + 1) := (Int32.ofNat_add a 1).symm
theorem own_inc (es : List Int32) (e : Int32) (i : Nat) : own_up (own_st (own_cnt es)) (e + (1 : Int32)) (.int (Int32.ofNat (own_cnt es (e + (1 : Int32)).toNatClampNeg) + (1 : Int32))) i = own_st (own_cnt (e :: es)) i := by
  show (if i = (e + (1 : Int32)).toNatClampNeg then _ else _) = Value.int (Int32.ofNat (own_cnt es i + (if i = (e + (1 : Int32)).toNatClampNeg then 1 else 0)))
  split
  · rename_i h; rw [h, own_ofadd]
  · rfl
theorem own_incN (es : List Int32) (e : Int32) (i : Nat) : own_up (own_st (own_nx es)) e (.int (Int32.ofNat (own_nx es e.toNatClampNeg) + (1 : Int32))) i = own_st (own_nx (e :: es)) i := by
  show (if i = e.toNatClampNeg then _ else _) = Value.int (Int32.ofNat (own_nx es i + (if i = e.toNatClampNeg then 1 else 0)))
  split
  · rename_i h; rw [h, own_ofadd]
  · rfl
theorem own_step (c : Nat → Nat) (n : Nat) (s : Int32) (hs : s.toNatClampNeg = n) (h1 : (s + (1 : Int32)).toNatClampNeg = n + 1) (i : Nat) :
    own_up (own_st (own_acc c n)) (s + (1 : Int32)) (.int (Int32.ofNat (own_acc c n (s + (1 : Int32)).toNatClampNeg) + Int32.ofNat (own_acc c n s.toNatClampNeg))) i = own_st (own_acc c (n + 1)) i := by
  rw [h1, hs]
  show (if i = (s + (1 : Int32)).toNatClampNeg then _ else _) = Value.int (Int32.ofNat (if i = n + 1 then own_acc c n (n + 1) + own_acc c n n else own_acc c n i))
  rw [h1]
  split
  · rw [Int32.ofNat_add]
  · rfl
theorem own_cle (es : List Int32) (hq : ∀ e ∈ es, 1 ≤ (e + (1 : Int32)).toNatClampNeg) (n : Nat) : own_cnt es 0 = own_le es 0 ∧ own_cnt es (n + 1) + own_le es n = own_le es (n + 1) := by
  induction es with
  | nil => exact ⟨rfl, rfl⟩
  | cons e t ih =>
    have h1 := ih fun x hx => hq x (List.mem_cons_of_mem _ hx)
    have h2 := hq e (List.mem_cons_self ..)
    simp only [own_cnt, own_le]
    constructor
    · rw [if_neg (by omega), if_neg (by omega), h1.1]
    · have h3 := h1.2
      repeat' split
      all_goals omega
theorem own_acc_eq (es : List Int32) (hq : ∀ e ∈ es, 1 ≤ (e + (1 : Int32)).toNatClampNeg) (n : Nat) : ∀ i, own_acc (own_cnt es) n i = if i ≤ n then own_le es i else own_cnt es i := by
  induction n with
  | zero =>
    intro i
    show own_cnt es i = _
    by_cases h : i ≤ 0
    · rw [if_pos h, show i = 0 from by omega]; exact (own_cle es hq 0).1
    · rw [if_neg h]
  | succ n ih =>
    intro i
    show (if i = n + 1 then own_acc (own_cnt es) n (n + 1) + own_acc (own_cnt es) n n else own_acc (own_cnt es) n i) = _
    by_cases h : i = n + 1
    · rw [if_pos h, ih, ih, if_neg (by omega), if_pos (by omega), if_pos (by omega), h]; exact (own_cle es hq n).2
    · rw [if_neg h, ih]
      by_cases h2 : i ≤ n
      · rw [if_pos h2, if_pos (by omega)]
      · rw [if_neg h2, if_neg (by omega)]
theorem own_q {e n : Int32} (h : 0 ≤ e.toInt) (h2 : e.toInt < n.toInt) (h3 : n.toInt ≤ 8) : (e + (1 : Int32)).toInt = e.toInt + 1 ∧ (e + (1 : Int32)).toNatClampNeg = e.toNatClampNeg + 1 := by
  have c1 : (1 : Int32).toInt = 1 := rfl
  have d1 : (e + (1 : Int32)).toInt = e.toInt + 1 := by rw [Jvm.Kit.i32_add (by omega) (by omega), c1]
  exact ⟨d1, by show (e + (1 : Int32)).toInt.toNat = e.toInt.toNat + 1; omega⟩
theorem own_i1 {e n : Int32} (h : 0 ≤ e.toInt ∧ e.toInt < n.toInt) (h3 : n.toInt ≤ 8) : ¬ (e + (1 : Int32)) < 0 ∧ (e + (1 : Int32)) < n + (1 : Int32) := by
  have c1 : (1 : Int32).toInt = 1 := rfl
  have c0 : (0 : Int32).toInt = 0 := rfl
  have d1 := (own_q h.1 h.2 h3).1
  have d2 : (n + (1 : Int32)).toInt = n.toInt + 1 := by rw [Jvm.Kit.i32_add (by omega) (by omega), c1]
  rw [Int32.lt_iff_toInt_lt, Int32.lt_iff_toInt_lt]; omega
theorem own_i0 {e n : Int32} (h : 0 ≤ e.toInt ∧ e.toInt < n.toInt) (h3 : n.toInt ≤ 8) : ¬ e < 0 ∧ e < n + (1 : Int32) := by
  have c1 : (1 : Int32).toInt = 1 := rfl
  have c0 : (0 : Int32).toInt = 0 := rfl
  have d2 : (n + (1 : Int32)).toInt = n.toInt + 1 := by rw [Jvm.Kit.i32_add (by omega) (by omega), c1]
  rw [Int32.lt_iff_toInt_lt, Int32.lt_iff_toInt_lt]; omega
theorem own_in {e n : Int32} (h : 0 ≤ e.toInt ∧ e.toInt < n.toInt) : ¬ e < 0 ∧ e < n := by
  have c0 : (0 : Int32).toInt = 0 := rfl
  rw [Int32.lt_iff_toInt_lt, Int32.lt_iff_toInt_lt]; omega
theorem own_small {a b : Nat} (h : a + b ≤ 3) : ¬ (Int32.ofNat a + Int32.ofNat b) < 0 ∧ (Int32.ofNat a + Int32.ofNat b) < (4 : Int32) := by
  rw [← Int32.ofNat_add]
  have : ∀ k : Fin 4, ¬ Int32.ofNat k.val < 0 ∧ Int32.ofNat k.val < (4 : Int32) := by decide
  exact this ⟨a + b, by omega⟩
theorem own_two (a b : Nat) : (if a + 1 ≤ b then 1 else 0) + (if b = a then 1 else 0) ≤ 1 := by (repeat' split) <;> omega
theorem own_one (p : Prop) [Decidable p] : (if p then 1 else 0) ≤ 1 := by split <;> omega
theorem own_self (a : Nat) : (if a + 1 ≤ a then 1 else 0) = 0 := if_neg (by omega)
theorem d1_56 : decode prog_1_method_1_code 56 = .ok (.iload_n 3, 1) := by decide +kernel
theorem d1_57 : decode prog_1_method_1_code 57 = .ok (.iload_n 2, 1) := by decide +kernel
theorem d1_58 : decode prog_1_method_1_code 58 = .ok (.if_icmp .ge 26, 3) := by decide +kernel
theorem d1_61 : decode prog_1_method_1_code 61 = .ok (.aload_n 0, 1) := by decide +kernel
theorem d1_62 : decode prog_1_method_1_code 62 = .ok (.getfield 7, 3) := by decide +kernel
theorem d1_65 : decode prog_1_method_1_code 65 = .ok (.iload_n 3, 1) := by decide +kernel
theorem d1_66 : decode prog_1_method_1_code 66 = .ok (.iconst 1, 1) := by decide +kernel
theorem d1_67 : decode prog_1_method_1_code 67 = .ok (.iadd, 1) := by decide +kernel
theorem d1_68 : decode prog_1_method_1_code 68 = .ok (.dup2, 1) := by decide +kernel
theorem d1_69 : decode prog_1_method_1_code 69 = .ok (.iaload, 1) := by decide +kernel
theorem d1_70 : decode prog_1_method_1_code 70 = .ok (.aload_n 0, 1) := by decide +kernel
theorem d1_71 : decode prog_1_method_1_code 71 = .ok (.getfield 7, 3) := by decide +kernel
theorem d1_74 : decode prog_1_method_1_code 74 = .ok (.iload_n 3, 1) := by decide +kernel
theorem d1_75 : decode prog_1_method_1_code 75 = .ok (.iaload, 1) := by decide +kernel
theorem d1_76 : decode prog_1_method_1_code 76 = .ok (.iadd, 1) := by decide +kernel
theorem d1_77 : decode prog_1_method_1_code 77 = .ok (.iastore, 1) := by decide +kernel
theorem d1_78 : decode prog_1_method_1_code 78 = .ok (.iinc 3 1, 3) := by decide +kernel
theorem d1_81 : decode prog_1_method_1_code 81 = .ok (.goto (-25), 3) := by decide +kernel
set_option maxRecDepth 65536 in
set_option maxHeartbeats 40000000 in
theorem tn56 {p : Program} {l : Launch} {e : Env} {R : Room} {s : State} {m : MethodId} {args : Array Value} {below : List Frame} {meth : Method} {c : Code} {T0 : State} {locs : List Loc} {cells slots : Nat} {Z : State} {a0 : Array Value} {h0 : Heap} {n0 : Nat}  {a1 a2 bS : Addr} {nn sv i4 i5 i6 : Int32} {kS : ClassId} {cc : Nat → Nat} {n : Nat}
    (X0 : Stand p l e R s m args below meth c T0 locs cells slots) (hx : p.tables.exec = Jvm.exec) (hZ : Z.Warmed39 s.vm) (hw : ∀ d ∈ tables_1, d.before a0 Z = true) (hby : c.code = prog_1_method_1_code) (hml : c.maxLocals = 7) (hown : s.vm.findClass "com/example/kripketools/kripketools/Adjacency" = some m.cls) (e0 : T0.heap = h0) (N0 : Fr n0 locs) (Z0 : n0 ≤ h0.size) (F1 : Fld Z h0 a1 "com/example/kripketools/kripketools/Adjacency" "start" "[I" (.ref bS)) (AV : Arf Z h0 bS kS .int (nn + (1 : Int32)) (own_st (own_acc cc n))) (g_bS : n0 ≤ bS) (ne_a1_bS : a1 ≠ bS) (hsv : 0 ≤ sv.toInt ∧ sv.toInt < nn.toInt) (hn8 : nn.toInt ≤ 8) (hnn : sv.toNatClampNeg = n) :
    ∃ (T' : State) (h' : Heap) (locs' : List Loc), Stand p l e R s m args below meth c T' locs' cells slots ∧ T'.heap = h' ∧ Fr n0 locs' ∧ Keep h0 h' [bS] ∧ Arf Z h' bS kS .int (nn + (1 : Int32)) (own_st (own_acc cc (n + 1))) ∧ Go p e below (T0.setTop (mkF m 56 #[.val (.ref a1), .val (.ref a2), .val (.int nn), .val (.int sv), .val (.int i4), .val (.int i5), .val (.int i6)] [])) (T'.setTop (mkF m 56 #[.val (.ref a1), .val (.ref a2), .val (.int nn), .val (.int (sv + (1 : Int32))), .val (.int i4), .val (.int i5), .val (.int i6)] [])) := by
  have pre0 : Go p e below (T0.setTop (mkF m 56 #[.val (.ref a1), .val (.ref a2), .val (.int nn), .val (.int sv), .val (.int i4), .val (.int i5), .val (.int i6)] [])) (T0.setTop (mkF m 56 #[.val (.ref a1), .val (.ref a2), .val (.int nn), .val (.int sv), .val (.int i4), .val (.int i5), .val (.int i6)] [])) := fun t k => k
  have pre1 : Go p e below (T0.setTop (mkF m 56 #[.val (.ref a1), .val (.ref a2), .val (.int nn), .val (.int sv), .val (.int i4), .val (.int i5), .val (.int i6)] [])) (T0.setTop (mkF m 58 #[.val (.ref a1), .val (.ref a2), .val (.int nn), .val (.int sv), .val (.int i4), .val (.int i5), .val (.int i6)] [(.int nn), (.int sv)])) := by
    intro t k
    refine pre0 t ?_
    show Steps p.tables e below (T0.setTop (mkF m 56 #[.val (.ref a1), .val (.ref a2), .val (.int nn), .val (.int sv), .val (.int i4), .val (.int i5), .val (.int i6)] [])) _
    refine XS.iloadN X0.here hx rfl (hb hby d1_56) rfl ?_
    show Steps p.tables e below (T0.setTop (mkF m 57 #[.val (.ref a1), .val (.ref a2), .val (.int nn), .val (.int sv), .val (.int i4), .val (.int i5), .val (.int i6)] [(.int sv)])) _
    refine XS.iloadN X0.here hx rfl (hb hby d1_57) rfl ?_
    show Steps p.tables e below (T0.setTop (mkF m 58 #[.val (.ref a1), .val (.ref a2), .val (.int nn), .val (.int sv), .val (.int i4), .val (.int i5), .val (.int i6)] [(.int nn), (.int sv)])) _
    exact k
  have hc58_2 : sv < nn := by
    rw [Int32.lt_iff_toInt_lt]; exact hsv.2
  have pre3 : Go p e below (T0.setTop (mkF m 56 #[.val (.ref a1), .val (.ref a2), .val (.int nn), .val (.int sv), .val (.int i4), .val (.int i5), .val (.int i6)] [])) (T0.setTop (mkF m 62 #[.val (.ref a1), .val (.ref a2), .val (.int nn), .val (.int sv), .val (.int i4), .val (.int i5), .val (.int i6)] [(.ref a1)])) := by
    intro t k
    refine pre1 t ?_
    show Steps p.tables e below (T0.setTop (mkF m 58 #[.val (.ref a1), .val (.ref a2), .val (.int nn), .val (.int sv), .val (.int i4), .val (.int i5), .val (.int i6)] [(.int nn), (.int sv)])) _
    refine XS.icmpNo X0.here hx rfl (hb hby d1_58) rfl (XT.ii_ge_f hc58_2) ?_
    show Steps p.tables e below (T0.setTop (mkF m 61 #[.val (.ref a1), .val (.ref a2), .val (.int nn), .val (.int sv), .val (.int i4), .val (.int i5), .val (.int i6)] [])) _
    refine XS.aloadN X0.here hx rfl (hb hby d1_61) rfl rfl ?_
    show Steps p.tables e below (T0.setTop (mkF m 62 #[.val (.ref a1), .val (.ref a2), .val (.int nn), .val (.int sv), .val (.int i4), .val (.int i5), .val (.int i6)] [(.ref a1)])) _
    exact k
  obtain ⟨T4, X4, e4, st4⟩ := getF X0 hx hZ hown (host := "") (Or.inl (hw _ (List.mem_of_getElem? (i := 11) rfl))) Via.refl e0 F1 (g := (mkF m 62 #[.val (.ref a1), .val (.ref a2), .val (.int nn), .val (.int sv), .val (.int i4), .val (.int i5), .val (.int i6)] [(.ref a1)])) rfl rfl (hb hby d1_62)
  have pre5 : Go p e below (T0.setTop (mkF m 56 #[.val (.ref a1), .val (.ref a2), .val (.int nn), .val (.int sv), .val (.int i4), .val (.int i5), .val (.int i6)] [])) (T4.setTop (mkF m 65 #[.val (.ref a1), .val (.ref a2), .val (.int nn), .val (.int sv), .val (.int i4), .val (.int i5), .val (.int i6)] [(.ref bS)])) := fun t k => pre3 t (st4 t k)
  obtain ⟨cl6, Ar6, SS6, NN6, HH6⟩ := AV.cell
  have hj6 : ¬ (sv + (1 : Int32)) < 0 ∧ (sv + (1 : Int32)) < (nn + (1 : Int32)) := (own_i1 hsv hn8)
  have hat6 : cl6.slots[((sv + (1 : Int32))).toNatClampNeg]? = some (.int (Int32.ofNat (own_acc cc n ((sv + (1 : Int32))).toNatClampNeg))) := (HH6 _ (own_lt hj6)).trans (congrArg some rfl)
  have pre7 : Go p e below (T0.setTop (mkF m 56 #[.val (.ref a1), .val (.ref a2), .val (.int nn), .val (.int sv), .val (.int i4), .val (.int i5), .val (.int i6)] [])) (T4.setTop (mkF m 71 #[.val (.ref a1), .val (.ref a2), .val (.int nn), .val (.int sv), .val (.int i4), .val (.int i5), .val (.int i6)] [(.ref a1), (.int (Int32.ofNat (own_acc cc n ((sv + (1 : Int32))).toNatClampNeg))), (.int (sv + (1 : Int32))), (.ref bS)])) := by
    intro t k
    refine pre5 t ?_
    show Steps p.tables e below (T4.setTop (mkF m 65 #[.val (.ref a1), .val (.ref a2), .val (.int nn), .val (.int sv), .val (.int i4), .val (.int i5), .val (.int i6)] [(.ref bS)])) _
    refine XS.iloadN X4.here hx rfl (hb hby d1_65) rfl ?_
    show Steps p.tables e below (T4.setTop (mkF m 66 #[.val (.ref a1), .val (.ref a2), .val (.int nn), .val (.int sv), .val (.int i4), .val (.int i5), .val (.int i6)] [(.int sv), (.ref bS)])) _
    refine XS.iconst X4.here hx rfl (hb hby d1_66) ?_
    show Steps p.tables e below (T4.setTop (mkF m 67 #[.val (.ref a1), .val (.ref a2), .val (.int nn), .val (.int sv), .val (.int i4), .val (.int i5), .val (.int i6)] [(.int (1 : Int32)), (.int sv), (.ref bS)])) _
    refine XS.iadd X4.here hx rfl (hb hby d1_67) rfl ?_
    show Steps p.tables e below (T4.setTop (mkF m 68 #[.val (.ref a1), .val (.ref a2), .val (.int nn), .val (.int sv), .val (.int i4), .val (.int i5), .val (.int i6)] [(.int (sv + (1 : Int32))), (.ref bS)])) _
    refine XT.dup2 X4.here hx rfl (hb hby d1_68) rfl rfl rfl ?_
    show Steps p.tables e below (T4.setTop (mkF m 69 #[.val (.ref a1), .val (.ref a2), .val (.int nn), .val (.int sv), .val (.int i4), .val (.int i5), .val (.int i6)] [(.int (sv + (1 : Int32))), (.ref bS), (.int (sv + (1 : Int32))), (.ref bS)])) _
    refine X4.iaload hx (j := (sv + (1 : Int32))) (v := (.int (Int32.ofNat (own_acc cc n ((sv + (1 : Int32))).toNatClampNeg)))) (by rw [e4]; exact Ar6.1) (State.isArrayOf_alike hZ.alike Ar6.2.1) Ar6.2.2 (inb_of SS6 hj6) hat6 (g := (mkF m 69 #[.val (.ref a1), .val (.ref a2), .val (.int nn), .val (.int sv), .val (.int i4), .val (.int i5), .val (.int i6)] [(.int (sv + (1 : Int32))), (.ref bS), (.int (sv + (1 : Int32))), (.ref bS)])) rfl rfl (hb hby d1_69) _ ?_
    show Steps p.tables e below (T4.setTop (mkF m 70 #[.val (.ref a1), .val (.ref a2), .val (.int nn), .val (.int sv), .val (.int i4), .val (.int i5), .val (.int i6)] [(.int (Int32.ofNat (own_acc cc n ((sv + (1 : Int32))).toNatClampNeg))), (.int (sv + (1 : Int32))), (.ref bS)])) _
    refine XS.aloadN X4.here hx rfl (hb hby d1_70) rfl rfl ?_
    show Steps p.tables e below (T4.setTop (mkF m 71 #[.val (.ref a1), .val (.ref a2), .val (.int nn), .val (.int sv), .val (.int i4), .val (.int i5), .val (.int i6)] [(.ref a1), (.int (Int32.ofNat (own_acc cc n ((sv + (1 : Int32))).toNatClampNeg))), (.int (sv + (1 : Int32))), (.ref bS)])) _
    exact k
  obtain ⟨T8, X8, e8, st8⟩ := getF X4 hx hZ hown (host := "") (Or.inl (hw _ (List.mem_of_getElem? (i := 11) rfl))) Via.refl e4 F1 (g := (mkF m 71 #[.val (.ref a1), .val (.ref a2), .val (.int nn), .val (.int sv), .val (.int i4), .val (.int i5), .val (.int i6)] [(.ref a1), (.int (Int32.ofNat (own_acc cc n ((sv + (1 : Int32))).toNatClampNeg))), (.int (sv + (1 : Int32))), (.ref bS)])) rfl rfl (hb hby d1_71)
  have pre9 : Go p e below (T0.setTop (mkF m 56 #[.val (.ref a1), .val (.ref a2), .val (.int nn), .val (.int sv), .val (.int i4), .val (.int i5), .val (.int i6)] [])) (T8.setTop (mkF m 74 #[.val (.ref a1), .val (.ref a2), .val (.int nn), .val (.int sv), .val (.int i4), .val (.int i5), .val (.int i6)] [(.ref bS), (.int (Int32.ofNat (own_acc cc n ((sv + (1 : Int32))).toNatClampNeg))), (.int (sv + (1 : Int32))), (.ref bS)])) := fun t k => pre7 t (st8 t k)
  obtain ⟨cl10, Ar10, SS10, NN10, HH10⟩ := AV.cell
  have hj10 : ¬ sv < 0 ∧ sv < (nn + (1 : Int32)) := (own_i0 hsv hn8)
  have hat10 : cl10.slots[(sv).toNatClampNeg]? = some (.int (Int32.ofNat (own_acc cc n (sv).toNatClampNeg))) := (HH10 _ (own_lt hj10)).trans (congrArg some rfl)
  have pre11 : Go p e below (T0.setTop (mkF m 56 #[.val (.ref a1), .val (.ref a2), .val (.int nn), .val (.int sv), .val (.int i4), .val (.int i5), .val (.int i6)] [])) (T8.setTop (mkF m 77 #[.val (.ref a1), .val (.ref a2), .val (.int nn), .val (.int sv), .val (.int i4), .val (.int i5), .val (.int i6)] [(.int ((Int32.ofNat (own_acc cc n ((sv + (1 : Int32))).toNatClampNeg)) + (Int32.ofNat (own_acc cc n (sv).toNatClampNeg)))), (.int (sv + (1 : Int32))), (.ref bS)])) := by
    intro t k
    refine pre9 t ?_
    show Steps p.tables e below (T8.setTop (mkF m 74 #[.val (.ref a1), .val (.ref a2), .val (.int nn), .val (.int sv), .val (.int i4), .val (.int i5), .val (.int i6)] [(.ref bS), (.int (Int32.ofNat (own_acc cc n ((sv + (1 : Int32))).toNatClampNeg))), (.int (sv + (1 : Int32))), (.ref bS)])) _
    refine XS.iloadN X8.here hx rfl (hb hby d1_74) rfl ?_
    show Steps p.tables e below (T8.setTop (mkF m 75 #[.val (.ref a1), .val (.ref a2), .val (.int nn), .val (.int sv), .val (.int i4), .val (.int i5), .val (.int i6)] [(.int sv), (.ref bS), (.int (Int32.ofNat (own_acc cc n ((sv + (1 : Int32))).toNatClampNeg))), (.int (sv + (1 : Int32))), (.ref bS)])) _
    refine X8.iaload hx (j := sv) (v := (.int (Int32.ofNat (own_acc cc n (sv).toNatClampNeg)))) (by rw [e8]; exact Ar10.1) (State.isArrayOf_alike hZ.alike Ar10.2.1) Ar10.2.2 (inb_of SS10 hj10) hat10 (g := (mkF m 75 #[.val (.ref a1), .val (.ref a2), .val (.int nn), .val (.int sv), .val (.int i4), .val (.int i5), .val (.int i6)] [(.int sv), (.ref bS), (.int (Int32.ofNat (own_acc cc n ((sv + (1 : Int32))).toNatClampNeg))), (.int (sv + (1 : Int32))), (.ref bS)])) rfl rfl (hb hby d1_75) _ ?_
    show Steps p.tables e below (T8.setTop (mkF m 76 #[.val (.ref a1), .val (.ref a2), .val (.int nn), .val (.int sv), .val (.int i4), .val (.int i5), .val (.int i6)] [(.int (Int32.ofNat (own_acc cc n (sv).toNatClampNeg))), (.int (Int32.ofNat (own_acc cc n ((sv + (1 : Int32))).toNatClampNeg))), (.int (sv + (1 : Int32))), (.ref bS)])) _
    refine XS.iadd X8.here hx rfl (hb hby d1_76) rfl ?_
    show Steps p.tables e below (T8.setTop (mkF m 77 #[.val (.ref a1), .val (.ref a2), .val (.int nn), .val (.int sv), .val (.int i4), .val (.int i5), .val (.int i6)] [(.int ((Int32.ofNat (own_acc cc n ((sv + (1 : Int32))).toNatClampNeg)) + (Int32.ofNat (own_acc cc n (sv).toNatClampNeg)))), (.int (sv + (1 : Int32))), (.ref bS)])) _
    exact k
  obtain ⟨cl12, Ar12, SS12, NN12, -⟩ := AV.cell
  have hj12 : ¬ (sv + (1 : Int32)) < 0 ∧ (sv + (1 : Int32)) < (nn + (1 : Int32)) := (own_i1 hsv hn8)
  obtain ⟨T12, h12, X12, e12, W12, st12⟩ := stI X8 hx hZ e8 Ar12 (j := (sv + (1 : Int32))) (inb_of SS12 hj12) (g := (mkF m 77 #[.val (.ref a1), .val (.ref a2), .val (.int nn), .val (.int sv), .val (.int i4), .val (.int i5), .val (.int i6)] [(.int ((Int32.ofNat (own_acc cc n ((sv + (1 : Int32))).toNatClampNeg)) + (Int32.ofNat (own_acc cc n (sv).toNatClampNeg)))), (.int (sv + (1 : Int32))), (.ref bS)])) rfl rfl (hb hby d1_77)
  have AV12 : Arf Z h12 bS kS .int (nn + (1 : Int32)) (own_st (own_acc cc (n + 1))) := (AV.set rfl W12 hj12).as (fun i _ => own_step cc n sv hnn (by rw [(own_q hsv.1 hsv.2 hn8).2, hnn]) i)
  have c13_12 := F1.other W12 (Or.inl ne_a1_bS)
  have zz14 := (Nat.le_trans Z0 (Keep.of_wr W12).1)
  have K15 := (Keep.refl h0 [bS]).wr W12 (Or.inl (List.mem_singleton.mpr rfl))
  have N12 := Fr.snoc X12 N0 g_bS
  have pre16 : Go p e below (T0.setTop (mkF m 56 #[.val (.ref a1), .val (.ref a2), .val (.int nn), .val (.int sv), .val (.int i4), .val (.int i5), .val (.int i6)] [])) (T12.setTop (mkF m 78 #[.val (.ref a1), .val (.ref a2), .val (.int nn), .val (.int sv), .val (.int i4), .val (.int i5), .val (.int i6)] [])) := fun t k => pre11 t (st12 t k)
  have pre17 : Go p e below (T0.setTop (mkF m 56 #[.val (.ref a1), .val (.ref a2), .val (.int nn), .val (.int sv), .val (.int i4), .val (.int i5), .val (.int i6)] [])) (T12.setTop (mkF m 56 #[.val (.ref a1), .val (.ref a2), .val (.int nn), .val (.int (sv + (1 : Int32))), .val (.int i4), .val (.int i5), .val (.int i6)] [])) := by
    intro t k
    refine pre16 t ?_
    show Steps p.tables e below (T12.setTop (mkF m 78 #[.val (.ref a1), .val (.ref a2), .val (.int nn), .val (.int sv), .val (.int i4), .val (.int i5), .val (.int i6)] [])) _
    refine XS.iinc X12.here hx rfl (hb hby d1_78) rfl (l' := #[.val (.ref a1), .val (.ref a2), .val (.int nn), .val (.int (sv + (1 : Int32))), .val (.int i4), .val (.int i5), .val (.int i6)]) rfl ?_
    show Steps p.tables e below (T12.setTop (mkF m 81 #[.val (.ref a1), .val (.ref a2), .val (.int nn), .val (.int (sv + (1 : Int32))), .val (.int i4), .val (.int i5), .val (.int i6)] [])) _
    refine XS.goto X12.here hx rfl (pc0 := 81) (pc' := 56) rfl (hb hby d1_81) (by decide) (by decide) ?_
    show Steps p.tables e below (T12.setTop (mkF m 56 #[.val (.ref a1), .val (.ref a2), .val (.int nn), .val (.int (sv + (1 : Int32))), .val (.int i4), .val (.int i5), .val (.int i6)] [])) _
    exact k
  exact ⟨T12, h12, _, X12, e12, N12, K15, AV12, pre17⟩
set_option maxRecDepth 65536 in
set_option maxHeartbeats 40000000 in
theorem tx56 {p : Program} {l : Launch} {e : Env} {R : Room} {s : State} {m : MethodId} {args : Array Value} {below : List Frame} {meth : Method} {c : Code} {T0 : State} {locs : List Loc} {cells slots : Nat} {Z : State} {a0 : Array Value} {h0 : Heap} {n0 : Nat}  {a1 a2 : Addr} {nn sv i4 i5 i6 : Int32}
    (X0 : Stand p l e R s m args below meth c T0 locs cells slots) (hx : p.tables.exec = Jvm.exec) (hZ : Z.Warmed39 s.vm) (hw : ∀ d ∈ tables_1, d.before a0 Z = true) (hby : c.code = prog_1_method_1_code) (hml : c.maxLocals = 7) (hown : s.vm.findClass "com/example/kripketools/kripketools/Adjacency" = some m.cls) (e0 : T0.heap = h0) (N0 : Fr n0 locs) (Z0 : n0 ≤ h0.size) (hsv : ¬ (sv < nn)) :
    Go p e below (T0.setTop (mkF m 56 #[.val (.ref a1), .val (.ref a2), .val (.int nn), .val (.int sv), .val (.int i4), .val (.int i5), .val (.int i6)] [])) (T0.setTop (mkF m 84 #[.val (.ref a1), .val (.ref a2), .val (.int nn), .val (.int sv), .val (.int i4), .val (.int i5), .val (.int i6)] [])) := by
  have pre0 : Go p e below (T0.setTop (mkF m 56 #[.val (.ref a1), .val (.ref a2), .val (.int nn), .val (.int sv), .val (.int i4), .val (.int i5), .val (.int i6)] [])) (T0.setTop (mkF m 56 #[.val (.ref a1), .val (.ref a2), .val (.int nn), .val (.int sv), .val (.int i4), .val (.int i5), .val (.int i6)] [])) := fun t k => k
  have pre1 : Go p e below (T0.setTop (mkF m 56 #[.val (.ref a1), .val (.ref a2), .val (.int nn), .val (.int sv), .val (.int i4), .val (.int i5), .val (.int i6)] [])) (T0.setTop (mkF m 58 #[.val (.ref a1), .val (.ref a2), .val (.int nn), .val (.int sv), .val (.int i4), .val (.int i5), .val (.int i6)] [(.int nn), (.int sv)])) := by
    intro t k
    refine pre0 t ?_
    show Steps p.tables e below (T0.setTop (mkF m 56 #[.val (.ref a1), .val (.ref a2), .val (.int nn), .val (.int sv), .val (.int i4), .val (.int i5), .val (.int i6)] [])) _
    refine XS.iloadN X0.here hx rfl (hb hby d1_56) rfl ?_
    show Steps p.tables e below (T0.setTop (mkF m 57 #[.val (.ref a1), .val (.ref a2), .val (.int nn), .val (.int sv), .val (.int i4), .val (.int i5), .val (.int i6)] [(.int sv)])) _
    refine XS.iloadN X0.here hx rfl (hb hby d1_57) rfl ?_
    show Steps p.tables e below (T0.setTop (mkF m 58 #[.val (.ref a1), .val (.ref a2), .val (.int nn), .val (.int sv), .val (.int i4), .val (.int i5), .val (.int i6)] [(.int nn), (.int sv)])) _
    exact k
  have hc58_2 : ¬ (sv < nn) := by
    exact hsv
  have pre3 : Go p e below (T0.setTop (mkF m 56 #[.val (.ref a1), .val (.ref a2), .val (.int nn), .val (.int sv), .val (.int i4), .val (.int i5), .val (.int i6)] [])) (T0.setTop (mkF m 84 #[.val (.ref a1), .val (.ref a2), .val (.int nn), .val (.int sv), .val (.int i4), .val (.int i5), .val (.int i6)] [])) := by
    intro t k
    refine pre1 t ?_
    show Steps p.tables e below (T0.setTop (mkF m 58 #[.val (.ref a1), .val (.ref a2), .val (.int nn), .val (.int sv), .val (.int i4), .val (.int i5), .val (.int i6)] [(.int nn), (.int sv)])) _
    refine XS.icmpYes X0.here hx rfl (pc0 := 58) (pc' := 84) rfl (hb hby d1_58) rfl (XT.ii_ge_t hc58_2) (by decide) (by decide) ?_
    show Steps p.tables e below (T0.setTop (mkF m 84 #[.val (.ref a1), .val (.ref a2), .val (.int nn), .val (.int sv), .val (.int i4), .val (.int i5), .val (.int i6)] [])) _
    exact k
  exact pre3
set_option maxHeartbeats 40000000 in
theorem loop56 {p : Program} {l : Launch} {e : Env} {R : Room} {s : State} {m : MethodId} {args : Array Value} {below : List Frame} {meth : Method} {c : Code} {cells slots : Nat} {Z : State} {a0 : Array Value} {n0 : Nat} {a1 a2 bS : Addr} {nn i4 i5 i6 : Int32} {kS : ClassId} {cc : Nat → Nat}
    (hx : p.tables.exec = Jvm.exec) (hZ : Z.Warmed39 s.vm) (hw : ∀ d ∈ tables_1, d.before a0 Z = true) (hby : c.code = prog_1_method_1_code) (hml : c.maxLocals = 7) (hown : s.vm.findClass "com/example/kripketools/kripketools/Adjacency" = some m.cls) (g_bS : n0 ≤ bS) (ne_a1_bS : a1 ≠ bS) (hn8 : nn.toInt ≤ 8) :
    ∀ (k : Nat) (T0 : State) (h0 : Heap) (locs : List Loc) (sv : Int32) (n : Nat), Stand p l e R s m args below meth c T0 locs cells slots → T0.heap = h0 → Fr n0 locs → n0 ≤ h0.size → Fld Z h0 a1 "com/example/kripketools/kripketools/Adjacency" "start" "[I" (.ref bS) → Arf Z h0 bS kS .int (nn + (1 : Int32)) (own_st (own_acc cc n)) → 0 ≤ sv.toInt → sv.toNatClampNeg = n → nn.toInt - sv.toInt = (k : Int) →
      ∃ (T' : State) (h' : Heap) (locs' : List Loc), Stand p l e R s m args below meth c T' locs' cells slots ∧ T'.heap = h' ∧ Fr n0 locs' ∧ Keep h0 h' [bS] ∧ Arf Z h' bS kS .int (nn + (1 : Int32)) (own_st (own_acc cc (n + k))) ∧
        Go p e below (T0.setTop (mkF m 56 #[.val (.ref a1), .val (.ref a2), .val (.int nn), .val (.int sv), .val (.int i4), .val (.int i5), .val (.int i6)] [])) (T'.setTop (mkF m 84 #[.val (.ref a1), .val (.ref a2), .val (.int nn), .val (.int nn), .val (.int i4), .val (.int i5), .val (.int i6)] [])) := by
  intro k
  induction k with
  | zero =>
    intro T0 h0 locs sv n X0 e0 N0 Z0 F1 AV h0s hn hk
    have hii : sv = nn := Int32.toInt_inj.mp (by omega)
    subst hii
    exact ⟨T0, h0, locs, X0, e0, N0, Keep.refl _ _, AV, tx56 X0 hx hZ hw hby hml hown e0 N0 Z0 (by rw [Int32.lt_iff_toInt_lt]; omega)⟩
  | succ k ih =>
    intro T0 h0 locs sv n X0 e0 N0 Z0 F1 AV h0s hn hk
    have hsv : 0 ≤ sv.toInt ∧ sv.toInt < nn.toInt := ⟨h0s, by omega⟩
    obtain ⟨T1, h1, locs1, X1, e1, N1, K1, AV1, g1⟩ := tn56 (i4 := i4) (i5 := i5) (i6 := i6) (a2 := a2) X0 hx hZ hw hby hml hown e0 N0 Z0 F1 AV g_bS ne_a1_bS hsv hn8 hn
    have q := own_q hsv.1 hsv.2 hn8
    obtain ⟨T2, h2, locs2, X2, e2, N2, K2, AV2, g2⟩ := ih T1 h1 locs1 (sv + (1 : Int32)) (n + 1) X1 e1 N1 (Nat.le_trans Z0 K1.1) (F1.keep K1 (ninS ne_a1_bS nin0)) AV1 (by omega) (by rw [q.2, hn]) (by omega)
    refine ⟨T2, h2, locs2, X2, e2, N2, K1.trans K2 (allS (Or.inl (List.mem_singleton.mpr rfl)) all0), ?_, fun t k => g1 t (g2 t k)⟩
    rw [show n + (k + 1) = n + 1 + k from by omega]; exact AV2
theorem ef_1 (m : MethodId) (a1 : Addr) (a2 : Addr) (nn : Int32) : entryFrame m #[(.ref a1), (.ref a2), (.int nn)] 7 = mkF m 0 #[.val (.ref a1), .val (.ref a2), .val (.int nn), .unset, .unset, .unset, .unset] [] := by first | (simp [entryFrame, mkF, argsToLocals, Value.category]; done) | rfl
theorem d1_0 : decode prog_1_method_1_code 0 = .ok (.aload_n 0, 1) := by decide +kernel
theorem d1_1 : decode prog_1_method_1_code 1 = .ok (.invokespecial 1, 3) := by decide +kernel
theorem d1_4 : decode prog_1_method_1_code 4 = .ok (.aload_n 0, 1) := by decide +kernel
theorem d1_5 : decode prog_1_method_1_code 5 = .ok (.iload_n 2, 1) := by decide +kernel
theorem d1_6 : decode prog_1_method_1_code 6 = .ok (.iconst 1, 1) := by decide +kernel
theorem d1_7 : decode prog_1_method_1_code 7 = .ok (.iadd, 1) := by decide +kernel
theorem d1_8 : decode prog_1_method_1_code 8 = .ok (.newarray .int, 2) := by decide +kernel
theorem d1_10 : decode prog_1_method_1_code 10 = .ok (.putfield 7, 3) := by decide +kernel
theorem d1_13 : decode prog_1_method_1_code 13 = .ok (.aload_n 1, 1) := by decide +kernel
theorem d1_14 : decode prog_1_method_1_code 14 = .ok (.astore_n 3, 1) := by decide +kernel
theorem d1_15 : decode prog_1_method_1_code 15 = .ok (.aload_n 3, 1) := by decide +kernel
theorem d1_16 : decode prog_1_method_1_code 16 = .ok (.arraylength, 1) := by decide +kernel
theorem d1_17 : decode prog_1_method_1_code 17 = .ok (.istore 4, 2) := by decide +kernel
theorem d1_19 : decode prog_1_method_1_code 19 = .ok (.iconst 0, 1) := by decide +kernel
theorem d1_20 : decode prog_1_method_1_code 20 = .ok (.istore 5, 2) := by decide +kernel
theorem d1_22 : decode prog_1_method_1_code 22 = .ok (.iload 5, 2) := by decide +kernel
theorem d1_24 : decode prog_1_method_1_code 24 = .ok (.iload 4, 2) := by decide +kernel
theorem d1_26 : decode prog_1_method_1_code 26 = .ok (.if_icmp .ge 28, 3) := by decide +kernel
theorem d1_29 : decode prog_1_method_1_code 29 = .ok (.aload_n 3, 1) := by decide +kernel
theorem d1_30 : decode prog_1_method_1_code 30 = .ok (.iload 5, 2) := by decide +kernel
theorem d1_32 : decode prog_1_method_1_code 32 = .ok (.iaload, 1) := by decide +kernel
theorem d1_33 : decode prog_1_method_1_code 33 = .ok (.istore 6, 2) := by decide +kernel
theorem d1_35 : decode prog_1_method_1_code 35 = .ok (.aload_n 0, 1) := by decide +kernel
theorem d1_36 : decode prog_1_method_1_code 36 = .ok (.getfield 7, 3) := by decide +kernel
theorem d1_39 : decode prog_1_method_1_code 39 = .ok (.iload 6, 2) := by decide +kernel
theorem d1_41 : decode prog_1_method_1_code 41 = .ok (.iconst 1, 1) := by decide +kernel
theorem d1_42 : decode prog_1_method_1_code 42 = .ok (.iadd, 1) := by decide +kernel
theorem d1_43 : decode prog_1_method_1_code 43 = .ok (.dup2, 1) := by decide +kernel
theorem d1_44 : decode prog_1_method_1_code 44 = .ok (.iaload, 1) := by decide +kernel
theorem d1_45 : decode prog_1_method_1_code 45 = .ok (.iconst 1, 1) := by decide +kernel
theorem d1_46 : decode prog_1_method_1_code 46 = .ok (.iadd, 1) := by decide +kernel
theorem d1_47 : decode prog_1_method_1_code 47 = .ok (.iastore, 1) := by decide +kernel
theorem d1_48 : decode prog_1_method_1_code 48 = .ok (.iinc 5 1, 3) := by decide +kernel
theorem d1_51 : decode prog_1_method_1_code 51 = .ok (.goto (-29), 3) := by decide +kernel
theorem d1_54 : decode prog_1_method_1_code 54 = .ok (.iconst 0, 1) := by decide +kernel
theorem d1_55 : decode prog_1_method_1_code 55 = .ok (.istore_n 3, 1) := by decide +kernel
theorem d1_84 : decode prog_1_method_1_code 84 = .ok (.aload_n 0, 1) := by decide +kernel
theorem d1_85 : decode prog_1_method_1_code 85 = .ok (.aload_n 1, 1) := by decide +kernel
theorem d1_86 : decode prog_1_method_1_code 86 = .ok (.arraylength, 1) := by decide +kernel
theorem d1_87 : decode prog_1_method_1_code 87 = .ok (.newarray .int, 2) := by decide +kernel
theorem d1_89 : decode prog_1_method_1_code 89 = .ok (.putfield 13, 3) := by decide +kernel
theorem d1_92 : decode prog_1_method_1_code 92 = .ok (.iload_n 2, 1) := by decide +kernel
theorem d1_93 : decode prog_1_method_1_code 93 = .ok (.newarray .int, 2) := by decide +kernel
theorem d1_95 : decode prog_1_method_1_code 95 = .ok (.astore_n 3, 1) := by decide +kernel
theorem d1_96 : decode prog_1_method_1_code 96 = .ok (.iconst 0, 1) := by decide +kernel
theorem d1_97 : decode prog_1_method_1_code 97 = .ok (.istore 4, 2) := by decide +kernel
theorem d1_99 : decode prog_1_method_1_code 99 = .ok (.iload 4, 2) := by decide +kernel
theorem d1_101 : decode prog_1_method_1_code 101 = .ok (.aload_n 1, 1) := by decide +kernel
theorem d1_102 : decode prog_1_method_1_code 102 = .ok (.arraylength, 1) := by decide +kernel
theorem d1_103 : decode prog_1_method_1_code 103 = .ok (.if_icmp .ge 39, 3) := by decide +kernel
theorem d1_106 : decode prog_1_method_1_code 106 = .ok (.aload_n 1, 1) := by decide +kernel
theorem d1_107 : decode prog_1_method_1_code 107 = .ok (.iload 4, 2) := by decide +kernel
theorem d1_109 : decode prog_1_method_1_code 109 = .ok (.iaload, 1) := by decide +kernel
theorem d1_110 : decode prog_1_method_1_code 110 = .ok (.istore 5, 2) := by decide +kernel
theorem d1_112 : decode prog_1_method_1_code 112 = .ok (.aload_n 0, 1) := by decide +kernel
theorem d1_113 : decode prog_1_method_1_code 113 = .ok (.getfield 13, 3) := by decide +kernel
theorem d1_116 : decode prog_1_method_1_code 116 = .ok (.aload_n 0, 1) := by decide +kernel
theorem d1_117 : decode prog_1_method_1_code 117 = .ok (.getfield 7, 3) := by decide +kernel
theorem d1_120 : decode prog_1_method_1_code 120 = .ok (.iload 5, 2) := by decide +kernel
theorem d1_122 : decode prog_1_method_1_code 122 = .ok (.iaload, 1) := by decide +kernel
theorem d1_123 : decode prog_1_method_1_code 123 = .ok (.aload_n 3, 1) := by decide +kernel
theorem d1_124 : decode prog_1_method_1_code 124 = .ok (.iload 5, 2) := by decide +kernel
theorem d1_126 : decode prog_1_method_1_code 126 = .ok (.dup2, 1) := by decide +kernel
theorem d1_127 : decode prog_1_method_1_code 127 = .ok (.iaload, 1) := by decide +kernel
theorem d1_128 : decode prog_1_method_1_code 128 = .ok (.dup_x2, 1) := by decide +kernel
theorem d1_129 : decode prog_1_method_1_code 129 = .ok (.iconst 1, 1) := by decide +kernel
theorem d1_130 : decode prog_1_method_1_code 130 = .ok (.iadd, 1) := by decide +kernel
theorem d1_131 : decode prog_1_method_1_code 131 = .ok (.iastore, 1) := by decide +kernel
theorem d1_132 : decode prog_1_method_1_code 132 = .ok (.iadd, 1) := by decide +kernel
theorem d1_133 : decode prog_1_method_1_code 133 = .ok (.iload 4, 2) := by decide +kernel
theorem d1_135 : decode prog_1_method_1_code 135 = .ok (.iastore, 1) := by decide +kernel
theorem d1_136 : decode prog_1_method_1_code 136 = .ok (.iinc 4 1, 3) := by decide +kernel
theorem d1_139 : decode prog_1_method_1_code 139 = .ok (.goto (-40), 3) := by decide +kernel
theorem d1_142 : decode prog_1_method_1_code 142 = .ok (.return_, 1) := by decide +kernel
def Q1 (Z : State) (a1 : Addr) (a2 : Addr) (nn : Int32) (kk : ClassId) (d0 : Int32) (d1 : Int32) (d2 : Int32) (d3 : Int32) (h0 : Heap) (n0 : Nat) (v : Option Value) (h : Heap) (L : List Loc) : Prop := v = none ∧ Fr n0 L ∧ Keep h0 h [a1] ∧ Exa Z h a1 "com/example/kripketools/kripketools/Adjacency" ∧ ∃ bS kS, Fld Z h a1 "com/example/kripketools/kripketools/Adjacency" "start" "[I" (.ref bS) ∧ Arf Z h bS kS .int (nn + (1 : Int32)) (own_st (own_acc (own_cnt [d3, d2, d1, d0]) nn.toInt.toNat))
set_option maxRecDepth 65536 in
set_option maxHeartbeats 40000000 in
theorem pn_com_example_kripketools_kripketools_Adjacency : plainName "com/example/kripketools/kripketools/Adjacency" = true := by first | (simp [plainName, overriddenIn]; done) | decide +kernel
theorem rm1 (l : Launch) (Z : State) (a0 : Array Value) (hw : ∀ d ∈ tables_1, d.before a0 Z = true) (ws : List Jvm.Cond) (a1 : Addr) (a2 : Addr) (nn : Int32) (kk : ClassId) (d0 : Int32) (d1 : Int32) (d2 : Int32) (d3 : Int32) (h0 : Heap) (n0 : Nat) (Z0 : n0 ≤ h0.size) (E1 : Exa Z h0 a1 "com/example/kripketools/kripketools/Adjacency") (F1 : Fld Z h0 a1 "com/example/kripketools/kripketools/Adjacency" "start" "[I" .null) (F2 : Fld Z h0 a1 "com/example/kripketools/kripketools/Adjacency" "transitions" "[I" .null) (V2 : Arv Z h0 a2 kk .int (4 : Int32) [(.int d0), (.int d1), (.int d2), (.int d3)] (.int (0 : Int32))) (g_a1 : n0 ≤ a1) (ne12 : a2 ≠ a1) (hn1 : 1 ≤ nn.toInt) (hn8 : nn.toInt ≤ 8) (hb0 : 0 ≤ d0.toInt ∧ d0.toInt < nn.toInt) (hb1 : 0 ≤ d1.toInt ∧ d1.toInt < nn.toInt) (hb2 : 0 ≤ d2.toInt ∧ d2.toInt < nn.toInt) (hb3 : 0 ≤ d3.toInt ∧ d3.toInt < nn.toInt) :
    MetFree l (⟨"com/example/kripketools/kripketools/Adjacency", "<init>", "([II)V"⟩ : MethodName) (head1 (Jvm.Cond.code (⟨"com/example/kripketools/kripketools/Adjacency", "<init>", "([II)V"⟩ : MethodName) prog_1_method_1_code 7 none :: ws) ({ frames := 1, cells := 3, slots := 21, locals := 12 } : Room)) (fun a U => a = #[(.ref a1), (.ref a2), (.int nn)] ∧ Z.Warmed39 U.vm ∧ U.heap = h0) (fun _ _ _ _ _ => True) (fun _ U o U' => ∃ v L, o = .returned v ∧ Q1 Z a1 a2 nn kk d0 d1 d2 d3 h0 n0 v U'.heap L ∧ FrameEnd U o U' L ({ frames := 1, cells := 3, slots := 21, locals := 12 } : Room).cells ({ frames := 1, cells := 3, slots := 21, locals := 12 } : Room).slots) := by
  refine MetFree.of_bodySF (plainFor_of_name pn_com_example_kripketools_kripketools_Adjacency) hisR ?_
  intro p e s m args below meth c s₁ Bd hml0 hP hK
  obtain ⟨rfl, hZ, hh⟩ := hP
  have hx := Bd.exec
  have hby := Bd.bytes
  have hml : c.maxLocals = 7 := hml0
  have hown : s.vm.findClass "com/example/kripketools/kripketools/Adjacency" = some m.cls := findClass_of_methodNamed Bd.named
  have hnm := (name_of_methodNamed Bd.named Bd.method).1
  have hlk : meth.locks = false := BodyLoose.notSynchronized Bd
  have X0 : Stand p l e ({ frames := 1, cells := 3, slots := 21, locals := 12 } : Room) s m #[(.ref a1), (.ref a2), (.int nn)] below meth c s₁ [] 0 0 := Stand.of_body Bd
  have e0 : s₁.heap = h0 := by rw [← hh, Bd.state]; rfl
  have N0 := Fr.nil n0
  have pre0 : Go p e below (s₁.setTop (entryFrame m #[(.ref a1), (.ref a2), (.int nn)] 7)) (s₁.setTop (mkF m 0 #[.val (.ref a1), .val (.ref a2), .val (.int nn), .unset, .unset, .unset, .unset] [])) := fun t k => castTop (ef_1 m a1 a2 nn) k
  have hneg : ¬ nn < 0 := by rw [Int32.lt_iff_toInt_lt, show (0 : Int32).toInt = 0 from rfl]; omega
  have hcap : nn.toNatClampNeg ≤ 8 := by show nn.toInt.toNat ≤ 8; omega
  have hnp : (nn + (1 : Int32)).toInt = nn.toInt + 1 := by
    have c1 : (1 : Int32).toInt = 1 := rfl
    rw [Jvm.Kit.i32_add (by omega) (by omega), c1]
  have hneg1 : ¬ (nn + (1 : Int32)) < 0 := by rw [Int32.lt_iff_toInt_lt, show (0 : Int32).toInt = 0 from rfl]; omega
  have hcap1 : (nn + (1 : Int32)).toNatClampNeg ≤ 9 := by show (nn + (1 : Int32)).toInt.toNat ≤ 9; omega
  have pre1 : Go p e below (s₁.setTop (entryFrame m #[(.ref a1), (.ref a2), (.int nn)] 7)) (s₁.setTop (mkF m 1 #[.val (.ref a1), .val (.ref a2), .val (.int nn), .unset, .unset, .unset, .unset] [(.ref a1)])) := by
    intro t k
    refine pre0 t ?_
    show Steps p.tables e below (s₁.setTop (mkF m 0 #[.val (.ref a1), .val (.ref a2), .val (.int nn), .unset, .unset, .unset, .unset] [])) _
    refine XS.aloadN X0.here hx rfl (hb hby d1_0) rfl rfl ?_
    show Steps p.tables e below (s₁.setTop (mkF m 1 #[.val (.ref a1), .val (.ref a2), .val (.int nn), .unset, .unset, .unset, .unset] [(.ref a1)])) _
    exact k
  obtain ⟨T2, X2, e2, st2⟩ := initO X0 hx hZ hown (hw _ (List.mem_of_getElem? (i := 8) rfl)) (hw _ (List.mem_of_getElem? (i := 9) rfl)) (hw _ (List.mem_of_getElem? (i := 10) rfl)) e0 (g := (mkF m 1 #[.val (.ref a1), .val (.ref a2), .val (.int nn), .unset, .unset, .unset, .unset] [(.ref a1)])) rfl (by rw [hml]; rfl) rfl (hb hby d1_1) (by decide) (W := 0) (by show 2 * 0 + _ ≤ _; exact Nat.le_of_eq rfl) (by decide)
  have pre3 : Go p e below (s₁.setTop (entryFrame m #[(.ref a1), (.ref a2), (.int nn)] 7)) (T2.setTop (mkF m 4 #[.val (.ref a1), .val (.ref a2), .val (.int nn), .unset, .unset, .unset, .unset] [])) := fun t k => pre1 t (st2 t k)
  have pre4 : Go p e below (s₁.setTop (entryFrame m #[(.ref a1), (.ref a2), (.int nn)] 7)) (T2.setTop (mkF m 8 #[.val (.ref a1), .val (.ref a2), .val (.int nn), .unset, .unset, .unset, .unset] [(.int (nn + (1 : Int32))), (.ref a1)])) := by
    intro t k
    refine pre3 t ?_
    show Steps p.tables e below (T2.setTop (mkF m 4 #[.val (.ref a1), .val (.ref a2), .val (.int nn), .unset, .unset, .unset, .unset] [])) _
    refine XS.aloadN X2.here hx rfl (hb hby d1_4) rfl rfl ?_
    show Steps p.tables e below (T2.setTop (mkF m 5 #[.val (.ref a1), .val (.ref a2), .val (.int nn), .unset, .unset, .unset, .unset] [(.ref a1)])) _
    refine XS.iloadN X2.here hx rfl (hb hby d1_5) rfl ?_
    show Steps p.tables e below (T2.setTop (mkF m 6 #[.val (.ref a1), .val (.ref a2), .val (.int nn), .unset, .unset, .unset, .unset] [(.int nn), (.ref a1)])) _
    refine XS.iconst X2.here hx rfl (hb hby d1_6) ?_
    show Steps p.tables e below (T2.setTop (mkF m 7 #[.val (.ref a1), .val (.ref a2), .val (.int nn), .unset, .unset, .unset, .unset] [(.int (1 : Int32)), (.int nn), (.ref a1)])) _
    refine XS.iadd X2.here hx rfl (hb hby d1_7) rfl ?_
    show Steps p.tables e below (T2.setTop (mkF m 8 #[.val (.ref a1), .val (.ref a2), .val (.int nn), .unset, .unset, .unset, .unset] [(.int (nn + (1 : Int32))), (.ref a1)])) _
    exact k
  obtain ⟨T5, h5, k5, X5, e5, E5, A5, st5⟩ := newP X2 hx hZ (hw _ (List.mem_of_getElem? (i := 1) rfl)) e2 (g := (mkF m 8 #[.val (.ref a1), .val (.ref a2), .val (.int nn), .unset, .unset, .unset, .unset] [(.int (nn + (1 : Int32))), (.ref a1)])) rfl (hb hby d1_8) rfl hneg1 (cap := 9) hcap1 (by decide) (by decide) (by decide)
  obtain ⟨bS, g5⟩ : ∃ z, z = h0.size := ⟨_, rfl⟩
  rw [← g5] at A5 st5
  have c6_5 := E1.ext E5
  have c7_5 := F1.ext E5
  have c8_5 := F2.ext E5
  have c9_5 := V2.ext E5
  have zz10 := (Nat.le_trans Z0 E5.1)
  have K11 := (Keep.refl h0 [a1]).ext E5
  have AV_bS : Arf Z h5 bS k5 .int (nn + (1 : Int32)) (own_st (own_cnt [])) := (Arf.new A5 hneg1).as (fun _ _ => rfl)
  have g_bS : n0 ≤ bS := Nat.le_trans Z0 (Nat.le_of_eq g5.symm)
  have sz_bS : h0.size ≤ bS := Nat.le_trans (Keep.refl h0 [a1]).1 (Nat.le_of_eq g5.symm)
  have ne_a1_bS : a1 ≠ bS := Nat.ne_of_lt (Nat.lt_of_lt_of_le E1.lt (Nat.le_of_eq g5.symm))
  have ne_a2_bS : a2 ≠ bS := Nat.ne_of_lt (Nat.lt_of_lt_of_le V2.lt (Nat.le_of_eq g5.symm))
  have pre12 : Go p e below (s₁.setTop (entryFrame m #[(.ref a1), (.ref a2), (.int nn)] 7)) (T5.setTop (mkF m 10 #[.val (.ref a1), .val (.ref a2), .val (.int nn), .unset, .unset, .unset, .unset] [(.ref bS), (.ref a1)])) := fun t k => pre4 t (st5 t k)
  obtain ⟨T13, h13, X13, e13, W13, st13⟩ := putF X5 hx hZ hown (host := "") (Or.inl (hw _ (List.mem_of_getElem? (i := 11) rfl))) Via.refl e5 c7_5 c6_5 (Or.inr ⟨(hw _ (List.mem_of_getElem? (i := 12) rfl)), rfl, hnm⟩) (hw _ (List.mem_of_getElem? (i := 3) rfl)) (ty := (.array .int)) (by decide) rfl rfl (g := (mkF m 10 #[.val (.ref a1), .val (.ref a2), .val (.int nn), .unset, .unset, .unset, .unset] [(.ref bS), (.ref a1)])) rfl rfl (hb hby d1_10)
  have Fw13 := c7_5.same W13
  have c14_13 := c6_5.wr W13
  have c15_13 := c8_5.other W13 (Or.inr (slot_ne (Or.inr (hw _ (List.mem_of_getElem? (i := 14) rfl))) (Or.inr (hw _ (List.mem_of_getElem? (i := 12) rfl))) (by decide) (t := (.array .int)) (t' := (.array .int)) (by decide) (by decide)))
  have c16_13 := c9_5.other W13 ne12
  have c17_13 := AV_bS.other W13 (Ne.symm ne_a1_bS)
  have zz18 := (Nat.le_trans zz10 (Keep.of_wr W13).1)
  have K19 := K11.wr W13 (Or.inl (List.mem_singleton.mpr rfl))
  have N13 := Fr.snoc X13 N0 g_a1
  have pre20 : Go p e below (s₁.setTop (entryFrame m #[(.ref a1), (.ref a2), (.int nn)] 7)) (T13.setTop (mkF m 13 #[.val (.ref a1), .val (.ref a2), .val (.int nn), .unset, .unset, .unset, .unset] [])) := fun t k => pre12 t (st13 t k)
  obtain ⟨cl21, Ar21, -, SS21, NN21, -, -⟩ := (id c16_13)
  have pre22 : Go p e below (s₁.setTop (entryFrame m #[(.ref a1), (.ref a2), (.int nn)] 7)) (T13.setTop (mkF m 26 #[.val (.ref a1), .val (.ref a2), .val (.int nn), .val (.ref a2), .val (.int (4 : Int32)), .val (.int (0 : Int32)), .unset] [(.int (4 : Int32)), (.int (0 : Int32))])) := by
    intro t k
    refine pre20 t ?_
    show Steps p.tables e below (T13.setTop (mkF m 13 #[.val (.ref a1), .val (.ref a2), .val (.int nn), .unset, .unset, .unset, .unset] [])) _
    refine XS.aloadN X13.here hx rfl (hb hby d1_13) rfl rfl ?_
    show Steps p.tables e below (T13.setTop (mkF m 14 #[.val (.ref a1), .val (.ref a2), .val (.int nn), .unset, .unset, .unset, .unset] [(.ref a2)])) _
    refine XS.astoreN X13.here hx rfl (hb hby d1_14) rfl rfl (l' := #[.val (.ref a1), .val (.ref a2), .val (.int nn), .val (.ref a2), .unset, .unset, .unset]) rfl ?_
    show Steps p.tables e below (T13.setTop (mkF m 15 #[.val (.ref a1), .val (.ref a2), .val (.int nn), .val (.ref a2), .unset, .unset, .unset] [])) _
    refine XS.aloadN X13.here hx rfl (hb hby d1_15) rfl rfl ?_
    show Steps p.tables e below (T13.setTop (mkF m 16 #[.val (.ref a1), .val (.ref a2), .val (.int nn), .val (.ref a2), .unset, .unset, .unset] [(.ref a2)])) _
    refine X13.arraylength hx (by rw [e13]; exact Ar21.1) (State.isArrayOf_alike hZ.alike Ar21.2.1) (g := (mkF m 16 #[.val (.ref a1), .val (.ref a2), .val (.int nn), .val (.ref a2), .unset, .unset, .unset] [(.ref a2)])) rfl rfl (hb hby d1_16) _ ?_
    rw [len_of SS21 NN21]
    show Steps p.tables e below (T13.setTop (mkF m 17 #[.val (.ref a1), .val (.ref a2), .val (.int nn), .val (.ref a2), .unset, .unset, .unset] [(.int (4 : Int32))])) _
    refine XS.istore X13.here hx rfl (hb hby d1_17) rfl (l' := #[.val (.ref a1), .val (.ref a2), .val (.int nn), .val (.ref a2), .val (.int (4 : Int32)), .unset, .unset]) rfl ?_
    show Steps p.tables e below (T13.setTop (mkF m 19 #[.val (.ref a1), .val (.ref a2), .val (.int nn), .val (.ref a2), .val (.int (4 : Int32)), .unset, .unset] [])) _
    refine XS.iconst X13.here hx rfl (hb hby d1_19) ?_
    show Steps p.tables e below (T13.setTop (mkF m 20 #[.val (.ref a1), .val (.ref a2), .val (.int nn), .val (.ref a2), .val (.int (4 : Int32)), .unset, .unset] [(.int (0 : Int32))])) _
    refine XS.istore X13.here hx rfl (hb hby d1_20) rfl (l' := #[.val (.ref a1), .val (.ref a2), .val (.int nn), .val (.ref a2), .val (.int (4 : Int32)), .val (.int (0 : Int32)), .unset]) rfl ?_
    show Steps p.tables e below (T13.setTop (mkF m 22 #[.val (.ref a1), .val (.ref a2), .val (.int nn), .val (.ref a2), .val (.int (4 : Int32)), .val (.int (0 : Int32)), .unset] [])) _
    refine XS.iload X13.here hx rfl (hb hby d1_22) rfl ?_
    show Steps p.tables e below (T13.setTop (mkF m 24 #[.val (.ref a1), .val (.ref a2), .val (.int nn), .val (.ref a2), .val (.int (4 : Int32)), .val (.int (0 : Int32)), .unset] [(.int (0 : Int32))])) _
    refine XS.iload X13.here hx rfl (hb hby d1_24) rfl ?_
    show Steps p.tables e below (T13.setTop (mkF m 26 #[.val (.ref a1), .val (.ref a2), .val (.int nn), .val (.ref a2), .val (.int (4 : Int32)), .val (.int (0 : Int32)), .unset] [(.int (4 : Int32)), (.int (0 : Int32))])) _
    exact k
  obtain ⟨cl23, Ar23, -, SS23, NN23, HH23, -⟩ := (id c16_13)
  have pre24 : Go p e below (s₁.setTop (entryFrame m #[(.ref a1), (.ref a2), (.int nn)] 7)) (T13.setTop (mkF m 36 #[.val (.ref a1), .val (.ref a2), .val (.int nn), .val (.ref a2), .val (.int (4 : Int32)), .val (.int (0 : Int32)), .val (.int d0)] [(.ref a1)])) := by
    intro t k
    refine pre22 t ?_
    show Steps p.tables e below (T13.setTop (mkF m 26 #[.val (.ref a1), .val (.ref a2), .val (.int nn), .val (.ref a2), .val (.int (4 : Int32)), .val (.int (0 : Int32)), .unset] [(.int (4 : Int32)), (.int (0 : Int32))])) _
    refine XS.icmpNo X13.here hx rfl (hb hby d1_26) rfl (XT.ii_ge_f (by decide : (0 : Int32) < (4 : Int32))) ?_
    show Steps p.tables e below (T13.setTop (mkF m 29 #[.val (.ref a1), .val (.ref a2), .val (.int nn), .val (.ref a2), .val (.int (4 : Int32)), .val (.int (0 : Int32)), .unset] [])) _
    refine XS.aloadN X13.here hx rfl (hb hby d1_29) rfl rfl ?_
    show Steps p.tables e below (T13.setTop (mkF m 30 #[.val (.ref a1), .val (.ref a2), .val (.int nn), .val (.ref a2), .val (.int (4 : Int32)), .val (.int (0 : Int32)), .unset] [(.ref a2)])) _
    refine XS.iload X13.here hx rfl (hb hby d1_30) rfl ?_
    show Steps p.tables e below (T13.setTop (mkF m 32 #[.val (.ref a1), .val (.ref a2), .val (.int nn), .val (.ref a2), .val (.int (4 : Int32)), .val (.int (0 : Int32)), .unset] [(.int (0 : Int32)), (.ref a2)])) _
    refine X13.iaload hx (j := (0 : Int32)) (v := (.int d0)) (by rw [e13]; exact Ar23.1) (State.isArrayOf_alike hZ.alike Ar23.2.1) Ar23.2.2 (inb_of SS23 ⟨by decide, by decide⟩) (HH23.at (inb_of SS23 ⟨by decide, by decide⟩) rfl) (g := (mkF m 32 #[.val (.ref a1), .val (.ref a2), .val (.int nn), .val (.ref a2), .val (.int (4 : Int32)), .val (.int (0 : Int32)), .unset] [(.int (0 : Int32)), (.ref a2)])) rfl rfl (hb hby d1_32) _ ?_
    show Steps p.tables e below (T13.setTop (mkF m 33 #[.val (.ref a1), .val (.ref a2), .val (.int nn), .val (.ref a2), .val (.int (4 : Int32)), .val (.int (0 : Int32)), .unset] [(.int d0)])) _
    refine XS.istore X13.here hx rfl (hb hby d1_33) rfl (l' := #[.val (.ref a1), .val (.ref a2), .val (.int nn), .val (.ref a2), .val (.int (4 : Int32)), .val (.int (0 : Int32)), .val (.int d0)]) rfl ?_
    show Steps p.tables e below (T13.setTop (mkF m 35 #[.val (.ref a1), .val (.ref a2), .val (.int nn), .val (.ref a2), .val (.int (4 : Int32)), .val (.int (0 : Int32)), .val (.int d0)] [])) _
    refine XS.aloadN X13.here hx rfl (hb hby d1_35) rfl rfl ?_
    show Steps p.tables e below (T13.setTop (mkF m 36 #[.val (.ref a1), .val (.ref a2), .val (.int nn), .val (.ref a2), .val (.int (4 : Int32)), .val (.int (0 : Int32)), .val (.int d0)] [(.ref a1)])) _
    exact k
  obtain ⟨T25, X25, e25, st25⟩ := getF X13 hx hZ hown (host := "") (Or.inl (hw _ (List.mem_of_getElem? (i := 11) rfl))) Via.refl e13 Fw13 (g := (mkF m 36 #[.val (.ref a1), .val (.ref a2), .val (.int nn), .val (.ref a2), .val (.int (4 : Int32)), .val (.int (0 : Int32)), .val (.int d0)] [(.ref a1)])) rfl rfl (hb hby d1_36)
  have pre26 : Go p e below (s₁.setTop (entryFrame m #[(.ref a1), (.ref a2), (.int nn)] 7)) (T25.setTop (mkF m 39 #[.val (.ref a1), .val (.ref a2), .val (.int nn), .val (.ref a2), .val (.int (4 : Int32)), .val (.int (0 : Int32)), .val (.int d0)] [(.ref bS)])) := fun t k => pre24 t (st25 t k)
  obtain ⟨cl27, Ar27, SS27, NN27, HH27⟩ := c17_13.cell
  have hj27 : ¬ (d0 + (1 : Int32)) < 0 ∧ (d0 + (1 : Int32)) < (nn + (1 : Int32)) := (own_i1 hb0 hn8)
  have hat27 : cl27.slots[((d0 + (1 : Int32))).toNatClampNeg]? = some (.int (Int32.ofNat (own_cnt [] ((d0 + (1 : Int32))).toNatClampNeg))) := (HH27 _ (own_lt hj27)).trans (congrArg some rfl)
  have pre28 : Go p e below (s₁.setTop (entryFrame m #[(.ref a1), (.ref a2), (.int nn)] 7)) (T25.setTop (mkF m 47 #[.val (.ref a1), .val (.ref a2), .val (.int nn), .val (.ref a2), .val (.int (4 : Int32)), .val (.int (0 : Int32)), .val (.int d0)] [(.int ((Int32.ofNat (own_cnt [] ((d0 + (1 : Int32))).toNatClampNeg)) + (1 : Int32))), (.int (d0 + (1 : Int32))), (.ref bS)])) := by
    intro t k
    refine pre26 t ?_
    show Steps p.tables e below (T25.setTop (mkF m 39 #[.val (.ref a1), .val (.ref a2), .val (.int nn), .val (.ref a2), .val (.int (4 : Int32)), .val (.int (0 : Int32)), .val (.int d0)] [(.ref bS)])) _
    refine XS.iload X25.here hx rfl (hb hby d1_39) rfl ?_
    show Steps p.tables e below (T25.setTop (mkF m 41 #[.val (.ref a1), .val (.ref a2), .val (.int nn), .val (.ref a2), .val (.int (4 : Int32)), .val (.int (0 : Int32)), .val (.int d0)] [(.int d0), (.ref bS)])) _
    refine XS.iconst X25.here hx rfl (hb hby d1_41) ?_
    show Steps p.tables e below (T25.setTop (mkF m 42 #[.val (.ref a1), .val (.ref a2), .val (.int nn), .val (.ref a2), .val (.int (4 : Int32)), .val (.int (0 : Int32)), .val (.int d0)] [(.int (1 : Int32)), (.int d0), (.ref bS)])) _
    refine XS.iadd X25.here hx rfl (hb hby d1_42) rfl ?_
    show Steps p.tables e below (T25.setTop (mkF m 43 #[.val (.ref a1), .val (.ref a2), .val (.int nn), .val (.ref a2), .val (.int (4 : Int32)), .val (.int (0 : Int32)), .val (.int d0)] [(.int (d0 + (1 : Int32))), (.ref bS)])) _
    refine XT.dup2 X25.here hx rfl (hb hby d1_43) rfl rfl rfl ?_
    show Steps p.tables e below (T25.setTop (mkF m 44 #[.val (.ref a1), .val (.ref a2), .val (.int nn), .val (.ref a2), .val (.int (4 : Int32)), .val (.int (0 : Int32)), .val (.int d0)] [(.int (d0 + (1 : Int32))), (.ref bS), (.int (d0 + (1 : Int32))), (.ref bS)])) _
    refine X25.iaload hx (j := (d0 + (1 : Int32))) (v := (.int (Int32.ofNat (own_cnt [] ((d0 + (1 : Int32))).toNatClampNeg)))) (by rw [e25]; exact Ar27.1) (State.isArrayOf_alike hZ.alike Ar27.2.1) Ar27.2.2 (inb_of SS27 hj27) hat27 (g := (mkF m 44 #[.val (.ref a1), .val (.ref a2), .val (.int nn), .val (.ref a2), .val (.int (4 : Int32)), .val (.int (0 : Int32)), .val (.int d0)] [(.int (d0 + (1 : Int32))), (.ref bS), (.int (d0 + (1 : Int32))), (.ref bS)])) rfl rfl (hb hby d1_44) _ ?_
    show Steps p.tables e below (T25.setTop (mkF m 45 #[.val (.ref a1), .val (.ref a2), .val (.int nn), .val (.ref a2), .val (.int (4 : Int32)), .val (.int (0 : Int32)), .val (.int d0)] [(.int (Int32.ofNat (own_cnt [] ((d0 + (1 : Int32))).toNatClampNeg))), (.int (d0 + (1 : Int32))), (.ref bS)])) _
    refine XS.iconst X25.here hx rfl (hb hby d1_45) ?_
    show Steps p.tables e below (T25.setTop (mkF m 46 #[.val (.ref a1), .val (.ref a2), .val (.int nn), .val (.ref a2), .val (.int (4 : Int32)), .val (.int (0 : Int32)), .val (.int d0)] [(.int (1 : Int32)), (.int (Int32.ofNat (own_cnt [] ((d0 + (1 : Int32))).toNatClampNeg))), (.int (d0 + (1 : Int32))), (.ref bS)])) _
    refine XS.iadd X25.here hx rfl (hb hby d1_46) rfl ?_
    show Steps p.tables e below (T25.setTop (mkF m 47 #[.val (.ref a1), .val (.ref a2), .val (.int nn), .val (.ref a2), .val (.int (4 : Int32)), .val (.int (0 : Int32)), .val (.int d0)] [(.int ((Int32.ofNat (own_cnt [] ((d0 + (1 : Int32))).toNatClampNeg)) + (1 : Int32))), (.int (d0 + (1 : Int32))), (.ref bS)])) _
    exact k
  obtain ⟨cl29, Ar29, SS29, NN29, -⟩ := c17_13.cell
  have hj29 : ¬ (d0 + (1 : Int32)) < 0 ∧ (d0 + (1 : Int32)) < (nn + (1 : Int32)) := (own_i1 hb0 hn8)
  obtain ⟨T29, h29, X29, e29, W29, st29⟩ := stI X25 hx hZ e25 Ar29 (j := (d0 + (1 : Int32))) (inb_of SS29 hj29) (g := (mkF m 47 #[.val (.ref a1), .val (.ref a2), .val (.int nn), .val (.ref a2), .val (.int (4 : Int32)), .val (.int (0 : Int32)), .val (.int d0)] [(.int ((Int32.ofNat (own_cnt [] ((d0 + (1 : Int32))).toNatClampNeg)) + (1 : Int32))), (.int (d0 + (1 : Int32))), (.ref bS)])) rfl rfl (hb hby d1_47)
  have AV29 : Arf Z h29 bS k5 .int (nn + (1 : Int32)) (own_st (own_cnt [d0])) := (c17_13.set rfl W29 hj29).as (fun i _ => own_inc [] d0 i)
  have c30_29 := c14_13.wr W29
  have c31_29 := Fw13.other W29 (Or.inl ne_a1_bS)
  have c32_29 := c15_13.other W29 (Or.inl ne_a1_bS)
  have c33_29 := c16_13.other W29 ne_a2_bS
  have zz34 := (Nat.le_trans zz18 (Keep.of_wr W29).1)
  have K35 := K19.wr W29 (Or.inr sz_bS)
  have N29 := Fr.snoc X29 N13 g_bS
  have pre36 : Go p e below (s₁.setTop (entryFrame m #[(.ref a1), (.ref a2), (.int nn)] 7)) (T29.setTop (mkF m 48 #[.val (.ref a1), .val (.ref a2), .val (.int nn), .val (.ref a2), .val (.int (4 : Int32)), .val (.int (0 : Int32)), .val (.int d0)] [])) := fun t k => pre28 t (st29 t k)
  have pre37 : Go p e below (s₁.setTop (entryFrame m #[(.ref a1), (.ref a2), (.int nn)] 7)) (T29.setTop (mkF m 26 #[.val (.ref a1), .val (.ref a2), .val (.int nn), .val (.ref a2), .val (.int (4 : Int32)), .val (.int (1 : Int32)), .val (.int d0)] [(.int (4 : Int32)), (.int (1 : Int32))])) := by
    intro t k
    refine pre36 t ?_
    show Steps p.tables e below (T29.setTop (mkF m 48 #[.val (.ref a1), .val (.ref a2), .val (.int nn), .val (.ref a2), .val (.int (4 : Int32)), .val (.int (0 : Int32)), .val (.int d0)] [])) _
    refine XS.iinc X29.here hx rfl (hb hby d1_48) rfl (l' := #[.val (.ref a1), .val (.ref a2), .val (.int nn), .val (.ref a2), .val (.int (4 : Int32)), .val (.int (1 : Int32)), .val (.int d0)]) rfl ?_
    show Steps p.tables e below (T29.setTop (mkF m 51 #[.val (.ref a1), .val (.ref a2), .val (.int nn), .val (.ref a2), .val (.int (4 : Int32)), .val (.int (1 : Int32)), .val (.int d0)] [])) _
    refine XS.goto X29.here hx rfl (pc0 := 51) (pc' := 22) rfl (hb hby d1_51) (by decide) (by decide) ?_
    show Steps p.tables e below (T29.setTop (mkF m 22 #[.val (.ref a1), .val (.ref a2), .val (.int nn), .val (.ref a2), .val (.int (4 : Int32)), .val (.int (1 : Int32)), .val (.int d0)] [])) _
    refine XS.iload X29.here hx rfl (hb hby d1_22) rfl ?_
    show Steps p.tables e below (T29.setTop (mkF m 24 #[.val (.ref a1), .val (.ref a2), .val (.int nn), .val (.ref a2), .val (.int (4 : Int32)), .val (.int (1 : Int32)), .val (.int d0)] [(.int (1 : Int32))])) _
    refine XS.iload X29.here hx rfl (hb hby d1_24) rfl ?_
    show Steps p.tables e below (T29.setTop (mkF m 26 #[.val (.ref a1), .val (.ref a2), .val (.int nn), .val (.ref a2), .val (.int (4 : Int32)), .val (.int (1 : Int32)), .val (.int d0)] [(.int (4 : Int32)), (.int (1 : Int32))])) _
    exact k
  obtain ⟨cl38, Ar38, -, SS38, NN38, HH38, -⟩ := (id c33_29)
  have pre39 : Go p e below (s₁.setTop (entryFrame m #[(.ref a1), (.ref a2), (.int nn)] 7)) (T29.setTop (mkF m 36 #[.val (.ref a1), .val (.ref a2), .val (.int nn), .val (.ref a2), .val (.int (4 : Int32)), .val (.int (1 : Int32)), .val (.int d1)] [(.ref a1)])) := by
    intro t k
    refine pre37 t ?_
    show Steps p.tables e below (T29.setTop (mkF m 26 #[.val (.ref a1), .val (.ref a2), .val (.int nn), .val (.ref a2), .val (.int (4 : Int32)), .val (.int (1 : Int32)), .val (.int d0)] [(.int (4 : Int32)), (.int (1 : Int32))])) _
    refine XS.icmpNo X29.here hx rfl (hb hby d1_26) rfl (XT.ii_ge_f (by decide : (1 : Int32) < (4 : Int32))) ?_
    show Steps p.tables e below (T29.setTop (mkF m 29 #[.val (.ref a1), .val (.ref a2), .val (.int nn), .val (.ref a2), .val (.int (4 : Int32)), .val (.int (1 : Int32)), .val (.int d0)] [])) _
    refine XS.aloadN X29.here hx rfl (hb hby d1_29) rfl rfl ?_
    show Steps p.tables e below (T29.setTop (mkF m 30 #[.val (.ref a1), .val (.ref a2), .val (.int nn), .val (.ref a2), .val (.int (4 : Int32)), .val (.int (1 : Int32)), .val (.int d0)] [(.ref a2)])) _
    refine XS.iload X29.here hx rfl (hb hby d1_30) rfl ?_
    show Steps p.tables e below (T29.setTop (mkF m 32 #[.val (.ref a1), .val (.ref a2), .val (.int nn), .val (.ref a2), .val (.int (4 : Int32)), .val (.int (1 : Int32)), .val (.int d0)] [(.int (1 : Int32)), (.ref a2)])) _
    refine X29.iaload hx (j := (1 : Int32)) (v := (.int d1)) (by rw [e29]; exact Ar38.1) (State.isArrayOf_alike hZ.alike Ar38.2.1) Ar38.2.2 (inb_of SS38 ⟨by decide, by decide⟩) (HH38.at (inb_of SS38 ⟨by decide, by decide⟩) rfl) (g := (mkF m 32 #[.val (.ref a1), .val (.ref a2), .val (.int nn), .val (.ref a2), .val (.int (4 : Int32)), .val (.int (1 : Int32)), .val (.int d0)] [(.int (1 : Int32)), (.ref a2)])) rfl rfl (hb hby d1_32) _ ?_
    show Steps p.tables e below (T29.setTop (mkF m 33 #[.val (.ref a1), .val (.ref a2), .val (.int nn), .val (.ref a2), .val (.int (4 : Int32)), .val (.int (1 : Int32)), .val (.int d0)] [(.int d1)])) _
    refine XS.istore X29.here hx rfl (hb hby d1_33) rfl (l' := #[.val (.ref a1), .val (.ref a2), .val (.int nn), .val (.ref a2), .val (.int (4 : Int32)), .val (.int (1 : Int32)), .val (.int d1)]) rfl ?_
    show Steps p.tables e below (T29.setTop (mkF m 35 #[.val (.ref a1), .val (.ref a2), .val (.int nn), .val (.ref a2), .val (.int (4 : Int32)), .val (.int (1 : Int32)), .val (.int d1)] [])) _
    refine XS.aloadN X29.here hx rfl (hb hby d1_35) rfl rfl ?_
    show Steps p.tables e below (T29.setTop (mkF m 36 #[.val (.ref a1), .val (.ref a2), .val (.int nn), .val (.ref a2), .val (.int (4 : Int32)), .val (.int (1 : Int32)), .val (.int d1)] [(.ref a1)])) _
    exact k
  obtain ⟨T40, X40, e40, st40⟩ := getF X29 hx hZ hown (host := "") (Or.inl (hw _ (List.mem_of_getElem? (i := 11) rfl))) Via.refl e29 c31_29 (g := (mkF m 36 #[.val (.ref a1), .val (.ref a2), .val (.int nn), .val (.ref a2), .val (.int (4 : Int32)), .val (.int (1 : Int32)), .val (.int d1)] [(.ref a1)])) rfl rfl (hb hby d1_36)
  have pre41 : Go p e below (s₁.setTop (entryFrame m #[(.ref a1), (.ref a2), (.int nn)] 7)) (T40.setTop (mkF m 39 #[.val (.ref a1), .val (.ref a2), .val (.int nn), .val (.ref a2), .val (.int (4 : Int32)), .val (.int (1 : Int32)), .val (.int d1)] [(.ref bS)])) := fun t k => pre39 t (st40 t k)
  obtain ⟨cl42, Ar42, SS42, NN42, HH42⟩ := AV29.cell
  have hj42 : ¬ (d1 + (1 : Int32)) < 0 ∧ (d1 + (1 : Int32)) < (nn + (1 : Int32)) := (own_i1 hb1 hn8)
  have hat42 : cl42.slots[((d1 + (1 : Int32))).toNatClampNeg]? = some (.int (Int32.ofNat (own_cnt [d0] ((d1 + (1 : Int32))).toNatClampNeg))) := (HH42 _ (own_lt hj42)).trans (congrArg some rfl)
  have pre43 : Go p e below (s₁.setTop (entryFrame m #[(.ref a1), (.ref a2), (.int nn)] 7)) (T40.setTop (mkF m 47 #[.val (.ref a1), .val (.ref a2), .val (.int nn), .val (.ref a2), .val (.int (4 : Int32)), .val (.int (1 : Int32)), .val (.int d1)] [(.int ((Int32.ofNat (own_cnt [d0] ((d1 + (1 : Int32))).toNatClampNeg)) + (1 : Int32))), (.int (d1 + (1 : Int32))), (.ref bS)])) := by
    intro t k
    refine pre41 t ?_
    show Steps p.tables e below (T40.setTop (mkF m 39 #[.val (.ref a1), .val (.ref a2), .val (.int nn), .val (.ref a2), .val (.int (4 : Int32)), .val (.int (1 : Int32)), .val (.int d1)] [(.ref bS)])) _
    refine XS.iload X40.here hx rfl (hb hby d1_39) rfl ?_
    show Steps p.tables e below (T40.setTop (mkF m 41 #[.val (.ref a1), .val (.ref a2), .val (.int nn), .val (.ref a2), .val (.int (4 : Int32)), .val (.int (1 : Int32)), .val (.int d1)] [(.int d1), (.ref bS)])) _
    refine XS.iconst X40.here hx rfl (hb hby d1_41) ?_
    show Steps p.tables e below (T40.setTop (mkF m 42 #[.val (.ref a1), .val (.ref a2), .val (.int nn), .val (.ref a2), .val (.int (4 : Int32)), .val (.int (1 : Int32)), .val (.int d1)] [(.int (1 : Int32)), (.int d1), (.ref bS)])) _
    refine XS.iadd X40.here hx rfl (hb hby d1_42) rfl ?_
    show Steps p.tables e below (T40.setTop (mkF m 43 #[.val (.ref a1), .val (.ref a2), .val (.int nn), .val (.ref a2), .val (.int (4 : Int32)), .val (.int (1 : Int32)), .val (.int d1)] [(.int (d1 + (1 : Int32))), (.ref bS)])) _
    refine XT.dup2 X40.here hx rfl (hb hby d1_43) rfl rfl rfl ?_
    show Steps p.tables e below (T40.setTop (mkF m 44 #[.val (.ref a1), .val (.ref a2), .val (.int nn), .val (.ref a2), .val (.int (4 : Int32)), .val (.int (1 : Int32)), .val (.int d1)] [(.int (d1 + (1 : Int32))), (.ref bS), (.int (d1 + (1 : Int32))), (.ref bS)])) _
    refine X40.iaload hx (j := (d1 + (1 : Int32))) (v := (.int (Int32.ofNat (own_cnt [d0] ((d1 + (1 : Int32))).toNatClampNeg)))) (by rw [e40]; exact Ar42.1) (State.isArrayOf_alike hZ.alike Ar42.2.1) Ar42.2.2 (inb_of SS42 hj42) hat42 (g := (mkF m 44 #[.val (.ref a1), .val (.ref a2), .val (.int nn), .val (.ref a2), .val (.int (4 : Int32)), .val (.int (1 : Int32)), .val (.int d1)] [(.int (d1 + (1 : Int32))), (.ref bS), (.int (d1 + (1 : Int32))), (.ref bS)])) rfl rfl (hb hby d1_44) _ ?_
    show Steps p.tables e below (T40.setTop (mkF m 45 #[.val (.ref a1), .val (.ref a2), .val (.int nn), .val (.ref a2), .val (.int (4 : Int32)), .val (.int (1 : Int32)), .val (.int d1)] [(.int (Int32.ofNat (own_cnt [d0] ((d1 + (1 : Int32))).toNatClampNeg))), (.int (d1 + (1 : Int32))), (.ref bS)])) _
    refine XS.iconst X40.here hx rfl (hb hby d1_45) ?_
    show Steps p.tables e below (T40.setTop (mkF m 46 #[.val (.ref a1), .val (.ref a2), .val (.int nn), .val (.ref a2), .val (.int (4 : Int32)), .val (.int (1 : Int32)), .val (.int d1)] [(.int (1 : Int32)), (.int (Int32.ofNat (own_cnt [d0] ((d1 + (1 : Int32))).toNatClampNeg))), (.int (d1 + (1 : Int32))), (.ref bS)])) _
    refine XS.iadd X40.here hx rfl (hb hby d1_46) rfl ?_
    show Steps p.tables e below (T40.setTop (mkF m 47 #[.val (.ref a1), .val (.ref a2), .val (.int nn), .val (.ref a2), .val (.int (4 : Int32)), .val (.int (1 : Int32)), .val (.int d1)] [(.int ((Int32.ofNat (own_cnt [d0] ((d1 + (1 : Int32))).toNatClampNeg)) + (1 : Int32))), (.int (d1 + (1 : Int32))), (.ref bS)])) _
    exact k
  obtain ⟨cl44, Ar44, SS44, NN44, -⟩ := AV29.cell
  have hj44 : ¬ (d1 + (1 : Int32)) < 0 ∧ (d1 + (1 : Int32)) < (nn + (1 : Int32)) := (own_i1 hb1 hn8)
  obtain ⟨T44, h44, X44, e44, W44, st44⟩ := stI X40 hx hZ e40 Ar44 (j := (d1 + (1 : Int32))) (inb_of SS44 hj44) (g := (mkF m 47 #[.val (.ref a1), .val (.ref a2), .val (.int nn), .val (.ref a2), .val (.int (4 : Int32)), .val (.int (1 : Int32)), .val (.int d1)] [(.int ((Int32.ofNat (own_cnt [d0] ((d1 + (1 : Int32))).toNatClampNeg)) + (1 : Int32))), (.int (d1 + (1 : Int32))), (.ref bS)])) rfl rfl (hb hby d1_47)
  have AV44 : Arf Z h44 bS k5 .int (nn + (1 : Int32)) (own_st (own_cnt [d1, d0])) := (AV29.set rfl W44 hj44).as (fun i _ => own_inc [d0] d1 i)
  have c45_44 := c30_29.wr W44
  have c46_44 := c31_29.other W44 (Or.inl ne_a1_bS)
  have c47_44 := c32_29.other W44 (Or.inl ne_a1_bS)
  have c48_44 := c33_29.other W44 ne_a2_bS
  have zz49 := (Nat.le_trans zz34 (Keep.of_wr W44).1)
  have K50 := K35.wr W44 (Or.inr sz_bS)
  have N44 := Fr.snoc X44 N29 g_bS
  have pre51 : Go p e below (s₁.setTop (entryFrame m #[(.ref a1), (.ref a2), (.int nn)] 7)) (T44.setTop (mkF m 48 #[.val (.ref a1), .val (.ref a2), .val (.int nn), .val (.ref a2), .val (.int (4 : Int32)), .val (.int (1 : Int32)), .val (.int d1)] [])) := fun t k => pre43 t (st44 t k)
  have pre52 : Go p e below (s₁.setTop (entryFrame m #[(.ref a1), (.ref a2), (.int nn)] 7)) (T44.setTop (mkF m 26 #[.val (.ref a1), .val (.ref a2), .val (.int nn), .val (.ref a2), .val (.int (4 : Int32)), .val (.int (2 : Int32)), .val (.int d1)] [(.int (4 : Int32)), (.int (2 : Int32))])) := by
    intro t k
    refine pre51 t ?_
    show Steps p.tables e below (T44.setTop (mkF m 48 #[.val (.ref a1), .val (.ref a2), .val (.int nn), .val (.ref a2), .val (.int (4 : Int32)), .val (.int (1 : Int32)), .val (.int d1)] [])) _
    refine XS.iinc X44.here hx rfl (hb hby d1_48) rfl (l' := #[.val (.ref a1), .val (.ref a2), .val (.int nn), .val (.ref a2), .val (.int (4 : Int32)), .val (.int (2 : Int32)), .val (.int d1)]) rfl ?_
    show Steps p.tables e below (T44.setTop (mkF m 51 #[.val (.ref a1), .val (.ref a2), .val (.int nn), .val (.ref a2), .val (.int (4 : Int32)), .val (.int (2 : Int32)), .val (.int d1)] [])) _
    refine XS.goto X44.here hx rfl (pc0 := 51) (pc' := 22) rfl (hb hby d1_51) (by decide) (by decide) ?_
    show Steps p.tables e below (T44.setTop (mkF m 22 #[.val (.ref a1), .val (.ref a2), .val (.int nn), .val (.ref a2), .val (.int (4 : Int32)), .val (.int (2 : Int32)), .val (.int d1)] [])) _
    refine XS.iload X44.here hx rfl (hb hby d1_22) rfl ?_
    show Steps p.tables e below (T44.setTop (mkF m 24 #[.val (.ref a1), .val (.ref a2), .val (.int nn), .val (.ref a2), .val (.int (4 : Int32)), .val (.int (2 : Int32)), .val (.int d1)] [(.int (2 : Int32))])) _
    refine XS.iload X44.here hx rfl (hb hby d1_24) rfl ?_
    show Steps p.tables e below (T44.setTop (mkF m 26 #[.val (.ref a1), .val (.ref a2), .val (.int nn), .val (.ref a2), .val (.int (4 : Int32)), .val (.int (2 : Int32)), .val (.int d1)] [(.int (4 : Int32)), (.int (2 : Int32))])) _
    exact k
  obtain ⟨cl53, Ar53, -, SS53, NN53, HH53, -⟩ := (id c48_44)
  have pre54 : Go p e below (s₁.setTop (entryFrame m #[(.ref a1), (.ref a2), (.int nn)] 7)) (T44.setTop (mkF m 36 #[.val (.ref a1), .val (.ref a2), .val (.int nn), .val (.ref a2), .val (.int (4 : Int32)), .val (.int (2 : Int32)), .val (.int d2)] [(.ref a1)])) := by
    intro t k
    refine pre52 t ?_
    show Steps p.tables e below (T44.setTop (mkF m 26 #[.val (.ref a1), .val (.ref a2), .val (.int nn), .val (.ref a2), .val (.int (4 : Int32)), .val (.int (2 : Int32)), .val (.int d1)] [(.int (4 : Int32)), (.int (2 : Int32))])) _
    refine XS.icmpNo X44.here hx rfl (hb hby d1_26) rfl (XT.ii_ge_f (by decide : (2 : Int32) < (4 : Int32))) ?_
    show Steps p.tables e below (T44.setTop (mkF m 29 #[.val (.ref a1), .val (.ref a2), .val (.int nn), .val (.ref a2), .val (.int (4 : Int32)), .val (.int (2 : Int32)), .val (.int d1)] [])) _
    refine XS.aloadN X44.here hx rfl (hb hby d1_29) rfl rfl ?_
    show Steps p.tables e below (T44.setTop (mkF m 30 #[.val (.ref a1), .val (.ref a2), .val (.int nn), .val (.ref a2), .val (.int (4 : Int32)), .val (.int (2 : Int32)), .val (.int d1)] [(.ref a2)])) _
    refine XS.iload X44.here hx rfl (hb hby d1_30) rfl ?_
    show Steps p.tables e below (T44.setTop (mkF m 32 #[.val (.ref a1), .val (.ref a2), .val (.int nn), .val (.ref a2), .val (.int (4 : Int32)), .val (.int (2 : Int32)), .val (.int d1)] [(.int (2 : Int32)), (.ref a2)])) _
    refine X44.iaload hx (j := (2 : Int32)) (v := (.int d2)) (by rw [e44]; exact Ar53.1) (State.isArrayOf_alike hZ.alike Ar53.2.1) Ar53.2.2 (inb_of SS53 ⟨by decide, by decide⟩) (HH53.at (inb_of SS53 ⟨by decide, by decide⟩) rfl) (g := (mkF m 32 #[.val (.ref a1), .val (.ref a2), .val (.int nn), .val (.ref a2), .val (.int (4 : Int32)), .val (.int (2 : Int32)), .val (.int d1)] [(.int (2 : Int32)), (.ref a2)])) rfl rfl (hb hby d1_32) _ ?_
    show Steps p.tables e below (T44.setTop (mkF m 33 #[.val (.ref a1), .val (.ref a2), .val (.int nn), .val (.ref a2), .val (.int (4 : Int32)), .val (.int (2 : Int32)), .val (.int d1)] [(.int d2)])) _
    refine XS.istore X44.here hx rfl (hb hby d1_33) rfl (l' := #[.val (.ref a1), .val (.ref a2), .val (.int nn), .val (.ref a2), .val (.int (4 : Int32)), .val (.int (2 : Int32)), .val (.int d2)]) rfl ?_
    show Steps p.tables e below (T44.setTop (mkF m 35 #[.val (.ref a1), .val (.ref a2), .val (.int nn), .val (.ref a2), .val (.int (4 : Int32)), .val (.int (2 : Int32)), .val (.int d2)] [])) _
    refine XS.aloadN X44.here hx rfl (hb hby d1_35) rfl rfl ?_
    show Steps p.tables e below (T44.setTop (mkF m 36 #[.val (.ref a1), .val (.ref a2), .val (.int nn), .val (.ref a2), .val (.int (4 : Int32)), .val (.int (2 : Int32)), .val (.int d2)] [(.ref a1)])) _
    exact k
  obtain ⟨T55, X55, e55, st55⟩ := getF X44 hx hZ hown (host := "") (Or.inl (hw _ (List.mem_of_getElem? (i := 11) rfl))) Via.refl e44 c46_44 (g := (mkF m 36 #[.val (.ref a1), .val (.ref a2), .val (.int nn), .val (.ref a2), .val (.int (4 : Int32)), .val (.int (2 : Int32)), .val (.int d2)] [(.ref a1)])) rfl rfl (hb hby d1_36)
  have pre56 : Go p e below (s₁.setTop (entryFrame m #[(.ref a1), (.ref a2), (.int nn)] 7)) (T55.setTop (mkF m 39 #[.val (.ref a1), .val (.ref a2), .val (.int nn), .val (.ref a2), .val (.int (4 : Int32)), .val (.int (2 : Int32)), .val (.int d2)] [(.ref bS)])) := fun t k => pre54 t (st55 t k)
  obtain ⟨cl57, Ar57, SS57, NN57, HH57⟩ := AV44.cell
  have hj57 : ¬ (d2 + (1 : Int32)) < 0 ∧ (d2 + (1 : Int32)) < (nn + (1 : Int32)) := (own_i1 hb2 hn8)
  have hat57 : cl57.slots[((d2 + (1 : Int32))).toNatClampNeg]? = some (.int (Int32.ofNat (own_cnt [d1, d0] ((d2 + (1 : Int32))).toNatClampNeg))) := (HH57 _ (own_lt hj57)).trans (congrArg some rfl)
  have pre58 : Go p e below (s₁.setTop (entryFrame m #[(.ref a1), (.ref a2), (.int nn)] 7)) (T55.setTop (mkF m 47 #[.val (.ref a1), .val (.ref a2), .val (.int nn), .val (.ref a2), .val (.int (4 : Int32)), .val (.int (2 : Int32)), .val (.int d2)] [(.int ((Int32.ofNat (own_cnt [d1, d0] ((d2 + (1 : Int32))).toNatClampNeg)) + (1 : Int32))), (.int (d2 + (1 : Int32))), (.ref bS)])) := by
    intro t k
    refine pre56 t ?_
    show Steps p.tables e below (T55.setTop (mkF m 39 #[.val (.ref a1), .val (.ref a2), .val (.int nn), .val (.ref a2), .val (.int (4 : Int32)), .val (.int (2 : Int32)), .val (.int d2)] [(.ref bS)])) _
    refine XS.iload X55.here hx rfl (hb hby d1_39) rfl ?_
    show Steps p.tables e below (T55.setTop (mkF m 41 #[.val (.ref a1), .val (.ref a2), .val (.int nn), .val (.ref a2), .val (.int (4 : Int32)), .val (.int (2 : Int32)), .val (.int d2)] [(.int d2), (.ref bS)])) _
    refine XS.iconst X55.here hx rfl (hb hby d1_41) ?_
    show Steps p.tables e below (T55.setTop (mkF m 42 #[.val (.ref a1), .val (.ref a2), .val (.int nn), .val (.ref a2), .val (.int (4 : Int32)), .val (.int (2 : Int32)), .val (.int d2)] [(.int (1 : Int32)), (.int d2), (.ref bS)])) _
    refine XS.iadd X55.here hx rfl (hb hby d1_42) rfl ?_
    show Steps p.tables e below (T55.setTop (mkF m 43 #[.val (.ref a1), .val (.ref a2), .val (.int nn), .val (.ref a2), .val (.int (4 : Int32)), .val (.int (2 : Int32)), .val (.int d2)] [(.int (d2 + (1 : Int32))), (.ref bS)])) _
    refine XT.dup2 X55.here hx rfl (hb hby d1_43) rfl rfl rfl ?_
    show Steps p.tables e below (T55.setTop (mkF m 44 #[.val (.ref a1), .val (.ref a2), .val (.int nn), .val (.ref a2), .val (.int (4 : Int32)), .val (.int (2 : Int32)), .val (.int d2)] [(.int (d2 + (1 : Int32))), (.ref bS), (.int (d2 + (1 : Int32))), (.ref bS)])) _
    refine X55.iaload hx (j := (d2 + (1 : Int32))) (v := (.int (Int32.ofNat (own_cnt [d1, d0] ((d2 + (1 : Int32))).toNatClampNeg)))) (by rw [e55]; exact Ar57.1) (State.isArrayOf_alike hZ.alike Ar57.2.1) Ar57.2.2 (inb_of SS57 hj57) hat57 (g := (mkF m 44 #[.val (.ref a1), .val (.ref a2), .val (.int nn), .val (.ref a2), .val (.int (4 : Int32)), .val (.int (2 : Int32)), .val (.int d2)] [(.int (d2 + (1 : Int32))), (.ref bS), (.int (d2 + (1 : Int32))), (.ref bS)])) rfl rfl (hb hby d1_44) _ ?_
    show Steps p.tables e below (T55.setTop (mkF m 45 #[.val (.ref a1), .val (.ref a2), .val (.int nn), .val (.ref a2), .val (.int (4 : Int32)), .val (.int (2 : Int32)), .val (.int d2)] [(.int (Int32.ofNat (own_cnt [d1, d0] ((d2 + (1 : Int32))).toNatClampNeg))), (.int (d2 + (1 : Int32))), (.ref bS)])) _
    refine XS.iconst X55.here hx rfl (hb hby d1_45) ?_
    show Steps p.tables e below (T55.setTop (mkF m 46 #[.val (.ref a1), .val (.ref a2), .val (.int nn), .val (.ref a2), .val (.int (4 : Int32)), .val (.int (2 : Int32)), .val (.int d2)] [(.int (1 : Int32)), (.int (Int32.ofNat (own_cnt [d1, d0] ((d2 + (1 : Int32))).toNatClampNeg))), (.int (d2 + (1 : Int32))), (.ref bS)])) _
    refine XS.iadd X55.here hx rfl (hb hby d1_46) rfl ?_
    show Steps p.tables e below (T55.setTop (mkF m 47 #[.val (.ref a1), .val (.ref a2), .val (.int nn), .val (.ref a2), .val (.int (4 : Int32)), .val (.int (2 : Int32)), .val (.int d2)] [(.int ((Int32.ofNat (own_cnt [d1, d0] ((d2 + (1 : Int32))).toNatClampNeg)) + (1 : Int32))), (.int (d2 + (1 : Int32))), (.ref bS)])) _
    exact k
  obtain ⟨cl59, Ar59, SS59, NN59, -⟩ := AV44.cell
  have hj59 : ¬ (d2 + (1 : Int32)) < 0 ∧ (d2 + (1 : Int32)) < (nn + (1 : Int32)) := (own_i1 hb2 hn8)
  obtain ⟨T59, h59, X59, e59, W59, st59⟩ := stI X55 hx hZ e55 Ar59 (j := (d2 + (1 : Int32))) (inb_of SS59 hj59) (g := (mkF m 47 #[.val (.ref a1), .val (.ref a2), .val (.int nn), .val (.ref a2), .val (.int (4 : Int32)), .val (.int (2 : Int32)), .val (.int d2)] [(.int ((Int32.ofNat (own_cnt [d1, d0] ((d2 + (1 : Int32))).toNatClampNeg)) + (1 : Int32))), (.int (d2 + (1 : Int32))), (.ref bS)])) rfl rfl (hb hby d1_47)
  have AV59 : Arf Z h59 bS k5 .int (nn + (1 : Int32)) (own_st (own_cnt [d2, d1, d0])) := (AV44.set rfl W59 hj59).as (fun i _ => own_inc [d1, d0] d2 i)
  have c60_59 := c45_44.wr W59
  have c61_59 := c46_44.other W59 (Or.inl ne_a1_bS)
  have c62_59 := c47_44.other W59 (Or.inl ne_a1_bS)
  have c63_59 := c48_44.other W59 ne_a2_bS
  have zz64 := (Nat.le_trans zz49 (Keep.of_wr W59).1)
  have K65 := K50.wr W59 (Or.inr sz_bS)
  have N59 := Fr.snoc X59 N44 g_bS
  have pre66 : Go p e below (s₁.setTop (entryFrame m #[(.ref a1), (.ref a2), (.int nn)] 7)) (T59.setTop (mkF m 48 #[.val (.ref a1), .val (.ref a2), .val (.int nn), .val (.ref a2), .val (.int (4 : Int32)), .val (.int (2 : Int32)), .val (.int d2)] [])) := fun t k => pre58 t (st59 t k)
  have pre67 : Go p e below (s₁.setTop (entryFrame m #[(.ref a1), (.ref a2), (.int nn)] 7)) (T59.setTop (mkF m 26 #[.val (.ref a1), .val (.ref a2), .val (.int nn), .val (.ref a2), .val (.int (4 : Int32)), .val (.int (3 : Int32)), .val (.int d2)] [(.int (4 : Int32)), (.int (3 : Int32))])) := by
    intro t k
    refine pre66 t ?_
    show Steps p.tables e below (T59.setTop (mkF m 48 #[.val (.ref a1), .val (.ref a2), .val (.int nn), .val (.ref a2), .val (.int (4 : Int32)), .val (.int (2 : Int32)), .val (.int d2)] [])) _
    refine XS.iinc X59.here hx rfl (hb hby d1_48) rfl (l' := #[.val (.ref a1), .val (.ref a2), .val (.int nn), .val (.ref a2), .val (.int (4 : Int32)), .val (.int (3 : Int32)), .val (.int d2)]) rfl ?_
    show Steps p.tables e below (T59.setTop (mkF m 51 #[.val (.ref a1), .val (.ref a2), .val (.int nn), .val (.ref a2), .val (.int (4 : Int32)), .val (.int (3 : Int32)), .val (.int d2)] [])) _
    refine XS.goto X59.here hx rfl (pc0 := 51) (pc' := 22) rfl (hb hby d1_51) (by decide) (by decide) ?_
    show Steps p.tables e below (T59.setTop (mkF m 22 #[.val (.ref a1), .val (.ref a2), .val (.int nn), .val (.ref a2), .val (.int (4 : Int32)), .val (.int (3 : Int32)), .val (.int d2)] [])) _
    refine XS.iload X59.here hx rfl (hb hby d1_22) rfl ?_
    show Steps p.tables e below (T59.setTop (mkF m 24 #[.val (.ref a1), .val (.ref a2), .val (.int nn), .val (.ref a2), .val (.int (4 : Int32)), .val (.int (3 : Int32)), .val (.int d2)] [(.int (3 : Int32))])) _
    refine XS.iload X59.here hx rfl (hb hby d1_24) rfl ?_
    show Steps p.tables e below (T59.setTop (mkF m 26 #[.val (.ref a1), .val (.ref a2), .val (.int nn), .val (.ref a2), .val (.int (4 : Int32)), .val (.int (3 : Int32)), .val (.int d2)] [(.int (4 : Int32)), (.int (3 : Int32))])) _
    exact k
  obtain ⟨cl68, Ar68, -, SS68, NN68, HH68, -⟩ := (id c63_59)
  have pre69 : Go p e below (s₁.setTop (entryFrame m #[(.ref a1), (.ref a2), (.int nn)] 7)) (T59.setTop (mkF m 36 #[.val (.ref a1), .val (.ref a2), .val (.int nn), .val (.ref a2), .val (.int (4 : Int32)), .val (.int (3 : Int32)), .val (.int d3)] [(.ref a1)])) := by
    intro t k
    refine pre67 t ?_
    show Steps p.tables e below (T59.setTop (mkF m 26 #[.val (.ref a1), .val (.ref a2), .val (.int nn), .val (.ref a2), .val (.int (4 : Int32)), .val (.int (3 : Int32)), .val (.int d2)] [(.int (4 : Int32)), (.int (3 : Int32))])) _
    refine XS.icmpNo X59.here hx rfl (hb hby d1_26) rfl (XT.ii_ge_f (by decide : (3 : Int32) < (4 : Int32))) ?_
    show Steps p.tables e below (T59.setTop (mkF m 29 #[.val (.ref a1), .val (.ref a2), .val (.int nn), .val (.ref a2), .val (.int (4 : Int32)), .val (.int (3 : Int32)), .val (.int d2)] [])) _
    refine XS.aloadN X59.here hx rfl (hb hby d1_29) rfl rfl ?_
    show Steps p.tables e below (T59.setTop (mkF m 30 #[.val (.ref a1), .val (.ref a2), .val (.int nn), .val (.ref a2), .val (.int (4 : Int32)), .val (.int (3 : Int32)), .val (.int d2)] [(.ref a2)])) _
    refine XS.iload X59.here hx rfl (hb hby d1_30) rfl ?_
    show Steps p.tables e below (T59.setTop (mkF m 32 #[.val (.ref a1), .val (.ref a2), .val (.int nn), .val (.ref a2), .val (.int (4 : Int32)), .val (.int (3 : Int32)), .val (.int d2)] [(.int (3 : Int32)), (.ref a2)])) _
    refine X59.iaload hx (j := (3 : Int32)) (v := (.int d3)) (by rw [e59]; exact Ar68.1) (State.isArrayOf_alike hZ.alike Ar68.2.1) Ar68.2.2 (inb_of SS68 ⟨by decide, by decide⟩) (HH68.at (inb_of SS68 ⟨by decide, by decide⟩) rfl) (g := (mkF m 32 #[.val (.ref a1), .val (.ref a2), .val (.int nn), .val (.ref a2), .val (.int (4 : Int32)), .val (.int (3 : Int32)), .val (.int d2)] [(.int (3 : Int32)), (.ref a2)])) rfl rfl (hb hby d1_32) _ ?_
    show Steps p.tables e below (T59.setTop (mkF m 33 #[.val (.ref a1), .val (.ref a2), .val (.int nn), .val (.ref a2), .val (.int (4 : Int32)), .val (.int (3 : Int32)), .val (.int d2)] [(.int d3)])) _
    refine XS.istore X59.here hx rfl (hb hby d1_33) rfl (l' := #[.val (.ref a1), .val (.ref a2), .val (.int nn), .val (.ref a2), .val (.int (4 : Int32)), .val (.int (3 : Int32)), .val (.int d3)]) rfl ?_
    show Steps p.tables e below (T59.setTop (mkF m 35 #[.val (.ref a1), .val (.ref a2), .val (.int nn), .val (.ref a2), .val (.int (4 : Int32)), .val (.int (3 : Int32)), .val (.int d3)] [])) _
    refine XS.aloadN X59.here hx rfl (hb hby d1_35) rfl rfl ?_
    show Steps p.tables e below (T59.setTop (mkF m 36 #[.val (.ref a1), .val (.ref a2), .val (.int nn), .val (.ref a2), .val (.int (4 : Int32)), .val (.int (3 : Int32)), .val (.int d3)] [(.ref a1)])) _
    exact k
  obtain ⟨T70, X70, e70, st70⟩ := getF X59 hx hZ hown (host := "") (Or.inl (hw _ (List.mem_of_getElem? (i := 11) rfl))) Via.refl e59 c61_59 (g := (mkF m 36 #[.val (.ref a1), .val (.ref a2), .val (.int nn), .val (.ref a2), .val (.int (4 : Int32)), .val (.int (3 : Int32)), .val (.int d3)] [(.ref a1)])) rfl rfl (hb hby d1_36)
  have pre71 : Go p e below (s₁.setTop (entryFrame m #[(.ref a1), (.ref a2), (.int nn)] 7)) (T70.setTop (mkF m 39 #[.val (.ref a1), .val (.ref a2), .val (.int nn), .val (.ref a2), .val (.int (4 : Int32)), .val (.int (3 : Int32)), .val (.int d3)] [(.ref bS)])) := fun t k => pre69 t (st70 t k)
  obtain ⟨cl72, Ar72, SS72, NN72, HH72⟩ := AV59.cell
  have hj72 : ¬ (d3 + (1 : Int32)) < 0 ∧ (d3 + (1 : Int32)) < (nn + (1 : Int32)) := (own_i1 hb3 hn8)
  have hat72 : cl72.slots[((d3 + (1 : Int32))).toNatClampNeg]? = some (.int (Int32.ofNat (own_cnt [d2, d1, d0] ((d3 + (1 : Int32))).toNatClampNeg))) := (HH72 _ (own_lt hj72)).trans (congrArg some rfl)
  have pre73 : Go p e below (s₁.setTop (entryFrame m #[(.ref a1), (.ref a2), (.int nn)] 7)) (T70.setTop (mkF m 47 #[.val (.ref a1), .val (.ref a2), .val (.int nn), .val (.ref a2), .val (.int (4 : Int32)), .val (.int (3 : Int32)), .val (.int d3)] [(.int ((Int32.ofNat (own_cnt [d2, d1, d0] ((d3 + (1 : Int32))).toNatClampNeg)) + (1 : Int32))), (.int (d3 + (1 : Int32))), (.ref bS)])) := by
    intro t k
    refine pre71 t ?_
    show Steps p.tables e below (T70.setTop (mkF m 39 #[.val (.ref a1), .val (.ref a2), .val (.int nn), .val (.ref a2), .val (.int (4 : Int32)), .val (.int (3 : Int32)), .val (.int d3)] [(.ref bS)])) _
    refine XS.iload X70.here hx rfl (hb hby d1_39) rfl ?_
    show Steps p.tables e below (T70.setTop (mkF m 41 #[.val (.ref a1), .val (.ref a2), .val (.int nn), .val (.ref a2), .val (.int (4 : Int32)), .val (.int (3 : Int32)), .val (.int d3)] [(.int d3), (.ref bS)])) _
    refine XS.iconst X70.here hx rfl (hb hby d1_41) ?_
    show Steps p.tables e below (T70.setTop (mkF m 42 #[.val (.ref a1), .val (.ref a2), .val (.int nn), .val (.ref a2), .val (.int (4 : Int32)), .val (.int (3 : Int32)), .val (.int d3)] [(.int (1 : Int32)), (.int d3), (.ref bS)])) _
    refine XS.iadd X70.here hx rfl (hb hby d1_42) rfl ?_
    show Steps p.tables e below (T70.setTop (mkF m 43 #[.val (.ref a1), .val (.ref a2), .val (.int nn), .val (.ref a2), .val (.int (4 : Int32)), .val (.int (3 : Int32)), .val (.int d3)] [(.int (d3 + (1 : Int32))), (.ref bS)])) _
    refine XT.dup2 X70.here hx rfl (hb hby d1_43) rfl rfl rfl ?_
    show Steps p.tables e below (T70.setTop (mkF m 44 #[.val (.ref a1), .val (.ref a2), .val (.int nn), .val (.ref a2), .val (.int (4 : Int32)), .val (.int (3 : Int32)), .val (.int d3)] [(.int (d3 + (1 : Int32))), (.ref bS), (.int (d3 + (1 : Int32))), (.ref bS)])) _
    refine X70.iaload hx (j := (d3 + (1 : Int32))) (v := (.int (Int32.ofNat (own_cnt [d2, d1, d0] ((d3 + (1 : Int32))).toNatClampNeg)))) (by rw [e70]; exact Ar72.1) (State.isArrayOf_alike hZ.alike Ar72.2.1) Ar72.2.2 (inb_of SS72 hj72) hat72 (g := (mkF m 44 #[.val (.ref a1), .val (.ref a2), .val (.int nn), .val (.ref a2), .val (.int (4 : Int32)), .val (.int (3 : Int32)), .val (.int d3)] [(.int (d3 + (1 : Int32))), (.ref bS), (.int (d3 + (1 : Int32))), (.ref bS)])) rfl rfl (hb hby d1_44) _ ?_
    show Steps p.tables e below (T70.setTop (mkF m 45 #[.val (.ref a1), .val (.ref a2), .val (.int nn), .val (.ref a2), .val (.int (4 : Int32)), .val (.int (3 : Int32)), .val (.int d3)] [(.int (Int32.ofNat (own_cnt [d2, d1, d0] ((d3 + (1 : Int32))).toNatClampNeg))), (.int (d3 + (1 : Int32))), (.ref bS)])) _
    refine XS.iconst X70.here hx rfl (hb hby d1_45) ?_
    show Steps p.tables e below (T70.setTop (mkF m 46 #[.val (.ref a1), .val (.ref a2), .val (.int nn), .val (.ref a2), .val (.int (4 : Int32)), .val (.int (3 : Int32)), .val (.int d3)] [(.int (1 : Int32)), (.int (Int32.ofNat (own_cnt [d2, d1, d0] ((d3 + (1 : Int32))).toNatClampNeg))), (.int (d3 + (1 : Int32))), (.ref bS)])) _
    refine XS.iadd X70.here hx rfl (hb hby d1_46) rfl ?_
    show Steps p.tables e below (T70.setTop (mkF m 47 #[.val (.ref a1), .val (.ref a2), .val (.int nn), .val (.ref a2), .val (.int (4 : Int32)), .val (.int (3 : Int32)), .val (.int d3)] [(.int ((Int32.ofNat (own_cnt [d2, d1, d0] ((d3 + (1 : Int32))).toNatClampNeg)) + (1 : Int32))), (.int (d3 + (1 : Int32))), (.ref bS)])) _
    exact k
  obtain ⟨cl74, Ar74, SS74, NN74, -⟩ := AV59.cell
  have hj74 : ¬ (d3 + (1 : Int32)) < 0 ∧ (d3 + (1 : Int32)) < (nn + (1 : Int32)) := (own_i1 hb3 hn8)
  obtain ⟨T74, h74, X74, e74, W74, st74⟩ := stI X70 hx hZ e70 Ar74 (j := (d3 + (1 : Int32))) (inb_of SS74 hj74) (g := (mkF m 47 #[.val (.ref a1), .val (.ref a2), .val (.int nn), .val (.ref a2), .val (.int (4 : Int32)), .val (.int (3 : Int32)), .val (.int d3)] [(.int ((Int32.ofNat (own_cnt [d2, d1, d0] ((d3 + (1 : Int32))).toNatClampNeg)) + (1 : Int32))), (.int (d3 + (1 : Int32))), (.ref bS)])) rfl rfl (hb hby d1_47)
  have AV74 : Arf Z h74 bS k5 .int (nn + (1 : Int32)) (own_st (own_cnt [d3, d2, d1, d0])) := (AV59.set rfl W74 hj74).as (fun i _ => own_inc [d2, d1, d0] d3 i)
  have c75_74 := c60_59.wr W74
  have c76_74 := c61_59.other W74 (Or.inl ne_a1_bS)
  have c77_74 := c62_59.other W74 (Or.inl ne_a1_bS)
  have c78_74 := c63_59.other W74 ne_a2_bS
  have zz79 := (Nat.le_trans zz64 (Keep.of_wr W74).1)
  have K80 := K65.wr W74 (Or.inr sz_bS)
  have N74 := Fr.snoc X74 N59 g_bS
  have pre81 : Go p e below (s₁.setTop (entryFrame m #[(.ref a1), (.ref a2), (.int nn)] 7)) (T74.setTop (mkF m 48 #[.val (.ref a1), .val (.ref a2), .val (.int nn), .val (.ref a2), .val (.int (4 : Int32)), .val (.int (3 : Int32)), .val (.int d3)] [])) := fun t k => pre73 t (st74 t k)
  have pre82 : Go p e below (s₁.setTop (entryFrame m #[(.ref a1), (.ref a2), (.int nn)] 7)) (T74.setTop (mkF m 26 #[.val (.ref a1), .val (.ref a2), .val (.int nn), .val (.ref a2), .val (.int (4 : Int32)), .val (.int (4 : Int32)), .val (.int d3)] [(.int (4 : Int32)), (.int (4 : Int32))])) := by
    intro t k
    refine pre81 t ?_
    show Steps p.tables e below (T74.setTop (mkF m 48 #[.val (.ref a1), .val (.ref a2), .val (.int nn), .val (.ref a2), .val (.int (4 : Int32)), .val (.int (3 : Int32)), .val (.int d3)] [])) _
    refine XS.iinc X74.here hx rfl (hb hby d1_48) rfl (l' := #[.val (.ref a1), .val (.ref a2), .val (.int nn), .val (.ref a2), .val (.int (4 : Int32)), .val (.int (4 : Int32)), .val (.int d3)]) rfl ?_
    show Steps p.tables e below (T74.setTop (mkF m 51 #[.val (.ref a1), .val (.ref a2), .val (.int nn), .val (.ref a2), .val (.int (4 : Int32)), .val (.int (4 : Int32)), .val (.int d3)] [])) _
    refine XS.goto X74.here hx rfl (pc0 := 51) (pc' := 22) rfl (hb hby d1_51) (by decide) (by decide) ?_
    show Steps p.tables e below (T74.setTop (mkF m 22 #[.val (.ref a1), .val (.ref a2), .val (.int nn), .val (.ref a2), .val (.int (4 : Int32)), .val (.int (4 : Int32)), .val (.int d3)] [])) _
    refine XS.iload X74.here hx rfl (hb hby d1_22) rfl ?_
    show Steps p.tables e below (T74.setTop (mkF m 24 #[.val (.ref a1), .val (.ref a2), .val (.int nn), .val (.ref a2), .val (.int (4 : Int32)), .val (.int (4 : Int32)), .val (.int d3)] [(.int (4 : Int32))])) _
    refine XS.iload X74.here hx rfl (hb hby d1_24) rfl ?_
    show Steps p.tables e below (T74.setTop (mkF m 26 #[.val (.ref a1), .val (.ref a2), .val (.int nn), .val (.ref a2), .val (.int (4 : Int32)), .val (.int (4 : Int32)), .val (.int d3)] [(.int (4 : Int32)), (.int (4 : Int32))])) _
    exact k
  have pre83 : Go p e below (s₁.setTop (entryFrame m #[(.ref a1), (.ref a2), (.int nn)] 7)) (T74.setTop (mkF m 56 #[.val (.ref a1), .val (.ref a2), .val (.int nn), .val (.int (0 : Int32)), .val (.int (4 : Int32)), .val (.int (4 : Int32)), .val (.int d3)] [])) := by
    intro t k
    refine pre82 t ?_
    show Steps p.tables e below (T74.setTop (mkF m 26 #[.val (.ref a1), .val (.ref a2), .val (.int nn), .val (.ref a2), .val (.int (4 : Int32)), .val (.int (4 : Int32)), .val (.int d3)] [(.int (4 : Int32)), (.int (4 : Int32))])) _
    refine XS.icmpYes X74.here hx rfl (pc0 := 26) (pc' := 54) rfl (hb hby d1_26) rfl (XT.ii_ge_t (by decide : ¬ ((4 : Int32) < (4 : Int32)))) (by decide) (by decide) ?_
    show Steps p.tables e below (T74.setTop (mkF m 54 #[.val (.ref a1), .val (.ref a2), .val (.int nn), .val (.ref a2), .val (.int (4 : Int32)), .val (.int (4 : Int32)), .val (.int d3)] [])) _
    refine XS.iconst X74.here hx rfl (hb hby d1_54) ?_
    show Steps p.tables e below (T74.setTop (mkF m 55 #[.val (.ref a1), .val (.ref a2), .val (.int nn), .val (.ref a2), .val (.int (4 : Int32)), .val (.int (4 : Int32)), .val (.int d3)] [(.int (0 : Int32))])) _
    refine XS.istoreN X74.here hx rfl (hb hby d1_55) rfl (l' := #[.val (.ref a1), .val (.ref a2), .val (.int nn), .val (.int (0 : Int32)), .val (.int (4 : Int32)), .val (.int (4 : Int32)), .val (.int d3)]) rfl ?_
    show Steps p.tables e below (T74.setTop (mkF m 56 #[.val (.ref a1), .val (.ref a2), .val (.int nn), .val (.int (0 : Int32)), .val (.int (4 : Int32)), .val (.int (4 : Int32)), .val (.int d3)] [])) _
    exact k
  obtain ⟨T84, h84, lc84, X84, e84, N84, KL84, AV84, g84⟩ := loop56 (a2 := a2) (i4 := (4 : Int32)) (i5 := (4 : Int32)) (i6 := d3) hx hZ hw hby hml hown g_bS ne_a1_bS hn8 nn.toInt.toNat T74 h74 _ (0 : Int32) 0 X74 e74 N74 zz79 c76_74 AV74 (by decide) rfl (by rw [show (0 : Int32).toInt = 0 from rfl]; omega)
  rw [Nat.zero_add] at AV84
  have K85 := K80.trans KL84 (allS (Or.inr sz_bS) all0)
  have kc86 := c75_74.keep KL84
  have kc87 := c76_74.keep KL84 (ninS ne_a1_bS nin0)
  have kc88 := c77_74.keep KL84 (ninS ne_a1_bS nin0)
  have kc89 := c78_74.keep KL84 (ninS ne_a2_bS nin0)
  have zz90 := Nat.le_trans zz79 KL84.1
  have pre91 : Go p e below (s₁.setTop (entryFrame m #[(.ref a1), (.ref a2), (.int nn)] 7)) (T84.setTop (mkF m 84 #[.val (.ref a1), .val (.ref a2), .val (.int nn), .val (.int nn), .val (.int (4 : Int32)), .val (.int (4 : Int32)), .val (.int d3)] [])) := fun t k => pre83 t (g84 t k)
  have hq : ∀ e ∈ [d3, d2, d1, d0], 1 ≤ (e + (1 : Int32)).toNatClampNeg := by
    intro e he
    simp only [List.mem_cons, List.not_mem_nil, or_false] at he
    rcases he with rfl | rfl | rfl | rfl
    · rw [(own_q hb3.1 hb3.2 hn8).2]; omega
    · rw [(own_q hb2.1 hb2.2 hn8).2]; omega
    · rw [(own_q hb1.1 hb1.2 hn8).2]; omega
    · rw [(own_q hb0.1 hb0.2 hn8).2]; omega
  have hidx0 : own_acc (own_cnt [d3, d2, d1, d0]) nn.toInt.toNat d0.toNatClampNeg + own_nx [] d0.toNatClampNeg ≤ 3 := by
    have hle : d0.toNatClampNeg ≤ nn.toInt.toNat := by show d0.toInt.toNat ≤ nn.toInt.toNat; omega
    rw [own_acc_eq _ hq, if_pos hle]
    simp only [own_le, own_nx, (own_q hb0.1 hb0.2 hn8).2, (own_q hb1.1 hb1.2 hn8).2, (own_q hb2.1 hb2.2 hn8).2, (own_q hb3.1 hb3.2 hn8).2]
    have r0 := own_self d0.toNatClampNeg
    have r1 := own_one (d1.toNatClampNeg + 1 ≤ d0.toNatClampNeg)
    have r2 := own_one (d2.toNatClampNeg + 1 ≤ d0.toNatClampNeg)
    have r3 := own_one (d3.toNatClampNeg + 1 ≤ d0.toNatClampNeg)
    omega
  have hidx1 : own_acc (own_cnt [d3, d2, d1, d0]) nn.toInt.toNat d1.toNatClampNeg + own_nx [d0] d1.toNatClampNeg ≤ 3 := by
    have hle : d1.toNatClampNeg ≤ nn.toInt.toNat := by show d1.toInt.toNat ≤ nn.toInt.toNat; omega
    rw [own_acc_eq _ hq, if_pos hle]
    simp only [own_le, own_nx, (own_q hb0.1 hb0.2 hn8).2, (own_q hb1.1 hb1.2 hn8).2, (own_q hb2.1 hb2.2 hn8).2, (own_q hb3.1 hb3.2 hn8).2]
    have r0 := own_two d0.toNatClampNeg d1.toNatClampNeg
    have r1 := own_self d1.toNatClampNeg
    have r2 := own_one (d2.toNatClampNeg + 1 ≤ d1.toNatClampNeg)
    have r3 := own_one (d3.toNatClampNeg + 1 ≤ d1.toNatClampNeg)
    omega
  have hidx2 : own_acc (own_cnt [d3, d2, d1, d0]) nn.toInt.toNat d2.toNatClampNeg + own_nx [d1, d0] d2.toNatClampNeg ≤ 3 := by
    have hle : d2.toNatClampNeg ≤ nn.toInt.toNat := by show d2.toInt.toNat ≤ nn.toInt.toNat; omega
    rw [own_acc_eq _ hq, if_pos hle]
    simp only [own_le, own_nx, (own_q hb0.1 hb0.2 hn8).2, (own_q hb1.1 hb1.2 hn8).2, (own_q hb2.1 hb2.2 hn8).2, (own_q hb3.1 hb3.2 hn8).2]
    have r0 := own_two d0.toNatClampNeg d2.toNatClampNeg
    have r1 := own_two d1.toNatClampNeg d2.toNatClampNeg
    have r2 := own_self d2.toNatClampNeg
    have r3 := own_one (d3.toNatClampNeg + 1 ≤ d2.toNatClampNeg)
    omega
  have hidx3 : own_acc (own_cnt [d3, d2, d1, d0]) nn.toInt.toNat d3.toNatClampNeg + own_nx [d2, d1, d0] d3.toNatClampNeg ≤ 3 := by
    have hle : d3.toNatClampNeg ≤ nn.toInt.toNat := by show d3.toInt.toNat ≤ nn.toInt.toNat; omega
    rw [own_acc_eq _ hq, if_pos hle]
    simp only [own_le, own_nx, (own_q hb0.1 hb0.2 hn8).2, (own_q hb1.1 hb1.2 hn8).2, (own_q hb2.1 hb2.2 hn8).2, (own_q hb3.1 hb3.2 hn8).2]
    have r0 := own_two d0.toNatClampNeg d3.toNatClampNeg
    have r1 := own_two d1.toNatClampNeg d3.toNatClampNeg
    have r2 := own_two d2.toNatClampNeg d3.toNatClampNeg
    have r3 := own_self d3.toNatClampNeg
    omega
  obtain ⟨cl92, Ar92, -, SS92, NN92, -, -⟩ := (id kc89)
  have pre93 : Go p e below (s₁.setTop (entryFrame m #[(.ref a1), (.ref a2), (.int nn)] 7)) (T84.setTop (mkF m 87 #[.val (.ref a1), .val (.ref a2), .val (.int nn), .val (.int nn), .val (.int (4 : Int32)), .val (.int (4 : Int32)), .val (.int d3)] [(.int (4 : Int32)), (.ref a1)])) := by
    intro t k
    refine pre91 t ?_
    show Steps p.tables e below (T84.setTop (mkF m 84 #[.val (.ref a1), .val (.ref a2), .val (.int nn), .val (.int nn), .val (.int (4 : Int32)), .val (.int (4 : Int32)), .val (.int d3)] [])) _
    refine XS.aloadN X84.here hx rfl (hb hby d1_84) rfl rfl ?_
    show Steps p.tables e below (T84.setTop (mkF m 85 #[.val (.ref a1), .val (.ref a2), .val (.int nn), .val (.int nn), .val (.int (4 : Int32)), .val (.int (4 : Int32)), .val (.int d3)] [(.ref a1)])) _
    refine XS.aloadN X84.here hx rfl (hb hby d1_85) rfl rfl ?_
    show Steps p.tables e below (T84.setTop (mkF m 86 #[.val (.ref a1), .val (.ref a2), .val (.int nn), .val (.int nn), .val (.int (4 : Int32)), .val (.int (4 : Int32)), .val (.int d3)] [(.ref a2), (.ref a1)])) _
    refine X84.arraylength hx (by rw [e84]; exact Ar92.1) (State.isArrayOf_alike hZ.alike Ar92.2.1) (g := (mkF m 86 #[.val (.ref a1), .val (.ref a2), .val (.int nn), .val (.int nn), .val (.int (4 : Int32)), .val (.int (4 : Int32)), .val (.int d3)] [(.ref a2), (.ref a1)])) rfl rfl (hb hby d1_86) _ ?_
    rw [len_of SS92 NN92]
    show Steps p.tables e below (T84.setTop (mkF m 87 #[.val (.ref a1), .val (.ref a2), .val (.int nn), .val (.int nn), .val (.int (4 : Int32)), .val (.int (4 : Int32)), .val (.int d3)] [(.int (4 : Int32)), (.ref a1)])) _
    exact k
  obtain ⟨T94, h94, k94, X94, e94, E94, A94, st94⟩ := newP X84 hx hZ (hw _ (List.mem_of_getElem? (i := 1) rfl)) e84 (g := (mkF m 87 #[.val (.ref a1), .val (.ref a2), .val (.int nn), .val (.int nn), .val (.int (4 : Int32)), .val (.int (4 : Int32)), .val (.int d3)] [(.int (4 : Int32)), (.ref a1)])) rfl (hb hby d1_87) rfl (by decide) (cap := 4) (by decide) (by decide) (by decide) (by decide)
  obtain ⟨bT, g94⟩ : ∃ z, z = h84.size := ⟨_, rfl⟩
  rw [← g94] at A94 st94
  have c95_94 := kc86.ext E94
  have c96_94 := kc87.ext E94
  have c97_94 := kc88.ext E94
  have c98_94 := kc89.ext E94
  have c99_94 := AV84.ext E94
  have zz100 := (Nat.le_trans zz90 E94.1)
  have K101 := K85.ext E94
  have AV_bT : Arf Z h94 bT k94 .int (4 : Int32) (fun _ => defaultValue .int) := (Arf.new A94 (by decide)).as (fun _ _ => rfl)
  have g_bT : n0 ≤ bT := Nat.le_trans zz90 (Nat.le_of_eq g94.symm)
  have sz_bT : h0.size ≤ bT := Nat.le_trans K85.1 (Nat.le_of_eq g94.symm)
  have ne_a1_bT : a1 ≠ bT := Nat.ne_of_lt (Nat.lt_of_lt_of_le kc86.lt (Nat.le_of_eq g94.symm))
  have ne_a2_bT : a2 ≠ bT := Nat.ne_of_lt (Nat.lt_of_lt_of_le kc89.lt (Nat.le_of_eq g94.symm))
  have ne_bS_bT : bS ≠ bT := Nat.ne_of_lt (Nat.lt_of_lt_of_le AV84.lt (Nat.le_of_eq g94.symm))
  have pre102 : Go p e below (s₁.setTop (entryFrame m #[(.ref a1), (.ref a2), (.int nn)] 7)) (T94.setTop (mkF m 89 #[.val (.ref a1), .val (.ref a2), .val (.int nn), .val (.int nn), .val (.int (4 : Int32)), .val (.int (4 : Int32)), .val (.int d3)] [(.ref bT), (.ref a1)])) := fun t k => pre93 t (st94 t k)
  obtain ⟨T103, h103, X103, e103, W103, st103⟩ := putF X94 hx hZ hown (host := "") (Or.inl (hw _ (List.mem_of_getElem? (i := 13) rfl))) Via.refl e94 c97_94 c95_94 (Or.inr ⟨(hw _ (List.mem_of_getElem? (i := 14) rfl)), rfl, hnm⟩) (hw _ (List.mem_of_getElem? (i := 3) rfl)) (ty := (.array .int)) (by decide) rfl rfl (g := (mkF m 89 #[.val (.ref a1), .val (.ref a2), .val (.int nn), .val (.int nn), .val (.int (4 : Int32)), .val (.int (4 : Int32)), .val (.int d3)] [(.ref bT), (.ref a1)])) rfl rfl (hb hby d1_89)
  have Fw103 := c97_94.same W103
  have c104_103 := c95_94.wr W103
  have c105_103 := c96_94.other W103 (Or.inr (slot_ne (Or.inr (hw _ (List.mem_of_getElem? (i := 12) rfl))) (Or.inr (hw _ (List.mem_of_getElem? (i := 14) rfl))) (by decide) (t := (.array .int)) (t' := (.array .int)) (by decide) (by decide)))
  have c106_103 := c98_94.other W103 ne12
  have c107_103 := c99_94.other W103 (Ne.symm ne_a1_bS)
  have c108_103 := AV_bT.other W103 (Ne.symm ne_a1_bT)
  have zz109 := (Nat.le_trans zz100 (Keep.of_wr W103).1)
  have K110 := K101.wr W103 (Or.inl (List.mem_singleton.mpr rfl))
  have N103 := Fr.snoc X103 N84 g_a1
  have pre111 : Go p e below (s₁.setTop (entryFrame m #[(.ref a1), (.ref a2), (.int nn)] 7)) (T103.setTop (mkF m 92 #[.val (.ref a1), .val (.ref a2), .val (.int nn), .val (.int nn), .val (.int (4 : Int32)), .val (.int (4 : Int32)), .val (.int d3)] [])) := fun t k => pre102 t (st103 t k)
  have pre112 : Go p e below (s₁.setTop (entryFrame m #[(.ref a1), (.ref a2), (.int nn)] 7)) (T103.setTop (mkF m 93 #[.val (.ref a1), .val (.ref a2), .val (.int nn), .val (.int nn), .val (.int (4 : Int32)), .val (.int (4 : Int32)), .val (.int d3)] [(.int nn)])) := by
    intro t k
    refine pre111 t ?_
    show Steps p.tables e below (T103.setTop (mkF m 92 #[.val (.ref a1), .val (.ref a2), .val (.int nn), .val (.int nn), .val (.int (4 : Int32)), .val (.int (4 : Int32)), .val (.int d3)] [])) _
    refine XS.iloadN X103.here hx rfl (hb hby d1_92) rfl ?_
    show Steps p.tables e below (T103.setTop (mkF m 93 #[.val (.ref a1), .val (.ref a2), .val (.int nn), .val (.int nn), .val (.int (4 : Int32)), .val (.int (4 : Int32)), .val (.int d3)] [(.int nn)])) _
    exact k
  obtain ⟨T113, h113, k113, X113, e113, E113, A113, st113⟩ := newP X103 hx hZ (hw _ (List.mem_of_getElem? (i := 1) rfl)) e103 (g := (mkF m 93 #[.val (.ref a1), .val (.ref a2), .val (.int nn), .val (.int nn), .val (.int (4 : Int32)), .val (.int (4 : Int32)), .val (.int d3)] [(.int nn)])) rfl (hb hby d1_93) rfl hneg (cap := 8) hcap (by decide) (by decide) (by decide)
  obtain ⟨bN, g113⟩ : ∃ z, z = h103.size := ⟨_, rfl⟩
  rw [← g113] at A113 st113
  have c114_113 := c104_103.ext E113
  have c115_113 := c105_103.ext E113
  have c116_113 := Fw103.ext E113
  have c117_113 := c106_103.ext E113
  have c118_113 := c107_103.ext E113
  have c119_113 := c108_103.ext E113
  have zz120 := (Nat.le_trans zz109 E113.1)
  have K121 := K110.ext E113
  have AV_bN : Arf Z h113 bN k113 .int nn (own_st (own_nx [])) := (Arf.new A113 hneg).as (fun _ _ => rfl)
  have g_bN : n0 ≤ bN := Nat.le_trans zz109 (Nat.le_of_eq g113.symm)
  have sz_bN : h0.size ≤ bN := Nat.le_trans K110.1 (Nat.le_of_eq g113.symm)
  have ne_a1_bN : a1 ≠ bN := Nat.ne_of_lt (Nat.lt_of_lt_of_le c104_103.lt (Nat.le_of_eq g113.symm))
  have ne_a2_bN : a2 ≠ bN := Nat.ne_of_lt (Nat.lt_of_lt_of_le c106_103.lt (Nat.le_of_eq g113.symm))
  have ne_bS_bN : bS ≠ bN := Nat.ne_of_lt (Nat.lt_of_lt_of_le c107_103.lt (Nat.le_of_eq g113.symm))
  have ne_bT_bN : bT ≠ bN := Nat.ne_of_lt (Nat.lt_of_lt_of_le c108_103.lt (Nat.le_of_eq g113.symm))
  have pre122 : Go p e below (s₁.setTop (entryFrame m #[(.ref a1), (.ref a2), (.int nn)] 7)) (T113.setTop (mkF m 95 #[.val (.ref a1), .val (.ref a2), .val (.int nn), .val (.int nn), .val (.int (4 : Int32)), .val (.int (4 : Int32)), .val (.int d3)] [(.ref bN)])) := fun t k => pre112 t (st113 t k)
  obtain ⟨cl123, Ar123, -, SS123, NN123, -, -⟩ := (id c117_113)
  have pre124 : Go p e below (s₁.setTop (entryFrame m #[(.ref a1), (.ref a2), (.int nn)] 7)) (T113.setTop (mkF m 103 #[.val (.ref a1), .val (.ref a2), .val (.int nn), .val (.ref bN), .val (.int (0 : Int32)), .val (.int (4 : Int32)), .val (.int d3)] [(.int (4 : Int32)), (.int (0 : Int32))])) := by
    intro t k
    refine pre122 t ?_
    show Steps p.tables e below (T113.setTop (mkF m 95 #[.val (.ref a1), .val (.ref a2), .val (.int nn), .val (.int nn), .val (.int (4 : Int32)), .val (.int (4 : Int32)), .val (.int d3)] [(.ref bN)])) _
    refine XS.astoreN X113.here hx rfl (hb hby d1_95) rfl rfl (l' := #[.val (.ref a1), .val (.ref a2), .val (.int nn), .val (.ref bN), .val (.int (4 : Int32)), .val (.int (4 : Int32)), .val (.int d3)]) rfl ?_
    show Steps p.tables e below (T113.setTop (mkF m 96 #[.val (.ref a1), .val (.ref a2), .val (.int nn), .val (.ref bN), .val (.int (4 : Int32)), .val (.int (4 : Int32)), .val (.int d3)] [])) _
    refine XS.iconst X113.here hx rfl (hb hby d1_96) ?_
    show Steps p.tables e below (T113.setTop (mkF m 97 #[.val (.ref a1), .val (.ref a2), .val (.int nn), .val (.ref bN), .val (.int (4 : Int32)), .val (.int (4 : Int32)), .val (.int d3)] [(.int (0 : Int32))])) _
    refine XS.istore X113.here hx rfl (hb hby d1_97) rfl (l' := #[.val (.ref a1), .val (.ref a2), .val (.int nn), .val (.ref bN), .val (.int (0 : Int32)), .val (.int (4 : Int32)), .val (.int d3)]) rfl ?_
    show Steps p.tables e below (T113.setTop (mkF m 99 #[.val (.ref a1), .val (.ref a2), .val (.int nn), .val (.ref bN), .val (.int (0 : Int32)), .val (.int (4 : Int32)), .val (.int d3)] [])) _
    refine XS.iload X113.here hx rfl (hb hby d1_99) rfl ?_
    show Steps p.tables e below (T113.setTop (mkF m 101 #[.val (.ref a1), .val (.ref a2), .val (.int nn), .val (.ref bN), .val (.int (0 : Int32)), .val (.int (4 : Int32)), .val (.int d3)] [(.int (0 : Int32))])) _
    refine XS.aloadN X113.here hx rfl (hb hby d1_101) rfl rfl ?_
    show Steps p.tables e below (T113.setTop (mkF m 102 #[.val (.ref a1), .val (.ref a2), .val (.int nn), .val (.ref bN), .val (.int (0 : Int32)), .val (.int (4 : Int32)), .val (.int d3)] [(.ref a2), (.int (0 : Int32))])) _
    refine X113.arraylength hx (by rw [e113]; exact Ar123.1) (State.isArrayOf_alike hZ.alike Ar123.2.1) (g := (mkF m 102 #[.val (.ref a1), .val (.ref a2), .val (.int nn), .val (.ref bN), .val (.int (0 : Int32)), .val (.int (4 : Int32)), .val (.int d3)] [(.ref a2), (.int (0 : Int32))])) rfl rfl (hb hby d1_102) _ ?_
    rw [len_of SS123 NN123]
    show Steps p.tables e below (T113.setTop (mkF m 103 #[.val (.ref a1), .val (.ref a2), .val (.int nn), .val (.ref bN), .val (.int (0 : Int32)), .val (.int (4 : Int32)), .val (.int d3)] [(.int (4 : Int32)), (.int (0 : Int32))])) _
    exact k
  obtain ⟨cl125, Ar125, -, SS125, NN125, HH125, -⟩ := (id c117_113)
  have pre126 : Go p e below (s₁.setTop (entryFrame m #[(.ref a1), (.ref a2), (.int nn)] 7)) (T113.setTop (mkF m 113 #[.val (.ref a1), .val (.ref a2), .val (.int nn), .val (.ref bN), .val (.int (0 : Int32)), .val (.int d0), .val (.int d3)] [(.ref a1)])) := by
    intro t k
    refine pre124 t ?_
    show Steps p.tables e below (T113.setTop (mkF m 103 #[.val (.ref a1), .val (.ref a2), .val (.int nn), .val (.ref bN), .val (.int (0 : Int32)), .val (.int (4 : Int32)), .val (.int d3)] [(.int (4 : Int32)), (.int (0 : Int32))])) _
    refine XS.icmpNo X113.here hx rfl (hb hby d1_103) rfl (XT.ii_ge_f (by decide : (0 : Int32) < (4 : Int32))) ?_
    show Steps p.tables e below (T113.setTop (mkF m 106 #[.val (.ref a1), .val (.ref a2), .val (.int nn), .val (.ref bN), .val (.int (0 : Int32)), .val (.int (4 : Int32)), .val (.int d3)] [])) _
    refine XS.aloadN X113.here hx rfl (hb hby d1_106) rfl rfl ?_
    show Steps p.tables e below (T113.setTop (mkF m 107 #[.val (.ref a1), .val (.ref a2), .val (.int nn), .val (.ref bN), .val (.int (0 : Int32)), .val (.int (4 : Int32)), .val (.int d3)] [(.ref a2)])) _
    refine XS.iload X113.here hx rfl (hb hby d1_107) rfl ?_
    show Steps p.tables e below (T113.setTop (mkF m 109 #[.val (.ref a1), .val (.ref a2), .val (.int nn), .val (.ref bN), .val (.int (0 : Int32)), .val (.int (4 : Int32)), .val (.int d3)] [(.int (0 : Int32)), (.ref a2)])) _
    refine X113.iaload hx (j := (0 : Int32)) (v := (.int d0)) (by rw [e113]; exact Ar125.1) (State.isArrayOf_alike hZ.alike Ar125.2.1) Ar125.2.2 (inb_of SS125 ⟨by decide, by decide⟩) (HH125.at (inb_of SS125 ⟨by decide, by decide⟩) rfl) (g := (mkF m 109 #[.val (.ref a1), .val (.ref a2), .val (.int nn), .val (.ref bN), .val (.int (0 : Int32)), .val (.int (4 : Int32)), .val (.int d3)] [(.int (0 : Int32)), (.ref a2)])) rfl rfl (hb hby d1_109) _ ?_
    show Steps p.tables e below (T113.setTop (mkF m 110 #[.val (.ref a1), .val (.ref a2), .val (.int nn), .val (.ref bN), .val (.int (0 : Int32)), .val (.int (4 : Int32)), .val (.int d3)] [(.int d0)])) _
    refine XS.istore X113.here hx rfl (hb hby d1_110) rfl (l' := #[.val (.ref a1), .val (.ref a2), .val (.int nn), .val (.ref bN), .val (.int (0 : Int32)), .val (.int d0), .val (.int d3)]) rfl ?_
    show Steps p.tables e below (T113.setTop (mkF m 112 #[.val (.ref a1), .val (.ref a2), .val (.int nn), .val (.ref bN), .val (.int (0 : Int32)), .val (.int d0), .val (.int d3)] [])) _
    refine XS.aloadN X113.here hx rfl (hb hby d1_112) rfl rfl ?_
    show Steps p.tables e below (T113.setTop (mkF m 113 #[.val (.ref a1), .val (.ref a2), .val (.int nn), .val (.ref bN), .val (.int (0 : Int32)), .val (.int d0), .val (.int d3)] [(.ref a1)])) _
    exact k
  obtain ⟨T127, X127, e127, st127⟩ := getF X113 hx hZ hown (host := "") (Or.inl (hw _ (List.mem_of_getElem? (i := 13) rfl))) Via.refl e113 c116_113 (g := (mkF m 113 #[.val (.ref a1), .val (.ref a2), .val (.int nn), .val (.ref bN), .val (.int (0 : Int32)), .val (.int d0), .val (.int d3)] [(.ref a1)])) rfl rfl (hb hby d1_113)
  have pre128 : Go p e below (s₁.setTop (entryFrame m #[(.ref a1), (.ref a2), (.int nn)] 7)) (T127.setTop (mkF m 116 #[.val (.ref a1), .val (.ref a2), .val (.int nn), .val (.ref bN), .val (.int (0 : Int32)), .val (.int d0), .val (.int d3)] [(.ref bT)])) := fun t k => pre126 t (st127 t k)
  have pre129 : Go p e below (s₁.setTop (entryFrame m #[(.ref a1), (.ref a2), (.int nn)] 7)) (T127.setTop (mkF m 117 #[.val (.ref a1), .val (.ref a2), .val (.int nn), .val (.ref bN), .val (.int (0 : Int32)), .val (.int d0), .val (.int d3)] [(.ref a1), (.ref bT)])) := by
    intro t k
    refine pre128 t ?_
    show Steps p.tables e below (T127.setTop (mkF m 116 #[.val (.ref a1), .val (.ref a2), .val (.int nn), .val (.ref bN), .val (.int (0 : Int32)), .val (.int d0), .val (.int d3)] [(.ref bT)])) _
    refine XS.aloadN X127.here hx rfl (hb hby d1_116) rfl rfl ?_
    show Steps p.tables e below (T127.setTop (mkF m 117 #[.val (.ref a1), .val (.ref a2), .val (.int nn), .val (.ref bN), .val (.int (0 : Int32)), .val (.int d0), .val (.int d3)] [(.ref a1), (.ref bT)])) _
    exact k
  obtain ⟨T130, X130, e130, st130⟩ := getF X127 hx hZ hown (host := "") (Or.inl (hw _ (List.mem_of_getElem? (i := 11) rfl))) Via.refl e127 c115_113 (g := (mkF m 117 #[.val (.ref a1), .val (.ref a2), .val (.int nn), .val (.ref bN), .val (.int (0 : Int32)), .val (.int d0), .val (.int d3)] [(.ref a1), (.ref bT)])) rfl rfl (hb hby d1_117)
  have pre131 : Go p e below (s₁.setTop (entryFrame m #[(.ref a1), (.ref a2), (.int nn)] 7)) (T130.setTop (mkF m 120 #[.val (.ref a1), .val (.ref a2), .val (.int nn), .val (.ref bN), .val (.int (0 : Int32)), .val (.int d0), .val (.int d3)] [(.ref bS), (.ref bT)])) := fun t k => pre129 t (st130 t k)
  obtain ⟨cl132, Ar132, SS132, NN132, HH132⟩ := c118_113.cell
  have hj132 : ¬ d0 < 0 ∧ d0 < (nn + (1 : Int32)) := (own_i0 hb0 hn8)
  have hat132 : cl132.slots[(d0).toNatClampNeg]? = some (.int (Int32.ofNat (own_acc (own_cnt [d3, d2, d1, d0]) nn.toInt.toNat (d0).toNatClampNeg))) := (HH132 _ (own_lt hj132)).trans (congrArg some rfl)
  obtain ⟨cl133, Ar133, SS133, NN133, HH133⟩ := AV_bN.cell
  have hj133 : ¬ d0 < 0 ∧ d0 < nn := (own_in hb0)
  have hat133 : cl133.slots[(d0).toNatClampNeg]? = some (.int (Int32.ofNat (own_nx [] (d0).toNatClampNeg))) := (HH133 _ (own_lt hj133)).trans (congrArg some rfl)
  have pre134 : Go p e below (s₁.setTop (entryFrame m #[(.ref a1), (.ref a2), (.int nn)] 7)) (T130.setTop (mkF m 131 #[.val (.ref a1), .val (.ref a2), .val (.int nn), .val (.ref bN), .val (.int (0 : Int32)), .val (.int d0), .val (.int d3)] [(.int ((Int32.ofNat (own_nx [] (d0).toNatClampNeg)) + (1 : Int32))), (.int d0), (.ref bN), (.int (Int32.ofNat (own_nx [] (d0).toNatClampNeg))), (.int (Int32.ofNat (own_acc (own_cnt [d3, d2, d1, d0]) nn.toInt.toNat (d0).toNatClampNeg))), (.ref bT)])) := by
    intro t k
    refine pre131 t ?_
    show Steps p.tables e below (T130.setTop (mkF m 120 #[.val (.ref a1), .val (.ref a2), .val (.int nn), .val (.ref bN), .val (.int (0 : Int32)), .val (.int d0), .val (.int d3)] [(.ref bS), (.ref bT)])) _
    refine XS.iload X130.here hx rfl (hb hby d1_120) rfl ?_
    show Steps p.tables e below (T130.setTop (mkF m 122 #[.val (.ref a1), .val (.ref a2), .val (.int nn), .val (.ref bN), .val (.int (0 : Int32)), .val (.int d0), .val (.int d3)] [(.int d0), (.ref bS), (.ref bT)])) _
    refine X130.iaload hx (j := d0) (v := (.int (Int32.ofNat (own_acc (own_cnt [d3, d2, d1, d0]) nn.toInt.toNat (d0).toNatClampNeg)))) (by rw [e130]; exact Ar132.1) (State.isArrayOf_alike hZ.alike Ar132.2.1) Ar132.2.2 (inb_of SS132 hj132) hat132 (g := (mkF m 122 #[.val (.ref a1), .val (.ref a2), .val (.int nn), .val (.ref bN), .val (.int (0 : Int32)), .val (.int d0), .val (.int d3)] [(.int d0), (.ref bS), (.ref bT)])) rfl rfl (hb hby d1_122) _ ?_
    show Steps p.tables e below (T130.setTop (mkF m 123 #[.val (.ref a1), .val (.ref a2), .val (.int nn), .val (.ref bN), .val (.int (0 : Int32)), .val (.int d0), .val (.int d3)] [(.int (Int32.ofNat (own_acc (own_cnt [d3, d2, d1, d0]) nn.toInt.toNat (d0).toNatClampNeg))), (.ref bT)])) _
    refine XS.aloadN X130.here hx rfl (hb hby d1_123) rfl rfl ?_
    show Steps p.tables e below (T130.setTop (mkF m 124 #[.val (.ref a1), .val (.ref a2), .val (.int nn), .val (.ref bN), .val (.int (0 : Int32)), .val (.int d0), .val (.int d3)] [(.ref bN), (.int (Int32.ofNat (own_acc (own_cnt [d3, d2, d1, d0]) nn.toInt.toNat (d0).toNatClampNeg))), (.ref bT)])) _
    refine XS.iload X130.here hx rfl (hb hby d1_124) rfl ?_
    show Steps p.tables e below (T130.setTop (mkF m 126 #[.val (.ref a1), .val (.ref a2), .val (.int nn), .val (.ref bN), .val (.int (0 : Int32)), .val (.int d0), .val (.int d3)] [(.int d0), (.ref bN), (.int (Int32.ofNat (own_acc (own_cnt [d3, d2, d1, d0]) nn.toInt.toNat (d0).toNatClampNeg))), (.ref bT)])) _
    refine XT.dup2 X130.here hx rfl (hb hby d1_126) rfl rfl rfl ?_
    show Steps p.tables e below (T130.setTop (mkF m 127 #[.val (.ref a1), .val (.ref a2), .val (.int nn), .val (.ref bN), .val (.int (0 : Int32)), .val (.int d0), .val (.int d3)] [(.int d0), (.ref bN), (.int d0), (.ref bN), (.int (Int32.ofNat (own_acc (own_cnt [d3, d2, d1, d0]) nn.toInt.toNat (d0).toNatClampNeg))), (.ref bT)])) _
    refine X130.iaload hx (j := d0) (v := (.int (Int32.ofNat (own_nx [] (d0).toNatClampNeg)))) (by rw [e130]; exact Ar133.1) (State.isArrayOf_alike hZ.alike Ar133.2.1) Ar133.2.2 (inb_of SS133 hj133) hat133 (g := (mkF m 127 #[.val (.ref a1), .val (.ref a2), .val (.int nn), .val (.ref bN), .val (.int (0 : Int32)), .val (.int d0), .val (.int d3)] [(.int d0), (.ref bN), (.int d0), (.ref bN), (.int (Int32.ofNat (own_acc (own_cnt [d3, d2, d1, d0]) nn.toInt.toNat (d0).toNatClampNeg))), (.ref bT)])) rfl rfl (hb hby d1_127) _ ?_
    show Steps p.tables e below (T130.setTop (mkF m 128 #[.val (.ref a1), .val (.ref a2), .val (.int nn), .val (.ref bN), .val (.int (0 : Int32)), .val (.int d0), .val (.int d3)] [(.int (Int32.ofNat (own_nx [] (d0).toNatClampNeg))), (.int d0), (.ref bN), (.int (Int32.ofNat (own_acc (own_cnt [d3, d2, d1, d0]) nn.toInt.toNat (d0).toNatClampNeg))), (.ref bT)])) _
    jvm_step X130.here [X130.here.top, hx, (hb hby d1_128), Value.category]
    show Steps p.tables e below (T130.setTop (mkF m 129 #[.val (.ref a1), .val (.ref a2), .val (.int nn), .val (.ref bN), .val (.int (0 : Int32)), .val (.int d0), .val (.int d3)] [(.int (Int32.ofNat (own_nx [] (d0).toNatClampNeg))), (.int d0), (.ref bN), (.int (Int32.ofNat (own_nx [] (d0).toNatClampNeg))), (.int (Int32.ofNat (own_acc (own_cnt [d3, d2, d1, d0]) nn.toInt.toNat (d0).toNatClampNeg))), (.ref bT)])) _
    refine XS.iconst X130.here hx rfl (hb hby d1_129) ?_
    show Steps p.tables e below (T130.setTop (mkF m 130 #[.val (.ref a1), .val (.ref a2), .val (.int nn), .val (.ref bN), .val (.int (0 : Int32)), .val (.int d0), .val (.int d3)] [(.int (1 : Int32)), (.int (Int32.ofNat (own_nx [] (d0).toNatClampNeg))), (.int d0), (.ref bN), (.int (Int32.ofNat (own_nx [] (d0).toNatClampNeg))), (.int (Int32.ofNat (own_acc (own_cnt [d3, d2, d1, d0]) nn.toInt.toNat (d0).toNatClampNeg))), (.ref bT)])) _
    refine XS.iadd X130.here hx rfl (hb hby d1_130) rfl ?_
    show Steps p.tables e below (T130.setTop (mkF m 131 #[.val (.ref a1), .val (.ref a2), .val (.int nn), .val (.ref bN), .val (.int (0 : Int32)), .val (.int d0), .val (.int d3)] [(.int ((Int32.ofNat (own_nx [] (d0).toNatClampNeg)) + (1 : Int32))), (.int d0), (.ref bN), (.int (Int32.ofNat (own_nx [] (d0).toNatClampNeg))), (.int (Int32.ofNat (own_acc (own_cnt [d3, d2, d1, d0]) nn.toInt.toNat (d0).toNatClampNeg))), (.ref bT)])) _
    exact k
  obtain ⟨cl135, Ar135, SS135, NN135, -⟩ := AV_bN.cell
  have hj135 : ¬ d0 < 0 ∧ d0 < nn := (own_in hb0)
  obtain ⟨T135, h135, X135, e135, W135, st135⟩ := stI X130 hx hZ e130 Ar135 (j := d0) (inb_of SS135 hj135) (g := (mkF m 131 #[.val (.ref a1), .val (.ref a2), .val (.int nn), .val (.ref bN), .val (.int (0 : Int32)), .val (.int d0), .val (.int d3)] [(.int ((Int32.ofNat (own_nx [] (d0).toNatClampNeg)) + (1 : Int32))), (.int d0), (.ref bN), (.int (Int32.ofNat (own_nx [] (d0).toNatClampNeg))), (.int (Int32.ofNat (own_acc (own_cnt [d3, d2, d1, d0]) nn.toInt.toNat (d0).toNatClampNeg))), (.ref bT)])) rfl rfl (hb hby d1_131)
  have AV135 : Arf Z h135 bN k113 .int nn (own_st (own_nx [d0])) := (AV_bN.set rfl W135 hj135).as (fun i _ => own_incN [] d0 i)
  have c136_135 := c114_113.wr W135
  have c137_135 := c115_113.other W135 (Or.inl ne_a1_bN)
  have c138_135 := c116_113.other W135 (Or.inl ne_a1_bN)
  have c139_135 := c117_113.other W135 ne_a2_bN
  have c140_135 := c118_113.other W135 ne_bS_bN
  have c141_135 := c119_113.other W135 ne_bT_bN
  have zz142 := (Nat.le_trans zz120 (Keep.of_wr W135).1)
  have K143 := K121.wr W135 (Or.inr sz_bN)
  have N135 := Fr.snoc X135 N103 g_bN
  have pre144 : Go p e below (s₁.setTop (entryFrame m #[(.ref a1), (.ref a2), (.int nn)] 7)) (T135.setTop (mkF m 132 #[.val (.ref a1), .val (.ref a2), .val (.int nn), .val (.ref bN), .val (.int (0 : Int32)), .val (.int d0), .val (.int d3)] [(.int (Int32.ofNat (own_nx [] (d0).toNatClampNeg))), (.int (Int32.ofNat (own_acc (own_cnt [d3, d2, d1, d0]) nn.toInt.toNat (d0).toNatClampNeg))), (.ref bT)])) := fun t k => pre134 t (st135 t k)
  have pre145 : Go p e below (s₁.setTop (entryFrame m #[(.ref a1), (.ref a2), (.int nn)] 7)) (T135.setTop (mkF m 135 #[.val (.ref a1), .val (.ref a2), .val (.int nn), .val (.ref bN), .val (.int (0 : Int32)), .val (.int d0), .val (.int d3)] [(.int (0 : Int32)), (.int ((Int32.ofNat (own_acc (own_cnt [d3, d2, d1, d0]) nn.toInt.toNat (d0).toNatClampNeg)) + (Int32.ofNat (own_nx [] (d0).toNatClampNeg)))), (.ref bT)])) := by
    intro t k
    refine pre144 t ?_
    show Steps p.tables e below (T135.setTop (mkF m 132 #[.val (.ref a1), .val (.ref a2), .val (.int nn), .val (.ref bN), .val (.int (0 : Int32)), .val (.int d0), .val (.int d3)] [(.int (Int32.ofNat (own_nx [] (d0).toNatClampNeg))), (.int (Int32.ofNat (own_acc (own_cnt [d3, d2, d1, d0]) nn.toInt.toNat (d0).toNatClampNeg))), (.ref bT)])) _
    refine XS.iadd X135.here hx rfl (hb hby d1_132) rfl ?_
    show Steps p.tables e below (T135.setTop (mkF m 133 #[.val (.ref a1), .val (.ref a2), .val (.int nn), .val (.ref bN), .val (.int (0 : Int32)), .val (.int d0), .val (.int d3)] [(.int ((Int32.ofNat (own_acc (own_cnt [d3, d2, d1, d0]) nn.toInt.toNat (d0).toNatClampNeg)) + (Int32.ofNat (own_nx [] (d0).toNatClampNeg)))), (.ref bT)])) _
    refine XS.iload X135.here hx rfl (hb hby d1_133) rfl ?_
    show Steps p.tables e below (T135.setTop (mkF m 135 #[.val (.ref a1), .val (.ref a2), .val (.int nn), .val (.ref bN), .val (.int (0 : Int32)), .val (.int d0), .val (.int d3)] [(.int (0 : Int32)), (.int ((Int32.ofNat (own_acc (own_cnt [d3, d2, d1, d0]) nn.toInt.toNat (d0).toNatClampNeg)) + (Int32.ofNat (own_nx [] (d0).toNatClampNeg)))), (.ref bT)])) _
    exact k
  obtain ⟨cl146, Ar146, SS146, NN146, -⟩ := c141_135.cell
  have hj146 : ¬ ((Int32.ofNat (own_acc (own_cnt [d3, d2, d1, d0]) nn.toInt.toNat (d0).toNatClampNeg)) + (Int32.ofNat (own_nx [] (d0).toNatClampNeg))) < 0 ∧ ((Int32.ofNat (own_acc (own_cnt [d3, d2, d1, d0]) nn.toInt.toNat (d0).toNatClampNeg)) + (Int32.ofNat (own_nx [] (d0).toNatClampNeg))) < (4 : Int32) := own_small (hidx0)
  obtain ⟨T146, h146, X146, e146, W146, st146⟩ := stI X135 hx hZ e135 Ar146 (j := ((Int32.ofNat (own_acc (own_cnt [d3, d2, d1, d0]) nn.toInt.toNat (d0).toNatClampNeg)) + (Int32.ofNat (own_nx [] (d0).toNatClampNeg)))) (inb_of SS146 hj146) (g := (mkF m 135 #[.val (.ref a1), .val (.ref a2), .val (.int nn), .val (.ref bN), .val (.int (0 : Int32)), .val (.int d0), .val (.int d3)] [(.int (0 : Int32)), (.int ((Int32.ofNat (own_acc (own_cnt [d3, d2, d1, d0]) nn.toInt.toNat (d0).toNatClampNeg)) + (Int32.ofNat (own_nx [] (d0).toNatClampNeg)))), (.ref bT)])) rfl rfl (hb hby d1_135)
  obtain ⟨fn146, AV146⟩ : ∃ f, Arf Z h146 bT k94 .int (4 : Int32) f := ⟨_, c141_135.set rfl W146 hj146⟩
  have c147_146 := c136_135.wr W146
  have c148_146 := c137_135.other W146 (Or.inl ne_a1_bT)
  have c149_146 := c138_135.other W146 (Or.inl ne_a1_bT)
  have c150_146 := c139_135.other W146 ne_a2_bT
  have c151_146 := c140_135.other W146 ne_bS_bT
  have c152_146 := AV135.other W146 (Ne.symm ne_bT_bN)
  have zz153 := (Nat.le_trans zz142 (Keep.of_wr W146).1)
  have K154 := K143.wr W146 (Or.inr sz_bT)
  have N146 := Fr.snoc X146 N135 g_bT
  have pre155 : Go p e below (s₁.setTop (entryFrame m #[(.ref a1), (.ref a2), (.int nn)] 7)) (T146.setTop (mkF m 136 #[.val (.ref a1), .val (.ref a2), .val (.int nn), .val (.ref bN), .val (.int (0 : Int32)), .val (.int d0), .val (.int d3)] [])) := fun t k => pre145 t (st146 t k)
  obtain ⟨cl156, Ar156, -, SS156, NN156, -, -⟩ := (id c150_146)
  have pre157 : Go p e below (s₁.setTop (entryFrame m #[(.ref a1), (.ref a2), (.int nn)] 7)) (T146.setTop (mkF m 103 #[.val (.ref a1), .val (.ref a2), .val (.int nn), .val (.ref bN), .val (.int (1 : Int32)), .val (.int d0), .val (.int d3)] [(.int (4 : Int32)), (.int (1 : Int32))])) := by
    intro t k
    refine pre155 t ?_
    show Steps p.tables e below (T146.setTop (mkF m 136 #[.val (.ref a1), .val (.ref a2), .val (.int nn), .val (.ref bN), .val (.int (0 : Int32)), .val (.int d0), .val (.int d3)] [])) _
    refine XS.iinc X146.here hx rfl (hb hby d1_136) rfl (l' := #[.val (.ref a1), .val (.ref a2), .val (.int nn), .val (.ref bN), .val (.int (1 : Int32)), .val (.int d0), .val (.int d3)]) rfl ?_
    show Steps p.tables e below (T146.setTop (mkF m 139 #[.val (.ref a1), .val (.ref a2), .val (.int nn), .val (.ref bN), .val (.int (1 : Int32)), .val (.int d0), .val (.int d3)] [])) _
    refine XS.goto X146.here hx rfl (pc0 := 139) (pc' := 99) rfl (hb hby d1_139) (by decide) (by decide) ?_
    show Steps p.tables e below (T146.setTop (mkF m 99 #[.val (.ref a1), .val (.ref a2), .val (.int nn), .val (.ref bN), .val (.int (1 : Int32)), .val (.int d0), .val (.int d3)] [])) _
    refine XS.iload X146.here hx rfl (hb hby d1_99) rfl ?_
    show Steps p.tables e below (T146.setTop (mkF m 101 #[.val (.ref a1), .val (.ref a2), .val (.int nn), .val (.ref bN), .val (.int (1 : Int32)), .val (.int d0), .val (.int d3)] [(.int (1 : Int32))])) _
    refine XS.aloadN X146.here hx rfl (hb hby d1_101) rfl rfl ?_
    show Steps p.tables e below (T146.setTop (mkF m 102 #[.val (.ref a1), .val (.ref a2), .val (.int nn), .val (.ref bN), .val (.int (1 : Int32)), .val (.int d0), .val (.int d3)] [(.ref a2), (.int (1 : Int32))])) _
    refine X146.arraylength hx (by rw [e146]; exact Ar156.1) (State.isArrayOf_alike hZ.alike Ar156.2.1) (g := (mkF m 102 #[.val (.ref a1), .val (.ref a2), .val (.int nn), .val (.ref bN), .val (.int (1 : Int32)), .val (.int d0), .val (.int d3)] [(.ref a2), (.int (1 : Int32))])) rfl rfl (hb hby d1_102) _ ?_
    rw [len_of SS156 NN156]
    show Steps p.tables e below (T146.setTop (mkF m 103 #[.val (.ref a1), .val (.ref a2), .val (.int nn), .val (.ref bN), .val (.int (1 : Int32)), .val (.int d0), .val (.int d3)] [(.int (4 : Int32)), (.int (1 : Int32))])) _
    exact k
  obtain ⟨cl158, Ar158, -, SS158, NN158, HH158, -⟩ := (id c150_146)
  have pre159 : Go p e below (s₁.setTop (entryFrame m #[(.ref a1), (.ref a2), (.int nn)] 7)) (T146.setTop (mkF m 113 #[.val (.ref a1), .val (.ref a2), .val (.int nn), .val (.ref bN), .val (.int (1 : Int32)), .val (.int d1), .val (.int d3)] [(.ref a1)])) := by
    intro t k
    refine pre157 t ?_
    show Steps p.tables e below (T146.setTop (mkF m 103 #[.val (.ref a1), .val (.ref a2), .val (.int nn), .val (.ref bN), .val (.int (1 : Int32)), .val (.int d0), .val (.int d3)] [(.int (4 : Int32)), (.int (1 : Int32))])) _
    refine XS.icmpNo X146.here hx rfl (hb hby d1_103) rfl (XT.ii_ge_f (by decide : (1 : Int32) < (4 : Int32))) ?_
    show Steps p.tables e below (T146.setTop (mkF m 106 #[.val (.ref a1), .val (.ref a2), .val (.int nn), .val (.ref bN), .val (.int (1 : Int32)), .val (.int d0), .val (.int d3)] [])) _
    refine XS.aloadN X146.here hx rfl (hb hby d1_106) rfl rfl ?_
    show Steps p.tables e below (T146.setTop (mkF m 107 #[.val (.ref a1), .val (.ref a2), .val (.int nn), .val (.ref bN), .val (.int (1 : Int32)), .val (.int d0), .val (.int d3)] [(.ref a2)])) _
    refine XS.iload X146.here hx rfl (hb hby d1_107) rfl ?_
    show Steps p.tables e below (T146.setTop (mkF m 109 #[.val (.ref a1), .val (.ref a2), .val (.int nn), .val (.ref bN), .val (.int (1 : Int32)), .val (.int d0), .val (.int d3)] [(.int (1 : Int32)), (.ref a2)])) _
    refine X146.iaload hx (j := (1 : Int32)) (v := (.int d1)) (by rw [e146]; exact Ar158.1) (State.isArrayOf_alike hZ.alike Ar158.2.1) Ar158.2.2 (inb_of SS158 ⟨by decide, by decide⟩) (HH158.at (inb_of SS158 ⟨by decide, by decide⟩) rfl) (g := (mkF m 109 #[.val (.ref a1), .val (.ref a2), .val (.int nn), .val (.ref bN), .val (.int (1 : Int32)), .val (.int d0), .val (.int d3)] [(.int (1 : Int32)), (.ref a2)])) rfl rfl (hb hby d1_109) _ ?_
    show Steps p.tables e below (T146.setTop (mkF m 110 #[.val (.ref a1), .val (.ref a2), .val (.int nn), .val (.ref bN), .val (.int (1 : Int32)), .val (.int d0), .val (.int d3)] [(.int d1)])) _
    refine XS.istore X146.here hx rfl (hb hby d1_110) rfl (l' := #[.val (.ref a1), .val (.ref a2), .val (.int nn), .val (.ref bN), .val (.int (1 : Int32)), .val (.int d1), .val (.int d3)]) rfl ?_
    show Steps p.tables e below (T146.setTop (mkF m 112 #[.val (.ref a1), .val (.ref a2), .val (.int nn), .val (.ref bN), .val (.int (1 : Int32)), .val (.int d1), .val (.int d3)] [])) _
    refine XS.aloadN X146.here hx rfl (hb hby d1_112) rfl rfl ?_
    show Steps p.tables e below (T146.setTop (mkF m 113 #[.val (.ref a1), .val (.ref a2), .val (.int nn), .val (.ref bN), .val (.int (1 : Int32)), .val (.int d1), .val (.int d3)] [(.ref a1)])) _
    exact k
  obtain ⟨T160, X160, e160, st160⟩ := getF X146 hx hZ hown (host := "") (Or.inl (hw _ (List.mem_of_getElem? (i := 13) rfl))) Via.refl e146 c149_146 (g := (mkF m 113 #[.val (.ref a1), .val (.ref a2), .val (.int nn), .val (.ref bN), .val (.int (1 : Int32)), .val (.int d1), .val (.int d3)] [(.ref a1)])) rfl rfl (hb hby d1_113)
  have pre161 : Go p e below (s₁.setTop (entryFrame m #[(.ref a1), (.ref a2), (.int nn)] 7)) (T160.setTop (mkF m 116 #[.val (.ref a1), .val (.ref a2), .val (.int nn), .val (.ref bN), .val (.int (1 : Int32)), .val (.int d1), .val (.int d3)] [(.ref bT)])) := fun t k => pre159 t (st160 t k)
  have pre162 : Go p e below (s₁.setTop (entryFrame m #[(.ref a1), (.ref a2), (.int nn)] 7)) (T160.setTop (mkF m 117 #[.val (.ref a1), .val (.ref a2), .val (.int nn), .val (.ref bN), .val (.int (1 : Int32)), .val (.int d1), .val (.int d3)] [(.ref a1), (.ref bT)])) := by
    intro t k
    refine pre161 t ?_
    show Steps p.tables e below (T160.setTop (mkF m 116 #[.val (.ref a1), .val (.ref a2), .val (.int nn), .val (.ref bN), .val (.int (1 : Int32)), .val (.int d1), .val (.int d3)] [(.ref bT)])) _
    refine XS.aloadN X160.here hx rfl (hb hby d1_116) rfl rfl ?_
    show Steps p.tables e below (T160.setTop (mkF m 117 #[.val (.ref a1), .val (.ref a2), .val (.int nn), .val (.ref bN), .val (.int (1 : Int32)), .val (.int d1), .val (.int d3)] [(.ref a1), (.ref bT)])) _
    exact k
  obtain ⟨T163, X163, e163, st163⟩ := getF X160 hx hZ hown (host := "") (Or.inl (hw _ (List.mem_of_getElem? (i := 11) rfl))) Via.refl e160 c148_146 (g := (mkF m 117 #[.val (.ref a1), .val (.ref a2), .val (.int nn), .val (.ref bN), .val (.int (1 : Int32)), .val (.int d1), .val (.int d3)] [(.ref a1), (.ref bT)])) rfl rfl (hb hby d1_117)
  have pre164 : Go p e below (s₁.setTop (entryFrame m #[(.ref a1), (.ref a2), (.int nn)] 7)) (T163.setTop (mkF m 120 #[.val (.ref a1), .val (.ref a2), .val (.int nn), .val (.ref bN), .val (.int (1 : Int32)), .val (.int d1), .val (.int d3)] [(.ref bS), (.ref bT)])) := fun t k => pre162 t (st163 t k)
  obtain ⟨cl165, Ar165, SS165, NN165, HH165⟩ := c151_146.cell
  have hj165 : ¬ d1 < 0 ∧ d1 < (nn + (1 : Int32)) := (own_i0 hb1 hn8)
  have hat165 : cl165.slots[(d1).toNatClampNeg]? = some (.int (Int32.ofNat (own_acc (own_cnt [d3, d2, d1, d0]) nn.toInt.toNat (d1).toNatClampNeg))) := (HH165 _ (own_lt hj165)).trans (congrArg some rfl)
  obtain ⟨cl166, Ar166, SS166, NN166, HH166⟩ := c152_146.cell
  have hj166 : ¬ d1 < 0 ∧ d1 < nn := (own_in hb1)
  have hat166 : cl166.slots[(d1).toNatClampNeg]? = some (.int (Int32.ofNat (own_nx [d0] (d1).toNatClampNeg))) := (HH166 _ (own_lt hj166)).trans (congrArg some rfl)
  have pre167 : Go p e below (s₁.setTop (entryFrame m #[(.ref a1), (.ref a2), (.int nn)] 7)) (T163.setTop (mkF m 131 #[.val (.ref a1), .val (.ref a2), .val (.int nn), .val (.ref bN), .val (.int (1 : Int32)), .val (.int d1), .val (.int d3)] [(.int ((Int32.ofNat (own_nx [d0] (d1).toNatClampNeg)) + (1 : Int32))), (.int d1), (.ref bN), (.int (Int32.ofNat (own_nx [d0] (d1).toNatClampNeg))), (.int (Int32.ofNat (own_acc (own_cnt [d3, d2, d1, d0]) nn.toInt.toNat (d1).toNatClampNeg))), (.ref bT)])) := by
    intro t k
    refine pre164 t ?_
    show Steps p.tables e below (T163.setTop (mkF m 120 #[.val (.ref a1), .val (.ref a2), .val (.int nn), .val (.ref bN), .val (.int (1 : Int32)), .val (.int d1), .val (.int d3)] [(.ref bS), (.ref bT)])) _
    refine XS.iload X163.here hx rfl (hb hby d1_120) rfl ?_
    show Steps p.tables e below (T163.setTop (mkF m 122 #[.val (.ref a1), .val (.ref a2), .val (.int nn), .val (.ref bN), .val (.int (1 : Int32)), .val (.int d1), .val (.int d3)] [(.int d1), (.ref bS), (.ref bT)])) _
    refine X163.iaload hx (j := d1) (v := (.int (Int32.ofNat (own_acc (own_cnt [d3, d2, d1, d0]) nn.toInt.toNat (d1).toNatClampNeg)))) (by rw [e163]; exact Ar165.1) (State.isArrayOf_alike hZ.alike Ar165.2.1) Ar165.2.2 (inb_of SS165 hj165) hat165 (g := (mkF m 122 #[.val (.ref a1), .val (.ref a2), .val (.int nn), .val (.ref bN), .val (.int (1 : Int32)), .val (.int d1), .val (.int d3)] [(.int d1), (.ref bS), (.ref bT)])) rfl rfl (hb hby d1_122) _ ?_
    show Steps p.tables e below (T163.setTop (mkF m 123 #[.val (.ref a1), .val (.ref a2), .val (.int nn), .val (.ref bN), .val (.int (1 : Int32)), .val (.int d1), .val (.int d3)] [(.int (Int32.ofNat (own_acc (own_cnt [d3, d2, d1, d0]) nn.toInt.toNat (d1).toNatClampNeg))), (.ref bT)])) _
    refine XS.aloadN X163.here hx rfl (hb hby d1_123) rfl rfl ?_
    show Steps p.tables e below (T163.setTop (mkF m 124 #[.val (.ref a1), .val (.ref a2), .val (.int nn), .val (.ref bN), .val (.int (1 : Int32)), .val (.int d1), .val (.int d3)] [(.ref bN), (.int (Int32.ofNat (own_acc (own_cnt [d3, d2, d1, d0]) nn.toInt.toNat (d1).toNatClampNeg))), (.ref bT)])) _
    refine XS.iload X163.here hx rfl (hb hby d1_124) rfl ?_
    show Steps p.tables e below (T163.setTop (mkF m 126 #[.val (.ref a1), .val (.ref a2), .val (.int nn), .val (.ref bN), .val (.int (1 : Int32)), .val (.int d1), .val (.int d3)] [(.int d1), (.ref bN), (.int (Int32.ofNat (own_acc (own_cnt [d3, d2, d1, d0]) nn.toInt.toNat (d1).toNatClampNeg))), (.ref bT)])) _
    refine XT.dup2 X163.here hx rfl (hb hby d1_126) rfl rfl rfl ?_
    show Steps p.tables e below (T163.setTop (mkF m 127 #[.val (.ref a1), .val (.ref a2), .val (.int nn), .val (.ref bN), .val (.int (1 : Int32)), .val (.int d1), .val (.int d3)] [(.int d1), (.ref bN), (.int d1), (.ref bN), (.int (Int32.ofNat (own_acc (own_cnt [d3, d2, d1, d0]) nn.toInt.toNat (d1).toNatClampNeg))), (.ref bT)])) _
    refine X163.iaload hx (j := d1) (v := (.int (Int32.ofNat (own_nx [d0] (d1).toNatClampNeg)))) (by rw [e163]; exact Ar166.1) (State.isArrayOf_alike hZ.alike Ar166.2.1) Ar166.2.2 (inb_of SS166 hj166) hat166 (g := (mkF m 127 #[.val (.ref a1), .val (.ref a2), .val (.int nn), .val (.ref bN), .val (.int (1 : Int32)), .val (.int d1), .val (.int d3)] [(.int d1), (.ref bN), (.int d1), (.ref bN), (.int (Int32.ofNat (own_acc (own_cnt [d3, d2, d1, d0]) nn.toInt.toNat (d1).toNatClampNeg))), (.ref bT)])) rfl rfl (hb hby d1_127) _ ?_
    show Steps p.tables e below (T163.setTop (mkF m 128 #[.val (.ref a1), .val (.ref a2), .val (.int nn), .val (.ref bN), .val (.int (1 : Int32)), .val (.int d1), .val (.int d3)] [(.int (Int32.ofNat (own_nx [d0] (d1).toNatClampNeg))), (.int d1), (.ref bN), (.int (Int32.ofNat (own_acc (own_cnt [d3, d2, d1, d0]) nn.toInt.toNat (d1).toNatClampNeg))), (.ref bT)])) _
    jvm_step X163.here [X163.here.top, hx, (hb hby d1_128), Value.category]
    show Steps p.tables e below (T163.setTop (mkF m 129 #[.val (.ref a1), .val (.ref a2), .val (.int nn), .val (.ref bN), .val (.int (1 : Int32)), .val (.int d1), .val (.int d3)] [(.int (Int32.ofNat (own_nx [d0] (d1).toNatClampNeg))), (.int d1), (.ref bN), (.int (Int32.ofNat (own_nx [d0] (d1).toNatClampNeg))), (.int (Int32.ofNat (own_acc (own_cnt [d3, d2, d1, d0]) nn.toInt.toNat (d1).toNatClampNeg))), (.ref bT)])) _
    refine XS.iconst X163.here hx rfl (hb hby d1_129) ?_
    show Steps p.tables e below (T163.setTop (mkF m 130 #[.val (.ref a1), .val (.ref a2), .val (.int nn), .val (.ref bN), .val (.int (1 : Int32)), .val (.int d1), .val (.int d3)] [(.int (1 : Int32)), (.int (Int32.ofNat (own_nx [d0] (d1).toNatClampNeg))), (.int d1), (.ref bN), (.int (Int32.ofNat (own_nx [d0] (d1).toNatClampNeg))), (.int (Int32.ofNat (own_acc (own_cnt [d3, d2, d1, d0]) nn.toInt.toNat (d1).toNatClampNeg))), (.ref bT)])) _
    refine XS.iadd X163.here hx rfl (hb hby d1_130) rfl ?_
    show Steps p.tables e below (T163.setTop (mkF m 131 #[.val (.ref a1), .val (.ref a2), .val (.int nn), .val (.ref bN), .val (.int (1 : Int32)), .val (.int d1), .val (.int d3)] [(.int ((Int32.ofNat (own_nx [d0] (d1).toNatClampNeg)) + (1 : Int32))), (.int d1), (.ref bN), (.int (Int32.ofNat (own_nx [d0] (d1).toNatClampNeg))), (.int (Int32.ofNat (own_acc (own_cnt [d3, d2, d1, d0]) nn.toInt.toNat (d1).toNatClampNeg))), (.ref bT)])) _
    exact k
  obtain ⟨cl168, Ar168, SS168, NN168, -⟩ := c152_146.cell
  have hj168 : ¬ d1 < 0 ∧ d1 < nn := (own_in hb1)
  obtain ⟨T168, h168, X168, e168, W168, st168⟩ := stI X163 hx hZ e163 Ar168 (j := d1) (inb_of SS168 hj168) (g := (mkF m 131 #[.val (.ref a1), .val (.ref a2), .val (.int nn), .val (.ref bN), .val (.int (1 : Int32)), .val (.int d1), .val (.int d3)] [(.int ((Int32.ofNat (own_nx [d0] (d1).toNatClampNeg)) + (1 : Int32))), (.int d1), (.ref bN), (.int (Int32.ofNat (own_nx [d0] (d1).toNatClampNeg))), (.int (Int32.ofNat (own_acc (own_cnt [d3, d2, d1, d0]) nn.toInt.toNat (d1).toNatClampNeg))), (.ref bT)])) rfl rfl (hb hby d1_131)
  have AV168 : Arf Z h168 bN k113 .int nn (own_st (own_nx [d1, d0])) := (c152_146.set rfl W168 hj168).as (fun i _ => own_incN [d0] d1 i)
  have c169_168 := c147_146.wr W168
  have c170_168 := c148_146.other W168 (Or.inl ne_a1_bN)
  have c171_168 := c149_146.other W168 (Or.inl ne_a1_bN)
  have c172_168 := c150_146.other W168 ne_a2_bN
  have c173_168 := c151_146.other W168 ne_bS_bN
  have c174_168 := AV146.other W168 ne_bT_bN
  have zz175 := (Nat.le_trans zz153 (Keep.of_wr W168).1)
  have K176 := K154.wr W168 (Or.inr sz_bN)
  have N168 := Fr.snoc X168 N146 g_bN
  have pre177 : Go p e below (s₁.setTop (entryFrame m #[(.ref a1), (.ref a2), (.int nn)] 7)) (T168.setTop (mkF m 132 #[.val (.ref a1), .val (.ref a2), .val (.int nn), .val (.ref bN), .val (.int (1 : Int32)), .val (.int d1), .val (.int d3)] [(.int (Int32.ofNat (own_nx [d0] (d1).toNatClampNeg))), (.int (Int32.ofNat (own_acc (own_cnt [d3, d2, d1, d0]) nn.toInt.toNat (d1).toNatClampNeg))), (.ref bT)])) := fun t k => pre167 t (st168 t k)
  have pre178 : Go p e below (s₁.setTop (entryFrame m #[(.ref a1), (.ref a2), (.int nn)] 7)) (T168.setTop (mkF m 135 #[.val (.ref a1), .val (.ref a2), .val (.int nn), .val (.ref bN), .val (.int (1 : Int32)), .val (.int d1), .val (.int d3)] [(.int (1 : Int32)), (.int ((Int32.ofNat (own_acc (own_cnt [d3, d2, d1, d0]) nn.toInt.toNat (d1).toNatClampNeg)) + (Int32.ofNat (own_nx [d0] (d1).toNatClampNeg)))), (.ref bT)])) := by
    intro t k
    refine pre177 t ?_
    show Steps p.tables e below (T168.setTop (mkF m 132 #[.val (.ref a1), .val (.ref a2), .val (.int nn), .val (.ref bN), .val (.int (1 : Int32)), .val (.int d1), .val (.int d3)] [(.int (Int32.ofNat (own_nx [d0] (d1).toNatClampNeg))), (.int (Int32.ofNat (own_acc (own_cnt [d3, d2, d1, d0]) nn.toInt.toNat (d1).toNatClampNeg))), (.ref bT)])) _
    refine XS.iadd X168.here hx rfl (hb hby d1_132) rfl ?_
    show Steps p.tables e below (T168.setTop (mkF m 133 #[.val (.ref a1), .val (.ref a2), .val (.int nn), .val (.ref bN), .val (.int (1 : Int32)), .val (.int d1), .val (.int d3)] [(.int ((Int32.ofNat (own_acc (own_cnt [d3, d2, d1, d0]) nn.toInt.toNat (d1).toNatClampNeg)) + (Int32.ofNat (own_nx [d0] (d1).toNatClampNeg)))), (.ref bT)])) _
    refine XS.iload X168.here hx rfl (hb hby d1_133) rfl ?_
    show Steps p.tables e below (T168.setTop (mkF m 135 #[.val (.ref a1), .val (.ref a2), .val (.int nn), .val (.ref bN), .val (.int (1 : Int32)), .val (.int d1), .val (.int d3)] [(.int (1 : Int32)), (.int ((Int32.ofNat (own_acc (own_cnt [d3, d2, d1, d0]) nn.toInt.toNat (d1).toNatClampNeg)) + (Int32.ofNat (own_nx [d0] (d1).toNatClampNeg)))), (.ref bT)])) _
    exact k
  obtain ⟨cl179, Ar179, SS179, NN179, -⟩ := c174_168.cell
  have hj179 : ¬ ((Int32.ofNat (own_acc (own_cnt [d3, d2, d1, d0]) nn.toInt.toNat (d1).toNatClampNeg)) + (Int32.ofNat (own_nx [d0] (d1).toNatClampNeg))) < 0 ∧ ((Int32.ofNat (own_acc (own_cnt [d3, d2, d1, d0]) nn.toInt.toNat (d1).toNatClampNeg)) + (Int32.ofNat (own_nx [d0] (d1).toNatClampNeg))) < (4 : Int32) := own_small (hidx1)
  obtain ⟨T179, h179, X179, e179, W179, st179⟩ := stI X168 hx hZ e168 Ar179 (j := ((Int32.ofNat (own_acc (own_cnt [d3, d2, d1, d0]) nn.toInt.toNat (d1).toNatClampNeg)) + (Int32.ofNat (own_nx [d0] (d1).toNatClampNeg)))) (inb_of SS179 hj179) (g := (mkF m 135 #[.val (.ref a1), .val (.ref a2), .val (.int nn), .val (.ref bN), .val (.int (1 : Int32)), .val (.int d1), .val (.int d3)] [(.int (1 : Int32)), (.int ((Int32.ofNat (own_acc (own_cnt [d3, d2, d1, d0]) nn.toInt.toNat (d1).toNatClampNeg)) + (Int32.ofNat (own_nx [d0] (d1).toNatClampNeg)))), (.ref bT)])) rfl rfl (hb hby d1_135)
  obtain ⟨fn179, AV179⟩ : ∃ f, Arf Z h179 bT k94 .int (4 : Int32) f := ⟨_, c174_168.set rfl W179 hj179⟩
  have c180_179 := c169_168.wr W179
  have c181_179 := c170_168.other W179 (Or.inl ne_a1_bT)
  have c182_179 := c171_168.other W179 (Or.inl ne_a1_bT)
  have c183_179 := c172_168.other W179 ne_a2_bT
  have c184_179 := c173_168.other W179 ne_bS_bT
  have c185_179 := AV168.other W179 (Ne.symm ne_bT_bN)
  have zz186 := (Nat.le_trans zz175 (Keep.of_wr W179).1)
  have K187 := K176.wr W179 (Or.inr sz_bT)
  have N179 := Fr.snoc X179 N168 g_bT
  have pre188 : Go p e below (s₁.setTop (entryFrame m #[(.ref a1), (.ref a2), (.int nn)] 7)) (T179.setTop (mkF m 136 #[.val (.ref a1), .val (.ref a2), .val (.int nn), .val (.ref bN), .val (.int (1 : Int32)), .val (.int d1), .val (.int d3)] [])) := fun t k => pre178 t (st179 t k)
  obtain ⟨cl189, Ar189, -, SS189, NN189, -, -⟩ := (id c183_179)
  have pre190 : Go p e below (s₁.setTop (entryFrame m #[(.ref a1), (.ref a2), (.int nn)] 7)) (T179.setTop (mkF m 103 #[.val (.ref a1), .val (.ref a2), .val (.int nn), .val (.ref bN), .val (.int (2 : Int32)), .val (.int d1), .val (.int d3)] [(.int (4 : Int32)), (.int (2 : Int32))])) := by
    intro t k
    refine pre188 t ?_
    show Steps p.tables e below (T179.setTop (mkF m 136 #[.val (.ref a1), .val (.ref a2), .val (.int nn), .val (.ref bN), .val (.int (1 : Int32)), .val (.int d1), .val (.int d3)] [])) _
    refine XS.iinc X179.here hx rfl (hb hby d1_136) rfl (l' := #[.val (.ref a1), .val (.ref a2), .val (.int nn), .val (.ref bN), .val (.int (2 : Int32)), .val (.int d1), .val (.int d3)]) rfl ?_
    show Steps p.tables e below (T179.setTop (mkF m 139 #[.val (.ref a1), .val (.ref a2), .val (.int nn), .val (.ref bN), .val (.int (2 : Int32)), .val (.int d1), .val (.int d3)] [])) _
    refine XS.goto X179.here hx rfl (pc0 := 139) (pc' := 99) rfl (hb hby d1_139) (by decide) (by decide) ?_
    show Steps p.tables e below (T179.setTop (mkF m 99 #[.val (.ref a1), .val (.ref a2), .val (.int nn), .val (.ref bN), .val (.int (2 : Int32)), .val (.int d1), .val (.int d3)] [])) _
    refine XS.iload X179.here hx rfl (hb hby d1_99) rfl ?_
    show Steps p.tables e below (T179.setTop (mkF m 101 #[.val (.ref a1), .val (.ref a2), .val (.int nn), .val (.ref bN), .val (.int (2 : Int32)), .val (.int d1), .val (.int d3)] [(.int (2 : Int32))])) _
    refine XS.aloadN X179.here hx rfl (hb hby d1_101) rfl rfl ?_
    show Steps p.tables e below (T179.setTop (mkF m 102 #[.val (.ref a1), .val (.ref a2), .val (.int nn), .val (.ref bN), .val (.int (2 : Int32)), .val (.int d1), .val (.int d3)] [(.ref a2), (.int (2 : Int32))])) _
    refine X179.arraylength hx (by rw [e179]; exact Ar189.1) (State.isArrayOf_alike hZ.alike Ar189.2.1) (g := (mkF m 102 #[.val (.ref a1), .val (.ref a2), .val (.int nn), .val (.ref bN), .val (.int (2 : Int32)), .val (.int d1), .val (.int d3)] [(.ref a2), (.int (2 : Int32))])) rfl rfl (hb hby d1_102) _ ?_
    rw [len_of SS189 NN189]
    show Steps p.tables e below (T179.setTop (mkF m 103 #[.val (.ref a1), .val (.ref a2), .val (.int nn), .val (.ref bN), .val (.int (2 : Int32)), .val (.int d1), .val (.int d3)] [(.int (4 : Int32)), (.int (2 : Int32))])) _
    exact k
  obtain ⟨cl191, Ar191, -, SS191, NN191, HH191, -⟩ := (id c183_179)
  have pre192 : Go p e below (s₁.setTop (entryFrame m #[(.ref a1), (.ref a2), (.int nn)] 7)) (T179.setTop (mkF m 113 #[.val (.ref a1), .val (.ref a2), .val (.int nn), .val (.ref bN), .val (.int (2 : Int32)), .val (.int d2), .val (.int d3)] [(.ref a1)])) := by
    intro t k
    refine pre190 t ?_
    show Steps p.tables e below (T179.setTop (mkF m 103 #[.val (.ref a1), .val (.ref a2), .val (.int nn), .val (.ref bN), .val (.int (2 : Int32)), .val (.int d1), .val (.int d3)] [(.int (4 : Int32)), (.int (2 : Int32))])) _
    refine XS.icmpNo X179.here hx rfl (hb hby d1_103) rfl (XT.ii_ge_f (by decide : (2 : Int32) < (4 : Int32))) ?_
    show Steps p.tables e below (T179.setTop (mkF m 106 #[.val (.ref a1), .val (.ref a2), .val (.int nn), .val (.ref bN), .val (.int (2 : Int32)), .val (.int d1), .val (.int d3)] [])) _
    refine XS.aloadN X179.here hx rfl (hb hby d1_106) rfl rfl ?_
    show Steps p.tables e below (T179.setTop (mkF m 107 #[.val (.ref a1), .val (.ref a2), .val (.int nn), .val (.ref bN), .val (.int (2 : Int32)), .val (.int d1), .val (.int d3)] [(.ref a2)])) _
    refine XS.iload X179.here hx rfl (hb hby d1_107) rfl ?_
    show Steps p.tables e below (T179.setTop (mkF m 109 #[.val (.ref a1), .val (.ref a2), .val (.int nn), .val (.ref bN), .val (.int (2 : Int32)), .val (.int d1), .val (.int d3)] [(.int (2 : Int32)), (.ref a2)])) _
    refine X179.iaload hx (j := (2 : Int32)) (v := (.int d2)) (by rw [e179]; exact Ar191.1) (State.isArrayOf_alike hZ.alike Ar191.2.1) Ar191.2.2 (inb_of SS191 ⟨by decide, by decide⟩) (HH191.at (inb_of SS191 ⟨by decide, by decide⟩) rfl) (g := (mkF m 109 #[.val (.ref a1), .val (.ref a2), .val (.int nn), .val (.ref bN), .val (.int (2 : Int32)), .val (.int d1), .val (.int d3)] [(.int (2 : Int32)), (.ref a2)])) rfl rfl (hb hby d1_109) _ ?_
    show Steps p.tables e below (T179.setTop (mkF m 110 #[.val (.ref a1), .val (.ref a2), .val (.int nn), .val (.ref bN), .val (.int (2 : Int32)), .val (.int d1), .val (.int d3)] [(.int d2)])) _
    refine XS.istore X179.here hx rfl (hb hby d1_110) rfl (l' := #[.val (.ref a1), .val (.ref a2), .val (.int nn), .val (.ref bN), .val (.int (2 : Int32)), .val (.int d2), .val (.int d3)]) rfl ?_
    show Steps p.tables e below (T179.setTop (mkF m 112 #[.val (.ref a1), .val (.ref a2), .val (.int nn), .val (.ref bN), .val (.int (2 : Int32)), .val (.int d2), .val (.int d3)] [])) _
    refine XS.aloadN X179.here hx rfl (hb hby d1_112) rfl rfl ?_
    show Steps p.tables e below (T179.setTop (mkF m 113 #[.val (.ref a1), .val (.ref a2), .val (.int nn), .val (.ref bN), .val (.int (2 : Int32)), .val (.int d2), .val (.int d3)] [(.ref a1)])) _
    exact k
  obtain ⟨T193, X193, e193, st193⟩ := getF X179 hx hZ hown (host := "") (Or.inl (hw _ (List.mem_of_getElem? (i := 13) rfl))) Via.refl e179 c182_179 (g := (mkF m 113 #[.val (.ref a1), .val (.ref a2), .val (.int nn), .val (.ref bN), .val (.int (2 : Int32)), .val (.int d2), .val (.int d3)] [(.ref a1)])) rfl rfl (hb hby d1_113)
  have pre194 : Go p e below (s₁.setTop (entryFrame m #[(.ref a1), (.ref a2), (.int nn)] 7)) (T193.setTop (mkF m 116 #[.val (.ref a1), .val (.ref a2), .val (.int nn), .val (.ref bN), .val (.int (2 : Int32)), .val (.int d2), .val (.int d3)] [(.ref bT)])) := fun t k => pre192 t (st193 t k)
  have pre195 : Go p e below (s₁.setTop (entryFrame m #[(.ref a1), (.ref a2), (.int nn)] 7)) (T193.setTop (mkF m 117 #[.val (.ref a1), .val (.ref a2), .val (.int nn), .val (.ref bN), .val (.int (2 : Int32)), .val (.int d2), .val (.int d3)] [(.ref a1), (.ref bT)])) := by
    intro t k
    refine pre194 t ?_
    show Steps p.tables e below (T193.setTop (mkF m 116 #[.val (.ref a1), .val (.ref a2), .val (.int nn), .val (.ref bN), .val (.int (2 : Int32)), .val (.int d2), .val (.int d3)] [(.ref bT)])) _
    refine XS.aloadN X193.here hx rfl (hb hby d1_116) rfl rfl ?_
    show Steps p.tables e below (T193.setTop (mkF m 117 #[.val (.ref a1), .val (.ref a2), .val (.int nn), .val (.ref bN), .val (.int (2 : Int32)), .val (.int d2), .val (.int d3)] [(.ref a1), (.ref bT)])) _
    exact k
  obtain ⟨T196, X196, e196, st196⟩ := getF X193 hx hZ hown (host := "") (Or.inl (hw _ (List.mem_of_getElem? (i := 11) rfl))) Via.refl e193 c181_179 (g := (mkF m 117 #[.val (.ref a1), .val (.ref a2), .val (.int nn), .val (.ref bN), .val (.int (2 : Int32)), .val (.int d2), .val (.int d3)] [(.ref a1), (.ref bT)])) rfl rfl (hb hby d1_117)
  have pre197 : Go p e below (s₁.setTop (entryFrame m #[(.ref a1), (.ref a2), (.int nn)] 7)) (T196.setTop (mkF m 120 #[.val (.ref a1), .val (.ref a2), .val (.int nn), .val (.ref bN), .val (.int (2 : Int32)), .val (.int d2), .val (.int d3)] [(.ref bS), (.ref bT)])) := fun t k => pre195 t (st196 t k)
  obtain ⟨cl198, Ar198, SS198, NN198, HH198⟩ := c184_179.cell
  have hj198 : ¬ d2 < 0 ∧ d2 < (nn + (1 : Int32)) := (own_i0 hb2 hn8)
  have hat198 : cl198.slots[(d2).toNatClampNeg]? = some (.int (Int32.ofNat (own_acc (own_cnt [d3, d2, d1, d0]) nn.toInt.toNat (d2).toNatClampNeg))) := (HH198 _ (own_lt hj198)).trans (congrArg some rfl)
  obtain ⟨cl199, Ar199, SS199, NN199, HH199⟩ := c185_179.cell
  have hj199 : ¬ d2 < 0 ∧ d2 < nn := (own_in hb2)
  have hat199 : cl199.slots[(d2).toNatClampNeg]? = some (.int (Int32.ofNat (own_nx [d1, d0] (d2).toNatClampNeg))) := (HH199 _ (own_lt hj199)).trans (congrArg some rfl)
  have pre200 : Go p e below (s₁.setTop (entryFrame m #[(.ref a1), (.ref a2), (.int nn)] 7)) (T196.setTop (mkF m 131 #[.val (.ref a1), .val (.ref a2), .val (.int nn), .val (.ref bN), .val (.int (2 : Int32)), .val (.int d2), .val (.int d3)] [(.int ((Int32.ofNat (own_nx [d1, d0] (d2).toNatClampNeg)) + (1 : Int32))), (.int d2), (.ref bN), (.int (Int32.ofNat (own_nx [d1, d0] (d2).toNatClampNeg))), (.int (Int32.ofNat (own_acc (own_cnt [d3, d2, d1, d0]) nn.toInt.toNat (d2).toNatClampNeg))), (.ref bT)])) := by
    intro t k
    refine pre197 t ?_
    show Steps p.tables e below (T196.setTop (mkF m 120 #[.val (.ref a1), .val (.ref a2), .val (.int nn), .val (.ref bN), .val (.int (2 : Int32)), .val (.int d2), .val (.int d3)] [(.ref bS), (.ref bT)])) _
    refine XS.iload X196.here hx rfl (hb hby d1_120) rfl ?_
    show Steps p.tables e below (T196.setTop (mkF m 122 #[.val (.ref a1), .val (.ref a2), .val (.int nn), .val (.ref bN), .val (.int (2 : Int32)), .val (.int d2), .val (.int d3)] [(.int d2), (.ref bS), (.ref bT)])) _
    refine X196.iaload hx (j := d2) (v := (.int (Int32.ofNat (own_acc (own_cnt [d3, d2, d1, d0]) nn.toInt.toNat (d2).toNatClampNeg)))) (by rw [e196]; exact Ar198.1) (State.isArrayOf_alike hZ.alike Ar198.2.1) Ar198.2.2 (inb_of SS198 hj198) hat198 (g := (mkF m 122 #[.val (.ref a1), .val (.ref a2), .val (.int nn), .val (.ref bN), .val (.int (2 : Int32)), .val (.int d2), .val (.int d3)] [(.int d2), (.ref bS), (.ref bT)])) rfl rfl (hb hby d1_122) _ ?_
    show Steps p.tables e below (T196.setTop (mkF m 123 #[.val (.ref a1), .val (.ref a2), .val (.int nn), .val (.ref bN), .val (.int (2 : Int32)), .val (.int d2), .val (.int d3)] [(.int (Int32.ofNat (own_acc (own_cnt [d3, d2, d1, d0]) nn.toInt.toNat (d2).toNatClampNeg))), (.ref bT)])) _
    refine XS.aloadN X196.here hx rfl (hb hby d1_123) rfl rfl ?_
    show Steps p.tables e below (T196.setTop (mkF m 124 #[.val (.ref a1), .val (.ref a2), .val (.int nn), .val (.ref bN), .val (.int (2 : Int32)), .val (.int d2), .val (.int d3)] [(.ref bN), (.int (Int32.ofNat (own_acc (own_cnt [d3, d2, d1, d0]) nn.toInt.toNat (d2).toNatClampNeg))), (.ref bT)])) _
    refine XS.iload X196.here hx rfl (hb hby d1_124) rfl ?_
    show Steps p.tables e below (T196.setTop (mkF m 126 #[.val (.ref a1), .val (.ref a2), .val (.int nn), .val (.ref bN), .val (.int (2 : Int32)), .val (.int d2), .val (.int d3)] [(.int d2), (.ref bN), (.int (Int32.ofNat (own_acc (own_cnt [d3, d2, d1, d0]) nn.toInt.toNat (d2).toNatClampNeg))), (.ref bT)])) _
    refine XT.dup2 X196.here hx rfl (hb hby d1_126) rfl rfl rfl ?_
    show Steps p.tables e below (T196.setTop (mkF m 127 #[.val (.ref a1), .val (.ref a2), .val (.int nn), .val (.ref bN), .val (.int (2 : Int32)), .val (.int d2), .val (.int d3)] [(.int d2), (.ref bN), (.int d2), (.ref bN), (.int (Int32.ofNat (own_acc (own_cnt [d3, d2, d1, d0]) nn.toInt.toNat (d2).toNatClampNeg))), (.ref bT)])) _
    refine X196.iaload hx (j := d2) (v := (.int (Int32.ofNat (own_nx [d1, d0] (d2).toNatClampNeg)))) (by rw [e196]; exact Ar199.1) (State.isArrayOf_alike hZ.alike Ar199.2.1) Ar199.2.2 (inb_of SS199 hj199) hat199 (g := (mkF m 127 #[.val (.ref a1), .val (.ref a2), .val (.int nn), .val (.ref bN), .val (.int (2 : Int32)), .val (.int d2), .val (.int d3)] [(.int d2), (.ref bN), (.int d2), (.ref bN), (.int (Int32.ofNat (own_acc (own_cnt [d3, d2, d1, d0]) nn.toInt.toNat (d2).toNatClampNeg))), (.ref bT)])) rfl rfl (hb hby d1_127) _ ?_
    show Steps p.tables e below (T196.setTop (mkF m 128 #[.val (.ref a1), .val (.ref a2), .val (.int nn), .val (.ref bN), .val (.int (2 : Int32)), .val (.int d2), .val (.int d3)] [(.int (Int32.ofNat (own_nx [d1, d0] (d2).toNatClampNeg))), (.int d2), (.ref bN), (.int (Int32.ofNat (own_acc (own_cnt [d3, d2, d1, d0]) nn.toInt.toNat (d2).toNatClampNeg))), (.ref bT)])) _
    jvm_step X196.here [X196.here.top, hx, (hb hby d1_128), Value.category]
    show Steps p.tables e below (T196.setTop (mkF m 129 #[.val (.ref a1), .val (.ref a2), .val (.int nn), .val (.ref bN), .val (.int (2 : Int32)), .val (.int d2), .val (.int d3)] [(.int (Int32.ofNat (own_nx [d1, d0] (d2).toNatClampNeg))), (.int d2), (.ref bN), (.int (Int32.ofNat (own_nx [d1, d0] (d2).toNatClampNeg))), (.int (Int32.ofNat (own_acc (own_cnt [d3, d2, d1, d0]) nn.toInt.toNat (d2).toNatClampNeg))), (.ref bT)])) _
    refine XS.iconst X196.here hx rfl (hb hby d1_129) ?_
    show Steps p.tables e below (T196.setTop (mkF m 130 #[.val (.ref a1), .val (.ref a2), .val (.int nn), .val (.ref bN), .val (.int (2 : Int32)), .val (.int d2), .val (.int d3)] [(.int (1 : Int32)), (.int (Int32.ofNat (own_nx [d1, d0] (d2).toNatClampNeg))), (.int d2), (.ref bN), (.int (Int32.ofNat (own_nx [d1, d0] (d2).toNatClampNeg))), (.int (Int32.ofNat (own_acc (own_cnt [d3, d2, d1, d0]) nn.toInt.toNat (d2).toNatClampNeg))), (.ref bT)])) _
    refine XS.iadd X196.here hx rfl (hb hby d1_130) rfl ?_
    show Steps p.tables e below (T196.setTop (mkF m 131 #[.val (.ref a1), .val (.ref a2), .val (.int nn), .val (.ref bN), .val (.int (2 : Int32)), .val (.int d2), .val (.int d3)] [(.int ((Int32.ofNat (own_nx [d1, d0] (d2).toNatClampNeg)) + (1 : Int32))), (.int d2), (.ref bN), (.int (Int32.ofNat (own_nx [d1, d0] (d2).toNatClampNeg))), (.int (Int32.ofNat (own_acc (own_cnt [d3, d2, d1, d0]) nn.toInt.toNat (d2).toNatClampNeg))), (.ref bT)])) _
    exact k
  obtain ⟨cl201, Ar201, SS201, NN201, -⟩ := c185_179.cell
  have hj201 : ¬ d2 < 0 ∧ d2 < nn := (own_in hb2)
  obtain ⟨T201, h201, X201, e201, W201, st201⟩ := stI X196 hx hZ e196 Ar201 (j := d2) (inb_of SS201 hj201) (g := (mkF m 131 #[.val (.ref a1), .val (.ref a2), .val (.int nn), .val (.ref bN), .val (.int (2 : Int32)), .val (.int d2), .val (.int d3)] [(.int ((Int32.ofNat (own_nx [d1, d0] (d2).toNatClampNeg)) + (1 : Int32))), (.int d2), (.ref bN), (.int (Int32.ofNat (own_nx [d1, d0] (d2).toNatClampNeg))), (.int (Int32.ofNat (own_acc (own_cnt [d3, d2, d1, d0]) nn.toInt.toNat (d2).toNatClampNeg))), (.ref bT)])) rfl rfl (hb hby d1_131)
  have AV201 : Arf Z h201 bN k113 .int nn (own_st (own_nx [d2, d1, d0])) := (c185_179.set rfl W201 hj201).as (fun i _ => own_incN [d1, d0] d2 i)
  have c202_201 := c180_179.wr W201
  have c203_201 := c181_179.other W201 (Or.inl ne_a1_bN)
  have c204_201 := c182_179.other W201 (Or.inl ne_a1_bN)
  have c205_201 := c183_179.other W201 ne_a2_bN
  have c206_201 := c184_179.other W201 ne_bS_bN
  have c207_201 := AV179.other W201 ne_bT_bN
  have zz208 := (Nat.le_trans zz186 (Keep.of_wr W201).1)
  have K209 := K187.wr W201 (Or.inr sz_bN)
  have N201 := Fr.snoc X201 N179 g_bN
  have pre210 : Go p e below (s₁.setTop (entryFrame m #[(.ref a1), (.ref a2), (.int nn)] 7)) (T201.setTop (mkF m 132 #[.val (.ref a1), .val (.ref a2), .val (.int nn), .val (.ref bN), .val (.int (2 : Int32)), .val (.int d2), .val (.int d3)] [(.int (Int32.ofNat (own_nx [d1, d0] (d2).toNatClampNeg))), (.int (Int32.ofNat (own_acc (own_cnt [d3, d2, d1, d0]) nn.toInt.toNat (d2).toNatClampNeg))), (.ref bT)])) := fun t k => pre200 t (st201 t k)
  have pre211 : Go p e below (s₁.setTop (entryFrame m #[(.ref a1), (.ref a2), (.int nn)] 7)) (T201.setTop (mkF m 135 #[.val (.ref a1), .val (.ref a2), .val (.int nn), .val (.ref bN), .val (.int (2 : Int32)), .val (.int d2), .val (.int d3)] [(.int (2 : Int32)), (.int ((Int32.ofNat (own_acc (own_cnt [d3, d2, d1, d0]) nn.toInt.toNat (d2).toNatClampNeg)) + (Int32.ofNat (own_nx [d1, d0] (d2).toNatClampNeg)))), (.ref bT)])) := by
    intro t k
    refine pre210 t ?_
    show Steps p.tables e below (T201.setTop (mkF m 132 #[.val (.ref a1), .val (.ref a2), .val (.int nn), .val (.ref bN), .val (.int (2 : Int32)), .val (.int d2), .val (.int d3)] [(.int (Int32.ofNat (own_nx [d1, d0] (d2).toNatClampNeg))), (.int (Int32.ofNat (own_acc (own_cnt [d3, d2, d1, d0]) nn.toInt.toNat (d2).toNatClampNeg))), (.ref bT)])) _
    refine XS.iadd X201.here hx rfl (hb hby d1_132) rfl ?_
    show Steps p.tables e below (T201.setTop (mkF m 133 #[.val (.ref a1), .val (.ref a2), .val (.int nn), .val (.ref bN), .val (.int (2 : Int32)), .val (.int d2), .val (.int d3)] [(.int ((Int32.ofNat (own_acc (own_cnt [d3, d2, d1, d0]) nn.toInt.toNat (d2).toNatClampNeg)) + (Int32.ofNat (own_nx [d1, d0] (d2).toNatClampNeg)))), (.ref bT)])) _
    refine XS.iload X201.here hx rfl (hb hby d1_133) rfl ?_
    show Steps p.tables e below (T201.setTop (mkF m 135 #[.val (.ref a1), .val (.ref a2), .val (.int nn), .val (.ref bN), .val (.int (2 : Int32)), .val (.int d2), .val (.int d3)] [(.int (2 : Int32)), (.int ((Int32.ofNat (own_acc (own_cnt [d3, d2, d1, d0]) nn.toInt.toNat (d2).toNatClampNeg)) + (Int32.ofNat (own_nx [d1, d0] (d2).toNatClampNeg)))), (.ref bT)])) _
    exact k
  obtain ⟨cl212, Ar212, SS212, NN212, -⟩ := c207_201.cell
  have hj212 : ¬ ((Int32.ofNat (own_acc (own_cnt [d3, d2, d1, d0]) nn.toInt.toNat (d2).toNatClampNeg)) + (Int32.ofNat (own_nx [d1, d0] (d2).toNatClampNeg))) < 0 ∧ ((Int32.ofNat (own_acc (own_cnt [d3, d2, d1, d0]) nn.toInt.toNat (d2).toNatClampNeg)) + (Int32.ofNat (own_nx [d1, d0] (d2).toNatClampNeg))) < (4 : Int32) := own_small (hidx2)
  obtain ⟨T212, h212, X212, e212, W212, st212⟩ := stI X201 hx hZ e201 Ar212 (j := ((Int32.ofNat (own_acc (own_cnt [d3, d2, d1, d0]) nn.toInt.toNat (d2).toNatClampNeg)) + (Int32.ofNat (own_nx [d1, d0] (d2).toNatClampNeg)))) (inb_of SS212 hj212) (g := (mkF m 135 #[.val (.ref a1), .val (.ref a2), .val (.int nn), .val (.ref bN), .val (.int (2 : Int32)), .val (.int d2), .val (.int d3)] [(.int (2 : Int32)), (.int ((Int32.ofNat (own_acc (own_cnt [d3, d2, d1, d0]) nn.toInt.toNat (d2).toNatClampNeg)) + (Int32.ofNat (own_nx [d1, d0] (d2).toNatClampNeg)))), (.ref bT)])) rfl rfl (hb hby d1_135)
  obtain ⟨fn212, AV212⟩ : ∃ f, Arf Z h212 bT k94 .int (4 : Int32) f := ⟨_, c207_201.set rfl W212 hj212⟩
  have c213_212 := c202_201.wr W212
  have c214_212 := c203_201.other W212 (Or.inl ne_a1_bT)
  have c215_212 := c204_201.other W212 (Or.inl ne_a1_bT)
  have c216_212 := c205_201.other W212 ne_a2_bT
  have c217_212 := c206_201.other W212 ne_bS_bT
  have c218_212 := AV201.other W212 (Ne.symm ne_bT_bN)
  have zz219 := (Nat.le_trans zz208 (Keep.of_wr W212).1)
  have K220 := K209.wr W212 (Or.inr sz_bT)
  have N212 := Fr.snoc X212 N201 g_bT
  have pre221 : Go p e below (s₁.setTop (entryFrame m #[(.ref a1), (.ref a2), (.int nn)] 7)) (T212.setTop (mkF m 136 #[.val (.ref a1), .val (.ref a2), .val (.int nn), .val (.ref bN), .val (.int (2 : Int32)), .val (.int d2), .val (.int d3)] [])) := fun t k => pre211 t (st212 t k)
  obtain ⟨cl222, Ar222, -, SS222, NN222, -, -⟩ := (id c216_212)
  have pre223 : Go p e below (s₁.setTop (entryFrame m #[(.ref a1), (.ref a2), (.int nn)] 7)) (T212.setTop (mkF m 103 #[.val (.ref a1), .val (.ref a2), .val (.int nn), .val (.ref bN), .val (.int (3 : Int32)), .val (.int d2), .val (.int d3)] [(.int (4 : Int32)), (.int (3 : Int32))])) := by
    intro t k
    refine pre221 t ?_
    show Steps p.tables e below (T212.setTop (mkF m 136 #[.val (.ref a1), .val (.ref a2), .val (.int nn), .val (.ref bN), .val (.int (2 : Int32)), .val (.int d2), .val (.int d3)] [])) _
    refine XS.iinc X212.here hx rfl (hb hby d1_136) rfl (l' := #[.val (.ref a1), .val (.ref a2), .val (.int nn), .val (.ref bN), .val (.int (3 : Int32)), .val (.int d2), .val (.int d3)]) rfl ?_
    show Steps p.tables e below (T212.setTop (mkF m 139 #[.val (.ref a1), .val (.ref a2), .val (.int nn), .val (.ref bN), .val (.int (3 : Int32)), .val (.int d2), .val (.int d3)] [])) _
    refine XS.goto X212.here hx rfl (pc0 := 139) (pc' := 99) rfl (hb hby d1_139) (by decide) (by decide) ?_
    show Steps p.tables e below (T212.setTop (mkF m 99 #[.val (.ref a1), .val (.ref a2), .val (.int nn), .val (.ref bN), .val (.int (3 : Int32)), .val (.int d2), .val (.int d3)] [])) _
    refine XS.iload X212.here hx rfl (hb hby d1_99) rfl ?_
    show Steps p.tables e below (T212.setTop (mkF m 101 #[.val (.ref a1), .val (.ref a2), .val (.int nn), .val (.ref bN), .val (.int (3 : Int32)), .val (.int d2), .val (.int d3)] [(.int (3 : Int32))])) _
    refine XS.aloadN X212.here hx rfl (hb hby d1_101) rfl rfl ?_
    show Steps p.tables e below (T212.setTop (mkF m 102 #[.val (.ref a1), .val (.ref a2), .val (.int nn), .val (.ref bN), .val (.int (3 : Int32)), .val (.int d2), .val (.int d3)] [(.ref a2), (.int (3 : Int32))])) _
    refine X212.arraylength hx (by rw [e212]; exact Ar222.1) (State.isArrayOf_alike hZ.alike Ar222.2.1) (g := (mkF m 102 #[.val (.ref a1), .val (.ref a2), .val (.int nn), .val (.ref bN), .val (.int (3 : Int32)), .val (.int d2), .val (.int d3)] [(.ref a2), (.int (3 : Int32))])) rfl rfl (hb hby d1_102) _ ?_
    rw [len_of SS222 NN222]
    show Steps p.tables e below (T212.setTop (mkF m 103 #[.val (.ref a1), .val (.ref a2), .val (.int nn), .val (.ref bN), .val (.int (3 : Int32)), .val (.int d2), .val (.int d3)] [(.int (4 : Int32)), (.int (3 : Int32))])) _
    exact k
  obtain ⟨cl224, Ar224, -, SS224, NN224, HH224, -⟩ := (id c216_212)
  have pre225 : Go p e below (s₁.setTop (entryFrame m #[(.ref a1), (.ref a2), (.int nn)] 7)) (T212.setTop (mkF m 113 #[.val (.ref a1), .val (.ref a2), .val (.int nn), .val (.ref bN), .val (.int (3 : Int32)), .val (.int d3), .val (.int d3)] [(.ref a1)])) := by
    intro t k
    refine pre223 t ?_
    show Steps p.tables e below (T212.setTop (mkF m 103 #[.val (.ref a1), .val (.ref a2), .val (.int nn), .val (.ref bN), .val (.int (3 : Int32)), .val (.int d2), .val (.int d3)] [(.int (4 : Int32)), (.int (3 : Int32))])) _
    refine XS.icmpNo X212.here hx rfl (hb hby d1_103) rfl (XT.ii_ge_f (by decide : (3 : Int32) < (4 : Int32))) ?_
    show Steps p.tables e below (T212.setTop (mkF m 106 #[.val (.ref a1), .val (.ref a2), .val (.int nn), .val (.ref bN), .val (.int (3 : Int32)), .val (.int d2), .val (.int d3)] [])) _
    refine XS.aloadN X212.here hx rfl (hb hby d1_106) rfl rfl ?_
    show Steps p.tables e below (T212.setTop (mkF m 107 #[.val (.ref a1), .val (.ref a2), .val (.int nn), .val (.ref bN), .val (.int (3 : Int32)), .val (.int d2), .val (.int d3)] [(.ref a2)])) _
    refine XS.iload X212.here hx rfl (hb hby d1_107) rfl ?_
    show Steps p.tables e below (T212.setTop (mkF m 109 #[.val (.ref a1), .val (.ref a2), .val (.int nn), .val (.ref bN), .val (.int (3 : Int32)), .val (.int d2), .val (.int d3)] [(.int (3 : Int32)), (.ref a2)])) _
    refine X212.iaload hx (j := (3 : Int32)) (v := (.int d3)) (by rw [e212]; exact Ar224.1) (State.isArrayOf_alike hZ.alike Ar224.2.1) Ar224.2.2 (inb_of SS224 ⟨by decide, by decide⟩) (HH224.at (inb_of SS224 ⟨by decide, by decide⟩) rfl) (g := (mkF m 109 #[.val (.ref a1), .val (.ref a2), .val (.int nn), .val (.ref bN), .val (.int (3 : Int32)), .val (.int d2), .val (.int d3)] [(.int (3 : Int32)), (.ref a2)])) rfl rfl (hb hby d1_109) _ ?_
    show Steps p.tables e below (T212.setTop (mkF m 110 #[.val (.ref a1), .val (.ref a2), .val (.int nn), .val (.ref bN), .val (.int (3 : Int32)), .val (.int d2), .val (.int d3)] [(.int d3)])) _
    refine XS.istore X212.here hx rfl (hb hby d1_110) rfl (l' := #[.val (.ref a1), .val (.ref a2), .val (.int nn), .val (.ref bN), .val (.int (3 : Int32)), .val (.int d3), .val (.int d3)]) rfl ?_
    show Steps p.tables e below (T212.setTop (mkF m 112 #[.val (.ref a1), .val (.ref a2), .val (.int nn), .val (.ref bN), .val (.int (3 : Int32)), .val (.int d3), .val (.int d3)] [])) _
    refine XS.aloadN X212.here hx rfl (hb hby d1_112) rfl rfl ?_
    show Steps p.tables e below (T212.setTop (mkF m 113 #[.val (.ref a1), .val (.ref a2), .val (.int nn), .val (.ref bN), .val (.int (3 : Int32)), .val (.int d3), .val (.int d3)] [(.ref a1)])) _
    exact k
  obtain ⟨T226, X226, e226, st226⟩ := getF X212 hx hZ hown (host := "") (Or.inl (hw _ (List.mem_of_getElem? (i := 13) rfl))) Via.refl e212 c215_212 (g := (mkF m 113 #[.val (.ref a1), .val (.ref a2), .val (.int nn), .val (.ref bN), .val (.int (3 : Int32)), .val (.int d3), .val (.int d3)] [(.ref a1)])) rfl rfl (hb hby d1_113)
  have pre227 : Go p e below (s₁.setTop (entryFrame m #[(.ref a1), (.ref a2), (.int nn)] 7)) (T226.setTop (mkF m 116 #[.val (.ref a1), .val (.ref a2), .val (.int nn), .val (.ref bN), .val (.int (3 : Int32)), .val (.int d3), .val (.int d3)] [(.ref bT)])) := fun t k => pre225 t (st226 t k)
  have pre228 : Go p e below (s₁.setTop (entryFrame m #[(.ref a1), (.ref a2), (.int nn)] 7)) (T226.setTop (mkF m 117 #[.val (.ref a1), .val (.ref a2), .val (.int nn), .val (.ref bN), .val (.int (3 : Int32)), .val (.int d3), .val (.int d3)] [(.ref a1), (.ref bT)])) := by
    intro t k
    refine pre227 t ?_
    show Steps p.tables e below (T226.setTop (mkF m 116 #[.val (.ref a1), .val (.ref a2), .val (.int nn), .val (.ref bN), .val (.int (3 : Int32)), .val (.int d3), .val (.int d3)] [(.ref bT)])) _
    refine XS.aloadN X226.here hx rfl (hb hby d1_116) rfl rfl ?_
    show Steps p.tables e below (T226.setTop (mkF m 117 #[.val (.ref a1), .val (.ref a2), .val (.int nn), .val (.ref bN), .val (.int (3 : Int32)), .val (.int d3), .val (.int d3)] [(.ref a1), (.ref bT)])) _
    exact k
  obtain ⟨T229, X229, e229, st229⟩ := getF X226 hx hZ hown (host := "") (Or.inl (hw _ (List.mem_of_getElem? (i := 11) rfl))) Via.refl e226 c214_212 (g := (mkF m 117 #[.val (.ref a1), .val (.ref a2), .val (.int nn), .val (.ref bN), .val (.int (3 : Int32)), .val (.int d3), .val (.int d3)] [(.ref a1), (.ref bT)])) rfl rfl (hb hby d1_117)
  have pre230 : Go p e below (s₁.setTop (entryFrame m #[(.ref a1), (.ref a2), (.int nn)] 7)) (T229.setTop (mkF m 120 #[.val (.ref a1), .val (.ref a2), .val (.int nn), .val (.ref bN), .val (.int (3 : Int32)), .val (.int d3), .val (.int d3)] [(.ref bS), (.ref bT)])) := fun t k => pre228 t (st229 t k)
  obtain ⟨cl231, Ar231, SS231, NN231, HH231⟩ := c217_212.cell
  have hj231 : ¬ d3 < 0 ∧ d3 < (nn + (1 : Int32)) := (own_i0 hb3 hn8)
  have hat231 : cl231.slots[(d3).toNatClampNeg]? = some (.int (Int32.ofNat (own_acc (own_cnt [d3, d2, d1, d0]) nn.toInt.toNat (d3).toNatClampNeg))) := (HH231 _ (own_lt hj231)).trans (congrArg some rfl)
  obtain ⟨cl232, Ar232, SS232, NN232, HH232⟩ := c218_212.cell
  have hj232 : ¬ d3 < 0 ∧ d3 < nn := (own_in hb3)
  have hat232 : cl232.slots[(d3).toNatClampNeg]? = some (.int (Int32.ofNat (own_nx [d2, d1, d0] (d3).toNatClampNeg))) := (HH232 _ (own_lt hj232)).trans (congrArg some rfl)
  have pre233 : Go p e below (s₁.setTop (entryFrame m #[(.ref a1), (.ref a2), (.int nn)] 7)) (T229.setTop (mkF m 131 #[.val (.ref a1), .val (.ref a2), .val (.int nn), .val (.ref bN), .val (.int (3 : Int32)), .val (.int d3), .val (.int d3)] [(.int ((Int32.ofNat (own_nx [d2, d1, d0] (d3).toNatClampNeg)) + (1 : Int32))), (.int d3), (.ref bN), (.int (Int32.ofNat (own_nx [d2, d1, d0] (d3).toNatClampNeg))), (.int (Int32.ofNat (own_acc (own_cnt [d3, d2, d1, d0]) nn.toInt.toNat (d3).toNatClampNeg))), (.ref bT)])) := by
    intro t k
    refine pre230 t ?_
    show Steps p.tables e below (T229.setTop (mkF m 120 #[.val (.ref a1), .val (.ref a2), .val (.int nn), .val (.ref bN), .val (.int (3 : Int32)), .val (.int d3), .val (.int d3)] [(.ref bS), (.ref bT)])) _
    refine XS.iload X229.here hx rfl (hb hby d1_120) rfl ?_
    show Steps p.tables e below (T229.setTop (mkF m 122 #[.val (.ref a1), .val (.ref a2), .val (.int nn), .val (.ref bN), .val (.int (3 : Int32)), .val (.int d3), .val (.int d3)] [(.int d3), (.ref bS), (.ref bT)])) _
    refine X229.iaload hx (j := d3) (v := (.int (Int32.ofNat (own_acc (own_cnt [d3, d2, d1, d0]) nn.toInt.toNat (d3).toNatClampNeg)))) (by rw [e229]; exact Ar231.1) (State.isArrayOf_alike hZ.alike Ar231.2.1) Ar231.2.2 (inb_of SS231 hj231) hat231 (g := (mkF m 122 #[.val (.ref a1), .val (.ref a2), .val (.int nn), .val (.ref bN), .val (.int (3 : Int32)), .val (.int d3), .val (.int d3)] [(.int d3), (.ref bS), (.ref bT)])) rfl rfl (hb hby d1_122) _ ?_
    show Steps p.tables e below (T229.setTop (mkF m 123 #[.val (.ref a1), .val (.ref a2), .val (.int nn), .val (.ref bN), .val (.int (3 : Int32)), .val (.int d3), .val (.int d3)] [(.int (Int32.ofNat (own_acc (own_cnt [d3, d2, d1, d0]) nn.toInt.toNat (d3).toNatClampNeg))), (.ref bT)])) _
    refine XS.aloadN X229.here hx rfl (hb hby d1_123) rfl rfl ?_
    show Steps p.tables e below (T229.setTop (mkF m 124 #[.val (.ref a1), .val (.ref a2), .val (.int nn), .val (.ref bN), .val (.int (3 : Int32)), .val (.int d3), .val (.int d3)] [(.ref bN), (.int (Int32.ofNat (own_acc (own_cnt [d3, d2, d1, d0]) nn.toInt.toNat (d3).toNatClampNeg))), (.ref bT)])) _
    refine XS.iload X229.here hx rfl (hb hby d1_124) rfl ?_
    show Steps p.tables e below (T229.setTop (mkF m 126 #[.val (.ref a1), .val (.ref a2), .val (.int nn), .val (.ref bN), .val (.int (3 : Int32)), .val (.int d3), .val (.int d3)] [(.int d3), (.ref bN), (.int (Int32.ofNat (own_acc (own_cnt [d3, d2, d1, d0]) nn.toInt.toNat (d3).toNatClampNeg))), (.ref bT)])) _
    refine XT.dup2 X229.here hx rfl (hb hby d1_126) rfl rfl rfl ?_
    show Steps p.tables e below (T229.setTop (mkF m 127 #[.val (.ref a1), .val (.ref a2), .val (.int nn), .val (.ref bN), .val (.int (3 : Int32)), .val (.int d3), .val (.int d3)] [(.int d3), (.ref bN), (.int d3), (.ref bN), (.int (Int32.ofNat (own_acc (own_cnt [d3, d2, d1, d0]) nn.toInt.toNat (d3).toNatClampNeg))), (.ref bT)])) _
    refine X229.iaload hx (j := d3) (v := (.int (Int32.ofNat (own_nx [d2, d1, d0] (d3).toNatClampNeg)))) (by rw [e229]; exact Ar232.1) (State.isArrayOf_alike hZ.alike Ar232.2.1) Ar232.2.2 (inb_of SS232 hj232) hat232 (g := (mkF m 127 #[.val (.ref a1), .val (.ref a2), .val (.int nn), .val (.ref bN), .val (.int (3 : Int32)), .val (.int d3), .val (.int d3)] [(.int d3), (.ref bN), (.int d3), (.ref bN), (.int (Int32.ofNat (own_acc (own_cnt [d3, d2, d1, d0]) nn.toInt.toNat (d3).toNatClampNeg))), (.ref bT)])) rfl rfl (hb hby d1_127) _ ?_
    show Steps p.tables e below (T229.setTop (mkF m 128 #[.val (.ref a1), .val (.ref a2), .val (.int nn), .val (.ref bN), .val (.int (3 : Int32)), .val (.int d3), .val (.int d3)] [(.int (Int32.ofNat (own_nx [d2, d1, d0] (d3).toNatClampNeg))), (.int d3), (.ref bN), (.int (Int32.ofNat (own_acc (own_cnt [d3, d2, d1, d0]) nn.toInt.toNat (d3).toNatClampNeg))), (.ref bT)])) _
    jvm_step X229.here [X229.here.top, hx, (hb hby d1_128), Value.category]
    show Steps p.tables e below (T229.setTop (mkF m 129 #[.val (.ref a1), .val (.ref a2), .val (.int nn), .val (.ref bN), .val (.int (3 : Int32)), .val (.int d3), .val (.int d3)] [(.int (Int32.ofNat (own_nx [d2, d1, d0] (d3).toNatClampNeg))), (.int d3), (.ref bN), (.int (Int32.ofNat (own_nx [d2, d1, d0] (d3).toNatClampNeg))), (.int (Int32.ofNat (own_acc (own_cnt [d3, d2, d1, d0]) nn.toInt.toNat (d3).toNatClampNeg))), (.ref bT)])) _
    refine XS.iconst X229.here hx rfl (hb hby d1_129) ?_
    show Steps p.tables e below (T229.setTop (mkF m 130 #[.val (.ref a1), .val (.ref a2), .val (.int nn), .val (.ref bN), .val (.int (3 : Int32)), .val (.int d3), .val (.int d3)] [(.int (1 : Int32)), (.int (Int32.ofNat (own_nx [d2, d1, d0] (d3).toNatClampNeg))), (.int d3), (.ref bN), (.int (Int32.ofNat (own_nx [d2, d1, d0] (d3).toNatClampNeg))), (.int (Int32.ofNat (own_acc (own_cnt [d3, d2, d1, d0]) nn.toInt.toNat (d3).toNatClampNeg))), (.ref bT)])) _
    refine XS.iadd X229.here hx rfl (hb hby d1_130) rfl ?_
    show Steps p.tables e below (T229.setTop (mkF m 131 #[.val (.ref a1), .val (.ref a2), .val (.int nn), .val (.ref bN), .val (.int (3 : Int32)), .val (.int d3), .val (.int d3)] [(.int ((Int32.ofNat (own_nx [d2, d1, d0] (d3).toNatClampNeg)) + (1 : Int32))), (.int d3), (.ref bN), (.int (Int32.ofNat (own_nx [d2, d1, d0] (d3).toNatClampNeg))), (.int (Int32.ofNat (own_acc (own_cnt [d3, d2, d1, d0]) nn.toInt.toNat (d3).toNatClampNeg))), (.ref bT)])) _
    exact k
  obtain ⟨cl234, Ar234, SS234, NN234, -⟩ := c218_212.cell
  have hj234 : ¬ d3 < 0 ∧ d3 < nn := (own_in hb3)
  obtain ⟨T234, h234, X234, e234, W234, st234⟩ := stI X229 hx hZ e229 Ar234 (j := d3) (inb_of SS234 hj234) (g := (mkF m 131 #[.val (.ref a1), .val (.ref a2), .val (.int nn), .val (.ref bN), .val (.int (3 : Int32)), .val (.int d3), .val (.int d3)] [(.int ((Int32.ofNat (own_nx [d2, d1, d0] (d3).toNatClampNeg)) + (1 : Int32))), (.int d3), (.ref bN), (.int (Int32.ofNat (own_nx [d2, d1, d0] (d3).toNatClampNeg))), (.int (Int32.ofNat (own_acc (own_cnt [d3, d2, d1, d0]) nn.toInt.toNat (d3).toNatClampNeg))), (.ref bT)])) rfl rfl (hb hby d1_131)
  have AV234 : Arf Z h234 bN k113 .int nn (own_st (own_nx [d3, d2, d1, d0])) := (c218_212.set rfl W234 hj234).as (fun i _ => own_incN [d2, d1, d0] d3 i)
  have c235_234 := c213_212.wr W234
  have c236_234 := c214_212.other W234 (Or.inl ne_a1_bN)
  have c237_234 := c215_212.other W234 (Or.inl ne_a1_bN)
  have c238_234 := c216_212.other W234 ne_a2_bN
  have c239_234 := c217_212.other W234 ne_bS_bN
  have c240_234 := AV212.other W234 ne_bT_bN
  have zz241 := (Nat.le_trans zz219 (Keep.of_wr W234).1)
  have K242 := K220.wr W234 (Or.inr sz_bN)
  have N234 := Fr.snoc X234 N212 g_bN
  have pre243 : Go p e below (s₁.setTop (entryFrame m #[(.ref a1), (.ref a2), (.int nn)] 7)) (T234.setTop (mkF m 132 #[.val (.ref a1), .val (.ref a2), .val (.int nn), .val (.ref bN), .val (.int (3 : Int32)), .val (.int d3), .val (.int d3)] [(.int (Int32.ofNat (own_nx [d2, d1, d0] (d3).toNatClampNeg))), (.int (Int32.ofNat (own_acc (own_cnt [d3, d2, d1, d0]) nn.toInt.toNat (d3).toNatClampNeg))), (.ref bT)])) := fun t k => pre233 t (st234 t k)
  have pre244 : Go p e below (s₁.setTop (entryFrame m #[(.ref a1), (.ref a2), (.int nn)] 7)) (T234.setTop (mkF m 135 #[.val (.ref a1), .val (.ref a2), .val (.int nn), .val (.ref bN), .val (.int (3 : Int32)), .val (.int d3), .val (.int d3)] [(.int (3 : Int32)), (.int ((Int32.ofNat (own_acc (own_cnt [d3, d2, d1, d0]) nn.toInt.toNat (d3).toNatClampNeg)) + (Int32.ofNat (own_nx [d2, d1, d0] (d3).toNatClampNeg)))), (.ref bT)])) := by
    intro t k
    refine pre243 t ?_
    show Steps p.tables e below (T234.setTop (mkF m 132 #[.val (.ref a1), .val (.ref a2), .val (.int nn), .val (.ref bN), .val (.int (3 : Int32)), .val (.int d3), .val (.int d3)] [(.int (Int32.ofNat (own_nx [d2, d1, d0] (d3).toNatClampNeg))), (.int (Int32.ofNat (own_acc (own_cnt [d3, d2, d1, d0]) nn.toInt.toNat (d3).toNatClampNeg))), (.ref bT)])) _
    refine XS.iadd X234.here hx rfl (hb hby d1_132) rfl ?_
    show Steps p.tables e below (T234.setTop (mkF m 133 #[.val (.ref a1), .val (.ref a2), .val (.int nn), .val (.ref bN), .val (.int (3 : Int32)), .val (.int d3), .val (.int d3)] [(.int ((Int32.ofNat (own_acc (own_cnt [d3, d2, d1, d0]) nn.toInt.toNat (d3).toNatClampNeg)) + (Int32.ofNat (own_nx [d2, d1, d0] (d3).toNatClampNeg)))), (.ref bT)])) _
    refine XS.iload X234.here hx rfl (hb hby d1_133) rfl ?_
    show Steps p.tables e below (T234.setTop (mkF m 135 #[.val (.ref a1), .val (.ref a2), .val (.int nn), .val (.ref bN), .val (.int (3 : Int32)), .val (.int d3), .val (.int d3)] [(.int (3 : Int32)), (.int ((Int32.ofNat (own_acc (own_cnt [d3, d2, d1, d0]) nn.toInt.toNat (d3).toNatClampNeg)) + (Int32.ofNat (own_nx [d2, d1, d0] (d3).toNatClampNeg)))), (.ref bT)])) _
    exact k
  obtain ⟨cl245, Ar245, SS245, NN245, -⟩ := c240_234.cell
  have hj245 : ¬ ((Int32.ofNat (own_acc (own_cnt [d3, d2, d1, d0]) nn.toInt.toNat (d3).toNatClampNeg)) + (Int32.ofNat (own_nx [d2, d1, d0] (d3).toNatClampNeg))) < 0 ∧ ((Int32.ofNat (own_acc (own_cnt [d3, d2, d1, d0]) nn.toInt.toNat (d3).toNatClampNeg)) + (Int32.ofNat (own_nx [d2, d1, d0] (d3).toNatClampNeg))) < (4 : Int32) := own_small (hidx3)
  obtain ⟨T245, h245, X245, e245, W245, st245⟩ := stI X234 hx hZ e234 Ar245 (j := ((Int32.ofNat (own_acc (own_cnt [d3, d2, d1, d0]) nn.toInt.toNat (d3).toNatClampNeg)) + (Int32.ofNat (own_nx [d2, d1, d0] (d3).toNatClampNeg)))) (inb_of SS245 hj245) (g := (mkF m 135 #[.val (.ref a1), .val (.ref a2), .val (.int nn), .val (.ref bN), .val (.int (3 : Int32)), .val (.int d3), .val (.int d3)] [(.int (3 : Int32)), (.int ((Int32.ofNat (own_acc (own_cnt [d3, d2, d1, d0]) nn.toInt.toNat (d3).toNatClampNeg)) + (Int32.ofNat (own_nx [d2, d1, d0] (d3).toNatClampNeg)))), (.ref bT)])) rfl rfl (hb hby d1_135)
  obtain ⟨fn245, AV245⟩ : ∃ f, Arf Z h245 bT k94 .int (4 : Int32) f := ⟨_, c240_234.set rfl W245 hj245⟩
  have c246_245 := c235_234.wr W245
  have c247_245 := c236_234.other W245 (Or.inl ne_a1_bT)
  have c248_245 := c237_234.other W245 (Or.inl ne_a1_bT)
  have c249_245 := c238_234.other W245 ne_a2_bT
  have c250_245 := c239_234.other W245 ne_bS_bT
  have c251_245 := AV234.other W245 (Ne.symm ne_bT_bN)
  have zz252 := (Nat.le_trans zz241 (Keep.of_wr W245).1)
  have K253 := K242.wr W245 (Or.inr sz_bT)
  have N245 := Fr.snoc X245 N234 g_bT
  have pre254 : Go p e below (s₁.setTop (entryFrame m #[(.ref a1), (.ref a2), (.int nn)] 7)) (T245.setTop (mkF m 136 #[.val (.ref a1), .val (.ref a2), .val (.int nn), .val (.ref bN), .val (.int (3 : Int32)), .val (.int d3), .val (.int d3)] [])) := fun t k => pre244 t (st245 t k)
  obtain ⟨cl255, Ar255, -, SS255, NN255, -, -⟩ := (id c249_245)
  have pre256 : Go p e below (s₁.setTop (entryFrame m #[(.ref a1), (.ref a2), (.int nn)] 7)) (T245.setTop (mkF m 103 #[.val (.ref a1), .val (.ref a2), .val (.int nn), .val (.ref bN), .val (.int (4 : Int32)), .val (.int d3), .val (.int d3)] [(.int (4 : Int32)), (.int (4 : Int32))])) := by
    intro t k
    refine pre254 t ?_
    show Steps p.tables e below (T245.setTop (mkF m 136 #[.val (.ref a1), .val (.ref a2), .val (.int nn), .val (.ref bN), .val (.int (3 : Int32)), .val (.int d3), .val (.int d3)] [])) _
    refine XS.iinc X245.here hx rfl (hb hby d1_136) rfl (l' := #[.val (.ref a1), .val (.ref a2), .val (.int nn), .val (.ref bN), .val (.int (4 : Int32)), .val (.int d3), .val (.int d3)]) rfl ?_
    show Steps p.tables e below (T245.setTop (mkF m 139 #[.val (.ref a1), .val (.ref a2), .val (.int nn), .val (.ref bN), .val (.int (4 : Int32)), .val (.int d3), .val (.int d3)] [])) _
    refine XS.goto X245.here hx rfl (pc0 := 139) (pc' := 99) rfl (hb hby d1_139) (by decide) (by decide) ?_
    show Steps p.tables e below (T245.setTop (mkF m 99 #[.val (.ref a1), .val (.ref a2), .val (.int nn), .val (.ref bN), .val (.int (4 : Int32)), .val (.int d3), .val (.int d3)] [])) _
    refine XS.iload X245.here hx rfl (hb hby d1_99) rfl ?_
    show Steps p.tables e below (T245.setTop (mkF m 101 #[.val (.ref a1), .val (.ref a2), .val (.int nn), .val (.ref bN), .val (.int (4 : Int32)), .val (.int d3), .val (.int d3)] [(.int (4 : Int32))])) _
    refine XS.aloadN X245.here hx rfl (hb hby d1_101) rfl rfl ?_
    show Steps p.tables e below (T245.setTop (mkF m 102 #[.val (.ref a1), .val (.ref a2), .val (.int nn), .val (.ref bN), .val (.int (4 : Int32)), .val (.int d3), .val (.int d3)] [(.ref a2), (.int (4 : Int32))])) _
    refine X245.arraylength hx (by rw [e245]; exact Ar255.1) (State.isArrayOf_alike hZ.alike Ar255.2.1) (g := (mkF m 102 #[.val (.ref a1), .val (.ref a2), .val (.int nn), .val (.ref bN), .val (.int (4 : Int32)), .val (.int d3), .val (.int d3)] [(.ref a2), (.int (4 : Int32))])) rfl rfl (hb hby d1_102) _ ?_
    rw [len_of SS255 NN255]
    show Steps p.tables e below (T245.setTop (mkF m 103 #[.val (.ref a1), .val (.ref a2), .val (.int nn), .val (.ref bN), .val (.int (4 : Int32)), .val (.int d3), .val (.int d3)] [(.int (4 : Int32)), (.int (4 : Int32))])) _
    exact k
  have pre257 : Go p e below (s₁.setTop (entryFrame m #[(.ref a1), (.ref a2), (.int nn)] 7)) (T245.setTop (mkF m 142 #[.val (.ref a1), .val (.ref a2), .val (.int nn), .val (.ref bN), .val (.int (4 : Int32)), .val (.int d3), .val (.int d3)] [])) := by
    intro t k
    refine pre256 t ?_
    show Steps p.tables e below (T245.setTop (mkF m 103 #[.val (.ref a1), .val (.ref a2), .val (.int nn), .val (.ref bN), .val (.int (4 : Int32)), .val (.int d3), .val (.int d3)] [(.int (4 : Int32)), (.int (4 : Int32))])) _
    refine XS.icmpYes X245.here hx rfl (pc0 := 103) (pc' := 142) rfl (hb hby d1_103) rfl (XT.ii_ge_t (by decide : ¬ ((4 : Int32) < (4 : Int32)))) (by decide) (by decide) ?_
    show Steps p.tables e below (T245.setTop (mkF m 142 #[.val (.ref a1), .val (.ref a2), .val (.int nn), .val (.ref bN), .val (.int (4 : Int32)), .val (.int d3), .val (.int d3)] [])) _
    exact k
  obtain ⟨fs, hr, hrun, hended, hW, hsame⟩ := X245.leave (hlocks := hlk) (v := none) (fun _ => rfl)
  refine ⟨_, _, pre257 _ (X245.returnOut hx Bd.returns (hb hby d1_142) hr), hrun, hended, _, _, rfl, ?_, ⟨_, rfl⟩, hW, hsame.mono (by decide) (by decide)⟩
  show Q1 Z a1 a2 nn kk d0 d1 d2 d3 h0 n0 _ T245.heap _
  rw [e245]
  exact ⟨rfl, N245, K253, c246_245, bS, k5, c247_245, c250_245⟩
theorem ef_4 (m : MethodId) (a1 : Addr) (p1 : Int32) : entryFrame m #[(.ref a1), (.int p1)] 2 = mkF m 0 #[.val (.ref a1), .val (.int p1)] [] := by first | (simp [entryFrame, mkF, argsToLocals, Value.category]; done) | rfl
theorem d4_0 : decode prog_1_method_5_code 0 = .ok (.aload_n 0, 1) := by decide +kernel
theorem d4_1 : decode prog_1_method_5_code 1 = .ok (.getfield 7, 3) := by decide +kernel
theorem d4_4 : decode prog_1_method_5_code 4 = .ok (.iload_n 1, 1) := by decide +kernel
theorem d4_5 : decode prog_1_method_5_code 5 = .ok (.iconst 1, 1) := by decide +kernel
theorem d4_6 : decode prog_1_method_5_code 6 = .ok (.iadd, 1) := by decide +kernel
theorem d4_7 : decode prog_1_method_5_code 7 = .ok (.iaload, 1) := by decide +kernel
theorem d4_8 : decode prog_1_method_5_code 8 = .ok (.aload_n 0, 1) := by decide +kernel
theorem d4_9 : decode prog_1_method_5_code 9 = .ok (.getfield 7, 3) := by decide +kernel
theorem d4_12 : decode prog_1_method_5_code 12 = .ok (.iload_n 1, 1) := by decide +kernel
theorem d4_13 : decode prog_1_method_5_code 13 = .ok (.iaload, 1) := by decide +kernel
theorem d4_14 : decode prog_1_method_5_code 14 = .ok (.isub, 1) := by decide +kernel
theorem d4_15 : decode prog_1_method_5_code 15 = .ok (.ireturn, 1) := by decide +kernel
def fdeg (p1 : Int32) (cc : Nat → Nat) : Int32 := ((Int32.ofNat (cc ((p1 + (1 : Int32))).toNatClampNeg)) - (Int32.ofNat (cc (p1).toNatClampNeg)))
def Q4 (Z : State) (a1 : Addr) (p1 : Int32) (bS : Addr) (kS : ClassId) (nn : Int32) (cc : Nat → Nat) (h0 : Heap) (n0 : Nat) (v : Option Value) (h : Heap) (L : List Loc) : Prop := v = some (.int (fdeg p1 cc)) ∧ Fr n0 L ∧ h = h0
set_option maxRecDepth 65536 in
set_option maxHeartbeats 40000000 in
theorem rm4 (l : Launch) (Z : State) (a0 : Array Value) (hw : ∀ d ∈ tables_1, d.before a0 Z = true) (ws : List Jvm.Cond) (a1 : Addr) (p1 : Int32) (bS : Addr) (kS : ClassId) (nn : Int32) (cc : Nat → Nat) (h0 : Heap) (n0 : Nat) (Z0 : n0 ≤ h0.size) (F1 : Fld Z h0 a1 "com/example/kripketools/kripketools/Adjacency" "start" "[I" (.ref bS)) (AV : Arf Z h0 bS kS .int (nn + (1 : Int32)) (own_st cc)) (hbp : 0 ≤ p1.toInt ∧ p1.toInt < nn.toInt) (hn8 : nn.toInt ≤ 8) :
    MetFree l (⟨"com/example/kripketools/kripketools/Adjacency", "degree", "(I)I"⟩ : MethodName) (head1 (Jvm.Cond.code (⟨"com/example/kripketools/kripketools/Adjacency", "degree", "(I)I"⟩ : MethodName) prog_1_method_5_code 2 (some .int) :: ws) ({ frames := 0, cells := 0, slots := 0, locals := 0 } : Room)) (fun a U => a = #[(.ref a1), (.int p1)] ∧ Z.Warmed39 U.vm ∧ U.heap = h0) (fun _ _ _ _ _ => True) (fun _ U o U' => ∃ v L, o = .returned v ∧ Q4 Z a1 p1 bS kS nn cc h0 n0 v U'.heap L ∧ FrameEnd U o U' L ({ frames := 0, cells := 0, slots := 0, locals := 0 } : Room).cells ({ frames := 0, cells := 0, slots := 0, locals := 0 } : Room).slots) := by
  refine MetFree.of_bodySF (plainFor_of_name pn_com_example_kripketools_kripketools_Adjacency) hisR ?_
  intro p e s m args below meth c s₁ Bd hml0 hP hK
  obtain ⟨rfl, hZ, hh⟩ := hP
  have hx := Bd.exec
  have hby := Bd.bytes
  have hml : c.maxLocals = 2 := hml0
  have hown : s.vm.findClass "com/example/kripketools/kripketools/Adjacency" = some m.cls := findClass_of_methodNamed Bd.named
  have hnm := (name_of_methodNamed Bd.named Bd.method).1
  have hlk : meth.locks = false := BodyLoose.notSynchronized Bd
  have X0 : Stand p l e ({ frames := 0, cells := 0, slots := 0, locals := 0 } : Room) s m #[(.ref a1), (.int p1)] below meth c s₁ [] 0 0 := Stand.of_body Bd
  have e0 : s₁.heap = h0 := by rw [← hh, Bd.state]; rfl
  have N0 := Fr.nil n0
  have pre0 : Go p e below (s₁.setTop (entryFrame m #[(.ref a1), (.int p1)] 2)) (s₁.setTop (mkF m 0 #[.val (.ref a1), .val (.int p1)] [])) := fun t k => castTop (ef_4 m a1 p1) k
  have pre1 : Go p e below (s₁.setTop (entryFrame m #[(.ref a1), (.int p1)] 2)) (s₁.setTop (mkF m 1 #[.val (.ref a1), .val (.int p1)] [(.ref a1)])) := by
    intro t k
    refine pre0 t ?_
    show Steps p.tables e below (s₁.setTop (mkF m 0 #[.val (.ref a1), .val (.int p1)] [])) _
    refine XS.aloadN X0.here hx rfl (hb hby d4_0) rfl rfl ?_
    show Steps p.tables e below (s₁.setTop (mkF m 1 #[.val (.ref a1), .val (.int p1)] [(.ref a1)])) _
    exact k
  obtain ⟨T2, X2, e2, st2⟩ := getF X0 hx hZ hown (host := "") (Or.inl (hw _ (List.mem_of_getElem? (i := 11) rfl))) Via.refl e0 F1 (g := (mkF m 1 #[.val (.ref a1), .val (.int p1)] [(.ref a1)])) rfl rfl (hb hby d4_1)
  have pre3 : Go p e below (s₁.setTop (entryFrame m #[(.ref a1), (.int p1)] 2)) (T2.setTop (mkF m 4 #[.val (.ref a1), .val (.int p1)] [(.ref bS)])) := fun t k => pre1 t (st2 t k)
  obtain ⟨cl4, Ar4, SS4, NN4, HH4⟩ := AV.cell
  have hj4 : ¬ (p1 + (1 : Int32)) < 0 ∧ (p1 + (1 : Int32)) < (nn + (1 : Int32)) := (own_i1 hbp hn8)
  have hat4 : cl4.slots[((p1 + (1 : Int32))).toNatClampNeg]? = some (.int (Int32.ofNat (cc ((p1 + (1 : Int32))).toNatClampNeg))) := (HH4 _ (own_lt hj4)).trans (congrArg some rfl)
  have pre5 : Go p e below (s₁.setTop (entryFrame m #[(.ref a1), (.int p1)] 2)) (T2.setTop (mkF m 9 #[.val (.ref a1), .val (.int p1)] [(.ref a1), (.int (Int32.ofNat (cc ((p1 + (1 : Int32))).toNatClampNeg)))])) := by
    intro t k
    refine pre3 t ?_
    show Steps p.tables e below (T2.setTop (mkF m 4 #[.val (.ref a1), .val (.int p1)] [(.ref bS)])) _
    refine XS.iloadN X2.here hx rfl (hb hby d4_4) rfl ?_
    show Steps p.tables e below (T2.setTop (mkF m 5 #[.val (.ref a1), .val (.int p1)] [(.int p1), (.ref bS)])) _
    refine XS.iconst X2.here hx rfl (hb hby d4_5) ?_
    show Steps p.tables e below (T2.setTop (mkF m 6 #[.val (.ref a1), .val (.int p1)] [(.int (1 : Int32)), (.int p1), (.ref bS)])) _
    refine XS.iadd X2.here hx rfl (hb hby d4_6) rfl ?_
    show Steps p.tables e below (T2.setTop (mkF m 7 #[.val (.ref a1), .val (.int p1)] [(.int (p1 + (1 : Int32))), (.ref bS)])) _
    refine X2.iaload hx (j := (p1 + (1 : Int32))) (v := (.int (Int32.ofNat (cc ((p1 + (1 : Int32))).toNatClampNeg)))) (by rw [e2]; exact Ar4.1) (State.isArrayOf_alike hZ.alike Ar4.2.1) Ar4.2.2 (inb_of SS4 hj4) hat4 (g := (mkF m 7 #[.val (.ref a1), .val (.int p1)] [(.int (p1 + (1 : Int32))), (.ref bS)])) rfl rfl (hb hby d4_7) _ ?_
    show Steps p.tables e below (T2.setTop (mkF m 8 #[.val (.ref a1), .val (.int p1)] [(.int (Int32.ofNat (cc ((p1 + (1 : Int32))).toNatClampNeg)))])) _
    refine XS.aloadN X2.here hx rfl (hb hby d4_8) rfl rfl ?_
    show Steps p.tables e below (T2.setTop (mkF m 9 #[.val (.ref a1), .val (.int p1)] [(.ref a1), (.int (Int32.ofNat (cc ((p1 + (1 : Int32))).toNatClampNeg)))])) _
    exact k
  obtain ⟨T6, X6, e6, st6⟩ := getF X2 hx hZ hown (host := "") (Or.inl (hw _ (List.mem_of_getElem? (i := 11) rfl))) Via.refl e2 F1 (g := (mkF m 9 #[.val (.ref a1), .val (.int p1)] [(.ref a1), (.int (Int32.ofNat (cc ((p1 + (1 : Int32))).toNatClampNeg)))])) rfl rfl (hb hby d4_9)
  have pre7 : Go p e below (s₁.setTop (entryFrame m #[(.ref a1), (.int p1)] 2)) (T6.setTop (mkF m 12 #[.val (.ref a1), .val (.int p1)] [(.ref bS), (.int (Int32.ofNat (cc ((p1 + (1 : Int32))).toNatClampNeg)))])) := fun t k => pre5 t (st6 t k)
  obtain ⟨cl8, Ar8, SS8, NN8, HH8⟩ := AV.cell
  have hj8 : ¬ p1 < 0 ∧ p1 < (nn + (1 : Int32)) := (own_i0 hbp hn8)
  have hat8 : cl8.slots[(p1).toNatClampNeg]? = some (.int (Int32.ofNat (cc (p1).toNatClampNeg))) := (HH8 _ (own_lt hj8)).trans (congrArg some rfl)
  have pre9 : Go p e below (s₁.setTop (entryFrame m #[(.ref a1), (.int p1)] 2)) (T6.setTop (mkF m 15 #[.val (.ref a1), .val (.int p1)] [(.int ((Int32.ofNat (cc ((p1 + (1 : Int32))).toNatClampNeg)) - (Int32.ofNat (cc (p1).toNatClampNeg))))])) := by
    intro t k
    refine pre7 t ?_
    show Steps p.tables e below (T6.setTop (mkF m 12 #[.val (.ref a1), .val (.int p1)] [(.ref bS), (.int (Int32.ofNat (cc ((p1 + (1 : Int32))).toNatClampNeg)))])) _
    refine XS.iloadN X6.here hx rfl (hb hby d4_12) rfl ?_
    show Steps p.tables e below (T6.setTop (mkF m 13 #[.val (.ref a1), .val (.int p1)] [(.int p1), (.ref bS), (.int (Int32.ofNat (cc ((p1 + (1 : Int32))).toNatClampNeg)))])) _
    refine X6.iaload hx (j := p1) (v := (.int (Int32.ofNat (cc (p1).toNatClampNeg)))) (by rw [e6]; exact Ar8.1) (State.isArrayOf_alike hZ.alike Ar8.2.1) Ar8.2.2 (inb_of SS8 hj8) hat8 (g := (mkF m 13 #[.val (.ref a1), .val (.int p1)] [(.int p1), (.ref bS), (.int (Int32.ofNat (cc ((p1 + (1 : Int32))).toNatClampNeg)))])) rfl rfl (hb hby d4_13) _ ?_
    show Steps p.tables e below (T6.setTop (mkF m 14 #[.val (.ref a1), .val (.int p1)] [(.int (Int32.ofNat (cc (p1).toNatClampNeg))), (.int (Int32.ofNat (cc ((p1 + (1 : Int32))).toNatClampNeg)))])) _
    refine XS.isub X6.here hx rfl (hb hby d4_14) rfl ?_
    show Steps p.tables e below (T6.setTop (mkF m 15 #[.val (.ref a1), .val (.int p1)] [(.int ((Int32.ofNat (cc ((p1 + (1 : Int32))).toNatClampNeg)) - (Int32.ofNat (cc (p1).toNatClampNeg))))])) _
    exact k
  obtain ⟨fs, hr, hrun, hended, hW, hsame⟩ := X6.leave (hlocks := hlk) (v := some (.int ((Int32.ofNat (cc ((p1 + (1 : Int32))).toNatClampNeg)) - (Int32.ofNat (cc (p1).toNatClampNeg))))) (fun h => by rw [Bd.returns] at h; cases h)
  refine ⟨_, _, pre9 _ (retI X6 hx Bd.returns (hb hby d4_15) hr), hrun, hended, _, _, rfl, ?_, ⟨_, rfl⟩, hW, hsame.mono (by decide) (by decide)⟩
  show Q4 Z a1 p1 bS kS nn cc h0 n0 _ T6.heap _
  rw [e6]
  exact ⟨congrArg some (congrArg Value.int (show ((Int32.ofNat (cc ((p1 + (1 : Int32))).toNatClampNeg)) - (Int32.ofNat (cc (p1).toNatClampNeg))) = fdeg p1 cc from by rw [fdeg])), N0, rfl⟩
theorem own_nn {x n : Int32} (h : n = (1 : Int32) + (x &&& (7 : Int32))) : 1 ≤ n.toInt ∧ n.toInt ≤ 8 := by
  have e := Jvm.Kit.i32_mask x 7 (k := 3) (by decide) (by decide)
  have c1 : (1 : Int32).toInt = 1 := rfl
  rw [h, Jvm.Kit.i32_add (by omega) (by omega)]; omega
theorem own_nz {n : Int32} (h : 1 ≤ n.toInt) : n ≠ 0 := fun e => by rw [e] at h; exact absurd h (by decide)
theorem own_b {x n e : Int32} (h : 1 ≤ n.toInt) (he : e = (x &&& (2147483647 : Int32)) % n) : 0 ≤ e.toInt ∧ e.toInt < n.toInt := by
  rw [he]; exact own_rem x n (by omega)
theorem own_hit {e st n : Int32} (he : 0 ≤ e.toInt ∧ e.toInt < n.toInt) (hs : 0 ≤ st.toInt ∧ st.toInt < n.toInt) (hn : n.toInt ≤ 8) : fhit e st = Int32.ofNat (if e.toNatClampNeg = st.toNatClampNeg then 1 else 0) := by
  unfold fhit
  have d1 : e.toNatClampNeg = e.toInt.toNat := rfl
  have d2 : st.toNatClampNeg = st.toInt.toNat := rfl
  by_cases h : e = st
  · rw [if_pos h, h, if_pos rfl]; rfl
  · rw [if_neg h, if_neg (fun q => h (Int32.toInt_inj.mp (by omega)))]; rfl
theorem own_deg {nn st d0 d1 d2 d3 : Int32} (hn : 1 ≤ nn.toInt ∧ nn.toInt ≤ 8) (hs : 0 ≤ st.toInt ∧ st.toInt < nn.toInt) (hb0 : 0 ≤ d0.toInt ∧ d0.toInt < nn.toInt) (hb1 : 0 ≤ d1.toInt ∧ d1.toInt < nn.toInt) (hb2 : 0 ≤ d2.toInt ∧ d2.toInt < nn.toInt) (hb3 : 0 ≤ d3.toInt ∧ d3.toInt < nn.toInt) :
    fdeg st (own_acc (own_cnt [d3, d2, d1, d0]) nn.toInt.toNat) = (((fhit d0 st + fhit d1 st) + fhit d2 st) + fhit d3 st) := by
  have hn8 := hn.2
  have hq : ∀ e ∈ [d3, d2, d1, d0], 1 ≤ (e + (1 : Int32)).toNatClampNeg := by
    intro e he
    simp only [List.mem_cons, List.not_mem_nil, or_false] at he
    rcases he with rfl | rfl | rfl | rfl
    · rw [(own_q hb3.1 hb3.2 hn8).2]; omega
    · rw [(own_q hb2.1 hb2.2 hn8).2]; omega
    · rw [(own_q hb1.1 hb1.2 hn8).2]; omega
    · rw [(own_q hb0.1 hb0.2 hn8).2]; omega
  have es : st.toNatClampNeg = st.toInt.toNat := rfl
  unfold fdeg
  rw [(own_q hs.1 hs.2 hn8).2, own_acc_eq _ hq, own_acc_eq _ hq, if_pos (by omega), if_pos (by omega), own_hit hb0 hs hn8, own_hit hb1 hs hn8, own_hit hb2 hs hn8, own_hit hb3 hs hn8]
  rw [← Int32.ofNat_add, ← Int32.ofNat_add, ← Int32.ofNat_add]
  have key : own_le [d3, d2, d1, d0] (st.toNatClampNeg + 1) = own_le [d3, d2, d1, d0] st.toNatClampNeg + ((((if d0.toNatClampNeg = st.toNatClampNeg then 1 else 0) + (if d1.toNatClampNeg = st.toNatClampNeg then 1 else 0)) + (if d2.toNatClampNeg = st.toNatClampNeg then 1 else 0)) + (if d3.toNatClampNeg = st.toNatClampNeg then 1 else 0)) := by
    simp only [own_le, (own_q hb0.1 hb0.2 hn8).2, (own_q hb1.1 hb1.2 hn8).2, (own_q hb2.1 hb2.2 hn8).2, (own_q hb3.1 hb3.2 hn8).2]
    have one : ∀ a b : Nat, (if a + 1 ≤ b + 1 then 1 else 0) = (if a + 1 ≤ b then 1 else 0) + (if a = b then 1 else 0) := fun a b => by (repeat' split) <;> omega
    rw [one, one, one, one]; omega
  rw [key, Int32.ofNat_add]
  generalize Int32.ofNat (own_le [d3, d2, d1, d0] st.toNatClampNeg) = A
  generalize Int32.ofNat _ = B
  rw [Int32.add_comm, Int32.add_sub_cancel]
theorem ef_0 (m : MethodId) (x0 : Int32) (x1 : Int32) (x2 : Int32) (x3 : Int32) (x4 : Int32) (x5 : Int32) : entryFrame m #[(.int x0), (.int x1), (.int x2), (.int x3), (.int x4), (.int x5)] maxLocals = mkF m 0 #[.val (.int x0), .val (.int x1), .val (.int x2), .val (.int x3), .val (.int x4), .val (.int x5), .unset, .unset, .unset, .unset, .unset, .unset, .unset, .unset, .unset] [] := by first | (simp [entryFrame, mkF, argsToLocals, Value.category, maxLocals]; done) | rfl
theorem pd_3 : parseMethodDescriptor "([II)V" = some ⟨[(.array .int), .int], none⟩ := by decide +kernel
theorem pd_4 : parseMethodDescriptor "(II)I" = some ⟨[.int, .int], some .int⟩ := by decide +kernel
theorem pd_5 : parseMethodDescriptor "(I)I" = some ⟨[.int], some .int⟩ := by decide +kernel
def Q0 (Z : State) (x0 : Int32) (x1 : Int32) (x2 : Int32) (x3 : Int32) (x4 : Int32) (x5 : Int32) (h0 : Heap) (n0 : Nat) (v : Option Value) (h : Heap) (L : List Loc) : Prop := v = some (.int 1) ∧ Fr n0 L
set_option maxRecDepth 65536 in
set_option maxHeartbeats 40000000 in
theorem rm0 (l : Launch) (Z : State) (a0 : Array Value) (hw : ∀ d ∈ tables_1, d.before a0 Z = true) (ws : List Jvm.Cond) (x0 : Int32) (x1 : Int32) (x2 : Int32) (x3 : Int32) (x4 : Int32) (x5 : Int32) (h0 : Heap) (n0 : Nat) (Z0 : n0 ≤ h0.size) :
    MetFree l x (head1 (Jvm.Cond.code x code maxLocals ret :: ws) room_1) (fun a U => a = #[(.int x0), (.int x1), (.int x2), (.int x3), (.int x4), (.int x5)] ∧ Z.Warmed39 U.vm ∧ U.heap = h0) (fun _ _ _ _ _ => True) (fun _ U o U' => ∃ v L, o = .returned v ∧ Q0 Z x0 x1 x2 x3 x4 x5 h0 n0 v U'.heap L ∧ FrameEnd U o U' L 24 128) := by
  refine MetFree.of_bodySF (plainFor_of_name pn_com_example_kripketools_kripketools_AdjacencyDegreePinLaw) hisR ?_
  intro p e s m args below meth c s₁ Bd hml0 hP hK
  obtain ⟨rfl, hZ, hh⟩ := hP
  have hx := Bd.exec
  have hby := Bd.bytes
  have hml : c.maxLocals = 15 := hml0
  have hown : s.vm.findClass "com/example/kripketools/kripketools/AdjacencyDegreePinLaw" = some m.cls := findClass_of_methodNamed Bd.named
  have hnm := (name_of_methodNamed Bd.named Bd.method).1
  have hlk : meth.locks = false := BodyLoose.notSynchronized Bd
  have X0 : Stand p l e room_1 s m #[(.int x0), (.int x1), (.int x2), (.int x3), (.int x4), (.int x5)] below meth c s₁ [] 0 0 := Stand.of_body Bd
  have e0 : s₁.heap = h0 := by rw [← hh, Bd.state]; rfl
  have N0 := Fr.nil n0
  have pre0 : Go p e below (s₁.setTop (entryFrame m #[(.int x0), (.int x1), (.int x2), (.int x3), (.int x4), (.int x5)] maxLocals)) (s₁.setTop (mkF m 0 #[.val (.int x0), .val (.int x1), .val (.int x2), .val (.int x3), .val (.int x4), .val (.int x5), .unset, .unset, .unset, .unset, .unset, .unset, .unset, .unset, .unset] [])) := fun t k => castTop (ef_0 m x0 x1 x2 x3 x4 x5) k
  have pre1 : Go p e below (s₁.setTop (entryFrame m #[(.int x0), (.int x1), (.int x2), (.int x3), (.int x4), (.int x5)] maxLocals)) (s₁.setTop (mkF m 7 #[.val (.int x0), .val (.int x1), .val (.int x2), .val (.int x3), .val (.int x4), .val (.int x5), .unset, .unset, .unset, .unset, .unset, .unset, .unset, .unset, .unset] [(.int ((1 : Int32) + (x4 &&& (7 : Int32))))])) := by
    intro t k
    refine pre0 t ?_
    show Steps p.tables e below (s₁.setTop (mkF m 0 #[.val (.int x0), .val (.int x1), .val (.int x2), .val (.int x3), .val (.int x4), .val (.int x5), .unset, .unset, .unset, .unset, .unset, .unset, .unset, .unset, .unset] [])) _
    refine XS.iconst X0.here hx rfl (hb hby at_0) ?_
    show Steps p.tables e below (s₁.setTop (mkF m 1 #[.val (.int x0), .val (.int x1), .val (.int x2), .val (.int x3), .val (.int x4), .val (.int x5), .unset, .unset, .unset, .unset, .unset, .unset, .unset, .unset, .unset] [(.int (1 : Int32))])) _
    refine XS.iload X0.here hx rfl (hb hby at_1) rfl ?_
    show Steps p.tables e below (s₁.setTop (mkF m 3 #[.val (.int x0), .val (.int x1), .val (.int x2), .val (.int x3), .val (.int x4), .val (.int x5), .unset, .unset, .unset, .unset, .unset, .unset, .unset, .unset, .unset] [(.int x4), (.int (1 : Int32))])) _
    refine XS.bipush X0.here hx rfl (hb hby at_3) ?_
    show Steps p.tables e below (s₁.setTop (mkF m 5 #[.val (.int x0), .val (.int x1), .val (.int x2), .val (.int x3), .val (.int x4), .val (.int x5), .unset, .unset, .unset, .unset, .unset, .unset, .unset, .unset, .unset] [(.int (7 : Int32)), (.int x4), (.int (1 : Int32))])) _
    refine XS.iand X0.here hx rfl (hb hby at_5) rfl ?_
    show Steps p.tables e below (s₁.setTop (mkF m 6 #[.val (.int x0), .val (.int x1), .val (.int x2), .val (.int x3), .val (.int x4), .val (.int x5), .unset, .unset, .unset, .unset, .unset, .unset, .unset, .unset, .unset] [(.int (x4 &&& (7 : Int32))), (.int (1 : Int32))])) _
    refine XS.iadd X0.here hx rfl (hb hby at_6) rfl ?_
    show Steps p.tables e below (s₁.setTop (mkF m 7 #[.val (.int x0), .val (.int x1), .val (.int x2), .val (.int x3), .val (.int x4), .val (.int x5), .unset, .unset, .unset, .unset, .unset, .unset, .unset, .unset, .unset] [(.int ((1 : Int32) + (x4 &&& (7 : Int32))))])) _
    exact k
  obtain ⟨nn, h_nn⟩ : ∃ z : Int32, z = ((1 : Int32) + (x4 &&& (7 : Int32))) := ⟨_, rfl⟩
  have pre2 : Go p e below (s₁.setTop (entryFrame m #[(.int x0), (.int x1), (.int x2), (.int x3), (.int x4), (.int x5)] maxLocals)) (s₁.setTop (mkF m 7 #[.val (.int x0), .val (.int x1), .val (.int x2), .val (.int x3), .val (.int x4), .val (.int x5), .unset, .unset, .unset, .unset, .unset, .unset, .unset, .unset, .unset] [(.int nn)])) := by rw [h_nn]; exact pre1
  have hnn := own_nn h_nn
  have pre3 : Go p e below (s₁.setTop (entryFrame m #[(.int x0), (.int x1), (.int x2), (.int x3), (.int x4), (.int x5)] maxLocals)) (s₁.setTop (mkF m 16 #[.val (.int x0), .val (.int x1), .val (.int x2), .val (.int x3), .val (.int x4), .val (.int x5), .val (.int nn), .unset, .unset, .unset, .unset, .unset, .unset, .unset, .unset] [(.int ((x0 &&& (2147483647 : Int32)) % nn))])) := by
    intro t k
    refine pre2 t ?_
    show Steps p.tables e below (s₁.setTop (mkF m 7 #[.val (.int x0), .val (.int x1), .val (.int x2), .val (.int x3), .val (.int x4), .val (.int x5), .unset, .unset, .unset, .unset, .unset, .unset, .unset, .unset, .unset] [(.int nn)])) _
    refine XS.istore X0.here hx rfl (hb hby at_7) rfl (l' := #[.val (.int x0), .val (.int x1), .val (.int x2), .val (.int x3), .val (.int x4), .val (.int x5), .val (.int nn), .unset, .unset, .unset, .unset, .unset, .unset, .unset, .unset]) rfl ?_
    show Steps p.tables e below (s₁.setTop (mkF m 9 #[.val (.int x0), .val (.int x1), .val (.int x2), .val (.int x3), .val (.int x4), .val (.int x5), .val (.int nn), .unset, .unset, .unset, .unset, .unset, .unset, .unset, .unset] [])) _
    refine XS.iloadN X0.here hx rfl (hb hby at_9) rfl ?_
    show Steps p.tables e below (s₁.setTop (mkF m 10 #[.val (.int x0), .val (.int x1), .val (.int x2), .val (.int x3), .val (.int x4), .val (.int x5), .val (.int nn), .unset, .unset, .unset, .unset, .unset, .unset, .unset, .unset] [(.int x0)])) _
    refine X0.ldcI hx hown (mvT hZ (hw _ (List.mem_of_getElem? (i := 0) rfl))) (g := (mkF m 10 #[.val (.int x0), .val (.int x1), .val (.int x2), .val (.int x3), .val (.int x4), .val (.int x5), .val (.int nn), .unset, .unset, .unset, .unset, .unset, .unset, .unset, .unset] [(.int x0)])) rfl (hb hby at_10) ?_
    show Steps p.tables e below (s₁.setTop (mkF m 12 #[.val (.int x0), .val (.int x1), .val (.int x2), .val (.int x3), .val (.int x4), .val (.int x5), .val (.int nn), .unset, .unset, .unset, .unset, .unset, .unset, .unset, .unset] [(.int (2147483647 : Int32)), (.int x0)])) _
    refine XS.iand X0.here hx rfl (hb hby at_12) rfl ?_
    show Steps p.tables e below (s₁.setTop (mkF m 13 #[.val (.int x0), .val (.int x1), .val (.int x2), .val (.int x3), .val (.int x4), .val (.int x5), .val (.int nn), .unset, .unset, .unset, .unset, .unset, .unset, .unset, .unset] [(.int (x0 &&& (2147483647 : Int32)))])) _
    refine XS.iload X0.here hx rfl (hb hby at_13) rfl ?_
    show Steps p.tables e below (s₁.setTop (mkF m 15 #[.val (.int x0), .val (.int x1), .val (.int x2), .val (.int x3), .val (.int x4), .val (.int x5), .val (.int nn), .unset, .unset, .unset, .unset, .unset, .unset, .unset, .unset] [(.int nn), (.int (x0 &&& (2147483647 : Int32)))])) _
    refine own_irem X0.here hx rfl (hb hby at_15) rfl (own_nz hnn.1) ?_
    show Steps p.tables e below (s₁.setTop (mkF m 16 #[.val (.int x0), .val (.int x1), .val (.int x2), .val (.int x3), .val (.int x4), .val (.int x5), .val (.int nn), .unset, .unset, .unset, .unset, .unset, .unset, .unset, .unset] [(.int ((x0 &&& (2147483647 : Int32)) % nn))])) _
    exact k
  obtain ⟨d0, h_d0⟩ : ∃ z : Int32, z = ((x0 &&& (2147483647 : Int32)) % nn) := ⟨_, rfl⟩
  have pre4 : Go p e below (s₁.setTop (entryFrame m #[(.int x0), (.int x1), (.int x2), (.int x3), (.int x4), (.int x5)] maxLocals)) (s₁.setTop (mkF m 16 #[.val (.int x0), .val (.int x1), .val (.int x2), .val (.int x3), .val (.int x4), .val (.int x5), .val (.int nn), .unset, .unset, .unset, .unset, .unset, .unset, .unset, .unset] [(.int d0)])) := by rw [h_d0]; exact pre3
  have hb0 := own_b hnn.1 h_d0
  have pre5 : Go p e below (s₁.setTop (entryFrame m #[(.int x0), (.int x1), (.int x2), (.int x3), (.int x4), (.int x5)] maxLocals)) (s₁.setTop (mkF m 25 #[.val (.int x0), .val (.int x1), .val (.int x2), .val (.int x3), .val (.int x4), .val (.int x5), .val (.int nn), .val (.int d0), .unset, .unset, .unset, .unset, .unset, .unset, .unset] [(.int ((x1 &&& (2147483647 : Int32)) % nn))])) := by
    intro t k
    refine pre4 t ?_
    show Steps p.tables e below (s₁.setTop (mkF m 16 #[.val (.int x0), .val (.int x1), .val (.int x2), .val (.int x3), .val (.int x4), .val (.int x5), .val (.int nn), .unset, .unset, .unset, .unset, .unset, .unset, .unset, .unset] [(.int d0)])) _
    refine XS.istore X0.here hx rfl (hb hby at_16) rfl (l' := #[.val (.int x0), .val (.int x1), .val (.int x2), .val (.int x3), .val (.int x4), .val (.int x5), .val (.int nn), .val (.int d0), .unset, .unset, .unset, .unset, .unset, .unset, .unset]) rfl ?_
    show Steps p.tables e below (s₁.setTop (mkF m 18 #[.val (.int x0), .val (.int x1), .val (.int x2), .val (.int x3), .val (.int x4), .val (.int x5), .val (.int nn), .val (.int d0), .unset, .unset, .unset, .unset, .unset, .unset, .unset] [])) _
    refine XS.iloadN X0.here hx rfl (hb hby at_18) rfl ?_
    show Steps p.tables e below (s₁.setTop (mkF m 19 #[.val (.int x0), .val (.int x1), .val (.int x2), .val (.int x3), .val (.int x4), .val (.int x5), .val (.int nn), .val (.int d0), .unset, .unset, .unset, .unset, .unset, .unset, .unset] [(.int x1)])) _
    refine X0.ldcI hx hown (mvT hZ (hw _ (List.mem_of_getElem? (i := 0) rfl))) (g := (mkF m 19 #[.val (.int x0), .val (.int x1), .val (.int x2), .val (.int x3), .val (.int x4), .val (.int x5), .val (.int nn), .val (.int d0), .unset, .unset, .unset, .unset, .unset, .unset, .unset] [(.int x1)])) rfl (hb hby at_19) ?_
    show Steps p.tables e below (s₁.setTop (mkF m 21 #[.val (.int x0), .val (.int x1), .val (.int x2), .val (.int x3), .val (.int x4), .val (.int x5), .val (.int nn), .val (.int d0), .unset, .unset, .unset, .unset, .unset, .unset, .unset] [(.int (2147483647 : Int32)), (.int x1)])) _
    refine XS.iand X0.here hx rfl (hb hby at_21) rfl ?_
    show Steps p.tables e below (s₁.setTop (mkF m 22 #[.val (.int x0), .val (.int x1), .val (.int x2), .val (.int x3), .val (.int x4), .val (.int x5), .val (.int nn), .val (.int d0), .unset, .unset, .unset, .unset, .unset, .unset, .unset] [(.int (x1 &&& (2147483647 : Int32)))])) _
    refine XS.iload X0.here hx rfl (hb hby at_22) rfl ?_
    show Steps p.tables e below (s₁.setTop (mkF m 24 #[.val (.int x0), .val (.int x1), .val (.int x2), .val (.int x3), .val (.int x4), .val (.int x5), .val (.int nn), .val (.int d0), .unset, .unset, .unset, .unset, .unset, .unset, .unset] [(.int nn), (.int (x1 &&& (2147483647 : Int32)))])) _
    refine own_irem X0.here hx rfl (hb hby at_24) rfl (own_nz hnn.1) ?_
    show Steps p.tables e below (s₁.setTop (mkF m 25 #[.val (.int x0), .val (.int x1), .val (.int x2), .val (.int x3), .val (.int x4), .val (.int x5), .val (.int nn), .val (.int d0), .unset, .unset, .unset, .unset, .unset, .unset, .unset] [(.int ((x1 &&& (2147483647 : Int32)) % nn))])) _
    exact k
  obtain ⟨d1, h_d1⟩ : ∃ z : Int32, z = ((x1 &&& (2147483647 : Int32)) % nn) := ⟨_, rfl⟩
  have pre6 : Go p e below (s₁.setTop (entryFrame m #[(.int x0), (.int x1), (.int x2), (.int x3), (.int x4), (.int x5)] maxLocals)) (s₁.setTop (mkF m 25 #[.val (.int x0), .val (.int x1), .val (.int x2), .val (.int x3), .val (.int x4), .val (.int x5), .val (.int nn), .val (.int d0), .unset, .unset, .unset, .unset, .unset, .unset, .unset] [(.int d1)])) := by rw [h_d1]; exact pre5
  have hb1 := own_b hnn.1 h_d1
  have pre7 : Go p e below (s₁.setTop (entryFrame m #[(.int x0), (.int x1), (.int x2), (.int x3), (.int x4), (.int x5)] maxLocals)) (s₁.setTop (mkF m 34 #[.val (.int x0), .val (.int x1), .val (.int x2), .val (.int x3), .val (.int x4), .val (.int x5), .val (.int nn), .val (.int d0), .val (.int d1), .unset, .unset, .unset, .unset, .unset, .unset] [(.int ((x2 &&& (2147483647 : Int32)) % nn))])) := by
    intro t k
    refine pre6 t ?_
    show Steps p.tables e below (s₁.setTop (mkF m 25 #[.val (.int x0), .val (.int x1), .val (.int x2), .val (.int x3), .val (.int x4), .val (.int x5), .val (.int nn), .val (.int d0), .unset, .unset, .unset, .unset, .unset, .unset, .unset] [(.int d1)])) _
    refine XS.istore X0.here hx rfl (hb hby at_25) rfl (l' := #[.val (.int x0), .val (.int x1), .val (.int x2), .val (.int x3), .val (.int x4), .val (.int x5), .val (.int nn), .val (.int d0), .val (.int d1), .unset, .unset, .unset, .unset, .unset, .unset]) rfl ?_
    show Steps p.tables e below (s₁.setTop (mkF m 27 #[.val (.int x0), .val (.int x1), .val (.int x2), .val (.int x3), .val (.int x4), .val (.int x5), .val (.int nn), .val (.int d0), .val (.int d1), .unset, .unset, .unset, .unset, .unset, .unset] [])) _
    refine XS.iloadN X0.here hx rfl (hb hby at_27) rfl ?_
    show Steps p.tables e below (s₁.setTop (mkF m 28 #[.val (.int x0), .val (.int x1), .val (.int x2), .val (.int x3), .val (.int x4), .val (.int x5), .val (.int nn), .val (.int d0), .val (.int d1), .unset, .unset, .unset, .unset, .unset, .unset] [(.int x2)])) _
    refine X0.ldcI hx hown (mvT hZ (hw _ (List.mem_of_getElem? (i := 0) rfl))) (g := (mkF m 28 #[.val (.int x0), .val (.int x1), .val (.int x2), .val (.int x3), .val (.int x4), .val (.int x5), .val (.int nn), .val (.int d0), .val (.int d1), .unset, .unset, .unset, .unset, .unset, .unset] [(.int x2)])) rfl (hb hby at_28) ?_
    show Steps p.tables e below (s₁.setTop (mkF m 30 #[.val (.int x0), .val (.int x1), .val (.int x2), .val (.int x3), .val (.int x4), .val (.int x5), .val (.int nn), .val (.int d0), .val (.int d1), .unset, .unset, .unset, .unset, .unset, .unset] [(.int (2147483647 : Int32)), (.int x2)])) _
    refine XS.iand X0.here hx rfl (hb hby at_30) rfl ?_
    show Steps p.tables e below (s₁.setTop (mkF m 31 #[.val (.int x0), .val (.int x1), .val (.int x2), .val (.int x3), .val (.int x4), .val (.int x5), .val (.int nn), .val (.int d0), .val (.int d1), .unset, .unset, .unset, .unset, .unset, .unset] [(.int (x2 &&& (2147483647 : Int32)))])) _
    refine XS.iload X0.here hx rfl (hb hby at_31) rfl ?_
    show Steps p.tables e below (s₁.setTop (mkF m 33 #[.val (.int x0), .val (.int x1), .val (.int x2), .val (.int x3), .val (.int x4), .val (.int x5), .val (.int nn), .val (.int d0), .val (.int d1), .unset, .unset, .unset, .unset, .unset, .unset] [(.int nn), (.int (x2 &&& (2147483647 : Int32)))])) _
    refine own_irem X0.here hx rfl (hb hby at_33) rfl (own_nz hnn.1) ?_
    show Steps p.tables e below (s₁.setTop (mkF m 34 #[.val (.int x0), .val (.int x1), .val (.int x2), .val (.int x3), .val (.int x4), .val (.int x5), .val (.int nn), .val (.int d0), .val (.int d1), .unset, .unset, .unset, .unset, .unset, .unset] [(.int ((x2 &&& (2147483647 : Int32)) % nn))])) _
    exact k
  obtain ⟨d2, h_d2⟩ : ∃ z : Int32, z = ((x2 &&& (2147483647 : Int32)) % nn) := ⟨_, rfl⟩
  have pre8 : Go p e below (s₁.setTop (entryFrame m #[(.int x0), (.int x1), (.int x2), (.int x3), (.int x4), (.int x5)] maxLocals)) (s₁.setTop (mkF m 34 #[.val (.int x0), .val (.int x1), .val (.int x2), .val (.int x3), .val (.int x4), .val (.int x5), .val (.int nn), .val (.int d0), .val (.int d1), .unset, .unset, .unset, .unset, .unset, .unset] [(.int d2)])) := by rw [h_d2]; exact pre7
  have hb2 := own_b hnn.1 h_d2
  have pre9 : Go p e below (s₁.setTop (entryFrame m #[(.int x0), (.int x1), (.int x2), (.int x3), (.int x4), (.int x5)] maxLocals)) (s₁.setTop (mkF m 43 #[.val (.int x0), .val (.int x1), .val (.int x2), .val (.int x3), .val (.int x4), .val (.int x5), .val (.int nn), .val (.int d0), .val (.int d1), .val (.int d2), .unset, .unset, .unset, .unset, .unset] [(.int ((x3 &&& (2147483647 : Int32)) % nn))])) := by
    intro t k
    refine pre8 t ?_
    show Steps p.tables e below (s₁.setTop (mkF m 34 #[.val (.int x0), .val (.int x1), .val (.int x2), .val (.int x3), .val (.int x4), .val (.int x5), .val (.int nn), .val (.int d0), .val (.int d1), .unset, .unset, .unset, .unset, .unset, .unset] [(.int d2)])) _
    refine XS.istore X0.here hx rfl (hb hby at_34) rfl (l' := #[.val (.int x0), .val (.int x1), .val (.int x2), .val (.int x3), .val (.int x4), .val (.int x5), .val (.int nn), .val (.int d0), .val (.int d1), .val (.int d2), .unset, .unset, .unset, .unset, .unset]) rfl ?_
    show Steps p.tables e below (s₁.setTop (mkF m 36 #[.val (.int x0), .val (.int x1), .val (.int x2), .val (.int x3), .val (.int x4), .val (.int x5), .val (.int nn), .val (.int d0), .val (.int d1), .val (.int d2), .unset, .unset, .unset, .unset, .unset] [])) _
    refine XS.iloadN X0.here hx rfl (hb hby at_36) rfl ?_
    show Steps p.tables e below (s₁.setTop (mkF m 37 #[.val (.int x0), .val (.int x1), .val (.int x2), .val (.int x3), .val (.int x4), .val (.int x5), .val (.int nn), .val (.int d0), .val (.int d1), .val (.int d2), .unset, .unset, .unset, .unset, .unset] [(.int x3)])) _
    refine X0.ldcI hx hown (mvT hZ (hw _ (List.mem_of_getElem? (i := 0) rfl))) (g := (mkF m 37 #[.val (.int x0), .val (.int x1), .val (.int x2), .val (.int x3), .val (.int x4), .val (.int x5), .val (.int nn), .val (.int d0), .val (.int d1), .val (.int d2), .unset, .unset, .unset, .unset, .unset] [(.int x3)])) rfl (hb hby at_37) ?_
    show Steps p.tables e below (s₁.setTop (mkF m 39 #[.val (.int x0), .val (.int x1), .val (.int x2), .val (.int x3), .val (.int x4), .val (.int x5), .val (.int nn), .val (.int d0), .val (.int d1), .val (.int d2), .unset, .unset, .unset, .unset, .unset] [(.int (2147483647 : Int32)), (.int x3)])) _
    refine XS.iand X0.here hx rfl (hb hby at_39) rfl ?_
    show Steps p.tables e below (s₁.setTop (mkF m 40 #[.val (.int x0), .val (.int x1), .val (.int x2), .val (.int x3), .val (.int x4), .val (.int x5), .val (.int nn), .val (.int d0), .val (.int d1), .val (.int d2), .unset, .unset, .unset, .unset, .unset] [(.int (x3 &&& (2147483647 : Int32)))])) _
    refine XS.iload X0.here hx rfl (hb hby at_40) rfl ?_
    show Steps p.tables e below (s₁.setTop (mkF m 42 #[.val (.int x0), .val (.int x1), .val (.int x2), .val (.int x3), .val (.int x4), .val (.int x5), .val (.int nn), .val (.int d0), .val (.int d1), .val (.int d2), .unset, .unset, .unset, .unset, .unset] [(.int nn), (.int (x3 &&& (2147483647 : Int32)))])) _
    refine own_irem X0.here hx rfl (hb hby at_42) rfl (own_nz hnn.1) ?_
    show Steps p.tables e below (s₁.setTop (mkF m 43 #[.val (.int x0), .val (.int x1), .val (.int x2), .val (.int x3), .val (.int x4), .val (.int x5), .val (.int nn), .val (.int d0), .val (.int d1), .val (.int d2), .unset, .unset, .unset, .unset, .unset] [(.int ((x3 &&& (2147483647 : Int32)) % nn))])) _
    exact k
  obtain ⟨d3, h_d3⟩ : ∃ z : Int32, z = ((x3 &&& (2147483647 : Int32)) % nn) := ⟨_, rfl⟩
  have pre10 : Go p e below (s₁.setTop (entryFrame m #[(.int x0), (.int x1), (.int x2), (.int x3), (.int x4), (.int x5)] maxLocals)) (s₁.setTop (mkF m 43 #[.val (.int x0), .val (.int x1), .val (.int x2), .val (.int x3), .val (.int x4), .val (.int x5), .val (.int nn), .val (.int d0), .val (.int d1), .val (.int d2), .unset, .unset, .unset, .unset, .unset] [(.int d3)])) := by rw [h_d3]; exact pre9
  have hb3 := own_b hnn.1 h_d3
  have pre11 : Go p e below (s₁.setTop (entryFrame m #[(.int x0), (.int x1), (.int x2), (.int x3), (.int x4), (.int x5)] maxLocals)) (s₁.setTop (mkF m 53 #[.val (.int x0), .val (.int x1), .val (.int x2), .val (.int x3), .val (.int x4), .val (.int x5), .val (.int nn), .val (.int d0), .val (.int d1), .val (.int d2), .val (.int d3), .unset, .unset, .unset, .unset] [(.int ((x5 &&& (2147483647 : Int32)) % nn))])) := by
    intro t k
    refine pre10 t ?_
    show Steps p.tables e below (s₁.setTop (mkF m 43 #[.val (.int x0), .val (.int x1), .val (.int x2), .val (.int x3), .val (.int x4), .val (.int x5), .val (.int nn), .val (.int d0), .val (.int d1), .val (.int d2), .unset, .unset, .unset, .unset, .unset] [(.int d3)])) _
    refine XS.istore X0.here hx rfl (hb hby at_43) rfl (l' := #[.val (.int x0), .val (.int x1), .val (.int x2), .val (.int x3), .val (.int x4), .val (.int x5), .val (.int nn), .val (.int d0), .val (.int d1), .val (.int d2), .val (.int d3), .unset, .unset, .unset, .unset]) rfl ?_
    show Steps p.tables e below (s₁.setTop (mkF m 45 #[.val (.int x0), .val (.int x1), .val (.int x2), .val (.int x3), .val (.int x4), .val (.int x5), .val (.int nn), .val (.int d0), .val (.int d1), .val (.int d2), .val (.int d3), .unset, .unset, .unset, .unset] [])) _
    refine XS.iload X0.here hx rfl (hb hby at_45) rfl ?_
    show Steps p.tables e below (s₁.setTop (mkF m 47 #[.val (.int x0), .val (.int x1), .val (.int x2), .val (.int x3), .val (.int x4), .val (.int x5), .val (.int nn), .val (.int d0), .val (.int d1), .val (.int d2), .val (.int d3), .unset, .unset, .unset, .unset] [(.int x5)])) _
    refine X0.ldcI hx hown (mvT hZ (hw _ (List.mem_of_getElem? (i := 0) rfl))) (g := (mkF m 47 #[.val (.int x0), .val (.int x1), .val (.int x2), .val (.int x3), .val (.int x4), .val (.int x5), .val (.int nn), .val (.int d0), .val (.int d1), .val (.int d2), .val (.int d3), .unset, .unset, .unset, .unset] [(.int x5)])) rfl (hb hby at_47) ?_
    show Steps p.tables e below (s₁.setTop (mkF m 49 #[.val (.int x0), .val (.int x1), .val (.int x2), .val (.int x3), .val (.int x4), .val (.int x5), .val (.int nn), .val (.int d0), .val (.int d1), .val (.int d2), .val (.int d3), .unset, .unset, .unset, .unset] [(.int (2147483647 : Int32)), (.int x5)])) _
    refine XS.iand X0.here hx rfl (hb hby at_49) rfl ?_
    show Steps p.tables e below (s₁.setTop (mkF m 50 #[.val (.int x0), .val (.int x1), .val (.int x2), .val (.int x3), .val (.int x4), .val (.int x5), .val (.int nn), .val (.int d0), .val (.int d1), .val (.int d2), .val (.int d3), .unset, .unset, .unset, .unset] [(.int (x5 &&& (2147483647 : Int32)))])) _
    refine XS.iload X0.here hx rfl (hb hby at_50) rfl ?_
    show Steps p.tables e below (s₁.setTop (mkF m 52 #[.val (.int x0), .val (.int x1), .val (.int x2), .val (.int x3), .val (.int x4), .val (.int x5), .val (.int nn), .val (.int d0), .val (.int d1), .val (.int d2), .val (.int d3), .unset, .unset, .unset, .unset] [(.int nn), (.int (x5 &&& (2147483647 : Int32)))])) _
    refine own_irem X0.here hx rfl (hb hby at_52) rfl (own_nz hnn.1) ?_
    show Steps p.tables e below (s₁.setTop (mkF m 53 #[.val (.int x0), .val (.int x1), .val (.int x2), .val (.int x3), .val (.int x4), .val (.int x5), .val (.int nn), .val (.int d0), .val (.int d1), .val (.int d2), .val (.int d3), .unset, .unset, .unset, .unset] [(.int ((x5 &&& (2147483647 : Int32)) % nn))])) _
    exact k
  obtain ⟨sq, h_sq⟩ : ∃ z : Int32, z = ((x5 &&& (2147483647 : Int32)) % nn) := ⟨_, rfl⟩
  have pre12 : Go p e below (s₁.setTop (entryFrame m #[(.int x0), (.int x1), (.int x2), (.int x3), (.int x4), (.int x5)] maxLocals)) (s₁.setTop (mkF m 53 #[.val (.int x0), .val (.int x1), .val (.int x2), .val (.int x3), .val (.int x4), .val (.int x5), .val (.int nn), .val (.int d0), .val (.int d1), .val (.int d2), .val (.int d3), .unset, .unset, .unset, .unset] [(.int sq)])) := by rw [h_sq]; exact pre11
  have hbs := own_b hnn.1 h_sq
  have pre13 : Go p e below (s₁.setTop (entryFrame m #[(.int x0), (.int x1), (.int x2), (.int x3), (.int x4), (.int x5)] maxLocals)) (s₁.setTop (mkF m 56 #[.val (.int x0), .val (.int x1), .val (.int x2), .val (.int x3), .val (.int x4), .val (.int x5), .val (.int nn), .val (.int d0), .val (.int d1), .val (.int d2), .val (.int d3), .val (.int sq), .unset, .unset, .unset] [(.int (4 : Int32))])) := by
    intro t k
    refine pre12 t ?_
    show Steps p.tables e below (s₁.setTop (mkF m 53 #[.val (.int x0), .val (.int x1), .val (.int x2), .val (.int x3), .val (.int x4), .val (.int x5), .val (.int nn), .val (.int d0), .val (.int d1), .val (.int d2), .val (.int d3), .unset, .unset, .unset, .unset] [(.int sq)])) _
    refine XS.istore X0.here hx rfl (hb hby at_53) rfl (l' := #[.val (.int x0), .val (.int x1), .val (.int x2), .val (.int x3), .val (.int x4), .val (.int x5), .val (.int nn), .val (.int d0), .val (.int d1), .val (.int d2), .val (.int d3), .val (.int sq), .unset, .unset, .unset]) rfl ?_
    show Steps p.tables e below (s₁.setTop (mkF m 55 #[.val (.int x0), .val (.int x1), .val (.int x2), .val (.int x3), .val (.int x4), .val (.int x5), .val (.int nn), .val (.int d0), .val (.int d1), .val (.int d2), .val (.int d3), .val (.int sq), .unset, .unset, .unset] [])) _
    refine XS.iconst X0.here hx rfl (hb hby at_55) ?_
    show Steps p.tables e below (s₁.setTop (mkF m 56 #[.val (.int x0), .val (.int x1), .val (.int x2), .val (.int x3), .val (.int x4), .val (.int x5), .val (.int nn), .val (.int d0), .val (.int d1), .val (.int d2), .val (.int d3), .val (.int sq), .unset, .unset, .unset] [(.int (4 : Int32))])) _
    exact k
  obtain ⟨T14, h14, k14, X14, e14, E14, A14, st14⟩ := newP X0 hx hZ (hw _ (List.mem_of_getElem? (i := 1) rfl)) e0 (g := (mkF m 56 #[.val (.int x0), .val (.int x1), .val (.int x2), .val (.int x3), .val (.int x4), .val (.int x5), .val (.int nn), .val (.int d0), .val (.int d1), .val (.int d2), .val (.int d3), .val (.int sq), .unset, .unset, .unset] [(.int (4 : Int32))])) rfl (hb hby at_56) rfl (by decide) (cap := 4) (by decide) (by decide) (by decide) (by decide)
  obtain ⟨b0, g14⟩ : ∃ z, z = h0.size := ⟨_, rfl⟩
  rw [← g14] at A14 st14
  have zz15 := (Nat.le_trans Z0 E14.1)
  have V_b0 : Arv Z h14 b0 k14 .int (4 : Int32) [(.int (0 : Int32)), (.int (0 : Int32)), (.int (0 : Int32)), (.int (0 : Int32))] (.int (0 : Int32)) := (Arv.new A14 (by decide)).pad (pad_rep [] (.int (0 : Int32)) 4)
  have g_b0 : n0 ≤ b0 := Nat.le_trans Z0 (Nat.le_of_eq g14.symm)
  have pre16 : Go p e below (s₁.setTop (entryFrame m #[(.int x0), (.int x1), (.int x2), (.int x3), (.int x4), (.int x5)] maxLocals)) (T14.setTop (mkF m 58 #[.val (.int x0), .val (.int x1), .val (.int x2), .val (.int x3), .val (.int x4), .val (.int x5), .val (.int nn), .val (.int d0), .val (.int d1), .val (.int d2), .val (.int d3), .val (.int sq), .unset, .unset, .unset] [(.ref b0)])) := fun t k => pre13 t (st14 t k)
  have pre17 : Go p e below (s₁.setTop (entryFrame m #[(.int x0), (.int x1), (.int x2), (.int x3), (.int x4), (.int x5)] maxLocals)) (T14.setTop (mkF m 65 #[.val (.int x0), .val (.int x1), .val (.int x2), .val (.int x3), .val (.int x4), .val (.int x5), .val (.int nn), .val (.int d0), .val (.int d1), .val (.int d2), .val (.int d3), .val (.int sq), .val (.ref b0), .unset, .unset] [(.int d0), (.int (0 : Int32)), (.ref b0)])) := by
    intro t k
    refine pre16 t ?_
    show Steps p.tables e below (T14.setTop (mkF m 58 #[.val (.int x0), .val (.int x1), .val (.int x2), .val (.int x3), .val (.int x4), .val (.int x5), .val (.int nn), .val (.int d0), .val (.int d1), .val (.int d2), .val (.int d3), .val (.int sq), .unset, .unset, .unset] [(.ref b0)])) _
    refine XS.astore X14.here hx rfl (hb hby at_58) rfl rfl (l' := #[.val (.int x0), .val (.int x1), .val (.int x2), .val (.int x3), .val (.int x4), .val (.int x5), .val (.int nn), .val (.int d0), .val (.int d1), .val (.int d2), .val (.int d3), .val (.int sq), .val (.ref b0), .unset, .unset]) rfl ?_
    show Steps p.tables e below (T14.setTop (mkF m 60 #[.val (.int x0), .val (.int x1), .val (.int x2), .val (.int x3), .val (.int x4), .val (.int x5), .val (.int nn), .val (.int d0), .val (.int d1), .val (.int d2), .val (.int d3), .val (.int sq), .val (.ref b0), .unset, .unset] [])) _
    refine XS.aload X14.here hx rfl (hb hby at_60) rfl rfl ?_
    show Steps p.tables e below (T14.setTop (mkF m 62 #[.val (.int x0), .val (.int x1), .val (.int x2), .val (.int x3), .val (.int x4), .val (.int x5), .val (.int nn), .val (.int d0), .val (.int d1), .val (.int d2), .val (.int d3), .val (.int sq), .val (.ref b0), .unset, .unset] [(.ref b0)])) _
    refine XS.iconst X14.here hx rfl (hb hby at_62) ?_
    show Steps p.tables e below (T14.setTop (mkF m 63 #[.val (.int x0), .val (.int x1), .val (.int x2), .val (.int x3), .val (.int x4), .val (.int x5), .val (.int nn), .val (.int d0), .val (.int d1), .val (.int d2), .val (.int d3), .val (.int sq), .val (.ref b0), .unset, .unset] [(.int (0 : Int32)), (.ref b0)])) _
    refine XS.iload X14.here hx rfl (hb hby at_63) rfl ?_
    show Steps p.tables e below (T14.setTop (mkF m 65 #[.val (.int x0), .val (.int x1), .val (.int x2), .val (.int x3), .val (.int x4), .val (.int x5), .val (.int nn), .val (.int d0), .val (.int d1), .val (.int d2), .val (.int d3), .val (.int sq), .val (.ref b0), .unset, .unset] [(.int d0), (.int (0 : Int32)), (.ref b0)])) _
    exact k
  obtain ⟨cl18, Ar18, qq18, SS18, NN18, HH18, GG18⟩ := V_b0
  have hin18 : ¬ ((0 : Int32) < 0 ∨ cl18.slots.size ≤ ((0 : Int32)).toNatClampNeg) := inb_of SS18 ⟨by decide, by decide⟩
  obtain ⟨T18, h18, X18, e18, W18, st18⟩ := stI X14 hx hZ e14 Ar18 (j := (0 : Int32)) hin18 (g := (mkF m 65 #[.val (.int x0), .val (.int x1), .val (.int x2), .val (.int x3), .val (.int x4), .val (.int x5), .val (.int nn), .val (.int d0), .val (.int d1), .val (.int d2), .val (.int d3), .val (.int sq), .val (.ref b0), .unset, .unset] [(.int d0), (.int (0 : Int32)), (.ref b0)])) rfl rfl (hb hby at_65)
  have V18 : Arv Z h18 b0 k14 .int (4 : Int32) [(.int d0), (.int (0 : Int32)), (.int (0 : Int32)), (.int (0 : Int32))] (.int (0 : Int32)) := Arv.set Ar18 qq18 SS18 NN18 HH18 GG18 rfl W18 0 rfl (Nat.le_of_ble_eq_true rfl)
  have zz19 := (Nat.le_trans zz15 (Keep.of_wr W18).1)
  have N18 := Fr.snoc X18 N0 g_b0
  have pre20 : Go p e below (s₁.setTop (entryFrame m #[(.int x0), (.int x1), (.int x2), (.int x3), (.int x4), (.int x5)] maxLocals)) (T18.setTop (mkF m 66 #[.val (.int x0), .val (.int x1), .val (.int x2), .val (.int x3), .val (.int x4), .val (.int x5), .val (.int nn), .val (.int d0), .val (.int d1), .val (.int d2), .val (.int d3), .val (.int sq), .val (.ref b0), .unset, .unset] [])) := fun t k => pre17 t (st18 t k)
  have pre21 : Go p e below (s₁.setTop (entryFrame m #[(.int x0), (.int x1), (.int x2), (.int x3), (.int x4), (.int x5)] maxLocals)) (T18.setTop (mkF m 71 #[.val (.int x0), .val (.int x1), .val (.int x2), .val (.int x3), .val (.int x4), .val (.int x5), .val (.int nn), .val (.int d0), .val (.int d1), .val (.int d2), .val (.int d3), .val (.int sq), .val (.ref b0), .unset, .unset] [(.int d1), (.int (1 : Int32)), (.ref b0)])) := by
    intro t k
    refine pre20 t ?_
    show Steps p.tables e below (T18.setTop (mkF m 66 #[.val (.int x0), .val (.int x1), .val (.int x2), .val (.int x3), .val (.int x4), .val (.int x5), .val (.int nn), .val (.int d0), .val (.int d1), .val (.int d2), .val (.int d3), .val (.int sq), .val (.ref b0), .unset, .unset] [])) _
    refine XS.aload X18.here hx rfl (hb hby at_66) rfl rfl ?_
    show Steps p.tables e below (T18.setTop (mkF m 68 #[.val (.int x0), .val (.int x1), .val (.int x2), .val (.int x3), .val (.int x4), .val (.int x5), .val (.int nn), .val (.int d0), .val (.int d1), .val (.int d2), .val (.int d3), .val (.int sq), .val (.ref b0), .unset, .unset] [(.ref b0)])) _
    refine XS.iconst X18.here hx rfl (hb hby at_68) ?_
    show Steps p.tables e below (T18.setTop (mkF m 69 #[.val (.int x0), .val (.int x1), .val (.int x2), .val (.int x3), .val (.int x4), .val (.int x5), .val (.int nn), .val (.int d0), .val (.int d1), .val (.int d2), .val (.int d3), .val (.int sq), .val (.ref b0), .unset, .unset] [(.int (1 : Int32)), (.ref b0)])) _
    refine XS.iload X18.here hx rfl (hb hby at_69) rfl ?_
    show Steps p.tables e below (T18.setTop (mkF m 71 #[.val (.int x0), .val (.int x1), .val (.int x2), .val (.int x3), .val (.int x4), .val (.int x5), .val (.int nn), .val (.int d0), .val (.int d1), .val (.int d2), .val (.int d3), .val (.int sq), .val (.ref b0), .unset, .unset] [(.int d1), (.int (1 : Int32)), (.ref b0)])) _
    exact k
  obtain ⟨cl22, Ar22, qq22, SS22, NN22, HH22, GG22⟩ := V18
  have hin22 : ¬ ((1 : Int32) < 0 ∨ cl22.slots.size ≤ ((1 : Int32)).toNatClampNeg) := inb_of SS22 ⟨by decide, by decide⟩
  obtain ⟨T22, h22, X22, e22, W22, st22⟩ := stI X18 hx hZ e18 Ar22 (j := (1 : Int32)) hin22 (g := (mkF m 71 #[.val (.int x0), .val (.int x1), .val (.int x2), .val (.int x3), .val (.int x4), .val (.int x5), .val (.int nn), .val (.int d0), .val (.int d1), .val (.int d2), .val (.int d3), .val (.int sq), .val (.ref b0), .unset, .unset] [(.int d1), (.int (1 : Int32)), (.ref b0)])) rfl rfl (hb hby at_71)
  have V22 : Arv Z h22 b0 k14 .int (4 : Int32) [(.int d0), (.int d1), (.int (0 : Int32)), (.int (0 : Int32))] (.int (0 : Int32)) := Arv.set Ar22 qq22 SS22 NN22 HH22 GG22 rfl W22 1 rfl (Nat.le_of_ble_eq_true rfl)
  have zz23 := (Nat.le_trans zz19 (Keep.of_wr W22).1)
  have N22 := Fr.snoc X22 N18 g_b0
  have pre24 : Go p e below (s₁.setTop (entryFrame m #[(.int x0), (.int x1), (.int x2), (.int x3), (.int x4), (.int x5)] maxLocals)) (T22.setTop (mkF m 72 #[.val (.int x0), .val (.int x1), .val (.int x2), .val (.int x3), .val (.int x4), .val (.int x5), .val (.int nn), .val (.int d0), .val (.int d1), .val (.int d2), .val (.int d3), .val (.int sq), .val (.ref b0), .unset, .unset] [])) := fun t k => pre21 t (st22 t k)
  have pre25 : Go p e below (s₁.setTop (entryFrame m #[(.int x0), (.int x1), (.int x2), (.int x3), (.int x4), (.int x5)] maxLocals)) (T22.setTop (mkF m 77 #[.val (.int x0), .val (.int x1), .val (.int x2), .val (.int x3), .val (.int x4), .val (.int x5), .val (.int nn), .val (.int d0), .val (.int d1), .val (.int d2), .val (.int d3), .val (.int sq), .val (.ref b0), .unset, .unset] [(.int d2), (.int (2 : Int32)), (.ref b0)])) := by
    intro t k
    refine pre24 t ?_
    show Steps p.tables e below (T22.setTop (mkF m 72 #[.val (.int x0), .val (.int x1), .val (.int x2), .val (.int x3), .val (.int x4), .val (.int x5), .val (.int nn), .val (.int d0), .val (.int d1), .val (.int d2), .val (.int d3), .val (.int sq), .val (.ref b0), .unset, .unset] [])) _
    refine XS.aload X22.here hx rfl (hb hby at_72) rfl rfl ?_
    show Steps p.tables e below (T22.setTop (mkF m 74 #[.val (.int x0), .val (.int x1), .val (.int x2), .val (.int x3), .val (.int x4), .val (.int x5), .val (.int nn), .val (.int d0), .val (.int d1), .val (.int d2), .val (.int d3), .val (.int sq), .val (.ref b0), .unset, .unset] [(.ref b0)])) _
    refine XS.iconst X22.here hx rfl (hb hby at_74) ?_
    show Steps p.tables e below (T22.setTop (mkF m 75 #[.val (.int x0), .val (.int x1), .val (.int x2), .val (.int x3), .val (.int x4), .val (.int x5), .val (.int nn), .val (.int d0), .val (.int d1), .val (.int d2), .val (.int d3), .val (.int sq), .val (.ref b0), .unset, .unset] [(.int (2 : Int32)), (.ref b0)])) _
    refine XS.iload X22.here hx rfl (hb hby at_75) rfl ?_
    show Steps p.tables e below (T22.setTop (mkF m 77 #[.val (.int x0), .val (.int x1), .val (.int x2), .val (.int x3), .val (.int x4), .val (.int x5), .val (.int nn), .val (.int d0), .val (.int d1), .val (.int d2), .val (.int d3), .val (.int sq), .val (.ref b0), .unset, .unset] [(.int d2), (.int (2 : Int32)), (.ref b0)])) _
    exact k
  obtain ⟨cl26, Ar26, qq26, SS26, NN26, HH26, GG26⟩ := V22
  have hin26 : ¬ ((2 : Int32) < 0 ∨ cl26.slots.size ≤ ((2 : Int32)).toNatClampNeg) := inb_of SS26 ⟨by decide, by decide⟩
  obtain ⟨T26, h26, X26, e26, W26, st26⟩ := stI X22 hx hZ e22 Ar26 (j := (2 : Int32)) hin26 (g := (mkF m 77 #[.val (.int x0), .val (.int x1), .val (.int x2), .val (.int x3), .val (.int x4), .val (.int x5), .val (.int nn), .val (.int d0), .val (.int d1), .val (.int d2), .val (.int d3), .val (.int sq), .val (.ref b0), .unset, .unset] [(.int d2), (.int (2 : Int32)), (.ref b0)])) rfl rfl (hb hby at_77)
  have V26 : Arv Z h26 b0 k14 .int (4 : Int32) [(.int d0), (.int d1), (.int d2), (.int (0 : Int32))] (.int (0 : Int32)) := Arv.set Ar26 qq26 SS26 NN26 HH26 GG26 rfl W26 2 rfl (Nat.le_of_ble_eq_true rfl)
  have zz27 := (Nat.le_trans zz23 (Keep.of_wr W26).1)
  have N26 := Fr.snoc X26 N22 g_b0
  have pre28 : Go p e below (s₁.setTop (entryFrame m #[(.int x0), (.int x1), (.int x2), (.int x3), (.int x4), (.int x5)] maxLocals)) (T26.setTop (mkF m 78 #[.val (.int x0), .val (.int x1), .val (.int x2), .val (.int x3), .val (.int x4), .val (.int x5), .val (.int nn), .val (.int d0), .val (.int d1), .val (.int d2), .val (.int d3), .val (.int sq), .val (.ref b0), .unset, .unset] [])) := fun t k => pre25 t (st26 t k)
  have pre29 : Go p e below (s₁.setTop (entryFrame m #[(.int x0), (.int x1), (.int x2), (.int x3), (.int x4), (.int x5)] maxLocals)) (T26.setTop (mkF m 83 #[.val (.int x0), .val (.int x1), .val (.int x2), .val (.int x3), .val (.int x4), .val (.int x5), .val (.int nn), .val (.int d0), .val (.int d1), .val (.int d2), .val (.int d3), .val (.int sq), .val (.ref b0), .unset, .unset] [(.int d3), (.int (3 : Int32)), (.ref b0)])) := by
    intro t k
    refine pre28 t ?_
    show Steps p.tables e below (T26.setTop (mkF m 78 #[.val (.int x0), .val (.int x1), .val (.int x2), .val (.int x3), .val (.int x4), .val (.int x5), .val (.int nn), .val (.int d0), .val (.int d1), .val (.int d2), .val (.int d3), .val (.int sq), .val (.ref b0), .unset, .unset] [])) _
    refine XS.aload X26.here hx rfl (hb hby at_78) rfl rfl ?_
    show Steps p.tables e below (T26.setTop (mkF m 80 #[.val (.int x0), .val (.int x1), .val (.int x2), .val (.int x3), .val (.int x4), .val (.int x5), .val (.int nn), .val (.int d0), .val (.int d1), .val (.int d2), .val (.int d3), .val (.int sq), .val (.ref b0), .unset, .unset] [(.ref b0)])) _
    refine XS.iconst X26.here hx rfl (hb hby at_80) ?_
    show Steps p.tables e below (T26.setTop (mkF m 81 #[.val (.int x0), .val (.int x1), .val (.int x2), .val (.int x3), .val (.int x4), .val (.int x5), .val (.int nn), .val (.int d0), .val (.int d1), .val (.int d2), .val (.int d3), .val (.int sq), .val (.ref b0), .unset, .unset] [(.int (3 : Int32)), (.ref b0)])) _
    refine XS.iload X26.here hx rfl (hb hby at_81) rfl ?_
    show Steps p.tables e below (T26.setTop (mkF m 83 #[.val (.int x0), .val (.int x1), .val (.int x2), .val (.int x3), .val (.int x4), .val (.int x5), .val (.int nn), .val (.int d0), .val (.int d1), .val (.int d2), .val (.int d3), .val (.int sq), .val (.ref b0), .unset, .unset] [(.int d3), (.int (3 : Int32)), (.ref b0)])) _
    exact k
  obtain ⟨cl30, Ar30, qq30, SS30, NN30, HH30, GG30⟩ := V26
  have hin30 : ¬ ((3 : Int32) < 0 ∨ cl30.slots.size ≤ ((3 : Int32)).toNatClampNeg) := inb_of SS30 ⟨by decide, by decide⟩
  obtain ⟨T30, h30, X30, e30, W30, st30⟩ := stI X26 hx hZ e26 Ar30 (j := (3 : Int32)) hin30 (g := (mkF m 83 #[.val (.int x0), .val (.int x1), .val (.int x2), .val (.int x3), .val (.int x4), .val (.int x5), .val (.int nn), .val (.int d0), .val (.int d1), .val (.int d2), .val (.int d3), .val (.int sq), .val (.ref b0), .unset, .unset] [(.int d3), (.int (3 : Int32)), (.ref b0)])) rfl rfl (hb hby at_83)
  have V30 : Arv Z h30 b0 k14 .int (4 : Int32) [(.int d0), (.int d1), (.int d2), (.int d3)] (.int (0 : Int32)) := Arv.set Ar30 qq30 SS30 NN30 HH30 GG30 rfl W30 3 rfl (Nat.le_of_ble_eq_true rfl)
  have zz31 := (Nat.le_trans zz27 (Keep.of_wr W30).1)
  have N30 := Fr.snoc X30 N26 g_b0
  have pre32 : Go p e below (s₁.setTop (entryFrame m #[(.int x0), (.int x1), (.int x2), (.int x3), (.int x4), (.int x5)] maxLocals)) (T30.setTop (mkF m 84 #[.val (.int x0), .val (.int x1), .val (.int x2), .val (.int x3), .val (.int x4), .val (.int x5), .val (.int nn), .val (.int d0), .val (.int d1), .val (.int d2), .val (.int d3), .val (.int sq), .val (.ref b0), .unset, .unset] [])) := fun t k => pre29 t (st30 t k)
  obtain ⟨T33, h33, X33, e33, E33, A33, D33, -, st33⟩ := newO X30 hx hZ hown (hw _ (List.mem_of_getElem? (i := 2) rfl)) (hw _ (List.mem_of_getElem? (i := 3) rfl)) (hw _ (List.mem_of_getElem? (i := 4) rfl)) e30 (g := (mkF m 84 #[.val (.int x0), .val (.int x1), .val (.int x2), .val (.int x3), .val (.int x4), .val (.int x5), .val (.int nn), .val (.int d0), .val (.int d1), .val (.int d2), .val (.int d3), .val (.int sq), .val (.ref b0), .unset, .unset] [])) rfl (hb hby at_84) (by decide) (by decide)
  obtain ⟨b1, g33⟩ : ∃ z, z = h30.size := ⟨_, rfl⟩
  rw [← g33] at A33 D33 st33
  have c34_33 := V30.ext E33
  have zz35 := (Nat.le_trans zz31 E33.1)
  have F_start_b1 : Fld Z h33 b1 "com/example/kripketools/kripketools/Adjacency" "start" "[I" .null := D33 (Or.inr (hw _ (List.mem_of_getElem? (i := 12) rfl))) (ty := (.array .int)) (by decide)
  have F_transitions_b1 : Fld Z h33 b1 "com/example/kripketools/kripketools/Adjacency" "transitions" "[I" .null := D33 (Or.inr (hw _ (List.mem_of_getElem? (i := 14) rfl))) (ty := (.array .int)) (by decide)
  have g_b1 : n0 ≤ b1 := Nat.le_trans zz31 (Nat.le_of_eq g33.symm)
  have ne_b0_b1 : b0 ≠ b1 := Nat.ne_of_lt (Nat.lt_of_lt_of_le V30.lt (Nat.le_of_eq g33.symm))
  have pre36 : Go p e below (s₁.setTop (entryFrame m #[(.int x0), (.int x1), (.int x2), (.int x3), (.int x4), (.int x5)] maxLocals)) (T33.setTop (mkF m 87 #[.val (.int x0), .val (.int x1), .val (.int x2), .val (.int x3), .val (.int x4), .val (.int x5), .val (.int nn), .val (.int d0), .val (.int d1), .val (.int d2), .val (.int d3), .val (.int sq), .val (.ref b0), .unset, .unset] [(.ref b1)])) := fun t k => pre32 t (st33 t k)
  have pre37 : Go p e below (s₁.setTop (entryFrame m #[(.int x0), (.int x1), (.int x2), (.int x3), (.int x4), (.int x5)] maxLocals)) (T33.setTop (mkF m 92 #[.val (.int x0), .val (.int x1), .val (.int x2), .val (.int x3), .val (.int x4), .val (.int x5), .val (.int nn), .val (.int d0), .val (.int d1), .val (.int d2), .val (.int d3), .val (.int sq), .val (.ref b0), .unset, .unset] [(.int nn), (.ref b0), (.ref b1), (.ref b1)])) := by
    intro t k
    refine pre36 t ?_
    show Steps p.tables e below (T33.setTop (mkF m 87 #[.val (.int x0), .val (.int x1), .val (.int x2), .val (.int x3), .val (.int x4), .val (.int x5), .val (.int nn), .val (.int d0), .val (.int d1), .val (.int d2), .val (.int d3), .val (.int sq), .val (.ref b0), .unset, .unset] [(.ref b1)])) _
    refine XS.dup X33.here hx rfl (hb hby at_87) rfl rfl ?_
    show Steps p.tables e below (T33.setTop (mkF m 88 #[.val (.int x0), .val (.int x1), .val (.int x2), .val (.int x3), .val (.int x4), .val (.int x5), .val (.int nn), .val (.int d0), .val (.int d1), .val (.int d2), .val (.int d3), .val (.int sq), .val (.ref b0), .unset, .unset] [(.ref b1), (.ref b1)])) _
    refine XS.aload X33.here hx rfl (hb hby at_88) rfl rfl ?_
    show Steps p.tables e below (T33.setTop (mkF m 90 #[.val (.int x0), .val (.int x1), .val (.int x2), .val (.int x3), .val (.int x4), .val (.int x5), .val (.int nn), .val (.int d0), .val (.int d1), .val (.int d2), .val (.int d3), .val (.int sq), .val (.ref b0), .unset, .unset] [(.ref b0), (.ref b1), (.ref b1)])) _
    refine XS.iload X33.here hx rfl (hb hby at_90) rfl ?_
    show Steps p.tables e below (T33.setTop (mkF m 92 #[.val (.int x0), .val (.int x1), .val (.int x2), .val (.int x3), .val (.int x4), .val (.int x5), .val (.int nn), .val (.int d0), .val (.int d1), .val (.int d2), .val (.int d3), .val (.int sq), .val (.ref b0), .unset, .unset] [(.int nn), (.ref b0), (.ref b1), (.ref b1)])) _
    exact k
  obtain ⟨_, _, ⟨T38, L38, k38, n38⟩, -, X38, ⟨Lc38, hQ38, l38, y38, z38⟩, st38⟩ := X33.specialBack hx (y := (⟨"com/example/kripketools/kripketools/Adjacency", "<init>", "([II)V"⟩ : MethodName)) rfl hown (mvT hZ (hw _ (List.mem_of_getElem? (i := 5) rfl))) (mvT hZ (hw _ (List.mem_of_getElem? (i := 6) rfl))) (mvT hZ (hw _ (List.mem_of_getElem? (i := 7) rfl))) (by decide) (backOf (W := 1) (rm1 l Z a0 hw [] b1 b0 nn k14 d0 d1 d2 d3 h33 n0 zz35 A33 F_start_b1 F_transitions_b1 c34_33 g_b1 ne_b0_b1 hnn.1 hnn.2 hb0 hb1 hb2 hb3) hZ (hw _ (List.mem_of_getElem? (i := 7) rfl)) (hw _ (List.mem_of_getElem? (i := 4) rfl)) (by decide) (by decide)) (g := (mkF m 92 #[.val (.int x0), .val (.int x1), .val (.int x2), .val (.int x3), .val (.int x4), .val (.int x5), .val (.int nn), .val (.int d0), .val (.int d1), .val (.int d2), .val (.int d3), .val (.int sq), .val (.ref b0), .unset, .unset] [(.int nn), (.ref b0), (.ref b1), (.ref b1)])) rfl (by rw [hml]; rfl) (Steps.refl _) (a := b1) (argsL := [(.ref b0), (.int nn)]) (rest := [(.ref b1)]) (lenOf pd_3 rfl) rfl (by show 2 * 0 + _ ≤ _; exact Nat.le_of_eq rfl) (hb hby at_92) (fun _ _ => ⟨rfl, e33, (by decide : 2 + 3 ≤ _), (by decide : 6 + 21 ≤ _)⟩)
  dsimp only [Pt.U, Pt.locs, Pt.cells, Pt.slots] at X38 l38 y38 z38 st38 hQ38
  subst l38 y38 z38
  obtain ⟨rfl, N38q, K38, X38e, bS, kS, Fs38, AV38⟩ := hQ38
  have N38 := Fr.app N30 N38q
  have kc39 := c34_33.keep K38 (ninS ne_b0_b1 nin0)
  have kc40 := A33.keep K38
  have zz41 := Nat.le_trans zz35 K38.1
  have pre42 : Go p e below (s₁.setTop (entryFrame m #[(.int x0), (.int x1), (.int x2), (.int x3), (.int x4), (.int x5)] maxLocals)) (T38.setTop (mkF m 95 #[.val (.int x0), .val (.int x1), .val (.int x2), .val (.int x3), .val (.int x4), .val (.int x5), .val (.int nn), .val (.int d0), .val (.int d1), .val (.int d2), .val (.int d3), .val (.int sq), .val (.ref b0), .unset, .unset] [(.ref b1)])) := fun t k => pre37 t (st38.trans k)
  have pre43 : Go p e below (s₁.setTop (entryFrame m #[(.int x0), (.int x1), (.int x2), (.int x3), (.int x4), (.int x5)] maxLocals)) (T38.setTop (mkF m 101 #[.val (.int x0), .val (.int x1), .val (.int x2), .val (.int x3), .val (.int x4), .val (.int x5), .val (.int nn), .val (.int d0), .val (.int d1), .val (.int d2), .val (.int d3), .val (.int sq), .val (.ref b0), .val (.ref b1), .unset] [(.int sq), (.int d0)])) := by
    intro t k
    refine pre42 t ?_
    show Steps p.tables e below (T38.setTop (mkF m 95 #[.val (.int x0), .val (.int x1), .val (.int x2), .val (.int x3), .val (.int x4), .val (.int x5), .val (.int nn), .val (.int d0), .val (.int d1), .val (.int d2), .val (.int d3), .val (.int sq), .val (.ref b0), .unset, .unset] [(.ref b1)])) _
    refine XS.astore X38.here hx rfl (hb hby at_95) rfl rfl (l' := #[.val (.int x0), .val (.int x1), .val (.int x2), .val (.int x3), .val (.int x4), .val (.int x5), .val (.int nn), .val (.int d0), .val (.int d1), .val (.int d2), .val (.int d3), .val (.int sq), .val (.ref b0), .val (.ref b1), .unset]) rfl ?_
    show Steps p.tables e below (T38.setTop (mkF m 97 #[.val (.int x0), .val (.int x1), .val (.int x2), .val (.int x3), .val (.int x4), .val (.int x5), .val (.int nn), .val (.int d0), .val (.int d1), .val (.int d2), .val (.int d3), .val (.int sq), .val (.ref b0), .val (.ref b1), .unset] [])) _
    refine XS.iload X38.here hx rfl (hb hby at_97) rfl ?_
    show Steps p.tables e below (T38.setTop (mkF m 99 #[.val (.int x0), .val (.int x1), .val (.int x2), .val (.int x3), .val (.int x4), .val (.int x5), .val (.int nn), .val (.int d0), .val (.int d1), .val (.int d2), .val (.int d3), .val (.int sq), .val (.ref b0), .val (.ref b1), .unset] [(.int d0)])) _
    refine XS.iload X38.here hx rfl (hb hby at_99) rfl ?_
    show Steps p.tables e below (T38.setTop (mkF m 101 #[.val (.int x0), .val (.int x1), .val (.int x2), .val (.int x3), .val (.int x4), .val (.int x5), .val (.int nn), .val (.int d0), .val (.int d1), .val (.int d2), .val (.int d3), .val (.int sq), .val (.ref b0), .val (.ref b1), .unset] [(.int sq), (.int d0)])) _
    exact k
  obtain ⟨_, _, ⟨T44, L44, k44, n44⟩, -, X44, ⟨Lc44, hQ44, l44, y44, z44⟩, st44⟩ := Jvm.LawKit.callS X38 hx (y := (⟨"com/example/kripketools/kripketools/AdjacencyDegreePinLaw", "hit", "(II)I"⟩ : MethodName)) hown (mvT hZ (hw _ (List.mem_of_getElem? (i := 15) rfl))) (mvT hZ (hw _ (List.mem_of_getElem? (i := 16) rfl))) (mvT hZ (hw _ (List.mem_of_getElem? (i := 17) rfl))) (mvT hZ (hw _ (List.mem_of_getElem? (i := 18) rfl))) (by decide) (backOf (W := 0) (rm3 l Z a0 hw [] d0 sq  T38.heap n0 zz41 ) hZ (hw _ (List.mem_of_getElem? (i := 18) rfl)) (hw _ (List.mem_of_getElem? (i := 17) rfl)) (by decide) (by decide)) (g := (mkF m 101 #[.val (.int x0), .val (.int x1), .val (.int x2), .val (.int x3), .val (.int x4), .val (.int x5), .val (.int nn), .val (.int d0), .val (.int d1), .val (.int d2), .val (.int d3), .val (.int sq), .val (.ref b0), .val (.ref b1), .unset] [(.int sq), (.int d0)])) rfl (by rw [hml]; rfl) (argsL := [(.int d0), (.int sq)]) (rest := []) (lenOf pd_4 rfl) rfl (by show 2 * 0 + _ ≤ _; exact Nat.le_of_eq rfl) (hb hby at_101) (fun _ _ => ⟨rfl, rfl, (by decide : 5 + 0 ≤ _), (by decide : 27 + 0 ≤ _)⟩)
  dsimp only [Pt.U, Pt.locs, Pt.cells, Pt.slots] at X44 l44 y44 z44 st44 hQ44
  subst l44 y44 z44
  obtain ⟨rfl, N44q, hh44⟩ := hQ44
  have N44 := Fr.app N38 N44q
  have pre45 : Go p e below (s₁.setTop (entryFrame m #[(.int x0), (.int x1), (.int x2), (.int x3), (.int x4), (.int x5)] maxLocals)) (T44.setTop (mkF m 104 #[.val (.int x0), .val (.int x1), .val (.int x2), .val (.int x3), .val (.int x4), .val (.int x5), .val (.int nn), .val (.int d0), .val (.int d1), .val (.int d2), .val (.int d3), .val (.int sq), .val (.ref b0), .val (.ref b1), .unset] [(.int (fhit d0 sq))])) := fun t k => pre43 t (st44 t k)
  have pre46 : Go p e below (s₁.setTop (entryFrame m #[(.int x0), (.int x1), (.int x2), (.int x3), (.int x4), (.int x5)] maxLocals)) (T44.setTop (mkF m 108 #[.val (.int x0), .val (.int x1), .val (.int x2), .val (.int x3), .val (.int x4), .val (.int x5), .val (.int nn), .val (.int d0), .val (.int d1), .val (.int d2), .val (.int d3), .val (.int sq), .val (.ref b0), .val (.ref b1), .unset] [(.int sq), (.int d1), (.int (fhit d0 sq))])) := by
    intro t k
    refine pre45 t ?_
    show Steps p.tables e below (T44.setTop (mkF m 104 #[.val (.int x0), .val (.int x1), .val (.int x2), .val (.int x3), .val (.int x4), .val (.int x5), .val (.int nn), .val (.int d0), .val (.int d1), .val (.int d2), .val (.int d3), .val (.int sq), .val (.ref b0), .val (.ref b1), .unset] [(.int (fhit d0 sq))])) _
    refine XS.iload X44.here hx rfl (hb hby at_104) rfl ?_
    show Steps p.tables e below (T44.setTop (mkF m 106 #[.val (.int x0), .val (.int x1), .val (.int x2), .val (.int x3), .val (.int x4), .val (.int x5), .val (.int nn), .val (.int d0), .val (.int d1), .val (.int d2), .val (.int d3), .val (.int sq), .val (.ref b0), .val (.ref b1), .unset] [(.int d1), (.int (fhit d0 sq))])) _
    refine XS.iload X44.here hx rfl (hb hby at_106) rfl ?_
    show Steps p.tables e below (T44.setTop (mkF m 108 #[.val (.int x0), .val (.int x1), .val (.int x2), .val (.int x3), .val (.int x4), .val (.int x5), .val (.int nn), .val (.int d0), .val (.int d1), .val (.int d2), .val (.int d3), .val (.int sq), .val (.ref b0), .val (.ref b1), .unset] [(.int sq), (.int d1), (.int (fhit d0 sq))])) _
    exact k
  obtain ⟨_, _, ⟨T47, L47, k47, n47⟩, -, X47, ⟨Lc47, hQ47, l47, y47, z47⟩, st47⟩ := Jvm.LawKit.callS X44 hx (y := (⟨"com/example/kripketools/kripketools/AdjacencyDegreePinLaw", "hit", "(II)I"⟩ : MethodName)) hown (mvT hZ (hw _ (List.mem_of_getElem? (i := 15) rfl))) (mvT hZ (hw _ (List.mem_of_getElem? (i := 16) rfl))) (mvT hZ (hw _ (List.mem_of_getElem? (i := 17) rfl))) (mvT hZ (hw _ (List.mem_of_getElem? (i := 18) rfl))) (by decide) (backOf (W := 1) (rm3 l Z a0 hw [] d1 sq  T38.heap n0 zz41 ) hZ (hw _ (List.mem_of_getElem? (i := 18) rfl)) (hw _ (List.mem_of_getElem? (i := 17) rfl)) (by decide) (by decide)) (g := (mkF m 108 #[.val (.int x0), .val (.int x1), .val (.int x2), .val (.int x3), .val (.int x4), .val (.int x5), .val (.int nn), .val (.int d0), .val (.int d1), .val (.int d2), .val (.int d3), .val (.int sq), .val (.ref b0), .val (.ref b1), .unset] [(.int sq), (.int d1), (.int (fhit d0 sq))])) rfl (by rw [hml]; rfl) (argsL := [(.int d1), (.int sq)]) (rest := [(.int (fhit d0 sq))]) (lenOf pd_4 rfl) rfl (by show 2 * 0 + _ ≤ _; exact Nat.le_of_eq rfl) (hb hby at_108) (fun _ _ => ⟨rfl, hh44, (by decide : 5 + 0 ≤ _), (by decide : 27 + 0 ≤ _)⟩)
  dsimp only [Pt.U, Pt.locs, Pt.cells, Pt.slots] at X47 l47 y47 z47 st47 hQ47
  subst l47 y47 z47
  obtain ⟨rfl, N47q, hh47⟩ := hQ47
  have N47 := Fr.app N44 N47q
  have pre48 : Go p e below (s₁.setTop (entryFrame m #[(.int x0), (.int x1), (.int x2), (.int x3), (.int x4), (.int x5)] maxLocals)) (T47.setTop (mkF m 111 #[.val (.int x0), .val (.int x1), .val (.int x2), .val (.int x3), .val (.int x4), .val (.int x5), .val (.int nn), .val (.int d0), .val (.int d1), .val (.int d2), .val (.int d3), .val (.int sq), .val (.ref b0), .val (.ref b1), .unset] [(.int (fhit d1 sq)), (.int (fhit d0 sq))])) := fun t k => pre46 t (st47 t k)
  have pre49 : Go p e below (s₁.setTop (entryFrame m #[(.int x0), (.int x1), (.int x2), (.int x3), (.int x4), (.int x5)] maxLocals)) (T47.setTop (mkF m 116 #[.val (.int x0), .val (.int x1), .val (.int x2), .val (.int x3), .val (.int x4), .val (.int x5), .val (.int nn), .val (.int d0), .val (.int d1), .val (.int d2), .val (.int d3), .val (.int sq), .val (.ref b0), .val (.ref b1), .unset] [(.int sq), (.int d2), (.int ((fhit d0 sq) + (fhit d1 sq)))])) := by
    intro t k
    refine pre48 t ?_
    show Steps p.tables e below (T47.setTop (mkF m 111 #[.val (.int x0), .val (.int x1), .val (.int x2), .val (.int x3), .val (.int x4), .val (.int x5), .val (.int nn), .val (.int d0), .val (.int d1), .val (.int d2), .val (.int d3), .val (.int sq), .val (.ref b0), .val (.ref b1), .unset] [(.int (fhit d1 sq)), (.int (fhit d0 sq))])) _
    refine XS.iadd X47.here hx rfl (hb hby at_111) rfl ?_
    show Steps p.tables e below (T47.setTop (mkF m 112 #[.val (.int x0), .val (.int x1), .val (.int x2), .val (.int x3), .val (.int x4), .val (.int x5), .val (.int nn), .val (.int d0), .val (.int d1), .val (.int d2), .val (.int d3), .val (.int sq), .val (.ref b0), .val (.ref b1), .unset] [(.int ((fhit d0 sq) + (fhit d1 sq)))])) _
    refine XS.iload X47.here hx rfl (hb hby at_112) rfl ?_
    show Steps p.tables e below (T47.setTop (mkF m 114 #[.val (.int x0), .val (.int x1), .val (.int x2), .val (.int x3), .val (.int x4), .val (.int x5), .val (.int nn), .val (.int d0), .val (.int d1), .val (.int d2), .val (.int d3), .val (.int sq), .val (.ref b0), .val (.ref b1), .unset] [(.int d2), (.int ((fhit d0 sq) + (fhit d1 sq)))])) _
    refine XS.iload X47.here hx rfl (hb hby at_114) rfl ?_
    show Steps p.tables e below (T47.setTop (mkF m 116 #[.val (.int x0), .val (.int x1), .val (.int x2), .val (.int x3), .val (.int x4), .val (.int x5), .val (.int nn), .val (.int d0), .val (.int d1), .val (.int d2), .val (.int d3), .val (.int sq), .val (.ref b0), .val (.ref b1), .unset] [(.int sq), (.int d2), (.int ((fhit d0 sq) + (fhit d1 sq)))])) _
    exact k
  obtain ⟨_, _, ⟨T50, L50, k50, n50⟩, -, X50, ⟨Lc50, hQ50, l50, y50, z50⟩, st50⟩ := Jvm.LawKit.callS X47 hx (y := (⟨"com/example/kripketools/kripketools/AdjacencyDegreePinLaw", "hit", "(II)I"⟩ : MethodName)) hown (mvT hZ (hw _ (List.mem_of_getElem? (i := 15) rfl))) (mvT hZ (hw _ (List.mem_of_getElem? (i := 16) rfl))) (mvT hZ (hw _ (List.mem_of_getElem? (i := 17) rfl))) (mvT hZ (hw _ (List.mem_of_getElem? (i := 18) rfl))) (by decide) (backOf (W := 1) (rm3 l Z a0 hw [] d2 sq  T38.heap n0 zz41 ) hZ (hw _ (List.mem_of_getElem? (i := 18) rfl)) (hw _ (List.mem_of_getElem? (i := 17) rfl)) (by decide) (by decide)) (g := (mkF m 116 #[.val (.int x0), .val (.int x1), .val (.int x2), .val (.int x3), .val (.int x4), .val (.int x5), .val (.int nn), .val (.int d0), .val (.int d1), .val (.int d2), .val (.int d3), .val (.int sq), .val (.ref b0), .val (.ref b1), .unset] [(.int sq), (.int d2), (.int ((fhit d0 sq) + (fhit d1 sq)))])) rfl (by rw [hml]; rfl) (argsL := [(.int d2), (.int sq)]) (rest := [(.int ((fhit d0 sq) + (fhit d1 sq)))]) (lenOf pd_4 rfl) rfl (by show 2 * 0 + _ ≤ _; exact Nat.le_of_eq rfl) (hb hby at_116) (fun _ _ => ⟨rfl, hh47, (by decide : 5 + 0 ≤ _), (by decide : 27 + 0 ≤ _)⟩)
  dsimp only [Pt.U, Pt.locs, Pt.cells, Pt.slots] at X50 l50 y50 z50 st50 hQ50
  subst l50 y50 z50
  obtain ⟨rfl, N50q, hh50⟩ := hQ50
  have N50 := Fr.app N47 N50q
  have pre51 : Go p e below (s₁.setTop (entryFrame m #[(.int x0), (.int x1), (.int x2), (.int x3), (.int x4), (.int x5)] maxLocals)) (T50.setTop (mkF m 119 #[.val (.int x0), .val (.int x1), .val (.int x2), .val (.int x3), .val (.int x4), .val (.int x5), .val (.int nn), .val (.int d0), .val (.int d1), .val (.int d2), .val (.int d3), .val (.int sq), .val (.ref b0), .val (.ref b1), .unset] [(.int (fhit d2 sq)), (.int ((fhit d0 sq) + (fhit d1 sq)))])) := fun t k => pre49 t (st50 t k)
  have pre52 : Go p e below (s₁.setTop (entryFrame m #[(.int x0), (.int x1), (.int x2), (.int x3), (.int x4), (.int x5)] maxLocals)) (T50.setTop (mkF m 124 #[.val (.int x0), .val (.int x1), .val (.int x2), .val (.int x3), .val (.int x4), .val (.int x5), .val (.int nn), .val (.int d0), .val (.int d1), .val (.int d2), .val (.int d3), .val (.int sq), .val (.ref b0), .val (.ref b1), .unset] [(.int sq), (.int d3), (.int (((fhit d0 sq) + (fhit d1 sq)) + (fhit d2 sq)))])) := by
    intro t k
    refine pre51 t ?_
    show Steps p.tables e below (T50.setTop (mkF m 119 #[.val (.int x0), .val (.int x1), .val (.int x2), .val (.int x3), .val (.int x4), .val (.int x5), .val (.int nn), .val (.int d0), .val (.int d1), .val (.int d2), .val (.int d3), .val (.int sq), .val (.ref b0), .val (.ref b1), .unset] [(.int (fhit d2 sq)), (.int ((fhit d0 sq) + (fhit d1 sq)))])) _
    refine XS.iadd X50.here hx rfl (hb hby at_119) rfl ?_
    show Steps p.tables e below (T50.setTop (mkF m 120 #[.val (.int x0), .val (.int x1), .val (.int x2), .val (.int x3), .val (.int x4), .val (.int x5), .val (.int nn), .val (.int d0), .val (.int d1), .val (.int d2), .val (.int d3), .val (.int sq), .val (.ref b0), .val (.ref b1), .unset] [(.int (((fhit d0 sq) + (fhit d1 sq)) + (fhit d2 sq)))])) _
    refine XS.iload X50.here hx rfl (hb hby at_120) rfl ?_
    show Steps p.tables e below (T50.setTop (mkF m 122 #[.val (.int x0), .val (.int x1), .val (.int x2), .val (.int x3), .val (.int x4), .val (.int x5), .val (.int nn), .val (.int d0), .val (.int d1), .val (.int d2), .val (.int d3), .val (.int sq), .val (.ref b0), .val (.ref b1), .unset] [(.int d3), (.int (((fhit d0 sq) + (fhit d1 sq)) + (fhit d2 sq)))])) _
    refine XS.iload X50.here hx rfl (hb hby at_122) rfl ?_
    show Steps p.tables e below (T50.setTop (mkF m 124 #[.val (.int x0), .val (.int x1), .val (.int x2), .val (.int x3), .val (.int x4), .val (.int x5), .val (.int nn), .val (.int d0), .val (.int d1), .val (.int d2), .val (.int d3), .val (.int sq), .val (.ref b0), .val (.ref b1), .unset] [(.int sq), (.int d3), (.int (((fhit d0 sq) + (fhit d1 sq)) + (fhit d2 sq)))])) _
    exact k
  obtain ⟨_, _, ⟨T53, L53, k53, n53⟩, -, X53, ⟨Lc53, hQ53, l53, y53, z53⟩, st53⟩ := Jvm.LawKit.callS X50 hx (y := (⟨"com/example/kripketools/kripketools/AdjacencyDegreePinLaw", "hit", "(II)I"⟩ : MethodName)) hown (mvT hZ (hw _ (List.mem_of_getElem? (i := 15) rfl))) (mvT hZ (hw _ (List.mem_of_getElem? (i := 16) rfl))) (mvT hZ (hw _ (List.mem_of_getElem? (i := 17) rfl))) (mvT hZ (hw _ (List.mem_of_getElem? (i := 18) rfl))) (by decide) (backOf (W := 1) (rm3 l Z a0 hw [] d3 sq  T38.heap n0 zz41 ) hZ (hw _ (List.mem_of_getElem? (i := 18) rfl)) (hw _ (List.mem_of_getElem? (i := 17) rfl)) (by decide) (by decide)) (g := (mkF m 124 #[.val (.int x0), .val (.int x1), .val (.int x2), .val (.int x3), .val (.int x4), .val (.int x5), .val (.int nn), .val (.int d0), .val (.int d1), .val (.int d2), .val (.int d3), .val (.int sq), .val (.ref b0), .val (.ref b1), .unset] [(.int sq), (.int d3), (.int (((fhit d0 sq) + (fhit d1 sq)) + (fhit d2 sq)))])) rfl (by rw [hml]; rfl) (argsL := [(.int d3), (.int sq)]) (rest := [(.int (((fhit d0 sq) + (fhit d1 sq)) + (fhit d2 sq)))]) (lenOf pd_4 rfl) rfl (by show 2 * 0 + _ ≤ _; exact Nat.le_of_eq rfl) (hb hby at_124) (fun _ _ => ⟨rfl, hh50, (by decide : 5 + 0 ≤ _), (by decide : 27 + 0 ≤ _)⟩)
  dsimp only [Pt.U, Pt.locs, Pt.cells, Pt.slots] at X53 l53 y53 z53 st53 hQ53
  subst l53 y53 z53
  obtain ⟨rfl, N53q, hh53⟩ := hQ53
  have N53 := Fr.app N50 N53q
  have pre54 : Go p e below (s₁.setTop (entryFrame m #[(.int x0), (.int x1), (.int x2), (.int x3), (.int x4), (.int x5)] maxLocals)) (T53.setTop (mkF m 127 #[.val (.int x0), .val (.int x1), .val (.int x2), .val (.int x3), .val (.int x4), .val (.int x5), .val (.int nn), .val (.int d0), .val (.int d1), .val (.int d2), .val (.int d3), .val (.int sq), .val (.ref b0), .val (.ref b1), .unset] [(.int (fhit d3 sq)), (.int (((fhit d0 sq) + (fhit d1 sq)) + (fhit d2 sq)))])) := fun t k => pre52 t (st53 t k)
  have pre55 : Go p e below (s₁.setTop (entryFrame m #[(.int x0), (.int x1), (.int x2), (.int x3), (.int x4), (.int x5)] maxLocals)) (T53.setTop (mkF m 134 #[.val (.int x0), .val (.int x1), .val (.int x2), .val (.int x3), .val (.int x4), .val (.int x5), .val (.int nn), .val (.int d0), .val (.int d1), .val (.int d2), .val (.int d3), .val (.int sq), .val (.ref b0), .val (.ref b1), .val (.int ((((fhit d0 sq) + (fhit d1 sq)) + (fhit d2 sq)) + (fhit d3 sq)))] [(.int sq), (.ref b1)])) := by
    intro t k
    refine pre54 t ?_
    show Steps p.tables e below (T53.setTop (mkF m 127 #[.val (.int x0), .val (.int x1), .val (.int x2), .val (.int x3), .val (.int x4), .val (.int x5), .val (.int nn), .val (.int d0), .val (.int d1), .val (.int d2), .val (.int d3), .val (.int sq), .val (.ref b0), .val (.ref b1), .unset] [(.int (fhit d3 sq)), (.int (((fhit d0 sq) + (fhit d1 sq)) + (fhit d2 sq)))])) _
    refine XS.iadd X53.here hx rfl (hb hby at_127) rfl ?_
    show Steps p.tables e below (T53.setTop (mkF m 128 #[.val (.int x0), .val (.int x1), .val (.int x2), .val (.int x3), .val (.int x4), .val (.int x5), .val (.int nn), .val (.int d0), .val (.int d1), .val (.int d2), .val (.int d3), .val (.int sq), .val (.ref b0), .val (.ref b1), .unset] [(.int ((((fhit d0 sq) + (fhit d1 sq)) + (fhit d2 sq)) + (fhit d3 sq)))])) _
    refine XS.istore X53.here hx rfl (hb hby at_128) rfl (l' := #[.val (.int x0), .val (.int x1), .val (.int x2), .val (.int x3), .val (.int x4), .val (.int x5), .val (.int nn), .val (.int d0), .val (.int d1), .val (.int d2), .val (.int d3), .val (.int sq), .val (.ref b0), .val (.ref b1), .val (.int ((((fhit d0 sq) + (fhit d1 sq)) + (fhit d2 sq)) + (fhit d3 sq)))]) rfl ?_
    show Steps p.tables e below (T53.setTop (mkF m 130 #[.val (.int x0), .val (.int x1), .val (.int x2), .val (.int x3), .val (.int x4), .val (.int x5), .val (.int nn), .val (.int d0), .val (.int d1), .val (.int d2), .val (.int d3), .val (.int sq), .val (.ref b0), .val (.ref b1), .val (.int ((((fhit d0 sq) + (fhit d1 sq)) + (fhit d2 sq)) + (fhit d3 sq)))] [])) _
    refine XS.aload X53.here hx rfl (hb hby at_130) rfl rfl ?_
    show Steps p.tables e below (T53.setTop (mkF m 132 #[.val (.int x0), .val (.int x1), .val (.int x2), .val (.int x3), .val (.int x4), .val (.int x5), .val (.int nn), .val (.int d0), .val (.int d1), .val (.int d2), .val (.int d3), .val (.int sq), .val (.ref b0), .val (.ref b1), .val (.int ((((fhit d0 sq) + (fhit d1 sq)) + (fhit d2 sq)) + (fhit d3 sq)))] [(.ref b1)])) _
    refine XS.iload X53.here hx rfl (hb hby at_132) rfl ?_
    show Steps p.tables e below (T53.setTop (mkF m 134 #[.val (.int x0), .val (.int x1), .val (.int x2), .val (.int x3), .val (.int x4), .val (.int x5), .val (.int nn), .val (.int d0), .val (.int d1), .val (.int d2), .val (.int d3), .val (.int sq), .val (.ref b0), .val (.ref b1), .val (.int ((((fhit d0 sq) + (fhit d1 sq)) + (fhit d2 sq)) + (fhit d3 sq)))] [(.int sq), (.ref b1)])) _
    exact k
  obtain ⟨cq56, kq56, q56a, q56b, q56c⟩ := isOf hZ hh53 kc40
  obtain ⟨_, _, ⟨T56, L56, k56, n56⟩, -, X56, ⟨Lc56, hQ56, l56, y56, z56⟩, st56⟩ := X53.virtualBack hx (y := (⟨"com/example/kripketools/kripketools/Adjacency", "degree", "(I)I"⟩ : MethodName)) (z := (⟨"com/example/kripketools/kripketools/Adjacency", "degree", "(I)I"⟩ : MethodName)) hown (mvT hZ (hw _ (List.mem_of_getElem? (i := 19) rfl))) (mvT hZ (hw _ (List.mem_of_getElem? (i := 20) rfl))) (notFace_of_selects (args := #[]) (mvT hZ (hw _ (List.mem_of_getElem? (i := 22) rfl)))) (mvT hZ (hw _ (List.mem_of_getElem? (i := 22) rfl))) (mvT hZ (hw _ (List.mem_of_getElem? (i := 21) rfl))) (by decide) (backOf (W := 0) (rm4 l Z a0 hw [] b1 sq bS kS nn (own_acc (own_cnt [d3, d2, d1, d0]) nn.toInt.toNat) T38.heap n0 zz41 Fs38 AV38 hbs hnn.2) hZ (hw _ (List.mem_of_getElem? (i := 23) rfl)) (hw _ (List.mem_of_getElem? (i := 4) rfl)) (by decide) (by decide)) q56a q56c (g := (mkF m 134 #[.val (.int x0), .val (.int x1), .val (.int x2), .val (.int x3), .val (.int x4), .val (.int x5), .val (.int nn), .val (.int d0), .val (.int d1), .val (.int d2), .val (.int d3), .val (.int sq), .val (.ref b0), .val (.ref b1), .val (.int ((((fhit d0 sq) + (fhit d1 sq)) + (fhit d2 sq)) + (fhit d3 sq)))] [(.int sq), (.ref b1)])) rfl (by rw [hml]; rfl) (Steps.refl _) (argsL := [(.int sq)]) (rest := []) (lenOf pd_5 rfl) rfl (by show 2 * 0 + _ ≤ _; exact Nat.le_of_eq rfl) (hb hby at_134) (fun _ _ => ⟨rfl, hh53, (by decide : 5 + 0 ≤ _), (by decide : 27 + 0 ≤ _)⟩)
  dsimp only [Pt.U, Pt.locs, Pt.cells, Pt.slots] at X56 l56 y56 z56 st56 hQ56
  subst l56 y56 z56
  obtain ⟨rfl, N56q, hh56⟩ := hQ56
  have N56 := Fr.app N53 N56q
  have pre57 : Go p e below (s₁.setTop (entryFrame m #[(.int x0), (.int x1), (.int x2), (.int x3), (.int x4), (.int x5)] maxLocals)) (T56.setTop (mkF m 137 #[.val (.int x0), .val (.int x1), .val (.int x2), .val (.int x3), .val (.int x4), .val (.int x5), .val (.int nn), .val (.int d0), .val (.int d1), .val (.int d2), .val (.int d3), .val (.int sq), .val (.ref b0), .val (.ref b1), .val (.int ((((fhit d0 sq) + (fhit d1 sq)) + (fhit d2 sq)) + (fhit d3 sq)))] [(.int (fdeg sq (own_acc (own_cnt [d3, d2, d1, d0]) nn.toInt.toNat)))])) := fun t k => pre55 t (st56.trans k)
  have pre58 : Go p e below (s₁.setTop (entryFrame m #[(.int x0), (.int x1), (.int x2), (.int x3), (.int x4), (.int x5)] maxLocals)) (T56.setTop (mkF m 139 #[.val (.int x0), .val (.int x1), .val (.int x2), .val (.int x3), .val (.int x4), .val (.int x5), .val (.int nn), .val (.int d0), .val (.int d1), .val (.int d2), .val (.int d3), .val (.int sq), .val (.ref b0), .val (.ref b1), .val (.int ((((fhit d0 sq) + (fhit d1 sq)) + (fhit d2 sq)) + (fhit d3 sq)))] [(.int ((((fhit d0 sq) + (fhit d1 sq)) + (fhit d2 sq)) + (fhit d3 sq))), (.int (fdeg sq (own_acc (own_cnt [d3, d2, d1, d0]) nn.toInt.toNat)))])) := by
    intro t k
    refine pre57 t ?_
    show Steps p.tables e below (T56.setTop (mkF m 137 #[.val (.int x0), .val (.int x1), .val (.int x2), .val (.int x3), .val (.int x4), .val (.int x5), .val (.int nn), .val (.int d0), .val (.int d1), .val (.int d2), .val (.int d3), .val (.int sq), .val (.ref b0), .val (.ref b1), .val (.int ((((fhit d0 sq) + (fhit d1 sq)) + (fhit d2 sq)) + (fhit d3 sq)))] [(.int (fdeg sq (own_acc (own_cnt [d3, d2, d1, d0]) nn.toInt.toNat)))])) _
    refine XS.iload X56.here hx rfl (hb hby at_137) rfl ?_
    show Steps p.tables e below (T56.setTop (mkF m 139 #[.val (.int x0), .val (.int x1), .val (.int x2), .val (.int x3), .val (.int x4), .val (.int x5), .val (.int nn), .val (.int d0), .val (.int d1), .val (.int d2), .val (.int d3), .val (.int sq), .val (.ref b0), .val (.ref b1), .val (.int ((((fhit d0 sq) + (fhit d1 sq)) + (fhit d2 sq)) + (fhit d3 sq)))] [(.int ((((fhit d0 sq) + (fhit d1 sq)) + (fhit d2 sq)) + (fhit d3 sq))), (.int (fdeg sq (own_acc (own_cnt [d3, d2, d1, d0]) nn.toInt.toNat)))])) _
    exact k
  have hc139_59 : (fdeg sq (own_acc (own_cnt [d3, d2, d1, d0]) nn.toInt.toNat)) = ((((fhit d0 sq) + (fhit d1 sq)) + (fhit d2 sq)) + (fhit d3 sq)) := by
    exact own_deg hnn hbs hb0 hb1 hb2 hb3
  have pre60 : Go p e below (s₁.setTop (entryFrame m #[(.int x0), (.int x1), (.int x2), (.int x3), (.int x4), (.int x5)] maxLocals)) (T56.setTop (mkF m 147 #[.val (.int x0), .val (.int x1), .val (.int x2), .val (.int x3), .val (.int x4), .val (.int x5), .val (.int nn), .val (.int d0), .val (.int d1), .val (.int d2), .val (.int d3), .val (.int sq), .val (.ref b0), .val (.ref b1), .val (.int ((((fhit d0 sq) + (fhit d1 sq)) + (fhit d2 sq)) + (fhit d3 sq)))] [(.int (1 : Int32))])) := by
    intro t k
    refine pre58 t ?_
    show Steps p.tables e below (T56.setTop (mkF m 139 #[.val (.int x0), .val (.int x1), .val (.int x2), .val (.int x3), .val (.int x4), .val (.int x5), .val (.int nn), .val (.int d0), .val (.int d1), .val (.int d2), .val (.int d3), .val (.int sq), .val (.ref b0), .val (.ref b1), .val (.int ((((fhit d0 sq) + (fhit d1 sq)) + (fhit d2 sq)) + (fhit d3 sq)))] [(.int ((((fhit d0 sq) + (fhit d1 sq)) + (fhit d2 sq)) + (fhit d3 sq))), (.int (fdeg sq (own_acc (own_cnt [d3, d2, d1, d0]) nn.toInt.toNat)))])) _
    refine XS.icmpNo X56.here hx rfl (hb hby at_139) rfl (XT.ii_ne_f hc139_59) ?_
    show Steps p.tables e below (T56.setTop (mkF m 142 #[.val (.int x0), .val (.int x1), .val (.int x2), .val (.int x3), .val (.int x4), .val (.int x5), .val (.int nn), .val (.int d0), .val (.int d1), .val (.int d2), .val (.int d3), .val (.int sq), .val (.ref b0), .val (.ref b1), .val (.int ((((fhit d0 sq) + (fhit d1 sq)) + (fhit d2 sq)) + (fhit d3 sq)))] [])) _
    refine XS.iconst X56.here hx rfl (hb hby at_142) ?_
    show Steps p.tables e below (T56.setTop (mkF m 143 #[.val (.int x0), .val (.int x1), .val (.int x2), .val (.int x3), .val (.int x4), .val (.int x5), .val (.int nn), .val (.int d0), .val (.int d1), .val (.int d2), .val (.int d3), .val (.int sq), .val (.ref b0), .val (.ref b1), .val (.int ((((fhit d0 sq) + (fhit d1 sq)) + (fhit d2 sq)) + (fhit d3 sq)))] [(.int (1 : Int32))])) _
    refine XS.goto X56.here hx rfl (pc0 := 143) (pc' := 147) rfl (hb hby at_143) (by decide) (by decide) ?_
    show Steps p.tables e below (T56.setTop (mkF m 147 #[.val (.int x0), .val (.int x1), .val (.int x2), .val (.int x3), .val (.int x4), .val (.int x5), .val (.int nn), .val (.int d0), .val (.int d1), .val (.int d2), .val (.int d3), .val (.int sq), .val (.ref b0), .val (.ref b1), .val (.int ((((fhit d0 sq) + (fhit d1 sq)) + (fhit d2 sq)) + (fhit d3 sq)))] [(.int (1 : Int32))])) _
    exact k
  obtain ⟨fs, hr, hrun, hended, hW, hsame⟩ := X56.leave (hlocks := hlk) (v := some (.int (1 : Int32))) (fun h => by rw [Bd.returns] at h; cases h)
  refine ⟨_, _, pre60 _ (retN X56 hx (t := .boolean) Bd.returns (by simp) (hb hby at_147) hr), hrun, hended, _, _, rfl, ?_, ⟨_, rfl⟩, hW, hsame.mono (by decide) (by decide)⟩
  show Q0 Z x0 x1 x2 x3 x4 x5 h0 n0 _ T56.heap _
  rw [hh56]
  exact ⟨rfl, N56⟩
set_option maxRecDepth 65536 in
set_option maxHeartbeats 40000000 in
theorem comes_1 {Post : Tables → Env → Array Value → State → Outcome → State → Prop} (hpost : ∀ tb e args s v u, (limb_1_1.after args s (.returned v) u = true ∧ limb_1_2.after args s (.returned v) u = true ∧ True) → FrameEnd s (.returned v) u (Jvm.fieldLocs frame_1_writes args s ++ Jvm.arrayLocs frame_1_arrays args s ++ Jvm.staticLocs frame_1_statics s) 24 128 → Post tb e args s (.returned v) u) :
    ArmFor flags0 classFile x code maxLocals ret World_1 tables_1 room_1 Calls_1 rest_1 Pre_1 Post := by
  intro l hfl _ _ p e ha hc hk s m args below hf hA hF happ hP
  obtain ⟨hcalls, hrest, hpre⟩ := hP
  obtain ⟨-, -, -, hnamed, -, -, -, hat⟩ := (Spec.applies_iff hf).mp happ
  obtain ⟨hg, hn⟩ := and_e (Cond.before_iff.mp (show (Jvm.Cond.and given_1 narrow_1).before args s = true from hpre))
  obtain ⟨u1, u2⟩ := and_e hg
  obtain ⟨u3, u4⟩ := and_e u2
  obtain ⟨u5, u6⟩ := and_e u4
  obtain ⟨u7, u8⟩ := and_e u6
  obtain ⟨u9, u10⟩ := and_e u8
  obtain ⟨u11, u12⟩ := and_e u10
  obtain ⟨w0, w1, w2, w3, w4, w5, rfl⟩ : ∃ w0 w1 w2 w3 w4 w5 : Value, args = #[w0, w1, w2, w3, w4, w5] := by
    have hs : args.size = 6 := by simpa [Cond.value, given_1] using u1
    obtain ⟨L⟩ := args
    match L, hs with
    | [w0, w1, w2, w3, w4, w5], _ => exact ⟨w0, w1, w2, w3, w4, w5, rfl⟩
  have hw := fun d (hd : d ∈ tables_1) => atoms_spec (ws := Jvm.Cond.code x code maxLocals ret :: tables_1) hat d (List.mem_cons_of_mem _ hd)
  obtain ⟨i0, ei0⟩ := is_v u3
  obtain rfl : w0 = (.int i0) := Option.some.inj ei0
  obtain ⟨i1, ei1⟩ := is_v u5
  obtain rfl : w1 = (.int i1) := Option.some.inj ei1
  obtain ⟨i2, ei2⟩ := is_v u7
  obtain rfl : w2 = (.int i2) := Option.some.inj ei2
  obtain ⟨i3, ei3⟩ := is_v u9
  obtain rfl : w3 = (.int i3) := Option.some.inj ei3
  obtain ⟨i4, ei4⟩ := is_v u11
  obtain rfl : w4 = (.int i4) := Option.some.inj ei4
  obtain ⟨i5, ei5⟩ := is_v u12
  obtain rfl : w5 = (.int i5) := Option.some.inj ei5
  obtain ⟨n, o, h1, h2, h3, _, L, rfl, ⟨rfl, N⟩, hq⟩ := rm0 l s _ hw tables_1 i0 i1 i2 i3 i4 i5 s.heap s.heap.size (Nat.le_refl _) p e ha hc hk s m _ below hf ((Spec.applies_iff_loose hf).mp happ).1 ⟨rfl, State.Warmed39.refl s, rfl⟩ trivial
  refine ⟨n, _, h1, h2, h3, hpost _ _ _ _ _ _ ⟨Cond.after_iff.mpr rfl, Cond.after_iff.mpr (eq_i res_at (Term.int_eval (1)) rfl), trivial⟩ ⟨hq.1, hq.2.1, (hq.2.2.sift fun y hy => Or.inr (N y hy)).mono (by decide) (by decide)⟩⟩
theorem main_1_1 : Claimed_1_1 := comes_1 fun _ _ _ _ _ _ h hF => ⟨h.1, hF⟩
theorem main_1_2 : Claimed_1_2 := comes_1 fun _ _ _ _ _ _ h hF => ⟨h.2.1, hF⟩
end Jvm.Pilot.@@N@@
namespace Jvm.Pilot.@@N@@
open Jvm Jvm.ClassFile Sem Op Lib Jvm.Free Jvm.Stand Jvm.Pilot.@@N@@.Jvm.D
/-! MADE BY PROGRAM (witnessworld.py) out of the Statement's table words and the real class files: 9 classes; the members and pool entries that the words name. The judged class is class 1, her method 1. -/
namespace start1
open Jvm.ClassFile
def u (s : String) : CpInfo := .utf8 (stringToUtf16 s)
/-- a pool by its gaps: so many unusable entries, then the entry; so many at the end -/
def gap : Nat → List CpInfo → List CpInfo
  | 0, r => r
  | n + 1, r => .unusable :: gap n r
def poolList (es : List (Nat × CpInfo)) (last : Nat) : List CpInfo := es.foldr (fun e r => gap e.1 (e.2 :: r)) (gap last [])
def pool (es : List (Nat × CpInfo)) (last : Nat) : Array CpInfo := ⟨poolList es last⟩
def fileOf (pool : Array CpInfo) (this : Nat) (attrs : Array Attribute := #[]) (ms : Array MethodInfo := #[]) (fl : Nat := 33) (sup : Nat := 0) (ifs : Array Nat := #[]) (fds : Array FieldInfo := #[]) : ClassFile where
  minorVersion := 0
  majorVersion := 65
  constantPool := pool
  accessFlags := fl
  thisClass := this
  superClass := sup
  interfaces := ifs
  fields := fds
  methods := ms
  attributes := attrs
def plain (name : String) (sup : Option ClassId) : Class where
  name := name
  kind := .ordinary
  loader := none
  accessFlags := 33
  super := sup
  interfaces := #[]
  cf := none
  fields := #[]
  methods := #[]
  instanceTypes := #[]
  staticTypes := #[]
  resolved := #[]
  callSites := []
  init := .initialized
  statics := none
  mirror := none

def pool0 : Array CpInfo := pool [(5, u "<init>"), (0, u "()V"), (1, .class_ 10), (1, u "java/lang/Object")] 113

def k0c0 : Code := { maxStack := 0, maxLocals := 1, code := object_method_1_code, exceptionTable := #[], attributes := #[] }
def k0m0 : Method := { name := "<init>", desc := "()V", sig := { parameters := [], returnType := none }, accessFlags := 1, code := some k0c0 }
/-- java/lang/Object -/
def k0 : Class := { plain "java/lang/Object" none with
  accessFlags := 33
  interfaces := #[]
  cf := some (fileOf pool0 8 #[] #[{ accessFlags := 1, nameIndex := 5, descriptorIndex := 6, attributes := #[] }] 33 0 #[] #[])
  fields := #[]
  methods := #[k0m0]
  instanceTypes := #[]
  staticTypes := #[]
  resolved := Array.replicate 124 none
  statics := none }

def pool1 : Array CpInfo := pool [(2, .class_ 4), (1, u "java/lang/Object"), (0, u "<init>"), (0, u "()V"), (0, .integer 2147483647), (0, .class_ 9), (0, u "com/example/kripketools/kripketools/Adjacency"), (0, .methodref 8 11), (0, .nameAndType 5 12), (0, u "([II)V"), (0, .methodref 14 15), (0, .class_ 16), (0, .nameAndType 17 18), (0, u "com/example/kripketools/kripketools/AdjacencyDegreePinLaw"), (0, u "hit"), (0, u "(II)I"), (0, .methodref 8 20), (0, .nameAndType 21 22), (0, u "degree"), (0, u "(I)I"), (2, u "law"), (0, u "(IIIIII)Z")] 5

def k1m0 : Method := { name := "<init>", desc := "()V", sig := { parameters := [], returnType := none }, accessFlags := 1, code := none }
def k1c1 : Code := { maxStack := 4, maxLocals := 15, code := code, exceptionTable := #[], attributes := #[] }
def k1m1 : Method := { name := "law", desc := "(IIIIII)Z", sig := { parameters := [.int, .int, .int, .int, .int, .int], returnType := some .boolean }, accessFlags := 9, code := some k1c1 }
def k1c2 : Code := { maxStack := 2, maxLocals := 2, code := method_3_code, exceptionTable := #[], attributes := #[] }
def k1m2 : Method := { name := "hit", desc := "(II)I", sig := { parameters := [.int, .int], returnType := some .int }, accessFlags := 10, code := some k1c2 }
/-- com/example/kripketools/kripketools/AdjacencyDegreePinLaw -/
def k1 : Class := { plain "com/example/kripketools/kripketools/AdjacencyDegreePinLaw" (some 0) with
  accessFlags := 49
  interfaces := #[]
  cf := some (fileOf pool1 14 #[] #[{ accessFlags := 1, nameIndex := 5, descriptorIndex := 6, attributes := #[] }, { accessFlags := 9, nameIndex := 25, descriptorIndex := 26, attributes := #[] }, { accessFlags := 10, nameIndex := 17, descriptorIndex := 18, attributes := #[] }] 49 2 #[] #[])
  fields := #[]
  methods := #[k1m0, k1m1, k1m2]
  instanceTypes := #[]
  staticTypes := #[]
  resolved := Array.replicate 32 none
  statics := none }

def pool2 : Array CpInfo := pool [(1, .methodref 2 3), (0, .class_ 4), (0, .nameAndType 5 6), (0, u "java/lang/Object"), (0, u "<init>"), (0, u "()V"), (0, .fieldref 8 9), (0, .class_ 10), (0, .nameAndType 11 12), (0, u "com/example/kripketools/kripketools/Adjacency"), (0, u "start"), (0, u "[I"), (0, .fieldref 8 14), (0, .nameAndType 15 12), (0, u "transitions"), (0, u "([II)V"), (5, u "(I)I"), (2, u "degree")] 2

def k2c0 : Code := { maxStack := 7, maxLocals := 7, code := prog_1_method_1_code, exceptionTable := #[], attributes := #[] }
def k2m0 : Method := { name := "<init>", desc := "([II)V", sig := { parameters := [(.array .int), .int], returnType := none }, accessFlags := 0, code := some k2c0 }
def k2c1 : Code := { maxStack := 3, maxLocals := 2, code := prog_1_method_5_code, exceptionTable := #[], attributes := #[] }
def k2m1 : Method := { name := "degree", desc := "(I)I", sig := { parameters := [.int], returnType := some .int }, accessFlags := 0, code := some k2c1 }
/-- com/example/kripketools/kripketools/Adjacency -/
def k2 : Class := { plain "com/example/kripketools/kripketools/Adjacency" (some 0) with
  accessFlags := 32
  interfaces := #[]
  cf := some (fileOf pool2 8 #[] #[{ accessFlags := 0, nameIndex := 5, descriptorIndex := 16, attributes := #[] }, { accessFlags := 0, nameIndex := 25, descriptorIndex := 22, attributes := #[] }] 32 2 #[] #[{ accessFlags := 18, nameIndex := 11, descriptorIndex := 12, attributes := #[] }, { accessFlags := 18, nameIndex := 15, descriptorIndex := 12, attributes := #[] }])
  fields := #[{ name := "start", type := (.array .int), accessFlags := 18, slot := 0, constantValue := 0 }, { name := "transitions", type := (.array .int), accessFlags := 18, slot := 1, constantValue := 0 }]
  methods := #[k2m0, k2m1]
  instanceTypes := #[(.array .int), (.array .int)]
  staticTypes := #[]
  resolved := Array.replicate 28 none
  statics := none }

def pool3 : Array CpInfo := pool [(1, u "java/lang/Cloneable"), (0, .class_ 1), (0, u "java/lang/Object"), (0, .class_ 3)] 3

/-- java/lang/Cloneable -/
def k3 : Class := { plain "java/lang/Cloneable" (some 0) with
  accessFlags := 1537
  interfaces := #[]
  cf := some (fileOf pool3 2 #[] #[] 1537 4 #[] #[])
  fields := #[]
  methods := #[]
  instanceTypes := #[]
  staticTypes := #[]
  resolved := Array.replicate 8 none
  statics := none }

def pool4 : Array CpInfo := pool [(1, u "java/io/Serializable"), (0, .class_ 1), (0, u "java/lang/Object"), (0, .class_ 3)] 3

/-- java/io/Serializable -/
def k4 : Class := { plain "java/io/Serializable" (some 0) with
  accessFlags := 1537
  interfaces := #[]
  cf := some (fileOf pool4 2 #[] #[] 1537 4 #[] #[])
  fields := #[]
  methods := #[]
  instanceTypes := #[]
  staticTypes := #[]
  resolved := Array.replicate 8 none
  statics := none }

/-- the primitive byte -/
def k5 : Class := { plain "byte" none with kind := .primitive 'B', accessFlags := 0x411 }
/-- [B -/
def k6 : Class := { plain "[B" (some 0) with kind := .array 5 .byte, interfaces := #[3, 4], accessFlags := 1041 }

/-- the primitive int -/
def k7 : Class := { plain "int" none with kind := .primitive 'I', accessFlags := 0x411 }
/-- [I -/
def k8 : Class := { plain "[I" (some 0) with kind := .array 7 .int, interfaces := #[3, 4], accessFlags := 1041 }

def heap : Heap := #[]
def classes : Array Class := #[k0, k1, k2, k3, k4, k5, k6, k7, k8]
def interned : List (Array UInt16 × Addr) := []
def slotsUsed : Nat := 0
def theMethod : MethodId := ⟨1, 1⟩
def args0 : Array Value := #[.int 5, .int 7, .int 6, .int 3, .int 1, .int 2]
def aboutOver (below : List Frame) : State where
  vm := { classes := classes, interned := interned.toArray }
  heap := heap
  slotsUsed := slotsUsed
  threads := #[{ frames := .invoking theMethod args0 :: below }]
def below0 : List Frame := [.native { method := ⟨0, 0⟩, args := #[] }]
def about1 : State := aboutOver below0
def p0 : Program := .bare "" "" ""
def e0 : Env := launch0.env 0 0 0
theorem w_frames : about1.frames = Frame.invoking theMethod args0 :: below0 := rfl
set_option maxRecDepth 65536 in
theorem w_args : argsFit about1.vm theMethod args0 = true := by decide +kernel
set_option maxRecDepth 65536 in
theorem w_heap : heapFits about1 = true := by decide +kernel
set_option maxRecDepth 65536 in
theorem w_runnable : about1.curStatus? = some .runnable := by decide +kernel
set_option maxRecDepth 65536 in
theorem w_alone : about1.alone = true := by decide +kernel
set_option maxRecDepth 65536 in
theorem w_named : about1.methodNamed? x = some theMethod := by decide +kernel
set_option maxRecDepth 65536 in
theorem w_hears : about1.hears theMethod below0 = true := by decide +kernel
set_option maxRecDepth 65536 in
theorem w_ripe : about1.ripe theMethod args0 below0 = true := by decide +kernel
theorem w_running : about1.status = .running := rfl
set_option maxRecDepth 65536 in
theorem w_room : about1.hasRoom e0.platform room_1 = true :=
  launch0.hasRoom_least _ room_1 (by decide +kernel) (by decide +kernel) (by decide +kernel) (by decide +kernel) (by decide +kernel) (by decide +kernel)
theorem allAtoms_all (ts : List Jvm.Cond) (a : Array Jvm.Value) (st : Jvm.State) : (allAtoms ts).before a st = ts.all (fun c => c.before a st) := by
  induction ts with
  | nil => rfl
  | cons c t ih =>
    show (Jvm.Cond.and c (allAtoms t)).before a st = _
    rw [Jvm.Cond.before_and, ih, List.all_cons]
def words1 : List Jvm.Cond := Jvm.Cond.code x code maxLocals ret :: tables_1
/-- a 'code' word, met by the world's own term for the bytes: nothing is compared byte by byte -/
theorem code_word {y : MethodName} {bytes : ByteArray} {mx : Nat} {rt : Option FieldType} {a : Array Value} {s : State} {m : MethodId} {meth : Method} {c : Code} (h1 : s.methodNamed? y = some m) (h2 : s.vm.method? m = some meth) (h3 : meth.code = some c) (h4 : c.code = bytes)
    (h5 : (c.maxLocals == mx && c.exceptionTable.isEmpty && decide (c.maxStack ≤ mostOperands) && decide (meth.sig.returnType = rt) && !meth.locks && decide (parseMethodDescriptor y.desc = some meth.sig)) = true) : (Jvm.Cond.code y bytes mx rt).before a s = true := by
  simp only [Bool.and_eq_true, beq_iff_eq, Bool.not_eq_true', decide_eq_true_eq] at h5
  obtain ⟨⟨⟨⟨⟨g1, g2⟩, g3⟩, g4⟩, g5⟩, g6⟩ := h5
  simp [Cond.before, Cond.holds, Cond.value, h1, h2, h3, h4, g1, g2, g3, g4, g5, g6]
def isCode : Jvm.Cond → Bool
  | .code _ _ _ _ => true
  | _ => false
theorem all_split {L : List Jvm.Cond} {P : Jvm.Cond → Bool} (h1 : L.all (fun c => isCode c || P c) = true) (h2 : ∀ c ∈ L.filter isCode, P c = true) : L.all P = true := by
  refine List.all_eq_true.mpr fun c hc => ?_
  have h := List.all_eq_true.mp h1 c hc
  rcases Bool.eq_false_or_eq_true (isCode c) with hi | hi
  · exact h2 c (List.mem_filter.mpr ⟨hc, hi⟩)
  · simpa [hi] using h
set_option maxRecDepth 65536 in
theorem w_c0 : (Jvm.Cond.code x code maxLocals ret).before args0 about1 = true := code_word (m := ⟨1, 1⟩) (meth := k1m1) (c := k1c1) (by decide +kernel) rfl rfl rfl (by decide +kernel)
set_option maxRecDepth 65536 in
theorem w_c1 : (Jvm.Cond.code ({ cls := "com/example/kripketools/kripketools/Adjacency", name := "<init>", desc := "([II)V" } : Jvm.MethodName) prog_1_method_1_code (7 : Nat) (Option.none : Option Jvm.ClassFile.FieldType)).before args0 about1 = true := code_word (m := ⟨2, 0⟩) (meth := k2m0) (c := k2c0) (by decide +kernel) rfl rfl rfl (by decide +kernel)
set_option maxRecDepth 65536 in
theorem w_c2 : (Jvm.Cond.code ({ cls := "java/lang/Object", name := "<init>", desc := "()V" } : Jvm.MethodName) object_method_1_code (1 : Nat) (Option.none : Option Jvm.ClassFile.FieldType)).before args0 about1 = true := code_word (m := ⟨0, 0⟩) (meth := k0m0) (c := k0c0) (by decide +kernel) rfl rfl rfl (by decide +kernel)
set_option maxRecDepth 65536 in
theorem w_c3 : (Jvm.Cond.code ({ cls := "com/example/kripketools/kripketools/AdjacencyDegreePinLaw", name := "hit", desc := "(II)I" } : Jvm.MethodName) method_3_code (2 : Nat) (Option.some Jvm.ClassFile.FieldType.int)).before args0 about1 = true := code_word (m := ⟨1, 2⟩) (meth := k1m2) (c := k1c2) (by decide +kernel) rfl rfl rfl (by decide +kernel)
set_option maxRecDepth 65536 in
theorem w_c4 : (Jvm.Cond.code ({ cls := "com/example/kripketools/kripketools/Adjacency", name := "degree", desc := "(I)I" } : Jvm.MethodName) prog_1_method_5_code (2 : Nat) (Option.some Jvm.ClassFile.FieldType.int)).before args0 about1 = true := code_word (m := ⟨2, 1⟩) (meth := k2m1) (c := k2c1) (by decide +kernel) rfl rfl rfl (by decide +kernel)
def codes1 : List Jvm.Cond := [Jvm.Cond.code x code maxLocals ret, Jvm.Cond.code ({ cls := "com/example/kripketools/kripketools/Adjacency", name := "<init>", desc := "([II)V" } : Jvm.MethodName) prog_1_method_1_code (7 : Nat) (Option.none : Option Jvm.ClassFile.FieldType), Jvm.Cond.code ({ cls := "java/lang/Object", name := "<init>", desc := "()V" } : Jvm.MethodName) object_method_1_code (1 : Nat) (Option.none : Option Jvm.ClassFile.FieldType), Jvm.Cond.code ({ cls := "com/example/kripketools/kripketools/AdjacencyDegreePinLaw", name := "hit", desc := "(II)I" } : Jvm.MethodName) method_3_code (2 : Nat) (Option.some Jvm.ClassFile.FieldType.int), Jvm.Cond.code ({ cls := "com/example/kripketools/kripketools/Adjacency", name := "degree", desc := "(I)I" } : Jvm.MethodName) prog_1_method_5_code (2 : Nat) (Option.some Jvm.ClassFile.FieldType.int)]
set_option maxRecDepth 65536 in
theorem codes_eq : words1.filter isCode = codes1 := rfl
theorem w_codes : ∀ c ∈ words1.filter isCode, c.before args0 about1 = true := by
  rw [codes_eq]
  intro c hc
  simp only [codes1, List.mem_cons, List.not_mem_nil, or_false] at hc
  rcases hc with rfl | rfl | rfl | rfl | rfl
  · exact w_c0
  · exact w_c1
  · exact w_c2
  · exact w_c3
  · exact w_c4
set_option maxRecDepth 65536 in
theorem w_t1 : (words1.take 24).all (fun c => isCode c || c.before args0 about1) = true := by decide +kernel
set_option maxRecDepth 65536 in
theorem w_t2 : (words1.drop 24).all (fun c => isCode c || c.before args0 about1) = true := by decide +kernel
theorem w_tables : (allAtoms (Jvm.Cond.code x code maxLocals ret :: tables_1)).before args0 about1 = true := by
  rw [allAtoms_all]
  show words1.all (fun c => c.before args0 about1) = true
  refine all_split ?_ w_codes
  rw [← List.take_append_drop 24 words1, List.all_append, w_t1, w_t2]
  rfl
set_option maxRecDepth 65536 in
theorem w_case : (Jvm.Cond.and given_1 narrow_1).before args0 about1 = true := by decide +kernel
theorem w_applies : (headSpec (Jvm.Cond.code x code maxLocals ret :: tables_1) room_1).applies x e0.platform about1 = true :=
  (Spec.applies_iff w_frames).mpr ⟨w_running, w_runnable, w_alone, w_named, w_hears, w_ripe, w_room, w_tables⟩
theorem atStart : AtStart classFile x code maxLocals ret World_1 tables_1 room_1 Calls_1 rest_1 Pre_1 launch0 p0 e0 about1 theMethod args0 below0 :=
  ⟨lists_1, trivial, launch0.admits_env _ _ _, launch0.least_env, fairChoices_fair.cas, fairChoices_fair.clock, w_frames, w_args, w_heap, w_applies, trivial, trivial, w_case⟩
end start1
theorem witness_1 : WitnessClaimed_1 := ⟨start1.p0, start1.e0, start1.about1, start1.theMethod, start1.args0, start1.below0, start1.atStart⟩
end Jvm.Pilot.@@N@@
