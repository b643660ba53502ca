import JvmDerived
import JvmDerived.Pilot.@@N@@Statement
import JvmDerived.Pilot.@@N@@Code
set_option linter.unusedVariables false
set_option linter.unusedSimpArgs false
@@BLOCK:NumsL.lean.txt@@
namespace Jvm.RoadKit
open Sem ClassFile Op Lib Jvm.Stand Jvm.Free Jvm.LawKit
section New
variable {p : Program} {l : Launch} {e : Env} {R : Room} {s : State} {m : MethodId} {args : Array Value} {below : List Frame} {meth : Method} {c : Code} {T : State} {locs : List Loc} {cells slots : Nat}
theorem retI (X : Stand p l e R s m args below meth c T locs cells slots) (hx : p.tables.exec = Jvm.exec) {pc : Nat} {Ls : Array Slot} {z : Int32} {rest : List Value} (hret : meth.sig.returnType = some .int) (hd : decode c.code pc = .ok (.ireturn, 1)) {fs : List Frame}
    (hl : ∀ (f : JFrame) (acts : List Action), f.method = m → f.locked = none → f.entered = [] → (doReturn e (T.setTop f) acts (some (.int z))).1 = T.setFrames fs) : Steps p.tables e below (T.setTop (mkF m pc Ls (.int z :: rest))) (T.setFrames fs) :=
  retOut X hx (w := .int z) (t := .int) (i := .ireturn) hret rfl (Or.inl ⟨rfl, Or.inl rfl, z, rfl⟩) hd hl
theorem retJ (X : Stand p l e R s m args below meth c T locs cells slots) (hx : p.tables.exec = Jvm.exec) {pc : Nat} {Ls : Array Slot} {z : Int64} {rest : List Value} (hret : meth.sig.returnType = some .long) (hd : decode c.code pc = .ok (.lreturn, 1)) {fs : List Frame}
    (hl : ∀ (f : JFrame) (acts : List Action), f.method = m → f.locked = none → f.entered = [] → (doReturn e (T.setTop f) acts (some (.long z))).1 = T.setFrames fs) : Steps p.tables e below (T.setTop (mkF m pc Ls (.long z :: rest))) (T.setFrames fs) :=
  retOut X hx (w := .long z) (t := .long) (i := .lreturn) hret rfl (Or.inr (Or.inl ⟨rfl, rfl, z, rfl⟩)) hd hl
theorem retA (X : Stand p l e R s m args below meth c T locs cells slots) (hx : p.tables.exec = Jvm.exec) {pc : Nat} {Ls : Array Slot} {w : Value} {t : FieldType} {rest : List Value} (hret : meth.sig.returnType = some t) (ht : t.isReference = true) (hw : w.isRef = true) (hn : narrow t w = w) (hd : decode c.code pc = .ok (.areturn, 1)) {fs : List Frame}
    (hl : ∀ (f : JFrame) (acts : List Action), f.method = m → f.locked = none → f.entered = [] → (doReturn e (T.setTop f) acts (some w)).1 = T.setFrames fs) : Steps p.tables e below (T.setTop (mkF m pc Ls (w :: rest))) (T.setFrames fs) :=
  retOut X hx (w := w) (t := t) (i := .areturn) hret hn (Or.inr (Or.inr (Or.inr (Or.inr ⟨rfl, ht, hw⟩)))) hd hl
end New
end Jvm.RoadKit
namespace Jvm.Pilot.@@N@@
open Jvm Jvm.ClassFile Sem Op Lib Jvm.Free Jvm.Stand Jvm.LawKit Jvm.RoadKit Bundle Jvm.Pilot.@@N@@.Jvm.D
/-- from S every run comes to T -/
abbrev Go (p : Program) (e : Env) (below : List Frame) (S T : State) : Prop := ∀ t, Steps p.tables e below T t → Steps p.tables e below S t

theorem own_ofNat {c : Int32} {n : Nat} (h : c.toInt = n) : c = Int32.ofNat n := by
  apply Int32.toInt_inj.mp
  have h2 := c.toInt_lt
  rw [Int32.toInt_ofNat', show Int32.size = 4294967296 from rfl, Int.bmod_eq_of_le (by omega) (by omega), h]
theorem own_char (x : Int32) : (x.toUInt32.toUInt16.toUInt32.toInt32).toInt = x.toInt % 65536 := by
  have h : (x.toUInt32.toUInt16.toUInt32.toInt32).toBitVec = (x.toBitVec.setWidth 16).setWidth 32 := rfl
  have h1 : (x.toUInt32.toUInt16.toUInt32.toInt32).toInt = ((x.toBitVec.setWidth 16).setWidth 32).toInt := by rw [← h]; rfl
  rw [h1, BitVec.toInt_eq_toNat_cond]
  have h3 : x.toInt = x.toBitVec.toInt := rfl
  rw [h3, BitVec.toInt_eq_toNat_cond]
  simp only [BitVec.toNat_setWidth]
  have := x.toBitVec.isLt
  split <;> split <;> omega


theorem own_m31 (x : Int32) : 0 ≤ (x &&& 2147483647).toInt := by
  have := Jvm.Kit.i32_mask x 2147483647 (k := 31) (by decide) (by decide); omega
theorem own_rem (x n : Int32) (hn : 0 < n.toInt) : 0 ≤ ((x &&& 2147483647) % n).toInt ∧ ((x &&& 2147483647) % n).toInt < n.toInt := by
  rw [Jvm.Kit.i32_rem_nonneg (own_m31 x)]
  exact ⟨Int.emod_nonneg _ (by omega), Int.emod_lt_of_pos _ hn⟩
theorem own_remeq (x y : Int32) : x - (x / y) * y = x % y := by
  apply Int32.toInt_inj.mp
  have a := (x % y).toInt_lt; have b := (x % y).le_toInt
  rw [Int32.toInt_mod] at a b ⊢
  rw [Int32.toInt_sub, Int32.toInt_mul, Int32.toInt_div, Int.bmod_mul_bmod, Int.sub_bmod_bmod, Int.mul_comm, ← Int.tmod_def]
  exact Jvm.Kit.bmod32 b a
theorem own_irem {tb : Tables} [Ours tb] {e : Env} {below : List Frame} {T target : State} {m : MethodId} {c : Code} {g : JFrame} (h : At T m c below) (hx : tb.exec = Jvm.exec) (hg : g.method = m) {x y : Int32} {rest : List Value} (hd : decode c.code g.pc = .ok (.irem, 1)) (hs : g.stack = .int y :: .int x :: rest) (hy : y ≠ 0)
    (hr : Steps tb e below (T.setTop { g with pc := g.pc + 1, stack := .int (x % y) :: rest }) target) : Steps tb e below (T.setTop g) target := XS.irem h hx hg hd hs hy (by rw [own_remeq]; exact hr)

/-- an array by a function of the place -/
def Arf (Z : State) (h : Heap) (a : Addr) (k : ClassId) (ty : FieldType) (n : Int32) (f : Nat → Value) : Prop := ∃ hs vs dv, Arh Z h a k ty n hs vs dv ∧ ∀ i, i < n.toNatClampNeg → getH hs vs dv i = f i
theorem Arf.ext {Z : State} {h h' : Heap} {a : Addr} {k : ClassId} {ty : FieldType} {n : Int32} {f : Nat → Value} (F : Arf Z h a k ty n f) (E : Ext h h') : Arf Z h' a k ty n f := by
  obtain ⟨hs, vs, dv, A, q⟩ := F; exact ⟨hs, vs, dv, A.ext E, q⟩
theorem Arf.other {Z : State} {h h' : Heap} {a b : Addr} {k : ClassId} {ty : FieldType} {n : Int32} {f : Nat → Value} {sl : Nat} {v : Value} (F : Arf Z h b k ty n f) (W : Wr h h' a sl v) (q : b ≠ a) : Arf Z h' b k ty n f := by
  obtain ⟨hs, vs, dv, A, r⟩ := F; exact ⟨hs, vs, dv, A.other W q, r⟩
theorem Arf.keep {Z : State} {h h' : Heap} {a : Addr} {k : ClassId} {ty : FieldType} {n : Int32} {f : Nat → Value} {ws : List Addr} (F : Arf Z h a k ty n f) (K : Keep h h' ws) (q : a ∉ ws) : Arf Z h' a k ty n f := by
  obtain ⟨hs, vs, dv, A, r⟩ := F; exact ⟨hs, vs, dv, A.keep K q, r⟩
theorem Arf.lt {Z : State} {h : Heap} {a : Addr} {k : ClassId} {ty : FieldType} {n : Int32} {f : Nat → Value} (F : Arf Z h a k ty n f) : a < h.size := by
  obtain ⟨hs, vs, dv, A, r⟩ := F; exact A.lt
theorem Arf.cell {Z : State} {h : Heap} {a : Addr} {k : ClassId} {ty : FieldType} {n : Int32} {f : Nat → Value} (F : Arf Z h a k ty n f) : ∃ cl : Cell, Arr Z h a cl ty ∧ cl.slots.size = n.toNatClampNeg ∧ ¬ n < 0 ∧ ∀ i, i < n.toNatClampNeg → cl.slots[i]? = some (f i) := by
  obtain ⟨hs, vs, dv, ⟨c, A, r1, r2, r3, H, G⟩, q⟩ := F
  exact ⟨c, A, r2, r3, fun i hi => by rw [← q i hi]; exact H i (r2 ▸ hi)⟩
/-- f with v at the place j -/
def own_up (f : Nat → Value) (j : Int32) (v : Value) : Nat → Value := fun i => if i = j.toNatClampNeg then v else f i
theorem Arf.set {Z : State} {h h' : Heap} {a : Addr} {k : ClassId} {ty : FieldType} {n j : Int32} {f : Nat → Value} {v : Value} (F : Arf Z h a k ty n f) (hv : fits ty v = true) (W : Wr h h' a j.toNatClampNeg v) (hj : ¬ j < 0 ∧ j < n) : Arf Z h' a k ty n (own_up f j v) := by
  obtain ⟨hs, vs, dv, ⟨c, A, r1, r2, r3, H, G⟩, q⟩ := F
  refine ⟨(j, v) :: hs, vs, dv, Arh.push A r1 r2 r3 H G hv W (inb_of r2 hj), fun i hi => ?_⟩
  have e := nat_of hj.1
  show (if j.toInt = (i : Int) then v else getH hs vs dv i) = if i = j.toNatClampNeg then v else f i
  by_cases hc : i = j.toNatClampNeg
  · rw [if_pos hc, if_pos (by rw [e, hc])]
  · rw [if_neg hc, if_neg (by rw [e]; omega), q i hi]
theorem Arf.of_arv {Z : State} {h : Heap} {a : Addr} {k : ClassId} {ty : FieldType} {n : Int32} {vs : List Value} {dv : Value} (F : Arv Z h a k ty n vs dv) : Arf Z h a k ty n (fun i => vs.getD i dv) := ⟨[], vs, dv, F, fun _ _ => rfl⟩
theorem Arf.as {Z : State} {h : Heap} {a : Addr} {k : ClassId} {ty : FieldType} {n : Int32} {f g : Nat → Value} (F : Arf Z h a k ty n f) (e : ∀ i, i < n.toNatClampNeg → f i = g i) : Arf Z h a k ty n g := by
  obtain ⟨hs, vs, dv, A, q⟩ := F; exact ⟨hs, vs, dv, A, fun i hi => (q i hi).trans (e i hi)⟩
theorem Arf.new {Z : State} {h : Heap} {a : Addr} {k : ClassId} {ty : FieldType} {n : Int32} (A : Arr Z h a (newA k ty n) ty) (q : ¬ n < 0) : Arf Z h a k ty n (fun _ => defaultValue ty) := (Arf.of_arv (Arv.new A q)).as fun _ _ => rfl
theorem own_lt {j n : Int32} (h : ¬ j < 0 ∧ j < n) : j.toNatClampNeg < n.toNatClampNeg := by
  have h1 := h.1; have h2 := h.2
  rw [Int32.lt_iff_toInt_lt] at h1 h2
  have : (0 : Int32).toInt = 0 := rfl
  show j.toInt.toNat < n.toInt.toNat; omega
theorem ef_1 (m : MethodId) (p0 : Int32) (p1 : Int32) : entryFrame m #[(.int p0), (.int p1)] 2 = mkF m 0 #[.val (.int p0), .val (.int p1)] [] := by first | (simp [entryFrame, mkF, argsToLocals, Value.category]; done) | rfl
theorem d1_0 : decode jdk_29_method_69_code 0 = .ok (.iload_n 0, 1) := by decide +kernel
theorem d1_1 : decode jdk_29_method_69_code 1 = .ok (.iload_n 1, 1) := by decide +kernel
theorem d1_2 : decode jdk_29_method_69_code 2 = .ok (.if_icmp .gt 7, 3) := by decide +kernel
theorem d1_9 : decode jdk_29_method_69_code 9 = .ok (.iload_n 1, 1) := by decide +kernel
theorem d1_10 : decode jdk_29_method_69_code 10 = .ok (.ireturn, 1) := by decide +kernel
theorem d1_5 : decode jdk_29_method_69_code 5 = .ok (.iload_n 0, 1) := by decide +kernel
theorem d1_6 : decode jdk_29_method_69_code 6 = .ok (.goto 4, 3) := by decide +kernel
def fmin (p0 : Int32) (p1 : Int32) : Int32 := (if p1 < p0 then p1 else p0)
def Q1 (Z : State) (p0 : Int32) (p1 : Int32) (h0 : Heap) (n0 : Nat) (v : Option Value) (h : Heap) (L : List Loc) : Prop := v = some (.int (fmin p0 p1)) ∧ Fr n0 L ∧ h = h0
set_option maxRecDepth 65536 in
set_option maxHeartbeats 40000000 in
theorem rm1 (l : Launch) (Z : State) (a0 : Array Value) (hw : ∀ d ∈ tables_1, d.before a0 Z = true) (ws : List Jvm.Cond) (p0 : Int32) (p1 : Int32) (h0 : Heap) (n0 : Nat) (Z0 : n0 ≤ h0.size) :
    MetFree l (⟨"java/lang/Math", "min", "(II)I"⟩ : MethodName) (head1 (Jvm.Cond.code (⟨"java/lang/Math", "min", "(II)I"⟩ : MethodName) jdk_29_method_69_code 2 (some .int) :: ws) ({ frames := 0, cells := 0, slots := 0, locals := 0 } : Room)) (fun a U => a = #[(.int p0), (.int p1)] ∧ Z.Warmed39 U.vm ∧ U.heap = h0) (fun _ _ _ _ _ => True) (fun _ U o U' => ∃ v L, o = .returned v ∧ Q1 Z p0 p1 h0 n0 v U'.heap L ∧ FrameEnd U o U' L ({ frames := 0, cells := 0, slots := 0, locals := 0 } : Room).cells ({ frames := 0, cells := 0, slots := 0, locals := 0 } : Room).slots) := by
  refine MetFree.of_bodySF (Jvm.Free.JP.mathPlain rfl (by decide +kernel)) hisR ?_
  intro p e s m args below meth c s₁ Bd hml0 hP hK
  obtain ⟨rfl, hZ, hh⟩ := hP
  have hx := Bd.exec
  have hby := Bd.bytes
  have hml : c.maxLocals = 2 := hml0
  have hown : s.vm.findClass "java/lang/Math" = some m.cls := findClass_of_methodNamed Bd.named
  have hnm := (name_of_methodNamed Bd.named Bd.method).1
  have hlk : meth.locks = false := BodyLoose.notSynchronized Bd
  have X0 : Stand p l e ({ frames := 0, cells := 0, slots := 0, locals := 0 } : Room) s m #[(.int p0), (.int p1)] below meth c s₁ [] 0 0 := Stand.of_body Bd
  have e0 : s₁.heap = h0 := by rw [← hh, Bd.state]; rfl
  have N0 := Fr.nil n0
  have pre0 : Go p e below (s₁.setTop (entryFrame m #[(.int p0), (.int p1)] 2)) (s₁.setTop (mkF m 0 #[.val (.int p0), .val (.int p1)] [])) := fun t k => castTop (ef_1 m p0 p1) k
  have pre1 : Go p e below (s₁.setTop (entryFrame m #[(.int p0), (.int p1)] 2)) (s₁.setTop (mkF m 2 #[.val (.int p0), .val (.int p1)] [(.int p1), (.int p0)])) := by
    intro t k
    refine pre0 t ?_
    show Steps p.tables e below (s₁.setTop (mkF m 0 #[.val (.int p0), .val (.int p1)] [])) _
    refine XS.iloadN X0.here hx rfl (hb hby d1_0) rfl ?_
    show Steps p.tables e below (s₁.setTop (mkF m 1 #[.val (.int p0), .val (.int p1)] [(.int p0)])) _
    refine XS.iloadN X0.here hx rfl (hb hby d1_1) rfl ?_
    show Steps p.tables e below (s₁.setTop (mkF m 2 #[.val (.int p0), .val (.int p1)] [(.int p1), (.int p0)])) _
    exact k
  by_cases hc2_2 : p1 < p0
  · skip
    have pre3 : Go p e below (s₁.setTop (entryFrame m #[(.int p0), (.int p1)] 2)) (s₁.setTop (mkF m 10 #[.val (.int p0), .val (.int p1)] [(.int p1)])) := by
      intro t k
      refine pre1 t ?_
      show Steps p.tables e below (s₁.setTop (mkF m 2 #[.val (.int p0), .val (.int p1)] [(.int p1), (.int p0)])) _
      refine XS.icmpYes X0.here hx rfl (pc0 := 2) (pc' := 9) rfl (hb hby d1_2) rfl (XT.ii_gt_t hc2_2) (by decide) (by decide) ?_
      show Steps p.tables e below (s₁.setTop (mkF m 9 #[.val (.int p0), .val (.int p1)] [])) _
      refine XS.iloadN X0.here hx rfl (hb hby d1_9) rfl ?_
      show Steps p.tables e below (s₁.setTop (mkF m 10 #[.val (.int p0), .val (.int p1)] [(.int p1)])) _
      exact k
    obtain ⟨fs, hr, hrun, hended, hW, hsame⟩ := X0.leave (hlocks := hlk) (v := some (.int p1)) (fun h => by rw [Bd.returns] at h; cases h)
    refine ⟨_, _, pre3 _ (retI X0 hx Bd.returns (hb hby d1_10) hr), hrun, hended, _, _, rfl, ?_, ⟨_, rfl⟩, hW, hsame.mono (by decide) (by decide)⟩
    show Q1 Z p0 p1 h0 n0 _ s₁.heap _
    rw [e0]
    exact ⟨congrArg some (congrArg Value.int (show p1 = fmin p0 p1 from by rw [fmin, if_pos hc2_2])), N0, rfl⟩
  · skip
    have pre4 : Go p e below (s₁.setTop (entryFrame m #[(.int p0), (.int p1)] 2)) (s₁.setTop (mkF m 10 #[.val (.int p0), .val (.int p1)] [(.int p0)])) := by
      intro t k
      refine pre1 t ?_
      show Steps p.tables e below (s₁.setTop (mkF m 2 #[.val (.int p0), .val (.int p1)] [(.int p1), (.int p0)])) _
      refine XS.icmpNo X0.here hx rfl (hb hby d1_2) rfl (XT.ii_gt_f hc2_2) ?_
      show Steps p.tables e below (s₁.setTop (mkF m 5 #[.val (.int p0), .val (.int p1)] [])) _
      refine XS.iloadN X0.here hx rfl (hb hby d1_5) rfl ?_
      show Steps p.tables e below (s₁.setTop (mkF m 6 #[.val (.int p0), .val (.int p1)] [(.int p0)])) _
      refine XS.goto X0.here hx rfl (pc0 := 6) (pc' := 10) rfl (hb hby d1_6) (by decide) (by decide) ?_
      show Steps p.tables e below (s₁.setTop (mkF m 10 #[.val (.int p0), .val (.int p1)] [(.int p0)])) _
      exact k
    obtain ⟨fs, hr, hrun, hended, hW, hsame⟩ := X0.leave (hlocks := hlk) (v := some (.int p0)) (fun h => by rw [Bd.returns] at h; cases h)
    refine ⟨_, _, pre4 _ (retI X0 hx Bd.returns (hb hby d1_10) hr), hrun, hended, _, _, rfl, ?_, ⟨_, rfl⟩, hW, hsame.mono (by decide) (by decide)⟩
    show Q1 Z p0 p1 h0 n0 _ s₁.heap _
    rw [e0]
    exact ⟨congrArg some (congrArg Value.int (show p0 = fmin p0 p1 from by rw [fmin, if_neg hc2_2])), N0, rfl⟩
abbrev BA (Z : State) (h : Heap) (a : Addr) (k : ClassId) (f : Nat → Int32) : Prop := Arf Z h a k .byte (1999 : Int32) (fun i_ => .int (f i_))
abbrev LA (Z : State) (h : Heap) (a : Addr) (k : ClassId) (f : Nat → Int64) : Prop := Arf Z h a k .long (1999 : Int32) (fun i_ => .long (f i_))
def own_z32 : Nat → Int32 := fun _ => 0
def own_z64 : Nat → Int64 := fun _ => 0
def own_u {α : Type} (f : Nat → α) (j : Int32) (x : α) : Nat → α := fun i => if i = j.toNatClampNeg then x else f i
/-- written where the flag isn't 0 -/
def own_c {α : Type} (fl : Int32) (f : Nat → α) (j : Int32) (x : α) : Nat → α := if fl = (0 : Int32) then f else own_u f j x
theorem own_as32 (f : Nat → Int32) (j x : Int32) (i : Nat) : own_up (fun i_ => .int (f i_)) j (.int x) i = .int (own_u f j x i) := by
  show (if i = j.toNatClampNeg then _ else _) = Value.int (if i = j.toNatClampNeg then x else f i)
  split <;> rfl
theorem own_as64 (f : Nat → Int64) (j : Int32) (x : Int64) (i : Nat) : own_up (fun i_ => .long (f i_)) j (.long x) i = .long (own_u f j x i) := by
  show (if i = j.toNatClampNeg then _ else _) = Value.long (if i = j.toNatClampNeg then x else f i)
  split <;> rfl
theorem own_same64 {f : Nat → Int64} {j : Int32} {cy : Int64} (h : cy = 0) : own_u f j (f j.toNatClampNeg + cy) = f := by
  funext i; show (if i = j.toNatClampNeg then _ else _) = _
  split
  · rename_i q; rw [h, q, Int64.add_zero]
  · rfl
def own_s (fm ft : Nat → Int32) (i : Int32) : Int32 := ((fm (i).toNatClampNeg) &&& (255 : Int32)) + ((ft (i).toNatClampNeg) &&& (255 : Int32))
def own_cy (fm ft : Nat → Int32) (g : Nat → Int64) (i : Int32) : Int64 := ((((own_s fm ft i).toUInt32 >>> (((8 : Int32)) &&& 31).toUInt32).toInt32).toInt64) + g (i).toNatClampNeg
/-- the byte that merge writes -/
def own_w (fm ft : Nat → Int32) (i : Int32) : Int32 := nar .byte ((own_s fm ft i).toInt8.toInt32)
theorem own_c255 (x : Int32) : 0 ≤ (x &&& (255 : Int32)).toInt ∧ (x &&& (255 : Int32)).toInt ≤ 255 := by
  have := Jvm.Kit.i32_mask x 255 (k := 8) (by decide) (by decide); omega
theorem own_hi8 {s : Int32} (h : 0 ≤ s.toInt ∧ s.toInt ≤ 510) : 0 ≤ ((((s.toUInt32 >>> (((8 : Int32)) &&& 31).toUInt32).toInt32).toInt64)).toInt ∧ ((((s.toUInt32 >>> (((8 : Int32)) &&& 31).toUInt32).toInt32).toInt64)).toInt ≤ 1 := by
  rw [Int32.toInt_toInt64, Jvm.Kit.i32_iushr (k := 8) (by rw [Jvm.Kit.i32_nonneg]; exact h.1) (by decide) (by decide)]; omega
theorem own_cy_nn {fm ft : Nat → Int32} {g : Nat → Int64} (hg : ∀ i, 0 ≤ (g i).toInt ∧ (g i).toInt < 2 ^ 62) (i : Int32) : 0 ≤ (own_cy fm ft g i).toInt := by
  have h1 := own_c255 (fm (i).toNatClampNeg); have h2 := own_c255 (ft (i).toNatClampNeg)
  have h3 := hg (i).toNatClampNeg
  have es : (own_s fm ft i).toInt = ((fm (i).toNatClampNeg) &&& (255 : Int32)).toInt + ((ft (i).toNatClampNeg) &&& (255 : Int32)).toInt := Jvm.Kit.i32_add (by omega) (by omega)
  have h4 := own_hi8 (s := own_s fm ft i) (by omega)
  unfold own_cy
  rw [Jvm.Kit.i64_add (by omega) (by omega)]; omega
theorem own_cy0 {fm ft : Nat → Int32} {g : Nat → Int64} (hg : ∀ i, 0 ≤ (g i).toInt ∧ (g i).toInt < 2 ^ 62) {i : Int32} (h : ¬ (0 : Int64) < own_cy fm ft g i) : own_cy fm ft g i = 0 := by
  have h1 := own_cy_nn (fm := fm) (ft := ft) hg i
  rw [Int64.lt_iff_toInt_lt, show (0 : Int64).toInt = 0 from rfl] at h
  exact Int64.toInt_inj.mp (by rw [show (0 : Int64).toInt = 0 from rfl]; omega)
theorem own_pk {α : Type} {fl : Int32} {f : Nat → α} {j : Int32} {x : α} (h : ¬ fl = (0 : Int32)) : own_c fl f j x = own_u f j x := if_neg h
theorem own_sk {α : Type} {fl : Int32} {f : Nat → α} {j : Int32} {x : α} (h : fl = (0 : Int32)) : own_c fl f j x = f := if_pos h
theorem own_zu {f : Nat → Int64} {j : Int32} {v : Int64} (hz : ∀ i, f i = 0) (hv : v = 0) : ∀ i, own_u f j v i = 0 := fun i => by
  show (if i = j.toNatClampNeg then v else f i) = 0
  split
  · exact hv
  · exact hz i
theorem own_ref {q : Value} {P : Prop} {Qp : Addr → ClassId → Prop} (h : (q = .null ∧ P) ∨ ∃ a k, q = .ref a ∧ Qp a k) : q.isRef = true := by
  rcases h with ⟨rfl, -⟩ | ⟨a, k, rfl, -⟩ <;> rfl
theorem ef_3_n (m : MethodId) (i : Int32) : entryFrame m #[.null, (.int i)] 2 = mkF m 0 #[.val .null, .val (.int i)] [] := by first | (simp [entryFrame, mkF, argsToLocals, Value.category]; done) | rfl
theorem d3_0 : decode method_2_code 0 = .ok (.aload_n 0, 1) := by decide +kernel
theorem d3_1 : decode method_2_code 1 = .ok (.ifnonnull 7, 3) := by decide +kernel
theorem d3_4 : decode method_2_code 4 = .ok (.lconst 0, 1) := by decide +kernel
theorem d3_5 : decode method_2_code 5 = .ok (.goto 6, 3) := by decide +kernel
theorem d3_11 : decode method_2_code 11 = .ok (.lreturn, 1) := by decide +kernel
def fcan  : Int64 := (0 : Int64)
def Q3_n (Z : State) (i : Int32) (h0 : Heap) (n0 : Nat) (v : Option Value) (h : Heap) (L : List Loc) : Prop := v = some (.long (fcan )) ∧ Fr n0 L ∧ h = h0
set_option maxRecDepth 65536 in
set_option maxHeartbeats 40000000 in
theorem pn_com_example_lanescan_lanescan_DistributionMergePinLaw : plainName "com/example/lanescan/lanescan/DistributionMergePinLaw" = true := by first | (simp [plainName, overriddenIn]; done) | decide +kernel
theorem rm3_n (l : Launch) (Z : State) (a0 : Array Value) (hw : ∀ d ∈ tables_1, d.before a0 Z = true) (ws : List Jvm.Cond) (i : Int32) (h0 : Heap) (n0 : Nat) (Z0 : n0 ≤ h0.size) :
    MetFree l (⟨"com/example/lanescan/lanescan/DistributionMergePinLaw", "carryAt", "([JI)J"⟩ : MethodName) (head1 (Jvm.Cond.code (⟨"com/example/lanescan/lanescan/DistributionMergePinLaw", "carryAt", "([JI)J"⟩ : MethodName) method_2_code 2 (some .long) :: ws) ({ frames := 0, cells := 0, slots := 0, locals := 0 } : Room)) (fun a U => a = #[.null, (.int i)] ∧ Z.Warmed39 U.vm ∧ U.heap = h0) (fun _ _ _ _ _ => True) (fun _ U o U' => ∃ v L, o = .returned v ∧ Q3_n Z i h0 n0 v U'.heap L ∧ FrameEnd U o U' L ({ frames := 0, cells := 0, slots := 0, locals := 0 } : Room).cells ({ frames := 0, cells := 0, slots := 0, locals := 0 } : Room).slots) := by
  refine MetFree.of_bodySF (plainFor_of_name pn_com_example_lanescan_lanescan_DistributionMergePinLaw) hisR ?_
  intro p e s m args below meth c s₁ Bd hml0 hP hK
  obtain ⟨rfl, hZ, hh⟩ := hP
  have hx := Bd.exec
  have hby := Bd.bytes
  have hml : c.maxLocals = 2 := hml0
  have hown : s.vm.findClass "com/example/lanescan/lanescan/DistributionMergePinLaw" = some m.cls := findClass_of_methodNamed Bd.named
  have hnm := (name_of_methodNamed Bd.named Bd.method).1
  have hlk : meth.locks = false := BodyLoose.notSynchronized Bd
  have X0 : Stand p l e ({ frames := 0, cells := 0, slots := 0, locals := 0 } : Room) s m #[.null, (.int i)] below meth c s₁ [] 0 0 := Stand.of_body Bd
  have e0 : s₁.heap = h0 := by rw [← hh, Bd.state]; rfl
  have N0 := Fr.nil n0
  have pre0 : Go p e below (s₁.setTop (entryFrame m #[.null, (.int i)] 2)) (s₁.setTop (mkF m 0 #[.val .null, .val (.int i)] [])) := fun t k => castTop (ef_3_n m i) k
  have pre1 : Go p e below (s₁.setTop (entryFrame m #[.null, (.int i)] 2)) (s₁.setTop (mkF m 11 #[.val .null, .val (.int i)] [(.long (0 : Int64))])) := by
    intro t k
    refine pre0 t ?_
    show Steps p.tables e below (s₁.setTop (mkF m 0 #[.val .null, .val (.int i)] [])) _
    refine XS.aloadN X0.here hx rfl (hb hby d3_0) rfl rfl ?_
    show Steps p.tables e below (s₁.setTop (mkF m 1 #[.val .null, .val (.int i)] [.null])) _
    refine XS.ifnonnullNo X0.here hx rfl (hb hby d3_1) rfl ?_
    show Steps p.tables e below (s₁.setTop (mkF m 4 #[.val .null, .val (.int i)] [])) _
    refine XT.lconstV X0.here hx rfl (0 : Int64) (hb hby d3_4) rfl ?_
    show Steps p.tables e below (s₁.setTop (mkF m 5 #[.val .null, .val (.int i)] [(.long (0 : Int64))])) _
    refine XS.goto X0.here hx rfl (pc0 := 5) (pc' := 11) rfl (hb hby d3_5) (by decide) (by decide) ?_
    show Steps p.tables e below (s₁.setTop (mkF m 11 #[.val .null, .val (.int i)] [(.long (0 : Int64))])) _
    exact k
  obtain ⟨fs, hr, hrun, hended, hW, hsame⟩ := X0.leave (hlocks := hlk) (v := some (.long (0 : Int64))) (fun h => by rw [Bd.returns] at h; cases h)
  refine ⟨_, _, pre1 _ (retJ X0 hx Bd.returns (hb hby d3_11) hr), hrun, hended, _, _, rfl, ?_, ⟨_, rfl⟩, hW, hsame.mono (by decide) (by decide)⟩
  show Q3_n Z i h0 n0 _ s₁.heap _
  rw [e0]
  exact ⟨congrArg some (congrArg Value.long (show (0 : Int64) = fcan  from by rw [fcan])), N0, rfl⟩
theorem ef_3_r (m : MethodId) (a1 : Addr) (i : Int32) : entryFrame m #[(.ref a1), (.int i)] 2 = mkF m 0 #[.val (.ref a1), .val (.int i)] [] := by first | (simp [entryFrame, mkF, argsToLocals, Value.category]; done) | rfl
theorem d3_8 : decode method_2_code 8 = .ok (.aload_n 0, 1) := by decide +kernel
theorem d3_9 : decode method_2_code 9 = .ok (.iload_n 1, 1) := by decide +kernel
theorem d3_10 : decode method_2_code 10 = .ok (.laload, 1) := by decide +kernel
def fcar (i : Int32) (ff : Nat → Int64) : Int64 := (ff (i).toNatClampNeg)
def Q3_r (Z : State) (a1 : Addr) (i : Int32) (kk : ClassId) (ff : Nat → Int64) (h0 : Heap) (n0 : Nat) (v : Option Value) (h : Heap) (L : List Loc) : Prop := v = some (.long (fcar i ff)) ∧ Fr n0 L ∧ h = h0
set_option maxRecDepth 65536 in
set_option maxHeartbeats 40000000 in
theorem rm3_r (l : Launch) (Z : State) (a0 : Array Value) (hw : ∀ d ∈ tables_1, d.before a0 Z = true) (ws : List Jvm.Cond) (a1 : Addr) (i : Int32) (kk : ClassId) (ff : Nat → Int64) (h0 : Heap) (n0 : Nat) (Z0 : n0 ≤ h0.size) (V1 : LA Z h0 a1 kk ff) (hj : ¬ i < 0 ∧ i < (1999 : Int32)) :
    MetFree l (⟨"com/example/lanescan/lanescan/DistributionMergePinLaw", "carryAt", "([JI)J"⟩ : MethodName) (head1 (Jvm.Cond.code (⟨"com/example/lanescan/lanescan/DistributionMergePinLaw", "carryAt", "([JI)J"⟩ : MethodName) method_2_code 2 (some .long) :: ws) ({ frames := 0, cells := 0, slots := 0, locals := 0 } : Room)) (fun a U => a = #[(.ref a1), (.int i)] ∧ Z.Warmed39 U.vm ∧ U.heap = h0) (fun _ _ _ _ _ => True) (fun _ U o U' => ∃ v L, o = .returned v ∧ Q3_r Z a1 i kk ff h0 n0 v U'.heap L ∧ FrameEnd U o U' L ({ frames := 0, cells := 0, slots := 0, locals := 0 } : Room).cells ({ frames := 0, cells := 0, slots := 0, locals := 0 } : Room).slots) := by
  refine MetFree.of_bodySF (plainFor_of_name pn_com_example_lanescan_lanescan_DistributionMergePinLaw) hisR ?_
  intro p e s m args below meth c s₁ Bd hml0 hP hK
  obtain ⟨rfl, hZ, hh⟩ := hP
  have hx := Bd.exec
  have hby := Bd.bytes
  have hml : c.maxLocals = 2 := hml0
  have hown : s.vm.findClass "com/example/lanescan/lanescan/DistributionMergePinLaw" = some m.cls := findClass_of_methodNamed Bd.named
  have hnm := (name_of_methodNamed Bd.named Bd.method).1
  have hlk : meth.locks = false := BodyLoose.notSynchronized Bd
  have X0 : Stand p l e ({ frames := 0, cells := 0, slots := 0, locals := 0 } : Room) s m #[(.ref a1), (.int i)] below meth c s₁ [] 0 0 := Stand.of_body Bd
  have e0 : s₁.heap = h0 := by rw [← hh, Bd.state]; rfl
  have N0 := Fr.nil n0
  have pre0 : Go p e below (s₁.setTop (entryFrame m #[(.ref a1), (.int i)] 2)) (s₁.setTop (mkF m 0 #[.val (.ref a1), .val (.int i)] [])) := fun t k => castTop (ef_3_r m a1 i) k
  obtain ⟨cl1, Ar1, SS1, NN1, HH1⟩ := V1.cell
  have hj1 : ¬ i < 0 ∧ i < (1999 : Int32) := hj
  have hat1 : cl1.slots[(i).toNatClampNeg]? = some (.long (ff (i).toNatClampNeg)) := (HH1 _ (own_lt hj1)).trans (congrArg some rfl)
  have pre2 : Go p e below (s₁.setTop (entryFrame m #[(.ref a1), (.int i)] 2)) (s₁.setTop (mkF m 11 #[.val (.ref a1), .val (.int i)] [(.long (ff (i).toNatClampNeg))])) := by
    intro t k
    refine pre0 t ?_
    show Steps p.tables e below (s₁.setTop (mkF m 0 #[.val (.ref a1), .val (.int i)] [])) _
    refine XS.aloadN X0.here hx rfl (hb hby d3_0) rfl rfl ?_
    show Steps p.tables e below (s₁.setTop (mkF m 1 #[.val (.ref a1), .val (.int i)] [(.ref a1)])) _
    refine XS.ifnonnullYes X0.here hx rfl (pc0 := 1) (pc' := 8) rfl (hb hby d3_1) rfl (by decide) (by decide) ?_
    show Steps p.tables e below (s₁.setTop (mkF m 8 #[.val (.ref a1), .val (.int i)] [])) _
    refine XS.aloadN X0.here hx rfl (hb hby d3_8) rfl rfl ?_
    show Steps p.tables e below (s₁.setTop (mkF m 9 #[.val (.ref a1), .val (.int i)] [(.ref a1)])) _
    refine XS.iloadN X0.here hx rfl (hb hby d3_9) rfl ?_
    show Steps p.tables e below (s₁.setTop (mkF m 10 #[.val (.ref a1), .val (.int i)] [(.int i), (.ref a1)])) _
    refine X0.laload hx (j := i) (v := (.long (ff (i).toNatClampNeg))) (by rw [e0]; exact Ar1.1) (State.isArrayOf_alike hZ.alike Ar1.2.1) Ar1.2.2 (inb_of SS1 hj1) hat1 (g := (mkF m 10 #[.val (.ref a1), .val (.int i)] [(.int i), (.ref a1)])) rfl rfl (hb hby d3_10) _ ?_
    show Steps p.tables e below (s₁.setTop (mkF m 11 #[.val (.ref a1), .val (.int i)] [(.long (ff (i).toNatClampNeg))])) _
    exact k
  obtain ⟨fs, hr, hrun, hended, hW, hsame⟩ := X0.leave (hlocks := hlk) (v := some (.long (ff (i).toNatClampNeg))) (fun h => by rw [Bd.returns] at h; cases h)
  refine ⟨_, _, pre2 _ (retJ X0 hx Bd.returns (hb hby d3_11) hr), hrun, hended, _, _, rfl, ?_, ⟨_, rfl⟩, hW, hsame.mono (by decide) (by decide)⟩
  show Q3_r Z a1 i kk ff h0 n0 _ s₁.heap _
  rw [e0]
  exact ⟨congrArg some (congrArg Value.long (show (ff (i).toNatClampNeg) = fcar i ff from by rw [fcar])), N0, rfl⟩
theorem d2_22 : decode prog_2_method_5_code 22 = .ok (.aload_n 0, 1) := by decide +kernel
theorem d2_23 : decode prog_2_method_5_code 23 = .ok (.iload 7, 2) := by decide +kernel
theorem d2_25 : decode prog_2_method_5_code 25 = .ok (.baload, 1) := by decide +kernel
theorem d2_26 : decode prog_2_method_5_code 26 = .ok (.sipush 255, 3) := by decide +kernel
theorem d2_29 : decode prog_2_method_5_code 29 = .ok (.iand, 1) := by decide +kernel
theorem d2_30 : decode prog_2_method_5_code 30 = .ok (.aload_n 2, 1) := by decide +kernel
theorem d2_31 : decode prog_2_method_5_code 31 = .ok (.iload 7, 2) := by decide +kernel
theorem d2_33 : decode prog_2_method_5_code 33 = .ok (.baload, 1) := by decide +kernel
theorem d2_34 : decode prog_2_method_5_code 34 = .ok (.sipush 255, 3) := by decide +kernel
theorem d2_37 : decode prog_2_method_5_code 37 = .ok (.iand, 1) := by decide +kernel
theorem d2_38 : decode prog_2_method_5_code 38 = .ok (.iadd, 1) := by decide +kernel
theorem d2_39 : decode prog_2_method_5_code 39 = .ok (.istore 8, 2) := by decide +kernel
theorem d2_41 : decode prog_2_method_5_code 41 = .ok (.iload 8, 2) := by decide +kernel
theorem d2_43 : decode prog_2_method_5_code 43 = .ok (.bipush 8, 2) := by decide +kernel
theorem d2_45 : decode prog_2_method_5_code 45 = .ok (.iushr, 1) := by decide +kernel
theorem d2_46 : decode prog_2_method_5_code 46 = .ok (.i2l, 1) := by decide +kernel
theorem d2_47 : decode prog_2_method_5_code 47 = .ok (.aload_n 3, 1) := by decide +kernel
theorem d2_48 : decode prog_2_method_5_code 48 = .ok (.ifnull 10, 3) := by decide +kernel
theorem d2_58 : decode prog_2_method_5_code 58 = .ok (.lconst 0, 1) := by decide +kernel
theorem d2_59 : decode prog_2_method_5_code 59 = .ok (.ladd, 1) := by decide +kernel
theorem d2_60 : decode prog_2_method_5_code 60 = .ok (.lstore 9, 2) := by decide +kernel
theorem d2_51 : decode prog_2_method_5_code 51 = .ok (.aload_n 3, 1) := by decide +kernel
theorem d2_52 : decode prog_2_method_5_code 52 = .ok (.iload 7, 2) := by decide +kernel
theorem d2_54 : decode prog_2_method_5_code 54 = .ok (.laload, 1) := by decide +kernel
theorem d2_55 : decode prog_2_method_5_code 55 = .ok (.goto 4, 3) := by decide +kernel
set_option maxRecDepth 65536 in
set_option maxHeartbeats 40000000 in
theorem tm1a {p : Program} {l : Launch} {e : Env} {R : Room} {s : State} {m : MethodId} {args : Array Value} {below : List Frame} {meth : Method} {c : Code} {T0 : State} {locs : List Loc} {cells slots : Nat} {Z : State} {a0 : Array Value} {h0 : Heap} {n0 : Nat}  {bm bt : Addr} {r1 q r6 : Value} {p4 p5 i : Int32} {km kt : ClassId} {fm ft : Nat → Int32} {g : Nat → Int64}
    (X0 : Stand p l e R s m args below meth c T0 locs cells slots) (hx : p.tables.exec = Jvm.exec) (hZ : Z.Warmed39 s.vm) (hw : ∀ d ∈ tables_1, d.before a0 Z = true) (hby : c.code = prog_2_method_5_code) (hml : c.maxLocals = 11) (hown : s.vm.findClass "com/example/lanescan/lanescan/Distribution" = some m.cls) (e0 : T0.heap = h0) (N0 : Fr n0 locs) (Z0 : n0 ≤ h0.size) (hj : ¬ i < 0 ∧ i < (1999 : Int32)) (Am : BA Z h0 bm km fm) (At_ : BA Z h0 bt kt ft) (Hq : (q = .null ∧ ∀ i_, g i_ = 0) ∨ (∃ a k, q = .ref a ∧ LA Z h0 a k g)) :
    Go p e below (T0.setTop (mkF m 22 #[.val (.ref bm), .val r1, .val (.ref bt), .val q, .val (.int p4), .val (.int p5), .val r6, .val (.int i), .unset, .unset, .unset] [])) (T0.setTop (mkF m 62 #[.val (.ref bm), .val r1, .val (.ref bt), .val q, .val (.int p4), .val (.int p5), .val r6, .val (.int i), .val (.int (own_s fm ft i)), .val (.long (own_cy fm ft g i)), .second] [])) := by
  have pre0 : Go p e below (T0.setTop (mkF m 22 #[.val (.ref bm), .val r1, .val (.ref bt), .val q, .val (.int p4), .val (.int p5), .val r6, .val (.int i), .unset, .unset, .unset] [])) (T0.setTop (mkF m 22 #[.val (.ref bm), .val r1, .val (.ref bt), .val q, .val (.int p4), .val (.int p5), .val r6, .val (.int i), .unset, .unset, .unset] [])) := fun t k => k
  obtain ⟨cl1, Ar1, SS1, NN1, HH1⟩ := Am.cell
  have hj1 : ¬ i < 0 ∧ i < (1999 : Int32) := hj
  have hat1 : cl1.slots[(i).toNatClampNeg]? = some (.int (fm (i).toNatClampNeg)) := (HH1 _ (own_lt hj1)).trans (congrArg some rfl)
  obtain ⟨cl2, Ar2, SS2, NN2, HH2⟩ := At_.cell
  have hj2 : ¬ i < 0 ∧ i < (1999 : Int32) := hj
  have hat2 : cl2.slots[(i).toNatClampNeg]? = some (.int (ft (i).toNatClampNeg)) := (HH2 _ (own_lt hj2)).trans (congrArg some rfl)
  have pre3 : Go p e below (T0.setTop (mkF m 22 #[.val (.ref bm), .val r1, .val (.ref bt), .val q, .val (.int p4), .val (.int p5), .val r6, .val (.int i), .unset, .unset, .unset] [])) (T0.setTop (mkF m 47 #[.val (.ref bm), .val r1, .val (.ref bt), .val q, .val (.int p4), .val (.int p5), .val r6, .val (.int i), .val (.int (((fm (i).toNatClampNeg) &&& (255 : Int32)) + ((ft (i).toNatClampNeg) &&& (255 : Int32)))), .unset, .unset] [(.long ((((((((fm (i).toNatClampNeg) &&& (255 : Int32)) + ((ft (i).toNatClampNeg) &&& (255 : Int32)))).toUInt32 >>> (((8 : Int32)) &&& 31).toUInt32).toInt32)).toInt64))])) := by
    intro t k
    refine pre0 t ?_
    show Steps p.tables e below (T0.setTop (mkF m 22 #[.val (.ref bm), .val r1, .val (.ref bt), .val q, .val (.int p4), .val (.int p5), .val r6, .val (.int i), .unset, .unset, .unset] [])) _
    refine XS.aloadN X0.here hx rfl (hb hby d2_22) rfl rfl ?_
    show Steps p.tables e below (T0.setTop (mkF m 23 #[.val (.ref bm), .val r1, .val (.ref bt), .val q, .val (.int p4), .val (.int p5), .val r6, .val (.int i), .unset, .unset, .unset] [(.ref bm)])) _
    refine XS.iload X0.here hx rfl (hb hby d2_23) rfl ?_
    show Steps p.tables e below (T0.setTop (mkF m 25 #[.val (.ref bm), .val r1, .val (.ref bt), .val q, .val (.int p4), .val (.int p5), .val r6, .val (.int i), .unset, .unset, .unset] [(.int i), (.ref bm)])) _
    refine X0.baloadBytes hx (j := i) (v := (.int (fm (i).toNatClampNeg))) (by rw [e0]; exact Ar1.1) (State.isArrayOf_alike hZ.alike Ar1.2.1) Ar1.2.2 (inb_of SS1 hj1) hat1 (g := (mkF m 25 #[.val (.ref bm), .val r1, .val (.ref bt), .val q, .val (.int p4), .val (.int p5), .val r6, .val (.int i), .unset, .unset, .unset] [(.int i), (.ref bm)])) rfl rfl (hb hby d2_25) _ ?_
    show Steps p.tables e below (T0.setTop (mkF m 26 #[.val (.ref bm), .val r1, .val (.ref bt), .val q, .val (.int p4), .val (.int p5), .val r6, .val (.int i), .unset, .unset, .unset] [(.int (fm (i).toNatClampNeg))])) _
    refine XS.sipush X0.here hx rfl (hb hby d2_26) ?_
    show Steps p.tables e below (T0.setTop (mkF m 29 #[.val (.ref bm), .val r1, .val (.ref bt), .val q, .val (.int p4), .val (.int p5), .val r6, .val (.int i), .unset, .unset, .unset] [(.int (255 : Int32)), (.int (fm (i).toNatClampNeg))])) _
    refine XS.iand X0.here hx rfl (hb hby d2_29) rfl ?_
    show Steps p.tables e below (T0.setTop (mkF m 30 #[.val (.ref bm), .val r1, .val (.ref bt), .val q, .val (.int p4), .val (.int p5), .val r6, .val (.int i), .unset, .unset, .unset] [(.int ((fm (i).toNatClampNeg) &&& (255 : Int32)))])) _
    refine XS.aloadN X0.here hx rfl (hb hby d2_30) rfl rfl ?_
    show Steps p.tables e below (T0.setTop (mkF m 31 #[.val (.ref bm), .val r1, .val (.ref bt), .val q, .val (.int p4), .val (.int p5), .val r6, .val (.int i), .unset, .unset, .unset] [(.ref bt), (.int ((fm (i).toNatClampNeg) &&& (255 : Int32)))])) _
    refine XS.iload X0.here hx rfl (hb hby d2_31) rfl ?_
    show Steps p.tables e below (T0.setTop (mkF m 33 #[.val (.ref bm), .val r1, .val (.ref bt), .val q, .val (.int p4), .val (.int p5), .val r6, .val (.int i), .unset, .unset, .unset] [(.int i), (.ref bt), (.int ((fm (i).toNatClampNeg) &&& (255 : Int32)))])) _
    refine X0.baloadBytes hx (j := i) (v := (.int (ft (i).toNatClampNeg))) (by rw [e0]; exact Ar2.1) (State.isArrayOf_alike hZ.alike Ar2.2.1) Ar2.2.2 (inb_of SS2 hj2) hat2 (g := (mkF m 33 #[.val (.ref bm), .val r1, .val (.ref bt), .val q, .val (.int p4), .val (.int p5), .val r6, .val (.int i), .unset, .unset, .unset] [(.int i), (.ref bt), (.int ((fm (i).toNatClampNeg) &&& (255 : Int32)))])) rfl rfl (hb hby d2_33) _ ?_
    show Steps p.tables e below (T0.setTop (mkF m 34 #[.val (.ref bm), .val r1, .val (.ref bt), .val q, .val (.int p4), .val (.int p5), .val r6, .val (.int i), .unset, .unset, .unset] [(.int (ft (i).toNatClampNeg)), (.int ((fm (i).toNatClampNeg) &&& (255 : Int32)))])) _
    refine XS.sipush X0.here hx rfl (hb hby d2_34) ?_
    show Steps p.tables e below (T0.setTop (mkF m 37 #[.val (.ref bm), .val r1, .val (.ref bt), .val q, .val (.int p4), .val (.int p5), .val r6, .val (.int i), .unset, .unset, .unset] [(.int (255 : Int32)), (.int (ft (i).toNatClampNeg)), (.int ((fm (i).toNatClampNeg) &&& (255 : Int32)))])) _
    refine XS.iand X0.here hx rfl (hb hby d2_37) rfl ?_
    show Steps p.tables e below (T0.setTop (mkF m 38 #[.val (.ref bm), .val r1, .val (.ref bt), .val q, .val (.int p4), .val (.int p5), .val r6, .val (.int i), .unset, .unset, .unset] [(.int ((ft (i).toNatClampNeg) &&& (255 : Int32))), (.int ((fm (i).toNatClampNeg) &&& (255 : Int32)))])) _
    refine XS.iadd X0.here hx rfl (hb hby d2_38) rfl ?_
    show Steps p.tables e below (T0.setTop (mkF m 39 #[.val (.ref bm), .val r1, .val (.ref bt), .val q, .val (.int p4), .val (.int p5), .val r6, .val (.int i), .unset, .unset, .unset] [(.int (((fm (i).toNatClampNeg) &&& (255 : Int32)) + ((ft (i).toNatClampNeg) &&& (255 : Int32))))])) _
    refine XS.istore X0.here hx rfl (hb hby d2_39) rfl (l' := #[.val (.ref bm), .val r1, .val (.ref bt), .val q, .val (.int p4), .val (.int p5), .val r6, .val (.int i), .val (.int (((fm (i).toNatClampNeg) &&& (255 : Int32)) + ((ft (i).toNatClampNeg) &&& (255 : Int32)))), .unset, .unset]) rfl ?_
    show Steps p.tables e below (T0.setTop (mkF m 41 #[.val (.ref bm), .val r1, .val (.ref bt), .val q, .val (.int p4), .val (.int p5), .val r6, .val (.int i), .val (.int (((fm (i).toNatClampNeg) &&& (255 : Int32)) + ((ft (i).toNatClampNeg) &&& (255 : Int32)))), .unset, .unset] [])) _
    refine XS.iload X0.here hx rfl (hb hby d2_41) rfl ?_
    show Steps p.tables e below (T0.setTop (mkF m 43 #[.val (.ref bm), .val r1, .val (.ref bt), .val q, .val (.int p4), .val (.int p5), .val r6, .val (.int i), .val (.int (((fm (i).toNatClampNeg) &&& (255 : Int32)) + ((ft (i).toNatClampNeg) &&& (255 : Int32)))), .unset, .unset] [(.int (((fm (i).toNatClampNeg) &&& (255 : Int32)) + ((ft (i).toNatClampNeg) &&& (255 : Int32))))])) _
    refine XS.bipush X0.here hx rfl (hb hby d2_43) ?_
    show Steps p.tables e below (T0.setTop (mkF m 45 #[.val (.ref bm), .val r1, .val (.ref bt), .val q, .val (.int p4), .val (.int p5), .val r6, .val (.int i), .val (.int (((fm (i).toNatClampNeg) &&& (255 : Int32)) + ((ft (i).toNatClampNeg) &&& (255 : Int32)))), .unset, .unset] [(.int (8 : Int32)), (.int (((fm (i).toNatClampNeg) &&& (255 : Int32)) + ((ft (i).toNatClampNeg) &&& (255 : Int32))))])) _
    refine XS.iushr X0.here hx rfl (hb hby d2_45) rfl ?_
    show Steps p.tables e below (T0.setTop (mkF m 46 #[.val (.ref bm), .val r1, .val (.ref bt), .val q, .val (.int p4), .val (.int p5), .val r6, .val (.int i), .val (.int (((fm (i).toNatClampNeg) &&& (255 : Int32)) + ((ft (i).toNatClampNeg) &&& (255 : Int32)))), .unset, .unset] [(.int ((((((fm (i).toNatClampNeg) &&& (255 : Int32)) + ((ft (i).toNatClampNeg) &&& (255 : Int32)))).toUInt32 >>> (((8 : Int32)) &&& 31).toUInt32).toInt32))])) _
    refine XS.i2l X0.here hx rfl (hb hby d2_46) rfl ?_
    show Steps p.tables e below (T0.setTop (mkF m 47 #[.val (.ref bm), .val r1, .val (.ref bt), .val q, .val (.int p4), .val (.int p5), .val r6, .val (.int i), .val (.int (((fm (i).toNatClampNeg) &&& (255 : Int32)) + ((ft (i).toNatClampNeg) &&& (255 : Int32)))), .unset, .unset] [(.long ((((((((fm (i).toNatClampNeg) &&& (255 : Int32)) + ((ft (i).toNatClampNeg) &&& (255 : Int32)))).toUInt32 >>> (((8 : Int32)) &&& 31).toUInt32).toInt32)).toInt64))])) _
    exact k
  rcases Hq with ⟨rfl, hzq⟩ | ⟨aq, kq, rfl, Aq⟩
  · skip
    have pre4 : Go p e below (T0.setTop (mkF m 22 #[.val (.ref bm), .val r1, .val (.ref bt), .val .null, .val (.int p4), .val (.int p5), .val r6, .val (.int i), .unset, .unset, .unset] [])) (T0.setTop (mkF m 62 #[.val (.ref bm), .val r1, .val (.ref bt), .val .null, .val (.int p4), .val (.int p5), .val r6, .val (.int i), .val (.int (((fm (i).toNatClampNeg) &&& (255 : Int32)) + ((ft (i).toNatClampNeg) &&& (255 : Int32)))), .val (.long (((((((((fm (i).toNatClampNeg) &&& (255 : Int32)) + ((ft (i).toNatClampNeg) &&& (255 : Int32)))).toUInt32 >>> (((8 : Int32)) &&& 31).toUInt32).toInt32)).toInt64) + (0 : Int64))), .second] [])) := by
      intro t k
      refine pre3 t ?_
      show Steps p.tables e below (T0.setTop (mkF m 47 #[.val (.ref bm), .val r1, .val (.ref bt), .val .null, .val (.int p4), .val (.int p5), .val r6, .val (.int i), .val (.int (((fm (i).toNatClampNeg) &&& (255 : Int32)) + ((ft (i).toNatClampNeg) &&& (255 : Int32)))), .unset, .unset] [(.long ((((((((fm (i).toNatClampNeg) &&& (255 : Int32)) + ((ft (i).toNatClampNeg) &&& (255 : Int32)))).toUInt32 >>> (((8 : Int32)) &&& 31).toUInt32).toInt32)).toInt64))])) _
      refine XS.aloadN X0.here hx rfl (hb hby d2_47) rfl rfl ?_
      show Steps p.tables e below (T0.setTop (mkF m 48 #[.val (.ref bm), .val r1, .val (.ref bt), .val .null, .val (.int p4), .val (.int p5), .val r6, .val (.int i), .val (.int (((fm (i).toNatClampNeg) &&& (255 : Int32)) + ((ft (i).toNatClampNeg) &&& (255 : Int32)))), .unset, .unset] [.null, (.long ((((((((fm (i).toNatClampNeg) &&& (255 : Int32)) + ((ft (i).toNatClampNeg) &&& (255 : Int32)))).toUInt32 >>> (((8 : Int32)) &&& 31).toUInt32).toInt32)).toInt64))])) _
      refine XS.ifnullYes X0.here hx rfl (pc0 := 48) (pc' := 58) rfl (hb hby d2_48) rfl (by decide) (by decide) ?_
      show Steps p.tables e below (T0.setTop (mkF m 58 #[.val (.ref bm), .val r1, .val (.ref bt), .val .null, .val (.int p4), .val (.int p5), .val r6, .val (.int i), .val (.int (((fm (i).toNatClampNeg) &&& (255 : Int32)) + ((ft (i).toNatClampNeg) &&& (255 : Int32)))), .unset, .unset] [(.long ((((((((fm (i).toNatClampNeg) &&& (255 : Int32)) + ((ft (i).toNatClampNeg) &&& (255 : Int32)))).toUInt32 >>> (((8 : Int32)) &&& 31).toUInt32).toInt32)).toInt64))])) _
      refine XT.lconstV X0.here hx rfl (0 : Int64) (hb hby d2_58) rfl ?_
      show Steps p.tables e below (T0.setTop (mkF m 59 #[.val (.ref bm), .val r1, .val (.ref bt), .val .null, .val (.int p4), .val (.int p5), .val r6, .val (.int i), .val (.int (((fm (i).toNatClampNeg) &&& (255 : Int32)) + ((ft (i).toNatClampNeg) &&& (255 : Int32)))), .unset, .unset] [(.long (0 : Int64)), (.long ((((((((fm (i).toNatClampNeg) &&& (255 : Int32)) + ((ft (i).toNatClampNeg) &&& (255 : Int32)))).toUInt32 >>> (((8 : Int32)) &&& 31).toUInt32).toInt32)).toInt64))])) _
      refine XS.ladd X0.here hx rfl (hb hby d2_59) rfl ?_
      show Steps p.tables e below (T0.setTop (mkF m 60 #[.val (.ref bm), .val r1, .val (.ref bt), .val .null, .val (.int p4), .val (.int p5), .val r6, .val (.int i), .val (.int (((fm (i).toNatClampNeg) &&& (255 : Int32)) + ((ft (i).toNatClampNeg) &&& (255 : Int32)))), .unset, .unset] [(.long (((((((((fm (i).toNatClampNeg) &&& (255 : Int32)) + ((ft (i).toNatClampNeg) &&& (255 : Int32)))).toUInt32 >>> (((8 : Int32)) &&& 31).toUInt32).toInt32)).toInt64) + (0 : Int64)))])) _
      refine XT.lstore X0.here hx rfl (hb hby d2_60) rfl (l' := #[.val (.ref bm), .val r1, .val (.ref bt), .val .null, .val (.int p4), .val (.int p5), .val r6, .val (.int i), .val (.int (((fm (i).toNatClampNeg) &&& (255 : Int32)) + ((ft (i).toNatClampNeg) &&& (255 : Int32)))), .val (.long (((((((((fm (i).toNatClampNeg) &&& (255 : Int32)) + ((ft (i).toNatClampNeg) &&& (255 : Int32)))).toUInt32 >>> (((8 : Int32)) &&& 31).toUInt32).toInt32)).toInt64) + (0 : Int64))), .second]) rfl ?_
      show Steps p.tables e below (T0.setTop (mkF m 62 #[.val (.ref bm), .val r1, .val (.ref bt), .val .null, .val (.int p4), .val (.int p5), .val r6, .val (.int i), .val (.int (((fm (i).toNatClampNeg) &&& (255 : Int32)) + ((ft (i).toNatClampNeg) &&& (255 : Int32)))), .val (.long (((((((((fm (i).toNatClampNeg) &&& (255 : Int32)) + ((ft (i).toNatClampNeg) &&& (255 : Int32)))).toUInt32 >>> (((8 : Int32)) &&& 31).toUInt32).toInt32)).toInt64) + (0 : Int64))), .second] [])) _
      exact k
    rw [show own_cy fm ft g i = (((((((((fm (i).toNatClampNeg) &&& (255 : Int32)) + ((ft (i).toNatClampNeg) &&& (255 : Int32)))).toUInt32 >>> (((8 : Int32)) &&& 31).toUInt32).toInt32)).toInt64) + (0 : Int64)) from by unfold own_cy own_s; rw [hzq]]
    exact pre4
  · skip
    obtain ⟨cl5, Ar5, SS5, NN5, HH5⟩ := Aq.cell
    have hj5 : ¬ i < 0 ∧ i < (1999 : Int32) := hj
    have hat5 : cl5.slots[(i).toNatClampNeg]? = some (.long (g (i).toNatClampNeg)) := (HH5 _ (own_lt hj5)).trans (congrArg some rfl)
    have pre6 : Go p e below (T0.setTop (mkF m 22 #[.val (.ref bm), .val r1, .val (.ref bt), .val (.ref aq), .val (.int p4), .val (.int p5), .val r6, .val (.int i), .unset, .unset, .unset] [])) (T0.setTop (mkF m 62 #[.val (.ref bm), .val r1, .val (.ref bt), .val (.ref aq), .val (.int p4), .val (.int p5), .val r6, .val (.int i), .val (.int (((fm (i).toNatClampNeg) &&& (255 : Int32)) + ((ft (i).toNatClampNeg) &&& (255 : Int32)))), .val (.long (((((((((fm (i).toNatClampNeg) &&& (255 : Int32)) + ((ft (i).toNatClampNeg) &&& (255 : Int32)))).toUInt32 >>> (((8 : Int32)) &&& 31).toUInt32).toInt32)).toInt64) + (g (i).toNatClampNeg))), .second] [])) := by
      intro t k
      refine pre3 t ?_
      show Steps p.tables e below (T0.setTop (mkF m 47 #[.val (.ref bm), .val r1, .val (.ref bt), .val (.ref aq), .val (.int p4), .val (.int p5), .val r6, .val (.int i), .val (.int (((fm (i).toNatClampNeg) &&& (255 : Int32)) + ((ft (i).toNatClampNeg) &&& (255 : Int32)))), .unset, .unset] [(.long ((((((((fm (i).toNatClampNeg) &&& (255 : Int32)) + ((ft (i).toNatClampNeg) &&& (255 : Int32)))).toUInt32 >>> (((8 : Int32)) &&& 31).toUInt32).toInt32)).toInt64))])) _
      refine XS.aloadN X0.here hx rfl (hb hby d2_47) rfl rfl ?_
      show Steps p.tables e below (T0.setTop (mkF m 48 #[.val (.ref bm), .val r1, .val (.ref bt), .val (.ref aq), .val (.int p4), .val (.int p5), .val r6, .val (.int i), .val (.int (((fm (i).toNatClampNeg) &&& (255 : Int32)) + ((ft (i).toNatClampNeg) &&& (255 : Int32)))), .unset, .unset] [(.ref aq), (.long ((((((((fm (i).toNatClampNeg) &&& (255 : Int32)) + ((ft (i).toNatClampNeg) &&& (255 : Int32)))).toUInt32 >>> (((8 : Int32)) &&& 31).toUInt32).toInt32)).toInt64))])) _
      refine XS.ifnullNo X0.here hx rfl (hb hby d2_48) rfl ?_
      show Steps p.tables e below (T0.setTop (mkF m 51 #[.val (.ref bm), .val r1, .val (.ref bt), .val (.ref aq), .val (.int p4), .val (.int p5), .val r6, .val (.int i), .val (.int (((fm (i).toNatClampNeg) &&& (255 : Int32)) + ((ft (i).toNatClampNeg) &&& (255 : Int32)))), .unset, .unset] [(.long ((((((((fm (i).toNatClampNeg) &&& (255 : Int32)) + ((ft (i).toNatClampNeg) &&& (255 : Int32)))).toUInt32 >>> (((8 : Int32)) &&& 31).toUInt32).toInt32)).toInt64))])) _
      refine XS.aloadN X0.here hx rfl (hb hby d2_51) rfl rfl ?_
      show Steps p.tables e below (T0.setTop (mkF m 52 #[.val (.ref bm), .val r1, .val (.ref bt), .val (.ref aq), .val (.int p4), .val (.int p5), .val r6, .val (.int i), .val (.int (((fm (i).toNatClampNeg) &&& (255 : Int32)) + ((ft (i).toNatClampNeg) &&& (255 : Int32)))), .unset, .unset] [(.ref aq), (.long ((((((((fm (i).toNatClampNeg) &&& (255 : Int32)) + ((ft (i).toNatClampNeg) &&& (255 : Int32)))).toUInt32 >>> (((8 : Int32)) &&& 31).toUInt32).toInt32)).toInt64))])) _
      refine XS.iload X0.here hx rfl (hb hby d2_52) rfl ?_
      show Steps p.tables e below (T0.setTop (mkF m 54 #[.val (.ref bm), .val r1, .val (.ref bt), .val (.ref aq), .val (.int p4), .val (.int p5), .val r6, .val (.int i), .val (.int (((fm (i).toNatClampNeg) &&& (255 : Int32)) + ((ft (i).toNatClampNeg) &&& (255 : Int32)))), .unset, .unset] [(.int i), (.ref aq), (.long ((((((((fm (i).toNatClampNeg) &&& (255 : Int32)) + ((ft (i).toNatClampNeg) &&& (255 : Int32)))).toUInt32 >>> (((8 : Int32)) &&& 31).toUInt32).toInt32)).toInt64))])) _
      refine X0.laload hx (j := i) (v := (.long (g (i).toNatClampNeg))) (by rw [e0]; exact Ar5.1) (State.isArrayOf_alike hZ.alike Ar5.2.1) Ar5.2.2 (inb_of SS5 hj5) hat5 (g := (mkF m 54 #[.val (.ref bm), .val r1, .val (.ref bt), .val (.ref aq), .val (.int p4), .val (.int p5), .val r6, .val (.int i), .val (.int (((fm (i).toNatClampNeg) &&& (255 : Int32)) + ((ft (i).toNatClampNeg) &&& (255 : Int32)))), .unset, .unset] [(.int i), (.ref aq), (.long ((((((((fm (i).toNatClampNeg) &&& (255 : Int32)) + ((ft (i).toNatClampNeg) &&& (255 : Int32)))).toUInt32 >>> (((8 : Int32)) &&& 31).toUInt32).toInt32)).toInt64))])) rfl rfl (hb hby d2_54) _ ?_
      show Steps p.tables e below (T0.setTop (mkF m 55 #[.val (.ref bm), .val r1, .val (.ref bt), .val (.ref aq), .val (.int p4), .val (.int p5), .val r6, .val (.int i), .val (.int (((fm (i).toNatClampNeg) &&& (255 : Int32)) + ((ft (i).toNatClampNeg) &&& (255 : Int32)))), .unset, .unset] [(.long (g (i).toNatClampNeg)), (.long ((((((((fm (i).toNatClampNeg) &&& (255 : Int32)) + ((ft (i).toNatClampNeg) &&& (255 : Int32)))).toUInt32 >>> (((8 : Int32)) &&& 31).toUInt32).toInt32)).toInt64))])) _
      refine XS.goto X0.here hx rfl (pc0 := 55) (pc' := 59) rfl (hb hby d2_55) (by decide) (by decide) ?_
      show Steps p.tables e below (T0.setTop (mkF m 59 #[.val (.ref bm), .val r1, .val (.ref bt), .val (.ref aq), .val (.int p4), .val (.int p5), .val r6, .val (.int i), .val (.int (((fm (i).toNatClampNeg) &&& (255 : Int32)) + ((ft (i).toNatClampNeg) &&& (255 : Int32)))), .unset, .unset] [(.long (g (i).toNatClampNeg)), (.long ((((((((fm (i).toNatClampNeg) &&& (255 : Int32)) + ((ft (i).toNatClampNeg) &&& (255 : Int32)))).toUInt32 >>> (((8 : Int32)) &&& 31).toUInt32).toInt32)).toInt64))])) _
      refine XS.ladd X0.here hx rfl (hb hby d2_59) rfl ?_
      show Steps p.tables e below (T0.setTop (mkF m 60 #[.val (.ref bm), .val r1, .val (.ref bt), .val (.ref aq), .val (.int p4), .val (.int p5), .val r6, .val (.int i), .val (.int (((fm (i).toNatClampNeg) &&& (255 : Int32)) + ((ft (i).toNatClampNeg) &&& (255 : Int32)))), .unset, .unset] [(.long (((((((((fm (i).toNatClampNeg) &&& (255 : Int32)) + ((ft (i).toNatClampNeg) &&& (255 : Int32)))).toUInt32 >>> (((8 : Int32)) &&& 31).toUInt32).toInt32)).toInt64) + (g (i).toNatClampNeg)))])) _
      refine XT.lstore X0.here hx rfl (hb hby d2_60) rfl (l' := #[.val (.ref bm), .val r1, .val (.ref bt), .val (.ref aq), .val (.int p4), .val (.int p5), .val r6, .val (.int i), .val (.int (((fm (i).toNatClampNeg) &&& (255 : Int32)) + ((ft (i).toNatClampNeg) &&& (255 : Int32)))), .val (.long (((((((((fm (i).toNatClampNeg) &&& (255 : Int32)) + ((ft (i).toNatClampNeg) &&& (255 : Int32)))).toUInt32 >>> (((8 : Int32)) &&& 31).toUInt32).toInt32)).toInt64) + (g (i).toNatClampNeg))), .second]) rfl ?_
      show Steps p.tables e below (T0.setTop (mkF m 62 #[.val (.ref bm), .val r1, .val (.ref bt), .val (.ref aq), .val (.int p4), .val (.int p5), .val r6, .val (.int i), .val (.int (((fm (i).toNatClampNeg) &&& (255 : Int32)) + ((ft (i).toNatClampNeg) &&& (255 : Int32)))), .val (.long (((((((((fm (i).toNatClampNeg) &&& (255 : Int32)) + ((ft (i).toNatClampNeg) &&& (255 : Int32)))).toUInt32 >>> (((8 : Int32)) &&& 31).toUInt32).toInt32)).toInt64) + (g (i).toNatClampNeg))), .second] [])) _
      exact k
    exact pre6
set_option maxRecDepth 65536 in
set_option maxHeartbeats 40000000 in
theorem tm1b {p : Program} {l : Launch} {e : Env} {R : Room} {s : State} {m : MethodId} {args : Array Value} {below : List Frame} {meth : Method} {c : Code} {T0 : State} {locs : List Loc} {cells slots : Nat} {Z : State} {a0 : Array Value} {h0 : Heap} {n0 : Nat}  {bm bt : Addr} {r1 q r6 : Value} {p4 p5 i : Int32} {km kt : ClassId} {fm ft : Nat → Int32} {g : Nat → Int64} {s8 : Int32} {c9 : Int64}
    (X0 : Stand p l e R s m args below meth c T0 locs cells slots) (hx : p.tables.exec = Jvm.exec) (hZ : Z.Warmed39 s.vm) (hw : ∀ d ∈ tables_1, d.before a0 Z = true) (hby : c.code = prog_2_method_5_code) (hml : c.maxLocals = 11) (hown : s.vm.findClass "com/example/lanescan/lanescan/Distribution" = some m.cls) (e0 : T0.heap = h0) (N0 : Fr n0 locs) (Z0 : n0 ≤ h0.size) (hj : ¬ i < 0 ∧ i < (1999 : Int32)) (Am : BA Z h0 bm km fm) (At_ : BA Z h0 bt kt ft) (Hq : (q = .null ∧ ∀ i_, g i_ = 0) ∨ (∃ a k, q = .ref a ∧ LA Z h0 a k g)) :
    Go p e below (T0.setTop (mkF m 22 #[.val (.ref bm), .val r1, .val (.ref bt), .val q, .val (.int p4), .val (.int p5), .val r6, .val (.int i), .val (.int s8), .val (.long c9), .second] [])) (T0.setTop (mkF m 62 #[.val (.ref bm), .val r1, .val (.ref bt), .val q, .val (.int p4), .val (.int p5), .val r6, .val (.int i), .val (.int (own_s fm ft i)), .val (.long (own_cy fm ft g i)), .second] [])) := by
  have pre0 : Go p e below (T0.setTop (mkF m 22 #[.val (.ref bm), .val r1, .val (.ref bt), .val q, .val (.int p4), .val (.int p5), .val r6, .val (.int i), .val (.int s8), .val (.long c9), .second] [])) (T0.setTop (mkF m 22 #[.val (.ref bm), .val r1, .val (.ref bt), .val q, .val (.int p4), .val (.int p5), .val r6, .val (.int i), .val (.int s8), .val (.long c9), .second] [])) := fun t k => k
  obtain ⟨cl1, Ar1, SS1, NN1, HH1⟩ := Am.cell
  have hj1 : ¬ i < 0 ∧ i < (1999 : Int32) := hj
  have hat1 : cl1.slots[(i).toNatClampNeg]? = some (.int (fm (i).toNatClampNeg)) := (HH1 _ (own_lt hj1)).trans (congrArg some rfl)
  obtain ⟨cl2, Ar2, SS2, NN2, HH2⟩ := At_.cell
  have hj2 : ¬ i < 0 ∧ i < (1999 : Int32) := hj
  have hat2 : cl2.slots[(i).toNatClampNeg]? = some (.int (ft (i).toNatClampNeg)) := (HH2 _ (own_lt hj2)).trans (congrArg some rfl)
  have pre3 : Go p e below (T0.setTop (mkF m 22 #[.val (.ref bm), .val r1, .val (.ref bt), .val q, .val (.int p4), .val (.int p5), .val r6, .val (.int i), .val (.int s8), .val (.long c9), .second] [])) (T0.setTop (mkF m 47 #[.val (.ref bm), .val r1, .val (.ref bt), .val q, .val (.int p4), .val (.int p5), .val r6, .val (.int i), .val (.int (((fm (i).toNatClampNeg) &&& (255 : Int32)) + ((ft (i).toNatClampNeg) &&& (255 : Int32)))), .val (.long c9), .second] [(.long ((((((((fm (i).toNatClampNeg) &&& (255 : Int32)) + ((ft (i).toNatClampNeg) &&& (255 : Int32)))).toUInt32 >>> (((8 : Int32)) &&& 31).toUInt32).toInt32)).toInt64))])) := by
    intro t k
    refine pre0 t ?_
    show Steps p.tables e below (T0.setTop (mkF m 22 #[.val (.ref bm), .val r1, .val (.ref bt), .val q, .val (.int p4), .val (.int p5), .val r6, .val (.int i), .val (.int s8), .val (.long c9), .second] [])) _
    refine XS.aloadN X0.here hx rfl (hb hby d2_22) rfl rfl ?_
    show Steps p.tables e below (T0.setTop (mkF m 23 #[.val (.ref bm), .val r1, .val (.ref bt), .val q, .val (.int p4), .val (.int p5), .val r6, .val (.int i), .val (.int s8), .val (.long c9), .second] [(.ref bm)])) _
    refine XS.iload X0.here hx rfl (hb hby d2_23) rfl ?_
    show Steps p.tables e below (T0.setTop (mkF m 25 #[.val (.ref bm), .val r1, .val (.ref bt), .val q, .val (.int p4), .val (.int p5), .val r6, .val (.int i), .val (.int s8), .val (.long c9), .second] [(.int i), (.ref bm)])) _
    refine X0.baloadBytes hx (j := i) (v := (.int (fm (i).toNatClampNeg))) (by rw [e0]; exact Ar1.1) (State.isArrayOf_alike hZ.alike Ar1.2.1) Ar1.2.2 (inb_of SS1 hj1) hat1 (g := (mkF m 25 #[.val (.ref bm), .val r1, .val (.ref bt), .val q, .val (.int p4), .val (.int p5), .val r6, .val (.int i), .val (.int s8), .val (.long c9), .second] [(.int i), (.ref bm)])) rfl rfl (hb hby d2_25) _ ?_
    show Steps p.tables e below (T0.setTop (mkF m 26 #[.val (.ref bm), .val r1, .val (.ref bt), .val q, .val (.int p4), .val (.int p5), .val r6, .val (.int i), .val (.int s8), .val (.long c9), .second] [(.int (fm (i).toNatClampNeg))])) _
    refine XS.sipush X0.here hx rfl (hb hby d2_26) ?_
    show Steps p.tables e below (T0.setTop (mkF m 29 #[.val (.ref bm), .val r1, .val (.ref bt), .val q, .val (.int p4), .val (.int p5), .val r6, .val (.int i), .val (.int s8), .val (.long c9), .second] [(.int (255 : Int32)), (.int (fm (i).toNatClampNeg))])) _
    refine XS.iand X0.here hx rfl (hb hby d2_29) rfl ?_
    show Steps p.tables e below (T0.setTop (mkF m 30 #[.val (.ref bm), .val r1, .val (.ref bt), .val q, .val (.int p4), .val (.int p5), .val r6, .val (.int i), .val (.int s8), .val (.long c9), .second] [(.int ((fm (i).toNatClampNeg) &&& (255 : Int32)))])) _
    refine XS.aloadN X0.here hx rfl (hb hby d2_30) rfl rfl ?_
    show Steps p.tables e below (T0.setTop (mkF m 31 #[.val (.ref bm), .val r1, .val (.ref bt), .val q, .val (.int p4), .val (.int p5), .val r6, .val (.int i), .val (.int s8), .val (.long c9), .second] [(.ref bt), (.int ((fm (i).toNatClampNeg) &&& (255 : Int32)))])) _
    refine XS.iload X0.here hx rfl (hb hby d2_31) rfl ?_
    show Steps p.tables e below (T0.setTop (mkF m 33 #[.val (.ref bm), .val r1, .val (.ref bt), .val q, .val (.int p4), .val (.int p5), .val r6, .val (.int i), .val (.int s8), .val (.long c9), .second] [(.int i), (.ref bt), (.int ((fm (i).toNatClampNeg) &&& (255 : Int32)))])) _
    refine X0.baloadBytes hx (j := i) (v := (.int (ft (i).toNatClampNeg))) (by rw [e0]; exact Ar2.1) (State.isArrayOf_alike hZ.alike Ar2.2.1) Ar2.2.2 (inb_of SS2 hj2) hat2 (g := (mkF m 33 #[.val (.ref bm), .val r1, .val (.ref bt), .val q, .val (.int p4), .val (.int p5), .val r6, .val (.int i), .val (.int s8), .val (.long c9), .second] [(.int i), (.ref bt), (.int ((fm (i).toNatClampNeg) &&& (255 : Int32)))])) rfl rfl (hb hby d2_33) _ ?_
    show Steps p.tables e below (T0.setTop (mkF m 34 #[.val (.ref bm), .val r1, .val (.ref bt), .val q, .val (.int p4), .val (.int p5), .val r6, .val (.int i), .val (.int s8), .val (.long c9), .second] [(.int (ft (i).toNatClampNeg)), (.int ((fm (i).toNatClampNeg) &&& (255 : Int32)))])) _
    refine XS.sipush X0.here hx rfl (hb hby d2_34) ?_
    show Steps p.tables e below (T0.setTop (mkF m 37 #[.val (.ref bm), .val r1, .val (.ref bt), .val q, .val (.int p4), .val (.int p5), .val r6, .val (.int i), .val (.int s8), .val (.long c9), .second] [(.int (255 : Int32)), (.int (ft (i).toNatClampNeg)), (.int ((fm (i).toNatClampNeg) &&& (255 : Int32)))])) _
    refine XS.iand X0.here hx rfl (hb hby d2_37) rfl ?_
    show Steps p.tables e below (T0.setTop (mkF m 38 #[.val (.ref bm), .val r1, .val (.ref bt), .val q, .val (.int p4), .val (.int p5), .val r6, .val (.int i), .val (.int s8), .val (.long c9), .second] [(.int ((ft (i).toNatClampNeg) &&& (255 : Int32))), (.int ((fm (i).toNatClampNeg) &&& (255 : Int32)))])) _
    refine XS.iadd X0.here hx rfl (hb hby d2_38) rfl ?_
    show Steps p.tables e below (T0.setTop (mkF m 39 #[.val (.ref bm), .val r1, .val (.ref bt), .val q, .val (.int p4), .val (.int p5), .val r6, .val (.int i), .val (.int s8), .val (.long c9), .second] [(.int (((fm (i).toNatClampNeg) &&& (255 : Int32)) + ((ft (i).toNatClampNeg) &&& (255 : Int32))))])) _
    refine XS.istore X0.here hx rfl (hb hby d2_39) rfl (l' := #[.val (.ref bm), .val r1, .val (.ref bt), .val q, .val (.int p4), .val (.int p5), .val r6, .val (.int i), .val (.int (((fm (i).toNatClampNeg) &&& (255 : Int32)) + ((ft (i).toNatClampNeg) &&& (255 : Int32)))), .val (.long c9), .second]) rfl ?_
    show Steps p.tables e below (T0.setTop (mkF m 41 #[.val (.ref bm), .val r1, .val (.ref bt), .val q, .val (.int p4), .val (.int p5), .val r6, .val (.int i), .val (.int (((fm (i).toNatClampNeg) &&& (255 : Int32)) + ((ft (i).toNatClampNeg) &&& (255 : Int32)))), .val (.long c9), .second] [])) _
    refine XS.iload X0.here hx rfl (hb hby d2_41) rfl ?_
    show Steps p.tables e below (T0.setTop (mkF m 43 #[.val (.ref bm), .val r1, .val (.ref bt), .val q, .val (.int p4), .val (.int p5), .val r6, .val (.int i), .val (.int (((fm (i).toNatClampNeg) &&& (255 : Int32)) + ((ft (i).toNatClampNeg) &&& (255 : Int32)))), .val (.long c9), .second] [(.int (((fm (i).toNatClampNeg) &&& (255 : Int32)) + ((ft (i).toNatClampNeg) &&& (255 : Int32))))])) _
    refine XS.bipush X0.here hx rfl (hb hby d2_43) ?_
    show Steps p.tables e below (T0.setTop (mkF m 45 #[.val (.ref bm), .val r1, .val (.ref bt), .val q, .val (.int p4), .val (.int p5), .val r6, .val (.int i), .val (.int (((fm (i).toNatClampNeg) &&& (255 : Int32)) + ((ft (i).toNatClampNeg) &&& (255 : Int32)))), .val (.long c9), .second] [(.int (8 : Int32)), (.int (((fm (i).toNatClampNeg) &&& (255 : Int32)) + ((ft (i).toNatClampNeg) &&& (255 : Int32))))])) _
    refine XS.iushr X0.here hx rfl (hb hby d2_45) rfl ?_
    show Steps p.tables e below (T0.setTop (mkF m 46 #[.val (.ref bm), .val r1, .val (.ref bt), .val q, .val (.int p4), .val (.int p5), .val r6, .val (.int i), .val (.int (((fm (i).toNatClampNeg) &&& (255 : Int32)) + ((ft (i).toNatClampNeg) &&& (255 : Int32)))), .val (.long c9), .second] [(.int ((((((fm (i).toNatClampNeg) &&& (255 : Int32)) + ((ft (i).toNatClampNeg) &&& (255 : Int32)))).toUInt32 >>> (((8 : Int32)) &&& 31).toUInt32).toInt32))])) _
    refine XS.i2l X0.here hx rfl (hb hby d2_46) rfl ?_
    show Steps p.tables e below (T0.setTop (mkF m 47 #[.val (.ref bm), .val r1, .val (.ref bt), .val q, .val (.int p4), .val (.int p5), .val r6, .val (.int i), .val (.int (((fm (i).toNatClampNeg) &&& (255 : Int32)) + ((ft (i).toNatClampNeg) &&& (255 : Int32)))), .val (.long c9), .second] [(.long ((((((((fm (i).toNatClampNeg) &&& (255 : Int32)) + ((ft (i).toNatClampNeg) &&& (255 : Int32)))).toUInt32 >>> (((8 : Int32)) &&& 31).toUInt32).toInt32)).toInt64))])) _
    exact k
  rcases Hq with ⟨rfl, hzq⟩ | ⟨aq, kq, rfl, Aq⟩
  · skip
    have pre4 : Go p e below (T0.setTop (mkF m 22 #[.val (.ref bm), .val r1, .val (.ref bt), .val .null, .val (.int p4), .val (.int p5), .val r6, .val (.int i), .val (.int s8), .val (.long c9), .second] [])) (T0.setTop (mkF m 62 #[.val (.ref bm), .val r1, .val (.ref bt), .val .null, .val (.int p4), .val (.int p5), .val r6, .val (.int i), .val (.int (((fm (i).toNatClampNeg) &&& (255 : Int32)) + ((ft (i).toNatClampNeg) &&& (255 : Int32)))), .val (.long (((((((((fm (i).toNatClampNeg) &&& (255 : Int32)) + ((ft (i).toNatClampNeg) &&& (255 : Int32)))).toUInt32 >>> (((8 : Int32)) &&& 31).toUInt32).toInt32)).toInt64) + (0 : Int64))), .second] [])) := by
      intro t k
      refine pre3 t ?_
      show Steps p.tables e below (T0.setTop (mkF m 47 #[.val (.ref bm), .val r1, .val (.ref bt), .val .null, .val (.int p4), .val (.int p5), .val r6, .val (.int i), .val (.int (((fm (i).toNatClampNeg) &&& (255 : Int32)) + ((ft (i).toNatClampNeg) &&& (255 : Int32)))), .val (.long c9), .second] [(.long ((((((((fm (i).toNatClampNeg) &&& (255 : Int32)) + ((ft (i).toNatClampNeg) &&& (255 : Int32)))).toUInt32 >>> (((8 : Int32)) &&& 31).toUInt32).toInt32)).toInt64))])) _
      refine XS.aloadN X0.here hx rfl (hb hby d2_47) rfl rfl ?_
      show Steps p.tables e below (T0.setTop (mkF m 48 #[.val (.ref bm), .val r1, .val (.ref bt), .val .null, .val (.int p4), .val (.int p5), .val r6, .val (.int i), .val (.int (((fm (i).toNatClampNeg) &&& (255 : Int32)) + ((ft (i).toNatClampNeg) &&& (255 : Int32)))), .val (.long c9), .second] [.null, (.long ((((((((fm (i).toNatClampNeg) &&& (255 : Int32)) + ((ft (i).toNatClampNeg) &&& (255 : Int32)))).toUInt32 >>> (((8 : Int32)) &&& 31).toUInt32).toInt32)).toInt64))])) _
      refine XS.ifnullYes X0.here hx rfl (pc0 := 48) (pc' := 58) rfl (hb hby d2_48) rfl (by decide) (by decide) ?_
      show Steps p.tables e below (T0.setTop (mkF m 58 #[.val (.ref bm), .val r1, .val (.ref bt), .val .null, .val (.int p4), .val (.int p5), .val r6, .val (.int i), .val (.int (((fm (i).toNatClampNeg) &&& (255 : Int32)) + ((ft (i).toNatClampNeg) &&& (255 : Int32)))), .val (.long c9), .second] [(.long ((((((((fm (i).toNatClampNeg) &&& (255 : Int32)) + ((ft (i).toNatClampNeg) &&& (255 : Int32)))).toUInt32 >>> (((8 : Int32)) &&& 31).toUInt32).toInt32)).toInt64))])) _
      refine XT.lconstV X0.here hx rfl (0 : Int64) (hb hby d2_58) rfl ?_
      show Steps p.tables e below (T0.setTop (mkF m 59 #[.val (.ref bm), .val r1, .val (.ref bt), .val .null, .val (.int p4), .val (.int p5), .val r6, .val (.int i), .val (.int (((fm (i).toNatClampNeg) &&& (255 : Int32)) + ((ft (i).toNatClampNeg) &&& (255 : Int32)))), .val (.long c9), .second] [(.long (0 : Int64)), (.long ((((((((fm (i).toNatClampNeg) &&& (255 : Int32)) + ((ft (i).toNatClampNeg) &&& (255 : Int32)))).toUInt32 >>> (((8 : Int32)) &&& 31).toUInt32).toInt32)).toInt64))])) _
      refine XS.ladd X0.here hx rfl (hb hby d2_59) rfl ?_
      show Steps p.tables e below (T0.setTop (mkF m 60 #[.val (.ref bm), .val r1, .val (.ref bt), .val .null, .val (.int p4), .val (.int p5), .val r6, .val (.int i), .val (.int (((fm (i).toNatClampNeg) &&& (255 : Int32)) + ((ft (i).toNatClampNeg) &&& (255 : Int32)))), .val (.long c9), .second] [(.long (((((((((fm (i).toNatClampNeg) &&& (255 : Int32)) + ((ft (i).toNatClampNeg) &&& (255 : Int32)))).toUInt32 >>> (((8 : Int32)) &&& 31).toUInt32).toInt32)).toInt64) + (0 : Int64)))])) _
      refine XT.lstore X0.here hx rfl (hb hby d2_60) rfl (l' := #[.val (.ref bm), .val r1, .val (.ref bt), .val .null, .val (.int p4), .val (.int p5), .val r6, .val (.int i), .val (.int (((fm (i).toNatClampNeg) &&& (255 : Int32)) + ((ft (i).toNatClampNeg) &&& (255 : Int32)))), .val (.long (((((((((fm (i).toNatClampNeg) &&& (255 : Int32)) + ((ft (i).toNatClampNeg) &&& (255 : Int32)))).toUInt32 >>> (((8 : Int32)) &&& 31).toUInt32).toInt32)).toInt64) + (0 : Int64))), .second]) rfl ?_
      show Steps p.tables e below (T0.setTop (mkF m 62 #[.val (.ref bm), .val r1, .val (.ref bt), .val .null, .val (.int p4), .val (.int p5), .val r6, .val (.int i), .val (.int (((fm (i).toNatClampNeg) &&& (255 : Int32)) + ((ft (i).toNatClampNeg) &&& (255 : Int32)))), .val (.long (((((((((fm (i).toNatClampNeg) &&& (255 : Int32)) + ((ft (i).toNatClampNeg) &&& (255 : Int32)))).toUInt32 >>> (((8 : Int32)) &&& 31).toUInt32).toInt32)).toInt64) + (0 : Int64))), .second] [])) _
      exact k
    rw [show own_cy fm ft g i = (((((((((fm (i).toNatClampNeg) &&& (255 : Int32)) + ((ft (i).toNatClampNeg) &&& (255 : Int32)))).toUInt32 >>> (((8 : Int32)) &&& 31).toUInt32).toInt32)).toInt64) + (0 : Int64)) from by unfold own_cy own_s; rw [hzq]]
    exact pre4
  · skip
    obtain ⟨cl5, Ar5, SS5, NN5, HH5⟩ := Aq.cell
    have hj5 : ¬ i < 0 ∧ i < (1999 : Int32) := hj
    have hat5 : cl5.slots[(i).toNatClampNeg]? = some (.long (g (i).toNatClampNeg)) := (HH5 _ (own_lt hj5)).trans (congrArg some rfl)
    have pre6 : Go p e below (T0.setTop (mkF m 22 #[.val (.ref bm), .val r1, .val (.ref bt), .val (.ref aq), .val (.int p4), .val (.int p5), .val r6, .val (.int i), .val (.int s8), .val (.long c9), .second] [])) (T0.setTop (mkF m 62 #[.val (.ref bm), .val r1, .val (.ref bt), .val (.ref aq), .val (.int p4), .val (.int p5), .val r6, .val (.int i), .val (.int (((fm (i).toNatClampNeg) &&& (255 : Int32)) + ((ft (i).toNatClampNeg) &&& (255 : Int32)))), .val (.long (((((((((fm (i).toNatClampNeg) &&& (255 : Int32)) + ((ft (i).toNatClampNeg) &&& (255 : Int32)))).toUInt32 >>> (((8 : Int32)) &&& 31).toUInt32).toInt32)).toInt64) + (g (i).toNatClampNeg))), .second] [])) := by
      intro t k
      refine pre3 t ?_
      show Steps p.tables e below (T0.setTop (mkF m 47 #[.val (.ref bm), .val r1, .val (.ref bt), .val (.ref aq), .val (.int p4), .val (.int p5), .val r6, .val (.int i), .val (.int (((fm (i).toNatClampNeg) &&& (255 : Int32)) + ((ft (i).toNatClampNeg) &&& (255 : Int32)))), .val (.long c9), .second] [(.long ((((((((fm (i).toNatClampNeg) &&& (255 : Int32)) + ((ft (i).toNatClampNeg) &&& (255 : Int32)))).toUInt32 >>> (((8 : Int32)) &&& 31).toUInt32).toInt32)).toInt64))])) _
      refine XS.aloadN X0.here hx rfl (hb hby d2_47) rfl rfl ?_
      show Steps p.tables e below (T0.setTop (mkF m 48 #[.val (.ref bm), .val r1, .val (.ref bt), .val (.ref aq), .val (.int p4), .val (.int p5), .val r6, .val (.int i), .val (.int (((fm (i).toNatClampNeg) &&& (255 : Int32)) + ((ft (i).toNatClampNeg) &&& (255 : Int32)))), .val (.long c9), .second] [(.ref aq), (.long ((((((((fm (i).toNatClampNeg) &&& (255 : Int32)) + ((ft (i).toNatClampNeg) &&& (255 : Int32)))).toUInt32 >>> (((8 : Int32)) &&& 31).toUInt32).toInt32)).toInt64))])) _
      refine XS.ifnullNo X0.here hx rfl (hb hby d2_48) rfl ?_
      show Steps p.tables e below (T0.setTop (mkF m 51 #[.val (.ref bm), .val r1, .val (.ref bt), .val (.ref aq), .val (.int p4), .val (.int p5), .val r6, .val (.int i), .val (.int (((fm (i).toNatClampNeg) &&& (255 : Int32)) + ((ft (i).toNatClampNeg) &&& (255 : Int32)))), .val (.long c9), .second] [(.long ((((((((fm (i).toNatClampNeg) &&& (255 : Int32)) + ((ft (i).toNatClampNeg) &&& (255 : Int32)))).toUInt32 >>> (((8 : Int32)) &&& 31).toUInt32).toInt32)).toInt64))])) _
      refine XS.aloadN X0.here hx rfl (hb hby d2_51) rfl rfl ?_
      show Steps p.tables e below (T0.setTop (mkF m 52 #[.val (.ref bm), .val r1, .val (.ref bt), .val (.ref aq), .val (.int p4), .val (.int p5), .val r6, .val (.int i), .val (.int (((fm (i).toNatClampNeg) &&& (255 : Int32)) + ((ft (i).toNatClampNeg) &&& (255 : Int32)))), .val (.long c9), .second] [(.ref aq), (.long ((((((((fm (i).toNatClampNeg) &&& (255 : Int32)) + ((ft (i).toNatClampNeg) &&& (255 : Int32)))).toUInt32 >>> (((8 : Int32)) &&& 31).toUInt32).toInt32)).toInt64))])) _
      refine XS.iload X0.here hx rfl (hb hby d2_52) rfl ?_
      show Steps p.tables e below (T0.setTop (mkF m 54 #[.val (.ref bm), .val r1, .val (.ref bt), .val (.ref aq), .val (.int p4), .val (.int p5), .val r6, .val (.int i), .val (.int (((fm (i).toNatClampNeg) &&& (255 : Int32)) + ((ft (i).toNatClampNeg) &&& (255 : Int32)))), .val (.long c9), .second] [(.int i), (.ref aq), (.long ((((((((fm (i).toNatClampNeg) &&& (255 : Int32)) + ((ft (i).toNatClampNeg) &&& (255 : Int32)))).toUInt32 >>> (((8 : Int32)) &&& 31).toUInt32).toInt32)).toInt64))])) _
      refine X0.laload hx (j := i) (v := (.long (g (i).toNatClampNeg))) (by rw [e0]; exact Ar5.1) (State.isArrayOf_alike hZ.alike Ar5.2.1) Ar5.2.2 (inb_of SS5 hj5) hat5 (g := (mkF m 54 #[.val (.ref bm), .val r1, .val (.ref bt), .val (.ref aq), .val (.int p4), .val (.int p5), .val r6, .val (.int i), .val (.int (((fm (i).toNatClampNeg) &&& (255 : Int32)) + ((ft (i).toNatClampNeg) &&& (255 : Int32)))), .val (.long c9), .second] [(.int i), (.ref aq), (.long ((((((((fm (i).toNatClampNeg) &&& (255 : Int32)) + ((ft (i).toNatClampNeg) &&& (255 : Int32)))).toUInt32 >>> (((8 : Int32)) &&& 31).toUInt32).toInt32)).toInt64))])) rfl rfl (hb hby d2_54) _ ?_
      show Steps p.tables e below (T0.setTop (mkF m 55 #[.val (.ref bm), .val r1, .val (.ref bt), .val (.ref aq), .val (.int p4), .val (.int p5), .val r6, .val (.int i), .val (.int (((fm (i).toNatClampNeg) &&& (255 : Int32)) + ((ft (i).toNatClampNeg) &&& (255 : Int32)))), .val (.long c9), .second] [(.long (g (i).toNatClampNeg)), (.long ((((((((fm (i).toNatClampNeg) &&& (255 : Int32)) + ((ft (i).toNatClampNeg) &&& (255 : Int32)))).toUInt32 >>> (((8 : Int32)) &&& 31).toUInt32).toInt32)).toInt64))])) _
      refine XS.goto X0.here hx rfl (pc0 := 55) (pc' := 59) rfl (hb hby d2_55) (by decide) (by decide) ?_
      show Steps p.tables e below (T0.setTop (mkF m 59 #[.val (.ref bm), .val r1, .val (.ref bt), .val (.ref aq), .val (.int p4), .val (.int p5), .val r6, .val (.int i), .val (.int (((fm (i).toNatClampNeg) &&& (255 : Int32)) + ((ft (i).toNatClampNeg) &&& (255 : Int32)))), .val (.long c9), .second] [(.long (g (i).toNatClampNeg)), (.long ((((((((fm (i).toNatClampNeg) &&& (255 : Int32)) + ((ft (i).toNatClampNeg) &&& (255 : Int32)))).toUInt32 >>> (((8 : Int32)) &&& 31).toUInt32).toInt32)).toInt64))])) _
      refine XS.ladd X0.here hx rfl (hb hby d2_59) rfl ?_
      show Steps p.tables e below (T0.setTop (mkF m 60 #[.val (.ref bm), .val r1, .val (.ref bt), .val (.ref aq), .val (.int p4), .val (.int p5), .val r6, .val (.int i), .val (.int (((fm (i).toNatClampNeg) &&& (255 : Int32)) + ((ft (i).toNatClampNeg) &&& (255 : Int32)))), .val (.long c9), .second] [(.long (((((((((fm (i).toNatClampNeg) &&& (255 : Int32)) + ((ft (i).toNatClampNeg) &&& (255 : Int32)))).toUInt32 >>> (((8 : Int32)) &&& 31).toUInt32).toInt32)).toInt64) + (g (i).toNatClampNeg)))])) _
      refine XT.lstore X0.here hx rfl (hb hby d2_60) rfl (l' := #[.val (.ref bm), .val r1, .val (.ref bt), .val (.ref aq), .val (.int p4), .val (.int p5), .val r6, .val (.int i), .val (.int (((fm (i).toNatClampNeg) &&& (255 : Int32)) + ((ft (i).toNatClampNeg) &&& (255 : Int32)))), .val (.long (((((((((fm (i).toNatClampNeg) &&& (255 : Int32)) + ((ft (i).toNatClampNeg) &&& (255 : Int32)))).toUInt32 >>> (((8 : Int32)) &&& 31).toUInt32).toInt32)).toInt64) + (g (i).toNatClampNeg))), .second]) rfl ?_
      show Steps p.tables e below (T0.setTop (mkF m 62 #[.val (.ref bm), .val r1, .val (.ref bt), .val (.ref aq), .val (.int p4), .val (.int p5), .val r6, .val (.int i), .val (.int (((fm (i).toNatClampNeg) &&& (255 : Int32)) + ((ft (i).toNatClampNeg) &&& (255 : Int32)))), .val (.long (((((((((fm (i).toNatClampNeg) &&& (255 : Int32)) + ((ft (i).toNatClampNeg) &&& (255 : Int32)))).toUInt32 >>> (((8 : Int32)) &&& 31).toUInt32).toInt32)).toInt64) + (g (i).toNatClampNeg))), .second] [])) _
      exact k
    exact pre6
theorem d2_62 : decode prog_2_method_5_code 62 = .ok (.aload_n 0, 1) := by decide +kernel
theorem d2_63 : decode prog_2_method_5_code 63 = .ok (.iload 7, 2) := by decide +kernel
theorem d2_65 : decode prog_2_method_5_code 65 = .ok (.iload 8, 2) := by decide +kernel
theorem d2_67 : decode prog_2_method_5_code 67 = .ok (.i2b, 1) := by decide +kernel
theorem d2_68 : decode prog_2_method_5_code 68 = .ok (.bastore, 1) := by decide +kernel
theorem d2_69 : decode prog_2_method_5_code 69 = .ok (.lload 9, 2) := by decide +kernel
theorem d2_71 : decode prog_2_method_5_code 71 = .ok (.lconst 0, 1) := by decide +kernel
theorem d2_72 : decode prog_2_method_5_code 72 = .ok (.lcmp, 1) := by decide +kernel
theorem d2_73 : decode prog_2_method_5_code 73 = .ok (.ifCond .le 30, 3) := by decide +kernel
theorem d2_76 : decode prog_2_method_5_code 76 = .ok (.aload 6, 2) := by decide +kernel
theorem d2_78 : decode prog_2_method_5_code 78 = .ok (.ifnull 8, 3) := by decide +kernel
theorem d2_86 : decode prog_2_method_5_code 86 = .ok (.sipush 1999, 3) := by decide +kernel
theorem d2_89 : decode prog_2_method_5_code 89 = .ok (.newarray .long, 2) := by decide +kernel
theorem d2_91 : decode prog_2_method_5_code 91 = .ok (.astore 6, 2) := by decide +kernel
theorem d2_93 : decode prog_2_method_5_code 93 = .ok (.aload 6, 2) := by decide +kernel
theorem d2_95 : decode prog_2_method_5_code 95 = .ok (.iload 7, 2) := by decide +kernel
theorem d2_97 : decode prog_2_method_5_code 97 = .ok (.dup2, 1) := by decide +kernel
theorem d2_98 : decode prog_2_method_5_code 98 = .ok (.laload, 1) := by decide +kernel
theorem d2_99 : decode prog_2_method_5_code 99 = .ok (.lload 9, 2) := by decide +kernel
theorem d2_101 : decode prog_2_method_5_code 101 = .ok (.ladd, 1) := by decide +kernel
theorem d2_102 : decode prog_2_method_5_code 102 = .ok (.lastore, 1) := by decide +kernel
theorem d2_103 : decode prog_2_method_5_code 103 = .ok (.iinc 7 1, 3) := by decide +kernel
theorem d2_106 : decode prog_2_method_5_code 106 = .ok (.goto (-95), 3) := by decide +kernel
set_option maxRecDepth 65536 in
set_option maxHeartbeats 40000000 in
theorem tm2n {p : Program} {l : Launch} {e : Env} {s : State} {m : MethodId} {args : Array Value} {below : List Frame} {meth : Method} {c : Code} {T0 : State} {locs : List Loc} {Z : State} {a0 : Array Value} {h0 : Heap} {n0 : Nat}  {bm bt : Addr} {r1 q : Value} {p4 p5 i sv : Int32} {cy : Int64} {km : ClassId} {fm : Nat → Int32}
    (X0 : Stand p l e ({ frames := 0, cells := 1, slots := 1999, locals := 0 } : Room) s m args below meth c T0 locs 0 0) (hx : p.tables.exec = Jvm.exec) (hZ : Z.Warmed39 s.vm) (hw : ∀ d ∈ tables_1, d.before a0 Z = true) (hby : c.code = prog_2_method_5_code) (hml : c.maxLocals = 11) (hown : s.vm.findClass "com/example/lanescan/lanescan/Distribution" = some m.cls) (e0 : T0.heap = h0) (N0 : Fr n0 locs) (Z0 : n0 ≤ h0.size) (hr1 : r1.isRef = true) (hqr : q.isRef = true) (hj : ¬ i < 0 ∧ i < (1999 : Int32)) (Am : BA Z h0 bm km fm) (g_bm : n0 ≤ bm) :
    ∃ (T' : State) (h' : Heap) (locs' : List Loc), T'.heap = h' ∧ Fr n0 locs' ∧ Keep h0 h' [bm] ∧ BA Z h' bm km (own_u fm i (nar .byte (sv.toInt8.toInt32))) ∧ ((¬ (0 : Int64) < cy ∧ Stand p l e ({ frames := 0, cells := 1, slots := 1999, locals := 0 } : Room) s m args below meth c T' locs'  0 0 ∧ Go p e below (T0.setTop (mkF m 62 #[.val (.ref bm), .val r1, .val (.ref bt), .val q, .val (.int p4), .val (.int p5), .val .null, .val (.int i), .val (.int sv), .val (.long cy), .second] [])) (T'.setTop (mkF m 11 #[.val (.ref bm), .val r1, .val (.ref bt), .val q, .val (.int p4), .val (.int p5), .val .null, .val (.int (i + (1 : Int32))), .val (.int sv), .val (.long cy), .second] []))) ∨ ((0 : Int64) < cy ∧ ∃ a k, h0.size ≤ a ∧ LA Z h' a k (own_u own_z64 i (own_z64 (i).toNatClampNeg + cy)) ∧ Stand p l e ({ frames := 0, cells := 1, slots := 1999, locals := 0 } : Room) s m args below meth c T' locs'  1 1999 ∧ Go p e below (T0.setTop (mkF m 62 #[.val (.ref bm), .val r1, .val (.ref bt), .val q, .val (.int p4), .val (.int p5), .val .null, .val (.int i), .val (.int sv), .val (.long cy), .second] [])) (T'.setTop (mkF m 11 #[.val (.ref bm), .val r1, .val (.ref bt), .val q, .val (.int p4), .val (.int p5), .val (.ref a), .val (.int (i + (1 : Int32))), .val (.int sv), .val (.long cy), .second] [])))) := by
  have pre0 : Go p e below (T0.setTop (mkF m 62 #[.val (.ref bm), .val r1, .val (.ref bt), .val q, .val (.int p4), .val (.int p5), .val .null, .val (.int i), .val (.int sv), .val (.long cy), .second] [])) (T0.setTop (mkF m 62 #[.val (.ref bm), .val r1, .val (.ref bt), .val q, .val (.int p4), .val (.int p5), .val .null, .val (.int i), .val (.int sv), .val (.long cy), .second] [])) := fun t k => k
  have pre1 : Go p e below (T0.setTop (mkF m 62 #[.val (.ref bm), .val r1, .val (.ref bt), .val q, .val (.int p4), .val (.int p5), .val .null, .val (.int i), .val (.int sv), .val (.long cy), .second] [])) (T0.setTop (mkF m 68 #[.val (.ref bm), .val r1, .val (.ref bt), .val q, .val (.int p4), .val (.int p5), .val .null, .val (.int i), .val (.int sv), .val (.long cy), .second] [(.int ((sv).toInt8.toInt32)), (.int i), (.ref bm)])) := by
    intro t k
    refine pre0 t ?_
    show Steps p.tables e below (T0.setTop (mkF m 62 #[.val (.ref bm), .val r1, .val (.ref bt), .val q, .val (.int p4), .val (.int p5), .val .null, .val (.int i), .val (.int sv), .val (.long cy), .second] [])) _
    refine XS.aloadN X0.here hx rfl (hb hby d2_62) rfl rfl ?_
    show Steps p.tables e below (T0.setTop (mkF m 63 #[.val (.ref bm), .val r1, .val (.ref bt), .val q, .val (.int p4), .val (.int p5), .val .null, .val (.int i), .val (.int sv), .val (.long cy), .second] [(.ref bm)])) _
    refine XS.iload X0.here hx rfl (hb hby d2_63) rfl ?_
    show Steps p.tables e below (T0.setTop (mkF m 65 #[.val (.ref bm), .val r1, .val (.ref bt), .val q, .val (.int p4), .val (.int p5), .val .null, .val (.int i), .val (.int sv), .val (.long cy), .second] [(.int i), (.ref bm)])) _
    refine XS.iload X0.here hx rfl (hb hby d2_65) rfl ?_
    show Steps p.tables e below (T0.setTop (mkF m 67 #[.val (.ref bm), .val r1, .val (.ref bt), .val q, .val (.int p4), .val (.int p5), .val .null, .val (.int i), .val (.int sv), .val (.long cy), .second] [(.int sv), (.int i), (.ref bm)])) _
    refine XS.i2b X0.here hx rfl (hb hby d2_67) rfl ?_
    show Steps p.tables e below (T0.setTop (mkF m 68 #[.val (.ref bm), .val r1, .val (.ref bt), .val q, .val (.int p4), .val (.int p5), .val .null, .val (.int i), .val (.int sv), .val (.long cy), .second] [(.int ((sv).toInt8.toInt32)), (.int i), (.ref bm)])) _
    exact k
  obtain ⟨cl2, Ar2, SS2, NN2, -⟩ := Am.cell
  have hj2 : ¬ i < 0 ∧ i < (1999 : Int32) := hj
  obtain ⟨T2, h2, X2, e2, W2, st2⟩ := stB X0 hx hZ e0 Ar2 (j := i) (inb_of SS2 hj2) (g := (mkF m 68 #[.val (.ref bm), .val r1, .val (.ref bt), .val q, .val (.int p4), .val (.int p5), .val .null, .val (.int i), .val (.int sv), .val (.long cy), .second] [(.int ((sv).toInt8.toInt32)), (.int i), (.ref bm)])) rfl rfl (hb hby d2_68)
  have AV2 : Arf Z h2 bm km .byte (1999 : Int32) (fun i_ => .int (own_u fm i (nar .byte (sv.toInt8.toInt32)) i_)) := (Am.set (fits_nar_byte _) W2 hj2).as (fun i_ _ => own_as32 _ _ _ _)
  have zz3 := (Nat.le_trans Z0 (Keep.of_wr W2).1)
  have K4 := (Keep.refl h0 [bm]).wr W2 (Or.inl (List.mem_singleton.mpr rfl))
  have N2 := Fr.snoc X2 N0 g_bm
  have pre5 : Go p e below (T0.setTop (mkF m 62 #[.val (.ref bm), .val r1, .val (.ref bt), .val q, .val (.int p4), .val (.int p5), .val .null, .val (.int i), .val (.int sv), .val (.long cy), .second] [])) (T2.setTop (mkF m 69 #[.val (.ref bm), .val r1, .val (.ref bt), .val q, .val (.int p4), .val (.int p5), .val .null, .val (.int i), .val (.int sv), .val (.long cy), .second] [])) := fun t k => pre1 t (st2 t k)
  have pre6 : Go p e below (T0.setTop (mkF m 62 #[.val (.ref bm), .val r1, .val (.ref bt), .val q, .val (.int p4), .val (.int p5), .val .null, .val (.int i), .val (.int sv), .val (.long cy), .second] [])) (T2.setTop (mkF m 73 #[.val (.ref bm), .val r1, .val (.ref bt), .val q, .val (.int p4), .val (.int p5), .val .null, .val (.int i), .val (.int sv), .val (.long cy), .second] [(.int (XT.cmpL cy (0 : Int64)))])) := by
    intro t k
    refine pre5 t ?_
    show Steps p.tables e below (T2.setTop (mkF m 69 #[.val (.ref bm), .val r1, .val (.ref bt), .val q, .val (.int p4), .val (.int p5), .val .null, .val (.int i), .val (.int sv), .val (.long cy), .second] [])) _
    refine XT.lload X2.here hx rfl (hb hby d2_69) rfl ?_
    show Steps p.tables e below (T2.setTop (mkF m 71 #[.val (.ref bm), .val r1, .val (.ref bt), .val q, .val (.int p4), .val (.int p5), .val .null, .val (.int i), .val (.int sv), .val (.long cy), .second] [(.long cy)])) _
    refine XT.lconstV X2.here hx rfl (0 : Int64) (hb hby d2_71) rfl ?_
    show Steps p.tables e below (T2.setTop (mkF m 72 #[.val (.ref bm), .val r1, .val (.ref bt), .val q, .val (.int p4), .val (.int p5), .val .null, .val (.int i), .val (.int sv), .val (.long cy), .second] [(.long (0 : Int64)), (.long cy)])) _
    refine XT.lcmp X2.here hx rfl (hb hby d2_72) rfl ?_
    show Steps p.tables e below (T2.setTop (mkF m 73 #[.val (.ref bm), .val r1, .val (.ref bt), .val q, .val (.int p4), .val (.int p5), .val .null, .val (.int i), .val (.int sv), .val (.long cy), .second] [(.int (XT.cmpL cy (0 : Int64)))])) _
    exact k
  by_cases hc73_7 : (0 : Int64) < cy
  · skip
    have pre8 : Go p e below (T0.setTop (mkF m 62 #[.val (.ref bm), .val r1, .val (.ref bt), .val q, .val (.int p4), .val (.int p5), .val .null, .val (.int i), .val (.int sv), .val (.long cy), .second] [])) (T2.setTop (mkF m 89 #[.val (.ref bm), .val r1, .val (.ref bt), .val q, .val (.int p4), .val (.int p5), .val .null, .val (.int i), .val (.int sv), .val (.long cy), .second] [(.int (1999 : Int32))])) := by
      intro t k
      refine pre6 t ?_
      show Steps p.tables e below (T2.setTop (mkF m 73 #[.val (.ref bm), .val r1, .val (.ref bt), .val q, .val (.int p4), .val (.int p5), .val .null, .val (.int i), .val (.int sv), .val (.long cy), .second] [(.int (XT.cmpL cy (0 : Int64)))])) _
      refine XS.ifNo X2.here hx rfl (hb hby d2_73) rfl (XT.ll_le_f hc73_7) ?_
      show Steps p.tables e below (T2.setTop (mkF m 76 #[.val (.ref bm), .val r1, .val (.ref bt), .val q, .val (.int p4), .val (.int p5), .val .null, .val (.int i), .val (.int sv), .val (.long cy), .second] [])) _
      refine XS.aload X2.here hx rfl (hb hby d2_76) rfl rfl ?_
      show Steps p.tables e below (T2.setTop (mkF m 78 #[.val (.ref bm), .val r1, .val (.ref bt), .val q, .val (.int p4), .val (.int p5), .val .null, .val (.int i), .val (.int sv), .val (.long cy), .second] [.null])) _
      refine XS.ifnullYes X2.here hx rfl (pc0 := 78) (pc' := 86) rfl (hb hby d2_78) rfl (by decide) (by decide) ?_
      show Steps p.tables e below (T2.setTop (mkF m 86 #[.val (.ref bm), .val r1, .val (.ref bt), .val q, .val (.int p4), .val (.int p5), .val .null, .val (.int i), .val (.int sv), .val (.long cy), .second] [])) _
      refine XS.sipush X2.here hx rfl (hb hby d2_86) ?_
      show Steps p.tables e below (T2.setTop (mkF m 89 #[.val (.ref bm), .val r1, .val (.ref bt), .val q, .val (.int p4), .val (.int p5), .val .null, .val (.int i), .val (.int sv), .val (.long cy), .second] [(.int (1999 : Int32))])) _
      exact k
    obtain ⟨T9, h9, k9, X9, e9, E9, A9, st9⟩ := newP X2 hx hZ (hw _ (List.mem_of_getElem? (i := 14) rfl)) e2 (g := (mkF m 89 #[.val (.ref bm), .val r1, .val (.ref bt), .val q, .val (.int p4), .val (.int p5), .val .null, .val (.int i), .val (.int sv), .val (.long cy), .second] [(.int (1999 : Int32))])) rfl (hb hby d2_89) rfl (by decide) (cap := 1999) (by decide) (by decide) (by decide) (by decide)
    obtain ⟨an, g9⟩ : ∃ z, z = h2.size := ⟨_, rfl⟩
    rw [← g9] at A9 st9
    have c10_9 := AV2.ext E9
    have zz11 := (Nat.le_trans zz3 E9.1)
    have K12 := K4.ext E9
    have AV_an : Arf Z h9 an k9 .long (1999 : Int32) (fun i_ => .long (own_z64 i_)) := (Arf.new A9 (by decide)).as (fun _ _ => rfl)
    have g_an : n0 ≤ an := Nat.le_trans zz3 (Nat.le_of_eq g9.symm)
    have sz_an : h0.size ≤ an := Nat.le_trans K4.1 (Nat.le_of_eq g9.symm)
    have ne_bm_an : bm ≠ an := Nat.ne_of_lt (Nat.lt_of_lt_of_le AV2.lt (Nat.le_of_eq g9.symm))
    have pre13 : Go p e below (T0.setTop (mkF m 62 #[.val (.ref bm), .val r1, .val (.ref bt), .val q, .val (.int p4), .val (.int p5), .val .null, .val (.int i), .val (.int sv), .val (.long cy), .second] [])) (T9.setTop (mkF m 91 #[.val (.ref bm), .val r1, .val (.ref bt), .val q, .val (.int p4), .val (.int p5), .val .null, .val (.int i), .val (.int sv), .val (.long cy), .second] [(.ref an)])) := fun t k => pre8 t (st9 t k)
    obtain ⟨cl14, Ar14, SS14, NN14, HH14⟩ := AV_an.cell
    have hj14 : ¬ i < 0 ∧ i < (1999 : Int32) := hj
    have hat14 : cl14.slots[(i).toNatClampNeg]? = some (.long (own_z64 (i).toNatClampNeg)) := (HH14 _ (own_lt hj14)).trans (congrArg some rfl)
    have pre15 : Go p e below (T0.setTop (mkF m 62 #[.val (.ref bm), .val r1, .val (.ref bt), .val q, .val (.int p4), .val (.int p5), .val .null, .val (.int i), .val (.int sv), .val (.long cy), .second] [])) (T9.setTop (mkF m 102 #[.val (.ref bm), .val r1, .val (.ref bt), .val q, .val (.int p4), .val (.int p5), .val (.ref an), .val (.int i), .val (.int sv), .val (.long cy), .second] [(.long ((own_z64 (i).toNatClampNeg) + cy)), (.int i), (.ref an)])) := by
      intro t k
      refine pre13 t ?_
      show Steps p.tables e below (T9.setTop (mkF m 91 #[.val (.ref bm), .val r1, .val (.ref bt), .val q, .val (.int p4), .val (.int p5), .val .null, .val (.int i), .val (.int sv), .val (.long cy), .second] [(.ref an)])) _
      refine XS.astore X9.here hx rfl (hb hby d2_91) rfl rfl (l' := #[.val (.ref bm), .val r1, .val (.ref bt), .val q, .val (.int p4), .val (.int p5), .val (.ref an), .val (.int i), .val (.int sv), .val (.long cy), .second]) rfl ?_
      show Steps p.tables e below (T9.setTop (mkF m 93 #[.val (.ref bm), .val r1, .val (.ref bt), .val q, .val (.int p4), .val (.int p5), .val (.ref an), .val (.int i), .val (.int sv), .val (.long cy), .second] [])) _
      refine XS.aload X9.here hx rfl (hb hby d2_93) rfl rfl ?_
      show Steps p.tables e below (T9.setTop (mkF m 95 #[.val (.ref bm), .val r1, .val (.ref bt), .val q, .val (.int p4), .val (.int p5), .val (.ref an), .val (.int i), .val (.int sv), .val (.long cy), .second] [(.ref an)])) _
      refine XS.iload X9.here hx rfl (hb hby d2_95) rfl ?_
      show Steps p.tables e below (T9.setTop (mkF m 97 #[.val (.ref bm), .val r1, .val (.ref bt), .val q, .val (.int p4), .val (.int p5), .val (.ref an), .val (.int i), .val (.int sv), .val (.long cy), .second] [(.int i), (.ref an)])) _
      refine XT.dup2 X9.here hx rfl (hb hby d2_97) rfl rfl rfl ?_
      show Steps p.tables e below (T9.setTop (mkF m 98 #[.val (.ref bm), .val r1, .val (.ref bt), .val q, .val (.int p4), .val (.int p5), .val (.ref an), .val (.int i), .val (.int sv), .val (.long cy), .second] [(.int i), (.ref an), (.int i), (.ref an)])) _
      refine X9.laload hx (j := i) (v := (.long (own_z64 (i).toNatClampNeg))) (by rw [e9]; exact Ar14.1) (State.isArrayOf_alike hZ.alike Ar14.2.1) Ar14.2.2 (inb_of SS14 hj14) hat14 (g := (mkF m 98 #[.val (.ref bm), .val r1, .val (.ref bt), .val q, .val (.int p4), .val (.int p5), .val (.ref an), .val (.int i), .val (.int sv), .val (.long cy), .second] [(.int i), (.ref an), (.int i), (.ref an)])) rfl rfl (hb hby d2_98) _ ?_
      show Steps p.tables e below (T9.setTop (mkF m 99 #[.val (.ref bm), .val r1, .val (.ref bt), .val q, .val (.int p4), .val (.int p5), .val (.ref an), .val (.int i), .val (.int sv), .val (.long cy), .second] [(.long (own_z64 (i).toNatClampNeg)), (.int i), (.ref an)])) _
      refine XT.lload X9.here hx rfl (hb hby d2_99) rfl ?_
      show Steps p.tables e below (T9.setTop (mkF m 101 #[.val (.ref bm), .val r1, .val (.ref bt), .val q, .val (.int p4), .val (.int p5), .val (.ref an), .val (.int i), .val (.int sv), .val (.long cy), .second] [(.long cy), (.long (own_z64 (i).toNatClampNeg)), (.int i), (.ref an)])) _
      refine XS.ladd X9.here hx rfl (hb hby d2_101) rfl ?_
      show Steps p.tables e below (T9.setTop (mkF m 102 #[.val (.ref bm), .val r1, .val (.ref bt), .val q, .val (.int p4), .val (.int p5), .val (.ref an), .val (.int i), .val (.int sv), .val (.long cy), .second] [(.long ((own_z64 (i).toNatClampNeg) + cy)), (.int i), (.ref an)])) _
      exact k
    obtain ⟨cl16, Ar16, SS16, NN16, -⟩ := AV_an.cell
    have hj16 : ¬ i < 0 ∧ i < (1999 : Int32) := hj
    obtain ⟨T16, h16, X16, e16, W16, st16⟩ := stJ X9 hx hZ e9 Ar16 (j := i) (inb_of SS16 hj16) (g := (mkF m 102 #[.val (.ref bm), .val r1, .val (.ref bt), .val q, .val (.int p4), .val (.int p5), .val (.ref an), .val (.int i), .val (.int sv), .val (.long cy), .second] [(.long ((own_z64 (i).toNatClampNeg) + cy)), (.int i), (.ref an)])) rfl rfl (hb hby d2_102)
    have AV16 : Arf Z h16 an k9 .long (1999 : Int32) (fun i_ => .long (own_u own_z64 i (own_z64 (i).toNatClampNeg + cy) i_)) := (AV_an.set rfl W16 hj16).as (fun i_ _ => own_as64 _ _ _ _)
    have c17_16 := c10_9.other W16 ne_bm_an
    have zz18 := (Nat.le_trans zz11 (Keep.of_wr W16).1)
    have K19 := K12.wr W16 (Or.inr sz_an)
    have N16 := Fr.snoc X16 N2 g_an
    have pre20 : Go p e below (T0.setTop (mkF m 62 #[.val (.ref bm), .val r1, .val (.ref bt), .val q, .val (.int p4), .val (.int p5), .val .null, .val (.int i), .val (.int sv), .val (.long cy), .second] [])) (T16.setTop (mkF m 103 #[.val (.ref bm), .val r1, .val (.ref bt), .val q, .val (.int p4), .val (.int p5), .val (.ref an), .val (.int i), .val (.int sv), .val (.long cy), .second] [])) := fun t k => pre15 t (st16 t k)
    have pre21 : Go p e below (T0.setTop (mkF m 62 #[.val (.ref bm), .val r1, .val (.ref bt), .val q, .val (.int p4), .val (.int p5), .val .null, .val (.int i), .val (.int sv), .val (.long cy), .second] [])) (T16.setTop (mkF m 11 #[.val (.ref bm), .val r1, .val (.ref bt), .val q, .val (.int p4), .val (.int p5), .val (.ref an), .val (.int (i + (1 : Int32))), .val (.int sv), .val (.long cy), .second] [])) := by
      intro t k
      refine pre20 t ?_
      show Steps p.tables e below (T16.setTop (mkF m 103 #[.val (.ref bm), .val r1, .val (.ref bt), .val q, .val (.int p4), .val (.int p5), .val (.ref an), .val (.int i), .val (.int sv), .val (.long cy), .second] [])) _
      refine XS.iinc X16.here hx rfl (hb hby d2_103) rfl (l' := #[.val (.ref bm), .val r1, .val (.ref bt), .val q, .val (.int p4), .val (.int p5), .val (.ref an), .val (.int (i + (1 : Int32))), .val (.int sv), .val (.long cy), .second]) rfl ?_
      show Steps p.tables e below (T16.setTop (mkF m 106 #[.val (.ref bm), .val r1, .val (.ref bt), .val q, .val (.int p4), .val (.int p5), .val (.ref an), .val (.int (i + (1 : Int32))), .val (.int sv), .val (.long cy), .second] [])) _
      refine XS.goto X16.here hx rfl (pc0 := 106) (pc' := 11) rfl (hb hby d2_106) (by decide) (by decide) ?_
      show Steps p.tables e below (T16.setTop (mkF m 11 #[.val (.ref bm), .val r1, .val (.ref bt), .val q, .val (.int p4), .val (.int p5), .val (.ref an), .val (.int (i + (1 : Int32))), .val (.int sv), .val (.long cy), .second] [])) _
      exact k
    exact ⟨T16, h16, _, e16, N16, K19, c17_16, Or.inr ⟨hc73_7, an, k9, sz_an, AV16, X16, pre21⟩⟩
  · skip
    have pre22 : Go p e below (T0.setTop (mkF m 62 #[.val (.ref bm), .val r1, .val (.ref bt), .val q, .val (.int p4), .val (.int p5), .val .null, .val (.int i), .val (.int sv), .val (.long cy), .second] [])) (T2.setTop (mkF m 11 #[.val (.ref bm), .val r1, .val (.ref bt), .val q, .val (.int p4), .val (.int p5), .val .null, .val (.int (i + (1 : Int32))), .val (.int sv), .val (.long cy), .second] [])) := by
      intro t k
      refine pre6 t ?_
      show Steps p.tables e below (T2.setTop (mkF m 73 #[.val (.ref bm), .val r1, .val (.ref bt), .val q, .val (.int p4), .val (.int p5), .val .null, .val (.int i), .val (.int sv), .val (.long cy), .second] [(.int (XT.cmpL cy (0 : Int64)))])) _
      refine XS.ifYes X2.here hx rfl (pc0 := 73) (pc' := 103) rfl (hb hby d2_73) rfl (XT.ll_le_t hc73_7) (by decide) (by decide) ?_
      show Steps p.tables e below (T2.setTop (mkF m 103 #[.val (.ref bm), .val r1, .val (.ref bt), .val q, .val (.int p4), .val (.int p5), .val .null, .val (.int i), .val (.int sv), .val (.long cy), .second] [])) _
      refine XS.iinc X2.here hx rfl (hb hby d2_103) rfl (l' := #[.val (.ref bm), .val r1, .val (.ref bt), .val q, .val (.int p4), .val (.int p5), .val .null, .val (.int (i + (1 : Int32))), .val (.int sv), .val (.long cy), .second]) rfl ?_
      show Steps p.tables e below (T2.setTop (mkF m 106 #[.val (.ref bm), .val r1, .val (.ref bt), .val q, .val (.int p4), .val (.int p5), .val .null, .val (.int (i + (1 : Int32))), .val (.int sv), .val (.long cy), .second] [])) _
      refine XS.goto X2.here hx rfl (pc0 := 106) (pc' := 11) rfl (hb hby d2_106) (by decide) (by decide) ?_
      show Steps p.tables e below (T2.setTop (mkF m 11 #[.val (.ref bm), .val r1, .val (.ref bt), .val q, .val (.int p4), .val (.int p5), .val .null, .val (.int (i + (1 : Int32))), .val (.int sv), .val (.long cy), .second] [])) _
      exact k
    exact ⟨T2, h2, _, e2, N2, K4, AV2, Or.inl ⟨hc73_7, X2, pre22⟩⟩
theorem d2_81 : decode prog_2_method_5_code 81 = .ok (.aload 6, 2) := by decide +kernel
theorem d2_83 : decode prog_2_method_5_code 83 = .ok (.goto 8, 3) := by decide +kernel
set_option maxRecDepth 65536 in
set_option maxHeartbeats 40000000 in
theorem tm2r {p : Program} {l : Launch} {e : Env} {s : State} {m : MethodId} {args : Array Value} {below : List Frame} {meth : Method} {c : Code} {T0 : State} {locs : List Loc} {Z : State} {a0 : Array Value} {h0 : Heap} {n0 : Nat}  {bm bt a6 : Addr} {r1 q : Value} {p4 p5 i sv : Int32} {cy : Int64} {km k6 : ClassId} {fm : Nat → Int32} {f : Nat → Int64}
    (X0 : Stand p l e ({ frames := 0, cells := 1, slots := 1999, locals := 0 } : Room) s m args below meth c T0 locs 1 1999) (hx : p.tables.exec = Jvm.exec) (hZ : Z.Warmed39 s.vm) (hw : ∀ d ∈ tables_1, d.before a0 Z = true) (hby : c.code = prog_2_method_5_code) (hml : c.maxLocals = 11) (hown : s.vm.findClass "com/example/lanescan/lanescan/Distribution" = some m.cls) (e0 : T0.heap = h0) (N0 : Fr n0 locs) (Z0 : n0 ≤ h0.size) (hr1 : r1.isRef = true) (hqr : q.isRef = true) (hj : ¬ i < 0 ∧ i < (1999 : Int32)) (Am : BA Z h0 bm km fm) (g_bm : n0 ≤ bm) (A6 : LA Z h0 a6 k6 f) (g_a6 : n0 ≤ a6) (ne_a6_bm : a6 ≠ bm) (hcy0 : ¬ (0 : Int64) < cy → cy = 0) :
    ∃ (T' : State) (h' : Heap) (locs' : List Loc), Stand p l e ({ frames := 0, cells := 1, slots := 1999, locals := 0 } : Room) s m args below meth c T' locs'  1 1999 ∧ T'.heap = h' ∧ Fr n0 locs' ∧ Keep h0 h' [bm, a6] ∧ BA Z h' bm km (own_u fm i (nar .byte (sv.toInt8.toInt32))) ∧ LA Z h' a6 k6 (own_u f i (f (i).toNatClampNeg + cy)) ∧ Go p e below (T0.setTop (mkF m 62 #[.val (.ref bm), .val r1, .val (.ref bt), .val q, .val (.int p4), .val (.int p5), .val (.ref a6), .val (.int i), .val (.int sv), .val (.long cy), .second] [])) (T'.setTop (mkF m 11 #[.val (.ref bm), .val r1, .val (.ref bt), .val q, .val (.int p4), .val (.int p5), .val (.ref a6), .val (.int (i + (1 : Int32))), .val (.int sv), .val (.long cy), .second] [])) := by
  have pre0 : Go p e below (T0.setTop (mkF m 62 #[.val (.ref bm), .val r1, .val (.ref bt), .val q, .val (.int p4), .val (.int p5), .val (.ref a6), .val (.int i), .val (.int sv), .val (.long cy), .second] [])) (T0.setTop (mkF m 62 #[.val (.ref bm), .val r1, .val (.ref bt), .val q, .val (.int p4), .val (.int p5), .val (.ref a6), .val (.int i), .val (.int sv), .val (.long cy), .second] [])) := fun t k => k
  have pre1 : Go p e below (T0.setTop (mkF m 62 #[.val (.ref bm), .val r1, .val (.ref bt), .val q, .val (.int p4), .val (.int p5), .val (.ref a6), .val (.int i), .val (.int sv), .val (.long cy), .second] [])) (T0.setTop (mkF m 68 #[.val (.ref bm), .val r1, .val (.ref bt), .val q, .val (.int p4), .val (.int p5), .val (.ref a6), .val (.int i), .val (.int sv), .val (.long cy), .second] [(.int ((sv).toInt8.toInt32)), (.int i), (.ref bm)])) := by
    intro t k
    refine pre0 t ?_
    show Steps p.tables e below (T0.setTop (mkF m 62 #[.val (.ref bm), .val r1, .val (.ref bt), .val q, .val (.int p4), .val (.int p5), .val (.ref a6), .val (.int i), .val (.int sv), .val (.long cy), .second] [])) _
    refine XS.aloadN X0.here hx rfl (hb hby d2_62) rfl rfl ?_
    show Steps p.tables e below (T0.setTop (mkF m 63 #[.val (.ref bm), .val r1, .val (.ref bt), .val q, .val (.int p4), .val (.int p5), .val (.ref a6), .val (.int i), .val (.int sv), .val (.long cy), .second] [(.ref bm)])) _
    refine XS.iload X0.here hx rfl (hb hby d2_63) rfl ?_
    show Steps p.tables e below (T0.setTop (mkF m 65 #[.val (.ref bm), .val r1, .val (.ref bt), .val q, .val (.int p4), .val (.int p5), .val (.ref a6), .val (.int i), .val (.int sv), .val (.long cy), .second] [(.int i), (.ref bm)])) _
    refine XS.iload X0.here hx rfl (hb hby d2_65) rfl ?_
    show Steps p.tables e below (T0.setTop (mkF m 67 #[.val (.ref bm), .val r1, .val (.ref bt), .val q, .val (.int p4), .val (.int p5), .val (.ref a6), .val (.int i), .val (.int sv), .val (.long cy), .second] [(.int sv), (.int i), (.ref bm)])) _
    refine XS.i2b X0.here hx rfl (hb hby d2_67) rfl ?_
    show Steps p.tables e below (T0.setTop (mkF m 68 #[.val (.ref bm), .val r1, .val (.ref bt), .val q, .val (.int p4), .val (.int p5), .val (.ref a6), .val (.int i), .val (.int sv), .val (.long cy), .second] [(.int ((sv).toInt8.toInt32)), (.int i), (.ref bm)])) _
    exact k
  obtain ⟨cl2, Ar2, SS2, NN2, -⟩ := Am.cell
  have hj2 : ¬ i < 0 ∧ i < (1999 : Int32) := hj
  obtain ⟨T2, h2, X2, e2, W2, st2⟩ := stB X0 hx hZ e0 Ar2 (j := i) (inb_of SS2 hj2) (g := (mkF m 68 #[.val (.ref bm), .val r1, .val (.ref bt), .val q, .val (.int p4), .val (.int p5), .val (.ref a6), .val (.int i), .val (.int sv), .val (.long cy), .second] [(.int ((sv).toInt8.toInt32)), (.int i), (.ref bm)])) rfl rfl (hb hby d2_68)
  have AV2 : Arf Z h2 bm km .byte (1999 : Int32) (fun i_ => .int (own_u fm i (nar .byte (sv.toInt8.toInt32)) i_)) := (Am.set (fits_nar_byte _) W2 hj2).as (fun i_ _ => own_as32 _ _ _ _)
  have c3_2 := A6.other W2 ne_a6_bm
  have zz4 := (Nat.le_trans Z0 (Keep.of_wr W2).1)
  have K5 := (Keep.refl h0 [bm, a6]).wr W2 (Or.inl (List.mem_cons_self ..))
  have N2 := Fr.snoc X2 N0 g_bm
  have pre6 : Go p e below (T0.setTop (mkF m 62 #[.val (.ref bm), .val r1, .val (.ref bt), .val q, .val (.int p4), .val (.int p5), .val (.ref a6), .val (.int i), .val (.int sv), .val (.long cy), .second] [])) (T2.setTop (mkF m 69 #[.val (.ref bm), .val r1, .val (.ref bt), .val q, .val (.int p4), .val (.int p5), .val (.ref a6), .val (.int i), .val (.int sv), .val (.long cy), .second] [])) := fun t k => pre1 t (st2 t k)
  have pre7 : Go p e below (T0.setTop (mkF m 62 #[.val (.ref bm), .val r1, .val (.ref bt), .val q, .val (.int p4), .val (.int p5), .val (.ref a6), .val (.int i), .val (.int sv), .val (.long cy), .second] [])) (T2.setTop (mkF m 73 #[.val (.ref bm), .val r1, .val (.ref bt), .val q, .val (.int p4), .val (.int p5), .val (.ref a6), .val (.int i), .val (.int sv), .val (.long cy), .second] [(.int (XT.cmpL cy (0 : Int64)))])) := by
    intro t k
    refine pre6 t ?_
    show Steps p.tables e below (T2.setTop (mkF m 69 #[.val (.ref bm), .val r1, .val (.ref bt), .val q, .val (.int p4), .val (.int p5), .val (.ref a6), .val (.int i), .val (.int sv), .val (.long cy), .second] [])) _
    refine XT.lload X2.here hx rfl (hb hby d2_69) rfl ?_
    show Steps p.tables e below (T2.setTop (mkF m 71 #[.val (.ref bm), .val r1, .val (.ref bt), .val q, .val (.int p4), .val (.int p5), .val (.ref a6), .val (.int i), .val (.int sv), .val (.long cy), .second] [(.long cy)])) _
    refine XT.lconstV X2.here hx rfl (0 : Int64) (hb hby d2_71) rfl ?_
    show Steps p.tables e below (T2.setTop (mkF m 72 #[.val (.ref bm), .val r1, .val (.ref bt), .val q, .val (.int p4), .val (.int p5), .val (.ref a6), .val (.int i), .val (.int sv), .val (.long cy), .second] [(.long (0 : Int64)), (.long cy)])) _
    refine XT.lcmp X2.here hx rfl (hb hby d2_72) rfl ?_
    show Steps p.tables e below (T2.setTop (mkF m 73 #[.val (.ref bm), .val r1, .val (.ref bt), .val q, .val (.int p4), .val (.int p5), .val (.ref a6), .val (.int i), .val (.int sv), .val (.long cy), .second] [(.int (XT.cmpL cy (0 : Int64)))])) _
    exact k
  by_cases hc73_8 : (0 : Int64) < cy
  · skip
    obtain ⟨cl9, Ar9, SS9, NN9, HH9⟩ := c3_2.cell
    have hj9 : ¬ i < 0 ∧ i < (1999 : Int32) := hj
    have hat9 : cl9.slots[(i).toNatClampNeg]? = some (.long (f (i).toNatClampNeg)) := (HH9 _ (own_lt hj9)).trans (congrArg some rfl)
    have pre10 : Go p e below (T0.setTop (mkF m 62 #[.val (.ref bm), .val r1, .val (.ref bt), .val q, .val (.int p4), .val (.int p5), .val (.ref a6), .val (.int i), .val (.int sv), .val (.long cy), .second] [])) (T2.setTop (mkF m 102 #[.val (.ref bm), .val r1, .val (.ref bt), .val q, .val (.int p4), .val (.int p5), .val (.ref a6), .val (.int i), .val (.int sv), .val (.long cy), .second] [(.long ((f (i).toNatClampNeg) + cy)), (.int i), (.ref a6)])) := by
      intro t k
      refine pre7 t ?_
      show Steps p.tables e below (T2.setTop (mkF m 73 #[.val (.ref bm), .val r1, .val (.ref bt), .val q, .val (.int p4), .val (.int p5), .val (.ref a6), .val (.int i), .val (.int sv), .val (.long cy), .second] [(.int (XT.cmpL cy (0 : Int64)))])) _
      refine XS.ifNo X2.here hx rfl (hb hby d2_73) rfl (XT.ll_le_f hc73_8) ?_
      show Steps p.tables e below (T2.setTop (mkF m 76 #[.val (.ref bm), .val r1, .val (.ref bt), .val q, .val (.int p4), .val (.int p5), .val (.ref a6), .val (.int i), .val (.int sv), .val (.long cy), .second] [])) _
      refine XS.aload X2.here hx rfl (hb hby d2_76) rfl rfl ?_
      show Steps p.tables e below (T2.setTop (mkF m 78 #[.val (.ref bm), .val r1, .val (.ref bt), .val q, .val (.int p4), .val (.int p5), .val (.ref a6), .val (.int i), .val (.int sv), .val (.long cy), .second] [(.ref a6)])) _
      refine XS.ifnullNo X2.here hx rfl (hb hby d2_78) rfl ?_
      show Steps p.tables e below (T2.setTop (mkF m 81 #[.val (.ref bm), .val r1, .val (.ref bt), .val q, .val (.int p4), .val (.int p5), .val (.ref a6), .val (.int i), .val (.int sv), .val (.long cy), .second] [])) _
      refine XS.aload X2.here hx rfl (hb hby d2_81) rfl rfl ?_
      show Steps p.tables e below (T2.setTop (mkF m 83 #[.val (.ref bm), .val r1, .val (.ref bt), .val q, .val (.int p4), .val (.int p5), .val (.ref a6), .val (.int i), .val (.int sv), .val (.long cy), .second] [(.ref a6)])) _
      refine XS.goto X2.here hx rfl (pc0 := 83) (pc' := 91) rfl (hb hby d2_83) (by decide) (by decide) ?_
      show Steps p.tables e below (T2.setTop (mkF m 91 #[.val (.ref bm), .val r1, .val (.ref bt), .val q, .val (.int p4), .val (.int p5), .val (.ref a6), .val (.int i), .val (.int sv), .val (.long cy), .second] [(.ref a6)])) _
      refine XS.astore X2.here hx rfl (hb hby d2_91) rfl rfl (l' := #[.val (.ref bm), .val r1, .val (.ref bt), .val q, .val (.int p4), .val (.int p5), .val (.ref a6), .val (.int i), .val (.int sv), .val (.long cy), .second]) rfl ?_
      show Steps p.tables e below (T2.setTop (mkF m 93 #[.val (.ref bm), .val r1, .val (.ref bt), .val q, .val (.int p4), .val (.int p5), .val (.ref a6), .val (.int i), .val (.int sv), .val (.long cy), .second] [])) _
      refine XS.aload X2.here hx rfl (hb hby d2_93) rfl rfl ?_
      show Steps p.tables e below (T2.setTop (mkF m 95 #[.val (.ref bm), .val r1, .val (.ref bt), .val q, .val (.int p4), .val (.int p5), .val (.ref a6), .val (.int i), .val (.int sv), .val (.long cy), .second] [(.ref a6)])) _
      refine XS.iload X2.here hx rfl (hb hby d2_95) rfl ?_
      show Steps p.tables e below (T2.setTop (mkF m 97 #[.val (.ref bm), .val r1, .val (.ref bt), .val q, .val (.int p4), .val (.int p5), .val (.ref a6), .val (.int i), .val (.int sv), .val (.long cy), .second] [(.int i), (.ref a6)])) _
      refine XT.dup2 X2.here hx rfl (hb hby d2_97) rfl rfl rfl ?_
      show Steps p.tables e below (T2.setTop (mkF m 98 #[.val (.ref bm), .val r1, .val (.ref bt), .val q, .val (.int p4), .val (.int p5), .val (.ref a6), .val (.int i), .val (.int sv), .val (.long cy), .second] [(.int i), (.ref a6), (.int i), (.ref a6)])) _
      refine X2.laload hx (j := i) (v := (.long (f (i).toNatClampNeg))) (by rw [e2]; exact Ar9.1) (State.isArrayOf_alike hZ.alike Ar9.2.1) Ar9.2.2 (inb_of SS9 hj9) hat9 (g := (mkF m 98 #[.val (.ref bm), .val r1, .val (.ref bt), .val q, .val (.int p4), .val (.int p5), .val (.ref a6), .val (.int i), .val (.int sv), .val (.long cy), .second] [(.int i), (.ref a6), (.int i), (.ref a6)])) rfl rfl (hb hby d2_98) _ ?_
      show Steps p.tables e below (T2.setTop (mkF m 99 #[.val (.ref bm), .val r1, .val (.ref bt), .val q, .val (.int p4), .val (.int p5), .val (.ref a6), .val (.int i), .val (.int sv), .val (.long cy), .second] [(.long (f (i).toNatClampNeg)), (.int i), (.ref a6)])) _
      refine XT.lload X2.here hx rfl (hb hby d2_99) rfl ?_
      show Steps p.tables e below (T2.setTop (mkF m 101 #[.val (.ref bm), .val r1, .val (.ref bt), .val q, .val (.int p4), .val (.int p5), .val (.ref a6), .val (.int i), .val (.int sv), .val (.long cy), .second] [(.long cy), (.long (f (i).toNatClampNeg)), (.int i), (.ref a6)])) _
      refine XS.ladd X2.here hx rfl (hb hby d2_101) rfl ?_
      show Steps p.tables e below (T2.setTop (mkF m 102 #[.val (.ref bm), .val r1, .val (.ref bt), .val q, .val (.int p4), .val (.int p5), .val (.ref a6), .val (.int i), .val (.int sv), .val (.long cy), .second] [(.long ((f (i).toNatClampNeg) + cy)), (.int i), (.ref a6)])) _
      exact k
    obtain ⟨cl11, Ar11, SS11, NN11, -⟩ := c3_2.cell
    have hj11 : ¬ i < 0 ∧ i < (1999 : Int32) := hj
    obtain ⟨T11, h11, X11, e11, W11, st11⟩ := stJ X2 hx hZ e2 Ar11 (j := i) (inb_of SS11 hj11) (g := (mkF m 102 #[.val (.ref bm), .val r1, .val (.ref bt), .val q, .val (.int p4), .val (.int p5), .val (.ref a6), .val (.int i), .val (.int sv), .val (.long cy), .second] [(.long ((f (i).toNatClampNeg) + cy)), (.int i), (.ref a6)])) rfl rfl (hb hby d2_102)
    have AV11 : Arf Z h11 a6 k6 .long (1999 : Int32) (fun i_ => .long (own_u f i (f (i).toNatClampNeg + cy) i_)) := (c3_2.set rfl W11 hj11).as (fun i_ _ => own_as64 _ _ _ _)
    have c12_11 := AV2.other W11 (Ne.symm ne_a6_bm)
    have zz13 := (Nat.le_trans zz4 (Keep.of_wr W11).1)
    have K14 := K5.wr W11 (Or.inl (List.mem_cons_of_mem _ (List.mem_singleton.mpr rfl)))
    have N11 := Fr.snoc X11 N2 g_a6
    have pre15 : Go p e below (T0.setTop (mkF m 62 #[.val (.ref bm), .val r1, .val (.ref bt), .val q, .val (.int p4), .val (.int p5), .val (.ref a6), .val (.int i), .val (.int sv), .val (.long cy), .second] [])) (T11.setTop (mkF m 103 #[.val (.ref bm), .val r1, .val (.ref bt), .val q, .val (.int p4), .val (.int p5), .val (.ref a6), .val (.int i), .val (.int sv), .val (.long cy), .second] [])) := fun t k => pre10 t (st11 t k)
    have pre16 : Go p e below (T0.setTop (mkF m 62 #[.val (.ref bm), .val r1, .val (.ref bt), .val q, .val (.int p4), .val (.int p5), .val (.ref a6), .val (.int i), .val (.int sv), .val (.long cy), .second] [])) (T11.setTop (mkF m 11 #[.val (.ref bm), .val r1, .val (.ref bt), .val q, .val (.int p4), .val (.int p5), .val (.ref a6), .val (.int (i + (1 : Int32))), .val (.int sv), .val (.long cy), .second] [])) := by
      intro t k
      refine pre15 t ?_
      show Steps p.tables e below (T11.setTop (mkF m 103 #[.val (.ref bm), .val r1, .val (.ref bt), .val q, .val (.int p4), .val (.int p5), .val (.ref a6), .val (.int i), .val (.int sv), .val (.long cy), .second] [])) _
      refine XS.iinc X11.here hx rfl (hb hby d2_103) rfl (l' := #[.val (.ref bm), .val r1, .val (.ref bt), .val q, .val (.int p4), .val (.int p5), .val (.ref a6), .val (.int (i + (1 : Int32))), .val (.int sv), .val (.long cy), .second]) rfl ?_
      show Steps p.tables e below (T11.setTop (mkF m 106 #[.val (.ref bm), .val r1, .val (.ref bt), .val q, .val (.int p4), .val (.int p5), .val (.ref a6), .val (.int (i + (1 : Int32))), .val (.int sv), .val (.long cy), .second] [])) _
      refine XS.goto X11.here hx rfl (pc0 := 106) (pc' := 11) rfl (hb hby d2_106) (by decide) (by decide) ?_
      show Steps p.tables e below (T11.setTop (mkF m 11 #[.val (.ref bm), .val r1, .val (.ref bt), .val q, .val (.int p4), .val (.int p5), .val (.ref a6), .val (.int (i + (1 : Int32))), .val (.int sv), .val (.long cy), .second] [])) _
      exact k
    exact ⟨T11, h11, _, X11, e11, N11, K14, c12_11, AV11, pre16⟩
  · skip
    have pre17 : Go p e below (T0.setTop (mkF m 62 #[.val (.ref bm), .val r1, .val (.ref bt), .val q, .val (.int p4), .val (.int p5), .val (.ref a6), .val (.int i), .val (.int sv), .val (.long cy), .second] [])) (T2.setTop (mkF m 11 #[.val (.ref bm), .val r1, .val (.ref bt), .val q, .val (.int p4), .val (.int p5), .val (.ref a6), .val (.int (i + (1 : Int32))), .val (.int sv), .val (.long cy), .second] [])) := by
      intro t k
      refine pre7 t ?_
      show Steps p.tables e below (T2.setTop (mkF m 73 #[.val (.ref bm), .val r1, .val (.ref bt), .val q, .val (.int p4), .val (.int p5), .val (.ref a6), .val (.int i), .val (.int sv), .val (.long cy), .second] [(.int (XT.cmpL cy (0 : Int64)))])) _
      refine XS.ifYes X2.here hx rfl (pc0 := 73) (pc' := 103) rfl (hb hby d2_73) rfl (XT.ll_le_t hc73_8) (by decide) (by decide) ?_
      show Steps p.tables e below (T2.setTop (mkF m 103 #[.val (.ref bm), .val r1, .val (.ref bt), .val q, .val (.int p4), .val (.int p5), .val (.ref a6), .val (.int i), .val (.int sv), .val (.long cy), .second] [])) _
      refine XS.iinc X2.here hx rfl (hb hby d2_103) rfl (l' := #[.val (.ref bm), .val r1, .val (.ref bt), .val q, .val (.int p4), .val (.int p5), .val (.ref a6), .val (.int (i + (1 : Int32))), .val (.int sv), .val (.long cy), .second]) rfl ?_
      show Steps p.tables e below (T2.setTop (mkF m 106 #[.val (.ref bm), .val r1, .val (.ref bt), .val q, .val (.int p4), .val (.int p5), .val (.ref a6), .val (.int (i + (1 : Int32))), .val (.int sv), .val (.long cy), .second] [])) _
      refine XS.goto X2.here hx rfl (pc0 := 106) (pc' := 11) rfl (hb hby d2_106) (by decide) (by decide) ?_
      show Steps p.tables e below (T2.setTop (mkF m 11 #[.val (.ref bm), .val r1, .val (.ref bt), .val q, .val (.int p4), .val (.int p5), .val (.ref a6), .val (.int (i + (1 : Int32))), .val (.int sv), .val (.long cy), .second] [])) _
      exact k
    have A6z : LA Z h2 a6 k6 (own_u f i (f (i).toNatClampNeg + cy)) := by rw [own_same64 (hcy0 hc73_8)]; exact c3_2
    exact ⟨T2, h2, _, X2, e2, N2, K5, AV2, A6z, pre17⟩
/-- what one turn leaves in mine -/
def own_f1 (fm ft : Nat → Int32) (i : Int32) : Nat → Int32 := own_u fm i (own_w fm ft i)
def own_r1 (fm ft : Nat → Int32) (g f : Nat → Int64) (i : Int32) : Nat → Int64 := own_u f i (f (i).toNatClampNeg + own_cy fm ft g i)
def own_fE (tw : Int32) (fm ft : Nat → Int32) (i j : Int32) : Nat → Int32 := if tw = (0 : Int32) then own_f1 fm ft i else own_f1 (own_f1 fm ft i) ft j
def own_rE (tw : Int32) (fm ft : Nat → Int32) (g f : Nat → Int64) (i j : Int32) : Nat → Int64 := if tw = (0 : Int32) then own_r1 fm ft g f i else own_r1 (own_f1 fm ft i) ft g (own_r1 fm ft g f i) j
theorem own_idx {p4 p5 tw : Int32} (h4 : -999 ≤ p4.toInt ∧ p4.toInt ≤ 999) (htw : (tw = 0 ∧ p5 = p4) ∨ (¬ tw = 0 ∧ p5.toInt = p4.toInt + 1 ∧ p5.toInt ≤ 999)) :
    (p4 + (999 : Int32)).toInt = p4.toInt + 999 ∧ ((p4 + (999 : Int32)) + (1 : Int32)).toInt = p4.toInt + 1000 ∧ (((p4 + (999 : Int32)) + (1 : Int32)) + (1 : Int32)).toInt = p4.toInt + 1001 ∧ (p5 + (999 : Int32)).toInt = p5.toInt + 999 ∧ (p5.toInt = p4.toInt ∨ (p5.toInt = p4.toInt + 1 ∧ p5.toInt ≤ 999)) := by
  have c1 : (999 : Int32).toInt = 999 := rfl
  have c2 : (1 : Int32).toInt = 1 := rfl
  have h5 : p5.toInt = p4.toInt ∨ (p5.toInt = p4.toInt + 1 ∧ p5.toInt ≤ 999) := htw.imp (fun q => by rw [q.2]) (fun q => q.2)
  have e1 : (p4 + (999 : Int32)).toInt = p4.toInt + 999 := by rw [Jvm.Kit.i32_add (by omega) (by omega), c1]
  have e2 : ((p4 + (999 : Int32)) + (1 : Int32)).toInt = p4.toInt + 1000 := by rw [Jvm.Kit.i32_add (by omega) (by omega), c2, e1]; omega
  have e3 : (((p4 + (999 : Int32)) + (1 : Int32)) + (1 : Int32)).toInt = p4.toInt + 1001 := by rw [Jvm.Kit.i32_add (by omega) (by omega), c2, e2]; omega
  have e4 : (p5 + (999 : Int32)).toInt = p5.toInt + 999 := by rw [Jvm.Kit.i32_add (by omega) (by omega), c1]
  exact ⟨e1, e2, e3, e4, h5⟩
theorem own_inr {i : Int32} (h : 0 ≤ i.toInt ∧ i.toInt ≤ 1998) : ¬ i < 0 ∧ i < (1999 : Int32) := by
  rw [Int32.lt_iff_toInt_lt, Int32.lt_iff_toInt_lt, show (0 : Int32).toInt = 0 from rfl, show (1999 : Int32).toInt = 1999 from rfl]; omega
theorem own_two {p4 p5 tw : Int32} (htw : (tw = 0 ∧ p5 = p4) ∨ (¬ tw = 0 ∧ p5.toInt = p4.toInt + 1 ∧ p5.toInt ≤ 999)) (hix : (p4 + (999 : Int32)).toInt = p4.toInt + 999 ∧ ((p4 + (999 : Int32)) + (1 : Int32)).toInt = p4.toInt + 1000 ∧ (((p4 + (999 : Int32)) + (1 : Int32)) + (1 : Int32)).toInt = p4.toInt + 1001 ∧ (p5 + (999 : Int32)).toInt = p5.toInt + 999 ∧ (p5.toInt = p4.toInt ∨ (p5.toInt = p4.toInt + 1 ∧ p5.toInt ≤ 999)))
    (hc : ¬ ((p5 + (999 : Int32)) < ((p4 + (999 : Int32)) + (1 : Int32)))) : ¬ tw = 0 ∧ p5.toInt = p4.toInt + 1 ∧ p5.toInt ≤ 999 := by
  rcases htw with q | q
  · rw [Int32.lt_iff_toInt_lt, hix.2.1, hix.2.2.2.1, q.2] at hc; omega
  · exact q
theorem own_onet {p4 p5 tw : Int32} (htw : (tw = 0 ∧ p5 = p4) ∨ (¬ tw = 0 ∧ p5.toInt = p4.toInt + 1 ∧ p5.toInt ≤ 999)) (hix : (p4 + (999 : Int32)).toInt = p4.toInt + 999 ∧ ((p4 + (999 : Int32)) + (1 : Int32)).toInt = p4.toInt + 1000 ∧ (((p4 + (999 : Int32)) + (1 : Int32)) + (1 : Int32)).toInt = p4.toInt + 1001 ∧ (p5 + (999 : Int32)).toInt = p5.toInt + 999 ∧ (p5.toInt = p4.toInt ∨ (p5.toInt = p4.toInt + 1 ∧ p5.toInt ≤ 999)))
    (hc : (p5 + (999 : Int32)) < ((p4 + (999 : Int32)) + (1 : Int32))) : tw = 0 := by
  rcases htw with q | q
  · exact q.1
  · rw [Int32.lt_iff_toInt_lt, hix.2.1, hix.2.2.2.1] at hc; omega
theorem ef_2_r (m : MethodId) (bm a6 bt : Addr) (q : Value) (p4 p5 : Int32) (hq : q.isRef = true) : entryFrame m #[(.ref bm), (.ref a6), (.ref bt), q, (.int p4), (.int p5)] 11 = mkF m 0 #[.val (.ref bm), .val (.ref a6), .val (.ref bt), .val q, .val (.int p4), .val (.int p5), .unset, .unset, .unset, .unset, .unset] [] := by
  rcases XT.refc hq with rfl | ⟨r, rfl⟩ <;> first | (simp [entryFrame, mkF, argsToLocals, Value.category]; done) | rfl
theorem d2_0 : decode prog_2_method_5_code 0 = .ok (.aload_n 1, 1) := by decide +kernel
theorem d2_1 : decode prog_2_method_5_code 1 = .ok (.astore 6, 2) := by decide +kernel
theorem d2_3 : decode prog_2_method_5_code 3 = .ok (.iload 4, 2) := by decide +kernel
theorem d2_5 : decode prog_2_method_5_code 5 = .ok (.sipush 999, 3) := by decide +kernel
theorem d2_8 : decode prog_2_method_5_code 8 = .ok (.iadd, 1) := by decide +kernel
theorem d2_9 : decode prog_2_method_5_code 9 = .ok (.istore 7, 2) := by decide +kernel
theorem d2_11 : decode prog_2_method_5_code 11 = .ok (.iload 7, 2) := by decide +kernel
theorem d2_13 : decode prog_2_method_5_code 13 = .ok (.iload 5, 2) := by decide +kernel
theorem d2_15 : decode prog_2_method_5_code 15 = .ok (.sipush 999, 3) := by decide +kernel
theorem d2_18 : decode prog_2_method_5_code 18 = .ok (.iadd, 1) := by decide +kernel
theorem d2_19 : decode prog_2_method_5_code 19 = .ok (.if_icmp .gt 90, 3) := by decide +kernel
theorem d2_109 : decode prog_2_method_5_code 109 = .ok (.aload 6, 2) := by decide +kernel
theorem d2_111 : decode prog_2_method_5_code 111 = .ok (.areturn, 1) := by decide +kernel
def Q2_r (Z : State) (bm : Addr) (a6 : Addr) (bt : Addr) (p4 : Int32) (p5 : Int32) (q : Value) (km : ClassId) (kt : ClassId) (fm : Nat → Int32) (ft : Nat → Int32) (g : Nat → Int64) (tw : Int32) (k6 : ClassId) (f : Nat → Int64) (h0 : Heap) (n0 : Nat) (v : Option Value) (h : Heap) (L : List Loc) : Prop := v = some (.ref a6) ∧ Fr n0 L ∧ BA Z h bm km (own_fE tw fm ft (p4 + (999 : Int32)) ((p4 + (999 : Int32)) + (1 : Int32))) ∧ BA Z h bt kt ft ∧ LA Z h a6 k6 (own_rE tw fm ft g f (p4 + (999 : Int32)) ((p4 + (999 : Int32)) + (1 : Int32)))
set_option maxRecDepth 65536 in
set_option maxHeartbeats 40000000 in
theorem pn_com_example_lanescan_lanescan_Distribution : plainName "com/example/lanescan/lanescan/Distribution" = true := by first | (simp [plainName, overriddenIn]; done) | decide +kernel
theorem rm2_r (l : Launch) (Z : State) (a0 : Array Value) (hw : ∀ d ∈ tables_1, d.before a0 Z = true) (ws : List Jvm.Cond) (bm : Addr) (a6 : Addr) (bt : Addr) (p4 : Int32) (p5 : Int32) (q : Value) (km : ClassId) (kt : ClassId) (fm : Nat → Int32) (ft : Nat → Int32) (g : Nat → Int64) (tw : Int32) (k6 : ClassId) (f : Nat → Int64) (h0 : Heap) (n0 : Nat) (Z0 : n0 ≤ h0.size) (hqr : q.isRef = true) (Am : BA Z h0 bm km fm) (At_ : BA Z h0 bt kt ft) (ne_bt_bm : bt ≠ bm) (g_bm : n0 ≤ bm) (h4 : -999 ≤ p4.toInt ∧ p4.toInt ≤ 999) (htw : (tw = 0 ∧ p5 = p4) ∨ (¬ tw = 0 ∧ p5.toInt = p4.toInt + 1 ∧ p5.toInt ≤ 999)) (hg : ∀ i, 0 ≤ (g i).toInt ∧ (g i).toInt < 2 ^ 62) (A6 : LA Z h0 a6 k6 f) (g_a6 : n0 ≤ a6) (ne_a6_bm : a6 ≠ bm) (ne_bt_a6 : bt ≠ a6) (Hq : (q = .null ∧ ∀ i_, g i_ = 0) ∨ (∃ a k, q = .ref a ∧ a ≠ bm ∧ a ≠ a6 ∧ LA Z h0 a k g)) :
    MetFree l (⟨"com/example/lanescan/lanescan/Distribution", "merge", "([B[J[B[JII)[J"⟩ : MethodName) (head1 (Jvm.Cond.code (⟨"com/example/lanescan/lanescan/Distribution", "merge", "([B[J[B[JII)[J"⟩ : MethodName) prog_2_method_5_code 11 (some (.array .long)) :: ws) ({ frames := 0, cells := 1, slots := 1999, locals := 0 } : Room)) (fun a U => a = #[(.ref bm), (.ref a6), (.ref bt), q, (.int p4), (.int p5)] ∧ Z.Warmed39 U.vm ∧ U.heap = h0) (fun _ _ _ _ _ => True) (fun _ U o U' => ∃ v L, o = .returned v ∧ Q2_r Z bm a6 bt p4 p5 q km kt fm ft g tw k6 f h0 n0 v U'.heap L ∧ FrameEnd U o U' L ({ frames := 0, cells := 1, slots := 1999, locals := 0 } : Room).cells ({ frames := 0, cells := 1, slots := 1999, locals := 0 } : Room).slots) := by
  refine MetFree.of_bodySF (plainFor_of_name pn_com_example_lanescan_lanescan_Distribution) hisR ?_
  intro p e s m args below meth c s₁ Bd hml0 hP hK
  obtain ⟨rfl, hZ, hh⟩ := hP
  have hx := Bd.exec
  have hby := Bd.bytes
  have hml : c.maxLocals = 11 := hml0
  have hown : s.vm.findClass "com/example/lanescan/lanescan/Distribution" = some m.cls := findClass_of_methodNamed Bd.named
  have hnm := (name_of_methodNamed Bd.named Bd.method).1
  have hlk : meth.locks = false := BodyLoose.notSynchronized Bd
  have X0 : Stand p l e ({ frames := 0, cells := 1, slots := 1999, locals := 0 } : Room) s m #[(.ref bm), (.ref a6), (.ref bt), q, (.int p4), (.int p5)] below meth c s₁ [] 0 0 := Stand.of_body Bd
  have e0 : s₁.heap = h0 := by rw [← hh, Bd.state]; rfl
  have N0 := Fr.nil n0
  have pre0 : Go p e below (s₁.setTop (entryFrame m #[(.ref bm), (.ref a6), (.ref bt), q, (.int p4), (.int p5)] 11)) (s₁.setTop (mkF m 0 #[.val (.ref bm), .val (.ref a6), .val (.ref bt), .val q, .val (.int p4), .val (.int p5), .unset, .unset, .unset, .unset, .unset] [])) := fun t k => castTop (ef_2_r m bm a6 bt q p4 p5 hqr) k
  have hix := own_idx h4 htw
  have X0s := X0
  have X0 := X0s.more (Nat.zero_le 1) (Nat.zero_le 1999)
  have pre1 : Go p e below (s₁.setTop (entryFrame m #[(.ref bm), (.ref a6), (.ref bt), q, (.int p4), (.int p5)] 11)) (s₁.setTop (mkF m 19 #[.val (.ref bm), .val (.ref a6), .val (.ref bt), .val q, .val (.int p4), .val (.int p5), .val (.ref a6), .val (.int (p4 + (999 : Int32))), .unset, .unset, .unset] [(.int (p5 + (999 : Int32))), (.int (p4 + (999 : Int32)))])) := by
    intro t k
    refine pre0 t ?_
    show Steps p.tables e below (s₁.setTop (mkF m 0 #[.val (.ref bm), .val (.ref a6), .val (.ref bt), .val q, .val (.int p4), .val (.int p5), .unset, .unset, .unset, .unset, .unset] [])) _
    refine XS.aloadN X0.here hx rfl (hb hby d2_0) rfl rfl ?_
    show Steps p.tables e below (s₁.setTop (mkF m 1 #[.val (.ref bm), .val (.ref a6), .val (.ref bt), .val q, .val (.int p4), .val (.int p5), .unset, .unset, .unset, .unset, .unset] [(.ref a6)])) _
    refine XS.astore X0.here hx rfl (hb hby d2_1) rfl rfl (l' := #[.val (.ref bm), .val (.ref a6), .val (.ref bt), .val q, .val (.int p4), .val (.int p5), .val (.ref a6), .unset, .unset, .unset, .unset]) rfl ?_
    show Steps p.tables e below (s₁.setTop (mkF m 3 #[.val (.ref bm), .val (.ref a6), .val (.ref bt), .val q, .val (.int p4), .val (.int p5), .val (.ref a6), .unset, .unset, .unset, .unset] [])) _
    refine XS.iload X0.here hx rfl (hb hby d2_3) rfl ?_
    show Steps p.tables e below (s₁.setTop (mkF m 5 #[.val (.ref bm), .val (.ref a6), .val (.ref bt), .val q, .val (.int p4), .val (.int p5), .val (.ref a6), .unset, .unset, .unset, .unset] [(.int p4)])) _
    refine XS.sipush X0.here hx rfl (hb hby d2_5) ?_
    show Steps p.tables e below (s₁.setTop (mkF m 8 #[.val (.ref bm), .val (.ref a6), .val (.ref bt), .val q, .val (.int p4), .val (.int p5), .val (.ref a6), .unset, .unset, .unset, .unset] [(.int (999 : Int32)), (.int p4)])) _
    refine XS.iadd X0.here hx rfl (hb hby d2_8) rfl ?_
    show Steps p.tables e below (s₁.setTop (mkF m 9 #[.val (.ref bm), .val (.ref a6), .val (.ref bt), .val q, .val (.int p4), .val (.int p5), .val (.ref a6), .unset, .unset, .unset, .unset] [(.int (p4 + (999 : Int32)))])) _
    refine XS.istore X0.here hx rfl (hb hby d2_9) rfl (l' := #[.val (.ref bm), .val (.ref a6), .val (.ref bt), .val q, .val (.int p4), .val (.int p5), .val (.ref a6), .val (.int (p4 + (999 : Int32))), .unset, .unset, .unset]) rfl ?_
    show Steps p.tables e below (s₁.setTop (mkF m 11 #[.val (.ref bm), .val (.ref a6), .val (.ref bt), .val q, .val (.int p4), .val (.int p5), .val (.ref a6), .val (.int (p4 + (999 : Int32))), .unset, .unset, .unset] [])) _
    refine XS.iload X0.here hx rfl (hb hby d2_11) rfl ?_
    show Steps p.tables e below (s₁.setTop (mkF m 13 #[.val (.ref bm), .val (.ref a6), .val (.ref bt), .val q, .val (.int p4), .val (.int p5), .val (.ref a6), .val (.int (p4 + (999 : Int32))), .unset, .unset, .unset] [(.int (p4 + (999 : Int32)))])) _
    refine XS.iload X0.here hx rfl (hb hby d2_13) rfl ?_
    show Steps p.tables e below (s₁.setTop (mkF m 15 #[.val (.ref bm), .val (.ref a6), .val (.ref bt), .val q, .val (.int p4), .val (.int p5), .val (.ref a6), .val (.int (p4 + (999 : Int32))), .unset, .unset, .unset] [(.int p5), (.int (p4 + (999 : Int32)))])) _
    refine XS.sipush X0.here hx rfl (hb hby d2_15) ?_
    show Steps p.tables e below (s₁.setTop (mkF m 18 #[.val (.ref bm), .val (.ref a6), .val (.ref bt), .val q, .val (.int p4), .val (.int p5), .val (.ref a6), .val (.int (p4 + (999 : Int32))), .unset, .unset, .unset] [(.int (999 : Int32)), (.int p5), (.int (p4 + (999 : Int32)))])) _
    refine XS.iadd X0.here hx rfl (hb hby d2_18) rfl ?_
    show Steps p.tables e below (s₁.setTop (mkF m 19 #[.val (.ref bm), .val (.ref a6), .val (.ref bt), .val q, .val (.int p4), .val (.int p5), .val (.ref a6), .val (.int (p4 + (999 : Int32))), .unset, .unset, .unset] [(.int (p5 + (999 : Int32))), (.int (p4 + (999 : Int32)))])) _
    exact k
  have hc19_2 : ¬ ((p5 + (999 : Int32)) < (p4 + (999 : Int32))) := by
    rw [Int32.lt_iff_toInt_lt]; obtain ⟨w1, w2, w3, w4, w5⟩ := hix; omega
  have pre3 : Go p e below (s₁.setTop (entryFrame m #[(.ref bm), (.ref a6), (.ref bt), q, (.int p4), (.int p5)] 11)) (s₁.setTop (mkF m 22 #[.val (.ref bm), .val (.ref a6), .val (.ref bt), .val q, .val (.int p4), .val (.int p5), .val (.ref a6), .val (.int (p4 + (999 : Int32))), .unset, .unset, .unset] [])) := by
    intro t k
    refine pre1 t ?_
    show Steps p.tables e below (s₁.setTop (mkF m 19 #[.val (.ref bm), .val (.ref a6), .val (.ref bt), .val q, .val (.int p4), .val (.int p5), .val (.ref a6), .val (.int (p4 + (999 : Int32))), .unset, .unset, .unset] [(.int (p5 + (999 : Int32))), (.int (p4 + (999 : Int32)))])) _
    refine XS.icmpNo X0.here hx rfl (hb hby d2_19) rfl (XT.ii_gt_f hc19_2) ?_
    show Steps p.tables e below (s₁.setTop (mkF m 22 #[.val (.ref bm), .val (.ref a6), .val (.ref bt), .val q, .val (.int p4), .val (.int p5), .val (.ref a6), .val (.int (p4 + (999 : Int32))), .unset, .unset, .unset] [])) _
    exact k
  have hj0 := own_inr (i := (p4 + (999 : Int32))) (by omega)
  have m4 := tm1a (r1 := (.ref a6)) (r6 := (.ref a6)) (p4 := p4) (p5 := p5) (i := (p4 + (999 : Int32))) X0 hx hZ hw hby hml hown e0 N0 Z0 hj0 Am At_ (Hq.imp id fun ⟨a, k, q1, q2⟩ => ⟨a, k, q1, q2.2.2⟩)
  have pre5 : Go p e below (s₁.setTop (entryFrame m #[(.ref bm), (.ref a6), (.ref bt), q, (.int p4), (.int p5)] 11)) (s₁.setTop (mkF m 62 #[.val (.ref bm), .val (.ref a6), .val (.ref bt), .val q, .val (.int p4), .val (.int p5), .val (.ref a6), .val (.int (p4 + (999 : Int32))), .val (.int (own_s fm ft (p4 + (999 : Int32)))), .val (.long (own_cy fm ft g (p4 + (999 : Int32)))), .second] [])) := fun t k => pre3 t (m4 t k)
  obtain ⟨T4, h4, lc4, X4, e4, N4, K4, Am4, A64, g4⟩ := tm2r (r1 := (.ref a6)) (q := q) (p4 := p4) (p5 := p5) (sv := (own_s fm ft (p4 + (999 : Int32)))) (cy := (own_cy fm ft g (p4 + (999 : Int32)))) (i := (p4 + (999 : Int32))) X0 hx hZ hw hby hml hown e0 N0 Z0 (by rfl) hqr hj0 Am g_bm A6 g_a6 ne_a6_bm (own_cy0 hg)
  have At4 := At_.keep K4 (ninS ne_bt_bm (ninS ne_bt_a6 nin0))
  have Hq4 : (q = .null ∧ ∀ i_, g i_ = 0) ∨ (∃ a k, q = .ref a ∧ a ≠ bm ∧ a ≠ a6 ∧ LA Z h4 a k g) := Hq.imp id fun ⟨a, k, q1, q2, q3, q4⟩ => ⟨a, k, q1, q2, q3, q4.keep K4 (ninS q2 (ninS q3 nin0))⟩
  have zz4 := Nat.le_trans Z0 K4.1
  have pre6 : Go p e below (s₁.setTop (entryFrame m #[(.ref bm), (.ref a6), (.ref bt), q, (.int p4), (.int p5)] 11)) (T4.setTop (mkF m 11 #[.val (.ref bm), .val (.ref a6), .val (.ref bt), .val q, .val (.int p4), .val (.int p5), .val (.ref a6), .val (.int ((p4 + (999 : Int32)) + (1 : Int32))), .val (.int (own_s fm ft (p4 + (999 : Int32)))), .val (.long (own_cy fm ft g (p4 + (999 : Int32)))), .second] [])) := fun t k => pre5 t (g4 t k)
  have pre7 : Go p e below (s₁.setTop (entryFrame m #[(.ref bm), (.ref a6), (.ref bt), q, (.int p4), (.int p5)] 11)) (T4.setTop (mkF m 19 #[.val (.ref bm), .val (.ref a6), .val (.ref bt), .val q, .val (.int p4), .val (.int p5), .val (.ref a6), .val (.int ((p4 + (999 : Int32)) + (1 : Int32))), .val (.int (own_s fm ft (p4 + (999 : Int32)))), .val (.long (own_cy fm ft g (p4 + (999 : Int32)))), .second] [(.int (p5 + (999 : Int32))), (.int ((p4 + (999 : Int32)) + (1 : Int32)))])) := by
    intro t k
    refine pre6 t ?_
    show Steps p.tables e below (T4.setTop (mkF m 11 #[.val (.ref bm), .val (.ref a6), .val (.ref bt), .val q, .val (.int p4), .val (.int p5), .val (.ref a6), .val (.int ((p4 + (999 : Int32)) + (1 : Int32))), .val (.int (own_s fm ft (p4 + (999 : Int32)))), .val (.long (own_cy fm ft g (p4 + (999 : Int32)))), .second] [])) _
    refine XS.iload X4.here hx rfl (hb hby d2_11) rfl ?_
    show Steps p.tables e below (T4.setTop (mkF m 13 #[.val (.ref bm), .val (.ref a6), .val (.ref bt), .val q, .val (.int p4), .val (.int p5), .val (.ref a6), .val (.int ((p4 + (999 : Int32)) + (1 : Int32))), .val (.int (own_s fm ft (p4 + (999 : Int32)))), .val (.long (own_cy fm ft g (p4 + (999 : Int32)))), .second] [(.int ((p4 + (999 : Int32)) + (1 : Int32)))])) _
    refine XS.iload X4.here hx rfl (hb hby d2_13) rfl ?_
    show Steps p.tables e below (T4.setTop (mkF m 15 #[.val (.ref bm), .val (.ref a6), .val (.ref bt), .val q, .val (.int p4), .val (.int p5), .val (.ref a6), .val (.int ((p4 + (999 : Int32)) + (1 : Int32))), .val (.int (own_s fm ft (p4 + (999 : Int32)))), .val (.long (own_cy fm ft g (p4 + (999 : Int32)))), .second] [(.int p5), (.int ((p4 + (999 : Int32)) + (1 : Int32)))])) _
    refine XS.sipush X4.here hx rfl (hb hby d2_15) ?_
    show Steps p.tables e below (T4.setTop (mkF m 18 #[.val (.ref bm), .val (.ref a6), .val (.ref bt), .val q, .val (.int p4), .val (.int p5), .val (.ref a6), .val (.int ((p4 + (999 : Int32)) + (1 : Int32))), .val (.int (own_s fm ft (p4 + (999 : Int32)))), .val (.long (own_cy fm ft g (p4 + (999 : Int32)))), .second] [(.int (999 : Int32)), (.int p5), (.int ((p4 + (999 : Int32)) + (1 : Int32)))])) _
    refine XS.iadd X4.here hx rfl (hb hby d2_18) rfl ?_
    show Steps p.tables e below (T4.setTop (mkF m 19 #[.val (.ref bm), .val (.ref a6), .val (.ref bt), .val q, .val (.int p4), .val (.int p5), .val (.ref a6), .val (.int ((p4 + (999 : Int32)) + (1 : Int32))), .val (.int (own_s fm ft (p4 + (999 : Int32)))), .val (.long (own_cy fm ft g (p4 + (999 : Int32)))), .second] [(.int (p5 + (999 : Int32))), (.int ((p4 + (999 : Int32)) + (1 : Int32)))])) _
    exact k
  by_cases hc19_8 : (p5 + (999 : Int32)) < ((p4 + (999 : Int32)) + (1 : Int32))
  · skip
    have pre9 : Go p e below (s₁.setTop (entryFrame m #[(.ref bm), (.ref a6), (.ref bt), q, (.int p4), (.int p5)] 11)) (T4.setTop (mkF m 111 #[.val (.ref bm), .val (.ref a6), .val (.ref bt), .val q, .val (.int p4), .val (.int p5), .val (.ref a6), .val (.int ((p4 + (999 : Int32)) + (1 : Int32))), .val (.int (own_s fm ft (p4 + (999 : Int32)))), .val (.long (own_cy fm ft g (p4 + (999 : Int32)))), .second] [(.ref a6)])) := by
      intro t k
      refine pre7 t ?_
      show Steps p.tables e below (T4.setTop (mkF m 19 #[.val (.ref bm), .val (.ref a6), .val (.ref bt), .val q, .val (.int p4), .val (.int p5), .val (.ref a6), .val (.int ((p4 + (999 : Int32)) + (1 : Int32))), .val (.int (own_s fm ft (p4 + (999 : Int32)))), .val (.long (own_cy fm ft g (p4 + (999 : Int32)))), .second] [(.int (p5 + (999 : Int32))), (.int ((p4 + (999 : Int32)) + (1 : Int32)))])) _
      refine XS.icmpYes X4.here hx rfl (pc0 := 19) (pc' := 109) rfl (hb hby d2_19) rfl (XT.ii_gt_t hc19_8) (by decide) (by decide) ?_
      show Steps p.tables e below (T4.setTop (mkF m 109 #[.val (.ref bm), .val (.ref a6), .val (.ref bt), .val q, .val (.int p4), .val (.int p5), .val (.ref a6), .val (.int ((p4 + (999 : Int32)) + (1 : Int32))), .val (.int (own_s fm ft (p4 + (999 : Int32)))), .val (.long (own_cy fm ft g (p4 + (999 : Int32)))), .second] [])) _
      refine XS.aload X4.here hx rfl (hb hby d2_109) rfl rfl ?_
      show Steps p.tables e below (T4.setTop (mkF m 111 #[.val (.ref bm), .val (.ref a6), .val (.ref bt), .val q, .val (.int p4), .val (.int p5), .val (.ref a6), .val (.int ((p4 + (999 : Int32)) + (1 : Int32))), .val (.int (own_s fm ft (p4 + (999 : Int32)))), .val (.long (own_cy fm ft g (p4 + (999 : Int32)))), .second] [(.ref a6)])) _
      exact k
    obtain ⟨fs, hr, hrun, hended, hW, hsame⟩ := X4.leave (hlocks := hlk) (v := some (.ref a6)) (fun h => by rw [Bd.returns] at h; cases h)
    refine ⟨_, _, pre9 _ (retA X4 hx Bd.returns rfl rfl rfl (hb hby d2_111) hr), hrun, hended, _, _, rfl, ?_, ⟨_, rfl⟩, hW, hsame.mono (by decide) (by decide)⟩
    show Q2_r Z bm a6 bt p4 p5 q km kt fm ft g tw k6 f h0 n0 _ T4.heap _
    rw [e4]
    have hT := own_onet htw hix hc19_8
    have eF : own_fE tw fm ft (p4 + (999 : Int32)) ((p4 + (999 : Int32)) + (1 : Int32)) = (own_f1 fm ft (p4 + (999 : Int32))) := if_pos hT
    have eR : (own_rE tw fm ft g f (p4 + (999 : Int32)) ((p4 + (999 : Int32)) + (1 : Int32))) = (own_r1 fm ft g f (p4 + (999 : Int32))) := if_pos hT
    refine ⟨rfl, N4, ?_, At4, ?_⟩
    · rw [eF]; exact Am4
    · rw [eR]; exact A64
  · skip
    have pre10 : Go p e below (s₁.setTop (entryFrame m #[(.ref bm), (.ref a6), (.ref bt), q, (.int p4), (.int p5)] 11)) (T4.setTop (mkF m 22 #[.val (.ref bm), .val (.ref a6), .val (.ref bt), .val q, .val (.int p4), .val (.int p5), .val (.ref a6), .val (.int ((p4 + (999 : Int32)) + (1 : Int32))), .val (.int (own_s fm ft (p4 + (999 : Int32)))), .val (.long (own_cy fm ft g (p4 + (999 : Int32)))), .second] [])) := by
      intro t k
      refine pre7 t ?_
      show Steps p.tables e below (T4.setTop (mkF m 19 #[.val (.ref bm), .val (.ref a6), .val (.ref bt), .val q, .val (.int p4), .val (.int p5), .val (.ref a6), .val (.int ((p4 + (999 : Int32)) + (1 : Int32))), .val (.int (own_s fm ft (p4 + (999 : Int32)))), .val (.long (own_cy fm ft g (p4 + (999 : Int32)))), .second] [(.int (p5 + (999 : Int32))), (.int ((p4 + (999 : Int32)) + (1 : Int32)))])) _
      refine XS.icmpNo X4.here hx rfl (hb hby d2_19) rfl (XT.ii_gt_f hc19_8) ?_
      show Steps p.tables e below (T4.setTop (mkF m 22 #[.val (.ref bm), .val (.ref a6), .val (.ref bt), .val q, .val (.int p4), .val (.int p5), .val (.ref a6), .val (.int ((p4 + (999 : Int32)) + (1 : Int32))), .val (.int (own_s fm ft (p4 + (999 : Int32)))), .val (.long (own_cy fm ft g (p4 + (999 : Int32)))), .second] [])) _
      exact k
    have htw1 := own_two htw hix hc19_8
    have hj1 := own_inr (i := ((p4 + (999 : Int32)) + (1 : Int32))) (by rw [hix.2.1]; omega)
    have m11 := tm1b (r1 := (.ref a6)) (r6 := (.ref a6)) (p4 := p4) (p5 := p5) (i := ((p4 + (999 : Int32)) + (1 : Int32))) (s8 := (own_s fm ft (p4 + (999 : Int32)))) (c9 := (own_cy fm ft g (p4 + (999 : Int32)))) X4 hx hZ hw hby hml hown e4 N4 zz4 hj1 Am4 At4 (Hq4.imp id fun ⟨a, k, q1, q2⟩ => ⟨a, k, q1, q2.2.2⟩)
    have pre12 : Go p e below (s₁.setTop (entryFrame m #[(.ref bm), (.ref a6), (.ref bt), q, (.int p4), (.int p5)] 11)) (T4.setTop (mkF m 62 #[.val (.ref bm), .val (.ref a6), .val (.ref bt), .val q, .val (.int p4), .val (.int p5), .val (.ref a6), .val (.int ((p4 + (999 : Int32)) + (1 : Int32))), .val (.int (own_s (own_f1 fm ft (p4 + (999 : Int32))) ft ((p4 + (999 : Int32)) + (1 : Int32)))), .val (.long (own_cy (own_f1 fm ft (p4 + (999 : Int32))) ft g ((p4 + (999 : Int32)) + (1 : Int32)))), .second] [])) := fun t k => pre10 t (m11 t k)
    obtain ⟨T11, h11, lc11, X11, e11, N11, K11, Am11, A611, g11⟩ := tm2r (r1 := (.ref a6)) (q := q) (p4 := p4) (p5 := p5) (sv := (own_s (own_f1 fm ft (p4 + (999 : Int32))) ft ((p4 + (999 : Int32)) + (1 : Int32)))) (cy := (own_cy (own_f1 fm ft (p4 + (999 : Int32))) ft g ((p4 + (999 : Int32)) + (1 : Int32)))) (i := ((p4 + (999 : Int32)) + (1 : Int32))) X4 hx hZ hw hby hml hown e4 N4 zz4 (by rfl) hqr hj1 Am4 g_bm A64 g_a6 ne_a6_bm (own_cy0 hg)
    have At11 := At4.keep K11 (ninS ne_bt_bm (ninS ne_bt_a6 nin0))
    have Hq11 : (q = .null ∧ ∀ i_, g i_ = 0) ∨ (∃ a k, q = .ref a ∧ a ≠ bm ∧ a ≠ a6 ∧ LA Z h11 a k g) := Hq4.imp id fun ⟨a, k, q1, q2, q3, q4⟩ => ⟨a, k, q1, q2, q3, q4.keep K11 (ninS q2 (ninS q3 nin0))⟩
    have zz11 := Nat.le_trans zz4 K11.1
    have pre13 : Go p e below (s₁.setTop (entryFrame m #[(.ref bm), (.ref a6), (.ref bt), q, (.int p4), (.int p5)] 11)) (T11.setTop (mkF m 11 #[.val (.ref bm), .val (.ref a6), .val (.ref bt), .val q, .val (.int p4), .val (.int p5), .val (.ref a6), .val (.int (((p4 + (999 : Int32)) + (1 : Int32)) + (1 : Int32))), .val (.int (own_s (own_f1 fm ft (p4 + (999 : Int32))) ft ((p4 + (999 : Int32)) + (1 : Int32)))), .val (.long (own_cy (own_f1 fm ft (p4 + (999 : Int32))) ft g ((p4 + (999 : Int32)) + (1 : Int32)))), .second] [])) := fun t k => pre12 t (g11 t k)
    have pre14 : Go p e below (s₁.setTop (entryFrame m #[(.ref bm), (.ref a6), (.ref bt), q, (.int p4), (.int p5)] 11)) (T11.setTop (mkF m 19 #[.val (.ref bm), .val (.ref a6), .val (.ref bt), .val q, .val (.int p4), .val (.int p5), .val (.ref a6), .val (.int (((p4 + (999 : Int32)) + (1 : Int32)) + (1 : Int32))), .val (.int (own_s (own_f1 fm ft (p4 + (999 : Int32))) ft ((p4 + (999 : Int32)) + (1 : Int32)))), .val (.long (own_cy (own_f1 fm ft (p4 + (999 : Int32))) ft g ((p4 + (999 : Int32)) + (1 : Int32)))), .second] [(.int (p5 + (999 : Int32))), (.int (((p4 + (999 : Int32)) + (1 : Int32)) + (1 : Int32)))])) := by
      intro t k
      refine pre13 t ?_
      show Steps p.tables e below (T11.setTop (mkF m 11 #[.val (.ref bm), .val (.ref a6), .val (.ref bt), .val q, .val (.int p4), .val (.int p5), .val (.ref a6), .val (.int (((p4 + (999 : Int32)) + (1 : Int32)) + (1 : Int32))), .val (.int (own_s (own_f1 fm ft (p4 + (999 : Int32))) ft ((p4 + (999 : Int32)) + (1 : Int32)))), .val (.long (own_cy (own_f1 fm ft (p4 + (999 : Int32))) ft g ((p4 + (999 : Int32)) + (1 : Int32)))), .second] [])) _
      refine XS.iload X11.here hx rfl (hb hby d2_11) rfl ?_
      show Steps p.tables e below (T11.setTop (mkF m 13 #[.val (.ref bm), .val (.ref a6), .val (.ref bt), .val q, .val (.int p4), .val (.int p5), .val (.ref a6), .val (.int (((p4 + (999 : Int32)) + (1 : Int32)) + (1 : Int32))), .val (.int (own_s (own_f1 fm ft (p4 + (999 : Int32))) ft ((p4 + (999 : Int32)) + (1 : Int32)))), .val (.long (own_cy (own_f1 fm ft (p4 + (999 : Int32))) ft g ((p4 + (999 : Int32)) + (1 : Int32)))), .second] [(.int (((p4 + (999 : Int32)) + (1 : Int32)) + (1 : Int32)))])) _
      refine XS.iload X11.here hx rfl (hb hby d2_13) rfl ?_
      show Steps p.tables e below (T11.setTop (mkF m 15 #[.val (.ref bm), .val (.ref a6), .val (.ref bt), .val q, .val (.int p4), .val (.int p5), .val (.ref a6), .val (.int (((p4 + (999 : Int32)) + (1 : Int32)) + (1 : Int32))), .val (.int (own_s (own_f1 fm ft (p4 + (999 : Int32))) ft ((p4 + (999 : Int32)) + (1 : Int32)))), .val (.long (own_cy (own_f1 fm ft (p4 + (999 : Int32))) ft g ((p4 + (999 : Int32)) + (1 : Int32)))), .second] [(.int p5), (.int (((p4 + (999 : Int32)) + (1 : Int32)) + (1 : Int32)))])) _
      refine XS.sipush X11.here hx rfl (hb hby d2_15) ?_
      show Steps p.tables e below (T11.setTop (mkF m 18 #[.val (.ref bm), .val (.ref a6), .val (.ref bt), .val q, .val (.int p4), .val (.int p5), .val (.ref a6), .val (.int (((p4 + (999 : Int32)) + (1 : Int32)) + (1 : Int32))), .val (.int (own_s (own_f1 fm ft (p4 + (999 : Int32))) ft ((p4 + (999 : Int32)) + (1 : Int32)))), .val (.long (own_cy (own_f1 fm ft (p4 + (999 : Int32))) ft g ((p4 + (999 : Int32)) + (1 : Int32)))), .second] [(.int (999 : Int32)), (.int p5), (.int (((p4 + (999 : Int32)) + (1 : Int32)) + (1 : Int32)))])) _
      refine XS.iadd X11.here hx rfl (hb hby d2_18) rfl ?_
      show Steps p.tables e below (T11.setTop (mkF m 19 #[.val (.ref bm), .val (.ref a6), .val (.ref bt), .val q, .val (.int p4), .val (.int p5), .val (.ref a6), .val (.int (((p4 + (999 : Int32)) + (1 : Int32)) + (1 : Int32))), .val (.int (own_s (own_f1 fm ft (p4 + (999 : Int32))) ft ((p4 + (999 : Int32)) + (1 : Int32)))), .val (.long (own_cy (own_f1 fm ft (p4 + (999 : Int32))) ft g ((p4 + (999 : Int32)) + (1 : Int32)))), .second] [(.int (p5 + (999 : Int32))), (.int (((p4 + (999 : Int32)) + (1 : Int32)) + (1 : Int32)))])) _
      exact k
    have hc19_15 : (p5 + (999 : Int32)) < (((p4 + (999 : Int32)) + (1 : Int32)) + (1 : Int32)) := by
      rw [Int32.lt_iff_toInt_lt, hix.2.2.2.1, hix.2.2.1]; omega
    have pre16 : Go p e below (s₁.setTop (entryFrame m #[(.ref bm), (.ref a6), (.ref bt), q, (.int p4), (.int p5)] 11)) (T11.setTop (mkF m 111 #[.val (.ref bm), .val (.ref a6), .val (.ref bt), .val q, .val (.int p4), .val (.int p5), .val (.ref a6), .val (.int (((p4 + (999 : Int32)) + (1 : Int32)) + (1 : Int32))), .val (.int (own_s (own_f1 fm ft (p4 + (999 : Int32))) ft ((p4 + (999 : Int32)) + (1 : Int32)))), .val (.long (own_cy (own_f1 fm ft (p4 + (999 : Int32))) ft g ((p4 + (999 : Int32)) + (1 : Int32)))), .second] [(.ref a6)])) := by
      intro t k
      refine pre14 t ?_
      show Steps p.tables e below (T11.setTop (mkF m 19 #[.val (.ref bm), .val (.ref a6), .val (.ref bt), .val q, .val (.int p4), .val (.int p5), .val (.ref a6), .val (.int (((p4 + (999 : Int32)) + (1 : Int32)) + (1 : Int32))), .val (.int (own_s (own_f1 fm ft (p4 + (999 : Int32))) ft ((p4 + (999 : Int32)) + (1 : Int32)))), .val (.long (own_cy (own_f1 fm ft (p4 + (999 : Int32))) ft g ((p4 + (999 : Int32)) + (1 : Int32)))), .second] [(.int (p5 + (999 : Int32))), (.int (((p4 + (999 : Int32)) + (1 : Int32)) + (1 : Int32)))])) _
      refine XS.icmpYes X11.here hx rfl (pc0 := 19) (pc' := 109) rfl (hb hby d2_19) rfl (XT.ii_gt_t hc19_15) (by decide) (by decide) ?_
      show Steps p.tables e below (T11.setTop (mkF m 109 #[.val (.ref bm), .val (.ref a6), .val (.ref bt), .val q, .val (.int p4), .val (.int p5), .val (.ref a6), .val (.int (((p4 + (999 : Int32)) + (1 : Int32)) + (1 : Int32))), .val (.int (own_s (own_f1 fm ft (p4 + (999 : Int32))) ft ((p4 + (999 : Int32)) + (1 : Int32)))), .val (.long (own_cy (own_f1 fm ft (p4 + (999 : Int32))) ft g ((p4 + (999 : Int32)) + (1 : Int32)))), .second] [])) _
      refine XS.aload X11.here hx rfl (hb hby d2_109) rfl rfl ?_
      show Steps p.tables e below (T11.setTop (mkF m 111 #[.val (.ref bm), .val (.ref a6), .val (.ref bt), .val q, .val (.int p4), .val (.int p5), .val (.ref a6), .val (.int (((p4 + (999 : Int32)) + (1 : Int32)) + (1 : Int32))), .val (.int (own_s (own_f1 fm ft (p4 + (999 : Int32))) ft ((p4 + (999 : Int32)) + (1 : Int32)))), .val (.long (own_cy (own_f1 fm ft (p4 + (999 : Int32))) ft g ((p4 + (999 : Int32)) + (1 : Int32)))), .second] [(.ref a6)])) _
      exact k
    obtain ⟨fs, hr, hrun, hended, hW, hsame⟩ := X11.leave (hlocks := hlk) (v := some (.ref a6)) (fun h => by rw [Bd.returns] at h; cases h)
    refine ⟨_, _, pre16 _ (retA X11 hx Bd.returns rfl rfl rfl (hb hby d2_111) hr), hrun, hended, _, _, rfl, ?_, ⟨_, rfl⟩, hW, hsame.mono (by decide) (by decide)⟩
    show Q2_r Z bm a6 bt p4 p5 q km kt fm ft g tw k6 f h0 n0 _ T11.heap _
    rw [e11]
    have hT := htw1.1
    have eF : own_fE tw fm ft (p4 + (999 : Int32)) ((p4 + (999 : Int32)) + (1 : Int32)) = (own_f1 (own_f1 fm ft (p4 + (999 : Int32))) ft ((p4 + (999 : Int32)) + (1 : Int32))) := if_neg hT
    have eR : (own_rE tw fm ft g f (p4 + (999 : Int32)) ((p4 + (999 : Int32)) + (1 : Int32))) = (own_r1 (own_f1 fm ft (p4 + (999 : Int32))) ft g (own_r1 fm ft g f (p4 + (999 : Int32))) ((p4 + (999 : Int32)) + (1 : Int32))) := if_neg hT
    refine ⟨rfl, N11, ?_, At11, ?_⟩
    · rw [eF]; exact Am11
    · rw [eR]; exact A611
theorem ef_2_n (m : MethodId) (bm bt : Addr) (q : Value) (p4 p5 : Int32) (hq : q.isRef = true) : entryFrame m #[(.ref bm), .null, (.ref bt), q, (.int p4), (.int p5)] 11 = mkF m 0 #[.val (.ref bm), .val .null, .val (.ref bt), .val q, .val (.int p4), .val (.int p5), .unset, .unset, .unset, .unset, .unset] [] := by
  rcases XT.refc hq with rfl | ⟨r, rfl⟩ <;> first | (simp [entryFrame, mkF, argsToLocals, Value.category]; done) | rfl
def Q2_n (Z : State) (bm : Addr) (bt : Addr) (p4 : Int32) (p5 : Int32) (q : Value) (km : ClassId) (kt : ClassId) (fm : Nat → Int32) (ft : Nat → Int32) (g : Nat → Int64) (tw : Int32) (h0 : Heap) (n0 : Nat) (v : Option Value) (h : Heap) (L : List Loc) : Prop := ∃ r', v = some r' ∧ Fr n0 L ∧ BA Z h bm km (own_fE tw fm ft (p4 + (999 : Int32)) ((p4 + (999 : Int32)) + (1 : Int32))) ∧ BA Z h bt kt ft ∧ ((r' = .null ∧ ¬ (0 : Int64) < own_cy fm ft g (p4 + (999 : Int32)) ∧ (tw = 0 ∨ ¬ (0 : Int64) < own_cy (own_f1 fm ft (p4 + (999 : Int32))) ft g ((p4 + (999 : Int32)) + (1 : Int32)))) ∨ (((0 : Int64) < own_cy fm ft g (p4 + (999 : Int32)) ∨ (¬ tw = 0 ∧ (0 : Int64) < own_cy (own_f1 fm ft (p4 + (999 : Int32))) ft g ((p4 + (999 : Int32)) + (1 : Int32)))) ∧ ∃ a k, r' = .ref a ∧ LA Z h a k (own_rE tw fm ft g own_z64 (p4 + (999 : Int32)) ((p4 + (999 : Int32)) + (1 : Int32)))))
set_option maxRecDepth 65536 in
set_option maxHeartbeats 40000000 in
theorem rm2_n (l : Launch) (Z : State) (a0 : Array Value) (hw : ∀ d ∈ tables_1, d.before a0 Z = true) (ws : List Jvm.Cond) (bm : Addr) (bt : Addr) (p4 : Int32) (p5 : Int32) (q : Value) (km : ClassId) (kt : ClassId) (fm : Nat → Int32) (ft : Nat → Int32) (g : Nat → Int64) (tw : Int32) (h0 : Heap) (n0 : Nat) (Z0 : n0 ≤ h0.size) (hqr : q.isRef = true) (Am : BA Z h0 bm km fm) (At_ : BA Z h0 bt kt ft) (ne_bt_bm : bt ≠ bm) (g_bm : n0 ≤ bm) (h4 : -999 ≤ p4.toInt ∧ p4.toInt ≤ 999) (htw : (tw = 0 ∧ p5 = p4) ∨ (¬ tw = 0 ∧ p5.toInt = p4.toInt + 1 ∧ p5.toInt ≤ 999)) (hg : ∀ i, 0 ≤ (g i).toInt ∧ (g i).toInt < 2 ^ 62) (Hq : (q = .null ∧ ∀ i_, g i_ = 0) ∨ (∃ a k, q = .ref a ∧ a ≠ bm ∧ a ≠ bm ∧ LA Z h0 a k g)) :
    MetFree l (⟨"com/example/lanescan/lanescan/Distribution", "merge", "([B[J[B[JII)[J"⟩ : MethodName) (head1 (Jvm.Cond.code (⟨"com/example/lanescan/lanescan/Distribution", "merge", "([B[J[B[JII)[J"⟩ : MethodName) prog_2_method_5_code 11 (some (.array .long)) :: ws) ({ frames := 0, cells := 1, slots := 1999, locals := 0 } : Room)) (fun a U => a = #[(.ref bm), .null, (.ref bt), q, (.int p4), (.int p5)] ∧ Z.Warmed39 U.vm ∧ U.heap = h0) (fun _ _ _ _ _ => True) (fun _ U o U' => ∃ v L, o = .returned v ∧ Q2_n Z bm bt p4 p5 q km kt fm ft g tw h0 n0 v U'.heap L ∧ FrameEnd U o U' L ({ frames := 0, cells := 1, slots := 1999, locals := 0 } : Room).cells ({ frames := 0, cells := 1, slots := 1999, locals := 0 } : Room).slots) := by
  refine MetFree.of_bodySF (plainFor_of_name pn_com_example_lanescan_lanescan_Distribution) hisR ?_
  intro p e s m args below meth c s₁ Bd hml0 hP hK
  obtain ⟨rfl, hZ, hh⟩ := hP
  have hx := Bd.exec
  have hby := Bd.bytes
  have hml : c.maxLocals = 11 := hml0
  have hown : s.vm.findClass "com/example/lanescan/lanescan/Distribution" = some m.cls := findClass_of_methodNamed Bd.named
  have hnm := (name_of_methodNamed Bd.named Bd.method).1
  have hlk : meth.locks = false := BodyLoose.notSynchronized Bd
  have X0 : Stand p l e ({ frames := 0, cells := 1, slots := 1999, locals := 0 } : Room) s m #[(.ref bm), .null, (.ref bt), q, (.int p4), (.int p5)] below meth c s₁ [] 0 0 := Stand.of_body Bd
  have e0 : s₁.heap = h0 := by rw [← hh, Bd.state]; rfl
  have N0 := Fr.nil n0
  have pre0 : Go p e below (s₁.setTop (entryFrame m #[(.ref bm), .null, (.ref bt), q, (.int p4), (.int p5)] 11)) (s₁.setTop (mkF m 0 #[.val (.ref bm), .val .null, .val (.ref bt), .val q, .val (.int p4), .val (.int p5), .unset, .unset, .unset, .unset, .unset] [])) := fun t k => castTop (ef_2_n m bm bt q p4 p5 hqr) k
  have hix := own_idx h4 htw
  have pre1 : Go p e below (s₁.setTop (entryFrame m #[(.ref bm), .null, (.ref bt), q, (.int p4), (.int p5)] 11)) (s₁.setTop (mkF m 19 #[.val (.ref bm), .val .null, .val (.ref bt), .val q, .val (.int p4), .val (.int p5), .val .null, .val (.int (p4 + (999 : Int32))), .unset, .unset, .unset] [(.int (p5 + (999 : Int32))), (.int (p4 + (999 : Int32)))])) := by
    intro t k
    refine pre0 t ?_
    show Steps p.tables e below (s₁.setTop (mkF m 0 #[.val (.ref bm), .val .null, .val (.ref bt), .val q, .val (.int p4), .val (.int p5), .unset, .unset, .unset, .unset, .unset] [])) _
    refine XS.aloadN X0.here hx rfl (hb hby d2_0) rfl rfl ?_
    show Steps p.tables e below (s₁.setTop (mkF m 1 #[.val (.ref bm), .val .null, .val (.ref bt), .val q, .val (.int p4), .val (.int p5), .unset, .unset, .unset, .unset, .unset] [.null])) _
    refine XS.astore X0.here hx rfl (hb hby d2_1) rfl rfl (l' := #[.val (.ref bm), .val .null, .val (.ref bt), .val q, .val (.int p4), .val (.int p5), .val .null, .unset, .unset, .unset, .unset]) rfl ?_
    show Steps p.tables e below (s₁.setTop (mkF m 3 #[.val (.ref bm), .val .null, .val (.ref bt), .val q, .val (.int p4), .val (.int p5), .val .null, .unset, .unset, .unset, .unset] [])) _
    refine XS.iload X0.here hx rfl (hb hby d2_3) rfl ?_
    show Steps p.tables e below (s₁.setTop (mkF m 5 #[.val (.ref bm), .val .null, .val (.ref bt), .val q, .val (.int p4), .val (.int p5), .val .null, .unset, .unset, .unset, .unset] [(.int p4)])) _
    refine XS.sipush X0.here hx rfl (hb hby d2_5) ?_
    show Steps p.tables e below (s₁.setTop (mkF m 8 #[.val (.ref bm), .val .null, .val (.ref bt), .val q, .val (.int p4), .val (.int p5), .val .null, .unset, .unset, .unset, .unset] [(.int (999 : Int32)), (.int p4)])) _
    refine XS.iadd X0.here hx rfl (hb hby d2_8) rfl ?_
    show Steps p.tables e below (s₁.setTop (mkF m 9 #[.val (.ref bm), .val .null, .val (.ref bt), .val q, .val (.int p4), .val (.int p5), .val .null, .unset, .unset, .unset, .unset] [(.int (p4 + (999 : Int32)))])) _
    refine XS.istore X0.here hx rfl (hb hby d2_9) rfl (l' := #[.val (.ref bm), .val .null, .val (.ref bt), .val q, .val (.int p4), .val (.int p5), .val .null, .val (.int (p4 + (999 : Int32))), .unset, .unset, .unset]) rfl ?_
    show Steps p.tables e below (s₁.setTop (mkF m 11 #[.val (.ref bm), .val .null, .val (.ref bt), .val q, .val (.int p4), .val (.int p5), .val .null, .val (.int (p4 + (999 : Int32))), .unset, .unset, .unset] [])) _
    refine XS.iload X0.here hx rfl (hb hby d2_11) rfl ?_
    show Steps p.tables e below (s₁.setTop (mkF m 13 #[.val (.ref bm), .val .null, .val (.ref bt), .val q, .val (.int p4), .val (.int p5), .val .null, .val (.int (p4 + (999 : Int32))), .unset, .unset, .unset] [(.int (p4 + (999 : Int32)))])) _
    refine XS.iload X0.here hx rfl (hb hby d2_13) rfl ?_
    show Steps p.tables e below (s₁.setTop (mkF m 15 #[.val (.ref bm), .val .null, .val (.ref bt), .val q, .val (.int p4), .val (.int p5), .val .null, .val (.int (p4 + (999 : Int32))), .unset, .unset, .unset] [(.int p5), (.int (p4 + (999 : Int32)))])) _
    refine XS.sipush X0.here hx rfl (hb hby d2_15) ?_
    show Steps p.tables e below (s₁.setTop (mkF m 18 #[.val (.ref bm), .val .null, .val (.ref bt), .val q, .val (.int p4), .val (.int p5), .val .null, .val (.int (p4 + (999 : Int32))), .unset, .unset, .unset] [(.int (999 : Int32)), (.int p5), (.int (p4 + (999 : Int32)))])) _
    refine XS.iadd X0.here hx rfl (hb hby d2_18) rfl ?_
    show Steps p.tables e below (s₁.setTop (mkF m 19 #[.val (.ref bm), .val .null, .val (.ref bt), .val q, .val (.int p4), .val (.int p5), .val .null, .val (.int (p4 + (999 : Int32))), .unset, .unset, .unset] [(.int (p5 + (999 : Int32))), (.int (p4 + (999 : Int32)))])) _
    exact k
  have hc19_2 : ¬ ((p5 + (999 : Int32)) < (p4 + (999 : Int32))) := by
    rw [Int32.lt_iff_toInt_lt]; obtain ⟨w1, w2, w3, w4, w5⟩ := hix; omega
  have pre3 : Go p e below (s₁.setTop (entryFrame m #[(.ref bm), .null, (.ref bt), q, (.int p4), (.int p5)] 11)) (s₁.setTop (mkF m 22 #[.val (.ref bm), .val .null, .val (.ref bt), .val q, .val (.int p4), .val (.int p5), .val .null, .val (.int (p4 + (999 : Int32))), .unset, .unset, .unset] [])) := by
    intro t k
    refine pre1 t ?_
    show Steps p.tables e below (s₁.setTop (mkF m 19 #[.val (.ref bm), .val .null, .val (.ref bt), .val q, .val (.int p4), .val (.int p5), .val .null, .val (.int (p4 + (999 : Int32))), .unset, .unset, .unset] [(.int (p5 + (999 : Int32))), (.int (p4 + (999 : Int32)))])) _
    refine XS.icmpNo X0.here hx rfl (hb hby d2_19) rfl (XT.ii_gt_f hc19_2) ?_
    show Steps p.tables e below (s₁.setTop (mkF m 22 #[.val (.ref bm), .val .null, .val (.ref bt), .val q, .val (.int p4), .val (.int p5), .val .null, .val (.int (p4 + (999 : Int32))), .unset, .unset, .unset] [])) _
    exact k
  have hj0 := own_inr (i := (p4 + (999 : Int32))) (by omega)
  have m4 := tm1a (r1 := .null) (r6 := .null) (p4 := p4) (p5 := p5) (i := (p4 + (999 : Int32))) X0 hx hZ hw hby hml hown e0 N0 Z0 hj0 Am At_ (Hq.imp id fun ⟨a, k, q1, q2⟩ => ⟨a, k, q1, q2.2.2⟩)
  have pre5 : Go p e below (s₁.setTop (entryFrame m #[(.ref bm), .null, (.ref bt), q, (.int p4), (.int p5)] 11)) (s₁.setTop (mkF m 62 #[.val (.ref bm), .val .null, .val (.ref bt), .val q, .val (.int p4), .val (.int p5), .val .null, .val (.int (p4 + (999 : Int32))), .val (.int (own_s fm ft (p4 + (999 : Int32)))), .val (.long (own_cy fm ft g (p4 + (999 : Int32)))), .second] [])) := fun t k => pre3 t (m4 t k)
  obtain ⟨T4, h4, lc4, e4, N4, K4, Am4, hD4⟩ := tm2n (r1 := .null) (q := q) (p4 := p4) (p5 := p5) (sv := (own_s fm ft (p4 + (999 : Int32)))) (cy := (own_cy fm ft g (p4 + (999 : Int32)))) (i := (p4 + (999 : Int32))) X0 hx hZ hw hby hml hown e0 N0 Z0 (by rfl) hqr hj0 Am g_bm
  have At4 := At_.keep K4 (ninS ne_bt_bm nin0)
  have Hq4 : (q = .null ∧ ∀ i_, g i_ = 0) ∨ (∃ a k, q = .ref a ∧ a ≠ bm ∧ a ≠ bm ∧ LA Z h4 a k g) := Hq.imp id fun ⟨a, k, q1, q2, q3, q4⟩ => ⟨a, k, q1, q2, q3, q4.keep K4 (ninS q2 nin0)⟩
  have zz4 := Nat.le_trans Z0 K4.1
  rcases hD4 with ⟨hn4, X4z, g4z⟩ | ⟨hn4, an4, ka4, sz4, Aa4, X4z, g4z⟩
  · skip
    have pre6 : Go p e below (s₁.setTop (entryFrame m #[(.ref bm), .null, (.ref bt), q, (.int p4), (.int p5)] 11)) (T4.setTop (mkF m 11 #[.val (.ref bm), .val .null, .val (.ref bt), .val q, .val (.int p4), .val (.int p5), .val .null, .val (.int ((p4 + (999 : Int32)) + (1 : Int32))), .val (.int (own_s fm ft (p4 + (999 : Int32)))), .val (.long (own_cy fm ft g (p4 + (999 : Int32)))), .second] [])) := fun t k => pre5 t (g4z t k)
    have pre7 : Go p e below (s₁.setTop (entryFrame m #[(.ref bm), .null, (.ref bt), q, (.int p4), (.int p5)] 11)) (T4.setTop (mkF m 19 #[.val (.ref bm), .val .null, .val (.ref bt), .val q, .val (.int p4), .val (.int p5), .val .null, .val (.int ((p4 + (999 : Int32)) + (1 : Int32))), .val (.int (own_s fm ft (p4 + (999 : Int32)))), .val (.long (own_cy fm ft g (p4 + (999 : Int32)))), .second] [(.int (p5 + (999 : Int32))), (.int ((p4 + (999 : Int32)) + (1 : Int32)))])) := by
      intro t k
      refine pre6 t ?_
      show Steps p.tables e below (T4.setTop (mkF m 11 #[.val (.ref bm), .val .null, .val (.ref bt), .val q, .val (.int p4), .val (.int p5), .val .null, .val (.int ((p4 + (999 : Int32)) + (1 : Int32))), .val (.int (own_s fm ft (p4 + (999 : Int32)))), .val (.long (own_cy fm ft g (p4 + (999 : Int32)))), .second] [])) _
      refine XS.iload X4z.here hx rfl (hb hby d2_11) rfl ?_
      show Steps p.tables e below (T4.setTop (mkF m 13 #[.val (.ref bm), .val .null, .val (.ref bt), .val q, .val (.int p4), .val (.int p5), .val .null, .val (.int ((p4 + (999 : Int32)) + (1 : Int32))), .val (.int (own_s fm ft (p4 + (999 : Int32)))), .val (.long (own_cy fm ft g (p4 + (999 : Int32)))), .second] [(.int ((p4 + (999 : Int32)) + (1 : Int32)))])) _
      refine XS.iload X4z.here hx rfl (hb hby d2_13) rfl ?_
      show Steps p.tables e below (T4.setTop (mkF m 15 #[.val (.ref bm), .val .null, .val (.ref bt), .val q, .val (.int p4), .val (.int p5), .val .null, .val (.int ((p4 + (999 : Int32)) + (1 : Int32))), .val (.int (own_s fm ft (p4 + (999 : Int32)))), .val (.long (own_cy fm ft g (p4 + (999 : Int32)))), .second] [(.int p5), (.int ((p4 + (999 : Int32)) + (1 : Int32)))])) _
      refine XS.sipush X4z.here hx rfl (hb hby d2_15) ?_
      show Steps p.tables e below (T4.setTop (mkF m 18 #[.val (.ref bm), .val .null, .val (.ref bt), .val q, .val (.int p4), .val (.int p5), .val .null, .val (.int ((p4 + (999 : Int32)) + (1 : Int32))), .val (.int (own_s fm ft (p4 + (999 : Int32)))), .val (.long (own_cy fm ft g (p4 + (999 : Int32)))), .second] [(.int (999 : Int32)), (.int p5), (.int ((p4 + (999 : Int32)) + (1 : Int32)))])) _
      refine XS.iadd X4z.here hx rfl (hb hby d2_18) rfl ?_
      show Steps p.tables e below (T4.setTop (mkF m 19 #[.val (.ref bm), .val .null, .val (.ref bt), .val q, .val (.int p4), .val (.int p5), .val .null, .val (.int ((p4 + (999 : Int32)) + (1 : Int32))), .val (.int (own_s fm ft (p4 + (999 : Int32)))), .val (.long (own_cy fm ft g (p4 + (999 : Int32)))), .second] [(.int (p5 + (999 : Int32))), (.int ((p4 + (999 : Int32)) + (1 : Int32)))])) _
      exact k
    by_cases hc19_8 : (p5 + (999 : Int32)) < ((p4 + (999 : Int32)) + (1 : Int32))
    · skip
      have pre9 : Go p e below (s₁.setTop (entryFrame m #[(.ref bm), .null, (.ref bt), q, (.int p4), (.int p5)] 11)) (T4.setTop (mkF m 111 #[.val (.ref bm), .val .null, .val (.ref bt), .val q, .val (.int p4), .val (.int p5), .val .null, .val (.int ((p4 + (999 : Int32)) + (1 : Int32))), .val (.int (own_s fm ft (p4 + (999 : Int32)))), .val (.long (own_cy fm ft g (p4 + (999 : Int32)))), .second] [.null])) := by
        intro t k
        refine pre7 t ?_
        show Steps p.tables e below (T4.setTop (mkF m 19 #[.val (.ref bm), .val .null, .val (.ref bt), .val q, .val (.int p4), .val (.int p5), .val .null, .val (.int ((p4 + (999 : Int32)) + (1 : Int32))), .val (.int (own_s fm ft (p4 + (999 : Int32)))), .val (.long (own_cy fm ft g (p4 + (999 : Int32)))), .second] [(.int (p5 + (999 : Int32))), (.int ((p4 + (999 : Int32)) + (1 : Int32)))])) _
        refine XS.icmpYes X4z.here hx rfl (pc0 := 19) (pc' := 109) rfl (hb hby d2_19) rfl (XT.ii_gt_t hc19_8) (by decide) (by decide) ?_
        show Steps p.tables e below (T4.setTop (mkF m 109 #[.val (.ref bm), .val .null, .val (.ref bt), .val q, .val (.int p4), .val (.int p5), .val .null, .val (.int ((p4 + (999 : Int32)) + (1 : Int32))), .val (.int (own_s fm ft (p4 + (999 : Int32)))), .val (.long (own_cy fm ft g (p4 + (999 : Int32)))), .second] [])) _
        refine XS.aload X4z.here hx rfl (hb hby d2_109) rfl rfl ?_
        show Steps p.tables e below (T4.setTop (mkF m 111 #[.val (.ref bm), .val .null, .val (.ref bt), .val q, .val (.int p4), .val (.int p5), .val .null, .val (.int ((p4 + (999 : Int32)) + (1 : Int32))), .val (.int (own_s fm ft (p4 + (999 : Int32)))), .val (.long (own_cy fm ft g (p4 + (999 : Int32)))), .second] [.null])) _
        exact k
      obtain ⟨fs, hr, hrun, hended, hW, hsame⟩ := X4z.leave (hlocks := hlk) (v := some .null) (fun h => by rw [Bd.returns] at h; cases h)
      refine ⟨_, _, pre9 _ (retA X4z hx Bd.returns rfl rfl rfl (hb hby d2_111) hr), hrun, hended, _, _, rfl, ?_, ⟨_, rfl⟩, hW, hsame.mono (by decide) (by decide)⟩
      show Q2_n Z bm bt p4 p5 q km kt fm ft g tw h0 n0 _ T4.heap _
      rw [e4]
      have hT := own_onet htw hix hc19_8
      have eF : own_fE tw fm ft (p4 + (999 : Int32)) ((p4 + (999 : Int32)) + (1 : Int32)) = (own_f1 fm ft (p4 + (999 : Int32))) := if_pos hT
      refine ⟨.null, rfl, N4, ?_, At4, Or.inl ⟨rfl, hn4, Or.inl hT⟩⟩
      rw [eF]; exact Am4
    · skip
      have pre10 : Go p e below (s₁.setTop (entryFrame m #[(.ref bm), .null, (.ref bt), q, (.int p4), (.int p5)] 11)) (T4.setTop (mkF m 22 #[.val (.ref bm), .val .null, .val (.ref bt), .val q, .val (.int p4), .val (.int p5), .val .null, .val (.int ((p4 + (999 : Int32)) + (1 : Int32))), .val (.int (own_s fm ft (p4 + (999 : Int32)))), .val (.long (own_cy fm ft g (p4 + (999 : Int32)))), .second] [])) := by
        intro t k
        refine pre7 t ?_
        show Steps p.tables e below (T4.setTop (mkF m 19 #[.val (.ref bm), .val .null, .val (.ref bt), .val q, .val (.int p4), .val (.int p5), .val .null, .val (.int ((p4 + (999 : Int32)) + (1 : Int32))), .val (.int (own_s fm ft (p4 + (999 : Int32)))), .val (.long (own_cy fm ft g (p4 + (999 : Int32)))), .second] [(.int (p5 + (999 : Int32))), (.int ((p4 + (999 : Int32)) + (1 : Int32)))])) _
        refine XS.icmpNo X4z.here hx rfl (hb hby d2_19) rfl (XT.ii_gt_f hc19_8) ?_
        show Steps p.tables e below (T4.setTop (mkF m 22 #[.val (.ref bm), .val .null, .val (.ref bt), .val q, .val (.int p4), .val (.int p5), .val .null, .val (.int ((p4 + (999 : Int32)) + (1 : Int32))), .val (.int (own_s fm ft (p4 + (999 : Int32)))), .val (.long (own_cy fm ft g (p4 + (999 : Int32)))), .second] [])) _
        exact k
      have htw1 := own_two htw hix hc19_8
      have hj1 := own_inr (i := ((p4 + (999 : Int32)) + (1 : Int32))) (by rw [hix.2.1]; omega)
      have m11 := tm1b (r1 := .null) (r6 := .null) (p4 := p4) (p5 := p5) (i := ((p4 + (999 : Int32)) + (1 : Int32))) (s8 := (own_s fm ft (p4 + (999 : Int32)))) (c9 := (own_cy fm ft g (p4 + (999 : Int32)))) X4z hx hZ hw hby hml hown e4 N4 zz4 hj1 Am4 At4 (Hq4.imp id fun ⟨a, k, q1, q2⟩ => ⟨a, k, q1, q2.2.2⟩)
      have pre12 : Go p e below (s₁.setTop (entryFrame m #[(.ref bm), .null, (.ref bt), q, (.int p4), (.int p5)] 11)) (T4.setTop (mkF m 62 #[.val (.ref bm), .val .null, .val (.ref bt), .val q, .val (.int p4), .val (.int p5), .val .null, .val (.int ((p4 + (999 : Int32)) + (1 : Int32))), .val (.int (own_s (own_f1 fm ft (p4 + (999 : Int32))) ft ((p4 + (999 : Int32)) + (1 : Int32)))), .val (.long (own_cy (own_f1 fm ft (p4 + (999 : Int32))) ft g ((p4 + (999 : Int32)) + (1 : Int32)))), .second] [])) := fun t k => pre10 t (m11 t k)
      obtain ⟨T11, h11, lc11, e11, N11, K11, Am11, hD11⟩ := tm2n (r1 := .null) (q := q) (p4 := p4) (p5 := p5) (sv := (own_s (own_f1 fm ft (p4 + (999 : Int32))) ft ((p4 + (999 : Int32)) + (1 : Int32)))) (cy := (own_cy (own_f1 fm ft (p4 + (999 : Int32))) ft g ((p4 + (999 : Int32)) + (1 : Int32)))) (i := ((p4 + (999 : Int32)) + (1 : Int32))) X4z hx hZ hw hby hml hown e4 N4 zz4 (by rfl) hqr hj1 Am4 g_bm
      have At11 := At4.keep K11 (ninS ne_bt_bm nin0)
      have Hq11 : (q = .null ∧ ∀ i_, g i_ = 0) ∨ (∃ a k, q = .ref a ∧ a ≠ bm ∧ a ≠ bm ∧ LA Z h11 a k g) := Hq4.imp id fun ⟨a, k, q1, q2, q3, q4⟩ => ⟨a, k, q1, q2, q3, q4.keep K11 (ninS q2 nin0)⟩
      have zz11 := Nat.le_trans zz4 K11.1
      rcases hD11 with ⟨hn11, X11z, g11z⟩ | ⟨hn11, an11, ka11, sz11, Aa11, X11z, g11z⟩
      · skip
        have pre13 : Go p e below (s₁.setTop (entryFrame m #[(.ref bm), .null, (.ref bt), q, (.int p4), (.int p5)] 11)) (T11.setTop (mkF m 11 #[.val (.ref bm), .val .null, .val (.ref bt), .val q, .val (.int p4), .val (.int p5), .val .null, .val (.int (((p4 + (999 : Int32)) + (1 : Int32)) + (1 : Int32))), .val (.int (own_s (own_f1 fm ft (p4 + (999 : Int32))) ft ((p4 + (999 : Int32)) + (1 : Int32)))), .val (.long (own_cy (own_f1 fm ft (p4 + (999 : Int32))) ft g ((p4 + (999 : Int32)) + (1 : Int32)))), .second] [])) := fun t k => pre12 t (g11z t k)
        have pre14 : Go p e below (s₁.setTop (entryFrame m #[(.ref bm), .null, (.ref bt), q, (.int p4), (.int p5)] 11)) (T11.setTop (mkF m 19 #[.val (.ref bm), .val .null, .val (.ref bt), .val q, .val (.int p4), .val (.int p5), .val .null, .val (.int (((p4 + (999 : Int32)) + (1 : Int32)) + (1 : Int32))), .val (.int (own_s (own_f1 fm ft (p4 + (999 : Int32))) ft ((p4 + (999 : Int32)) + (1 : Int32)))), .val (.long (own_cy (own_f1 fm ft (p4 + (999 : Int32))) ft g ((p4 + (999 : Int32)) + (1 : Int32)))), .second] [(.int (p5 + (999 : Int32))), (.int (((p4 + (999 : Int32)) + (1 : Int32)) + (1 : Int32)))])) := by
          intro t k
          refine pre13 t ?_
          show Steps p.tables e below (T11.setTop (mkF m 11 #[.val (.ref bm), .val .null, .val (.ref bt), .val q, .val (.int p4), .val (.int p5), .val .null, .val (.int (((p4 + (999 : Int32)) + (1 : Int32)) + (1 : Int32))), .val (.int (own_s (own_f1 fm ft (p4 + (999 : Int32))) ft ((p4 + (999 : Int32)) + (1 : Int32)))), .val (.long (own_cy (own_f1 fm ft (p4 + (999 : Int32))) ft g ((p4 + (999 : Int32)) + (1 : Int32)))), .second] [])) _
          refine XS.iload X11z.here hx rfl (hb hby d2_11) rfl ?_
          show Steps p.tables e below (T11.setTop (mkF m 13 #[.val (.ref bm), .val .null, .val (.ref bt), .val q, .val (.int p4), .val (.int p5), .val .null, .val (.int (((p4 + (999 : Int32)) + (1 : Int32)) + (1 : Int32))), .val (.int (own_s (own_f1 fm ft (p4 + (999 : Int32))) ft ((p4 + (999 : Int32)) + (1 : Int32)))), .val (.long (own_cy (own_f1 fm ft (p4 + (999 : Int32))) ft g ((p4 + (999 : Int32)) + (1 : Int32)))), .second] [(.int (((p4 + (999 : Int32)) + (1 : Int32)) + (1 : Int32)))])) _
          refine XS.iload X11z.here hx rfl (hb hby d2_13) rfl ?_
          show Steps p.tables e below (T11.setTop (mkF m 15 #[.val (.ref bm), .val .null, .val (.ref bt), .val q, .val (.int p4), .val (.int p5), .val .null, .val (.int (((p4 + (999 : Int32)) + (1 : Int32)) + (1 : Int32))), .val (.int (own_s (own_f1 fm ft (p4 + (999 : Int32))) ft ((p4 + (999 : Int32)) + (1 : Int32)))), .val (.long (own_cy (own_f1 fm ft (p4 + (999 : Int32))) ft g ((p4 + (999 : Int32)) + (1 : Int32)))), .second] [(.int p5), (.int (((p4 + (999 : Int32)) + (1 : Int32)) + (1 : Int32)))])) _
          refine XS.sipush X11z.here hx rfl (hb hby d2_15) ?_
          show Steps p.tables e below (T11.setTop (mkF m 18 #[.val (.ref bm), .val .null, .val (.ref bt), .val q, .val (.int p4), .val (.int p5), .val .null, .val (.int (((p4 + (999 : Int32)) + (1 : Int32)) + (1 : Int32))), .val (.int (own_s (own_f1 fm ft (p4 + (999 : Int32))) ft ((p4 + (999 : Int32)) + (1 : Int32)))), .val (.long (own_cy (own_f1 fm ft (p4 + (999 : Int32))) ft g ((p4 + (999 : Int32)) + (1 : Int32)))), .second] [(.int (999 : Int32)), (.int p5), (.int (((p4 + (999 : Int32)) + (1 : Int32)) + (1 : Int32)))])) _
          refine XS.iadd X11z.here hx rfl (hb hby d2_18) rfl ?_
          show Steps p.tables e below (T11.setTop (mkF m 19 #[.val (.ref bm), .val .null, .val (.ref bt), .val q, .val (.int p4), .val (.int p5), .val .null, .val (.int (((p4 + (999 : Int32)) + (1 : Int32)) + (1 : Int32))), .val (.int (own_s (own_f1 fm ft (p4 + (999 : Int32))) ft ((p4 + (999 : Int32)) + (1 : Int32)))), .val (.long (own_cy (own_f1 fm ft (p4 + (999 : Int32))) ft g ((p4 + (999 : Int32)) + (1 : Int32)))), .second] [(.int (p5 + (999 : Int32))), (.int (((p4 + (999 : Int32)) + (1 : Int32)) + (1 : Int32)))])) _
          exact k
        have hc19_15 : (p5 + (999 : Int32)) < (((p4 + (999 : Int32)) + (1 : Int32)) + (1 : Int32)) := by
          rw [Int32.lt_iff_toInt_lt, hix.2.2.2.1, hix.2.2.1]; omega
        have pre16 : Go p e below (s₁.setTop (entryFrame m #[(.ref bm), .null, (.ref bt), q, (.int p4), (.int p5)] 11)) (T11.setTop (mkF m 111 #[.val (.ref bm), .val .null, .val (.ref bt), .val q, .val (.int p4), .val (.int p5), .val .null, .val (.int (((p4 + (999 : Int32)) + (1 : Int32)) + (1 : Int32))), .val (.int (own_s (own_f1 fm ft (p4 + (999 : Int32))) ft ((p4 + (999 : Int32)) + (1 : Int32)))), .val (.long (own_cy (own_f1 fm ft (p4 + (999 : Int32))) ft g ((p4 + (999 : Int32)) + (1 : Int32)))), .second] [.null])) := by
          intro t k
          refine pre14 t ?_
          show Steps p.tables e below (T11.setTop (mkF m 19 #[.val (.ref bm), .val .null, .val (.ref bt), .val q, .val (.int p4), .val (.int p5), .val .null, .val (.int (((p4 + (999 : Int32)) + (1 : Int32)) + (1 : Int32))), .val (.int (own_s (own_f1 fm ft (p4 + (999 : Int32))) ft ((p4 + (999 : Int32)) + (1 : Int32)))), .val (.long (own_cy (own_f1 fm ft (p4 + (999 : Int32))) ft g ((p4 + (999 : Int32)) + (1 : Int32)))), .second] [(.int (p5 + (999 : Int32))), (.int (((p4 + (999 : Int32)) + (1 : Int32)) + (1 : Int32)))])) _
          refine XS.icmpYes X11z.here hx rfl (pc0 := 19) (pc' := 109) rfl (hb hby d2_19) rfl (XT.ii_gt_t hc19_15) (by decide) (by decide) ?_
          show Steps p.tables e below (T11.setTop (mkF m 109 #[.val (.ref bm), .val .null, .val (.ref bt), .val q, .val (.int p4), .val (.int p5), .val .null, .val (.int (((p4 + (999 : Int32)) + (1 : Int32)) + (1 : Int32))), .val (.int (own_s (own_f1 fm ft (p4 + (999 : Int32))) ft ((p4 + (999 : Int32)) + (1 : Int32)))), .val (.long (own_cy (own_f1 fm ft (p4 + (999 : Int32))) ft g ((p4 + (999 : Int32)) + (1 : Int32)))), .second] [])) _
          refine XS.aload X11z.here hx rfl (hb hby d2_109) rfl rfl ?_
          show Steps p.tables e below (T11.setTop (mkF m 111 #[.val (.ref bm), .val .null, .val (.ref bt), .val q, .val (.int p4), .val (.int p5), .val .null, .val (.int (((p4 + (999 : Int32)) + (1 : Int32)) + (1 : Int32))), .val (.int (own_s (own_f1 fm ft (p4 + (999 : Int32))) ft ((p4 + (999 : Int32)) + (1 : Int32)))), .val (.long (own_cy (own_f1 fm ft (p4 + (999 : Int32))) ft g ((p4 + (999 : Int32)) + (1 : Int32)))), .second] [.null])) _
          exact k
        obtain ⟨fs, hr, hrun, hended, hW, hsame⟩ := X11z.leave (hlocks := hlk) (v := some .null) (fun h => by rw [Bd.returns] at h; cases h)
        refine ⟨_, _, pre16 _ (retA X11z hx Bd.returns rfl rfl rfl (hb hby d2_111) hr), hrun, hended, _, _, rfl, ?_, ⟨_, rfl⟩, hW, hsame.mono (by decide) (by decide)⟩
        show Q2_n Z bm bt p4 p5 q km kt fm ft g tw h0 n0 _ T11.heap _
        rw [e11]
        have hT := htw1.1
        have eF : own_fE tw fm ft (p4 + (999 : Int32)) ((p4 + (999 : Int32)) + (1 : Int32)) = (own_f1 (own_f1 fm ft (p4 + (999 : Int32))) ft ((p4 + (999 : Int32)) + (1 : Int32))) := if_neg hT
        refine ⟨.null, rfl, N11, ?_, At11, Or.inl ⟨rfl, hn4, Or.inr hn11⟩⟩
        rw [eF]; exact Am11
      · skip
        have pre17 : Go p e below (s₁.setTop (entryFrame m #[(.ref bm), .null, (.ref bt), q, (.int p4), (.int p5)] 11)) (T11.setTop (mkF m 11 #[.val (.ref bm), .val .null, .val (.ref bt), .val q, .val (.int p4), .val (.int p5), .val (.ref an11), .val (.int (((p4 + (999 : Int32)) + (1 : Int32)) + (1 : Int32))), .val (.int (own_s (own_f1 fm ft (p4 + (999 : Int32))) ft ((p4 + (999 : Int32)) + (1 : Int32)))), .val (.long (own_cy (own_f1 fm ft (p4 + (999 : Int32))) ft g ((p4 + (999 : Int32)) + (1 : Int32)))), .second] [])) := fun t k => pre12 t (g11z t k)
        have g_an11 : n0 ≤ an11 := Nat.le_trans zz4 sz11
        have ne_an11_bm : an11 ≠ bm := Nat.ne_of_gt (Nat.lt_of_lt_of_le Am4.lt sz11)
        have ne_bt_an11 : bt ≠ an11 := Nat.ne_of_lt (Nat.lt_of_lt_of_le At4.lt sz11)
        have Hr11 : (q = .null ∧ ∀ i_, g i_ = 0) ∨ (∃ a k, q = .ref a ∧ a ≠ bm ∧ a ≠ an11 ∧ LA Z h11 a k g) := Hq4.imp id fun ⟨a, k, q1, q2, q3, q4⟩ => ⟨a, k, q1, q2, Nat.ne_of_lt (Nat.lt_of_lt_of_le q4.lt sz11), q4.keep K11 (ninS q2 nin0)⟩
        have pre18 : Go p e below (s₁.setTop (entryFrame m #[(.ref bm), .null, (.ref bt), q, (.int p4), (.int p5)] 11)) (T11.setTop (mkF m 19 #[.val (.ref bm), .val .null, .val (.ref bt), .val q, .val (.int p4), .val (.int p5), .val (.ref an11), .val (.int (((p4 + (999 : Int32)) + (1 : Int32)) + (1 : Int32))), .val (.int (own_s (own_f1 fm ft (p4 + (999 : Int32))) ft ((p4 + (999 : Int32)) + (1 : Int32)))), .val (.long (own_cy (own_f1 fm ft (p4 + (999 : Int32))) ft g ((p4 + (999 : Int32)) + (1 : Int32)))), .second] [(.int (p5 + (999 : Int32))), (.int (((p4 + (999 : Int32)) + (1 : Int32)) + (1 : Int32)))])) := by
          intro t k
          refine pre17 t ?_
          show Steps p.tables e below (T11.setTop (mkF m 11 #[.val (.ref bm), .val .null, .val (.ref bt), .val q, .val (.int p4), .val (.int p5), .val (.ref an11), .val (.int (((p4 + (999 : Int32)) + (1 : Int32)) + (1 : Int32))), .val (.int (own_s (own_f1 fm ft (p4 + (999 : Int32))) ft ((p4 + (999 : Int32)) + (1 : Int32)))), .val (.long (own_cy (own_f1 fm ft (p4 + (999 : Int32))) ft g ((p4 + (999 : Int32)) + (1 : Int32)))), .second] [])) _
          refine XS.iload X11z.here hx rfl (hb hby d2_11) rfl ?_
          show Steps p.tables e below (T11.setTop (mkF m 13 #[.val (.ref bm), .val .null, .val (.ref bt), .val q, .val (.int p4), .val (.int p5), .val (.ref an11), .val (.int (((p4 + (999 : Int32)) + (1 : Int32)) + (1 : Int32))), .val (.int (own_s (own_f1 fm ft (p4 + (999 : Int32))) ft ((p4 + (999 : Int32)) + (1 : Int32)))), .val (.long (own_cy (own_f1 fm ft (p4 + (999 : Int32))) ft g ((p4 + (999 : Int32)) + (1 : Int32)))), .second] [(.int (((p4 + (999 : Int32)) + (1 : Int32)) + (1 : Int32)))])) _
          refine XS.iload X11z.here hx rfl (hb hby d2_13) rfl ?_
          show Steps p.tables e below (T11.setTop (mkF m 15 #[.val (.ref bm), .val .null, .val (.ref bt), .val q, .val (.int p4), .val (.int p5), .val (.ref an11), .val (.int (((p4 + (999 : Int32)) + (1 : Int32)) + (1 : Int32))), .val (.int (own_s (own_f1 fm ft (p4 + (999 : Int32))) ft ((p4 + (999 : Int32)) + (1 : Int32)))), .val (.long (own_cy (own_f1 fm ft (p4 + (999 : Int32))) ft g ((p4 + (999 : Int32)) + (1 : Int32)))), .second] [(.int p5), (.int (((p4 + (999 : Int32)) + (1 : Int32)) + (1 : Int32)))])) _
          refine XS.sipush X11z.here hx rfl (hb hby d2_15) ?_
          show Steps p.tables e below (T11.setTop (mkF m 18 #[.val (.ref bm), .val .null, .val (.ref bt), .val q, .val (.int p4), .val (.int p5), .val (.ref an11), .val (.int (((p4 + (999 : Int32)) + (1 : Int32)) + (1 : Int32))), .val (.int (own_s (own_f1 fm ft (p4 + (999 : Int32))) ft ((p4 + (999 : Int32)) + (1 : Int32)))), .val (.long (own_cy (own_f1 fm ft (p4 + (999 : Int32))) ft g ((p4 + (999 : Int32)) + (1 : Int32)))), .second] [(.int (999 : Int32)), (.int p5), (.int (((p4 + (999 : Int32)) + (1 : Int32)) + (1 : Int32)))])) _
          refine XS.iadd X11z.here hx rfl (hb hby d2_18) rfl ?_
          show Steps p.tables e below (T11.setTop (mkF m 19 #[.val (.ref bm), .val .null, .val (.ref bt), .val q, .val (.int p4), .val (.int p5), .val (.ref an11), .val (.int (((p4 + (999 : Int32)) + (1 : Int32)) + (1 : Int32))), .val (.int (own_s (own_f1 fm ft (p4 + (999 : Int32))) ft ((p4 + (999 : Int32)) + (1 : Int32)))), .val (.long (own_cy (own_f1 fm ft (p4 + (999 : Int32))) ft g ((p4 + (999 : Int32)) + (1 : Int32)))), .second] [(.int (p5 + (999 : Int32))), (.int (((p4 + (999 : Int32)) + (1 : Int32)) + (1 : Int32)))])) _
          exact k
        have hc19_19 : (p5 + (999 : Int32)) < (((p4 + (999 : Int32)) + (1 : Int32)) + (1 : Int32)) := by
          rw [Int32.lt_iff_toInt_lt, hix.2.2.2.1, hix.2.2.1]; omega
        have pre20 : Go p e below (s₁.setTop (entryFrame m #[(.ref bm), .null, (.ref bt), q, (.int p4), (.int p5)] 11)) (T11.setTop (mkF m 111 #[.val (.ref bm), .val .null, .val (.ref bt), .val q, .val (.int p4), .val (.int p5), .val (.ref an11), .val (.int (((p4 + (999 : Int32)) + (1 : Int32)) + (1 : Int32))), .val (.int (own_s (own_f1 fm ft (p4 + (999 : Int32))) ft ((p4 + (999 : Int32)) + (1 : Int32)))), .val (.long (own_cy (own_f1 fm ft (p4 + (999 : Int32))) ft g ((p4 + (999 : Int32)) + (1 : Int32)))), .second] [(.ref an11)])) := by
          intro t k
          refine pre18 t ?_
          show Steps p.tables e below (T11.setTop (mkF m 19 #[.val (.ref bm), .val .null, .val (.ref bt), .val q, .val (.int p4), .val (.int p5), .val (.ref an11), .val (.int (((p4 + (999 : Int32)) + (1 : Int32)) + (1 : Int32))), .val (.int (own_s (own_f1 fm ft (p4 + (999 : Int32))) ft ((p4 + (999 : Int32)) + (1 : Int32)))), .val (.long (own_cy (own_f1 fm ft (p4 + (999 : Int32))) ft g ((p4 + (999 : Int32)) + (1 : Int32)))), .second] [(.int (p5 + (999 : Int32))), (.int (((p4 + (999 : Int32)) + (1 : Int32)) + (1 : Int32)))])) _
          refine XS.icmpYes X11z.here hx rfl (pc0 := 19) (pc' := 109) rfl (hb hby d2_19) rfl (XT.ii_gt_t hc19_19) (by decide) (by decide) ?_
          show Steps p.tables e below (T11.setTop (mkF m 109 #[.val (.ref bm), .val .null, .val (.ref bt), .val q, .val (.int p4), .val (.int p5), .val (.ref an11), .val (.int (((p4 + (999 : Int32)) + (1 : Int32)) + (1 : Int32))), .val (.int (own_s (own_f1 fm ft (p4 + (999 : Int32))) ft ((p4 + (999 : Int32)) + (1 : Int32)))), .val (.long (own_cy (own_f1 fm ft (p4 + (999 : Int32))) ft g ((p4 + (999 : Int32)) + (1 : Int32)))), .second] [])) _
          refine XS.aload X11z.here hx rfl (hb hby d2_109) rfl rfl ?_
          show Steps p.tables e below (T11.setTop (mkF m 111 #[.val (.ref bm), .val .null, .val (.ref bt), .val q, .val (.int p4), .val (.int p5), .val (.ref an11), .val (.int (((p4 + (999 : Int32)) + (1 : Int32)) + (1 : Int32))), .val (.int (own_s (own_f1 fm ft (p4 + (999 : Int32))) ft ((p4 + (999 : Int32)) + (1 : Int32)))), .val (.long (own_cy (own_f1 fm ft (p4 + (999 : Int32))) ft g ((p4 + (999 : Int32)) + (1 : Int32)))), .second] [(.ref an11)])) _
          exact k
        obtain ⟨fs, hr, hrun, hended, hW, hsame⟩ := X11z.leave (hlocks := hlk) (v := some (.ref an11)) (fun h => by rw [Bd.returns] at h; cases h)
        refine ⟨_, _, pre20 _ (retA X11z hx Bd.returns rfl rfl rfl (hb hby d2_111) hr), hrun, hended, _, _, rfl, ?_, ⟨_, rfl⟩, hW, hsame.mono (by decide) (by decide)⟩
        show Q2_n Z bm bt p4 p5 q km kt fm ft g tw h0 n0 _ T11.heap _
        rw [e11]
        have hT := htw1.1
        have eF : own_fE tw fm ft (p4 + (999 : Int32)) ((p4 + (999 : Int32)) + (1 : Int32)) = (own_f1 (own_f1 fm ft (p4 + (999 : Int32))) ft ((p4 + (999 : Int32)) + (1 : Int32))) := if_neg hT
        have eR : (own_rE tw fm ft g own_z64 (p4 + (999 : Int32)) ((p4 + (999 : Int32)) + (1 : Int32))) = (own_r1 (own_f1 fm ft (p4 + (999 : Int32))) ft g own_z64 ((p4 + (999 : Int32)) + (1 : Int32))) := by
          rw [own_rE, if_neg hT, show own_r1 fm ft g own_z64 (p4 + (999 : Int32)) = own_z64 from own_same64 (own_cy0 hg hn4)]
        refine ⟨.ref an11, rfl, N11, ?_, At11, Or.inr ⟨Or.inr ⟨hT, hn11⟩, an11, ka11, rfl, ?_⟩⟩
        · rw [eF]; exact Am11
        · rw [eR]; exact Aa11
  · skip
    have pre21 : Go p e below (s₁.setTop (entryFrame m #[(.ref bm), .null, (.ref bt), q, (.int p4), (.int p5)] 11)) (T4.setTop (mkF m 11 #[.val (.ref bm), .val .null, .val (.ref bt), .val q, .val (.int p4), .val (.int p5), .val (.ref an4), .val (.int ((p4 + (999 : Int32)) + (1 : Int32))), .val (.int (own_s fm ft (p4 + (999 : Int32)))), .val (.long (own_cy fm ft g (p4 + (999 : Int32)))), .second] [])) := fun t k => pre5 t (g4z t k)
    have g_an4 : n0 ≤ an4 := Nat.le_trans Z0 sz4
    have ne_an4_bm : an4 ≠ bm := Nat.ne_of_gt (Nat.lt_of_lt_of_le Am.lt sz4)
    have ne_bt_an4 : bt ≠ an4 := Nat.ne_of_lt (Nat.lt_of_lt_of_le At_.lt sz4)
    have Hr4 : (q = .null ∧ ∀ i_, g i_ = 0) ∨ (∃ a k, q = .ref a ∧ a ≠ bm ∧ a ≠ an4 ∧ LA Z h4 a k g) := Hq.imp id fun ⟨a, k, q1, q2, q3, q4⟩ => ⟨a, k, q1, q2, Nat.ne_of_lt (Nat.lt_of_lt_of_le q4.lt sz4), q4.keep K4 (ninS q2 nin0)⟩
    have pre22 : Go p e below (s₁.setTop (entryFrame m #[(.ref bm), .null, (.ref bt), q, (.int p4), (.int p5)] 11)) (T4.setTop (mkF m 19 #[.val (.ref bm), .val .null, .val (.ref bt), .val q, .val (.int p4), .val (.int p5), .val (.ref an4), .val (.int ((p4 + (999 : Int32)) + (1 : Int32))), .val (.int (own_s fm ft (p4 + (999 : Int32)))), .val (.long (own_cy fm ft g (p4 + (999 : Int32)))), .second] [(.int (p5 + (999 : Int32))), (.int ((p4 + (999 : Int32)) + (1 : Int32)))])) := by
      intro t k
      refine pre21 t ?_
      show Steps p.tables e below (T4.setTop (mkF m 11 #[.val (.ref bm), .val .null, .val (.ref bt), .val q, .val (.int p4), .val (.int p5), .val (.ref an4), .val (.int ((p4 + (999 : Int32)) + (1 : Int32))), .val (.int (own_s fm ft (p4 + (999 : Int32)))), .val (.long (own_cy fm ft g (p4 + (999 : Int32)))), .second] [])) _
      refine XS.iload X4z.here hx rfl (hb hby d2_11) rfl ?_
      show Steps p.tables e below (T4.setTop (mkF m 13 #[.val (.ref bm), .val .null, .val (.ref bt), .val q, .val (.int p4), .val (.int p5), .val (.ref an4), .val (.int ((p4 + (999 : Int32)) + (1 : Int32))), .val (.int (own_s fm ft (p4 + (999 : Int32)))), .val (.long (own_cy fm ft g (p4 + (999 : Int32)))), .second] [(.int ((p4 + (999 : Int32)) + (1 : Int32)))])) _
      refine XS.iload X4z.here hx rfl (hb hby d2_13) rfl ?_
      show Steps p.tables e below (T4.setTop (mkF m 15 #[.val (.ref bm), .val .null, .val (.ref bt), .val q, .val (.int p4), .val (.int p5), .val (.ref an4), .val (.int ((p4 + (999 : Int32)) + (1 : Int32))), .val (.int (own_s fm ft (p4 + (999 : Int32)))), .val (.long (own_cy fm ft g (p4 + (999 : Int32)))), .second] [(.int p5), (.int ((p4 + (999 : Int32)) + (1 : Int32)))])) _
      refine XS.sipush X4z.here hx rfl (hb hby d2_15) ?_
      show Steps p.tables e below (T4.setTop (mkF m 18 #[.val (.ref bm), .val .null, .val (.ref bt), .val q, .val (.int p4), .val (.int p5), .val (.ref an4), .val (.int ((p4 + (999 : Int32)) + (1 : Int32))), .val (.int (own_s fm ft (p4 + (999 : Int32)))), .val (.long (own_cy fm ft g (p4 + (999 : Int32)))), .second] [(.int (999 : Int32)), (.int p5), (.int ((p4 + (999 : Int32)) + (1 : Int32)))])) _
      refine XS.iadd X4z.here hx rfl (hb hby d2_18) rfl ?_
      show Steps p.tables e below (T4.setTop (mkF m 19 #[.val (.ref bm), .val .null, .val (.ref bt), .val q, .val (.int p4), .val (.int p5), .val (.ref an4), .val (.int ((p4 + (999 : Int32)) + (1 : Int32))), .val (.int (own_s fm ft (p4 + (999 : Int32)))), .val (.long (own_cy fm ft g (p4 + (999 : Int32)))), .second] [(.int (p5 + (999 : Int32))), (.int ((p4 + (999 : Int32)) + (1 : Int32)))])) _
      exact k
    by_cases hc19_23 : (p5 + (999 : Int32)) < ((p4 + (999 : Int32)) + (1 : Int32))
    · skip
      have pre24 : Go p e below (s₁.setTop (entryFrame m #[(.ref bm), .null, (.ref bt), q, (.int p4), (.int p5)] 11)) (T4.setTop (mkF m 111 #[.val (.ref bm), .val .null, .val (.ref bt), .val q, .val (.int p4), .val (.int p5), .val (.ref an4), .val (.int ((p4 + (999 : Int32)) + (1 : Int32))), .val (.int (own_s fm ft (p4 + (999 : Int32)))), .val (.long (own_cy fm ft g (p4 + (999 : Int32)))), .second] [(.ref an4)])) := by
        intro t k
        refine pre22 t ?_
        show Steps p.tables e below (T4.setTop (mkF m 19 #[.val (.ref bm), .val .null, .val (.ref bt), .val q, .val (.int p4), .val (.int p5), .val (.ref an4), .val (.int ((p4 + (999 : Int32)) + (1 : Int32))), .val (.int (own_s fm ft (p4 + (999 : Int32)))), .val (.long (own_cy fm ft g (p4 + (999 : Int32)))), .second] [(.int (p5 + (999 : Int32))), (.int ((p4 + (999 : Int32)) + (1 : Int32)))])) _
        refine XS.icmpYes X4z.here hx rfl (pc0 := 19) (pc' := 109) rfl (hb hby d2_19) rfl (XT.ii_gt_t hc19_23) (by decide) (by decide) ?_
        show Steps p.tables e below (T4.setTop (mkF m 109 #[.val (.ref bm), .val .null, .val (.ref bt), .val q, .val (.int p4), .val (.int p5), .val (.ref an4), .val (.int ((p4 + (999 : Int32)) + (1 : Int32))), .val (.int (own_s fm ft (p4 + (999 : Int32)))), .val (.long (own_cy fm ft g (p4 + (999 : Int32)))), .second] [])) _
        refine XS.aload X4z.here hx rfl (hb hby d2_109) rfl rfl ?_
        show Steps p.tables e below (T4.setTop (mkF m 111 #[.val (.ref bm), .val .null, .val (.ref bt), .val q, .val (.int p4), .val (.int p5), .val (.ref an4), .val (.int ((p4 + (999 : Int32)) + (1 : Int32))), .val (.int (own_s fm ft (p4 + (999 : Int32)))), .val (.long (own_cy fm ft g (p4 + (999 : Int32)))), .second] [(.ref an4)])) _
        exact k
      obtain ⟨fs, hr, hrun, hended, hW, hsame⟩ := X4z.leave (hlocks := hlk) (v := some (.ref an4)) (fun h => by rw [Bd.returns] at h; cases h)
      refine ⟨_, _, pre24 _ (retA X4z hx Bd.returns rfl rfl rfl (hb hby d2_111) hr), hrun, hended, _, _, rfl, ?_, ⟨_, rfl⟩, hW, hsame.mono (by decide) (by decide)⟩
      show Q2_n Z bm bt p4 p5 q km kt fm ft g tw h0 n0 _ T4.heap _
      rw [e4]
      have hT := own_onet htw hix hc19_23
      have eF : own_fE tw fm ft (p4 + (999 : Int32)) ((p4 + (999 : Int32)) + (1 : Int32)) = (own_f1 fm ft (p4 + (999 : Int32))) := if_pos hT
      have eR : (own_rE tw fm ft g own_z64 (p4 + (999 : Int32)) ((p4 + (999 : Int32)) + (1 : Int32))) = (own_r1 fm ft g own_z64 (p4 + (999 : Int32))) := if_pos hT
      refine ⟨.ref an4, rfl, N4, ?_, At4, Or.inr ⟨Or.inl hn4, an4, ka4, rfl, ?_⟩⟩
      · rw [eF]; exact Am4
      · rw [eR]; exact Aa4
    · skip
      have pre25 : Go p e below (s₁.setTop (entryFrame m #[(.ref bm), .null, (.ref bt), q, (.int p4), (.int p5)] 11)) (T4.setTop (mkF m 22 #[.val (.ref bm), .val .null, .val (.ref bt), .val q, .val (.int p4), .val (.int p5), .val (.ref an4), .val (.int ((p4 + (999 : Int32)) + (1 : Int32))), .val (.int (own_s fm ft (p4 + (999 : Int32)))), .val (.long (own_cy fm ft g (p4 + (999 : Int32)))), .second] [])) := by
        intro t k
        refine pre22 t ?_
        show Steps p.tables e below (T4.setTop (mkF m 19 #[.val (.ref bm), .val .null, .val (.ref bt), .val q, .val (.int p4), .val (.int p5), .val (.ref an4), .val (.int ((p4 + (999 : Int32)) + (1 : Int32))), .val (.int (own_s fm ft (p4 + (999 : Int32)))), .val (.long (own_cy fm ft g (p4 + (999 : Int32)))), .second] [(.int (p5 + (999 : Int32))), (.int ((p4 + (999 : Int32)) + (1 : Int32)))])) _
        refine XS.icmpNo X4z.here hx rfl (hb hby d2_19) rfl (XT.ii_gt_f hc19_23) ?_
        show Steps p.tables e below (T4.setTop (mkF m 22 #[.val (.ref bm), .val .null, .val (.ref bt), .val q, .val (.int p4), .val (.int p5), .val (.ref an4), .val (.int ((p4 + (999 : Int32)) + (1 : Int32))), .val (.int (own_s fm ft (p4 + (999 : Int32)))), .val (.long (own_cy fm ft g (p4 + (999 : Int32)))), .second] [])) _
        exact k
      have htw1 := own_two htw hix hc19_23
      have hj1 := own_inr (i := ((p4 + (999 : Int32)) + (1 : Int32))) (by rw [hix.2.1]; omega)
      have m26 := tm1b (r1 := .null) (r6 := (.ref an4)) (p4 := p4) (p5 := p5) (i := ((p4 + (999 : Int32)) + (1 : Int32))) (s8 := (own_s fm ft (p4 + (999 : Int32)))) (c9 := (own_cy fm ft g (p4 + (999 : Int32)))) X4z hx hZ hw hby hml hown e4 N4 zz4 hj1 Am4 At4 (Hr4.imp id fun ⟨a, k, q1, q2⟩ => ⟨a, k, q1, q2.2.2⟩)
      have pre27 : Go p e below (s₁.setTop (entryFrame m #[(.ref bm), .null, (.ref bt), q, (.int p4), (.int p5)] 11)) (T4.setTop (mkF m 62 #[.val (.ref bm), .val .null, .val (.ref bt), .val q, .val (.int p4), .val (.int p5), .val (.ref an4), .val (.int ((p4 + (999 : Int32)) + (1 : Int32))), .val (.int (own_s (own_f1 fm ft (p4 + (999 : Int32))) ft ((p4 + (999 : Int32)) + (1 : Int32)))), .val (.long (own_cy (own_f1 fm ft (p4 + (999 : Int32))) ft g ((p4 + (999 : Int32)) + (1 : Int32)))), .second] [])) := fun t k => pre25 t (m26 t k)
      obtain ⟨T26, h26, lc26, X26, e26, N26, K26, Am26, A626, g26⟩ := tm2r (r1 := .null) (q := q) (p4 := p4) (p5 := p5) (sv := (own_s (own_f1 fm ft (p4 + (999 : Int32))) ft ((p4 + (999 : Int32)) + (1 : Int32)))) (cy := (own_cy (own_f1 fm ft (p4 + (999 : Int32))) ft g ((p4 + (999 : Int32)) + (1 : Int32)))) (i := ((p4 + (999 : Int32)) + (1 : Int32))) X4z hx hZ hw hby hml hown e4 N4 zz4 (by rfl) hqr hj1 Am4 g_bm Aa4 g_an4 ne_an4_bm (own_cy0 hg)
      have At26 := At4.keep K26 (ninS ne_bt_bm (ninS ne_bt_an4 nin0))
      have Hq26 : (q = .null ∧ ∀ i_, g i_ = 0) ∨ (∃ a k, q = .ref a ∧ a ≠ bm ∧ a ≠ an4 ∧ LA Z h26 a k g) := Hr4.imp id fun ⟨a, k, q1, q2, q3, q4⟩ => ⟨a, k, q1, q2, q3, q4.keep K26 (ninS q2 (ninS q3 nin0))⟩
      have zz26 := Nat.le_trans zz4 K26.1
      have pre28 : Go p e below (s₁.setTop (entryFrame m #[(.ref bm), .null, (.ref bt), q, (.int p4), (.int p5)] 11)) (T26.setTop (mkF m 11 #[.val (.ref bm), .val .null, .val (.ref bt), .val q, .val (.int p4), .val (.int p5), .val (.ref an4), .val (.int (((p4 + (999 : Int32)) + (1 : Int32)) + (1 : Int32))), .val (.int (own_s (own_f1 fm ft (p4 + (999 : Int32))) ft ((p4 + (999 : Int32)) + (1 : Int32)))), .val (.long (own_cy (own_f1 fm ft (p4 + (999 : Int32))) ft g ((p4 + (999 : Int32)) + (1 : Int32)))), .second] [])) := fun t k => pre27 t (g26 t k)
      have pre29 : Go p e below (s₁.setTop (entryFrame m #[(.ref bm), .null, (.ref bt), q, (.int p4), (.int p5)] 11)) (T26.setTop (mkF m 19 #[.val (.ref bm), .val .null, .val (.ref bt), .val q, .val (.int p4), .val (.int p5), .val (.ref an4), .val (.int (((p4 + (999 : Int32)) + (1 : Int32)) + (1 : Int32))), .val (.int (own_s (own_f1 fm ft (p4 + (999 : Int32))) ft ((p4 + (999 : Int32)) + (1 : Int32)))), .val (.long (own_cy (own_f1 fm ft (p4 + (999 : Int32))) ft g ((p4 + (999 : Int32)) + (1 : Int32)))), .second] [(.int (p5 + (999 : Int32))), (.int (((p4 + (999 : Int32)) + (1 : Int32)) + (1 : Int32)))])) := by
        intro t k
        refine pre28 t ?_
        show Steps p.tables e below (T26.setTop (mkF m 11 #[.val (.ref bm), .val .null, .val (.ref bt), .val q, .val (.int p4), .val (.int p5), .val (.ref an4), .val (.int (((p4 + (999 : Int32)) + (1 : Int32)) + (1 : Int32))), .val (.int (own_s (own_f1 fm ft (p4 + (999 : Int32))) ft ((p4 + (999 : Int32)) + (1 : Int32)))), .val (.long (own_cy (own_f1 fm ft (p4 + (999 : Int32))) ft g ((p4 + (999 : Int32)) + (1 : Int32)))), .second] [])) _
        refine XS.iload X26.here hx rfl (hb hby d2_11) rfl ?_
        show Steps p.tables e below (T26.setTop (mkF m 13 #[.val (.ref bm), .val .null, .val (.ref bt), .val q, .val (.int p4), .val (.int p5), .val (.ref an4), .val (.int (((p4 + (999 : Int32)) + (1 : Int32)) + (1 : Int32))), .val (.int (own_s (own_f1 fm ft (p4 + (999 : Int32))) ft ((p4 + (999 : Int32)) + (1 : Int32)))), .val (.long (own_cy (own_f1 fm ft (p4 + (999 : Int32))) ft g ((p4 + (999 : Int32)) + (1 : Int32)))), .second] [(.int (((p4 + (999 : Int32)) + (1 : Int32)) + (1 : Int32)))])) _
        refine XS.iload X26.here hx rfl (hb hby d2_13) rfl ?_
        show Steps p.tables e below (T26.setTop (mkF m 15 #[.val (.ref bm), .val .null, .val (.ref bt), .val q, .val (.int p4), .val (.int p5), .val (.ref an4), .val (.int (((p4 + (999 : Int32)) + (1 : Int32)) + (1 : Int32))), .val (.int (own_s (own_f1 fm ft (p4 + (999 : Int32))) ft ((p4 + (999 : Int32)) + (1 : Int32)))), .val (.long (own_cy (own_f1 fm ft (p4 + (999 : Int32))) ft g ((p4 + (999 : Int32)) + (1 : Int32)))), .second] [(.int p5), (.int (((p4 + (999 : Int32)) + (1 : Int32)) + (1 : Int32)))])) _
        refine XS.sipush X26.here hx rfl (hb hby d2_15) ?_
        show Steps p.tables e below (T26.setTop (mkF m 18 #[.val (.ref bm), .val .null, .val (.ref bt), .val q, .val (.int p4), .val (.int p5), .val (.ref an4), .val (.int (((p4 + (999 : Int32)) + (1 : Int32)) + (1 : Int32))), .val (.int (own_s (own_f1 fm ft (p4 + (999 : Int32))) ft ((p4 + (999 : Int32)) + (1 : Int32)))), .val (.long (own_cy (own_f1 fm ft (p4 + (999 : Int32))) ft g ((p4 + (999 : Int32)) + (1 : Int32)))), .second] [(.int (999 : Int32)), (.int p5), (.int (((p4 + (999 : Int32)) + (1 : Int32)) + (1 : Int32)))])) _
        refine XS.iadd X26.here hx rfl (hb hby d2_18) rfl ?_
        show Steps p.tables e below (T26.setTop (mkF m 19 #[.val (.ref bm), .val .null, .val (.ref bt), .val q, .val (.int p4), .val (.int p5), .val (.ref an4), .val (.int (((p4 + (999 : Int32)) + (1 : Int32)) + (1 : Int32))), .val (.int (own_s (own_f1 fm ft (p4 + (999 : Int32))) ft ((p4 + (999 : Int32)) + (1 : Int32)))), .val (.long (own_cy (own_f1 fm ft (p4 + (999 : Int32))) ft g ((p4 + (999 : Int32)) + (1 : Int32)))), .second] [(.int (p5 + (999 : Int32))), (.int (((p4 + (999 : Int32)) + (1 : Int32)) + (1 : Int32)))])) _
        exact k
      have hc19_30 : (p5 + (999 : Int32)) < (((p4 + (999 : Int32)) + (1 : Int32)) + (1 : Int32)) := by
        rw [Int32.lt_iff_toInt_lt, hix.2.2.2.1, hix.2.2.1]; omega
      have pre31 : Go p e below (s₁.setTop (entryFrame m #[(.ref bm), .null, (.ref bt), q, (.int p4), (.int p5)] 11)) (T26.setTop (mkF m 111 #[.val (.ref bm), .val .null, .val (.ref bt), .val q, .val (.int p4), .val (.int p5), .val (.ref an4), .val (.int (((p4 + (999 : Int32)) + (1 : Int32)) + (1 : Int32))), .val (.int (own_s (own_f1 fm ft (p4 + (999 : Int32))) ft ((p4 + (999 : Int32)) + (1 : Int32)))), .val (.long (own_cy (own_f1 fm ft (p4 + (999 : Int32))) ft g ((p4 + (999 : Int32)) + (1 : Int32)))), .second] [(.ref an4)])) := by
        intro t k
        refine pre29 t ?_
        show Steps p.tables e below (T26.setTop (mkF m 19 #[.val (.ref bm), .val .null, .val (.ref bt), .val q, .val (.int p4), .val (.int p5), .val (.ref an4), .val (.int (((p4 + (999 : Int32)) + (1 : Int32)) + (1 : Int32))), .val (.int (own_s (own_f1 fm ft (p4 + (999 : Int32))) ft ((p4 + (999 : Int32)) + (1 : Int32)))), .val (.long (own_cy (own_f1 fm ft (p4 + (999 : Int32))) ft g ((p4 + (999 : Int32)) + (1 : Int32)))), .second] [(.int (p5 + (999 : Int32))), (.int (((p4 + (999 : Int32)) + (1 : Int32)) + (1 : Int32)))])) _
        refine XS.icmpYes X26.here hx rfl (pc0 := 19) (pc' := 109) rfl (hb hby d2_19) rfl (XT.ii_gt_t hc19_30) (by decide) (by decide) ?_
        show Steps p.tables e below (T26.setTop (mkF m 109 #[.val (.ref bm), .val .null, .val (.ref bt), .val q, .val (.int p4), .val (.int p5), .val (.ref an4), .val (.int (((p4 + (999 : Int32)) + (1 : Int32)) + (1 : Int32))), .val (.int (own_s (own_f1 fm ft (p4 + (999 : Int32))) ft ((p4 + (999 : Int32)) + (1 : Int32)))), .val (.long (own_cy (own_f1 fm ft (p4 + (999 : Int32))) ft g ((p4 + (999 : Int32)) + (1 : Int32)))), .second] [])) _
        refine XS.aload X26.here hx rfl (hb hby d2_109) rfl rfl ?_
        show Steps p.tables e below (T26.setTop (mkF m 111 #[.val (.ref bm), .val .null, .val (.ref bt), .val q, .val (.int p4), .val (.int p5), .val (.ref an4), .val (.int (((p4 + (999 : Int32)) + (1 : Int32)) + (1 : Int32))), .val (.int (own_s (own_f1 fm ft (p4 + (999 : Int32))) ft ((p4 + (999 : Int32)) + (1 : Int32)))), .val (.long (own_cy (own_f1 fm ft (p4 + (999 : Int32))) ft g ((p4 + (999 : Int32)) + (1 : Int32)))), .second] [(.ref an4)])) _
        exact k
      obtain ⟨fs, hr, hrun, hended, hW, hsame⟩ := X26.leave (hlocks := hlk) (v := some (.ref an4)) (fun h => by rw [Bd.returns] at h; cases h)
      refine ⟨_, _, pre31 _ (retA X26 hx Bd.returns rfl rfl rfl (hb hby d2_111) hr), hrun, hended, _, _, rfl, ?_, ⟨_, rfl⟩, hW, hsame.mono (by decide) (by decide)⟩
      show Q2_n Z bm bt p4 p5 q km kt fm ft g tw h0 n0 _ T26.heap _
      rw [e26]
      have hT := htw1.1
      have eF : own_fE tw fm ft (p4 + (999 : Int32)) ((p4 + (999 : Int32)) + (1 : Int32)) = (own_f1 (own_f1 fm ft (p4 + (999 : Int32))) ft ((p4 + (999 : Int32)) + (1 : Int32))) := if_neg hT
      have eR : (own_rE tw fm ft g own_z64 (p4 + (999 : Int32)) ((p4 + (999 : Int32)) + (1 : Int32))) = (own_r1 (own_f1 fm ft (p4 + (999 : Int32))) ft g (own_r1 fm ft g own_z64 (p4 + (999 : Int32))) ((p4 + (999 : Int32)) + (1 : Int32))) := if_neg hT
      refine ⟨.ref an4, rfl, N26, ?_, At26, Or.inr ⟨Or.inl hn4, an4, ka4, rfl, ?_⟩⟩
      · rw [eF]; exact Am26
      · rw [eR]; exact A626
/-- the four arrays while they are filled -/
def own_H (Z : State) (h : Heap) (n0 : Nat) (bm : Addr) (km : ClassId) (bt : Addr) (kt : ClassId) (mn : Int32) (r : Value) (tn : Int32) (q : Value) (fm ft : Nat → Int32) (fr fq : Nat → Int64) : Prop :=
  BA Z h bm km fm ∧ BA Z h bt kt ft ∧ bm ≠ bt ∧ n0 ≤ bm ∧ n0 ≤ bt ∧ ((mn = 1 ∧ r = .null ∧ ∀ i, fr i = 0) ∨ (mn = 0 ∧ ∃ a k, r = .ref a ∧ n0 ≤ a ∧ a ≠ bm ∧ a ≠ bt ∧ LA Z h a k fr)) ∧
    ((tn = 1 ∧ q = .null ∧ ∀ i, fq i = 0) ∨ (tn = 0 ∧ ∃ a k, q = .ref a ∧ n0 ≤ a ∧ a ≠ bm ∧ a ≠ bt ∧ r ≠ .ref a ∧ LA Z h a k fq))
set_option maxRecDepth 65536 in
set_option maxHeartbeats 40000000 in
theorem al14 {p : Program} {l : Launch} {e : Env} {R : Room} {s : State} {m : MethodId} {args : Array Value} {below : List Frame} {meth : Method} {c : Code} {T0 : State} {locs : List Loc} {cells slots : Nat} {Z : State} {a0 : Array Value} {h0 : Heap} {n0 : Nat}  {Ls : Array Slot} {mn : Int32}
    (X0 : Stand p l e R s m args below meth c T0 locs cells slots) (hx : p.tables.exec = Jvm.exec) (hZ : Z.Warmed39 s.vm) (hw : ∀ d ∈ tables_1, d.before a0 Z = true) (hby : c.code = code) (hml : c.maxLocals = 46) (hown : s.vm.findClass "com/example/lanescan/lanescan/DistributionMergePinLaw" = some m.cls) (e0 : T0.heap = h0) (N0 : Fr n0 locs) (Z0 : n0 ≤ h0.size) (hl8 : Ls[8]? = some (.val (.int mn))) (hmn : mn = 1 ∨ mn = 0) (hcl : cells + 1 ≤ R.cells) (hsl : slots + 1999 ≤ R.slots) :
    ∃ (T' : State) (h' : Heap) (r : Value), Stand p l e R s m args below meth c T' locs (cells + 1) (slots + 1999) ∧ T'.heap = h' ∧ Ext h0 h' ∧ ((mn = 1 ∧ r = .null) ∨ (mn = 0 ∧ ∃ a k, r = .ref a ∧ a = h0.size ∧ LA Z h' a k own_z64)) ∧ Go p e below (T0.setTop (mkF m 73 Ls [])) (T'.setTop (mkF m 87 Ls [r])) := by
  have pre0 : Go p e below (T0.setTop (mkF m 73 Ls [])) (T0.setTop (mkF m 73 Ls [])) := fun t k => k
  rcases hmn with rfl | rfl
  · skip
    have pre1 : Go p e below (T0.setTop (mkF m 73 Ls [])) (T0.setTop (mkF m 75 Ls [(.int (1 : Int32))])) := by
      intro t k
      refine pre0 t ?_
      show Steps p.tables e below (T0.setTop (mkF m 73 Ls [])) _
      refine XS.iload X0.here hx rfl (hb hby at_73) hl8 ?_
      show Steps p.tables e below (T0.setTop (mkF m 75 Ls [(.int (1 : Int32))])) _
      exact k
    have pre2 : Go p e below (T0.setTop (mkF m 73 Ls [])) (T0.setTop (mkF m 87 Ls [.null])) := by
      intro t k
      refine pre1 t ?_
      show Steps p.tables e below (T0.setTop (mkF m 75 Ls [(.int (1 : Int32))])) _
      refine XS.ifNo X0.here hx rfl (hb hby at_75) rfl (XT.i0_eq_f (by decide : ¬ ((1 : Int32) = (0 : Int32)))) ?_
      show Steps p.tables e below (T0.setTop (mkF m 78 Ls [])) _
      refine XS.aconstNull X0.here hx rfl (hb hby at_78) ?_
      show Steps p.tables e below (T0.setTop (mkF m 79 Ls [.null])) _
      refine XS.goto X0.here hx rfl (pc0 := 79) (pc' := 87) rfl (hb hby at_79) (by decide) (by decide) ?_
      show Steps p.tables e below (T0.setTop (mkF m 87 Ls [.null])) _
      exact k
    exact ⟨T0, h0, .null, X0.more (Nat.le_succ _) (Nat.le_add_right _ _), e0, ⟨Nat.le_refl _, fun _ _ q => q⟩, Or.inl ⟨rfl, rfl⟩, pre2⟩
  · skip
    have pre3 : Go p e below (T0.setTop (mkF m 73 Ls [])) (T0.setTop (mkF m 75 Ls [(.int (0 : Int32))])) := by
      intro t k
      refine pre0 t ?_
      show Steps p.tables e below (T0.setTop (mkF m 73 Ls [])) _
      refine XS.iload X0.here hx rfl (hb hby at_73) hl8 ?_
      show Steps p.tables e below (T0.setTop (mkF m 75 Ls [(.int (0 : Int32))])) _
      exact k
    have pre4 : Go p e below (T0.setTop (mkF m 73 Ls [])) (T0.setTop (mkF m 85 Ls [(.int (1999 : Int32))])) := by
      intro t k
      refine pre3 t ?_
      show Steps p.tables e below (T0.setTop (mkF m 75 Ls [(.int (0 : Int32))])) _
      refine XS.ifYes X0.here hx rfl (pc0 := 75) (pc' := 82) rfl (hb hby at_75) rfl (XT.i0_eq_t (by decide : (0 : Int32) = (0 : Int32))) (by decide) (by decide) ?_
      show Steps p.tables e below (T0.setTop (mkF m 82 Ls [])) _
      refine XS.sipush X0.here hx rfl (hb hby at_82) ?_
      show Steps p.tables e below (T0.setTop (mkF m 85 Ls [(.int (1999 : Int32))])) _
      exact k
    obtain ⟨T5, h5, k5, X5, e5, E5, A5, st5⟩ := newP X0 hx hZ (hw _ (List.mem_of_getElem? (i := 14) rfl)) e0 (g := (mkF m 85 Ls [(.int (1999 : Int32))])) rfl (hb hby at_85) rfl (by decide) (cap := 1999) (by decide) (by decide) hcl hsl
    obtain ⟨an, g5⟩ : ∃ z, z = h0.size := ⟨_, rfl⟩
    rw [← g5] at A5 st5
    have zz6 := (Nat.le_trans Z0 E5.1)
    have AV_an : Arf Z h5 an k5 .long (1999 : Int32) (fun i_ => .long (own_z64 i_)) := (Arf.new A5 (by decide)).as (fun _ _ => rfl)
    have g_an : n0 ≤ an := Nat.le_trans Z0 (Nat.le_of_eq g5.symm)
    have pre7 : Go p e below (T0.setTop (mkF m 73 Ls [])) (T5.setTop (mkF m 87 Ls [(.ref an)])) := fun t k => pre4 t (st5 t k)
    exact ⟨T5, h5, .ref an, X5, e5, E5, Or.inr ⟨rfl, an, k5, rfl, g5, AV_an⟩, pre7⟩
set_option maxRecDepth 65536 in
set_option maxHeartbeats 40000000 in
theorem al15 {p : Program} {l : Launch} {e : Env} {R : Room} {s : State} {m : MethodId} {args : Array Value} {below : List Frame} {meth : Method} {c : Code} {T0 : State} {locs : List Loc} {cells slots : Nat} {Z : State} {a0 : Array Value} {h0 : Heap} {n0 : Nat}  {Ls : Array Slot} {mn : Int32}
    (X0 : Stand p l e R s m args below meth c T0 locs cells slots) (hx : p.tables.exec = Jvm.exec) (hZ : Z.Warmed39 s.vm) (hw : ∀ d ∈ tables_1, d.before a0 Z = true) (hby : c.code = code) (hml : c.maxLocals = 46) (hown : s.vm.findClass "com/example/lanescan/lanescan/DistributionMergePinLaw" = some m.cls) (e0 : T0.heap = h0) (N0 : Fr n0 locs) (Z0 : n0 ≤ h0.size) (hl9 : Ls[9]? = some (.val (.int mn))) (hmn : mn = 1 ∨ mn = 0) (hcl : cells + 1 ≤ R.cells) (hsl : slots + 1999 ≤ R.slots) :
    ∃ (T' : State) (h' : Heap) (r : Value), Stand p l e R s m args below meth c T' locs (cells + 1) (slots + 1999) ∧ T'.heap = h' ∧ Ext h0 h' ∧ ((mn = 1 ∧ r = .null) ∨ (mn = 0 ∧ ∃ a k, r = .ref a ∧ a = h0.size ∧ LA Z h' a k own_z64)) ∧ Go p e below (T0.setTop (mkF m 89 Ls [])) (T'.setTop (mkF m 103 Ls [r])) := by
  have pre0 : Go p e below (T0.setTop (mkF m 89 Ls [])) (T0.setTop (mkF m 89 Ls [])) := fun t k => k
  rcases hmn with rfl | rfl
  · skip
    have pre1 : Go p e below (T0.setTop (mkF m 89 Ls [])) (T0.setTop (mkF m 91 Ls [(.int (1 : Int32))])) := by
      intro t k
      refine pre0 t ?_
      show Steps p.tables e below (T0.setTop (mkF m 89 Ls [])) _
      refine XS.iload X0.here hx rfl (hb hby at_89) hl9 ?_
      show Steps p.tables e below (T0.setTop (mkF m 91 Ls [(.int (1 : Int32))])) _
      exact k
    have pre2 : Go p e below (T0.setTop (mkF m 89 Ls [])) (T0.setTop (mkF m 103 Ls [.null])) := by
      intro t k
      refine pre1 t ?_
      show Steps p.tables e below (T0.setTop (mkF m 91 Ls [(.int (1 : Int32))])) _
      refine XS.ifNo X0.here hx rfl (hb hby at_91) rfl (XT.i0_eq_f (by decide : ¬ ((1 : Int32) = (0 : Int32)))) ?_
      show Steps p.tables e below (T0.setTop (mkF m 94 Ls [])) _
      refine XS.aconstNull X0.here hx rfl (hb hby at_94) ?_
      show Steps p.tables e below (T0.setTop (mkF m 95 Ls [.null])) _
      refine XS.goto X0.here hx rfl (pc0 := 95) (pc' := 103) rfl (hb hby at_95) (by decide) (by decide) ?_
      show Steps p.tables e below (T0.setTop (mkF m 103 Ls [.null])) _
      exact k
    exact ⟨T0, h0, .null, X0.more (Nat.le_succ _) (Nat.le_add_right _ _), e0, ⟨Nat.le_refl _, fun _ _ q => q⟩, Or.inl ⟨rfl, rfl⟩, pre2⟩
  · skip
    have pre3 : Go p e below (T0.setTop (mkF m 89 Ls [])) (T0.setTop (mkF m 91 Ls [(.int (0 : Int32))])) := by
      intro t k
      refine pre0 t ?_
      show Steps p.tables e below (T0.setTop (mkF m 89 Ls [])) _
      refine XS.iload X0.here hx rfl (hb hby at_89) hl9 ?_
      show Steps p.tables e below (T0.setTop (mkF m 91 Ls [(.int (0 : Int32))])) _
      exact k
    have pre4 : Go p e below (T0.setTop (mkF m 89 Ls [])) (T0.setTop (mkF m 101 Ls [(.int (1999 : Int32))])) := by
      intro t k
      refine pre3 t ?_
      show Steps p.tables e below (T0.setTop (mkF m 91 Ls [(.int (0 : Int32))])) _
      refine XS.ifYes X0.here hx rfl (pc0 := 91) (pc' := 98) rfl (hb hby at_91) rfl (XT.i0_eq_t (by decide : (0 : Int32) = (0 : Int32))) (by decide) (by decide) ?_
      show Steps p.tables e below (T0.setTop (mkF m 98 Ls [])) _
      refine XS.sipush X0.here hx rfl (hb hby at_98) ?_
      show Steps p.tables e below (T0.setTop (mkF m 101 Ls [(.int (1999 : Int32))])) _
      exact k
    obtain ⟨T5, h5, k5, X5, e5, E5, A5, st5⟩ := newP X0 hx hZ (hw _ (List.mem_of_getElem? (i := 14) rfl)) e0 (g := (mkF m 101 Ls [(.int (1999 : Int32))])) rfl (hb hby at_101) rfl (by decide) (cap := 1999) (by decide) (by decide) hcl hsl
    obtain ⟨an, g5⟩ : ∃ z, z = h0.size := ⟨_, rfl⟩
    rw [← g5] at A5 st5
    have zz6 := (Nat.le_trans Z0 E5.1)
    have AV_an : Arf Z h5 an k5 .long (1999 : Int32) (fun i_ => .long (own_z64 i_)) := (Arf.new A5 (by decide)).as (fun _ _ => rfl)
    have g_an : n0 ≤ an := Nat.le_trans Z0 (Nat.le_of_eq g5.symm)
    have pre7 : Go p e below (T0.setTop (mkF m 89 Ls [])) (T5.setTop (mkF m 103 Ls [(.ref an)])) := fun t k => pre4 t (st5 t k)
    exact ⟨T5, h5, .ref an, X5, e5, E5, Or.inr ⟨rfl, an, k5, rfl, g5, AV_an⟩, pre7⟩
set_option maxRecDepth 65536 in
set_option maxHeartbeats 40000000 in
theorem blk1 {p : Program} {l : Launch} {e : Env} {R : Room} {s : State} {m : MethodId} {args : Array Value} {below : List Frame} {meth : Method} {c : Code} {T0 : State} {locs : List Loc} {cells slots : Nat} {Z : State} {a0 : Array Value} {h0 : Heap} {n0 : Nat}  {Ls : Array Slot} {bm bt : Addr} {km kt : ClassId} {mn tn j xx yy : Int32} {r q : Value} {vm vt : Int64} {fm ft : Nat → Int32} {fr fq : Nat → Int64}
    (X0 : Stand p l e R s m args below meth c T0 locs cells slots) (hx : p.tables.exec = Jvm.exec) (hZ : Z.Warmed39 s.vm) (hw : ∀ d ∈ tables_1, d.before a0 Z = true) (hby : c.code = code) (hml : c.maxLocals = 46) (hown : s.vm.findClass "com/example/lanescan/lanescan/DistributionMergePinLaw" = some m.cls) (e0 : T0.heap = h0) (N0 : Fr n0 locs) (Z0 : n0 ≤ h0.size) (hl8 : Ls[8]? = some (.val (.int mn))) (hl9 : Ls[9]? = some (.val (.int tn))) (hl12 : Ls[12]? = some (.val (.ref bm))) (hl13 : Ls[13]? = some (.val (.ref bt))) (hl14 : Ls[14]? = some (.val r)) (hl15 : Ls[15]? = some (.val q)) (hl16 : Ls[16]? = some (.val (.int j))) (hl23 : Ls[23]? = some (.val (.int xx))) (hl24 : Ls[24]? = some (.val (.int yy))) (hl31 : Ls[31]? = some (.val (.long vm))) (hl33 : Ls[33]? = some (.val (.long vt))) (Hbm : BA Z h0 bm km fm) (Hbt : BA Z h0 bt kt ft) (ne_bm_bt : bm ≠ bt) (g_bm : n0 ≤ bm) (g_bt : n0 ≤ bt) (Hm : (mn = 1 ∧ r = .null ∧ ∀ i, fr i = 0) ∨ (mn = 0 ∧ ∃ a k, r = .ref a ∧ n0 ≤ a ∧ a ≠ bm ∧ a ≠ bt ∧ LA Z h0 a k fr)) (Ht : (tn = 1 ∧ q = .null ∧ ∀ i, fq i = 0) ∨ (tn = 0 ∧ ∃ a k, q = .ref a ∧ n0 ≤ a ∧ a ≠ bm ∧ a ≠ bt ∧ r ≠ .ref a ∧ LA Z h0 a k fq)) (hj : ¬ (1 : Int32) = 0 → ¬ j < 0 ∧ j < (1999 : Int32)) (hvm1 : mn = 1 → vm = 0) (hvt1 : tn = 1 → vt = 0) :
    ∃ (T' : State) (h' : Heap) (locs' : List Loc), Stand p l e R s m args below meth c T' locs' cells slots ∧ T'.heap = h' ∧ Fr n0 locs' ∧ n0 ≤ h'.size ∧ own_H Z h' n0 bm km bt kt mn r tn q (own_c (1 : Int32) fm j (nar .byte (xx.toInt8.toInt32))) (own_c (1 : Int32) ft j (nar .byte (yy.toInt8.toInt32))) (own_c (1 : Int32) fr j vm) (own_c (1 : Int32) fq j vt) ∧ Go p e below (T0.setTop (mkF m 310 Ls [])) (T'.setTop (mkF m 350 Ls [])) := by
  have pre0 : Go p e below (T0.setTop (mkF m 310 Ls [])) (T0.setTop (mkF m 310 Ls [])) := fun t k => k
  rcases Hm with ⟨rfl, rfl, hzm⟩ | ⟨rfl, am, kam, rfl, g_am, ne_am_bm, ne_am_bt, LAm⟩
  · skip
    rcases Ht with ⟨rfl, rfl, hzt⟩ | ⟨rfl, aq, kaq, rfl, g_aq, ne_aq_bm, ne_aq_bt, ne_rq, LAq⟩
    · skip
      have pre1 : Go p e below (T0.setTop (mkF m 310 Ls [])) (T0.setTop (mkF m 317 Ls [(.int ((xx).toInt8.toInt32)), (.int j), (.ref bm)])) := by
        intro t k
        refine pre0 t ?_
        show Steps p.tables e below (T0.setTop (mkF m 310 Ls [])) _
        refine XS.aload X0.here hx rfl (hb hby at_310) hl12 rfl ?_
        show Steps p.tables e below (T0.setTop (mkF m 312 Ls [(.ref bm)])) _
        refine XS.iload X0.here hx rfl (hb hby at_312) hl16 ?_
        show Steps p.tables e below (T0.setTop (mkF m 314 Ls [(.int j), (.ref bm)])) _
        refine XS.iload X0.here hx rfl (hb hby at_314) hl23 ?_
        show Steps p.tables e below (T0.setTop (mkF m 316 Ls [(.int xx), (.int j), (.ref bm)])) _
        refine XS.i2b X0.here hx rfl (hb hby at_316) rfl ?_
        show Steps p.tables e below (T0.setTop (mkF m 317 Ls [(.int ((xx).toInt8.toInt32)), (.int j), (.ref bm)])) _
        exact k
      obtain ⟨cl2, Ar2, SS2, NN2, -⟩ := Hbm.cell
      have hj2 : ¬ j < 0 ∧ j < (1999 : Int32) := hj ((by decide : ¬ (1 : Int32) = 0))
      obtain ⟨T2, h2, X2, e2, W2, st2⟩ := stB X0 hx hZ e0 Ar2 (j := j) (inb_of SS2 hj2) (g := (mkF m 317 Ls [(.int ((xx).toInt8.toInt32)), (.int j), (.ref bm)])) rfl rfl (hb hby at_317)
      have AV2 : Arf Z h2 bm km .byte (1999 : Int32) (fun i_ => .int (own_u fm j (nar .byte (xx.toInt8.toInt32)) i_)) := (Hbm.set (fits_nar_byte _) W2 hj2).as (fun i_ _ => own_as32 _ _ _ _)
      have c3_2 := Hbt.other W2 (Ne.symm ne_bm_bt)
      have zz4 := (Nat.le_trans Z0 (Keep.of_wr W2).1)
      have N2 := Fr.snoc X2 N0 g_bm
      have pre5 : Go p e below (T0.setTop (mkF m 310 Ls [])) (T2.setTop (mkF m 318 Ls [])) := fun t k => pre1 t (st2 t k)
      have pre6 : Go p e below (T0.setTop (mkF m 310 Ls [])) (T2.setTop (mkF m 325 Ls [(.int ((yy).toInt8.toInt32)), (.int j), (.ref bt)])) := by
        intro t k
        refine pre5 t ?_
        show Steps p.tables e below (T2.setTop (mkF m 318 Ls [])) _
        refine XS.aload X2.here hx rfl (hb hby at_318) hl13 rfl ?_
        show Steps p.tables e below (T2.setTop (mkF m 320 Ls [(.ref bt)])) _
        refine XS.iload X2.here hx rfl (hb hby at_320) hl16 ?_
        show Steps p.tables e below (T2.setTop (mkF m 322 Ls [(.int j), (.ref bt)])) _
        refine XS.iload X2.here hx rfl (hb hby at_322) hl24 ?_
        show Steps p.tables e below (T2.setTop (mkF m 324 Ls [(.int yy), (.int j), (.ref bt)])) _
        refine XS.i2b X2.here hx rfl (hb hby at_324) rfl ?_
        show Steps p.tables e below (T2.setTop (mkF m 325 Ls [(.int ((yy).toInt8.toInt32)), (.int j), (.ref bt)])) _
        exact k
      obtain ⟨cl7, Ar7, SS7, NN7, -⟩ := c3_2.cell
      have hj7 : ¬ j < 0 ∧ j < (1999 : Int32) := hj ((by decide : ¬ (1 : Int32) = 0))
      obtain ⟨T7, h7, X7, e7, W7, st7⟩ := stB X2 hx hZ e2 Ar7 (j := j) (inb_of SS7 hj7) (g := (mkF m 325 Ls [(.int ((yy).toInt8.toInt32)), (.int j), (.ref bt)])) rfl rfl (hb hby at_325)
      have AV7 : Arf Z h7 bt kt .byte (1999 : Int32) (fun i_ => .int (own_u ft j (nar .byte (yy.toInt8.toInt32)) i_)) := (c3_2.set (fits_nar_byte _) W7 hj7).as (fun i_ _ => own_as32 _ _ _ _)
      have c8_7 := AV2.other W7 ne_bm_bt
      have zz9 := (Nat.le_trans zz4 (Keep.of_wr W7).1)
      have N7 := Fr.snoc X7 N2 g_bt
      have pre10 : Go p e below (T0.setTop (mkF m 310 Ls [])) (T7.setTop (mkF m 326 Ls [])) := fun t k => pre6 t (st7 t k)
      have pre11 : Go p e below (T0.setTop (mkF m 310 Ls [])) (T7.setTop (mkF m 328 Ls [(.int (1 : Int32))])) := by
        intro t k
        refine pre10 t ?_
        show Steps p.tables e below (T7.setTop (mkF m 326 Ls [])) _
        refine XS.iload X7.here hx rfl (hb hby at_326) hl8 ?_
        show Steps p.tables e below (T7.setTop (mkF m 328 Ls [(.int (1 : Int32))])) _
        exact k
      have pre12 : Go p e below (T0.setTop (mkF m 310 Ls [])) (T7.setTop (mkF m 340 Ls [(.int (1 : Int32))])) := by
        intro t k
        refine pre11 t ?_
        show Steps p.tables e below (T7.setTop (mkF m 328 Ls [(.int (1 : Int32))])) _
        refine XS.ifYes X7.here hx rfl (pc0 := 328) (pc' := 338) rfl (hb hby at_328) rfl (XT.i0_ne_t (by decide : ¬ ((1 : Int32) = (0 : Int32)))) (by decide) (by decide) ?_
        show Steps p.tables e below (T7.setTop (mkF m 338 Ls [])) _
        refine XS.iload X7.here hx rfl (hb hby at_338) hl9 ?_
        show Steps p.tables e below (T7.setTop (mkF m 340 Ls [(.int (1 : Int32))])) _
        exact k
      have pre13 : Go p e below (T0.setTop (mkF m 310 Ls [])) (T7.setTop (mkF m 350 Ls [])) := by
        intro t k
        refine pre12 t ?_
        show Steps p.tables e below (T7.setTop (mkF m 340 Ls [(.int (1 : Int32))])) _
        refine XS.ifYes X7.here hx rfl (pc0 := 340) (pc' := 350) rfl (hb hby at_340) rfl (XT.i0_ne_t (by decide : ¬ ((1 : Int32) = (0 : Int32)))) (by decide) (by decide) ?_
        show Steps p.tables e below (T7.setTop (mkF m 350 Ls [])) _
        exact k
      refine ⟨T7, h7, _, X7, e7, N7, zz9, ?_, pre13⟩
      rw [own_pk (by decide : ¬ (1 : Int32) = 0), own_pk (by decide : ¬ (1 : Int32) = 0), own_pk (by decide : ¬ (1 : Int32) = 0), own_pk (by decide : ¬ (1 : Int32) = 0)]
      exact ⟨c8_7, AV7, ne_bm_bt, g_bm, g_bt, Or.inl ⟨rfl, rfl, own_zu hzm (hvm1 rfl)⟩, Or.inl ⟨rfl, rfl, own_zu hzt (hvt1 rfl)⟩⟩
    · skip
      have pre14 : Go p e below (T0.setTop (mkF m 310 Ls [])) (T0.setTop (mkF m 317 Ls [(.int ((xx).toInt8.toInt32)), (.int j), (.ref bm)])) := by
        intro t k
        refine pre0 t ?_
        show Steps p.tables e below (T0.setTop (mkF m 310 Ls [])) _
        refine XS.aload X0.here hx rfl (hb hby at_310) hl12 rfl ?_
        show Steps p.tables e below (T0.setTop (mkF m 312 Ls [(.ref bm)])) _
        refine XS.iload X0.here hx rfl (hb hby at_312) hl16 ?_
        show Steps p.tables e below (T0.setTop (mkF m 314 Ls [(.int j), (.ref bm)])) _
        refine XS.iload X0.here hx rfl (hb hby at_314) hl23 ?_
        show Steps p.tables e below (T0.setTop (mkF m 316 Ls [(.int xx), (.int j), (.ref bm)])) _
        refine XS.i2b X0.here hx rfl (hb hby at_316) rfl ?_
        show Steps p.tables e below (T0.setTop (mkF m 317 Ls [(.int ((xx).toInt8.toInt32)), (.int j), (.ref bm)])) _
        exact k
      obtain ⟨cl15, Ar15, SS15, NN15, -⟩ := Hbm.cell
      have hj15 : ¬ j < 0 ∧ j < (1999 : Int32) := hj ((by decide : ¬ (1 : Int32) = 0))
      obtain ⟨T15, h15, X15, e15, W15, st15⟩ := stB X0 hx hZ e0 Ar15 (j := j) (inb_of SS15 hj15) (g := (mkF m 317 Ls [(.int ((xx).toInt8.toInt32)), (.int j), (.ref bm)])) rfl rfl (hb hby at_317)
      have AV15 : Arf Z h15 bm km .byte (1999 : Int32) (fun i_ => .int (own_u fm j (nar .byte (xx.toInt8.toInt32)) i_)) := (Hbm.set (fits_nar_byte _) W15 hj15).as (fun i_ _ => own_as32 _ _ _ _)
      have c16_15 := Hbt.other W15 (Ne.symm ne_bm_bt)
      have c17_15 := LAq.other W15 ne_aq_bm
      have zz18 := (Nat.le_trans Z0 (Keep.of_wr W15).1)
      have N15 := Fr.snoc X15 N0 g_bm
      have pre19 : Go p e below (T0.setTop (mkF m 310 Ls [])) (T15.setTop (mkF m 318 Ls [])) := fun t k => pre14 t (st15 t k)
      have pre20 : Go p e below (T0.setTop (mkF m 310 Ls [])) (T15.setTop (mkF m 325 Ls [(.int ((yy).toInt8.toInt32)), (.int j), (.ref bt)])) := by
        intro t k
        refine pre19 t ?_
        show Steps p.tables e below (T15.setTop (mkF m 318 Ls [])) _
        refine XS.aload X15.here hx rfl (hb hby at_318) hl13 rfl ?_
        show Steps p.tables e below (T15.setTop (mkF m 320 Ls [(.ref bt)])) _
        refine XS.iload X15.here hx rfl (hb hby at_320) hl16 ?_
        show Steps p.tables e below (T15.setTop (mkF m 322 Ls [(.int j), (.ref bt)])) _
        refine XS.iload X15.here hx rfl (hb hby at_322) hl24 ?_
        show Steps p.tables e below (T15.setTop (mkF m 324 Ls [(.int yy), (.int j), (.ref bt)])) _
        refine XS.i2b X15.here hx rfl (hb hby at_324) rfl ?_
        show Steps p.tables e below (T15.setTop (mkF m 325 Ls [(.int ((yy).toInt8.toInt32)), (.int j), (.ref bt)])) _
        exact k
      obtain ⟨cl21, Ar21, SS21, NN21, -⟩ := c16_15.cell
      have hj21 : ¬ j < 0 ∧ j < (1999 : Int32) := hj ((by decide : ¬ (1 : Int32) = 0))
      obtain ⟨T21, h21, X21, e21, W21, st21⟩ := stB X15 hx hZ e15 Ar21 (j := j) (inb_of SS21 hj21) (g := (mkF m 325 Ls [(.int ((yy).toInt8.toInt32)), (.int j), (.ref bt)])) rfl rfl (hb hby at_325)
      have AV21 : Arf Z h21 bt kt .byte (1999 : Int32) (fun i_ => .int (own_u ft j (nar .byte (yy.toInt8.toInt32)) i_)) := (c16_15.set (fits_nar_byte _) W21 hj21).as (fun i_ _ => own_as32 _ _ _ _)
      have c22_21 := AV15.other W21 ne_bm_bt
      have c23_21 := c17_15.other W21 ne_aq_bt
      have zz24 := (Nat.le_trans zz18 (Keep.of_wr W21).1)
      have N21 := Fr.snoc X21 N15 g_bt
      have pre25 : Go p e below (T0.setTop (mkF m 310 Ls [])) (T21.setTop (mkF m 326 Ls [])) := fun t k => pre20 t (st21 t k)
      have pre26 : Go p e below (T0.setTop (mkF m 310 Ls [])) (T21.setTop (mkF m 328 Ls [(.int (1 : Int32))])) := by
        intro t k
        refine pre25 t ?_
        show Steps p.tables e below (T21.setTop (mkF m 326 Ls [])) _
        refine XS.iload X21.here hx rfl (hb hby at_326) hl8 ?_
        show Steps p.tables e below (T21.setTop (mkF m 328 Ls [(.int (1 : Int32))])) _
        exact k
      have pre27 : Go p e below (T0.setTop (mkF m 310 Ls [])) (T21.setTop (mkF m 340 Ls [(.int (0 : Int32))])) := by
        intro t k
        refine pre26 t ?_
        show Steps p.tables e below (T21.setTop (mkF m 328 Ls [(.int (1 : Int32))])) _
        refine XS.ifYes X21.here hx rfl (pc0 := 328) (pc' := 338) rfl (hb hby at_328) rfl (XT.i0_ne_t (by decide : ¬ ((1 : Int32) = (0 : Int32)))) (by decide) (by decide) ?_
        show Steps p.tables e below (T21.setTop (mkF m 338 Ls [])) _
        refine XS.iload X21.here hx rfl (hb hby at_338) hl9 ?_
        show Steps p.tables e below (T21.setTop (mkF m 340 Ls [(.int (0 : Int32))])) _
        exact k
      have pre28 : Go p e below (T0.setTop (mkF m 310 Ls [])) (T21.setTop (mkF m 349 Ls [(.long vt), (.int j), (.ref aq)])) := by
        intro t k
        refine pre27 t ?_
        show Steps p.tables e below (T21.setTop (mkF m 340 Ls [(.int (0 : Int32))])) _
        refine XS.ifNo X21.here hx rfl (hb hby at_340) rfl (XT.i0_ne_f (by decide : (0 : Int32) = (0 : Int32))) ?_
        show Steps p.tables e below (T21.setTop (mkF m 343 Ls [])) _
        refine XS.aload X21.here hx rfl (hb hby at_343) hl15 rfl ?_
        show Steps p.tables e below (T21.setTop (mkF m 345 Ls [(.ref aq)])) _
        refine XS.iload X21.here hx rfl (hb hby at_345) hl16 ?_
        show Steps p.tables e below (T21.setTop (mkF m 347 Ls [(.int j), (.ref aq)])) _
        refine XT.lload X21.here hx rfl (hb hby at_347) hl33 ?_
        show Steps p.tables e below (T21.setTop (mkF m 349 Ls [(.long vt), (.int j), (.ref aq)])) _
        exact k
      obtain ⟨cl29, Ar29, SS29, NN29, -⟩ := c23_21.cell
      have hj29 : ¬ j < 0 ∧ j < (1999 : Int32) := hj ((by decide : ¬ (1 : Int32) = 0))
      obtain ⟨T29, h29, X29, e29, W29, st29⟩ := stJ X21 hx hZ e21 Ar29 (j := j) (inb_of SS29 hj29) (g := (mkF m 349 Ls [(.long vt), (.int j), (.ref aq)])) rfl rfl (hb hby at_349)
      have AV29 : Arf Z h29 aq kaq .long (1999 : Int32) (fun i_ => .long (own_u fq j vt i_)) := (c23_21.set rfl W29 hj29).as (fun i_ _ => own_as64 _ _ _ _)
      have c30_29 := c22_21.other W29 (Ne.symm ne_aq_bm)
      have c31_29 := AV21.other W29 (Ne.symm ne_aq_bt)
      have zz32 := (Nat.le_trans zz24 (Keep.of_wr W29).1)
      have N29 := Fr.snoc X29 N21 g_aq
      have pre33 : Go p e below (T0.setTop (mkF m 310 Ls [])) (T29.setTop (mkF m 350 Ls [])) := fun t k => pre28 t (st29 t k)
      refine ⟨T29, h29, _, X29, e29, N29, zz32, ?_, pre33⟩
      rw [own_pk (by decide : ¬ (1 : Int32) = 0), own_pk (by decide : ¬ (1 : Int32) = 0), own_pk (by decide : ¬ (1 : Int32) = 0), own_pk (by decide : ¬ (1 : Int32) = 0)]
      exact ⟨c30_29, c31_29, ne_bm_bt, g_bm, g_bt, Or.inl ⟨rfl, rfl, own_zu hzm (hvm1 rfl)⟩, Or.inr ⟨rfl, aq, kaq, rfl, g_aq, ne_aq_bm, ne_aq_bt, ne_rq, AV29⟩⟩
  · skip
    rcases Ht with ⟨rfl, rfl, hzt⟩ | ⟨rfl, aq, kaq, rfl, g_aq, ne_aq_bm, ne_aq_bt, ne_rq, LAq⟩
    · skip
      have pre34 : Go p e below (T0.setTop (mkF m 310 Ls [])) (T0.setTop (mkF m 317 Ls [(.int ((xx).toInt8.toInt32)), (.int j), (.ref bm)])) := by
        intro t k
        refine pre0 t ?_
        show Steps p.tables e below (T0.setTop (mkF m 310 Ls [])) _
        refine XS.aload X0.here hx rfl (hb hby at_310) hl12 rfl ?_
        show Steps p.tables e below (T0.setTop (mkF m 312 Ls [(.ref bm)])) _
        refine XS.iload X0.here hx rfl (hb hby at_312) hl16 ?_
        show Steps p.tables e below (T0.setTop (mkF m 314 Ls [(.int j), (.ref bm)])) _
        refine XS.iload X0.here hx rfl (hb hby at_314) hl23 ?_
        show Steps p.tables e below (T0.setTop (mkF m 316 Ls [(.int xx), (.int j), (.ref bm)])) _
        refine XS.i2b X0.here hx rfl (hb hby at_316) rfl ?_
        show Steps p.tables e below (T0.setTop (mkF m 317 Ls [(.int ((xx).toInt8.toInt32)), (.int j), (.ref bm)])) _
        exact k
      obtain ⟨cl35, Ar35, SS35, NN35, -⟩ := Hbm.cell
      have hj35 : ¬ j < 0 ∧ j < (1999 : Int32) := hj ((by decide : ¬ (1 : Int32) = 0))
      obtain ⟨T35, h35, X35, e35, W35, st35⟩ := stB X0 hx hZ e0 Ar35 (j := j) (inb_of SS35 hj35) (g := (mkF m 317 Ls [(.int ((xx).toInt8.toInt32)), (.int j), (.ref bm)])) rfl rfl (hb hby at_317)
      have AV35 : Arf Z h35 bm km .byte (1999 : Int32) (fun i_ => .int (own_u fm j (nar .byte (xx.toInt8.toInt32)) i_)) := (Hbm.set (fits_nar_byte _) W35 hj35).as (fun i_ _ => own_as32 _ _ _ _)
      have c36_35 := Hbt.other W35 (Ne.symm ne_bm_bt)
      have c37_35 := LAm.other W35 ne_am_bm
      have zz38 := (Nat.le_trans Z0 (Keep.of_wr W35).1)
      have N35 := Fr.snoc X35 N0 g_bm
      have pre39 : Go p e below (T0.setTop (mkF m 310 Ls [])) (T35.setTop (mkF m 318 Ls [])) := fun t k => pre34 t (st35 t k)
      have pre40 : Go p e below (T0.setTop (mkF m 310 Ls [])) (T35.setTop (mkF m 325 Ls [(.int ((yy).toInt8.toInt32)), (.int j), (.ref bt)])) := by
        intro t k
        refine pre39 t ?_
        show Steps p.tables e below (T35.setTop (mkF m 318 Ls [])) _
        refine XS.aload X35.here hx rfl (hb hby at_318) hl13 rfl ?_
        show Steps p.tables e below (T35.setTop (mkF m 320 Ls [(.ref bt)])) _
        refine XS.iload X35.here hx rfl (hb hby at_320) hl16 ?_
        show Steps p.tables e below (T35.setTop (mkF m 322 Ls [(.int j), (.ref bt)])) _
        refine XS.iload X35.here hx rfl (hb hby at_322) hl24 ?_
        show Steps p.tables e below (T35.setTop (mkF m 324 Ls [(.int yy), (.int j), (.ref bt)])) _
        refine XS.i2b X35.here hx rfl (hb hby at_324) rfl ?_
        show Steps p.tables e below (T35.setTop (mkF m 325 Ls [(.int ((yy).toInt8.toInt32)), (.int j), (.ref bt)])) _
        exact k
      obtain ⟨cl41, Ar41, SS41, NN41, -⟩ := c36_35.cell
      have hj41 : ¬ j < 0 ∧ j < (1999 : Int32) := hj ((by decide : ¬ (1 : Int32) = 0))
      obtain ⟨T41, h41, X41, e41, W41, st41⟩ := stB X35 hx hZ e35 Ar41 (j := j) (inb_of SS41 hj41) (g := (mkF m 325 Ls [(.int ((yy).toInt8.toInt32)), (.int j), (.ref bt)])) rfl rfl (hb hby at_325)
      have AV41 : Arf Z h41 bt kt .byte (1999 : Int32) (fun i_ => .int (own_u ft j (nar .byte (yy.toInt8.toInt32)) i_)) := (c36_35.set (fits_nar_byte _) W41 hj41).as (fun i_ _ => own_as32 _ _ _ _)
      have c42_41 := AV35.other W41 ne_bm_bt
      have c43_41 := c37_35.other W41 ne_am_bt
      have zz44 := (Nat.le_trans zz38 (Keep.of_wr W41).1)
      have N41 := Fr.snoc X41 N35 g_bt
      have pre45 : Go p e below (T0.setTop (mkF m 310 Ls [])) (T41.setTop (mkF m 326 Ls [])) := fun t k => pre40 t (st41 t k)
      have pre46 : Go p e below (T0.setTop (mkF m 310 Ls [])) (T41.setTop (mkF m 328 Ls [(.int (0 : Int32))])) := by
        intro t k
        refine pre45 t ?_
        show Steps p.tables e below (T41.setTop (mkF m 326 Ls [])) _
        refine XS.iload X41.here hx rfl (hb hby at_326) hl8 ?_
        show Steps p.tables e below (T41.setTop (mkF m 328 Ls [(.int (0 : Int32))])) _
        exact k
      have pre47 : Go p e below (T0.setTop (mkF m 310 Ls [])) (T41.setTop (mkF m 337 Ls [(.long vm), (.int j), (.ref am)])) := by
        intro t k
        refine pre46 t ?_
        show Steps p.tables e below (T41.setTop (mkF m 328 Ls [(.int (0 : Int32))])) _
        refine XS.ifNo X41.here hx rfl (hb hby at_328) rfl (XT.i0_ne_f (by decide : (0 : Int32) = (0 : Int32))) ?_
        show Steps p.tables e below (T41.setTop (mkF m 331 Ls [])) _
        refine XS.aload X41.here hx rfl (hb hby at_331) hl14 rfl ?_
        show Steps p.tables e below (T41.setTop (mkF m 333 Ls [(.ref am)])) _
        refine XS.iload X41.here hx rfl (hb hby at_333) hl16 ?_
        show Steps p.tables e below (T41.setTop (mkF m 335 Ls [(.int j), (.ref am)])) _
        refine XT.lload X41.here hx rfl (hb hby at_335) hl31 ?_
        show Steps p.tables e below (T41.setTop (mkF m 337 Ls [(.long vm), (.int j), (.ref am)])) _
        exact k
      obtain ⟨cl48, Ar48, SS48, NN48, -⟩ := c43_41.cell
      have hj48 : ¬ j < 0 ∧ j < (1999 : Int32) := hj ((by decide : ¬ (1 : Int32) = 0))
      obtain ⟨T48, h48, X48, e48, W48, st48⟩ := stJ X41 hx hZ e41 Ar48 (j := j) (inb_of SS48 hj48) (g := (mkF m 337 Ls [(.long vm), (.int j), (.ref am)])) rfl rfl (hb hby at_337)
      have AV48 : Arf Z h48 am kam .long (1999 : Int32) (fun i_ => .long (own_u fr j vm i_)) := (c43_41.set rfl W48 hj48).as (fun i_ _ => own_as64 _ _ _ _)
      have c49_48 := c42_41.other W48 (Ne.symm ne_am_bm)
      have c50_48 := AV41.other W48 (Ne.symm ne_am_bt)
      have zz51 := (Nat.le_trans zz44 (Keep.of_wr W48).1)
      have N48 := Fr.snoc X48 N41 g_am
      have pre52 : Go p e below (T0.setTop (mkF m 310 Ls [])) (T48.setTop (mkF m 338 Ls [])) := fun t k => pre47 t (st48 t k)
      have pre53 : Go p e below (T0.setTop (mkF m 310 Ls [])) (T48.setTop (mkF m 340 Ls [(.int (1 : Int32))])) := by
        intro t k
        refine pre52 t ?_
        show Steps p.tables e below (T48.setTop (mkF m 338 Ls [])) _
        refine XS.iload X48.here hx rfl (hb hby at_338) hl9 ?_
        show Steps p.tables e below (T48.setTop (mkF m 340 Ls [(.int (1 : Int32))])) _
        exact k
      have pre54 : Go p e below (T0.setTop (mkF m 310 Ls [])) (T48.setTop (mkF m 350 Ls [])) := by
        intro t k
        refine pre53 t ?_
        show Steps p.tables e below (T48.setTop (mkF m 340 Ls [(.int (1 : Int32))])) _
        refine XS.ifYes X48.here hx rfl (pc0 := 340) (pc' := 350) rfl (hb hby at_340) rfl (XT.i0_ne_t (by decide : ¬ ((1 : Int32) = (0 : Int32)))) (by decide) (by decide) ?_
        show Steps p.tables e below (T48.setTop (mkF m 350 Ls [])) _
        exact k
      refine ⟨T48, h48, _, X48, e48, N48, zz51, ?_, pre54⟩
      rw [own_pk (by decide : ¬ (1 : Int32) = 0), own_pk (by decide : ¬ (1 : Int32) = 0), own_pk (by decide : ¬ (1 : Int32) = 0), own_pk (by decide : ¬ (1 : Int32) = 0)]
      exact ⟨c49_48, c50_48, ne_bm_bt, g_bm, g_bt, Or.inr ⟨rfl, am, kam, rfl, g_am, ne_am_bm, ne_am_bt, AV48⟩, Or.inl ⟨rfl, rfl, own_zu hzt (hvt1 rfl)⟩⟩
    · skip
      have pre55 : Go p e below (T0.setTop (mkF m 310 Ls [])) (T0.setTop (mkF m 317 Ls [(.int ((xx).toInt8.toInt32)), (.int j), (.ref bm)])) := by
        intro t k
        refine pre0 t ?_
        show Steps p.tables e below (T0.setTop (mkF m 310 Ls [])) _
        refine XS.aload X0.here hx rfl (hb hby at_310) hl12 rfl ?_
        show Steps p.tables e below (T0.setTop (mkF m 312 Ls [(.ref bm)])) _
        refine XS.iload X0.here hx rfl (hb hby at_312) hl16 ?_
        show Steps p.tables e below (T0.setTop (mkF m 314 Ls [(.int j), (.ref bm)])) _
        refine XS.iload X0.here hx rfl (hb hby at_314) hl23 ?_
        show Steps p.tables e below (T0.setTop (mkF m 316 Ls [(.int xx), (.int j), (.ref bm)])) _
        refine XS.i2b X0.here hx rfl (hb hby at_316) rfl ?_
        show Steps p.tables e below (T0.setTop (mkF m 317 Ls [(.int ((xx).toInt8.toInt32)), (.int j), (.ref bm)])) _
        exact k
      obtain ⟨cl56, Ar56, SS56, NN56, -⟩ := Hbm.cell
      have hj56 : ¬ j < 0 ∧ j < (1999 : Int32) := hj ((by decide : ¬ (1 : Int32) = 0))
      obtain ⟨T56, h56, X56, e56, W56, st56⟩ := stB X0 hx hZ e0 Ar56 (j := j) (inb_of SS56 hj56) (g := (mkF m 317 Ls [(.int ((xx).toInt8.toInt32)), (.int j), (.ref bm)])) rfl rfl (hb hby at_317)
      have AV56 : Arf Z h56 bm km .byte (1999 : Int32) (fun i_ => .int (own_u fm j (nar .byte (xx.toInt8.toInt32)) i_)) := (Hbm.set (fits_nar_byte _) W56 hj56).as (fun i_ _ => own_as32 _ _ _ _)
      have c57_56 := Hbt.other W56 (Ne.symm ne_bm_bt)
      have c58_56 := LAm.other W56 ne_am_bm
      have c59_56 := LAq.other W56 ne_aq_bm
      have zz60 := (Nat.le_trans Z0 (Keep.of_wr W56).1)
      have N56 := Fr.snoc X56 N0 g_bm
      have pre61 : Go p e below (T0.setTop (mkF m 310 Ls [])) (T56.setTop (mkF m 318 Ls [])) := fun t k => pre55 t (st56 t k)
      have pre62 : Go p e below (T0.setTop (mkF m 310 Ls [])) (T56.setTop (mkF m 325 Ls [(.int ((yy).toInt8.toInt32)), (.int j), (.ref bt)])) := by
        intro t k
        refine pre61 t ?_
        show Steps p.tables e below (T56.setTop (mkF m 318 Ls [])) _
        refine XS.aload X56.here hx rfl (hb hby at_318) hl13 rfl ?_
        show Steps p.tables e below (T56.setTop (mkF m 320 Ls [(.ref bt)])) _
        refine XS.iload X56.here hx rfl (hb hby at_320) hl16 ?_
        show Steps p.tables e below (T56.setTop (mkF m 322 Ls [(.int j), (.ref bt)])) _
        refine XS.iload X56.here hx rfl (hb hby at_322) hl24 ?_
        show Steps p.tables e below (T56.setTop (mkF m 324 Ls [(.int yy), (.int j), (.ref bt)])) _
        refine XS.i2b X56.here hx rfl (hb hby at_324) rfl ?_
        show Steps p.tables e below (T56.setTop (mkF m 325 Ls [(.int ((yy).toInt8.toInt32)), (.int j), (.ref bt)])) _
        exact k
      obtain ⟨cl63, Ar63, SS63, NN63, -⟩ := c57_56.cell
      have hj63 : ¬ j < 0 ∧ j < (1999 : Int32) := hj ((by decide : ¬ (1 : Int32) = 0))
      obtain ⟨T63, h63, X63, e63, W63, st63⟩ := stB X56 hx hZ e56 Ar63 (j := j) (inb_of SS63 hj63) (g := (mkF m 325 Ls [(.int ((yy).toInt8.toInt32)), (.int j), (.ref bt)])) rfl rfl (hb hby at_325)
      have AV63 : Arf Z h63 bt kt .byte (1999 : Int32) (fun i_ => .int (own_u ft j (nar .byte (yy.toInt8.toInt32)) i_)) := (c57_56.set (fits_nar_byte _) W63 hj63).as (fun i_ _ => own_as32 _ _ _ _)
      have c64_63 := AV56.other W63 ne_bm_bt
      have c65_63 := c58_56.other W63 ne_am_bt
      have c66_63 := c59_56.other W63 ne_aq_bt
      have zz67 := (Nat.le_trans zz60 (Keep.of_wr W63).1)
      have N63 := Fr.snoc X63 N56 g_bt
      have pre68 : Go p e below (T0.setTop (mkF m 310 Ls [])) (T63.setTop (mkF m 326 Ls [])) := fun t k => pre62 t (st63 t k)
      have pre69 : Go p e below (T0.setTop (mkF m 310 Ls [])) (T63.setTop (mkF m 328 Ls [(.int (0 : Int32))])) := by
        intro t k
        refine pre68 t ?_
        show Steps p.tables e below (T63.setTop (mkF m 326 Ls [])) _
        refine XS.iload X63.here hx rfl (hb hby at_326) hl8 ?_
        show Steps p.tables e below (T63.setTop (mkF m 328 Ls [(.int (0 : Int32))])) _
        exact k
      have pre70 : Go p e below (T0.setTop (mkF m 310 Ls [])) (T63.setTop (mkF m 337 Ls [(.long vm), (.int j), (.ref am)])) := by
        intro t k
        refine pre69 t ?_
        show Steps p.tables e below (T63.setTop (mkF m 328 Ls [(.int (0 : Int32))])) _
        refine XS.ifNo X63.here hx rfl (hb hby at_328) rfl (XT.i0_ne_f (by decide : (0 : Int32) = (0 : Int32))) ?_
        show Steps p.tables e below (T63.setTop (mkF m 331 Ls [])) _
        refine XS.aload X63.here hx rfl (hb hby at_331) hl14 rfl ?_
        show Steps p.tables e below (T63.setTop (mkF m 333 Ls [(.ref am)])) _
        refine XS.iload X63.here hx rfl (hb hby at_333) hl16 ?_
        show Steps p.tables e below (T63.setTop (mkF m 335 Ls [(.int j), (.ref am)])) _
        refine XT.lload X63.here hx rfl (hb hby at_335) hl31 ?_
        show Steps p.tables e below (T63.setTop (mkF m 337 Ls [(.long vm), (.int j), (.ref am)])) _
        exact k
      obtain ⟨cl71, Ar71, SS71, NN71, -⟩ := c65_63.cell
      have hj71 : ¬ j < 0 ∧ j < (1999 : Int32) := hj ((by decide : ¬ (1 : Int32) = 0))
      obtain ⟨T71, h71, X71, e71, W71, st71⟩ := stJ X63 hx hZ e63 Ar71 (j := j) (inb_of SS71 hj71) (g := (mkF m 337 Ls [(.long vm), (.int j), (.ref am)])) rfl rfl (hb hby at_337)
      have AV71 : Arf Z h71 am kam .long (1999 : Int32) (fun i_ => .long (own_u fr j vm i_)) := (c65_63.set rfl W71 hj71).as (fun i_ _ => own_as64 _ _ _ _)
      have c72_71 := c64_63.other W71 (Ne.symm ne_am_bm)
      have c73_71 := AV63.other W71 (Ne.symm ne_am_bt)
      have c74_71 := c66_63.other W71 (Ne.symm (fun q_ => ne_rq (congrArg Value.ref q_)))
      have zz75 := (Nat.le_trans zz67 (Keep.of_wr W71).1)
      have N71 := Fr.snoc X71 N63 g_am
      have pre76 : Go p e below (T0.setTop (mkF m 310 Ls [])) (T71.setTop (mkF m 338 Ls [])) := fun t k => pre70 t (st71 t k)
      have pre77 : Go p e below (T0.setTop (mkF m 310 Ls [])) (T71.setTop (mkF m 340 Ls [(.int (0 : Int32))])) := by
        intro t k
        refine pre76 t ?_
        show Steps p.tables e below (T71.setTop (mkF m 338 Ls [])) _
        refine XS.iload X71.here hx rfl (hb hby at_338) hl9 ?_
        show Steps p.tables e below (T71.setTop (mkF m 340 Ls [(.int (0 : Int32))])) _
        exact k
      have pre78 : Go p e below (T0.setTop (mkF m 310 Ls [])) (T71.setTop (mkF m 349 Ls [(.long vt), (.int j), (.ref aq)])) := by
        intro t k
        refine pre77 t ?_
        show Steps p.tables e below (T71.setTop (mkF m 340 Ls [(.int (0 : Int32))])) _
        refine XS.ifNo X71.here hx rfl (hb hby at_340) rfl (XT.i0_ne_f (by decide : (0 : Int32) = (0 : Int32))) ?_
        show Steps p.tables e below (T71.setTop (mkF m 343 Ls [])) _
        refine XS.aload X71.here hx rfl (hb hby at_343) hl15 rfl ?_
        show Steps p.tables e below (T71.setTop (mkF m 345 Ls [(.ref aq)])) _
        refine XS.iload X71.here hx rfl (hb hby at_345) hl16 ?_
        show Steps p.tables e below (T71.setTop (mkF m 347 Ls [(.int j), (.ref aq)])) _
        refine XT.lload X71.here hx rfl (hb hby at_347) hl33 ?_
        show Steps p.tables e below (T71.setTop (mkF m 349 Ls [(.long vt), (.int j), (.ref aq)])) _
        exact k
      obtain ⟨cl79, Ar79, SS79, NN79, -⟩ := c74_71.cell
      have hj79 : ¬ j < 0 ∧ j < (1999 : Int32) := hj ((by decide : ¬ (1 : Int32) = 0))
      obtain ⟨T79, h79, X79, e79, W79, st79⟩ := stJ X71 hx hZ e71 Ar79 (j := j) (inb_of SS79 hj79) (g := (mkF m 349 Ls [(.long vt), (.int j), (.ref aq)])) rfl rfl (hb hby at_349)
      have AV79 : Arf Z h79 aq kaq .long (1999 : Int32) (fun i_ => .long (own_u fq j vt i_)) := (c74_71.set rfl W79 hj79).as (fun i_ _ => own_as64 _ _ _ _)
      have c80_79 := c72_71.other W79 (Ne.symm ne_aq_bm)
      have c81_79 := c73_71.other W79 (Ne.symm ne_aq_bt)
      have c82_79 := AV71.other W79 (fun q_ => ne_rq (congrArg Value.ref q_))
      have zz83 := (Nat.le_trans zz75 (Keep.of_wr W79).1)
      have N79 := Fr.snoc X79 N71 g_aq
      have pre84 : Go p e below (T0.setTop (mkF m 310 Ls [])) (T79.setTop (mkF m 350 Ls [])) := fun t k => pre78 t (st79 t k)
      refine ⟨T79, h79, _, X79, e79, N79, zz83, ?_, pre84⟩
      rw [own_pk (by decide : ¬ (1 : Int32) = 0), own_pk (by decide : ¬ (1 : Int32) = 0), own_pk (by decide : ¬ (1 : Int32) = 0), own_pk (by decide : ¬ (1 : Int32) = 0)]
      exact ⟨c80_79, c81_79, ne_bm_bt, g_bm, g_bt, Or.inr ⟨rfl, am, kam, rfl, g_am, ne_am_bm, ne_am_bt, c82_79⟩, Or.inr ⟨rfl, aq, kaq, rfl, g_aq, ne_aq_bm, ne_aq_bt, ne_rq, AV79⟩⟩
set_option maxRecDepth 65536 in
set_option maxHeartbeats 40000000 in
theorem blk2 {p : Program} {l : Launch} {e : Env} {R : Room} {s : State} {m : MethodId} {args : Array Value} {below : List Frame} {meth : Method} {c : Code} {T0 : State} {locs : List Loc} {cells slots : Nat} {Z : State} {a0 : Array Value} {h0 : Heap} {n0 : Nat}  {Ls : Array Slot} {bm bt : Addr} {km kt : ClassId} {mn tn j xx yy fl : Int32} {r q : Value} {vm vt : Int64} {fm ft : Nat → Int32} {fr fq : Nat → Int64}
    (X0 : Stand p l e R s m args below meth c T0 locs cells slots) (hx : p.tables.exec = Jvm.exec) (hZ : Z.Warmed39 s.vm) (hw : ∀ d ∈ tables_1, d.before a0 Z = true) (hby : c.code = code) (hml : c.maxLocals = 46) (hown : s.vm.findClass "com/example/lanescan/lanescan/DistributionMergePinLaw" = some m.cls) (e0 : T0.heap = h0) (N0 : Fr n0 locs) (Z0 : n0 ≤ h0.size) (hl8 : Ls[8]? = some (.val (.int mn))) (hl9 : Ls[9]? = some (.val (.int tn))) (hl12 : Ls[12]? = some (.val (.ref bm))) (hl13 : Ls[13]? = some (.val (.ref bt))) (hl14 : Ls[14]? = some (.val r)) (hl15 : Ls[15]? = some (.val q)) (hl17 : Ls[17]? = some (.val (.int j))) (hl25 : Ls[25]? = some (.val (.int xx))) (hl26 : Ls[26]? = some (.val (.int yy))) (hl18 : Ls[18]? = some (.val (.int fl))) (hl35 : Ls[35]? = some (.val (.long vm))) (hl37 : Ls[37]? = some (.val (.long vt))) (Hbm : BA Z h0 bm km fm) (Hbt : BA Z h0 bt kt ft) (ne_bm_bt : bm ≠ bt) (g_bm : n0 ≤ bm) (g_bt : n0 ≤ bt) (Hm : (mn = 1 ∧ r = .null ∧ ∀ i, fr i = 0) ∨ (mn = 0 ∧ ∃ a k, r = .ref a ∧ n0 ≤ a ∧ a ≠ bm ∧ a ≠ bt ∧ LA Z h0 a k fr)) (Ht : (tn = 1 ∧ q = .null ∧ ∀ i, fq i = 0) ∨ (tn = 0 ∧ ∃ a k, q = .ref a ∧ n0 ≤ a ∧ a ≠ bm ∧ a ≠ bt ∧ r ≠ .ref a ∧ LA Z h0 a k fq)) (hj : ¬ fl = 0 → ¬ j < 0 ∧ j < (1999 : Int32)) (hvm1 : mn = 1 → vm = 0) (hvt1 : tn = 1 → vt = 0) :
    ∃ (T' : State) (h' : Heap) (locs' : List Loc), Stand p l e R s m args below meth c T' locs' cells slots ∧ T'.heap = h' ∧ Fr n0 locs' ∧ n0 ≤ h'.size ∧ own_H Z h' n0 bm km bt kt mn r tn q (own_c fl fm j (nar .byte (xx.toInt8.toInt32))) (own_c fl ft j (nar .byte (yy.toInt8.toInt32))) (own_c fl fr j vm) (own_c fl fq j vt) ∧ Go p e below (T0.setTop (mkF m 350 Ls [])) (T'.setTop (mkF m 395 Ls [])) := by
  have pre0 : Go p e below (T0.setTop (mkF m 350 Ls [])) (T0.setTop (mkF m 350 Ls [])) := fun t k => k
  rcases Hm with ⟨rfl, rfl, hzm⟩ | ⟨rfl, am, kam, rfl, g_am, ne_am_bm, ne_am_bt, LAm⟩
  · skip
    rcases Ht with ⟨rfl, rfl, hzt⟩ | ⟨rfl, aq, kaq, rfl, g_aq, ne_aq_bm, ne_aq_bt, ne_rq, LAq⟩
    · skip
      have pre1 : Go p e below (T0.setTop (mkF m 350 Ls [])) (T0.setTop (mkF m 352 Ls [(.int fl)])) := by
        intro t k
        refine pre0 t ?_
        show Steps p.tables e below (T0.setTop (mkF m 350 Ls [])) _
        refine XS.iload X0.here hx rfl (hb hby at_350) hl18 ?_
        show Steps p.tables e below (T0.setTop (mkF m 352 Ls [(.int fl)])) _
        exact k
      by_cases hc352_2 : fl = (0 : Int32)
      · skip
        have pre3 : Go p e below (T0.setTop (mkF m 350 Ls [])) (T0.setTop (mkF m 395 Ls [])) := by
          intro t k
          refine pre1 t ?_
          show Steps p.tables e below (T0.setTop (mkF m 352 Ls [(.int fl)])) _
          refine XS.ifYes X0.here hx rfl (pc0 := 352) (pc' := 395) rfl (hb hby at_352) rfl (XT.i0_eq_t hc352_2) (by decide) (by decide) ?_
          show Steps p.tables e below (T0.setTop (mkF m 395 Ls [])) _
          exact k
        refine ⟨T0, h0, _, X0, e0, N0, Z0, ?_, pre3⟩
        rw [own_sk hc352_2, own_sk hc352_2, own_sk hc352_2, own_sk hc352_2]
        exact ⟨Hbm, Hbt, ne_bm_bt, g_bm, g_bt, Or.inl ⟨rfl, rfl, hzm⟩, Or.inl ⟨rfl, rfl, hzt⟩⟩
      · skip
        have pre4 : Go p e below (T0.setTop (mkF m 350 Ls [])) (T0.setTop (mkF m 362 Ls [(.int ((xx).toInt8.toInt32)), (.int j), (.ref bm)])) := by
          intro t k
          refine pre1 t ?_
          show Steps p.tables e below (T0.setTop (mkF m 352 Ls [(.int fl)])) _
          refine XS.ifNo X0.here hx rfl (hb hby at_352) rfl (XT.i0_eq_f hc352_2) ?_
          show Steps p.tables e below (T0.setTop (mkF m 355 Ls [])) _
          refine XS.aload X0.here hx rfl (hb hby at_355) hl12 rfl ?_
          show Steps p.tables e below (T0.setTop (mkF m 357 Ls [(.ref bm)])) _
          refine XS.iload X0.here hx rfl (hb hby at_357) hl17 ?_
          show Steps p.tables e below (T0.setTop (mkF m 359 Ls [(.int j), (.ref bm)])) _
          refine XS.iload X0.here hx rfl (hb hby at_359) hl25 ?_
          show Steps p.tables e below (T0.setTop (mkF m 361 Ls [(.int xx), (.int j), (.ref bm)])) _
          refine XS.i2b X0.here hx rfl (hb hby at_361) rfl ?_
          show Steps p.tables e below (T0.setTop (mkF m 362 Ls [(.int ((xx).toInt8.toInt32)), (.int j), (.ref bm)])) _
          exact k
        obtain ⟨cl5, Ar5, SS5, NN5, -⟩ := Hbm.cell
        have hj5 : ¬ j < 0 ∧ j < (1999 : Int32) := hj (hc352_2)
        obtain ⟨T5, h5, X5, e5, W5, st5⟩ := stB X0 hx hZ e0 Ar5 (j := j) (inb_of SS5 hj5) (g := (mkF m 362 Ls [(.int ((xx).toInt8.toInt32)), (.int j), (.ref bm)])) rfl rfl (hb hby at_362)
        have AV5 : Arf Z h5 bm km .byte (1999 : Int32) (fun i_ => .int (own_u fm j (nar .byte (xx.toInt8.toInt32)) i_)) := (Hbm.set (fits_nar_byte _) W5 hj5).as (fun i_ _ => own_as32 _ _ _ _)
        have c6_5 := Hbt.other W5 (Ne.symm ne_bm_bt)
        have zz7 := (Nat.le_trans Z0 (Keep.of_wr W5).1)
        have N5 := Fr.snoc X5 N0 g_bm
        have pre8 : Go p e below (T0.setTop (mkF m 350 Ls [])) (T5.setTop (mkF m 363 Ls [])) := fun t k => pre4 t (st5 t k)
        have pre9 : Go p e below (T0.setTop (mkF m 350 Ls [])) (T5.setTop (mkF m 370 Ls [(.int ((yy).toInt8.toInt32)), (.int j), (.ref bt)])) := by
          intro t k
          refine pre8 t ?_
          show Steps p.tables e below (T5.setTop (mkF m 363 Ls [])) _
          refine XS.aload X5.here hx rfl (hb hby at_363) hl13 rfl ?_
          show Steps p.tables e below (T5.setTop (mkF m 365 Ls [(.ref bt)])) _
          refine XS.iload X5.here hx rfl (hb hby at_365) hl17 ?_
          show Steps p.tables e below (T5.setTop (mkF m 367 Ls [(.int j), (.ref bt)])) _
          refine XS.iload X5.here hx rfl (hb hby at_367) hl26 ?_
          show Steps p.tables e below (T5.setTop (mkF m 369 Ls [(.int yy), (.int j), (.ref bt)])) _
          refine XS.i2b X5.here hx rfl (hb hby at_369) rfl ?_
          show Steps p.tables e below (T5.setTop (mkF m 370 Ls [(.int ((yy).toInt8.toInt32)), (.int j), (.ref bt)])) _
          exact k
        obtain ⟨cl10, Ar10, SS10, NN10, -⟩ := c6_5.cell
        have hj10 : ¬ j < 0 ∧ j < (1999 : Int32) := hj (hc352_2)
        obtain ⟨T10, h10, X10, e10, W10, st10⟩ := stB X5 hx hZ e5 Ar10 (j := j) (inb_of SS10 hj10) (g := (mkF m 370 Ls [(.int ((yy).toInt8.toInt32)), (.int j), (.ref bt)])) rfl rfl (hb hby at_370)
        have AV10 : Arf Z h10 bt kt .byte (1999 : Int32) (fun i_ => .int (own_u ft j (nar .byte (yy.toInt8.toInt32)) i_)) := (c6_5.set (fits_nar_byte _) W10 hj10).as (fun i_ _ => own_as32 _ _ _ _)
        have c11_10 := AV5.other W10 ne_bm_bt
        have zz12 := (Nat.le_trans zz7 (Keep.of_wr W10).1)
        have N10 := Fr.snoc X10 N5 g_bt
        have pre13 : Go p e below (T0.setTop (mkF m 350 Ls [])) (T10.setTop (mkF m 371 Ls [])) := fun t k => pre9 t (st10 t k)
        have pre14 : Go p e below (T0.setTop (mkF m 350 Ls [])) (T10.setTop (mkF m 373 Ls [(.int (1 : Int32))])) := by
          intro t k
          refine pre13 t ?_
          show Steps p.tables e below (T10.setTop (mkF m 371 Ls [])) _
          refine XS.iload X10.here hx rfl (hb hby at_371) hl8 ?_
          show Steps p.tables e below (T10.setTop (mkF m 373 Ls [(.int (1 : Int32))])) _
          exact k
        have pre15 : Go p e below (T0.setTop (mkF m 350 Ls [])) (T10.setTop (mkF m 385 Ls [(.int (1 : Int32))])) := by
          intro t k
          refine pre14 t ?_
          show Steps p.tables e below (T10.setTop (mkF m 373 Ls [(.int (1 : Int32))])) _
          refine XS.ifYes X10.here hx rfl (pc0 := 373) (pc' := 383) rfl (hb hby at_373) rfl (XT.i0_ne_t (by decide : ¬ ((1 : Int32) = (0 : Int32)))) (by decide) (by decide) ?_
          show Steps p.tables e below (T10.setTop (mkF m 383 Ls [])) _
          refine XS.iload X10.here hx rfl (hb hby at_383) hl9 ?_
          show Steps p.tables e below (T10.setTop (mkF m 385 Ls [(.int (1 : Int32))])) _
          exact k
        have pre16 : Go p e below (T0.setTop (mkF m 350 Ls [])) (T10.setTop (mkF m 395 Ls [])) := by
          intro t k
          refine pre15 t ?_
          show Steps p.tables e below (T10.setTop (mkF m 385 Ls [(.int (1 : Int32))])) _
          refine XS.ifYes X10.here hx rfl (pc0 := 385) (pc' := 395) rfl (hb hby at_385) rfl (XT.i0_ne_t (by decide : ¬ ((1 : Int32) = (0 : Int32)))) (by decide) (by decide) ?_
          show Steps p.tables e below (T10.setTop (mkF m 395 Ls [])) _
          exact k
        refine ⟨T10, h10, _, X10, e10, N10, zz12, ?_, pre16⟩
        rw [own_pk hc352_2, own_pk hc352_2, own_pk hc352_2, own_pk hc352_2]
        exact ⟨c11_10, AV10, ne_bm_bt, g_bm, g_bt, Or.inl ⟨rfl, rfl, own_zu hzm (hvm1 rfl)⟩, Or.inl ⟨rfl, rfl, own_zu hzt (hvt1 rfl)⟩⟩
    · skip
      have pre17 : Go p e below (T0.setTop (mkF m 350 Ls [])) (T0.setTop (mkF m 352 Ls [(.int fl)])) := by
        intro t k
        refine pre0 t ?_
        show Steps p.tables e below (T0.setTop (mkF m 350 Ls [])) _
        refine XS.iload X0.here hx rfl (hb hby at_350) hl18 ?_
        show Steps p.tables e below (T0.setTop (mkF m 352 Ls [(.int fl)])) _
        exact k
      by_cases hc352_18 : fl = (0 : Int32)
      · skip
        have pre19 : Go p e below (T0.setTop (mkF m 350 Ls [])) (T0.setTop (mkF m 395 Ls [])) := by
          intro t k
          refine pre17 t ?_
          show Steps p.tables e below (T0.setTop (mkF m 352 Ls [(.int fl)])) _
          refine XS.ifYes X0.here hx rfl (pc0 := 352) (pc' := 395) rfl (hb hby at_352) rfl (XT.i0_eq_t hc352_18) (by decide) (by decide) ?_
          show Steps p.tables e below (T0.setTop (mkF m 395 Ls [])) _
          exact k
        refine ⟨T0, h0, _, X0, e0, N0, Z0, ?_, pre19⟩
        rw [own_sk hc352_18, own_sk hc352_18, own_sk hc352_18, own_sk hc352_18]
        exact ⟨Hbm, Hbt, ne_bm_bt, g_bm, g_bt, Or.inl ⟨rfl, rfl, hzm⟩, Or.inr ⟨rfl, aq, kaq, rfl, g_aq, ne_aq_bm, ne_aq_bt, ne_rq, LAq⟩⟩
      · skip
        have pre20 : Go p e below (T0.setTop (mkF m 350 Ls [])) (T0.setTop (mkF m 362 Ls [(.int ((xx).toInt8.toInt32)), (.int j), (.ref bm)])) := by
          intro t k
          refine pre17 t ?_
          show Steps p.tables e below (T0.setTop (mkF m 352 Ls [(.int fl)])) _
          refine XS.ifNo X0.here hx rfl (hb hby at_352) rfl (XT.i0_eq_f hc352_18) ?_
          show Steps p.tables e below (T0.setTop (mkF m 355 Ls [])) _
          refine XS.aload X0.here hx rfl (hb hby at_355) hl12 rfl ?_
          show Steps p.tables e below (T0.setTop (mkF m 357 Ls [(.ref bm)])) _
          refine XS.iload X0.here hx rfl (hb hby at_357) hl17 ?_
          show Steps p.tables e below (T0.setTop (mkF m 359 Ls [(.int j), (.ref bm)])) _
          refine XS.iload X0.here hx rfl (hb hby at_359) hl25 ?_
          show Steps p.tables e below (T0.setTop (mkF m 361 Ls [(.int xx), (.int j), (.ref bm)])) _
          refine XS.i2b X0.here hx rfl (hb hby at_361) rfl ?_
          show Steps p.tables e below (T0.setTop (mkF m 362 Ls [(.int ((xx).toInt8.toInt32)), (.int j), (.ref bm)])) _
          exact k
        obtain ⟨cl21, Ar21, SS21, NN21, -⟩ := Hbm.cell
        have hj21 : ¬ j < 0 ∧ j < (1999 : Int32) := hj (hc352_18)
        obtain ⟨T21, h21, X21, e21, W21, st21⟩ := stB X0 hx hZ e0 Ar21 (j := j) (inb_of SS21 hj21) (g := (mkF m 362 Ls [(.int ((xx).toInt8.toInt32)), (.int j), (.ref bm)])) rfl rfl (hb hby at_362)
        have AV21 : Arf Z h21 bm km .byte (1999 : Int32) (fun i_ => .int (own_u fm j (nar .byte (xx.toInt8.toInt32)) i_)) := (Hbm.set (fits_nar_byte _) W21 hj21).as (fun i_ _ => own_as32 _ _ _ _)
        have c22_21 := Hbt.other W21 (Ne.symm ne_bm_bt)
        have c23_21 := LAq.other W21 ne_aq_bm
        have zz24 := (Nat.le_trans Z0 (Keep.of_wr W21).1)
        have N21 := Fr.snoc X21 N0 g_bm
        have pre25 : Go p e below (T0.setTop (mkF m 350 Ls [])) (T21.setTop (mkF m 363 Ls [])) := fun t k => pre20 t (st21 t k)
        have pre26 : Go p e below (T0.setTop (mkF m 350 Ls [])) (T21.setTop (mkF m 370 Ls [(.int ((yy).toInt8.toInt32)), (.int j), (.ref bt)])) := by
          intro t k
          refine pre25 t ?_
          show Steps p.tables e below (T21.setTop (mkF m 363 Ls [])) _
          refine XS.aload X21.here hx rfl (hb hby at_363) hl13 rfl ?_
          show Steps p.tables e below (T21.setTop (mkF m 365 Ls [(.ref bt)])) _
          refine XS.iload X21.here hx rfl (hb hby at_365) hl17 ?_
          show Steps p.tables e below (T21.setTop (mkF m 367 Ls [(.int j), (.ref bt)])) _
          refine XS.iload X21.here hx rfl (hb hby at_367) hl26 ?_
          show Steps p.tables e below (T21.setTop (mkF m 369 Ls [(.int yy), (.int j), (.ref bt)])) _
          refine XS.i2b X21.here hx rfl (hb hby at_369) rfl ?_
          show Steps p.tables e below (T21.setTop (mkF m 370 Ls [(.int ((yy).toInt8.toInt32)), (.int j), (.ref bt)])) _
          exact k
        obtain ⟨cl27, Ar27, SS27, NN27, -⟩ := c22_21.cell
        have hj27 : ¬ j < 0 ∧ j < (1999 : Int32) := hj (hc352_18)
        obtain ⟨T27, h27, X27, e27, W27, st27⟩ := stB X21 hx hZ e21 Ar27 (j := j) (inb_of SS27 hj27) (g := (mkF m 370 Ls [(.int ((yy).toInt8.toInt32)), (.int j), (.ref bt)])) rfl rfl (hb hby at_370)
        have AV27 : Arf Z h27 bt kt .byte (1999 : Int32) (fun i_ => .int (own_u ft j (nar .byte (yy.toInt8.toInt32)) i_)) := (c22_21.set (fits_nar_byte _) W27 hj27).as (fun i_ _ => own_as32 _ _ _ _)
        have c28_27 := AV21.other W27 ne_bm_bt
        have c29_27 := c23_21.other W27 ne_aq_bt
        have zz30 := (Nat.le_trans zz24 (Keep.of_wr W27).1)
        have N27 := Fr.snoc X27 N21 g_bt
        have pre31 : Go p e below (T0.setTop (mkF m 350 Ls [])) (T27.setTop (mkF m 371 Ls [])) := fun t k => pre26 t (st27 t k)
        have pre32 : Go p e below (T0.setTop (mkF m 350 Ls [])) (T27.setTop (mkF m 373 Ls [(.int (1 : Int32))])) := by
          intro t k
          refine pre31 t ?_
          show Steps p.tables e below (T27.setTop (mkF m 371 Ls [])) _
          refine XS.iload X27.here hx rfl (hb hby at_371) hl8 ?_
          show Steps p.tables e below (T27.setTop (mkF m 373 Ls [(.int (1 : Int32))])) _
          exact k
        have pre33 : Go p e below (T0.setTop (mkF m 350 Ls [])) (T27.setTop (mkF m 385 Ls [(.int (0 : Int32))])) := by
          intro t k
          refine pre32 t ?_
          show Steps p.tables e below (T27.setTop (mkF m 373 Ls [(.int (1 : Int32))])) _
          refine XS.ifYes X27.here hx rfl (pc0 := 373) (pc' := 383) rfl (hb hby at_373) rfl (XT.i0_ne_t (by decide : ¬ ((1 : Int32) = (0 : Int32)))) (by decide) (by decide) ?_
          show Steps p.tables e below (T27.setTop (mkF m 383 Ls [])) _
          refine XS.iload X27.here hx rfl (hb hby at_383) hl9 ?_
          show Steps p.tables e below (T27.setTop (mkF m 385 Ls [(.int (0 : Int32))])) _
          exact k
        have pre34 : Go p e below (T0.setTop (mkF m 350 Ls [])) (T27.setTop (mkF m 394 Ls [(.long vt), (.int j), (.ref aq)])) := by
          intro t k
          refine pre33 t ?_
          show Steps p.tables e below (T27.setTop (mkF m 385 Ls [(.int (0 : Int32))])) _
          refine XS.ifNo X27.here hx rfl (hb hby at_385) rfl (XT.i0_ne_f (by decide : (0 : Int32) = (0 : Int32))) ?_
          show Steps p.tables e below (T27.setTop (mkF m 388 Ls [])) _
          refine XS.aload X27.here hx rfl (hb hby at_388) hl15 rfl ?_
          show Steps p.tables e below (T27.setTop (mkF m 390 Ls [(.ref aq)])) _
          refine XS.iload X27.here hx rfl (hb hby at_390) hl17 ?_
          show Steps p.tables e below (T27.setTop (mkF m 392 Ls [(.int j), (.ref aq)])) _
          refine XT.lload X27.here hx rfl (hb hby at_392) hl37 ?_
          show Steps p.tables e below (T27.setTop (mkF m 394 Ls [(.long vt), (.int j), (.ref aq)])) _
          exact k
        obtain ⟨cl35, Ar35, SS35, NN35, -⟩ := c29_27.cell
        have hj35 : ¬ j < 0 ∧ j < (1999 : Int32) := hj (hc352_18)
        obtain ⟨T35, h35, X35, e35, W35, st35⟩ := stJ X27 hx hZ e27 Ar35 (j := j) (inb_of SS35 hj35) (g := (mkF m 394 Ls [(.long vt), (.int j), (.ref aq)])) rfl rfl (hb hby at_394)
        have AV35 : Arf Z h35 aq kaq .long (1999 : Int32) (fun i_ => .long (own_u fq j vt i_)) := (c29_27.set rfl W35 hj35).as (fun i_ _ => own_as64 _ _ _ _)
        have c36_35 := c28_27.other W35 (Ne.symm ne_aq_bm)
        have c37_35 := AV27.other W35 (Ne.symm ne_aq_bt)
        have zz38 := (Nat.le_trans zz30 (Keep.of_wr W35).1)
        have N35 := Fr.snoc X35 N27 g_aq
        have pre39 : Go p e below (T0.setTop (mkF m 350 Ls [])) (T35.setTop (mkF m 395 Ls [])) := fun t k => pre34 t (st35 t k)
        refine ⟨T35, h35, _, X35, e35, N35, zz38, ?_, pre39⟩
        rw [own_pk hc352_18, own_pk hc352_18, own_pk hc352_18, own_pk hc352_18]
        exact ⟨c36_35, c37_35, ne_bm_bt, g_bm, g_bt, Or.inl ⟨rfl, rfl, own_zu hzm (hvm1 rfl)⟩, Or.inr ⟨rfl, aq, kaq, rfl, g_aq, ne_aq_bm, ne_aq_bt, ne_rq, AV35⟩⟩
  · skip
    rcases Ht with ⟨rfl, rfl, hzt⟩ | ⟨rfl, aq, kaq, rfl, g_aq, ne_aq_bm, ne_aq_bt, ne_rq, LAq⟩
    · skip
      have pre40 : Go p e below (T0.setTop (mkF m 350 Ls [])) (T0.setTop (mkF m 352 Ls [(.int fl)])) := by
        intro t k
        refine pre0 t ?_
        show Steps p.tables e below (T0.setTop (mkF m 350 Ls [])) _
        refine XS.iload X0.here hx rfl (hb hby at_350) hl18 ?_
        show Steps p.tables e below (T0.setTop (mkF m 352 Ls [(.int fl)])) _
        exact k
      by_cases hc352_41 : fl = (0 : Int32)
      · skip
        have pre42 : Go p e below (T0.setTop (mkF m 350 Ls [])) (T0.setTop (mkF m 395 Ls [])) := by
          intro t k
          refine pre40 t ?_
          show Steps p.tables e below (T0.setTop (mkF m 352 Ls [(.int fl)])) _
          refine XS.ifYes X0.here hx rfl (pc0 := 352) (pc' := 395) rfl (hb hby at_352) rfl (XT.i0_eq_t hc352_41) (by decide) (by decide) ?_
          show Steps p.tables e below (T0.setTop (mkF m 395 Ls [])) _
          exact k
        refine ⟨T0, h0, _, X0, e0, N0, Z0, ?_, pre42⟩
        rw [own_sk hc352_41, own_sk hc352_41, own_sk hc352_41, own_sk hc352_41]
        exact ⟨Hbm, Hbt, ne_bm_bt, g_bm, g_bt, Or.inr ⟨rfl, am, kam, rfl, g_am, ne_am_bm, ne_am_bt, LAm⟩, Or.inl ⟨rfl, rfl, hzt⟩⟩
      · skip
        have pre43 : Go p e below (T0.setTop (mkF m 350 Ls [])) (T0.setTop (mkF m 362 Ls [(.int ((xx).toInt8.toInt32)), (.int j), (.ref bm)])) := by
          intro t k
          refine pre40 t ?_
          show Steps p.tables e below (T0.setTop (mkF m 352 Ls [(.int fl)])) _
          refine XS.ifNo X0.here hx rfl (hb hby at_352) rfl (XT.i0_eq_f hc352_41) ?_
          show Steps p.tables e below (T0.setTop (mkF m 355 Ls [])) _
          refine XS.aload X0.here hx rfl (hb hby at_355) hl12 rfl ?_
          show Steps p.tables e below (T0.setTop (mkF m 357 Ls [(.ref bm)])) _
          refine XS.iload X0.here hx rfl (hb hby at_357) hl17 ?_
          show Steps p.tables e below (T0.setTop (mkF m 359 Ls [(.int j), (.ref bm)])) _
          refine XS.iload X0.here hx rfl (hb hby at_359) hl25 ?_
          show Steps p.tables e below (T0.setTop (mkF m 361 Ls [(.int xx), (.int j), (.ref bm)])) _
          refine XS.i2b X0.here hx rfl (hb hby at_361) rfl ?_
          show Steps p.tables e below (T0.setTop (mkF m 362 Ls [(.int ((xx).toInt8.toInt32)), (.int j), (.ref bm)])) _
          exact k
        obtain ⟨cl44, Ar44, SS44, NN44, -⟩ := Hbm.cell
        have hj44 : ¬ j < 0 ∧ j < (1999 : Int32) := hj (hc352_41)
        obtain ⟨T44, h44, X44, e44, W44, st44⟩ := stB X0 hx hZ e0 Ar44 (j := j) (inb_of SS44 hj44) (g := (mkF m 362 Ls [(.int ((xx).toInt8.toInt32)), (.int j), (.ref bm)])) rfl rfl (hb hby at_362)
        have AV44 : Arf Z h44 bm km .byte (1999 : Int32) (fun i_ => .int (own_u fm j (nar .byte (xx.toInt8.toInt32)) i_)) := (Hbm.set (fits_nar_byte _) W44 hj44).as (fun i_ _ => own_as32 _ _ _ _)
        have c45_44 := Hbt.other W44 (Ne.symm ne_bm_bt)
        have c46_44 := LAm.other W44 ne_am_bm
        have zz47 := (Nat.le_trans Z0 (Keep.of_wr W44).1)
        have N44 := Fr.snoc X44 N0 g_bm
        have pre48 : Go p e below (T0.setTop (mkF m 350 Ls [])) (T44.setTop (mkF m 363 Ls [])) := fun t k => pre43 t (st44 t k)
        have pre49 : Go p e below (T0.setTop (mkF m 350 Ls [])) (T44.setTop (mkF m 370 Ls [(.int ((yy).toInt8.toInt32)), (.int j), (.ref bt)])) := by
          intro t k
          refine pre48 t ?_
          show Steps p.tables e below (T44.setTop (mkF m 363 Ls [])) _
          refine XS.aload X44.here hx rfl (hb hby at_363) hl13 rfl ?_
          show Steps p.tables e below (T44.setTop (mkF m 365 Ls [(.ref bt)])) _
          refine XS.iload X44.here hx rfl (hb hby at_365) hl17 ?_
          show Steps p.tables e below (T44.setTop (mkF m 367 Ls [(.int j), (.ref bt)])) _
          refine XS.iload X44.here hx rfl (hb hby at_367) hl26 ?_
          show Steps p.tables e below (T44.setTop (mkF m 369 Ls [(.int yy), (.int j), (.ref bt)])) _
          refine XS.i2b X44.here hx rfl (hb hby at_369) rfl ?_
          show Steps p.tables e below (T44.setTop (mkF m 370 Ls [(.int ((yy).toInt8.toInt32)), (.int j), (.ref bt)])) _
          exact k
        obtain ⟨cl50, Ar50, SS50, NN50, -⟩ := c45_44.cell
        have hj50 : ¬ j < 0 ∧ j < (1999 : Int32) := hj (hc352_41)
        obtain ⟨T50, h50, X50, e50, W50, st50⟩ := stB X44 hx hZ e44 Ar50 (j := j) (inb_of SS50 hj50) (g := (mkF m 370 Ls [(.int ((yy).toInt8.toInt32)), (.int j), (.ref bt)])) rfl rfl (hb hby at_370)
        have AV50 : Arf Z h50 bt kt .byte (1999 : Int32) (fun i_ => .int (own_u ft j (nar .byte (yy.toInt8.toInt32)) i_)) := (c45_44.set (fits_nar_byte _) W50 hj50).as (fun i_ _ => own_as32 _ _ _ _)
        have c51_50 := AV44.other W50 ne_bm_bt
        have c52_50 := c46_44.other W50 ne_am_bt
        have zz53 := (Nat.le_trans zz47 (Keep.of_wr W50).1)
        have N50 := Fr.snoc X50 N44 g_bt
        have pre54 : Go p e below (T0.setTop (mkF m 350 Ls [])) (T50.setTop (mkF m 371 Ls [])) := fun t k => pre49 t (st50 t k)
        have pre55 : Go p e below (T0.setTop (mkF m 350 Ls [])) (T50.setTop (mkF m 373 Ls [(.int (0 : Int32))])) := by
          intro t k
          refine pre54 t ?_
          show Steps p.tables e below (T50.setTop (mkF m 371 Ls [])) _
          refine XS.iload X50.here hx rfl (hb hby at_371) hl8 ?_
          show Steps p.tables e below (T50.setTop (mkF m 373 Ls [(.int (0 : Int32))])) _
          exact k
        have pre56 : Go p e below (T0.setTop (mkF m 350 Ls [])) (T50.setTop (mkF m 382 Ls [(.long vm), (.int j), (.ref am)])) := by
          intro t k
          refine pre55 t ?_
          show Steps p.tables e below (T50.setTop (mkF m 373 Ls [(.int (0 : Int32))])) _
          refine XS.ifNo X50.here hx rfl (hb hby at_373) rfl (XT.i0_ne_f (by decide : (0 : Int32) = (0 : Int32))) ?_
          show Steps p.tables e below (T50.setTop (mkF m 376 Ls [])) _
          refine XS.aload X50.here hx rfl (hb hby at_376) hl14 rfl ?_
          show Steps p.tables e below (T50.setTop (mkF m 378 Ls [(.ref am)])) _
          refine XS.iload X50.here hx rfl (hb hby at_378) hl17 ?_
          show Steps p.tables e below (T50.setTop (mkF m 380 Ls [(.int j), (.ref am)])) _
          refine XT.lload X50.here hx rfl (hb hby at_380) hl35 ?_
          show Steps p.tables e below (T50.setTop (mkF m 382 Ls [(.long vm), (.int j), (.ref am)])) _
          exact k
        obtain ⟨cl57, Ar57, SS57, NN57, -⟩ := c52_50.cell
        have hj57 : ¬ j < 0 ∧ j < (1999 : Int32) := hj (hc352_41)
        obtain ⟨T57, h57, X57, e57, W57, st57⟩ := stJ X50 hx hZ e50 Ar57 (j := j) (inb_of SS57 hj57) (g := (mkF m 382 Ls [(.long vm), (.int j), (.ref am)])) rfl rfl (hb hby at_382)
        have AV57 : Arf Z h57 am kam .long (1999 : Int32) (fun i_ => .long (own_u fr j vm i_)) := (c52_50.set rfl W57 hj57).as (fun i_ _ => own_as64 _ _ _ _)
        have c58_57 := c51_50.other W57 (Ne.symm ne_am_bm)
        have c59_57 := AV50.other W57 (Ne.symm ne_am_bt)
        have zz60 := (Nat.le_trans zz53 (Keep.of_wr W57).1)
        have N57 := Fr.snoc X57 N50 g_am
        have pre61 : Go p e below (T0.setTop (mkF m 350 Ls [])) (T57.setTop (mkF m 383 Ls [])) := fun t k => pre56 t (st57 t k)
        have pre62 : Go p e below (T0.setTop (mkF m 350 Ls [])) (T57.setTop (mkF m 385 Ls [(.int (1 : Int32))])) := by
          intro t k
          refine pre61 t ?_
          show Steps p.tables e below (T57.setTop (mkF m 383 Ls [])) _
          refine XS.iload X57.here hx rfl (hb hby at_383) hl9 ?_
          show Steps p.tables e below (T57.setTop (mkF m 385 Ls [(.int (1 : Int32))])) _
          exact k
        have pre63 : Go p e below (T0.setTop (mkF m 350 Ls [])) (T57.setTop (mkF m 395 Ls [])) := by
          intro t k
          refine pre62 t ?_
          show Steps p.tables e below (T57.setTop (mkF m 385 Ls [(.int (1 : Int32))])) _
          refine XS.ifYes X57.here hx rfl (pc0 := 385) (pc' := 395) rfl (hb hby at_385) rfl (XT.i0_ne_t (by decide : ¬ ((1 : Int32) = (0 : Int32)))) (by decide) (by decide) ?_
          show Steps p.tables e below (T57.setTop (mkF m 395 Ls [])) _
          exact k
        refine ⟨T57, h57, _, X57, e57, N57, zz60, ?_, pre63⟩
        rw [own_pk hc352_41, own_pk hc352_41, own_pk hc352_41, own_pk hc352_41]
        exact ⟨c58_57, c59_57, ne_bm_bt, g_bm, g_bt, Or.inr ⟨rfl, am, kam, rfl, g_am, ne_am_bm, ne_am_bt, AV57⟩, Or.inl ⟨rfl, rfl, own_zu hzt (hvt1 rfl)⟩⟩
    · skip
      have pre64 : Go p e below (T0.setTop (mkF m 350 Ls [])) (T0.setTop (mkF m 352 Ls [(.int fl)])) := by
        intro t k
        refine pre0 t ?_
        show Steps p.tables e below (T0.setTop (mkF m 350 Ls [])) _
        refine XS.iload X0.here hx rfl (hb hby at_350) hl18 ?_
        show Steps p.tables e below (T0.setTop (mkF m 352 Ls [(.int fl)])) _
        exact k
      by_cases hc352_65 : fl = (0 : Int32)
      · skip
        have pre66 : Go p e below (T0.setTop (mkF m 350 Ls [])) (T0.setTop (mkF m 395 Ls [])) := by
          intro t k
          refine pre64 t ?_
          show Steps p.tables e below (T0.setTop (mkF m 352 Ls [(.int fl)])) _
          refine XS.ifYes X0.here hx rfl (pc0 := 352) (pc' := 395) rfl (hb hby at_352) rfl (XT.i0_eq_t hc352_65) (by decide) (by decide) ?_
          show Steps p.tables e below (T0.setTop (mkF m 395 Ls [])) _
          exact k
        refine ⟨T0, h0, _, X0, e0, N0, Z0, ?_, pre66⟩
        rw [own_sk hc352_65, own_sk hc352_65, own_sk hc352_65, own_sk hc352_65]
        exact ⟨Hbm, Hbt, ne_bm_bt, g_bm, g_bt, Or.inr ⟨rfl, am, kam, rfl, g_am, ne_am_bm, ne_am_bt, LAm⟩, Or.inr ⟨rfl, aq, kaq, rfl, g_aq, ne_aq_bm, ne_aq_bt, ne_rq, LAq⟩⟩
      · skip
        have pre67 : Go p e below (T0.setTop (mkF m 350 Ls [])) (T0.setTop (mkF m 362 Ls [(.int ((xx).toInt8.toInt32)), (.int j), (.ref bm)])) := by
          intro t k
          refine pre64 t ?_
          show Steps p.tables e below (T0.setTop (mkF m 352 Ls [(.int fl)])) _
          refine XS.ifNo X0.here hx rfl (hb hby at_352) rfl (XT.i0_eq_f hc352_65) ?_
          show Steps p.tables e below (T0.setTop (mkF m 355 Ls [])) _
          refine XS.aload X0.here hx rfl (hb hby at_355) hl12 rfl ?_
          show Steps p.tables e below (T0.setTop (mkF m 357 Ls [(.ref bm)])) _
          refine XS.iload X0.here hx rfl (hb hby at_357) hl17 ?_
          show Steps p.tables e below (T0.setTop (mkF m 359 Ls [(.int j), (.ref bm)])) _
          refine XS.iload X0.here hx rfl (hb hby at_359) hl25 ?_
          show Steps p.tables e below (T0.setTop (mkF m 361 Ls [(.int xx), (.int j), (.ref bm)])) _
          refine XS.i2b X0.here hx rfl (hb hby at_361) rfl ?_
          show Steps p.tables e below (T0.setTop (mkF m 362 Ls [(.int ((xx).toInt8.toInt32)), (.int j), (.ref bm)])) _
          exact k
        obtain ⟨cl68, Ar68, SS68, NN68, -⟩ := Hbm.cell
        have hj68 : ¬ j < 0 ∧ j < (1999 : Int32) := hj (hc352_65)
        obtain ⟨T68, h68, X68, e68, W68, st68⟩ := stB X0 hx hZ e0 Ar68 (j := j) (inb_of SS68 hj68) (g := (mkF m 362 Ls [(.int ((xx).toInt8.toInt32)), (.int j), (.ref bm)])) rfl rfl (hb hby at_362)
        have AV68 : Arf Z h68 bm km .byte (1999 : Int32) (fun i_ => .int (own_u fm j (nar .byte (xx.toInt8.toInt32)) i_)) := (Hbm.set (fits_nar_byte _) W68 hj68).as (fun i_ _ => own_as32 _ _ _ _)
        have c69_68 := Hbt.other W68 (Ne.symm ne_bm_bt)
        have c70_68 := LAm.other W68 ne_am_bm
        have c71_68 := LAq.other W68 ne_aq_bm
        have zz72 := (Nat.le_trans Z0 (Keep.of_wr W68).1)
        have N68 := Fr.snoc X68 N0 g_bm
        have pre73 : Go p e below (T0.setTop (mkF m 350 Ls [])) (T68.setTop (mkF m 363 Ls [])) := fun t k => pre67 t (st68 t k)
        have pre74 : Go p e below (T0.setTop (mkF m 350 Ls [])) (T68.setTop (mkF m 370 Ls [(.int ((yy).toInt8.toInt32)), (.int j), (.ref bt)])) := by
          intro t k
          refine pre73 t ?_
          show Steps p.tables e below (T68.setTop (mkF m 363 Ls [])) _
          refine XS.aload X68.here hx rfl (hb hby at_363) hl13 rfl ?_
          show Steps p.tables e below (T68.setTop (mkF m 365 Ls [(.ref bt)])) _
          refine XS.iload X68.here hx rfl (hb hby at_365) hl17 ?_
          show Steps p.tables e below (T68.setTop (mkF m 367 Ls [(.int j), (.ref bt)])) _
          refine XS.iload X68.here hx rfl (hb hby at_367) hl26 ?_
          show Steps p.tables e below (T68.setTop (mkF m 369 Ls [(.int yy), (.int j), (.ref bt)])) _
          refine XS.i2b X68.here hx rfl (hb hby at_369) rfl ?_
          show Steps p.tables e below (T68.setTop (mkF m 370 Ls [(.int ((yy).toInt8.toInt32)), (.int j), (.ref bt)])) _
          exact k
        obtain ⟨cl75, Ar75, SS75, NN75, -⟩ := c69_68.cell
        have hj75 : ¬ j < 0 ∧ j < (1999 : Int32) := hj (hc352_65)
        obtain ⟨T75, h75, X75, e75, W75, st75⟩ := stB X68 hx hZ e68 Ar75 (j := j) (inb_of SS75 hj75) (g := (mkF m 370 Ls [(.int ((yy).toInt8.toInt32)), (.int j), (.ref bt)])) rfl rfl (hb hby at_370)
        have AV75 : Arf Z h75 bt kt .byte (1999 : Int32) (fun i_ => .int (own_u ft j (nar .byte (yy.toInt8.toInt32)) i_)) := (c69_68.set (fits_nar_byte _) W75 hj75).as (fun i_ _ => own_as32 _ _ _ _)
        have c76_75 := AV68.other W75 ne_bm_bt
        have c77_75 := c70_68.other W75 ne_am_bt
        have c78_75 := c71_68.other W75 ne_aq_bt
        have zz79 := (Nat.le_trans zz72 (Keep.of_wr W75).1)
        have N75 := Fr.snoc X75 N68 g_bt
        have pre80 : Go p e below (T0.setTop (mkF m 350 Ls [])) (T75.setTop (mkF m 371 Ls [])) := fun t k => pre74 t (st75 t k)
        have pre81 : Go p e below (T0.setTop (mkF m 350 Ls [])) (T75.setTop (mkF m 373 Ls [(.int (0 : Int32))])) := by
          intro t k
          refine pre80 t ?_
          show Steps p.tables e below (T75.setTop (mkF m 371 Ls [])) _
          refine XS.iload X75.here hx rfl (hb hby at_371) hl8 ?_
          show Steps p.tables e below (T75.setTop (mkF m 373 Ls [(.int (0 : Int32))])) _
          exact k
        have pre82 : Go p e below (T0.setTop (mkF m 350 Ls [])) (T75.setTop (mkF m 382 Ls [(.long vm), (.int j), (.ref am)])) := by
          intro t k
          refine pre81 t ?_
          show Steps p.tables e below (T75.setTop (mkF m 373 Ls [(.int (0 : Int32))])) _
          refine XS.ifNo X75.here hx rfl (hb hby at_373) rfl (XT.i0_ne_f (by decide : (0 : Int32) = (0 : Int32))) ?_
          show Steps p.tables e below (T75.setTop (mkF m 376 Ls [])) _
          refine XS.aload X75.here hx rfl (hb hby at_376) hl14 rfl ?_
          show Steps p.tables e below (T75.setTop (mkF m 378 Ls [(.ref am)])) _
          refine XS.iload X75.here hx rfl (hb hby at_378) hl17 ?_
          show Steps p.tables e below (T75.setTop (mkF m 380 Ls [(.int j), (.ref am)])) _
          refine XT.lload X75.here hx rfl (hb hby at_380) hl35 ?_
          show Steps p.tables e below (T75.setTop (mkF m 382 Ls [(.long vm), (.int j), (.ref am)])) _
          exact k
        obtain ⟨cl83, Ar83, SS83, NN83, -⟩ := c77_75.cell
        have hj83 : ¬ j < 0 ∧ j < (1999 : Int32) := hj (hc352_65)
        obtain ⟨T83, h83, X83, e83, W83, st83⟩ := stJ X75 hx hZ e75 Ar83 (j := j) (inb_of SS83 hj83) (g := (mkF m 382 Ls [(.long vm), (.int j), (.ref am)])) rfl rfl (hb hby at_382)
        have AV83 : Arf Z h83 am kam .long (1999 : Int32) (fun i_ => .long (own_u fr j vm i_)) := (c77_75.set rfl W83 hj83).as (fun i_ _ => own_as64 _ _ _ _)
        have c84_83 := c76_75.other W83 (Ne.symm ne_am_bm)
        have c85_83 := AV75.other W83 (Ne.symm ne_am_bt)
        have c86_83 := c78_75.other W83 (Ne.symm (fun q_ => ne_rq (congrArg Value.ref q_)))
        have zz87 := (Nat.le_trans zz79 (Keep.of_wr W83).1)
        have N83 := Fr.snoc X83 N75 g_am
        have pre88 : Go p e below (T0.setTop (mkF m 350 Ls [])) (T83.setTop (mkF m 383 Ls [])) := fun t k => pre82 t (st83 t k)
        have pre89 : Go p e below (T0.setTop (mkF m 350 Ls [])) (T83.setTop (mkF m 385 Ls [(.int (0 : Int32))])) := by
          intro t k
          refine pre88 t ?_
          show Steps p.tables e below (T83.setTop (mkF m 383 Ls [])) _
          refine XS.iload X83.here hx rfl (hb hby at_383) hl9 ?_
          show Steps p.tables e below (T83.setTop (mkF m 385 Ls [(.int (0 : Int32))])) _
          exact k
        have pre90 : Go p e below (T0.setTop (mkF m 350 Ls [])) (T83.setTop (mkF m 394 Ls [(.long vt), (.int j), (.ref aq)])) := by
          intro t k
          refine pre89 t ?_
          show Steps p.tables e below (T83.setTop (mkF m 385 Ls [(.int (0 : Int32))])) _
          refine XS.ifNo X83.here hx rfl (hb hby at_385) rfl (XT.i0_ne_f (by decide : (0 : Int32) = (0 : Int32))) ?_
          show Steps p.tables e below (T83.setTop (mkF m 388 Ls [])) _
          refine XS.aload X83.here hx rfl (hb hby at_388) hl15 rfl ?_
          show Steps p.tables e below (T83.setTop (mkF m 390 Ls [(.ref aq)])) _
          refine XS.iload X83.here hx rfl (hb hby at_390) hl17 ?_
          show Steps p.tables e below (T83.setTop (mkF m 392 Ls [(.int j), (.ref aq)])) _
          refine XT.lload X83.here hx rfl (hb hby at_392) hl37 ?_
          show Steps p.tables e below (T83.setTop (mkF m 394 Ls [(.long vt), (.int j), (.ref aq)])) _
          exact k
        obtain ⟨cl91, Ar91, SS91, NN91, -⟩ := c86_83.cell
        have hj91 : ¬ j < 0 ∧ j < (1999 : Int32) := hj (hc352_65)
        obtain ⟨T91, h91, X91, e91, W91, st91⟩ := stJ X83 hx hZ e83 Ar91 (j := j) (inb_of SS91 hj91) (g := (mkF m 394 Ls [(.long vt), (.int j), (.ref aq)])) rfl rfl (hb hby at_394)
        have AV91 : Arf Z h91 aq kaq .long (1999 : Int32) (fun i_ => .long (own_u fq j vt i_)) := (c86_83.set rfl W91 hj91).as (fun i_ _ => own_as64 _ _ _ _)
        have c92_91 := c84_83.other W91 (Ne.symm ne_aq_bm)
        have c93_91 := c85_83.other W91 (Ne.symm ne_aq_bt)
        have c94_91 := AV83.other W91 (fun q_ => ne_rq (congrArg Value.ref q_))
        have zz95 := (Nat.le_trans zz87 (Keep.of_wr W91).1)
        have N91 := Fr.snoc X91 N83 g_aq
        have pre96 : Go p e below (T0.setTop (mkF m 350 Ls [])) (T91.setTop (mkF m 395 Ls [])) := fun t k => pre90 t (st91 t k)
        refine ⟨T91, h91, _, X91, e91, N91, zz95, ?_, pre96⟩
        rw [own_pk hc352_65, own_pk hc352_65, own_pk hc352_65, own_pk hc352_65]
        exact ⟨c92_91, c93_91, ne_bm_bt, g_bm, g_bt, Or.inr ⟨rfl, am, kam, rfl, g_am, ne_am_bm, ne_am_bt, c94_91⟩, Or.inr ⟨rfl, aq, kaq, rfl, g_aq, ne_aq_bm, ne_aq_bt, ne_rq, AV91⟩⟩
set_option maxRecDepth 65536 in
set_option maxHeartbeats 40000000 in
theorem blk3 {p : Program} {l : Launch} {e : Env} {R : Room} {s : State} {m : MethodId} {args : Array Value} {below : List Frame} {meth : Method} {c : Code} {T0 : State} {locs : List Loc} {cells slots : Nat} {Z : State} {a0 : Array Value} {h0 : Heap} {n0 : Nat}  {Ls : Array Slot} {bm bt : Addr} {km kt : ClassId} {mn tn j xx yy fl : Int32} {r q : Value} {vm vt : Int64} {fm ft : Nat → Int32} {fr fq : Nat → Int64}
    (X0 : Stand p l e R s m args below meth c T0 locs cells slots) (hx : p.tables.exec = Jvm.exec) (hZ : Z.Warmed39 s.vm) (hw : ∀ d ∈ tables_1, d.before a0 Z = true) (hby : c.code = code) (hml : c.maxLocals = 46) (hown : s.vm.findClass "com/example/lanescan/lanescan/DistributionMergePinLaw" = some m.cls) (e0 : T0.heap = h0) (N0 : Fr n0 locs) (Z0 : n0 ≤ h0.size) (hl8 : Ls[8]? = some (.val (.int mn))) (hl9 : Ls[9]? = some (.val (.int tn))) (hl12 : Ls[12]? = some (.val (.ref bm))) (hl13 : Ls[13]? = some (.val (.ref bt))) (hl14 : Ls[14]? = some (.val r)) (hl15 : Ls[15]? = some (.val q)) (hl21 : Ls[21]? = some (.val (.int j))) (hl27 : Ls[27]? = some (.val (.int xx))) (hl28 : Ls[28]? = some (.val (.int yy))) (hl19 : Ls[19]? = some (.val (.int fl))) (Hbm : BA Z h0 bm km fm) (Hbt : BA Z h0 bt kt ft) (ne_bm_bt : bm ≠ bt) (g_bm : n0 ≤ bm) (g_bt : n0 ≤ bt) (Hm : (mn = 1 ∧ r = .null ∧ ∀ i, fr i = 0) ∨ (mn = 0 ∧ ∃ a k, r = .ref a ∧ n0 ≤ a ∧ a ≠ bm ∧ a ≠ bt ∧ LA Z h0 a k fr)) (Ht : (tn = 1 ∧ q = .null ∧ ∀ i, fq i = 0) ∨ (tn = 0 ∧ ∃ a k, q = .ref a ∧ n0 ≤ a ∧ a ≠ bm ∧ a ≠ bt ∧ r ≠ .ref a ∧ LA Z h0 a k fq)) (hj : ¬ fl = 0 → ¬ j < 0 ∧ j < (1999 : Int32)) (hvm1 : mn = 1 → vm = 0) (hvt1 : tn = 1 → vt = 0) (hvm0 : mn = 0 → vm = 5) (hvt0 : tn = 0 → vt = 7) :
    ∃ (T' : State) (h' : Heap) (locs' : List Loc), Stand p l e R s m args below meth c T' locs' cells slots ∧ T'.heap = h' ∧ Fr n0 locs' ∧ n0 ≤ h'.size ∧ own_H Z h' n0 bm km bt kt mn r tn q (own_c fl fm j (nar .byte (xx.toInt8.toInt32))) (own_c fl ft j (nar .byte (yy.toInt8.toInt32))) (own_c fl fr j vm) (own_c fl fq j vt) ∧ Go p e below (T0.setTop (mkF m 395 Ls [])) (T'.setTop (mkF m 442 Ls [])) := by
  have pre0 : Go p e below (T0.setTop (mkF m 395 Ls [])) (T0.setTop (mkF m 395 Ls [])) := fun t k => k
  rcases Hm with ⟨rfl, rfl, hzm⟩ | ⟨rfl, am, kam, rfl, g_am, ne_am_bm, ne_am_bt, LAm⟩
  · skip
    rcases Ht with ⟨rfl, rfl, hzt⟩ | ⟨rfl, aq, kaq, rfl, g_aq, ne_aq_bm, ne_aq_bt, ne_rq, LAq⟩
    · skip
      have pre1 : Go p e below (T0.setTop (mkF m 395 Ls [])) (T0.setTop (mkF m 397 Ls [(.int fl)])) := by
        intro t k
        refine pre0 t ?_
        show Steps p.tables e below (T0.setTop (mkF m 395 Ls [])) _
        refine XS.iload X0.here hx rfl (hb hby at_395) hl19 ?_
        show Steps p.tables e below (T0.setTop (mkF m 397 Ls [(.int fl)])) _
        exact k
      by_cases hc397_2 : fl = (0 : Int32)
      · skip
        have pre3 : Go p e below (T0.setTop (mkF m 395 Ls [])) (T0.setTop (mkF m 442 Ls [])) := by
          intro t k
          refine pre1 t ?_
          show Steps p.tables e below (T0.setTop (mkF m 397 Ls [(.int fl)])) _
          refine XS.ifYes X0.here hx rfl (pc0 := 397) (pc' := 442) rfl (hb hby at_397) rfl (XT.i0_eq_t hc397_2) (by decide) (by decide) ?_
          show Steps p.tables e below (T0.setTop (mkF m 442 Ls [])) _
          exact k
        refine ⟨T0, h0, _, X0, e0, N0, Z0, ?_, pre3⟩
        rw [own_sk hc397_2, own_sk hc397_2, own_sk hc397_2, own_sk hc397_2]
        exact ⟨Hbm, Hbt, ne_bm_bt, g_bm, g_bt, Or.inl ⟨rfl, rfl, hzm⟩, Or.inl ⟨rfl, rfl, hzt⟩⟩
      · skip
        have pre4 : Go p e below (T0.setTop (mkF m 395 Ls [])) (T0.setTop (mkF m 407 Ls [(.int ((xx).toInt8.toInt32)), (.int j), (.ref bm)])) := by
          intro t k
          refine pre1 t ?_
          show Steps p.tables e below (T0.setTop (mkF m 397 Ls [(.int fl)])) _
          refine XS.ifNo X0.here hx rfl (hb hby at_397) rfl (XT.i0_eq_f hc397_2) ?_
          show Steps p.tables e below (T0.setTop (mkF m 400 Ls [])) _
          refine XS.aload X0.here hx rfl (hb hby at_400) hl12 rfl ?_
          show Steps p.tables e below (T0.setTop (mkF m 402 Ls [(.ref bm)])) _
          refine XS.iload X0.here hx rfl (hb hby at_402) hl21 ?_
          show Steps p.tables e below (T0.setTop (mkF m 404 Ls [(.int j), (.ref bm)])) _
          refine XS.iload X0.here hx rfl (hb hby at_404) hl27 ?_
          show Steps p.tables e below (T0.setTop (mkF m 406 Ls [(.int xx), (.int j), (.ref bm)])) _
          refine XS.i2b X0.here hx rfl (hb hby at_406) rfl ?_
          show Steps p.tables e below (T0.setTop (mkF m 407 Ls [(.int ((xx).toInt8.toInt32)), (.int j), (.ref bm)])) _
          exact k
        obtain ⟨cl5, Ar5, SS5, NN5, -⟩ := Hbm.cell
        have hj5 : ¬ j < 0 ∧ j < (1999 : Int32) := hj (hc397_2)
        obtain ⟨T5, h5, X5, e5, W5, st5⟩ := stB X0 hx hZ e0 Ar5 (j := j) (inb_of SS5 hj5) (g := (mkF m 407 Ls [(.int ((xx).toInt8.toInt32)), (.int j), (.ref bm)])) rfl rfl (hb hby at_407)
        have AV5 : Arf Z h5 bm km .byte (1999 : Int32) (fun i_ => .int (own_u fm j (nar .byte (xx.toInt8.toInt32)) i_)) := (Hbm.set (fits_nar_byte _) W5 hj5).as (fun i_ _ => own_as32 _ _ _ _)
        have c6_5 := Hbt.other W5 (Ne.symm ne_bm_bt)
        have zz7 := (Nat.le_trans Z0 (Keep.of_wr W5).1)
        have N5 := Fr.snoc X5 N0 g_bm
        have pre8 : Go p e below (T0.setTop (mkF m 395 Ls [])) (T5.setTop (mkF m 408 Ls [])) := fun t k => pre4 t (st5 t k)
        have pre9 : Go p e below (T0.setTop (mkF m 395 Ls [])) (T5.setTop (mkF m 415 Ls [(.int ((yy).toInt8.toInt32)), (.int j), (.ref bt)])) := by
          intro t k
          refine pre8 t ?_
          show Steps p.tables e below (T5.setTop (mkF m 408 Ls [])) _
          refine XS.aload X5.here hx rfl (hb hby at_408) hl13 rfl ?_
          show Steps p.tables e below (T5.setTop (mkF m 410 Ls [(.ref bt)])) _
          refine XS.iload X5.here hx rfl (hb hby at_410) hl21 ?_
          show Steps p.tables e below (T5.setTop (mkF m 412 Ls [(.int j), (.ref bt)])) _
          refine XS.iload X5.here hx rfl (hb hby at_412) hl28 ?_
          show Steps p.tables e below (T5.setTop (mkF m 414 Ls [(.int yy), (.int j), (.ref bt)])) _
          refine XS.i2b X5.here hx rfl (hb hby at_414) rfl ?_
          show Steps p.tables e below (T5.setTop (mkF m 415 Ls [(.int ((yy).toInt8.toInt32)), (.int j), (.ref bt)])) _
          exact k
        obtain ⟨cl10, Ar10, SS10, NN10, -⟩ := c6_5.cell
        have hj10 : ¬ j < 0 ∧ j < (1999 : Int32) := hj (hc397_2)
        obtain ⟨T10, h10, X10, e10, W10, st10⟩ := stB X5 hx hZ e5 Ar10 (j := j) (inb_of SS10 hj10) (g := (mkF m 415 Ls [(.int ((yy).toInt8.toInt32)), (.int j), (.ref bt)])) rfl rfl (hb hby at_415)
        have AV10 : Arf Z h10 bt kt .byte (1999 : Int32) (fun i_ => .int (own_u ft j (nar .byte (yy.toInt8.toInt32)) i_)) := (c6_5.set (fits_nar_byte _) W10 hj10).as (fun i_ _ => own_as32 _ _ _ _)
        have c11_10 := AV5.other W10 ne_bm_bt
        have zz12 := (Nat.le_trans zz7 (Keep.of_wr W10).1)
        have N10 := Fr.snoc X10 N5 g_bt
        have pre13 : Go p e below (T0.setTop (mkF m 395 Ls [])) (T10.setTop (mkF m 416 Ls [])) := fun t k => pre9 t (st10 t k)
        have pre14 : Go p e below (T0.setTop (mkF m 395 Ls [])) (T10.setTop (mkF m 418 Ls [(.int (1 : Int32))])) := by
          intro t k
          refine pre13 t ?_
          show Steps p.tables e below (T10.setTop (mkF m 416 Ls [])) _
          refine XS.iload X10.here hx rfl (hb hby at_416) hl8 ?_
          show Steps p.tables e below (T10.setTop (mkF m 418 Ls [(.int (1 : Int32))])) _
          exact k
        have pre15 : Go p e below (T0.setTop (mkF m 395 Ls [])) (T10.setTop (mkF m 431 Ls [(.int (1 : Int32))])) := by
          intro t k
          refine pre14 t ?_
          show Steps p.tables e below (T10.setTop (mkF m 418 Ls [(.int (1 : Int32))])) _
          refine XS.ifYes X10.here hx rfl (pc0 := 418) (pc' := 429) rfl (hb hby at_418) rfl (XT.i0_ne_t (by decide : ¬ ((1 : Int32) = (0 : Int32)))) (by decide) (by decide) ?_
          show Steps p.tables e below (T10.setTop (mkF m 429 Ls [])) _
          refine XS.iload X10.here hx rfl (hb hby at_429) hl9 ?_
          show Steps p.tables e below (T10.setTop (mkF m 431 Ls [(.int (1 : Int32))])) _
          exact k
        have pre16 : Go p e below (T0.setTop (mkF m 395 Ls [])) (T10.setTop (mkF m 442 Ls [])) := by
          intro t k
          refine pre15 t ?_
          show Steps p.tables e below (T10.setTop (mkF m 431 Ls [(.int (1 : Int32))])) _
          refine XS.ifYes X10.here hx rfl (pc0 := 431) (pc' := 442) rfl (hb hby at_431) rfl (XT.i0_ne_t (by decide : ¬ ((1 : Int32) = (0 : Int32)))) (by decide) (by decide) ?_
          show Steps p.tables e below (T10.setTop (mkF m 442 Ls [])) _
          exact k
        refine ⟨T10, h10, _, X10, e10, N10, zz12, ?_, pre16⟩
        rw [own_pk hc397_2, own_pk hc397_2, own_pk hc397_2, own_pk hc397_2]
        exact ⟨c11_10, AV10, ne_bm_bt, g_bm, g_bt, Or.inl ⟨rfl, rfl, own_zu hzm (hvm1 rfl)⟩, Or.inl ⟨rfl, rfl, own_zu hzt (hvt1 rfl)⟩⟩
    · skip
      have pre17 : Go p e below (T0.setTop (mkF m 395 Ls [])) (T0.setTop (mkF m 397 Ls [(.int fl)])) := by
        intro t k
        refine pre0 t ?_
        show Steps p.tables e below (T0.setTop (mkF m 395 Ls [])) _
        refine XS.iload X0.here hx rfl (hb hby at_395) hl19 ?_
        show Steps p.tables e below (T0.setTop (mkF m 397 Ls [(.int fl)])) _
        exact k
      by_cases hc397_18 : fl = (0 : Int32)
      · skip
        have pre19 : Go p e below (T0.setTop (mkF m 395 Ls [])) (T0.setTop (mkF m 442 Ls [])) := by
          intro t k
          refine pre17 t ?_
          show Steps p.tables e below (T0.setTop (mkF m 397 Ls [(.int fl)])) _
          refine XS.ifYes X0.here hx rfl (pc0 := 397) (pc' := 442) rfl (hb hby at_397) rfl (XT.i0_eq_t hc397_18) (by decide) (by decide) ?_
          show Steps p.tables e below (T0.setTop (mkF m 442 Ls [])) _
          exact k
        refine ⟨T0, h0, _, X0, e0, N0, Z0, ?_, pre19⟩
        rw [own_sk hc397_18, own_sk hc397_18, own_sk hc397_18, own_sk hc397_18]
        exact ⟨Hbm, Hbt, ne_bm_bt, g_bm, g_bt, Or.inl ⟨rfl, rfl, hzm⟩, Or.inr ⟨rfl, aq, kaq, rfl, g_aq, ne_aq_bm, ne_aq_bt, ne_rq, LAq⟩⟩
      · skip
        have pre20 : Go p e below (T0.setTop (mkF m 395 Ls [])) (T0.setTop (mkF m 407 Ls [(.int ((xx).toInt8.toInt32)), (.int j), (.ref bm)])) := by
          intro t k
          refine pre17 t ?_
          show Steps p.tables e below (T0.setTop (mkF m 397 Ls [(.int fl)])) _
          refine XS.ifNo X0.here hx rfl (hb hby at_397) rfl (XT.i0_eq_f hc397_18) ?_
          show Steps p.tables e below (T0.setTop (mkF m 400 Ls [])) _
          refine XS.aload X0.here hx rfl (hb hby at_400) hl12 rfl ?_
          show Steps p.tables e below (T0.setTop (mkF m 402 Ls [(.ref bm)])) _
          refine XS.iload X0.here hx rfl (hb hby at_402) hl21 ?_
          show Steps p.tables e below (T0.setTop (mkF m 404 Ls [(.int j), (.ref bm)])) _
          refine XS.iload X0.here hx rfl (hb hby at_404) hl27 ?_
          show Steps p.tables e below (T0.setTop (mkF m 406 Ls [(.int xx), (.int j), (.ref bm)])) _
          refine XS.i2b X0.here hx rfl (hb hby at_406) rfl ?_
          show Steps p.tables e below (T0.setTop (mkF m 407 Ls [(.int ((xx).toInt8.toInt32)), (.int j), (.ref bm)])) _
          exact k
        obtain ⟨cl21, Ar21, SS21, NN21, -⟩ := Hbm.cell
        have hj21 : ¬ j < 0 ∧ j < (1999 : Int32) := hj (hc397_18)
        obtain ⟨T21, h21, X21, e21, W21, st21⟩ := stB X0 hx hZ e0 Ar21 (j := j) (inb_of SS21 hj21) (g := (mkF m 407 Ls [(.int ((xx).toInt8.toInt32)), (.int j), (.ref bm)])) rfl rfl (hb hby at_407)
        have AV21 : Arf Z h21 bm km .byte (1999 : Int32) (fun i_ => .int (own_u fm j (nar .byte (xx.toInt8.toInt32)) i_)) := (Hbm.set (fits_nar_byte _) W21 hj21).as (fun i_ _ => own_as32 _ _ _ _)
        have c22_21 := Hbt.other W21 (Ne.symm ne_bm_bt)
        have c23_21 := LAq.other W21 ne_aq_bm
        have zz24 := (Nat.le_trans Z0 (Keep.of_wr W21).1)
        have N21 := Fr.snoc X21 N0 g_bm
        have pre25 : Go p e below (T0.setTop (mkF m 395 Ls [])) (T21.setTop (mkF m 408 Ls [])) := fun t k => pre20 t (st21 t k)
        have pre26 : Go p e below (T0.setTop (mkF m 395 Ls [])) (T21.setTop (mkF m 415 Ls [(.int ((yy).toInt8.toInt32)), (.int j), (.ref bt)])) := by
          intro t k
          refine pre25 t ?_
          show Steps p.tables e below (T21.setTop (mkF m 408 Ls [])) _
          refine XS.aload X21.here hx rfl (hb hby at_408) hl13 rfl ?_
          show Steps p.tables e below (T21.setTop (mkF m 410 Ls [(.ref bt)])) _
          refine XS.iload X21.here hx rfl (hb hby at_410) hl21 ?_
          show Steps p.tables e below (T21.setTop (mkF m 412 Ls [(.int j), (.ref bt)])) _
          refine XS.iload X21.here hx rfl (hb hby at_412) hl28 ?_
          show Steps p.tables e below (T21.setTop (mkF m 414 Ls [(.int yy), (.int j), (.ref bt)])) _
          refine XS.i2b X21.here hx rfl (hb hby at_414) rfl ?_
          show Steps p.tables e below (T21.setTop (mkF m 415 Ls [(.int ((yy).toInt8.toInt32)), (.int j), (.ref bt)])) _
          exact k
        obtain ⟨cl27, Ar27, SS27, NN27, -⟩ := c22_21.cell
        have hj27 : ¬ j < 0 ∧ j < (1999 : Int32) := hj (hc397_18)
        obtain ⟨T27, h27, X27, e27, W27, st27⟩ := stB X21 hx hZ e21 Ar27 (j := j) (inb_of SS27 hj27) (g := (mkF m 415 Ls [(.int ((yy).toInt8.toInt32)), (.int j), (.ref bt)])) rfl rfl (hb hby at_415)
        have AV27 : Arf Z h27 bt kt .byte (1999 : Int32) (fun i_ => .int (own_u ft j (nar .byte (yy.toInt8.toInt32)) i_)) := (c22_21.set (fits_nar_byte _) W27 hj27).as (fun i_ _ => own_as32 _ _ _ _)
        have c28_27 := AV21.other W27 ne_bm_bt
        have c29_27 := c23_21.other W27 ne_aq_bt
        have zz30 := (Nat.le_trans zz24 (Keep.of_wr W27).1)
        have N27 := Fr.snoc X27 N21 g_bt
        have pre31 : Go p e below (T0.setTop (mkF m 395 Ls [])) (T27.setTop (mkF m 416 Ls [])) := fun t k => pre26 t (st27 t k)
        have pre32 : Go p e below (T0.setTop (mkF m 395 Ls [])) (T27.setTop (mkF m 418 Ls [(.int (1 : Int32))])) := by
          intro t k
          refine pre31 t ?_
          show Steps p.tables e below (T27.setTop (mkF m 416 Ls [])) _
          refine XS.iload X27.here hx rfl (hb hby at_416) hl8 ?_
          show Steps p.tables e below (T27.setTop (mkF m 418 Ls [(.int (1 : Int32))])) _
          exact k
        have pre33 : Go p e below (T0.setTop (mkF m 395 Ls [])) (T27.setTop (mkF m 431 Ls [(.int (0 : Int32))])) := by
          intro t k
          refine pre32 t ?_
          show Steps p.tables e below (T27.setTop (mkF m 418 Ls [(.int (1 : Int32))])) _
          refine XS.ifYes X27.here hx rfl (pc0 := 418) (pc' := 429) rfl (hb hby at_418) rfl (XT.i0_ne_t (by decide : ¬ ((1 : Int32) = (0 : Int32)))) (by decide) (by decide) ?_
          show Steps p.tables e below (T27.setTop (mkF m 429 Ls [])) _
          refine XS.iload X27.here hx rfl (hb hby at_429) hl9 ?_
          show Steps p.tables e below (T27.setTop (mkF m 431 Ls [(.int (0 : Int32))])) _
          exact k
        have pre34 : Go p e below (T0.setTop (mkF m 395 Ls [])) (T27.setTop (mkF m 441 Ls [(.long (7 : Int64)), (.int j), (.ref aq)])) := by
          intro t k
          refine pre33 t ?_
          show Steps p.tables e below (T27.setTop (mkF m 431 Ls [(.int (0 : Int32))])) _
          refine XS.ifNo X27.here hx rfl (hb hby at_431) rfl (XT.i0_ne_f (by decide : (0 : Int32) = (0 : Int32))) ?_
          show Steps p.tables e below (T27.setTop (mkF m 434 Ls [])) _
          refine XS.aload X27.here hx rfl (hb hby at_434) hl15 rfl ?_
          show Steps p.tables e below (T27.setTop (mkF m 436 Ls [(.ref aq)])) _
          refine XS.iload X27.here hx rfl (hb hby at_436) hl21 ?_
          show Steps p.tables e below (T27.setTop (mkF m 438 Ls [(.int j), (.ref aq)])) _
          refine X27.ldc2J hx hown (mvT hZ (hw _ (List.mem_of_getElem? (i := 16) rfl))) (g := (mkF m 438 Ls [(.int j), (.ref aq)])) rfl (hb hby at_438) ?_
          show Steps p.tables e below (T27.setTop (mkF m 441 Ls [(.long (7 : Int64)), (.int j), (.ref aq)])) _
          exact k
        obtain ⟨cl35, Ar35, SS35, NN35, -⟩ := c29_27.cell
        have hj35 : ¬ j < 0 ∧ j < (1999 : Int32) := hj (hc397_18)
        obtain ⟨T35, h35, X35, e35, W35, st35⟩ := stJ X27 hx hZ e27 Ar35 (j := j) (inb_of SS35 hj35) (g := (mkF m 441 Ls [(.long (7 : Int64)), (.int j), (.ref aq)])) rfl rfl (hb hby at_441)
        have AV35 : Arf Z h35 aq kaq .long (1999 : Int32) (fun i_ => .long (own_u fq j vt i_)) := (c29_27.set rfl W35 hj35).as (fun i_ _ => by rw [hvt0 rfl]; exact own_as64 _ _ _ _)
        have c36_35 := c28_27.other W35 (Ne.symm ne_aq_bm)
        have c37_35 := AV27.other W35 (Ne.symm ne_aq_bt)
        have zz38 := (Nat.le_trans zz30 (Keep.of_wr W35).1)
        have N35 := Fr.snoc X35 N27 g_aq
        have pre39 : Go p e below (T0.setTop (mkF m 395 Ls [])) (T35.setTop (mkF m 442 Ls [])) := fun t k => pre34 t (st35 t k)
        refine ⟨T35, h35, _, X35, e35, N35, zz38, ?_, pre39⟩
        rw [own_pk hc397_18, own_pk hc397_18, own_pk hc397_18, own_pk hc397_18]
        exact ⟨c36_35, c37_35, ne_bm_bt, g_bm, g_bt, Or.inl ⟨rfl, rfl, own_zu hzm (hvm1 rfl)⟩, Or.inr ⟨rfl, aq, kaq, rfl, g_aq, ne_aq_bm, ne_aq_bt, ne_rq, AV35⟩⟩
  · skip
    rcases Ht with ⟨rfl, rfl, hzt⟩ | ⟨rfl, aq, kaq, rfl, g_aq, ne_aq_bm, ne_aq_bt, ne_rq, LAq⟩
    · skip
      have pre40 : Go p e below (T0.setTop (mkF m 395 Ls [])) (T0.setTop (mkF m 397 Ls [(.int fl)])) := by
        intro t k
        refine pre0 t ?_
        show Steps p.tables e below (T0.setTop (mkF m 395 Ls [])) _
        refine XS.iload X0.here hx rfl (hb hby at_395) hl19 ?_
        show Steps p.tables e below (T0.setTop (mkF m 397 Ls [(.int fl)])) _
        exact k
      by_cases hc397_41 : fl = (0 : Int32)
      · skip
        have pre42 : Go p e below (T0.setTop (mkF m 395 Ls [])) (T0.setTop (mkF m 442 Ls [])) := by
          intro t k
          refine pre40 t ?_
          show Steps p.tables e below (T0.setTop (mkF m 397 Ls [(.int fl)])) _
          refine XS.ifYes X0.here hx rfl (pc0 := 397) (pc' := 442) rfl (hb hby at_397) rfl (XT.i0_eq_t hc397_41) (by decide) (by decide) ?_
          show Steps p.tables e below (T0.setTop (mkF m 442 Ls [])) _
          exact k
        refine ⟨T0, h0, _, X0, e0, N0, Z0, ?_, pre42⟩
        rw [own_sk hc397_41, own_sk hc397_41, own_sk hc397_41, own_sk hc397_41]
        exact ⟨Hbm, Hbt, ne_bm_bt, g_bm, g_bt, Or.inr ⟨rfl, am, kam, rfl, g_am, ne_am_bm, ne_am_bt, LAm⟩, Or.inl ⟨rfl, rfl, hzt⟩⟩
      · skip
        have pre43 : Go p e below (T0.setTop (mkF m 395 Ls [])) (T0.setTop (mkF m 407 Ls [(.int ((xx).toInt8.toInt32)), (.int j), (.ref bm)])) := by
          intro t k
          refine pre40 t ?_
          show Steps p.tables e below (T0.setTop (mkF m 397 Ls [(.int fl)])) _
          refine XS.ifNo X0.here hx rfl (hb hby at_397) rfl (XT.i0_eq_f hc397_41) ?_
          show Steps p.tables e below (T0.setTop (mkF m 400 Ls [])) _
          refine XS.aload X0.here hx rfl (hb hby at_400) hl12 rfl ?_
          show Steps p.tables e below (T0.setTop (mkF m 402 Ls [(.ref bm)])) _
          refine XS.iload X0.here hx rfl (hb hby at_402) hl21 ?_
          show Steps p.tables e below (T0.setTop (mkF m 404 Ls [(.int j), (.ref bm)])) _
          refine XS.iload X0.here hx rfl (hb hby at_404) hl27 ?_
          show Steps p.tables e below (T0.setTop (mkF m 406 Ls [(.int xx), (.int j), (.ref bm)])) _
          refine XS.i2b X0.here hx rfl (hb hby at_406) rfl ?_
          show Steps p.tables e below (T0.setTop (mkF m 407 Ls [(.int ((xx).toInt8.toInt32)), (.int j), (.ref bm)])) _
          exact k
        obtain ⟨cl44, Ar44, SS44, NN44, -⟩ := Hbm.cell
        have hj44 : ¬ j < 0 ∧ j < (1999 : Int32) := hj (hc397_41)
        obtain ⟨T44, h44, X44, e44, W44, st44⟩ := stB X0 hx hZ e0 Ar44 (j := j) (inb_of SS44 hj44) (g := (mkF m 407 Ls [(.int ((xx).toInt8.toInt32)), (.int j), (.ref bm)])) rfl rfl (hb hby at_407)
        have AV44 : Arf Z h44 bm km .byte (1999 : Int32) (fun i_ => .int (own_u fm j (nar .byte (xx.toInt8.toInt32)) i_)) := (Hbm.set (fits_nar_byte _) W44 hj44).as (fun i_ _ => own_as32 _ _ _ _)
        have c45_44 := Hbt.other W44 (Ne.symm ne_bm_bt)
        have c46_44 := LAm.other W44 ne_am_bm
        have zz47 := (Nat.le_trans Z0 (Keep.of_wr W44).1)
        have N44 := Fr.snoc X44 N0 g_bm
        have pre48 : Go p e below (T0.setTop (mkF m 395 Ls [])) (T44.setTop (mkF m 408 Ls [])) := fun t k => pre43 t (st44 t k)
        have pre49 : Go p e below (T0.setTop (mkF m 395 Ls [])) (T44.setTop (mkF m 415 Ls [(.int ((yy).toInt8.toInt32)), (.int j), (.ref bt)])) := by
          intro t k
          refine pre48 t ?_
          show Steps p.tables e below (T44.setTop (mkF m 408 Ls [])) _
          refine XS.aload X44.here hx rfl (hb hby at_408) hl13 rfl ?_
          show Steps p.tables e below (T44.setTop (mkF m 410 Ls [(.ref bt)])) _
          refine XS.iload X44.here hx rfl (hb hby at_410) hl21 ?_
          show Steps p.tables e below (T44.setTop (mkF m 412 Ls [(.int j), (.ref bt)])) _
          refine XS.iload X44.here hx rfl (hb hby at_412) hl28 ?_
          show Steps p.tables e below (T44.setTop (mkF m 414 Ls [(.int yy), (.int j), (.ref bt)])) _
          refine XS.i2b X44.here hx rfl (hb hby at_414) rfl ?_
          show Steps p.tables e below (T44.setTop (mkF m 415 Ls [(.int ((yy).toInt8.toInt32)), (.int j), (.ref bt)])) _
          exact k
        obtain ⟨cl50, Ar50, SS50, NN50, -⟩ := c45_44.cell
        have hj50 : ¬ j < 0 ∧ j < (1999 : Int32) := hj (hc397_41)
        obtain ⟨T50, h50, X50, e50, W50, st50⟩ := stB X44 hx hZ e44 Ar50 (j := j) (inb_of SS50 hj50) (g := (mkF m 415 Ls [(.int ((yy).toInt8.toInt32)), (.int j), (.ref bt)])) rfl rfl (hb hby at_415)
        have AV50 : Arf Z h50 bt kt .byte (1999 : Int32) (fun i_ => .int (own_u ft j (nar .byte (yy.toInt8.toInt32)) i_)) := (c45_44.set (fits_nar_byte _) W50 hj50).as (fun i_ _ => own_as32 _ _ _ _)
        have c51_50 := AV44.other W50 ne_bm_bt
        have c52_50 := c46_44.other W50 ne_am_bt
        have zz53 := (Nat.le_trans zz47 (Keep.of_wr W50).1)
        have N50 := Fr.snoc X50 N44 g_bt
        have pre54 : Go p e below (T0.setTop (mkF m 395 Ls [])) (T50.setTop (mkF m 416 Ls [])) := fun t k => pre49 t (st50 t k)
        have pre55 : Go p e below (T0.setTop (mkF m 395 Ls [])) (T50.setTop (mkF m 418 Ls [(.int (0 : Int32))])) := by
          intro t k
          refine pre54 t ?_
          show Steps p.tables e below (T50.setTop (mkF m 416 Ls [])) _
          refine XS.iload X50.here hx rfl (hb hby at_416) hl8 ?_
          show Steps p.tables e below (T50.setTop (mkF m 418 Ls [(.int (0 : Int32))])) _
          exact k
        have pre56 : Go p e below (T0.setTop (mkF m 395 Ls [])) (T50.setTop (mkF m 428 Ls [(.long (5 : Int64)), (.int j), (.ref am)])) := by
          intro t k
          refine pre55 t ?_
          show Steps p.tables e below (T50.setTop (mkF m 418 Ls [(.int (0 : Int32))])) _
          refine XS.ifNo X50.here hx rfl (hb hby at_418) rfl (XT.i0_ne_f (by decide : (0 : Int32) = (0 : Int32))) ?_
          show Steps p.tables e below (T50.setTop (mkF m 421 Ls [])) _
          refine XS.aload X50.here hx rfl (hb hby at_421) hl14 rfl ?_
          show Steps p.tables e below (T50.setTop (mkF m 423 Ls [(.ref am)])) _
          refine XS.iload X50.here hx rfl (hb hby at_423) hl21 ?_
          show Steps p.tables e below (T50.setTop (mkF m 425 Ls [(.int j), (.ref am)])) _
          refine X50.ldc2J hx hown (mvT hZ (hw _ (List.mem_of_getElem? (i := 17) rfl))) (g := (mkF m 425 Ls [(.int j), (.ref am)])) rfl (hb hby at_425) ?_
          show Steps p.tables e below (T50.setTop (mkF m 428 Ls [(.long (5 : Int64)), (.int j), (.ref am)])) _
          exact k
        obtain ⟨cl57, Ar57, SS57, NN57, -⟩ := c52_50.cell
        have hj57 : ¬ j < 0 ∧ j < (1999 : Int32) := hj (hc397_41)
        obtain ⟨T57, h57, X57, e57, W57, st57⟩ := stJ X50 hx hZ e50 Ar57 (j := j) (inb_of SS57 hj57) (g := (mkF m 428 Ls [(.long (5 : Int64)), (.int j), (.ref am)])) rfl rfl (hb hby at_428)
        have AV57 : Arf Z h57 am kam .long (1999 : Int32) (fun i_ => .long (own_u fr j vm i_)) := (c52_50.set rfl W57 hj57).as (fun i_ _ => by rw [hvm0 rfl]; exact own_as64 _ _ _ _)
        have c58_57 := c51_50.other W57 (Ne.symm ne_am_bm)
        have c59_57 := AV50.other W57 (Ne.symm ne_am_bt)
        have zz60 := (Nat.le_trans zz53 (Keep.of_wr W57).1)
        have N57 := Fr.snoc X57 N50 g_am
        have pre61 : Go p e below (T0.setTop (mkF m 395 Ls [])) (T57.setTop (mkF m 429 Ls [])) := fun t k => pre56 t (st57 t k)
        have pre62 : Go p e below (T0.setTop (mkF m 395 Ls [])) (T57.setTop (mkF m 431 Ls [(.int (1 : Int32))])) := by
          intro t k
          refine pre61 t ?_
          show Steps p.tables e below (T57.setTop (mkF m 429 Ls [])) _
          refine XS.iload X57.here hx rfl (hb hby at_429) hl9 ?_
          show Steps p.tables e below (T57.setTop (mkF m 431 Ls [(.int (1 : Int32))])) _
          exact k
        have pre63 : Go p e below (T0.setTop (mkF m 395 Ls [])) (T57.setTop (mkF m 442 Ls [])) := by
          intro t k
          refine pre62 t ?_
          show Steps p.tables e below (T57.setTop (mkF m 431 Ls [(.int (1 : Int32))])) _
          refine XS.ifYes X57.here hx rfl (pc0 := 431) (pc' := 442) rfl (hb hby at_431) rfl (XT.i0_ne_t (by decide : ¬ ((1 : Int32) = (0 : Int32)))) (by decide) (by decide) ?_
          show Steps p.tables e below (T57.setTop (mkF m 442 Ls [])) _
          exact k
        refine ⟨T57, h57, _, X57, e57, N57, zz60, ?_, pre63⟩
        rw [own_pk hc397_41, own_pk hc397_41, own_pk hc397_41, own_pk hc397_41]
        exact ⟨c58_57, c59_57, ne_bm_bt, g_bm, g_bt, Or.inr ⟨rfl, am, kam, rfl, g_am, ne_am_bm, ne_am_bt, AV57⟩, Or.inl ⟨rfl, rfl, own_zu hzt (hvt1 rfl)⟩⟩
    · skip
      have pre64 : Go p e below (T0.setTop (mkF m 395 Ls [])) (T0.setTop (mkF m 397 Ls [(.int fl)])) := by
        intro t k
        refine pre0 t ?_
        show Steps p.tables e below (T0.setTop (mkF m 395 Ls [])) _
        refine XS.iload X0.here hx rfl (hb hby at_395) hl19 ?_
        show Steps p.tables e below (T0.setTop (mkF m 397 Ls [(.int fl)])) _
        exact k
      by_cases hc397_65 : fl = (0 : Int32)
      · skip
        have pre66 : Go p e below (T0.setTop (mkF m 395 Ls [])) (T0.setTop (mkF m 442 Ls [])) := by
          intro t k
          refine pre64 t ?_
          show Steps p.tables e below (T0.setTop (mkF m 397 Ls [(.int fl)])) _
          refine XS.ifYes X0.here hx rfl (pc0 := 397) (pc' := 442) rfl (hb hby at_397) rfl (XT.i0_eq_t hc397_65) (by decide) (by decide) ?_
          show Steps p.tables e below (T0.setTop (mkF m 442 Ls [])) _
          exact k
        refine ⟨T0, h0, _, X0, e0, N0, Z0, ?_, pre66⟩
        rw [own_sk hc397_65, own_sk hc397_65, own_sk hc397_65, own_sk hc397_65]
        exact ⟨Hbm, Hbt, ne_bm_bt, g_bm, g_bt, Or.inr ⟨rfl, am, kam, rfl, g_am, ne_am_bm, ne_am_bt, LAm⟩, Or.inr ⟨rfl, aq, kaq, rfl, g_aq, ne_aq_bm, ne_aq_bt, ne_rq, LAq⟩⟩
      · skip
        have pre67 : Go p e below (T0.setTop (mkF m 395 Ls [])) (T0.setTop (mkF m 407 Ls [(.int ((xx).toInt8.toInt32)), (.int j), (.ref bm)])) := by
          intro t k
          refine pre64 t ?_
          show Steps p.tables e below (T0.setTop (mkF m 397 Ls [(.int fl)])) _
          refine XS.ifNo X0.here hx rfl (hb hby at_397) rfl (XT.i0_eq_f hc397_65) ?_
          show Steps p.tables e below (T0.setTop (mkF m 400 Ls [])) _
          refine XS.aload X0.here hx rfl (hb hby at_400) hl12 rfl ?_
          show Steps p.tables e below (T0.setTop (mkF m 402 Ls [(.ref bm)])) _
          refine XS.iload X0.here hx rfl (hb hby at_402) hl21 ?_
          show Steps p.tables e below (T0.setTop (mkF m 404 Ls [(.int j), (.ref bm)])) _
          refine XS.iload X0.here hx rfl (hb hby at_404) hl27 ?_
          show Steps p.tables e below (T0.setTop (mkF m 406 Ls [(.int xx), (.int j), (.ref bm)])) _
          refine XS.i2b X0.here hx rfl (hb hby at_406) rfl ?_
          show Steps p.tables e below (T0.setTop (mkF m 407 Ls [(.int ((xx).toInt8.toInt32)), (.int j), (.ref bm)])) _
          exact k
        obtain ⟨cl68, Ar68, SS68, NN68, -⟩ := Hbm.cell
        have hj68 : ¬ j < 0 ∧ j < (1999 : Int32) := hj (hc397_65)
        obtain ⟨T68, h68, X68, e68, W68, st68⟩ := stB X0 hx hZ e0 Ar68 (j := j) (inb_of SS68 hj68) (g := (mkF m 407 Ls [(.int ((xx).toInt8.toInt32)), (.int j), (.ref bm)])) rfl rfl (hb hby at_407)
        have AV68 : Arf Z h68 bm km .byte (1999 : Int32) (fun i_ => .int (own_u fm j (nar .byte (xx.toInt8.toInt32)) i_)) := (Hbm.set (fits_nar_byte _) W68 hj68).as (fun i_ _ => own_as32 _ _ _ _)
        have c69_68 := Hbt.other W68 (Ne.symm ne_bm_bt)
        have c70_68 := LAm.other W68 ne_am_bm
        have c71_68 := LAq.other W68 ne_aq_bm
        have zz72 := (Nat.le_trans Z0 (Keep.of_wr W68).1)
        have N68 := Fr.snoc X68 N0 g_bm
        have pre73 : Go p e below (T0.setTop (mkF m 395 Ls [])) (T68.setTop (mkF m 408 Ls [])) := fun t k => pre67 t (st68 t k)
        have pre74 : Go p e below (T0.setTop (mkF m 395 Ls [])) (T68.setTop (mkF m 415 Ls [(.int ((yy).toInt8.toInt32)), (.int j), (.ref bt)])) := by
          intro t k
          refine pre73 t ?_
          show Steps p.tables e below (T68.setTop (mkF m 408 Ls [])) _
          refine XS.aload X68.here hx rfl (hb hby at_408) hl13 rfl ?_
          show Steps p.tables e below (T68.setTop (mkF m 410 Ls [(.ref bt)])) _
          refine XS.iload X68.here hx rfl (hb hby at_410) hl21 ?_
          show Steps p.tables e below (T68.setTop (mkF m 412 Ls [(.int j), (.ref bt)])) _
          refine XS.iload X68.here hx rfl (hb hby at_412) hl28 ?_
          show Steps p.tables e below (T68.setTop (mkF m 414 Ls [(.int yy), (.int j), (.ref bt)])) _
          refine XS.i2b X68.here hx rfl (hb hby at_414) rfl ?_
          show Steps p.tables e below (T68.setTop (mkF m 415 Ls [(.int ((yy).toInt8.toInt32)), (.int j), (.ref bt)])) _
          exact k
        obtain ⟨cl75, Ar75, SS75, NN75, -⟩ := c69_68.cell
        have hj75 : ¬ j < 0 ∧ j < (1999 : Int32) := hj (hc397_65)
        obtain ⟨T75, h75, X75, e75, W75, st75⟩ := stB X68 hx hZ e68 Ar75 (j := j) (inb_of SS75 hj75) (g := (mkF m 415 Ls [(.int ((yy).toInt8.toInt32)), (.int j), (.ref bt)])) rfl rfl (hb hby at_415)
        have AV75 : Arf Z h75 bt kt .byte (1999 : Int32) (fun i_ => .int (own_u ft j (nar .byte (yy.toInt8.toInt32)) i_)) := (c69_68.set (fits_nar_byte _) W75 hj75).as (fun i_ _ => own_as32 _ _ _ _)
        have c76_75 := AV68.other W75 ne_bm_bt
        have c77_75 := c70_68.other W75 ne_am_bt
        have c78_75 := c71_68.other W75 ne_aq_bt
        have zz79 := (Nat.le_trans zz72 (Keep.of_wr W75).1)
        have N75 := Fr.snoc X75 N68 g_bt
        have pre80 : Go p e below (T0.setTop (mkF m 395 Ls [])) (T75.setTop (mkF m 416 Ls [])) := fun t k => pre74 t (st75 t k)
        have pre81 : Go p e below (T0.setTop (mkF m 395 Ls [])) (T75.setTop (mkF m 418 Ls [(.int (0 : Int32))])) := by
          intro t k
          refine pre80 t ?_
          show Steps p.tables e below (T75.setTop (mkF m 416 Ls [])) _
          refine XS.iload X75.here hx rfl (hb hby at_416) hl8 ?_
          show Steps p.tables e below (T75.setTop (mkF m 418 Ls [(.int (0 : Int32))])) _
          exact k
        have pre82 : Go p e below (T0.setTop (mkF m 395 Ls [])) (T75.setTop (mkF m 428 Ls [(.long (5 : Int64)), (.int j), (.ref am)])) := by
          intro t k
          refine pre81 t ?_
          show Steps p.tables e below (T75.setTop (mkF m 418 Ls [(.int (0 : Int32))])) _
          refine XS.ifNo X75.here hx rfl (hb hby at_418) rfl (XT.i0_ne_f (by decide : (0 : Int32) = (0 : Int32))) ?_
          show Steps p.tables e below (T75.setTop (mkF m 421 Ls [])) _
          refine XS.aload X75.here hx rfl (hb hby at_421) hl14 rfl ?_
          show Steps p.tables e below (T75.setTop (mkF m 423 Ls [(.ref am)])) _
          refine XS.iload X75.here hx rfl (hb hby at_423) hl21 ?_
          show Steps p.tables e below (T75.setTop (mkF m 425 Ls [(.int j), (.ref am)])) _
          refine X75.ldc2J hx hown (mvT hZ (hw _ (List.mem_of_getElem? (i := 17) rfl))) (g := (mkF m 425 Ls [(.int j), (.ref am)])) rfl (hb hby at_425) ?_
          show Steps p.tables e below (T75.setTop (mkF m 428 Ls [(.long (5 : Int64)), (.int j), (.ref am)])) _
          exact k
        obtain ⟨cl83, Ar83, SS83, NN83, -⟩ := c77_75.cell
        have hj83 : ¬ j < 0 ∧ j < (1999 : Int32) := hj (hc397_65)
        obtain ⟨T83, h83, X83, e83, W83, st83⟩ := stJ X75 hx hZ e75 Ar83 (j := j) (inb_of SS83 hj83) (g := (mkF m 428 Ls [(.long (5 : Int64)), (.int j), (.ref am)])) rfl rfl (hb hby at_428)
        have AV83 : Arf Z h83 am kam .long (1999 : Int32) (fun i_ => .long (own_u fr j vm i_)) := (c77_75.set rfl W83 hj83).as (fun i_ _ => by rw [hvm0 rfl]; exact own_as64 _ _ _ _)
        have c84_83 := c76_75.other W83 (Ne.symm ne_am_bm)
        have c85_83 := AV75.other W83 (Ne.symm ne_am_bt)
        have c86_83 := c78_75.other W83 (Ne.symm (fun q_ => ne_rq (congrArg Value.ref q_)))
        have zz87 := (Nat.le_trans zz79 (Keep.of_wr W83).1)
        have N83 := Fr.snoc X83 N75 g_am
        have pre88 : Go p e below (T0.setTop (mkF m 395 Ls [])) (T83.setTop (mkF m 429 Ls [])) := fun t k => pre82 t (st83 t k)
        have pre89 : Go p e below (T0.setTop (mkF m 395 Ls [])) (T83.setTop (mkF m 431 Ls [(.int (0 : Int32))])) := by
          intro t k
          refine pre88 t ?_
          show Steps p.tables e below (T83.setTop (mkF m 429 Ls [])) _
          refine XS.iload X83.here hx rfl (hb hby at_429) hl9 ?_
          show Steps p.tables e below (T83.setTop (mkF m 431 Ls [(.int (0 : Int32))])) _
          exact k
        have pre90 : Go p e below (T0.setTop (mkF m 395 Ls [])) (T83.setTop (mkF m 441 Ls [(.long (7 : Int64)), (.int j), (.ref aq)])) := by
          intro t k
          refine pre89 t ?_
          show Steps p.tables e below (T83.setTop (mkF m 431 Ls [(.int (0 : Int32))])) _
          refine XS.ifNo X83.here hx rfl (hb hby at_431) rfl (XT.i0_ne_f (by decide : (0 : Int32) = (0 : Int32))) ?_
          show Steps p.tables e below (T83.setTop (mkF m 434 Ls [])) _
          refine XS.aload X83.here hx rfl (hb hby at_434) hl15 rfl ?_
          show Steps p.tables e below (T83.setTop (mkF m 436 Ls [(.ref aq)])) _
          refine XS.iload X83.here hx rfl (hb hby at_436) hl21 ?_
          show Steps p.tables e below (T83.setTop (mkF m 438 Ls [(.int j), (.ref aq)])) _
          refine X83.ldc2J hx hown (mvT hZ (hw _ (List.mem_of_getElem? (i := 16) rfl))) (g := (mkF m 438 Ls [(.int j), (.ref aq)])) rfl (hb hby at_438) ?_
          show Steps p.tables e below (T83.setTop (mkF m 441 Ls [(.long (7 : Int64)), (.int j), (.ref aq)])) _
          exact k
        obtain ⟨cl91, Ar91, SS91, NN91, -⟩ := c86_83.cell
        have hj91 : ¬ j < 0 ∧ j < (1999 : Int32) := hj (hc397_65)
        obtain ⟨T91, h91, X91, e91, W91, st91⟩ := stJ X83 hx hZ e83 Ar91 (j := j) (inb_of SS91 hj91) (g := (mkF m 441 Ls [(.long (7 : Int64)), (.int j), (.ref aq)])) rfl rfl (hb hby at_441)
        have AV91 : Arf Z h91 aq kaq .long (1999 : Int32) (fun i_ => .long (own_u fq j vt i_)) := (c86_83.set rfl W91 hj91).as (fun i_ _ => by rw [hvt0 rfl]; exact own_as64 _ _ _ _)
        have c92_91 := c84_83.other W91 (Ne.symm ne_aq_bm)
        have c93_91 := c85_83.other W91 (Ne.symm ne_aq_bt)
        have c94_91 := AV83.other W91 (fun q_ => ne_rq (congrArg Value.ref q_))
        have zz95 := (Nat.le_trans zz87 (Keep.of_wr W91).1)
        have N91 := Fr.snoc X91 N83 g_aq
        have pre96 : Go p e below (T0.setTop (mkF m 395 Ls [])) (T91.setTop (mkF m 442 Ls [])) := fun t k => pre90 t (st91 t k)
        refine ⟨T91, h91, _, X91, e91, N91, zz95, ?_, pre96⟩
        rw [own_pk hc397_65, own_pk hc397_65, own_pk hc397_65, own_pk hc397_65]
        exact ⟨c92_91, c93_91, ne_bm_bt, g_bm, g_bt, Or.inr ⟨rfl, am, kam, rfl, g_am, ne_am_bm, ne_am_bt, c94_91⟩, Or.inr ⟨rfl, aq, kaq, rfl, g_aq, ne_aq_bm, ne_aq_bt, ne_rq, AV91⟩⟩
set_option maxRecDepth 65536 in
set_option maxHeartbeats 40000000 in
theorem blk4 {p : Program} {l : Launch} {e : Env} {R : Room} {s : State} {m : MethodId} {args : Array Value} {below : List Frame} {meth : Method} {c : Code} {T0 : State} {locs : List Loc} {cells slots : Nat} {Z : State} {a0 : Array Value} {h0 : Heap} {n0 : Nat}  {Ls : Array Slot} {bm bt : Addr} {km kt : ClassId} {mn tn j xx yy fl : Int32} {r q : Value} {vm vt : Int64} {fm ft : Nat → Int32} {fr fq : Nat → Int64}
    (X0 : Stand p l e R s m args below meth c T0 locs cells slots) (hx : p.tables.exec = Jvm.exec) (hZ : Z.Warmed39 s.vm) (hw : ∀ d ∈ tables_1, d.before a0 Z = true) (hby : c.code = code) (hml : c.maxLocals = 46) (hown : s.vm.findClass "com/example/lanescan/lanescan/DistributionMergePinLaw" = some m.cls) (e0 : T0.heap = h0) (N0 : Fr n0 locs) (Z0 : n0 ≤ h0.size) (hl8 : Ls[8]? = some (.val (.int mn))) (hl9 : Ls[9]? = some (.val (.int tn))) (hl12 : Ls[12]? = some (.val (.ref bm))) (hl13 : Ls[13]? = some (.val (.ref bt))) (hl14 : Ls[14]? = some (.val r)) (hl15 : Ls[15]? = some (.val q)) (hl22 : Ls[22]? = some (.val (.int j))) (hl29 : Ls[29]? = some (.val (.int xx))) (hl30 : Ls[30]? = some (.val (.int yy))) (hl20 : Ls[20]? = some (.val (.int fl))) (Hbm : BA Z h0 bm km fm) (Hbt : BA Z h0 bt kt ft) (ne_bm_bt : bm ≠ bt) (g_bm : n0 ≤ bm) (g_bt : n0 ≤ bt) (Hm : (mn = 1 ∧ r = .null ∧ ∀ i, fr i = 0) ∨ (mn = 0 ∧ ∃ a k, r = .ref a ∧ n0 ≤ a ∧ a ≠ bm ∧ a ≠ bt ∧ LA Z h0 a k fr)) (Ht : (tn = 1 ∧ q = .null ∧ ∀ i, fq i = 0) ∨ (tn = 0 ∧ ∃ a k, q = .ref a ∧ n0 ≤ a ∧ a ≠ bm ∧ a ≠ bt ∧ r ≠ .ref a ∧ LA Z h0 a k fq)) (hj : ¬ fl = 0 → ¬ j < 0 ∧ j < (1999 : Int32)) (hvm1 : mn = 1 → vm = 0) (hvt1 : tn = 1 → vt = 0) (hvm0 : mn = 0 → vm = 5) (hvt0 : tn = 0 → vt = 7) :
    ∃ (T' : State) (h' : Heap) (locs' : List Loc), Stand p l e R s m args below meth c T' locs' cells slots ∧ T'.heap = h' ∧ Fr n0 locs' ∧ n0 ≤ h'.size ∧ own_H Z h' n0 bm km bt kt mn r tn q (own_c fl fm j (nar .byte (xx.toInt8.toInt32))) (own_c fl ft j (nar .byte (yy.toInt8.toInt32))) (own_c fl fr j vm) (own_c fl fq j vt) ∧ Go p e below (T0.setTop (mkF m 442 Ls [])) (T'.setTop (mkF m 489 Ls [])) := by
  have pre0 : Go p e below (T0.setTop (mkF m 442 Ls [])) (T0.setTop (mkF m 442 Ls [])) := fun t k => k
  rcases Hm with ⟨rfl, rfl, hzm⟩ | ⟨rfl, am, kam, rfl, g_am, ne_am_bm, ne_am_bt, LAm⟩
  · skip
    rcases Ht with ⟨rfl, rfl, hzt⟩ | ⟨rfl, aq, kaq, rfl, g_aq, ne_aq_bm, ne_aq_bt, ne_rq, LAq⟩
    · skip
      have pre1 : Go p e below (T0.setTop (mkF m 442 Ls [])) (T0.setTop (mkF m 444 Ls [(.int fl)])) := by
        intro t k
        refine pre0 t ?_
        show Steps p.tables e below (T0.setTop (mkF m 442 Ls [])) _
        refine XS.iload X0.here hx rfl (hb hby at_442) hl20 ?_
        show Steps p.tables e below (T0.setTop (mkF m 444 Ls [(.int fl)])) _
        exact k
      by_cases hc444_2 : fl = (0 : Int32)
      · skip
        have pre3 : Go p e below (T0.setTop (mkF m 442 Ls [])) (T0.setTop (mkF m 489 Ls [])) := by
          intro t k
          refine pre1 t ?_
          show Steps p.tables e below (T0.setTop (mkF m 444 Ls [(.int fl)])) _
          refine XS.ifYes X0.here hx rfl (pc0 := 444) (pc' := 489) rfl (hb hby at_444) rfl (XT.i0_eq_t hc444_2) (by decide) (by decide) ?_
          show Steps p.tables e below (T0.setTop (mkF m 489 Ls [])) _
          exact k
        refine ⟨T0, h0, _, X0, e0, N0, Z0, ?_, pre3⟩
        rw [own_sk hc444_2, own_sk hc444_2, own_sk hc444_2, own_sk hc444_2]
        exact ⟨Hbm, Hbt, ne_bm_bt, g_bm, g_bt, Or.inl ⟨rfl, rfl, hzm⟩, Or.inl ⟨rfl, rfl, hzt⟩⟩
      · skip
        have pre4 : Go p e below (T0.setTop (mkF m 442 Ls [])) (T0.setTop (mkF m 454 Ls [(.int ((xx).toInt8.toInt32)), (.int j), (.ref bm)])) := by
          intro t k
          refine pre1 t ?_
          show Steps p.tables e below (T0.setTop (mkF m 444 Ls [(.int fl)])) _
          refine XS.ifNo X0.here hx rfl (hb hby at_444) rfl (XT.i0_eq_f hc444_2) ?_
          show Steps p.tables e below (T0.setTop (mkF m 447 Ls [])) _
          refine XS.aload X0.here hx rfl (hb hby at_447) hl12 rfl ?_
          show Steps p.tables e below (T0.setTop (mkF m 449 Ls [(.ref bm)])) _
          refine XS.iload X0.here hx rfl (hb hby at_449) hl22 ?_
          show Steps p.tables e below (T0.setTop (mkF m 451 Ls [(.int j), (.ref bm)])) _
          refine XS.iload X0.here hx rfl (hb hby at_451) hl29 ?_
          show Steps p.tables e below (T0.setTop (mkF m 453 Ls [(.int xx), (.int j), (.ref bm)])) _
          refine XS.i2b X0.here hx rfl (hb hby at_453) rfl ?_
          show Steps p.tables e below (T0.setTop (mkF m 454 Ls [(.int ((xx).toInt8.toInt32)), (.int j), (.ref bm)])) _
          exact k
        obtain ⟨cl5, Ar5, SS5, NN5, -⟩ := Hbm.cell
        have hj5 : ¬ j < 0 ∧ j < (1999 : Int32) := hj (hc444_2)
        obtain ⟨T5, h5, X5, e5, W5, st5⟩ := stB X0 hx hZ e0 Ar5 (j := j) (inb_of SS5 hj5) (g := (mkF m 454 Ls [(.int ((xx).toInt8.toInt32)), (.int j), (.ref bm)])) rfl rfl (hb hby at_454)
        have AV5 : Arf Z h5 bm km .byte (1999 : Int32) (fun i_ => .int (own_u fm j (nar .byte (xx.toInt8.toInt32)) i_)) := (Hbm.set (fits_nar_byte _) W5 hj5).as (fun i_ _ => own_as32 _ _ _ _)
        have c6_5 := Hbt.other W5 (Ne.symm ne_bm_bt)
        have zz7 := (Nat.le_trans Z0 (Keep.of_wr W5).1)
        have N5 := Fr.snoc X5 N0 g_bm
        have pre8 : Go p e below (T0.setTop (mkF m 442 Ls [])) (T5.setTop (mkF m 455 Ls [])) := fun t k => pre4 t (st5 t k)
        have pre9 : Go p e below (T0.setTop (mkF m 442 Ls [])) (T5.setTop (mkF m 462 Ls [(.int ((yy).toInt8.toInt32)), (.int j), (.ref bt)])) := by
          intro t k
          refine pre8 t ?_
          show Steps p.tables e below (T5.setTop (mkF m 455 Ls [])) _
          refine XS.aload X5.here hx rfl (hb hby at_455) hl13 rfl ?_
          show Steps p.tables e below (T5.setTop (mkF m 457 Ls [(.ref bt)])) _
          refine XS.iload X5.here hx rfl (hb hby at_457) hl22 ?_
          show Steps p.tables e below (T5.setTop (mkF m 459 Ls [(.int j), (.ref bt)])) _
          refine XS.iload X5.here hx rfl (hb hby at_459) hl30 ?_
          show Steps p.tables e below (T5.setTop (mkF m 461 Ls [(.int yy), (.int j), (.ref bt)])) _
          refine XS.i2b X5.here hx rfl (hb hby at_461) rfl ?_
          show Steps p.tables e below (T5.setTop (mkF m 462 Ls [(.int ((yy).toInt8.toInt32)), (.int j), (.ref bt)])) _
          exact k
        obtain ⟨cl10, Ar10, SS10, NN10, -⟩ := c6_5.cell
        have hj10 : ¬ j < 0 ∧ j < (1999 : Int32) := hj (hc444_2)
        obtain ⟨T10, h10, X10, e10, W10, st10⟩ := stB X5 hx hZ e5 Ar10 (j := j) (inb_of SS10 hj10) (g := (mkF m 462 Ls [(.int ((yy).toInt8.toInt32)), (.int j), (.ref bt)])) rfl rfl (hb hby at_462)
        have AV10 : Arf Z h10 bt kt .byte (1999 : Int32) (fun i_ => .int (own_u ft j (nar .byte (yy.toInt8.toInt32)) i_)) := (c6_5.set (fits_nar_byte _) W10 hj10).as (fun i_ _ => own_as32 _ _ _ _)
        have c11_10 := AV5.other W10 ne_bm_bt
        have zz12 := (Nat.le_trans zz7 (Keep.of_wr W10).1)
        have N10 := Fr.snoc X10 N5 g_bt
        have pre13 : Go p e below (T0.setTop (mkF m 442 Ls [])) (T10.setTop (mkF m 463 Ls [])) := fun t k => pre9 t (st10 t k)
        have pre14 : Go p e below (T0.setTop (mkF m 442 Ls [])) (T10.setTop (mkF m 465 Ls [(.int (1 : Int32))])) := by
          intro t k
          refine pre13 t ?_
          show Steps p.tables e below (T10.setTop (mkF m 463 Ls [])) _
          refine XS.iload X10.here hx rfl (hb hby at_463) hl8 ?_
          show Steps p.tables e below (T10.setTop (mkF m 465 Ls [(.int (1 : Int32))])) _
          exact k
        have pre15 : Go p e below (T0.setTop (mkF m 442 Ls [])) (T10.setTop (mkF m 478 Ls [(.int (1 : Int32))])) := by
          intro t k
          refine pre14 t ?_
          show Steps p.tables e below (T10.setTop (mkF m 465 Ls [(.int (1 : Int32))])) _
          refine XS.ifYes X10.here hx rfl (pc0 := 465) (pc' := 476) rfl (hb hby at_465) rfl (XT.i0_ne_t (by decide : ¬ ((1 : Int32) = (0 : Int32)))) (by decide) (by decide) ?_
          show Steps p.tables e below (T10.setTop (mkF m 476 Ls [])) _
          refine XS.iload X10.here hx rfl (hb hby at_476) hl9 ?_
          show Steps p.tables e below (T10.setTop (mkF m 478 Ls [(.int (1 : Int32))])) _
          exact k
        have pre16 : Go p e below (T0.setTop (mkF m 442 Ls [])) (T10.setTop (mkF m 489 Ls [])) := by
          intro t k
          refine pre15 t ?_
          show Steps p.tables e below (T10.setTop (mkF m 478 Ls [(.int (1 : Int32))])) _
          refine XS.ifYes X10.here hx rfl (pc0 := 478) (pc' := 489) rfl (hb hby at_478) rfl (XT.i0_ne_t (by decide : ¬ ((1 : Int32) = (0 : Int32)))) (by decide) (by decide) ?_
          show Steps p.tables e below (T10.setTop (mkF m 489 Ls [])) _
          exact k
        refine ⟨T10, h10, _, X10, e10, N10, zz12, ?_, pre16⟩
        rw [own_pk hc444_2, own_pk hc444_2, own_pk hc444_2, own_pk hc444_2]
        exact ⟨c11_10, AV10, ne_bm_bt, g_bm, g_bt, Or.inl ⟨rfl, rfl, own_zu hzm (hvm1 rfl)⟩, Or.inl ⟨rfl, rfl, own_zu hzt (hvt1 rfl)⟩⟩
    · skip
      have pre17 : Go p e below (T0.setTop (mkF m 442 Ls [])) (T0.setTop (mkF m 444 Ls [(.int fl)])) := by
        intro t k
        refine pre0 t ?_
        show Steps p.tables e below (T0.setTop (mkF m 442 Ls [])) _
        refine XS.iload X0.here hx rfl (hb hby at_442) hl20 ?_
        show Steps p.tables e below (T0.setTop (mkF m 444 Ls [(.int fl)])) _
        exact k
      by_cases hc444_18 : fl = (0 : Int32)
      · skip
        have pre19 : Go p e below (T0.setTop (mkF m 442 Ls [])) (T0.setTop (mkF m 489 Ls [])) := by
          intro t k
          refine pre17 t ?_
          show Steps p.tables e below (T0.setTop (mkF m 444 Ls [(.int fl)])) _
          refine XS.ifYes X0.here hx rfl (pc0 := 444) (pc' := 489) rfl (hb hby at_444) rfl (XT.i0_eq_t hc444_18) (by decide) (by decide) ?_
          show Steps p.tables e below (T0.setTop (mkF m 489 Ls [])) _
          exact k
        refine ⟨T0, h0, _, X0, e0, N0, Z0, ?_, pre19⟩
        rw [own_sk hc444_18, own_sk hc444_18, own_sk hc444_18, own_sk hc444_18]
        exact ⟨Hbm, Hbt, ne_bm_bt, g_bm, g_bt, Or.inl ⟨rfl, rfl, hzm⟩, Or.inr ⟨rfl, aq, kaq, rfl, g_aq, ne_aq_bm, ne_aq_bt, ne_rq, LAq⟩⟩
      · skip
        have pre20 : Go p e below (T0.setTop (mkF m 442 Ls [])) (T0.setTop (mkF m 454 Ls [(.int ((xx).toInt8.toInt32)), (.int j), (.ref bm)])) := by
          intro t k
          refine pre17 t ?_
          show Steps p.tables e below (T0.setTop (mkF m 444 Ls [(.int fl)])) _
          refine XS.ifNo X0.here hx rfl (hb hby at_444) rfl (XT.i0_eq_f hc444_18) ?_
          show Steps p.tables e below (T0.setTop (mkF m 447 Ls [])) _
          refine XS.aload X0.here hx rfl (hb hby at_447) hl12 rfl ?_
          show Steps p.tables e below (T0.setTop (mkF m 449 Ls [(.ref bm)])) _
          refine XS.iload X0.here hx rfl (hb hby at_449) hl22 ?_
          show Steps p.tables e below (T0.setTop (mkF m 451 Ls [(.int j), (.ref bm)])) _
          refine XS.iload X0.here hx rfl (hb hby at_451) hl29 ?_
          show Steps p.tables e below (T0.setTop (mkF m 453 Ls [(.int xx), (.int j), (.ref bm)])) _
          refine XS.i2b X0.here hx rfl (hb hby at_453) rfl ?_
          show Steps p.tables e below (T0.setTop (mkF m 454 Ls [(.int ((xx).toInt8.toInt32)), (.int j), (.ref bm)])) _
          exact k
        obtain ⟨cl21, Ar21, SS21, NN21, -⟩ := Hbm.cell
        have hj21 : ¬ j < 0 ∧ j < (1999 : Int32) := hj (hc444_18)
        obtain ⟨T21, h21, X21, e21, W21, st21⟩ := stB X0 hx hZ e0 Ar21 (j := j) (inb_of SS21 hj21) (g := (mkF m 454 Ls [(.int ((xx).toInt8.toInt32)), (.int j), (.ref bm)])) rfl rfl (hb hby at_454)
        have AV21 : Arf Z h21 bm km .byte (1999 : Int32) (fun i_ => .int (own_u fm j (nar .byte (xx.toInt8.toInt32)) i_)) := (Hbm.set (fits_nar_byte _) W21 hj21).as (fun i_ _ => own_as32 _ _ _ _)
        have c22_21 := Hbt.other W21 (Ne.symm ne_bm_bt)
        have c23_21 := LAq.other W21 ne_aq_bm
        have zz24 := (Nat.le_trans Z0 (Keep.of_wr W21).1)
        have N21 := Fr.snoc X21 N0 g_bm
        have pre25 : Go p e below (T0.setTop (mkF m 442 Ls [])) (T21.setTop (mkF m 455 Ls [])) := fun t k => pre20 t (st21 t k)
        have pre26 : Go p e below (T0.setTop (mkF m 442 Ls [])) (T21.setTop (mkF m 462 Ls [(.int ((yy).toInt8.toInt32)), (.int j), (.ref bt)])) := by
          intro t k
          refine pre25 t ?_
          show Steps p.tables e below (T21.setTop (mkF m 455 Ls [])) _
          refine XS.aload X21.here hx rfl (hb hby at_455) hl13 rfl ?_
          show Steps p.tables e below (T21.setTop (mkF m 457 Ls [(.ref bt)])) _
          refine XS.iload X21.here hx rfl (hb hby at_457) hl22 ?_
          show Steps p.tables e below (T21.setTop (mkF m 459 Ls [(.int j), (.ref bt)])) _
          refine XS.iload X21.here hx rfl (hb hby at_459) hl30 ?_
          show Steps p.tables e below (T21.setTop (mkF m 461 Ls [(.int yy), (.int j), (.ref bt)])) _
          refine XS.i2b X21.here hx rfl (hb hby at_461) rfl ?_
          show Steps p.tables e below (T21.setTop (mkF m 462 Ls [(.int ((yy).toInt8.toInt32)), (.int j), (.ref bt)])) _
          exact k
        obtain ⟨cl27, Ar27, SS27, NN27, -⟩ := c22_21.cell
        have hj27 : ¬ j < 0 ∧ j < (1999 : Int32) := hj (hc444_18)
        obtain ⟨T27, h27, X27, e27, W27, st27⟩ := stB X21 hx hZ e21 Ar27 (j := j) (inb_of SS27 hj27) (g := (mkF m 462 Ls [(.int ((yy).toInt8.toInt32)), (.int j), (.ref bt)])) rfl rfl (hb hby at_462)
        have AV27 : Arf Z h27 bt kt .byte (1999 : Int32) (fun i_ => .int (own_u ft j (nar .byte (yy.toInt8.toInt32)) i_)) := (c22_21.set (fits_nar_byte _) W27 hj27).as (fun i_ _ => own_as32 _ _ _ _)
        have c28_27 := AV21.other W27 ne_bm_bt
        have c29_27 := c23_21.other W27 ne_aq_bt
        have zz30 := (Nat.le_trans zz24 (Keep.of_wr W27).1)
        have N27 := Fr.snoc X27 N21 g_bt
        have pre31 : Go p e below (T0.setTop (mkF m 442 Ls [])) (T27.setTop (mkF m 463 Ls [])) := fun t k => pre26 t (st27 t k)
        have pre32 : Go p e below (T0.setTop (mkF m 442 Ls [])) (T27.setTop (mkF m 465 Ls [(.int (1 : Int32))])) := by
          intro t k
          refine pre31 t ?_
          show Steps p.tables e below (T27.setTop (mkF m 463 Ls [])) _
          refine XS.iload X27.here hx rfl (hb hby at_463) hl8 ?_
          show Steps p.tables e below (T27.setTop (mkF m 465 Ls [(.int (1 : Int32))])) _
          exact k
        have pre33 : Go p e below (T0.setTop (mkF m 442 Ls [])) (T27.setTop (mkF m 478 Ls [(.int (0 : Int32))])) := by
          intro t k
          refine pre32 t ?_
          show Steps p.tables e below (T27.setTop (mkF m 465 Ls [(.int (1 : Int32))])) _
          refine XS.ifYes X27.here hx rfl (pc0 := 465) (pc' := 476) rfl (hb hby at_465) rfl (XT.i0_ne_t (by decide : ¬ ((1 : Int32) = (0 : Int32)))) (by decide) (by decide) ?_
          show Steps p.tables e below (T27.setTop (mkF m 476 Ls [])) _
          refine XS.iload X27.here hx rfl (hb hby at_476) hl9 ?_
          show Steps p.tables e below (T27.setTop (mkF m 478 Ls [(.int (0 : Int32))])) _
          exact k
        have pre34 : Go p e below (T0.setTop (mkF m 442 Ls [])) (T27.setTop (mkF m 488 Ls [(.long (7 : Int64)), (.int j), (.ref aq)])) := by
          intro t k
          refine pre33 t ?_
          show Steps p.tables e below (T27.setTop (mkF m 478 Ls [(.int (0 : Int32))])) _
          refine XS.ifNo X27.here hx rfl (hb hby at_478) rfl (XT.i0_ne_f (by decide : (0 : Int32) = (0 : Int32))) ?_
          show Steps p.tables e below (T27.setTop (mkF m 481 Ls [])) _
          refine XS.aload X27.here hx rfl (hb hby at_481) hl15 rfl ?_
          show Steps p.tables e below (T27.setTop (mkF m 483 Ls [(.ref aq)])) _
          refine XS.iload X27.here hx rfl (hb hby at_483) hl22 ?_
          show Steps p.tables e below (T27.setTop (mkF m 485 Ls [(.int j), (.ref aq)])) _
          refine X27.ldc2J hx hown (mvT hZ (hw _ (List.mem_of_getElem? (i := 16) rfl))) (g := (mkF m 485 Ls [(.int j), (.ref aq)])) rfl (hb hby at_485) ?_
          show Steps p.tables e below (T27.setTop (mkF m 488 Ls [(.long (7 : Int64)), (.int j), (.ref aq)])) _
          exact k
        obtain ⟨cl35, Ar35, SS35, NN35, -⟩ := c29_27.cell
        have hj35 : ¬ j < 0 ∧ j < (1999 : Int32) := hj (hc444_18)
        obtain ⟨T35, h35, X35, e35, W35, st35⟩ := stJ X27 hx hZ e27 Ar35 (j := j) (inb_of SS35 hj35) (g := (mkF m 488 Ls [(.long (7 : Int64)), (.int j), (.ref aq)])) rfl rfl (hb hby at_488)
        have AV35 : Arf Z h35 aq kaq .long (1999 : Int32) (fun i_ => .long (own_u fq j vt i_)) := (c29_27.set rfl W35 hj35).as (fun i_ _ => by rw [hvt0 rfl]; exact own_as64 _ _ _ _)
        have c36_35 := c28_27.other W35 (Ne.symm ne_aq_bm)
        have c37_35 := AV27.other W35 (Ne.symm ne_aq_bt)
        have zz38 := (Nat.le_trans zz30 (Keep.of_wr W35).1)
        have N35 := Fr.snoc X35 N27 g_aq
        have pre39 : Go p e below (T0.setTop (mkF m 442 Ls [])) (T35.setTop (mkF m 489 Ls [])) := fun t k => pre34 t (st35 t k)
        refine ⟨T35, h35, _, X35, e35, N35, zz38, ?_, pre39⟩
        rw [own_pk hc444_18, own_pk hc444_18, own_pk hc444_18, own_pk hc444_18]
        exact ⟨c36_35, c37_35, ne_bm_bt, g_bm, g_bt, Or.inl ⟨rfl, rfl, own_zu hzm (hvm1 rfl)⟩, Or.inr ⟨rfl, aq, kaq, rfl, g_aq, ne_aq_bm, ne_aq_bt, ne_rq, AV35⟩⟩
  · skip
    rcases Ht with ⟨rfl, rfl, hzt⟩ | ⟨rfl, aq, kaq, rfl, g_aq, ne_aq_bm, ne_aq_bt, ne_rq, LAq⟩
    · skip
      have pre40 : Go p e below (T0.setTop (mkF m 442 Ls [])) (T0.setTop (mkF m 444 Ls [(.int fl)])) := by
        intro t k
        refine pre0 t ?_
        show Steps p.tables e below (T0.setTop (mkF m 442 Ls [])) _
        refine XS.iload X0.here hx rfl (hb hby at_442) hl20 ?_
        show Steps p.tables e below (T0.setTop (mkF m 444 Ls [(.int fl)])) _
        exact k
      by_cases hc444_41 : fl = (0 : Int32)
      · skip
        have pre42 : Go p e below (T0.setTop (mkF m 442 Ls [])) (T0.setTop (mkF m 489 Ls [])) := by
          intro t k
          refine pre40 t ?_
          show Steps p.tables e below (T0.setTop (mkF m 444 Ls [(.int fl)])) _
          refine XS.ifYes X0.here hx rfl (pc0 := 444) (pc' := 489) rfl (hb hby at_444) rfl (XT.i0_eq_t hc444_41) (by decide) (by decide) ?_
          show Steps p.tables e below (T0.setTop (mkF m 489 Ls [])) _
          exact k
        refine ⟨T0, h0, _, X0, e0, N0, Z0, ?_, pre42⟩
        rw [own_sk hc444_41, own_sk hc444_41, own_sk hc444_41, own_sk hc444_41]
        exact ⟨Hbm, Hbt, ne_bm_bt, g_bm, g_bt, Or.inr ⟨rfl, am, kam, rfl, g_am, ne_am_bm, ne_am_bt, LAm⟩, Or.inl ⟨rfl, rfl, hzt⟩⟩
      · skip
        have pre43 : Go p e below (T0.setTop (mkF m 442 Ls [])) (T0.setTop (mkF m 454 Ls [(.int ((xx).toInt8.toInt32)), (.int j), (.ref bm)])) := by
          intro t k
          refine pre40 t ?_
          show Steps p.tables e below (T0.setTop (mkF m 444 Ls [(.int fl)])) _
          refine XS.ifNo X0.here hx rfl (hb hby at_444) rfl (XT.i0_eq_f hc444_41) ?_
          show Steps p.tables e below (T0.setTop (mkF m 447 Ls [])) _
          refine XS.aload X0.here hx rfl (hb hby at_447) hl12 rfl ?_
          show Steps p.tables e below (T0.setTop (mkF m 449 Ls [(.ref bm)])) _
          refine XS.iload X0.here hx rfl (hb hby at_449) hl22 ?_
          show Steps p.tables e below (T0.setTop (mkF m 451 Ls [(.int j), (.ref bm)])) _
          refine XS.iload X0.here hx rfl (hb hby at_451) hl29 ?_
          show Steps p.tables e below (T0.setTop (mkF m 453 Ls [(.int xx), (.int j), (.ref bm)])) _
          refine XS.i2b X0.here hx rfl (hb hby at_453) rfl ?_
          show Steps p.tables e below (T0.setTop (mkF m 454 Ls [(.int ((xx).toInt8.toInt32)), (.int j), (.ref bm)])) _
          exact k
        obtain ⟨cl44, Ar44, SS44, NN44, -⟩ := Hbm.cell
        have hj44 : ¬ j < 0 ∧ j < (1999 : Int32) := hj (hc444_41)
        obtain ⟨T44, h44, X44, e44, W44, st44⟩ := stB X0 hx hZ e0 Ar44 (j := j) (inb_of SS44 hj44) (g := (mkF m 454 Ls [(.int ((xx).toInt8.toInt32)), (.int j), (.ref bm)])) rfl rfl (hb hby at_454)
        have AV44 : Arf Z h44 bm km .byte (1999 : Int32) (fun i_ => .int (own_u fm j (nar .byte (xx.toInt8.toInt32)) i_)) := (Hbm.set (fits_nar_byte _) W44 hj44).as (fun i_ _ => own_as32 _ _ _ _)
        have c45_44 := Hbt.other W44 (Ne.symm ne_bm_bt)
        have c46_44 := LAm.other W44 ne_am_bm
        have zz47 := (Nat.le_trans Z0 (Keep.of_wr W44).1)
        have N44 := Fr.snoc X44 N0 g_bm
        have pre48 : Go p e below (T0.setTop (mkF m 442 Ls [])) (T44.setTop (mkF m 455 Ls [])) := fun t k => pre43 t (st44 t k)
        have pre49 : Go p e below (T0.setTop (mkF m 442 Ls [])) (T44.setTop (mkF m 462 Ls [(.int ((yy).toInt8.toInt32)), (.int j), (.ref bt)])) := by
          intro t k
          refine pre48 t ?_
          show Steps p.tables e below (T44.setTop (mkF m 455 Ls [])) _
          refine XS.aload X44.here hx rfl (hb hby at_455) hl13 rfl ?_
          show Steps p.tables e below (T44.setTop (mkF m 457 Ls [(.ref bt)])) _
          refine XS.iload X44.here hx rfl (hb hby at_457) hl22 ?_
          show Steps p.tables e below (T44.setTop (mkF m 459 Ls [(.int j), (.ref bt)])) _
          refine XS.iload X44.here hx rfl (hb hby at_459) hl30 ?_
          show Steps p.tables e below (T44.setTop (mkF m 461 Ls [(.int yy), (.int j), (.ref bt)])) _
          refine XS.i2b X44.here hx rfl (hb hby at_461) rfl ?_
          show Steps p.tables e below (T44.setTop (mkF m 462 Ls [(.int ((yy).toInt8.toInt32)), (.int j), (.ref bt)])) _
          exact k
        obtain ⟨cl50, Ar50, SS50, NN50, -⟩ := c45_44.cell
        have hj50 : ¬ j < 0 ∧ j < (1999 : Int32) := hj (hc444_41)
        obtain ⟨T50, h50, X50, e50, W50, st50⟩ := stB X44 hx hZ e44 Ar50 (j := j) (inb_of SS50 hj50) (g := (mkF m 462 Ls [(.int ((yy).toInt8.toInt32)), (.int j), (.ref bt)])) rfl rfl (hb hby at_462)
        have AV50 : Arf Z h50 bt kt .byte (1999 : Int32) (fun i_ => .int (own_u ft j (nar .byte (yy.toInt8.toInt32)) i_)) := (c45_44.set (fits_nar_byte _) W50 hj50).as (fun i_ _ => own_as32 _ _ _ _)
        have c51_50 := AV44.other W50 ne_bm_bt
        have c52_50 := c46_44.other W50 ne_am_bt
        have zz53 := (Nat.le_trans zz47 (Keep.of_wr W50).1)
        have N50 := Fr.snoc X50 N44 g_bt
        have pre54 : Go p e below (T0.setTop (mkF m 442 Ls [])) (T50.setTop (mkF m 463 Ls [])) := fun t k => pre49 t (st50 t k)
        have pre55 : Go p e below (T0.setTop (mkF m 442 Ls [])) (T50.setTop (mkF m 465 Ls [(.int (0 : Int32))])) := by
          intro t k
          refine pre54 t ?_
          show Steps p.tables e below (T50.setTop (mkF m 463 Ls [])) _
          refine XS.iload X50.here hx rfl (hb hby at_463) hl8 ?_
          show Steps p.tables e below (T50.setTop (mkF m 465 Ls [(.int (0 : Int32))])) _
          exact k
        have pre56 : Go p e below (T0.setTop (mkF m 442 Ls [])) (T50.setTop (mkF m 475 Ls [(.long (5 : Int64)), (.int j), (.ref am)])) := by
          intro t k
          refine pre55 t ?_
          show Steps p.tables e below (T50.setTop (mkF m 465 Ls [(.int (0 : Int32))])) _
          refine XS.ifNo X50.here hx rfl (hb hby at_465) rfl (XT.i0_ne_f (by decide : (0 : Int32) = (0 : Int32))) ?_
          show Steps p.tables e below (T50.setTop (mkF m 468 Ls [])) _
          refine XS.aload X50.here hx rfl (hb hby at_468) hl14 rfl ?_
          show Steps p.tables e below (T50.setTop (mkF m 470 Ls [(.ref am)])) _
          refine XS.iload X50.here hx rfl (hb hby at_470) hl22 ?_
          show Steps p.tables e below (T50.setTop (mkF m 472 Ls [(.int j), (.ref am)])) _
          refine X50.ldc2J hx hown (mvT hZ (hw _ (List.mem_of_getElem? (i := 17) rfl))) (g := (mkF m 472 Ls [(.int j), (.ref am)])) rfl (hb hby at_472) ?_
          show Steps p.tables e below (T50.setTop (mkF m 475 Ls [(.long (5 : Int64)), (.int j), (.ref am)])) _
          exact k
        obtain ⟨cl57, Ar57, SS57, NN57, -⟩ := c52_50.cell
        have hj57 : ¬ j < 0 ∧ j < (1999 : Int32) := hj (hc444_41)
        obtain ⟨T57, h57, X57, e57, W57, st57⟩ := stJ X50 hx hZ e50 Ar57 (j := j) (inb_of SS57 hj57) (g := (mkF m 475 Ls [(.long (5 : Int64)), (.int j), (.ref am)])) rfl rfl (hb hby at_475)
        have AV57 : Arf Z h57 am kam .long (1999 : Int32) (fun i_ => .long (own_u fr j vm i_)) := (c52_50.set rfl W57 hj57).as (fun i_ _ => by rw [hvm0 rfl]; exact own_as64 _ _ _ _)
        have c58_57 := c51_50.other W57 (Ne.symm ne_am_bm)
        have c59_57 := AV50.other W57 (Ne.symm ne_am_bt)
        have zz60 := (Nat.le_trans zz53 (Keep.of_wr W57).1)
        have N57 := Fr.snoc X57 N50 g_am
        have pre61 : Go p e below (T0.setTop (mkF m 442 Ls [])) (T57.setTop (mkF m 476 Ls [])) := fun t k => pre56 t (st57 t k)
        have pre62 : Go p e below (T0.setTop (mkF m 442 Ls [])) (T57.setTop (mkF m 478 Ls [(.int (1 : Int32))])) := by
          intro t k
          refine pre61 t ?_
          show Steps p.tables e below (T57.setTop (mkF m 476 Ls [])) _
          refine XS.iload X57.here hx rfl (hb hby at_476) hl9 ?_
          show Steps p.tables e below (T57.setTop (mkF m 478 Ls [(.int (1 : Int32))])) _
          exact k
        have pre63 : Go p e below (T0.setTop (mkF m 442 Ls [])) (T57.setTop (mkF m 489 Ls [])) := by
          intro t k
          refine pre62 t ?_
          show Steps p.tables e below (T57.setTop (mkF m 478 Ls [(.int (1 : Int32))])) _
          refine XS.ifYes X57.here hx rfl (pc0 := 478) (pc' := 489) rfl (hb hby at_478) rfl (XT.i0_ne_t (by decide : ¬ ((1 : Int32) = (0 : Int32)))) (by decide) (by decide) ?_
          show Steps p.tables e below (T57.setTop (mkF m 489 Ls [])) _
          exact k
        refine ⟨T57, h57, _, X57, e57, N57, zz60, ?_, pre63⟩
        rw [own_pk hc444_41, own_pk hc444_41, own_pk hc444_41, own_pk hc444_41]
        exact ⟨c58_57, c59_57, ne_bm_bt, g_bm, g_bt, Or.inr ⟨rfl, am, kam, rfl, g_am, ne_am_bm, ne_am_bt, AV57⟩, Or.inl ⟨rfl, rfl, own_zu hzt (hvt1 rfl)⟩⟩
    · skip
      have pre64 : Go p e below (T0.setTop (mkF m 442 Ls [])) (T0.setTop (mkF m 444 Ls [(.int fl)])) := by
        intro t k
        refine pre0 t ?_
        show Steps p.tables e below (T0.setTop (mkF m 442 Ls [])) _
        refine XS.iload X0.here hx rfl (hb hby at_442) hl20 ?_
        show Steps p.tables e below (T0.setTop (mkF m 444 Ls [(.int fl)])) _
        exact k
      by_cases hc444_65 : fl = (0 : Int32)
      · skip
        have pre66 : Go p e below (T0.setTop (mkF m 442 Ls [])) (T0.setTop (mkF m 489 Ls [])) := by
          intro t k
          refine pre64 t ?_
          show Steps p.tables e below (T0.setTop (mkF m 444 Ls [(.int fl)])) _
          refine XS.ifYes X0.here hx rfl (pc0 := 444) (pc' := 489) rfl (hb hby at_444) rfl (XT.i0_eq_t hc444_65) (by decide) (by decide) ?_
          show Steps p.tables e below (T0.setTop (mkF m 489 Ls [])) _
          exact k
        refine ⟨T0, h0, _, X0, e0, N0, Z0, ?_, pre66⟩
        rw [own_sk hc444_65, own_sk hc444_65, own_sk hc444_65, own_sk hc444_65]
        exact ⟨Hbm, Hbt, ne_bm_bt, g_bm, g_bt, Or.inr ⟨rfl, am, kam, rfl, g_am, ne_am_bm, ne_am_bt, LAm⟩, Or.inr ⟨rfl, aq, kaq, rfl, g_aq, ne_aq_bm, ne_aq_bt, ne_rq, LAq⟩⟩
      · skip
        have pre67 : Go p e below (T0.setTop (mkF m 442 Ls [])) (T0.setTop (mkF m 454 Ls [(.int ((xx).toInt8.toInt32)), (.int j), (.ref bm)])) := by
          intro t k
          refine pre64 t ?_
          show Steps p.tables e below (T0.setTop (mkF m 444 Ls [(.int fl)])) _
          refine XS.ifNo X0.here hx rfl (hb hby at_444) rfl (XT.i0_eq_f hc444_65) ?_
          show Steps p.tables e below (T0.setTop (mkF m 447 Ls [])) _
          refine XS.aload X0.here hx rfl (hb hby at_447) hl12 rfl ?_
          show Steps p.tables e below (T0.setTop (mkF m 449 Ls [(.ref bm)])) _
          refine XS.iload X0.here hx rfl (hb hby at_449) hl22 ?_
          show Steps p.tables e below (T0.setTop (mkF m 451 Ls [(.int j), (.ref bm)])) _
          refine XS.iload X0.here hx rfl (hb hby at_451) hl29 ?_
          show Steps p.tables e below (T0.setTop (mkF m 453 Ls [(.int xx), (.int j), (.ref bm)])) _
          refine XS.i2b X0.here hx rfl (hb hby at_453) rfl ?_
          show Steps p.tables e below (T0.setTop (mkF m 454 Ls [(.int ((xx).toInt8.toInt32)), (.int j), (.ref bm)])) _
          exact k
        obtain ⟨cl68, Ar68, SS68, NN68, -⟩ := Hbm.cell
        have hj68 : ¬ j < 0 ∧ j < (1999 : Int32) := hj (hc444_65)
        obtain ⟨T68, h68, X68, e68, W68, st68⟩ := stB X0 hx hZ e0 Ar68 (j := j) (inb_of SS68 hj68) (g := (mkF m 454 Ls [(.int ((xx).toInt8.toInt32)), (.int j), (.ref bm)])) rfl rfl (hb hby at_454)
        have AV68 : Arf Z h68 bm km .byte (1999 : Int32) (fun i_ => .int (own_u fm j (nar .byte (xx.toInt8.toInt32)) i_)) := (Hbm.set (fits_nar_byte _) W68 hj68).as (fun i_ _ => own_as32 _ _ _ _)
        have c69_68 := Hbt.other W68 (Ne.symm ne_bm_bt)
        have c70_68 := LAm.other W68 ne_am_bm
        have c71_68 := LAq.other W68 ne_aq_bm
        have zz72 := (Nat.le_trans Z0 (Keep.of_wr W68).1)
        have N68 := Fr.snoc X68 N0 g_bm
        have pre73 : Go p e below (T0.setTop (mkF m 442 Ls [])) (T68.setTop (mkF m 455 Ls [])) := fun t k => pre67 t (st68 t k)
        have pre74 : Go p e below (T0.setTop (mkF m 442 Ls [])) (T68.setTop (mkF m 462 Ls [(.int ((yy).toInt8.toInt32)), (.int j), (.ref bt)])) := by
          intro t k
          refine pre73 t ?_
          show Steps p.tables e below (T68.setTop (mkF m 455 Ls [])) _
          refine XS.aload X68.here hx rfl (hb hby at_455) hl13 rfl ?_
          show Steps p.tables e below (T68.setTop (mkF m 457 Ls [(.ref bt)])) _
          refine XS.iload X68.here hx rfl (hb hby at_457) hl22 ?_
          show Steps p.tables e below (T68.setTop (mkF m 459 Ls [(.int j), (.ref bt)])) _
          refine XS.iload X68.here hx rfl (hb hby at_459) hl30 ?_
          show Steps p.tables e below (T68.setTop (mkF m 461 Ls [(.int yy), (.int j), (.ref bt)])) _
          refine XS.i2b X68.here hx rfl (hb hby at_461) rfl ?_
          show Steps p.tables e below (T68.setTop (mkF m 462 Ls [(.int ((yy).toInt8.toInt32)), (.int j), (.ref bt)])) _
          exact k
        obtain ⟨cl75, Ar75, SS75, NN75, -⟩ := c69_68.cell
        have hj75 : ¬ j < 0 ∧ j < (1999 : Int32) := hj (hc444_65)
        obtain ⟨T75, h75, X75, e75, W75, st75⟩ := stB X68 hx hZ e68 Ar75 (j := j) (inb_of SS75 hj75) (g := (mkF m 462 Ls [(.int ((yy).toInt8.toInt32)), (.int j), (.ref bt)])) rfl rfl (hb hby at_462)
        have AV75 : Arf Z h75 bt kt .byte (1999 : Int32) (fun i_ => .int (own_u ft j (nar .byte (yy.toInt8.toInt32)) i_)) := (c69_68.set (fits_nar_byte _) W75 hj75).as (fun i_ _ => own_as32 _ _ _ _)
        have c76_75 := AV68.other W75 ne_bm_bt
        have c77_75 := c70_68.other W75 ne_am_bt
        have c78_75 := c71_68.other W75 ne_aq_bt
        have zz79 := (Nat.le_trans zz72 (Keep.of_wr W75).1)
        have N75 := Fr.snoc X75 N68 g_bt
        have pre80 : Go p e below (T0.setTop (mkF m 442 Ls [])) (T75.setTop (mkF m 463 Ls [])) := fun t k => pre74 t (st75 t k)
        have pre81 : Go p e below (T0.setTop (mkF m 442 Ls [])) (T75.setTop (mkF m 465 Ls [(.int (0 : Int32))])) := by
          intro t k
          refine pre80 t ?_
          show Steps p.tables e below (T75.setTop (mkF m 463 Ls [])) _
          refine XS.iload X75.here hx rfl (hb hby at_463) hl8 ?_
          show Steps p.tables e below (T75.setTop (mkF m 465 Ls [(.int (0 : Int32))])) _
          exact k
        have pre82 : Go p e below (T0.setTop (mkF m 442 Ls [])) (T75.setTop (mkF m 475 Ls [(.long (5 : Int64)), (.int j), (.ref am)])) := by
          intro t k
          refine pre81 t ?_
          show Steps p.tables e below (T75.setTop (mkF m 465 Ls [(.int (0 : Int32))])) _
          refine XS.ifNo X75.here hx rfl (hb hby at_465) rfl (XT.i0_ne_f (by decide : (0 : Int32) = (0 : Int32))) ?_
          show Steps p.tables e below (T75.setTop (mkF m 468 Ls [])) _
          refine XS.aload X75.here hx rfl (hb hby at_468) hl14 rfl ?_
          show Steps p.tables e below (T75.setTop (mkF m 470 Ls [(.ref am)])) _
          refine XS.iload X75.here hx rfl (hb hby at_470) hl22 ?_
          show Steps p.tables e below (T75.setTop (mkF m 472 Ls [(.int j), (.ref am)])) _
          refine X75.ldc2J hx hown (mvT hZ (hw _ (List.mem_of_getElem? (i := 17) rfl))) (g := (mkF m 472 Ls [(.int j), (.ref am)])) rfl (hb hby at_472) ?_
          show Steps p.tables e below (T75.setTop (mkF m 475 Ls [(.long (5 : Int64)), (.int j), (.ref am)])) _
          exact k
        obtain ⟨cl83, Ar83, SS83, NN83, -⟩ := c77_75.cell
        have hj83 : ¬ j < 0 ∧ j < (1999 : Int32) := hj (hc444_65)
        obtain ⟨T83, h83, X83, e83, W83, st83⟩ := stJ X75 hx hZ e75 Ar83 (j := j) (inb_of SS83 hj83) (g := (mkF m 475 Ls [(.long (5 : Int64)), (.int j), (.ref am)])) rfl rfl (hb hby at_475)
        have AV83 : Arf Z h83 am kam .long (1999 : Int32) (fun i_ => .long (own_u fr j vm i_)) := (c77_75.set rfl W83 hj83).as (fun i_ _ => by rw [hvm0 rfl]; exact own_as64 _ _ _ _)
        have c84_83 := c76_75.other W83 (Ne.symm ne_am_bm)
        have c85_83 := AV75.other W83 (Ne.symm ne_am_bt)
        have c86_83 := c78_75.other W83 (Ne.symm (fun q_ => ne_rq (congrArg Value.ref q_)))
        have zz87 := (Nat.le_trans zz79 (Keep.of_wr W83).1)
        have N83 := Fr.snoc X83 N75 g_am
        have pre88 : Go p e below (T0.setTop (mkF m 442 Ls [])) (T83.setTop (mkF m 476 Ls [])) := fun t k => pre82 t (st83 t k)
        have pre89 : Go p e below (T0.setTop (mkF m 442 Ls [])) (T83.setTop (mkF m 478 Ls [(.int (0 : Int32))])) := by
          intro t k
          refine pre88 t ?_
          show Steps p.tables e below (T83.setTop (mkF m 476 Ls [])) _
          refine XS.iload X83.here hx rfl (hb hby at_476) hl9 ?_
          show Steps p.tables e below (T83.setTop (mkF m 478 Ls [(.int (0 : Int32))])) _
          exact k
        have pre90 : Go p e below (T0.setTop (mkF m 442 Ls [])) (T83.setTop (mkF m 488 Ls [(.long (7 : Int64)), (.int j), (.ref aq)])) := by
          intro t k
          refine pre89 t ?_
          show Steps p.tables e below (T83.setTop (mkF m 478 Ls [(.int (0 : Int32))])) _
          refine XS.ifNo X83.here hx rfl (hb hby at_478) rfl (XT.i0_ne_f (by decide : (0 : Int32) = (0 : Int32))) ?_
          show Steps p.tables e below (T83.setTop (mkF m 481 Ls [])) _
          refine XS.aload X83.here hx rfl (hb hby at_481) hl15 rfl ?_
          show Steps p.tables e below (T83.setTop (mkF m 483 Ls [(.ref aq)])) _
          refine XS.iload X83.here hx rfl (hb hby at_483) hl22 ?_
          show Steps p.tables e below (T83.setTop (mkF m 485 Ls [(.int j), (.ref aq)])) _
          refine X83.ldc2J hx hown (mvT hZ (hw _ (List.mem_of_getElem? (i := 16) rfl))) (g := (mkF m 485 Ls [(.int j), (.ref aq)])) rfl (hb hby at_485) ?_
          show Steps p.tables e below (T83.setTop (mkF m 488 Ls [(.long (7 : Int64)), (.int j), (.ref aq)])) _
          exact k
        obtain ⟨cl91, Ar91, SS91, NN91, -⟩ := c86_83.cell
        have hj91 : ¬ j < 0 ∧ j < (1999 : Int32) := hj (hc444_65)
        obtain ⟨T91, h91, X91, e91, W91, st91⟩ := stJ X83 hx hZ e83 Ar91 (j := j) (inb_of SS91 hj91) (g := (mkF m 488 Ls [(.long (7 : Int64)), (.int j), (.ref aq)])) rfl rfl (hb hby at_488)
        have AV91 : Arf Z h91 aq kaq .long (1999 : Int32) (fun i_ => .long (own_u fq j vt i_)) := (c86_83.set rfl W91 hj91).as (fun i_ _ => by rw [hvt0 rfl]; exact own_as64 _ _ _ _)
        have c92_91 := c84_83.other W91 (Ne.symm ne_aq_bm)
        have c93_91 := c85_83.other W91 (Ne.symm ne_aq_bt)
        have c94_91 := AV83.other W91 (fun q_ => ne_rq (congrArg Value.ref q_))
        have zz95 := (Nat.le_trans zz87 (Keep.of_wr W91).1)
        have N91 := Fr.snoc X91 N83 g_aq
        have pre96 : Go p e below (T0.setTop (mkF m 442 Ls [])) (T91.setTop (mkF m 489 Ls [])) := fun t k => pre90 t (st91 t k)
        refine ⟨T91, h91, _, X91, e91, N91, zz95, ?_, pre96⟩
        rw [own_pk hc444_65, own_pk hc444_65, own_pk hc444_65, own_pk hc444_65]
        exact ⟨c92_91, c93_91, ne_bm_bt, g_bm, g_bt, Or.inr ⟨rfl, am, kam, rfl, g_am, ne_am_bm, ne_am_bt, c94_91⟩, Or.inr ⟨rfl, aq, kaq, rfl, g_aq, ne_aq_bm, ne_aq_bt, ne_rq, AV91⟩⟩
theorem pd_3 : parseMethodDescriptor "([JI)J" = some ⟨[(.array .long), .int], some .long⟩ := by decide +kernel
set_option maxRecDepth 65536 in
set_option maxHeartbeats 40000000 in
theorem chk0n {p : Program} {l : Launch} {e : Env} {s : State} {m : MethodId} {args : Array Value} {below : List Frame} {meth : Method} {c : Code} {T0 : State} {locs : List Loc} {Z : State} {a0 : Array Value} {h0 : Heap} {n0 : Nat}  {Ls : Array Slot} {bm bt : Addr} {km kt : ClassId} {j xx yy : Int32} {vm kk : Int64} {fm ft : Nat → Int32}
    (X0 : Stand p l e room_1 s m args below meth c T0 locs 5 9995) (hx : p.tables.exec = Jvm.exec) (hZ : Z.Warmed39 s.vm) (hw : ∀ d ∈ tables_1, d.before a0 Z = true) (hby : c.code = code) (hml : c.maxLocals = 46) (hown : s.vm.findClass "com/example/lanescan/lanescan/DistributionMergePinLaw" = some m.cls) (e0 : T0.heap = h0) (N0 : Fr n0 locs) (Z0 : n0 ≤ h0.size) (hl12 : Ls[12]? = some (.val (.ref bm))) (hl13 : Ls[13]? = some (.val (.ref bt))) (hl39 : Ls[39]? = some (.val .null)) (hl16 : Ls[16]? = some (.val (.int j))) (hl23 : Ls[23]? = some (.val (.int xx))) (hl24 : Ls[24]? = some (.val (.int yy))) (hl45 : Ls[45]? = some (.val (.int (1 : Int32)))) (hl31 : Ls[31]? = some (.val (.long vm))) (hl40 : Ls[40]? = some (.val (.long kk))) (hsz : Ls.size = 46) (hst : storeLocals Ls 45 (.int (1 : Int32)) = some Ls) (Hbm : BA Z h0 bm km fm) (Hbt : BA Z h0 bt kt ft) (hj : ¬ j < 0 ∧ j < (1999 : Int32)) (hA : fm (j).toNatClampNeg = (xx + yy).toInt8.toInt32) (hB : ft (j).toNatClampNeg = yy.toInt8.toInt32) (hC : fcan = vm + kk) :
    ∃ (T' : State) (locs' : List Loc), Stand p l e room_1 s m args below meth c T' locs' 5 9995 ∧ T'.heap = h0 ∧ Fr n0 locs' ∧ Go p e below (T0.setTop (mkF m 634 Ls [])) (T'.setTop (mkF m 682 Ls [])) := by
  have pre0 : Go p e below (T0.setTop (mkF m 634 Ls [])) (T0.setTop (mkF m 634 Ls [])) := fun t k => k
  obtain ⟨cl1, Ar1, SS1, NN1, HH1⟩ := Hbm.cell
  have hj1 : ¬ j < 0 ∧ j < (1999 : Int32) := hj
  have hat1 : cl1.slots[(j).toNatClampNeg]? = some (.int (fm (j).toNatClampNeg)) := (HH1 _ (own_lt hj1)).trans (congrArg some rfl)
  have pre2 : Go p e below (T0.setTop (mkF m 634 Ls [])) (T0.setTop (mkF m 645 Ls [(.int (((xx + yy)).toInt8.toInt32)), (.int (fm (j).toNatClampNeg))])) := by
    intro t k
    refine pre0 t ?_
    show Steps p.tables e below (T0.setTop (mkF m 634 Ls [])) _
    refine XS.aload X0.here hx rfl (hb hby at_634) hl12 rfl ?_
    show Steps p.tables e below (T0.setTop (mkF m 636 Ls [(.ref bm)])) _
    refine XS.iload X0.here hx rfl (hb hby at_636) hl16 ?_
    show Steps p.tables e below (T0.setTop (mkF m 638 Ls [(.int j), (.ref bm)])) _
    refine X0.baloadBytes hx (j := j) (v := (.int (fm (j).toNatClampNeg))) (by rw [e0]; exact Ar1.1) (State.isArrayOf_alike hZ.alike Ar1.2.1) Ar1.2.2 (inb_of SS1 hj1) hat1 (g := (mkF m 638 Ls [(.int j), (.ref bm)])) rfl rfl (hb hby at_638) _ ?_
    show Steps p.tables e below (T0.setTop (mkF m 639 Ls [(.int (fm (j).toNatClampNeg))])) _
    refine XS.iload X0.here hx rfl (hb hby at_639) hl23 ?_
    show Steps p.tables e below (T0.setTop (mkF m 641 Ls [(.int xx), (.int (fm (j).toNatClampNeg))])) _
    refine XS.iload X0.here hx rfl (hb hby at_641) hl24 ?_
    show Steps p.tables e below (T0.setTop (mkF m 643 Ls [(.int yy), (.int xx), (.int (fm (j).toNatClampNeg))])) _
    refine XS.iadd X0.here hx rfl (hb hby at_643) rfl ?_
    show Steps p.tables e below (T0.setTop (mkF m 644 Ls [(.int (xx + yy)), (.int (fm (j).toNatClampNeg))])) _
    refine XS.i2b X0.here hx rfl (hb hby at_644) rfl ?_
    show Steps p.tables e below (T0.setTop (mkF m 645 Ls [(.int (((xx + yy)).toInt8.toInt32)), (.int (fm (j).toNatClampNeg))])) _
    exact k
  have hc645_3 : (fm (j).toNatClampNeg) = (((xx + yy)).toInt8.toInt32) := by
    exact hA
  obtain ⟨cl4, Ar4, SS4, NN4, HH4⟩ := Hbt.cell
  have hj4 : ¬ j < 0 ∧ j < (1999 : Int32) := hj
  have hat4 : cl4.slots[(j).toNatClampNeg]? = some (.int (ft (j).toNatClampNeg)) := (HH4 _ (own_lt hj4)).trans (congrArg some rfl)
  have pre5 : Go p e below (T0.setTop (mkF m 634 Ls [])) (T0.setTop (mkF m 656 Ls [(.int ((yy).toInt8.toInt32)), (.int (ft (j).toNatClampNeg))])) := by
    intro t k
    refine pre2 t ?_
    show Steps p.tables e below (T0.setTop (mkF m 645 Ls [(.int (((xx + yy)).toInt8.toInt32)), (.int (fm (j).toNatClampNeg))])) _
    refine XS.icmpNo X0.here hx rfl (hb hby at_645) rfl (XT.ii_ne_f hc645_3) ?_
    show Steps p.tables e below (T0.setTop (mkF m 648 Ls [])) _
    refine XS.aload X0.here hx rfl (hb hby at_648) hl13 rfl ?_
    show Steps p.tables e below (T0.setTop (mkF m 650 Ls [(.ref bt)])) _
    refine XS.iload X0.here hx rfl (hb hby at_650) hl16 ?_
    show Steps p.tables e below (T0.setTop (mkF m 652 Ls [(.int j), (.ref bt)])) _
    refine X0.baloadBytes hx (j := j) (v := (.int (ft (j).toNatClampNeg))) (by rw [e0]; exact Ar4.1) (State.isArrayOf_alike hZ.alike Ar4.2.1) Ar4.2.2 (inb_of SS4 hj4) hat4 (g := (mkF m 652 Ls [(.int j), (.ref bt)])) rfl rfl (hb hby at_652) _ ?_
    show Steps p.tables e below (T0.setTop (mkF m 653 Ls [(.int (ft (j).toNatClampNeg))])) _
    refine XS.iload X0.here hx rfl (hb hby at_653) hl24 ?_
    show Steps p.tables e below (T0.setTop (mkF m 655 Ls [(.int yy), (.int (ft (j).toNatClampNeg))])) _
    refine XS.i2b X0.here hx rfl (hb hby at_655) rfl ?_
    show Steps p.tables e below (T0.setTop (mkF m 656 Ls [(.int ((yy).toInt8.toInt32)), (.int (ft (j).toNatClampNeg))])) _
    exact k
  have hc656_6 : (ft (j).toNatClampNeg) = ((yy).toInt8.toInt32) := by
    exact hB
  have pre7 : Go p e below (T0.setTop (mkF m 634 Ls [])) (T0.setTop (mkF m 663 Ls [(.int j), .null])) := by
    intro t k
    refine pre5 t ?_
    show Steps p.tables e below (T0.setTop (mkF m 656 Ls [(.int ((yy).toInt8.toInt32)), (.int (ft (j).toNatClampNeg))])) _
    refine XS.icmpNo X0.here hx rfl (hb hby at_656) rfl (XT.ii_ne_f hc656_6) ?_
    show Steps p.tables e below (T0.setTop (mkF m 659 Ls [])) _
    refine XS.aload X0.here hx rfl (hb hby at_659) hl39 rfl ?_
    show Steps p.tables e below (T0.setTop (mkF m 661 Ls [.null])) _
    refine XS.iload X0.here hx rfl (hb hby at_661) hl16 ?_
    show Steps p.tables e below (T0.setTop (mkF m 663 Ls [(.int j), .null])) _
    exact k
  obtain ⟨_, _, ⟨T8, L8, k8, n8⟩, -, X8, ⟨Lc8, hQ8, l8, y8, z8⟩, st8⟩ := Jvm.LawKit.callS X0 hx (y := (⟨"com/example/lanescan/lanescan/DistributionMergePinLaw", "carryAt", "([JI)J"⟩ : MethodName)) hown (mvT hZ (hw _ (List.mem_of_getElem? (i := 10) rfl))) (mvT hZ (hw _ (List.mem_of_getElem? (i := 11) rfl))) (mvT hZ (hw _ (List.mem_of_getElem? (i := 12) rfl))) (mvT hZ (hw _ (List.mem_of_getElem? (i := 13) rfl))) (by decide) (backOf (W := 0) (rm3_n l Z a0 hw [] j  h0 n0 Z0 ) hZ (hw _ (List.mem_of_getElem? (i := 13) rfl)) (hw _ (List.mem_of_getElem? (i := 12) rfl)) (by decide) (by decide)) (g := (mkF m 663 Ls [(.int j), .null])) rfl (by rw [hml]; exact hsz) (argsL := [.null, (.int j)]) (rest := []) (lenOf pd_3 rfl) rfl (by show 2 * 0 + _ ≤ _; exact Nat.le_of_eq rfl) (hb hby at_663) (fun _ _ => ⟨rfl, e0, (by decide : 5 + 0 ≤ _), (by decide : 9995 + 0 ≤ _)⟩)
  dsimp only [Pt.U, Pt.locs, Pt.cells, Pt.slots] at X8 l8 y8 z8 st8 hQ8
  subst l8 y8 z8
  obtain ⟨rfl, N8q, hh8⟩ := hQ8
  have N8 := Fr.app N0 N8q
  have pre9 : Go p e below (T0.setTop (mkF m 634 Ls [])) (T8.setTop (mkF m 666 Ls [(.long fcan)])) := fun t k => pre7 t (st8 t k)
  have pre10 : Go p e below (T0.setTop (mkF m 634 Ls [])) (T8.setTop (mkF m 672 Ls [(.int (XT.cmpL fcan (vm + kk)))])) := by
    intro t k
    refine pre9 t ?_
    show Steps p.tables e below (T8.setTop (mkF m 666 Ls [(.long fcan)])) _
    refine XT.lload X8.here hx rfl (hb hby at_666) hl31 ?_
    show Steps p.tables e below (T8.setTop (mkF m 668 Ls [(.long vm), (.long fcan)])) _
    refine XT.lload X8.here hx rfl (hb hby at_668) hl40 ?_
    show Steps p.tables e below (T8.setTop (mkF m 670 Ls [(.long kk), (.long vm), (.long fcan)])) _
    refine XS.ladd X8.here hx rfl (hb hby at_670) rfl ?_
    show Steps p.tables e below (T8.setTop (mkF m 671 Ls [(.long (vm + kk)), (.long fcan)])) _
    refine XT.lcmp X8.here hx rfl (hb hby at_671) rfl ?_
    show Steps p.tables e below (T8.setTop (mkF m 672 Ls [(.int (XT.cmpL fcan (vm + kk)))])) _
    exact k
  have hc672_11 : fcan = (vm + kk) := by
    exact hC
  have pre12 : Go p e below (T0.setTop (mkF m 634 Ls [])) (T8.setTop (mkF m 682 Ls [])) := by
    intro t k
    refine pre10 t ?_
    show Steps p.tables e below (T8.setTop (mkF m 672 Ls [(.int (XT.cmpL fcan (vm + kk)))])) _
    refine XS.ifNo X8.here hx rfl (hb hby at_672) rfl (XT.ll_ne_f hc672_11) ?_
    show Steps p.tables e below (T8.setTop (mkF m 675 Ls [])) _
    refine XS.iconst X8.here hx rfl (hb hby at_675) ?_
    show Steps p.tables e below (T8.setTop (mkF m 676 Ls [(.int (1 : Int32))])) _
    refine XS.goto X8.here hx rfl (pc0 := 676) (pc' := 680) rfl (hb hby at_676) (by decide) (by decide) ?_
    show Steps p.tables e below (T8.setTop (mkF m 680 Ls [(.int (1 : Int32))])) _
    refine XS.istore X8.here hx rfl (hb hby at_680) rfl (l' := Ls) hst ?_
    show Steps p.tables e below (T8.setTop (mkF m 682 Ls [])) _
    exact k
  exact ⟨T8, _, X8, hh8, N8, pre12⟩
set_option maxRecDepth 65536 in
set_option maxHeartbeats 40000000 in
theorem chk0r {p : Program} {l : Launch} {e : Env} {s : State} {m : MethodId} {args : Array Value} {below : List Frame} {meth : Method} {c : Code} {T0 : State} {locs : List Loc} {Z : State} {a0 : Array Value} {h0 : Heap} {n0 : Nat}  {Ls : Array Slot} {bm bt a39 : Addr} {km kt k39 : ClassId} {j xx yy : Int32} {vm kk : Int64} {fm ft : Nat → Int32} {fR : Nat → Int64}
    (X0 : Stand p l e room_1 s m args below meth c T0 locs 5 9995) (hx : p.tables.exec = Jvm.exec) (hZ : Z.Warmed39 s.vm) (hw : ∀ d ∈ tables_1, d.before a0 Z = true) (hby : c.code = code) (hml : c.maxLocals = 46) (hown : s.vm.findClass "com/example/lanescan/lanescan/DistributionMergePinLaw" = some m.cls) (e0 : T0.heap = h0) (N0 : Fr n0 locs) (Z0 : n0 ≤ h0.size) (hl12 : Ls[12]? = some (.val (.ref bm))) (hl13 : Ls[13]? = some (.val (.ref bt))) (hl39 : Ls[39]? = some (.val (.ref a39))) (hl16 : Ls[16]? = some (.val (.int j))) (hl23 : Ls[23]? = some (.val (.int xx))) (hl24 : Ls[24]? = some (.val (.int yy))) (hl45 : Ls[45]? = some (.val (.int (1 : Int32)))) (hl31 : Ls[31]? = some (.val (.long vm))) (hl40 : Ls[40]? = some (.val (.long kk))) (hsz : Ls.size = 46) (hst : storeLocals Ls 45 (.int (1 : Int32)) = some Ls) (Hbm : BA Z h0 bm km fm) (Hbt : BA Z h0 bt kt ft) (LR : LA Z h0 a39 k39 fR) (hj : ¬ j < 0 ∧ j < (1999 : Int32)) (hA : fm (j).toNatClampNeg = (xx + yy).toInt8.toInt32) (hB : ft (j).toNatClampNeg = yy.toInt8.toInt32) (hC : fcar j fR = vm + kk) :
    ∃ (T' : State) (locs' : List Loc), Stand p l e room_1 s m args below meth c T' locs' 5 9995 ∧ T'.heap = h0 ∧ Fr n0 locs' ∧ Go p e below (T0.setTop (mkF m 634 Ls [])) (T'.setTop (mkF m 682 Ls [])) := by
  have pre0 : Go p e below (T0.setTop (mkF m 634 Ls [])) (T0.setTop (mkF m 634 Ls [])) := fun t k => k
  obtain ⟨cl1, Ar1, SS1, NN1, HH1⟩ := Hbm.cell
  have hj1 : ¬ j < 0 ∧ j < (1999 : Int32) := hj
  have hat1 : cl1.slots[(j).toNatClampNeg]? = some (.int (fm (j).toNatClampNeg)) := (HH1 _ (own_lt hj1)).trans (congrArg some rfl)
  have pre2 : Go p e below (T0.setTop (mkF m 634 Ls [])) (T0.setTop (mkF m 645 Ls [(.int (((xx + yy)).toInt8.toInt32)), (.int (fm (j).toNatClampNeg))])) := by
    intro t k
    refine pre0 t ?_
    show Steps p.tables e below (T0.setTop (mkF m 634 Ls [])) _
    refine XS.aload X0.here hx rfl (hb hby at_634) hl12 rfl ?_
    show Steps p.tables e below (T0.setTop (mkF m 636 Ls [(.ref bm)])) _
    refine XS.iload X0.here hx rfl (hb hby at_636) hl16 ?_
    show Steps p.tables e below (T0.setTop (mkF m 638 Ls [(.int j), (.ref bm)])) _
    refine X0.baloadBytes hx (j := j) (v := (.int (fm (j).toNatClampNeg))) (by rw [e0]; exact Ar1.1) (State.isArrayOf_alike hZ.alike Ar1.2.1) Ar1.2.2 (inb_of SS1 hj1) hat1 (g := (mkF m 638 Ls [(.int j), (.ref bm)])) rfl rfl (hb hby at_638) _ ?_
    show Steps p.tables e below (T0.setTop (mkF m 639 Ls [(.int (fm (j).toNatClampNeg))])) _
    refine XS.iload X0.here hx rfl (hb hby at_639) hl23 ?_
    show Steps p.tables e below (T0.setTop (mkF m 641 Ls [(.int xx), (.int (fm (j).toNatClampNeg))])) _
    refine XS.iload X0.here hx rfl (hb hby at_641) hl24 ?_
    show Steps p.tables e below (T0.setTop (mkF m 643 Ls [(.int yy), (.int xx), (.int (fm (j).toNatClampNeg))])) _
    refine XS.iadd X0.here hx rfl (hb hby at_643) rfl ?_
    show Steps p.tables e below (T0.setTop (mkF m 644 Ls [(.int (xx + yy)), (.int (fm (j).toNatClampNeg))])) _
    refine XS.i2b X0.here hx rfl (hb hby at_644) rfl ?_
    show Steps p.tables e below (T0.setTop (mkF m 645 Ls [(.int (((xx + yy)).toInt8.toInt32)), (.int (fm (j).toNatClampNeg))])) _
    exact k
  have hc645_3 : (fm (j).toNatClampNeg) = (((xx + yy)).toInt8.toInt32) := by
    exact hA
  obtain ⟨cl4, Ar4, SS4, NN4, HH4⟩ := Hbt.cell
  have hj4 : ¬ j < 0 ∧ j < (1999 : Int32) := hj
  have hat4 : cl4.slots[(j).toNatClampNeg]? = some (.int (ft (j).toNatClampNeg)) := (HH4 _ (own_lt hj4)).trans (congrArg some rfl)
  have pre5 : Go p e below (T0.setTop (mkF m 634 Ls [])) (T0.setTop (mkF m 656 Ls [(.int ((yy).toInt8.toInt32)), (.int (ft (j).toNatClampNeg))])) := by
    intro t k
    refine pre2 t ?_
    show Steps p.tables e below (T0.setTop (mkF m 645 Ls [(.int (((xx + yy)).toInt8.toInt32)), (.int (fm (j).toNatClampNeg))])) _
    refine XS.icmpNo X0.here hx rfl (hb hby at_645) rfl (XT.ii_ne_f hc645_3) ?_
    show Steps p.tables e below (T0.setTop (mkF m 648 Ls [])) _
    refine XS.aload X0.here hx rfl (hb hby at_648) hl13 rfl ?_
    show Steps p.tables e below (T0.setTop (mkF m 650 Ls [(.ref bt)])) _
    refine XS.iload X0.here hx rfl (hb hby at_650) hl16 ?_
    show Steps p.tables e below (T0.setTop (mkF m 652 Ls [(.int j), (.ref bt)])) _
    refine X0.baloadBytes hx (j := j) (v := (.int (ft (j).toNatClampNeg))) (by rw [e0]; exact Ar4.1) (State.isArrayOf_alike hZ.alike Ar4.2.1) Ar4.2.2 (inb_of SS4 hj4) hat4 (g := (mkF m 652 Ls [(.int j), (.ref bt)])) rfl rfl (hb hby at_652) _ ?_
    show Steps p.tables e below (T0.setTop (mkF m 653 Ls [(.int (ft (j).toNatClampNeg))])) _
    refine XS.iload X0.here hx rfl (hb hby at_653) hl24 ?_
    show Steps p.tables e below (T0.setTop (mkF m 655 Ls [(.int yy), (.int (ft (j).toNatClampNeg))])) _
    refine XS.i2b X0.here hx rfl (hb hby at_655) rfl ?_
    show Steps p.tables e below (T0.setTop (mkF m 656 Ls [(.int ((yy).toInt8.toInt32)), (.int (ft (j).toNatClampNeg))])) _
    exact k
  have hc656_6 : (ft (j).toNatClampNeg) = ((yy).toInt8.toInt32) := by
    exact hB
  have pre7 : Go p e below (T0.setTop (mkF m 634 Ls [])) (T0.setTop (mkF m 663 Ls [(.int j), (.ref a39)])) := by
    intro t k
    refine pre5 t ?_
    show Steps p.tables e below (T0.setTop (mkF m 656 Ls [(.int ((yy).toInt8.toInt32)), (.int (ft (j).toNatClampNeg))])) _
    refine XS.icmpNo X0.here hx rfl (hb hby at_656) rfl (XT.ii_ne_f hc656_6) ?_
    show Steps p.tables e below (T0.setTop (mkF m 659 Ls [])) _
    refine XS.aload X0.here hx rfl (hb hby at_659) hl39 rfl ?_
    show Steps p.tables e below (T0.setTop (mkF m 661 Ls [(.ref a39)])) _
    refine XS.iload X0.here hx rfl (hb hby at_661) hl16 ?_
    show Steps p.tables e below (T0.setTop (mkF m 663 Ls [(.int j), (.ref a39)])) _
    exact k
  obtain ⟨_, _, ⟨T8, L8, k8, n8⟩, -, X8, ⟨Lc8, hQ8, l8, y8, z8⟩, st8⟩ := Jvm.LawKit.callS X0 hx (y := (⟨"com/example/lanescan/lanescan/DistributionMergePinLaw", "carryAt", "([JI)J"⟩ : MethodName)) hown (mvT hZ (hw _ (List.mem_of_getElem? (i := 10) rfl))) (mvT hZ (hw _ (List.mem_of_getElem? (i := 11) rfl))) (mvT hZ (hw _ (List.mem_of_getElem? (i := 12) rfl))) (mvT hZ (hw _ (List.mem_of_getElem? (i := 13) rfl))) (by decide) (backOf (W := 0) (rm3_r l Z a0 hw [] a39 j k39 fR h0 n0 Z0 LR (hj)) hZ (hw _ (List.mem_of_getElem? (i := 13) rfl)) (hw _ (List.mem_of_getElem? (i := 12) rfl)) (by decide) (by decide)) (g := (mkF m 663 Ls [(.int j), (.ref a39)])) rfl (by rw [hml]; exact hsz) (argsL := [(.ref a39), (.int j)]) (rest := []) (lenOf pd_3 rfl) rfl (by show 2 * 0 + _ ≤ _; exact Nat.le_of_eq rfl) (hb hby at_663) (fun _ _ => ⟨rfl, e0, (by decide : 5 + 0 ≤ _), (by decide : 9995 + 0 ≤ _)⟩)
  dsimp only [Pt.U, Pt.locs, Pt.cells, Pt.slots] at X8 l8 y8 z8 st8 hQ8
  subst l8 y8 z8
  obtain ⟨rfl, N8q, hh8⟩ := hQ8
  have N8 := Fr.app N0 N8q
  have pre9 : Go p e below (T0.setTop (mkF m 634 Ls [])) (T8.setTop (mkF m 666 Ls [(.long (fcar j fR))])) := fun t k => pre7 t (st8 t k)
  have pre10 : Go p e below (T0.setTop (mkF m 634 Ls [])) (T8.setTop (mkF m 672 Ls [(.int (XT.cmpL (fcar j fR) (vm + kk)))])) := by
    intro t k
    refine pre9 t ?_
    show Steps p.tables e below (T8.setTop (mkF m 666 Ls [(.long (fcar j fR))])) _
    refine XT.lload X8.here hx rfl (hb hby at_666) hl31 ?_
    show Steps p.tables e below (T8.setTop (mkF m 668 Ls [(.long vm), (.long (fcar j fR))])) _
    refine XT.lload X8.here hx rfl (hb hby at_668) hl40 ?_
    show Steps p.tables e below (T8.setTop (mkF m 670 Ls [(.long kk), (.long vm), (.long (fcar j fR))])) _
    refine XS.ladd X8.here hx rfl (hb hby at_670) rfl ?_
    show Steps p.tables e below (T8.setTop (mkF m 671 Ls [(.long (vm + kk)), (.long (fcar j fR))])) _
    refine XT.lcmp X8.here hx rfl (hb hby at_671) rfl ?_
    show Steps p.tables e below (T8.setTop (mkF m 672 Ls [(.int (XT.cmpL (fcar j fR) (vm + kk)))])) _
    exact k
  have hc672_11 : (fcar j fR) = (vm + kk) := by
    exact hC
  have pre12 : Go p e below (T0.setTop (mkF m 634 Ls [])) (T8.setTop (mkF m 682 Ls [])) := by
    intro t k
    refine pre10 t ?_
    show Steps p.tables e below (T8.setTop (mkF m 672 Ls [(.int (XT.cmpL (fcar j fR) (vm + kk)))])) _
    refine XS.ifNo X8.here hx rfl (hb hby at_672) rfl (XT.ll_ne_f hc672_11) ?_
    show Steps p.tables e below (T8.setTop (mkF m 675 Ls [])) _
    refine XS.iconst X8.here hx rfl (hb hby at_675) ?_
    show Steps p.tables e below (T8.setTop (mkF m 676 Ls [(.int (1 : Int32))])) _
    refine XS.goto X8.here hx rfl (pc0 := 676) (pc' := 680) rfl (hb hby at_676) (by decide) (by decide) ?_
    show Steps p.tables e below (T8.setTop (mkF m 680 Ls [(.int (1 : Int32))])) _
    refine XS.istore X8.here hx rfl (hb hby at_680) rfl (l' := Ls) hst ?_
    show Steps p.tables e below (T8.setTop (mkF m 682 Ls [])) _
    exact k
  exact ⟨T8, _, X8, hh8, N8, pre12⟩
set_option maxRecDepth 65536 in
set_option maxHeartbeats 40000000 in
theorem chk1n {p : Program} {l : Launch} {e : Env} {s : State} {m : MethodId} {args : Array Value} {below : List Frame} {meth : Method} {c : Code} {T0 : State} {locs : List Loc} {Z : State} {a0 : Array Value} {h0 : Heap} {n0 : Nat}  {Ls : Array Slot} {bm bt : Addr} {km kt : ClassId} {j xx yy fl : Int32} {vm kk : Int64} {fm ft : Nat → Int32}
    (X0 : Stand p l e room_1 s m args below meth c T0 locs 5 9995) (hx : p.tables.exec = Jvm.exec) (hZ : Z.Warmed39 s.vm) (hw : ∀ d ∈ tables_1, d.before a0 Z = true) (hby : c.code = code) (hml : c.maxLocals = 46) (hown : s.vm.findClass "com/example/lanescan/lanescan/DistributionMergePinLaw" = some m.cls) (e0 : T0.heap = h0) (N0 : Fr n0 locs) (Z0 : n0 ≤ h0.size) (hl12 : Ls[12]? = some (.val (.ref bm))) (hl13 : Ls[13]? = some (.val (.ref bt))) (hl39 : Ls[39]? = some (.val .null)) (hl17 : Ls[17]? = some (.val (.int j))) (hl25 : Ls[25]? = some (.val (.int xx))) (hl26 : Ls[26]? = some (.val (.int yy))) (hl45 : Ls[45]? = some (.val (.int (1 : Int32)))) (hl35 : Ls[35]? = some (.val (.long vm))) (hl42 : Ls[42]? = some (.val (.long kk))) (hl18 : Ls[18]? = some (.val (.int fl))) (hsz : Ls.size = 46) (hst : storeLocals Ls 45 (.int (1 : Int32)) = some Ls) (Hbm : BA Z h0 bm km fm) (Hbt : BA Z h0 bt kt ft) (hj : ¬ fl = 0 → ¬ j < 0 ∧ j < (1999 : Int32)) (hA : ¬ fl = 0 → fm (j).toNatClampNeg = (xx + yy).toInt8.toInt32) (hB : ¬ fl = 0 → ft (j).toNatClampNeg = yy.toInt8.toInt32) (hC : ¬ fl = 0 → fcan = vm + kk) :
    ∃ (T' : State) (locs' : List Loc), Stand p l e room_1 s m args below meth c T' locs' 5 9995 ∧ T'.heap = h0 ∧ Fr n0 locs' ∧ Go p e below (T0.setTop (mkF m 682 Ls [])) (T'.setTop (mkF m 740 Ls [])) := by
  have pre0 : Go p e below (T0.setTop (mkF m 682 Ls [])) (T0.setTop (mkF m 682 Ls [])) := fun t k => k
  have pre1 : Go p e below (T0.setTop (mkF m 682 Ls [])) (T0.setTop (mkF m 684 Ls [(.int fl)])) := by
    intro t k
    refine pre0 t ?_
    show Steps p.tables e below (T0.setTop (mkF m 682 Ls [])) _
    refine XS.iload X0.here hx rfl (hb hby at_682) hl18 ?_
    show Steps p.tables e below (T0.setTop (mkF m 684 Ls [(.int fl)])) _
    exact k
  by_cases hc684_2 : fl = (0 : Int32)
  · skip
    have pre3 : Go p e below (T0.setTop (mkF m 682 Ls [])) (T0.setTop (mkF m 740 Ls [])) := by
      intro t k
      refine pre1 t ?_
      show Steps p.tables e below (T0.setTop (mkF m 684 Ls [(.int fl)])) _
      refine XS.ifYes X0.here hx rfl (pc0 := 684) (pc' := 740) rfl (hb hby at_684) rfl (XT.i0_eq_t hc684_2) (by decide) (by decide) ?_
      show Steps p.tables e below (T0.setTop (mkF m 740 Ls [])) _
      exact k
    exact ⟨T0, _, X0, e0, N0, pre3⟩
  · skip
    have pre4 : Go p e below (T0.setTop (mkF m 682 Ls [])) (T0.setTop (mkF m 689 Ls [(.int (1 : Int32))])) := by
      intro t k
      refine pre1 t ?_
      show Steps p.tables e below (T0.setTop (mkF m 684 Ls [(.int fl)])) _
      refine XS.ifNo X0.here hx rfl (hb hby at_684) rfl (XT.i0_eq_f hc684_2) ?_
      show Steps p.tables e below (T0.setTop (mkF m 687 Ls [])) _
      refine XS.iload X0.here hx rfl (hb hby at_687) hl45 ?_
      show Steps p.tables e below (T0.setTop (mkF m 689 Ls [(.int (1 : Int32))])) _
      exact k
    obtain ⟨cl5, Ar5, SS5, NN5, HH5⟩ := Hbm.cell
    have hj5 : ¬ j < 0 ∧ j < (1999 : Int32) := hj hc684_2
    have hat5 : cl5.slots[(j).toNatClampNeg]? = some (.int (fm (j).toNatClampNeg)) := (HH5 _ (own_lt hj5)).trans (congrArg some rfl)
    have pre6 : Go p e below (T0.setTop (mkF m 682 Ls [])) (T0.setTop (mkF m 703 Ls [(.int (((xx + yy)).toInt8.toInt32)), (.int (fm (j).toNatClampNeg))])) := by
      intro t k
      refine pre4 t ?_
      show Steps p.tables e below (T0.setTop (mkF m 689 Ls [(.int (1 : Int32))])) _
      refine XS.ifNo X0.here hx rfl (hb hby at_689) rfl (XT.i0_eq_f (by decide : ¬ ((1 : Int32) = (0 : Int32)))) ?_
      show Steps p.tables e below (T0.setTop (mkF m 692 Ls [])) _
      refine XS.aload X0.here hx rfl (hb hby at_692) hl12 rfl ?_
      show Steps p.tables e below (T0.setTop (mkF m 694 Ls [(.ref bm)])) _
      refine XS.iload X0.here hx rfl (hb hby at_694) hl17 ?_
      show Steps p.tables e below (T0.setTop (mkF m 696 Ls [(.int j), (.ref bm)])) _
      refine X0.baloadBytes hx (j := j) (v := (.int (fm (j).toNatClampNeg))) (by rw [e0]; exact Ar5.1) (State.isArrayOf_alike hZ.alike Ar5.2.1) Ar5.2.2 (inb_of SS5 hj5) hat5 (g := (mkF m 696 Ls [(.int j), (.ref bm)])) rfl rfl (hb hby at_696) _ ?_
      show Steps p.tables e below (T0.setTop (mkF m 697 Ls [(.int (fm (j).toNatClampNeg))])) _
      refine XS.iload X0.here hx rfl (hb hby at_697) hl25 ?_
      show Steps p.tables e below (T0.setTop (mkF m 699 Ls [(.int xx), (.int (fm (j).toNatClampNeg))])) _
      refine XS.iload X0.here hx rfl (hb hby at_699) hl26 ?_
      show Steps p.tables e below (T0.setTop (mkF m 701 Ls [(.int yy), (.int xx), (.int (fm (j).toNatClampNeg))])) _
      refine XS.iadd X0.here hx rfl (hb hby at_701) rfl ?_
      show Steps p.tables e below (T0.setTop (mkF m 702 Ls [(.int (xx + yy)), (.int (fm (j).toNatClampNeg))])) _
      refine XS.i2b X0.here hx rfl (hb hby at_702) rfl ?_
      show Steps p.tables e below (T0.setTop (mkF m 703 Ls [(.int (((xx + yy)).toInt8.toInt32)), (.int (fm (j).toNatClampNeg))])) _
      exact k
    have hc703_7 : (fm (j).toNatClampNeg) = (((xx + yy)).toInt8.toInt32) := by
      exact hA hc684_2
    obtain ⟨cl8, Ar8, SS8, NN8, HH8⟩ := Hbt.cell
    have hj8 : ¬ j < 0 ∧ j < (1999 : Int32) := hj hc684_2
    have hat8 : cl8.slots[(j).toNatClampNeg]? = some (.int (ft (j).toNatClampNeg)) := (HH8 _ (own_lt hj8)).trans (congrArg some rfl)
    have pre9 : Go p e below (T0.setTop (mkF m 682 Ls [])) (T0.setTop (mkF m 714 Ls [(.int ((yy).toInt8.toInt32)), (.int (ft (j).toNatClampNeg))])) := by
      intro t k
      refine pre6 t ?_
      show Steps p.tables e below (T0.setTop (mkF m 703 Ls [(.int (((xx + yy)).toInt8.toInt32)), (.int (fm (j).toNatClampNeg))])) _
      refine XS.icmpNo X0.here hx rfl (hb hby at_703) rfl (XT.ii_ne_f hc703_7) ?_
      show Steps p.tables e below (T0.setTop (mkF m 706 Ls [])) _
      refine XS.aload X0.here hx rfl (hb hby at_706) hl13 rfl ?_
      show Steps p.tables e below (T0.setTop (mkF m 708 Ls [(.ref bt)])) _
      refine XS.iload X0.here hx rfl (hb hby at_708) hl17 ?_
      show Steps p.tables e below (T0.setTop (mkF m 710 Ls [(.int j), (.ref bt)])) _
      refine X0.baloadBytes hx (j := j) (v := (.int (ft (j).toNatClampNeg))) (by rw [e0]; exact Ar8.1) (State.isArrayOf_alike hZ.alike Ar8.2.1) Ar8.2.2 (inb_of SS8 hj8) hat8 (g := (mkF m 710 Ls [(.int j), (.ref bt)])) rfl rfl (hb hby at_710) _ ?_
      show Steps p.tables e below (T0.setTop (mkF m 711 Ls [(.int (ft (j).toNatClampNeg))])) _
      refine XS.iload X0.here hx rfl (hb hby at_711) hl26 ?_
      show Steps p.tables e below (T0.setTop (mkF m 713 Ls [(.int yy), (.int (ft (j).toNatClampNeg))])) _
      refine XS.i2b X0.here hx rfl (hb hby at_713) rfl ?_
      show Steps p.tables e below (T0.setTop (mkF m 714 Ls [(.int ((yy).toInt8.toInt32)), (.int (ft (j).toNatClampNeg))])) _
      exact k
    have hc714_10 : (ft (j).toNatClampNeg) = ((yy).toInt8.toInt32) := by
      exact hB hc684_2
    have pre11 : Go p e below (T0.setTop (mkF m 682 Ls [])) (T0.setTop (mkF m 721 Ls [(.int j), .null])) := by
      intro t k
      refine pre9 t ?_
      show Steps p.tables e below (T0.setTop (mkF m 714 Ls [(.int ((yy).toInt8.toInt32)), (.int (ft (j).toNatClampNeg))])) _
      refine XS.icmpNo X0.here hx rfl (hb hby at_714) rfl (XT.ii_ne_f hc714_10) ?_
      show Steps p.tables e below (T0.setTop (mkF m 717 Ls [])) _
      refine XS.aload X0.here hx rfl (hb hby at_717) hl39 rfl ?_
      show Steps p.tables e below (T0.setTop (mkF m 719 Ls [.null])) _
      refine XS.iload X0.here hx rfl (hb hby at_719) hl17 ?_
      show Steps p.tables e below (T0.setTop (mkF m 721 Ls [(.int j), .null])) _
      exact k
    obtain ⟨_, _, ⟨T12, L12, k12, n12⟩, -, X12, ⟨Lc12, hQ12, l12, y12, z12⟩, st12⟩ := Jvm.LawKit.callS X0 hx (y := (⟨"com/example/lanescan/lanescan/DistributionMergePinLaw", "carryAt", "([JI)J"⟩ : MethodName)) hown (mvT hZ (hw _ (List.mem_of_getElem? (i := 10) rfl))) (mvT hZ (hw _ (List.mem_of_getElem? (i := 11) rfl))) (mvT hZ (hw _ (List.mem_of_getElem? (i := 12) rfl))) (mvT hZ (hw _ (List.mem_of_getElem? (i := 13) rfl))) (by decide) (backOf (W := 0) (rm3_n l Z a0 hw [] j  h0 n0 Z0 ) hZ (hw _ (List.mem_of_getElem? (i := 13) rfl)) (hw _ (List.mem_of_getElem? (i := 12) rfl)) (by decide) (by decide)) (g := (mkF m 721 Ls [(.int j), .null])) rfl (by rw [hml]; exact hsz) (argsL := [.null, (.int j)]) (rest := []) (lenOf pd_3 rfl) rfl (by show 2 * 0 + _ ≤ _; exact Nat.le_of_eq rfl) (hb hby at_721) (fun _ _ => ⟨rfl, e0, (by decide : 5 + 0 ≤ _), (by decide : 9995 + 0 ≤ _)⟩)
    dsimp only [Pt.U, Pt.locs, Pt.cells, Pt.slots] at X12 l12 y12 z12 st12 hQ12
    subst l12 y12 z12
    obtain ⟨rfl, N12q, hh12⟩ := hQ12
    have N12 := Fr.app N0 N12q
    have pre13 : Go p e below (T0.setTop (mkF m 682 Ls [])) (T12.setTop (mkF m 724 Ls [(.long fcan)])) := fun t k => pre11 t (st12 t k)
    have pre14 : Go p e below (T0.setTop (mkF m 682 Ls [])) (T12.setTop (mkF m 730 Ls [(.int (XT.cmpL fcan (vm + kk)))])) := by
      intro t k
      refine pre13 t ?_
      show Steps p.tables e below (T12.setTop (mkF m 724 Ls [(.long fcan)])) _
      refine XT.lload X12.here hx rfl (hb hby at_724) hl35 ?_
      show Steps p.tables e below (T12.setTop (mkF m 726 Ls [(.long vm), (.long fcan)])) _
      refine XT.lload X12.here hx rfl (hb hby at_726) hl42 ?_
      show Steps p.tables e below (T12.setTop (mkF m 728 Ls [(.long kk), (.long vm), (.long fcan)])) _
      refine XS.ladd X12.here hx rfl (hb hby at_728) rfl ?_
      show Steps p.tables e below (T12.setTop (mkF m 729 Ls [(.long (vm + kk)), (.long fcan)])) _
      refine XT.lcmp X12.here hx rfl (hb hby at_729) rfl ?_
      show Steps p.tables e below (T12.setTop (mkF m 730 Ls [(.int (XT.cmpL fcan (vm + kk)))])) _
      exact k
    have hc730_15 : fcan = (vm + kk) := by
      exact hC hc684_2
    have pre16 : Go p e below (T0.setTop (mkF m 682 Ls [])) (T12.setTop (mkF m 740 Ls [])) := by
      intro t k
      refine pre14 t ?_
      show Steps p.tables e below (T12.setTop (mkF m 730 Ls [(.int (XT.cmpL fcan (vm + kk)))])) _
      refine XS.ifNo X12.here hx rfl (hb hby at_730) rfl (XT.ll_ne_f hc730_15) ?_
      show Steps p.tables e below (T12.setTop (mkF m 733 Ls [])) _
      refine XS.iconst X12.here hx rfl (hb hby at_733) ?_
      show Steps p.tables e below (T12.setTop (mkF m 734 Ls [(.int (1 : Int32))])) _
      refine XS.goto X12.here hx rfl (pc0 := 734) (pc' := 738) rfl (hb hby at_734) (by decide) (by decide) ?_
      show Steps p.tables e below (T12.setTop (mkF m 738 Ls [(.int (1 : Int32))])) _
      refine XS.istore X12.here hx rfl (hb hby at_738) rfl (l' := Ls) hst ?_
      show Steps p.tables e below (T12.setTop (mkF m 740 Ls [])) _
      exact k
    exact ⟨T12, _, X12, hh12, N12, pre16⟩
set_option maxRecDepth 65536 in
set_option maxHeartbeats 40000000 in
theorem chk1r {p : Program} {l : Launch} {e : Env} {s : State} {m : MethodId} {args : Array Value} {below : List Frame} {meth : Method} {c : Code} {T0 : State} {locs : List Loc} {Z : State} {a0 : Array Value} {h0 : Heap} {n0 : Nat}  {Ls : Array Slot} {bm bt a39 : Addr} {km kt k39 : ClassId} {j xx yy fl : Int32} {vm kk : Int64} {fm ft : Nat → Int32} {fR : Nat → Int64}
    (X0 : Stand p l e room_1 s m args below meth c T0 locs 5 9995) (hx : p.tables.exec = Jvm.exec) (hZ : Z.Warmed39 s.vm) (hw : ∀ d ∈ tables_1, d.before a0 Z = true) (hby : c.code = code) (hml : c.maxLocals = 46) (hown : s.vm.findClass "com/example/lanescan/lanescan/DistributionMergePinLaw" = some m.cls) (e0 : T0.heap = h0) (N0 : Fr n0 locs) (Z0 : n0 ≤ h0.size) (hl12 : Ls[12]? = some (.val (.ref bm))) (hl13 : Ls[13]? = some (.val (.ref bt))) (hl39 : Ls[39]? = some (.val (.ref a39))) (hl17 : Ls[17]? = some (.val (.int j))) (hl25 : Ls[25]? = some (.val (.int xx))) (hl26 : Ls[26]? = some (.val (.int yy))) (hl45 : Ls[45]? = some (.val (.int (1 : Int32)))) (hl35 : Ls[35]? = some (.val (.long vm))) (hl42 : Ls[42]? = some (.val (.long kk))) (hl18 : Ls[18]? = some (.val (.int fl))) (hsz : Ls.size = 46) (hst : storeLocals Ls 45 (.int (1 : Int32)) = some Ls) (Hbm : BA Z h0 bm km fm) (Hbt : BA Z h0 bt kt ft) (LR : LA Z h0 a39 k39 fR) (hj : ¬ fl = 0 → ¬ j < 0 ∧ j < (1999 : Int32)) (hA : ¬ fl = 0 → fm (j).toNatClampNeg = (xx + yy).toInt8.toInt32) (hB : ¬ fl = 0 → ft (j).toNatClampNeg = yy.toInt8.toInt32) (hC : ¬ fl = 0 → fcar j fR = vm + kk) :
    ∃ (T' : State) (locs' : List Loc), Stand p l e room_1 s m args below meth c T' locs' 5 9995 ∧ T'.heap = h0 ∧ Fr n0 locs' ∧ Go p e below (T0.setTop (mkF m 682 Ls [])) (T'.setTop (mkF m 740 Ls [])) := by
  have pre0 : Go p e below (T0.setTop (mkF m 682 Ls [])) (T0.setTop (mkF m 682 Ls [])) := fun t k => k
  have pre1 : Go p e below (T0.setTop (mkF m 682 Ls [])) (T0.setTop (mkF m 684 Ls [(.int fl)])) := by
    intro t k
    refine pre0 t ?_
    show Steps p.tables e below (T0.setTop (mkF m 682 Ls [])) _
    refine XS.iload X0.here hx rfl (hb hby at_682) hl18 ?_
    show Steps p.tables e below (T0.setTop (mkF m 684 Ls [(.int fl)])) _
    exact k
  by_cases hc684_2 : fl = (0 : Int32)
  · skip
    have pre3 : Go p e below (T0.setTop (mkF m 682 Ls [])) (T0.setTop (mkF m 740 Ls [])) := by
      intro t k
      refine pre1 t ?_
      show Steps p.tables e below (T0.setTop (mkF m 684 Ls [(.int fl)])) _
      refine XS.ifYes X0.here hx rfl (pc0 := 684) (pc' := 740) rfl (hb hby at_684) rfl (XT.i0_eq_t hc684_2) (by decide) (by decide) ?_
      show Steps p.tables e below (T0.setTop (mkF m 740 Ls [])) _
      exact k
    exact ⟨T0, _, X0, e0, N0, pre3⟩
  · skip
    have pre4 : Go p e below (T0.setTop (mkF m 682 Ls [])) (T0.setTop (mkF m 689 Ls [(.int (1 : Int32))])) := by
      intro t k
      refine pre1 t ?_
      show Steps p.tables e below (T0.setTop (mkF m 684 Ls [(.int fl)])) _
      refine XS.ifNo X0.here hx rfl (hb hby at_684) rfl (XT.i0_eq_f hc684_2) ?_
      show Steps p.tables e below (T0.setTop (mkF m 687 Ls [])) _
      refine XS.iload X0.here hx rfl (hb hby at_687) hl45 ?_
      show Steps p.tables e below (T0.setTop (mkF m 689 Ls [(.int (1 : Int32))])) _
      exact k
    obtain ⟨cl5, Ar5, SS5, NN5, HH5⟩ := Hbm.cell
    have hj5 : ¬ j < 0 ∧ j < (1999 : Int32) := hj hc684_2
    have hat5 : cl5.slots[(j).toNatClampNeg]? = some (.int (fm (j).toNatClampNeg)) := (HH5 _ (own_lt hj5)).trans (congrArg some rfl)
    have pre6 : Go p e below (T0.setTop (mkF m 682 Ls [])) (T0.setTop (mkF m 703 Ls [(.int (((xx + yy)).toInt8.toInt32)), (.int (fm (j).toNatClampNeg))])) := by
      intro t k
      refine pre4 t ?_
      show Steps p.tables e below (T0.setTop (mkF m 689 Ls [(.int (1 : Int32))])) _
      refine XS.ifNo X0.here hx rfl (hb hby at_689) rfl (XT.i0_eq_f (by decide : ¬ ((1 : Int32) = (0 : Int32)))) ?_
      show Steps p.tables e below (T0.setTop (mkF m 692 Ls [])) _
      refine XS.aload X0.here hx rfl (hb hby at_692) hl12 rfl ?_
      show Steps p.tables e below (T0.setTop (mkF m 694 Ls [(.ref bm)])) _
      refine XS.iload X0.here hx rfl (hb hby at_694) hl17 ?_
      show Steps p.tables e below (T0.setTop (mkF m 696 Ls [(.int j), (.ref bm)])) _
      refine X0.baloadBytes hx (j := j) (v := (.int (fm (j).toNatClampNeg))) (by rw [e0]; exact Ar5.1) (State.isArrayOf_alike hZ.alike Ar5.2.1) Ar5.2.2 (inb_of SS5 hj5) hat5 (g := (mkF m 696 Ls [(.int j), (.ref bm)])) rfl rfl (hb hby at_696) _ ?_
      show Steps p.tables e below (T0.setTop (mkF m 697 Ls [(.int (fm (j).toNatClampNeg))])) _
      refine XS.iload X0.here hx rfl (hb hby at_697) hl25 ?_
      show Steps p.tables e below (T0.setTop (mkF m 699 Ls [(.int xx), (.int (fm (j).toNatClampNeg))])) _
      refine XS.iload X0.here hx rfl (hb hby at_699) hl26 ?_
      show Steps p.tables e below (T0.setTop (mkF m 701 Ls [(.int yy), (.int xx), (.int (fm (j).toNatClampNeg))])) _
      refine XS.iadd X0.here hx rfl (hb hby at_701) rfl ?_
      show Steps p.tables e below (T0.setTop (mkF m 702 Ls [(.int (xx + yy)), (.int (fm (j).toNatClampNeg))])) _
      refine XS.i2b X0.here hx rfl (hb hby at_702) rfl ?_
      show Steps p.tables e below (T0.setTop (mkF m 703 Ls [(.int (((xx + yy)).toInt8.toInt32)), (.int (fm (j).toNatClampNeg))])) _
      exact k
    have hc703_7 : (fm (j).toNatClampNeg) = (((xx + yy)).toInt8.toInt32) := by
      exact hA hc684_2
    obtain ⟨cl8, Ar8, SS8, NN8, HH8⟩ := Hbt.cell
    have hj8 : ¬ j < 0 ∧ j < (1999 : Int32) := hj hc684_2
    have hat8 : cl8.slots[(j).toNatClampNeg]? = some (.int (ft (j).toNatClampNeg)) := (HH8 _ (own_lt hj8)).trans (congrArg some rfl)
    have pre9 : Go p e below (T0.setTop (mkF m 682 Ls [])) (T0.setTop (mkF m 714 Ls [(.int ((yy).toInt8.toInt32)), (.int (ft (j).toNatClampNeg))])) := by
      intro t k
      refine pre6 t ?_
      show Steps p.tables e below (T0.setTop (mkF m 703 Ls [(.int (((xx + yy)).toInt8.toInt32)), (.int (fm (j).toNatClampNeg))])) _
      refine XS.icmpNo X0.here hx rfl (hb hby at_703) rfl (XT.ii_ne_f hc703_7) ?_
      show Steps p.tables e below (T0.setTop (mkF m 706 Ls [])) _
      refine XS.aload X0.here hx rfl (hb hby at_706) hl13 rfl ?_
      show Steps p.tables e below (T0.setTop (mkF m 708 Ls [(.ref bt)])) _
      refine XS.iload X0.here hx rfl (hb hby at_708) hl17 ?_
      show Steps p.tables e below (T0.setTop (mkF m 710 Ls [(.int j), (.ref bt)])) _
      refine X0.baloadBytes hx (j := j) (v := (.int (ft (j).toNatClampNeg))) (by rw [e0]; exact Ar8.1) (State.isArrayOf_alike hZ.alike Ar8.2.1) Ar8.2.2 (inb_of SS8 hj8) hat8 (g := (mkF m 710 Ls [(.int j), (.ref bt)])) rfl rfl (hb hby at_710) _ ?_
      show Steps p.tables e below (T0.setTop (mkF m 711 Ls [(.int (ft (j).toNatClampNeg))])) _
      refine XS.iload X0.here hx rfl (hb hby at_711) hl26 ?_
      show Steps p.tables e below (T0.setTop (mkF m 713 Ls [(.int yy), (.int (ft (j).toNatClampNeg))])) _
      refine XS.i2b X0.here hx rfl (hb hby at_713) rfl ?_
      show Steps p.tables e below (T0.setTop (mkF m 714 Ls [(.int ((yy).toInt8.toInt32)), (.int (ft (j).toNatClampNeg))])) _
      exact k
    have hc714_10 : (ft (j).toNatClampNeg) = ((yy).toInt8.toInt32) := by
      exact hB hc684_2
    have pre11 : Go p e below (T0.setTop (mkF m 682 Ls [])) (T0.setTop (mkF m 721 Ls [(.int j), (.ref a39)])) := by
      intro t k
      refine pre9 t ?_
      show Steps p.tables e below (T0.setTop (mkF m 714 Ls [(.int ((yy).toInt8.toInt32)), (.int (ft (j).toNatClampNeg))])) _
      refine XS.icmpNo X0.here hx rfl (hb hby at_714) rfl (XT.ii_ne_f hc714_10) ?_
      show Steps p.tables e below (T0.setTop (mkF m 717 Ls [])) _
      refine XS.aload X0.here hx rfl (hb hby at_717) hl39 rfl ?_
      show Steps p.tables e below (T0.setTop (mkF m 719 Ls [(.ref a39)])) _
      refine XS.iload X0.here hx rfl (hb hby at_719) hl17 ?_
      show Steps p.tables e below (T0.setTop (mkF m 721 Ls [(.int j), (.ref a39)])) _
      exact k
    obtain ⟨_, _, ⟨T12, L12, k12, n12⟩, -, X12, ⟨Lc12, hQ12, l12, y12, z12⟩, st12⟩ := Jvm.LawKit.callS X0 hx (y := (⟨"com/example/lanescan/lanescan/DistributionMergePinLaw", "carryAt", "([JI)J"⟩ : MethodName)) hown (mvT hZ (hw _ (List.mem_of_getElem? (i := 10) rfl))) (mvT hZ (hw _ (List.mem_of_getElem? (i := 11) rfl))) (mvT hZ (hw _ (List.mem_of_getElem? (i := 12) rfl))) (mvT hZ (hw _ (List.mem_of_getElem? (i := 13) rfl))) (by decide) (backOf (W := 0) (rm3_r l Z a0 hw [] a39 j k39 fR h0 n0 Z0 LR (hj hc684_2)) hZ (hw _ (List.mem_of_getElem? (i := 13) rfl)) (hw _ (List.mem_of_getElem? (i := 12) rfl)) (by decide) (by decide)) (g := (mkF m 721 Ls [(.int j), (.ref a39)])) rfl (by rw [hml]; exact hsz) (argsL := [(.ref a39), (.int j)]) (rest := []) (lenOf pd_3 rfl) rfl (by show 2 * 0 + _ ≤ _; exact Nat.le_of_eq rfl) (hb hby at_721) (fun _ _ => ⟨rfl, e0, (by decide : 5 + 0 ≤ _), (by decide : 9995 + 0 ≤ _)⟩)
    dsimp only [Pt.U, Pt.locs, Pt.cells, Pt.slots] at X12 l12 y12 z12 st12 hQ12
    subst l12 y12 z12
    obtain ⟨rfl, N12q, hh12⟩ := hQ12
    have N12 := Fr.app N0 N12q
    have pre13 : Go p e below (T0.setTop (mkF m 682 Ls [])) (T12.setTop (mkF m 724 Ls [(.long (fcar j fR))])) := fun t k => pre11 t (st12 t k)
    have pre14 : Go p e below (T0.setTop (mkF m 682 Ls [])) (T12.setTop (mkF m 730 Ls [(.int (XT.cmpL (fcar j fR) (vm + kk)))])) := by
      intro t k
      refine pre13 t ?_
      show Steps p.tables e below (T12.setTop (mkF m 724 Ls [(.long (fcar j fR))])) _
      refine XT.lload X12.here hx rfl (hb hby at_724) hl35 ?_
      show Steps p.tables e below (T12.setTop (mkF m 726 Ls [(.long vm), (.long (fcar j fR))])) _
      refine XT.lload X12.here hx rfl (hb hby at_726) hl42 ?_
      show Steps p.tables e below (T12.setTop (mkF m 728 Ls [(.long kk), (.long vm), (.long (fcar j fR))])) _
      refine XS.ladd X12.here hx rfl (hb hby at_728) rfl ?_
      show Steps p.tables e below (T12.setTop (mkF m 729 Ls [(.long (vm + kk)), (.long (fcar j fR))])) _
      refine XT.lcmp X12.here hx rfl (hb hby at_729) rfl ?_
      show Steps p.tables e below (T12.setTop (mkF m 730 Ls [(.int (XT.cmpL (fcar j fR) (vm + kk)))])) _
      exact k
    have hc730_15 : (fcar j fR) = (vm + kk) := by
      exact hC hc684_2
    have pre16 : Go p e below (T0.setTop (mkF m 682 Ls [])) (T12.setTop (mkF m 740 Ls [])) := by
      intro t k
      refine pre14 t ?_
      show Steps p.tables e below (T12.setTop (mkF m 730 Ls [(.int (XT.cmpL (fcar j fR) (vm + kk)))])) _
      refine XS.ifNo X12.here hx rfl (hb hby at_730) rfl (XT.ll_ne_f hc730_15) ?_
      show Steps p.tables e below (T12.setTop (mkF m 733 Ls [])) _
      refine XS.iconst X12.here hx rfl (hb hby at_733) ?_
      show Steps p.tables e below (T12.setTop (mkF m 734 Ls [(.int (1 : Int32))])) _
      refine XS.goto X12.here hx rfl (pc0 := 734) (pc' := 738) rfl (hb hby at_734) (by decide) (by decide) ?_
      show Steps p.tables e below (T12.setTop (mkF m 738 Ls [(.int (1 : Int32))])) _
      refine XS.istore X12.here hx rfl (hb hby at_738) rfl (l' := Ls) hst ?_
      show Steps p.tables e below (T12.setTop (mkF m 740 Ls [])) _
      exact k
    exact ⟨T12, _, X12, hh12, N12, pre16⟩
set_option maxRecDepth 65536 in
set_option maxHeartbeats 40000000 in
theorem chk2n {p : Program} {l : Launch} {e : Env} {s : State} {m : MethodId} {args : Array Value} {below : List Frame} {meth : Method} {c : Code} {T0 : State} {locs : List Loc} {Z : State} {a0 : Array Value} {h0 : Heap} {n0 : Nat}  {Ls : Array Slot} {bm bt : Addr} {km kt : ClassId} {j xx yy fl mn : Int32} {fm ft : Nat → Int32}
    (X0 : Stand p l e room_1 s m args below meth c T0 locs 5 9995) (hx : p.tables.exec = Jvm.exec) (hZ : Z.Warmed39 s.vm) (hw : ∀ d ∈ tables_1, d.before a0 Z = true) (hby : c.code = code) (hml : c.maxLocals = 46) (hown : s.vm.findClass "com/example/lanescan/lanescan/DistributionMergePinLaw" = some m.cls) (e0 : T0.heap = h0) (N0 : Fr n0 locs) (Z0 : n0 ≤ h0.size) (hl12 : Ls[12]? = some (.val (.ref bm))) (hl13 : Ls[13]? = some (.val (.ref bt))) (hl39 : Ls[39]? = some (.val .null)) (hl21 : Ls[21]? = some (.val (.int j))) (hl27 : Ls[27]? = some (.val (.int xx))) (hl28 : Ls[28]? = some (.val (.int yy))) (hl45 : Ls[45]? = some (.val (.int (1 : Int32)))) (hl8 : Ls[8]? = some (.val (.int mn))) (hl19 : Ls[19]? = some (.val (.int fl))) (hsz : Ls.size = 46) (hst : storeLocals Ls 45 (.int (1 : Int32)) = some Ls) (Hbm : BA Z h0 bm km fm) (Hbt : BA Z h0 bt kt ft) (hj : ¬ fl = 0 → ¬ j < 0 ∧ j < (1999 : Int32)) (hA : ¬ fl = 0 → fm (j).toNatClampNeg = xx.toInt8.toInt32) (hB : ¬ fl = 0 → ft (j).toNatClampNeg = yy.toInt8.toInt32) (hC : ¬ fl = 0 → fcan = (if mn = (0 : Int32) then (5 : Int64) else (0 : Int64))) :
    ∃ (T' : State) (locs' : List Loc), Stand p l e room_1 s m args below meth c T' locs' 5 9995 ∧ T'.heap = h0 ∧ Fr n0 locs' ∧ Go p e below (T0.setTop (mkF m 740 Ls [])) (T'.setTop (mkF m 802 Ls [])) := by
  have pre0 : Go p e below (T0.setTop (mkF m 740 Ls [])) (T0.setTop (mkF m 740 Ls [])) := fun t k => k
  have pre1 : Go p e below (T0.setTop (mkF m 740 Ls [])) (T0.setTop (mkF m 742 Ls [(.int fl)])) := by
    intro t k
    refine pre0 t ?_
    show Steps p.tables e below (T0.setTop (mkF m 740 Ls [])) _
    refine XS.iload X0.here hx rfl (hb hby at_740) hl19 ?_
    show Steps p.tables e below (T0.setTop (mkF m 742 Ls [(.int fl)])) _
    exact k
  by_cases hc742_2 : fl = (0 : Int32)
  · skip
    have pre3 : Go p e below (T0.setTop (mkF m 740 Ls [])) (T0.setTop (mkF m 802 Ls [])) := by
      intro t k
      refine pre1 t ?_
      show Steps p.tables e below (T0.setTop (mkF m 742 Ls [(.int fl)])) _
      refine XS.ifYes X0.here hx rfl (pc0 := 742) (pc' := 802) rfl (hb hby at_742) rfl (XT.i0_eq_t hc742_2) (by decide) (by decide) ?_
      show Steps p.tables e below (T0.setTop (mkF m 802 Ls [])) _
      exact k
    exact ⟨T0, _, X0, e0, N0, pre3⟩
  · skip
    have pre4 : Go p e below (T0.setTop (mkF m 740 Ls [])) (T0.setTop (mkF m 747 Ls [(.int (1 : Int32))])) := by
      intro t k
      refine pre1 t ?_
      show Steps p.tables e below (T0.setTop (mkF m 742 Ls [(.int fl)])) _
      refine XS.ifNo X0.here hx rfl (hb hby at_742) rfl (XT.i0_eq_f hc742_2) ?_
      show Steps p.tables e below (T0.setTop (mkF m 745 Ls [])) _
      refine XS.iload X0.here hx rfl (hb hby at_745) hl45 ?_
      show Steps p.tables e below (T0.setTop (mkF m 747 Ls [(.int (1 : Int32))])) _
      exact k
    obtain ⟨cl5, Ar5, SS5, NN5, HH5⟩ := Hbm.cell
    have hj5 : ¬ j < 0 ∧ j < (1999 : Int32) := hj hc742_2
    have hat5 : cl5.slots[(j).toNatClampNeg]? = some (.int (fm (j).toNatClampNeg)) := (HH5 _ (own_lt hj5)).trans (congrArg some rfl)
    have pre6 : Go p e below (T0.setTop (mkF m 740 Ls [])) (T0.setTop (mkF m 758 Ls [(.int ((xx).toInt8.toInt32)), (.int (fm (j).toNatClampNeg))])) := by
      intro t k
      refine pre4 t ?_
      show Steps p.tables e below (T0.setTop (mkF m 747 Ls [(.int (1 : Int32))])) _
      refine XS.ifNo X0.here hx rfl (hb hby at_747) rfl (XT.i0_eq_f (by decide : ¬ ((1 : Int32) = (0 : Int32)))) ?_
      show Steps p.tables e below (T0.setTop (mkF m 750 Ls [])) _
      refine XS.aload X0.here hx rfl (hb hby at_750) hl12 rfl ?_
      show Steps p.tables e below (T0.setTop (mkF m 752 Ls [(.ref bm)])) _
      refine XS.iload X0.here hx rfl (hb hby at_752) hl21 ?_
      show Steps p.tables e below (T0.setTop (mkF m 754 Ls [(.int j), (.ref bm)])) _
      refine X0.baloadBytes hx (j := j) (v := (.int (fm (j).toNatClampNeg))) (by rw [e0]; exact Ar5.1) (State.isArrayOf_alike hZ.alike Ar5.2.1) Ar5.2.2 (inb_of SS5 hj5) hat5 (g := (mkF m 754 Ls [(.int j), (.ref bm)])) rfl rfl (hb hby at_754) _ ?_
      show Steps p.tables e below (T0.setTop (mkF m 755 Ls [(.int (fm (j).toNatClampNeg))])) _
      refine XS.iload X0.here hx rfl (hb hby at_755) hl27 ?_
      show Steps p.tables e below (T0.setTop (mkF m 757 Ls [(.int xx), (.int (fm (j).toNatClampNeg))])) _
      refine XS.i2b X0.here hx rfl (hb hby at_757) rfl ?_
      show Steps p.tables e below (T0.setTop (mkF m 758 Ls [(.int ((xx).toInt8.toInt32)), (.int (fm (j).toNatClampNeg))])) _
      exact k
    have hc758_7 : (fm (j).toNatClampNeg) = ((xx).toInt8.toInt32) := by
      exact hA hc742_2
    obtain ⟨cl8, Ar8, SS8, NN8, HH8⟩ := Hbt.cell
    have hj8 : ¬ j < 0 ∧ j < (1999 : Int32) := hj hc742_2
    have hat8 : cl8.slots[(j).toNatClampNeg]? = some (.int (ft (j).toNatClampNeg)) := (HH8 _ (own_lt hj8)).trans (congrArg some rfl)
    have pre9 : Go p e below (T0.setTop (mkF m 740 Ls [])) (T0.setTop (mkF m 769 Ls [(.int ((yy).toInt8.toInt32)), (.int (ft (j).toNatClampNeg))])) := by
      intro t k
      refine pre6 t ?_
      show Steps p.tables e below (T0.setTop (mkF m 758 Ls [(.int ((xx).toInt8.toInt32)), (.int (fm (j).toNatClampNeg))])) _
      refine XS.icmpNo X0.here hx rfl (hb hby at_758) rfl (XT.ii_ne_f hc758_7) ?_
      show Steps p.tables e below (T0.setTop (mkF m 761 Ls [])) _
      refine XS.aload X0.here hx rfl (hb hby at_761) hl13 rfl ?_
      show Steps p.tables e below (T0.setTop (mkF m 763 Ls [(.ref bt)])) _
      refine XS.iload X0.here hx rfl (hb hby at_763) hl21 ?_
      show Steps p.tables e below (T0.setTop (mkF m 765 Ls [(.int j), (.ref bt)])) _
      refine X0.baloadBytes hx (j := j) (v := (.int (ft (j).toNatClampNeg))) (by rw [e0]; exact Ar8.1) (State.isArrayOf_alike hZ.alike Ar8.2.1) Ar8.2.2 (inb_of SS8 hj8) hat8 (g := (mkF m 765 Ls [(.int j), (.ref bt)])) rfl rfl (hb hby at_765) _ ?_
      show Steps p.tables e below (T0.setTop (mkF m 766 Ls [(.int (ft (j).toNatClampNeg))])) _
      refine XS.iload X0.here hx rfl (hb hby at_766) hl28 ?_
      show Steps p.tables e below (T0.setTop (mkF m 768 Ls [(.int yy), (.int (ft (j).toNatClampNeg))])) _
      refine XS.i2b X0.here hx rfl (hb hby at_768) rfl ?_
      show Steps p.tables e below (T0.setTop (mkF m 769 Ls [(.int ((yy).toInt8.toInt32)), (.int (ft (j).toNatClampNeg))])) _
      exact k
    have hc769_10 : (ft (j).toNatClampNeg) = ((yy).toInt8.toInt32) := by
      exact hB hc742_2
    have pre11 : Go p e below (T0.setTop (mkF m 740 Ls [])) (T0.setTop (mkF m 776 Ls [(.int j), .null])) := by
      intro t k
      refine pre9 t ?_
      show Steps p.tables e below (T0.setTop (mkF m 769 Ls [(.int ((yy).toInt8.toInt32)), (.int (ft (j).toNatClampNeg))])) _
      refine XS.icmpNo X0.here hx rfl (hb hby at_769) rfl (XT.ii_ne_f hc769_10) ?_
      show Steps p.tables e below (T0.setTop (mkF m 772 Ls [])) _
      refine XS.aload X0.here hx rfl (hb hby at_772) hl39 rfl ?_
      show Steps p.tables e below (T0.setTop (mkF m 774 Ls [.null])) _
      refine XS.iload X0.here hx rfl (hb hby at_774) hl21 ?_
      show Steps p.tables e below (T0.setTop (mkF m 776 Ls [(.int j), .null])) _
      exact k
    obtain ⟨_, _, ⟨T12, L12, k12, n12⟩, -, X12, ⟨Lc12, hQ12, l12, y12, z12⟩, st12⟩ := Jvm.LawKit.callS X0 hx (y := (⟨"com/example/lanescan/lanescan/DistributionMergePinLaw", "carryAt", "([JI)J"⟩ : MethodName)) hown (mvT hZ (hw _ (List.mem_of_getElem? (i := 10) rfl))) (mvT hZ (hw _ (List.mem_of_getElem? (i := 11) rfl))) (mvT hZ (hw _ (List.mem_of_getElem? (i := 12) rfl))) (mvT hZ (hw _ (List.mem_of_getElem? (i := 13) rfl))) (by decide) (backOf (W := 0) (rm3_n l Z a0 hw [] j  h0 n0 Z0 ) hZ (hw _ (List.mem_of_getElem? (i := 13) rfl)) (hw _ (List.mem_of_getElem? (i := 12) rfl)) (by decide) (by decide)) (g := (mkF m 776 Ls [(.int j), .null])) rfl (by rw [hml]; exact hsz) (argsL := [.null, (.int j)]) (rest := []) (lenOf pd_3 rfl) rfl (by show 2 * 0 + _ ≤ _; exact Nat.le_of_eq rfl) (hb hby at_776) (fun _ _ => ⟨rfl, e0, (by decide : 5 + 0 ≤ _), (by decide : 9995 + 0 ≤ _)⟩)
    dsimp only [Pt.U, Pt.locs, Pt.cells, Pt.slots] at X12 l12 y12 z12 st12 hQ12
    subst l12 y12 z12
    obtain ⟨rfl, N12q, hh12⟩ := hQ12
    have N12 := Fr.app N0 N12q
    have pre13 : Go p e below (T0.setTop (mkF m 740 Ls [])) (T12.setTop (mkF m 779 Ls [(.long fcan)])) := fun t k => pre11 t (st12 t k)
    have pre14 : Go p e below (T0.setTop (mkF m 740 Ls [])) (T12.setTop (mkF m 781 Ls [(.int mn), (.long fcan)])) := by
      intro t k
      refine pre13 t ?_
      show Steps p.tables e below (T12.setTop (mkF m 779 Ls [(.long fcan)])) _
      refine XS.iload X12.here hx rfl (hb hby at_779) hl8 ?_
      show Steps p.tables e below (T12.setTop (mkF m 781 Ls [(.int mn), (.long fcan)])) _
      exact k
    obtain ⟨cst, h_cst⟩ : ∃ z : Int64, z = (if mn = (0 : Int32) then (5 : Int64) else (0 : Int64)) := ⟨_, rfl⟩
    have pre16 : Go p e below (T0.setTop (mkF m 740 Ls [])) (T12.setTop (mkF m 791 Ls [(.long cst), (.long fcan)])) := by
      intro t k
      refine pre14 t ?_
      show Steps p.tables e below (T12.setTop (mkF m 781 Ls [(.int mn), (.long fcan)])) _
      by_cases hc781_15 : mn = (0 : Int32)
      · skip
        refine XS.ifYes X12.here hx rfl (pc0 := 781) (pc' := 788) rfl (hb hby at_781) rfl (XT.i0_eq_t hc781_15) (by decide) (by decide) ?_
        show Steps p.tables e below (T12.setTop (mkF m 788 Ls [(.long fcan)])) _
        refine X12.ldc2J hx hown (mvT hZ (hw _ (List.mem_of_getElem? (i := 17) rfl))) (g := (mkF m 788 Ls [(.long fcan)])) rfl (hb hby at_788) ?_
        show Steps p.tables e below (T12.setTop (mkF m 791 Ls [(.long (5 : Int64)), (.long fcan)])) _
        rw [show cst = (5 : Int64) from by rw [h_cst]; rw [if_pos hc781_15]] at k
        exact k
      · skip
        refine XS.ifNo X12.here hx rfl (hb hby at_781) rfl (XT.i0_eq_f hc781_15) ?_
        show Steps p.tables e below (T12.setTop (mkF m 784 Ls [(.long fcan)])) _
        refine XT.lconstV X12.here hx rfl (0 : Int64) (hb hby at_784) rfl ?_
        show Steps p.tables e below (T12.setTop (mkF m 785 Ls [(.long (0 : Int64)), (.long fcan)])) _
        refine XS.goto X12.here hx rfl (pc0 := 785) (pc' := 791) rfl (hb hby at_785) (by decide) (by decide) ?_
        show Steps p.tables e below (T12.setTop (mkF m 791 Ls [(.long (0 : Int64)), (.long fcan)])) _
        rw [show cst = (0 : Int64) from by rw [h_cst]; rw [if_neg hc781_15]] at k
        exact k
    have pre17 : Go p e below (T0.setTop (mkF m 740 Ls [])) (T12.setTop (mkF m 792 Ls [(.int (XT.cmpL fcan cst))])) := by
      intro t k
      refine pre16 t ?_
      show Steps p.tables e below (T12.setTop (mkF m 791 Ls [(.long cst), (.long fcan)])) _
      refine XT.lcmp X12.here hx rfl (hb hby at_791) rfl ?_
      show Steps p.tables e below (T12.setTop (mkF m 792 Ls [(.int (XT.cmpL fcan cst))])) _
      exact k
    have hc792_18 : fcan = cst := by
      rw [h_cst]; exact hC hc742_2
    have pre19 : Go p e below (T0.setTop (mkF m 740 Ls [])) (T12.setTop (mkF m 802 Ls [])) := by
      intro t k
      refine pre17 t ?_
      show Steps p.tables e below (T12.setTop (mkF m 792 Ls [(.int (XT.cmpL fcan cst))])) _
      refine XS.ifNo X12.here hx rfl (hb hby at_792) rfl (XT.ll_ne_f hc792_18) ?_
      show Steps p.tables e below (T12.setTop (mkF m 795 Ls [])) _
      refine XS.iconst X12.here hx rfl (hb hby at_795) ?_
      show Steps p.tables e below (T12.setTop (mkF m 796 Ls [(.int (1 : Int32))])) _
      refine XS.goto X12.here hx rfl (pc0 := 796) (pc' := 800) rfl (hb hby at_796) (by decide) (by decide) ?_
      show Steps p.tables e below (T12.setTop (mkF m 800 Ls [(.int (1 : Int32))])) _
      refine XS.istore X12.here hx rfl (hb hby at_800) rfl (l' := Ls) hst ?_
      show Steps p.tables e below (T12.setTop (mkF m 802 Ls [])) _
      exact k
    exact ⟨T12, _, X12, hh12, N12, pre19⟩
set_option maxRecDepth 65536 in
set_option maxHeartbeats 40000000 in
theorem chk2r {p : Program} {l : Launch} {e : Env} {s : State} {m : MethodId} {args : Array Value} {below : List Frame} {meth : Method} {c : Code} {T0 : State} {locs : List Loc} {Z : State} {a0 : Array Value} {h0 : Heap} {n0 : Nat}  {Ls : Array Slot} {bm bt a39 : Addr} {km kt k39 : ClassId} {j xx yy fl mn : Int32} {fm ft : Nat → Int32} {fR : Nat → Int64}
    (X0 : Stand p l e room_1 s m args below meth c T0 locs 5 9995) (hx : p.tables.exec = Jvm.exec) (hZ : Z.Warmed39 s.vm) (hw : ∀ d ∈ tables_1, d.before a0 Z = true) (hby : c.code = code) (hml : c.maxLocals = 46) (hown : s.vm.findClass "com/example/lanescan/lanescan/DistributionMergePinLaw" = some m.cls) (e0 : T0.heap = h0) (N0 : Fr n0 locs) (Z0 : n0 ≤ h0.size) (hl12 : Ls[12]? = some (.val (.ref bm))) (hl13 : Ls[13]? = some (.val (.ref bt))) (hl39 : Ls[39]? = some (.val (.ref a39))) (hl21 : Ls[21]? = some (.val (.int j))) (hl27 : Ls[27]? = some (.val (.int xx))) (hl28 : Ls[28]? = some (.val (.int yy))) (hl45 : Ls[45]? = some (.val (.int (1 : Int32)))) (hl8 : Ls[8]? = some (.val (.int mn))) (hl19 : Ls[19]? = some (.val (.int fl))) (hsz : Ls.size = 46) (hst : storeLocals Ls 45 (.int (1 : Int32)) = some Ls) (Hbm : BA Z h0 bm km fm) (Hbt : BA Z h0 bt kt ft) (LR : LA Z h0 a39 k39 fR) (hj : ¬ fl = 0 → ¬ j < 0 ∧ j < (1999 : Int32)) (hA : ¬ fl = 0 → fm (j).toNatClampNeg = xx.toInt8.toInt32) (hB : ¬ fl = 0 → ft (j).toNatClampNeg = yy.toInt8.toInt32) (hC : ¬ fl = 0 → fcar j fR = (if mn = (0 : Int32) then (5 : Int64) else (0 : Int64))) :
    ∃ (T' : State) (locs' : List Loc), Stand p l e room_1 s m args below meth c T' locs' 5 9995 ∧ T'.heap = h0 ∧ Fr n0 locs' ∧ Go p e below (T0.setTop (mkF m 740 Ls [])) (T'.setTop (mkF m 802 Ls [])) := by
  have pre0 : Go p e below (T0.setTop (mkF m 740 Ls [])) (T0.setTop (mkF m 740 Ls [])) := fun t k => k
  have pre1 : Go p e below (T0.setTop (mkF m 740 Ls [])) (T0.setTop (mkF m 742 Ls [(.int fl)])) := by
    intro t k
    refine pre0 t ?_
    show Steps p.tables e below (T0.setTop (mkF m 740 Ls [])) _
    refine XS.iload X0.here hx rfl (hb hby at_740) hl19 ?_
    show Steps p.tables e below (T0.setTop (mkF m 742 Ls [(.int fl)])) _
    exact k
  by_cases hc742_2 : fl = (0 : Int32)
  · skip
    have pre3 : Go p e below (T0.setTop (mkF m 740 Ls [])) (T0.setTop (mkF m 802 Ls [])) := by
      intro t k
      refine pre1 t ?_
      show Steps p.tables e below (T0.setTop (mkF m 742 Ls [(.int fl)])) _
      refine XS.ifYes X0.here hx rfl (pc0 := 742) (pc' := 802) rfl (hb hby at_742) rfl (XT.i0_eq_t hc742_2) (by decide) (by decide) ?_
      show Steps p.tables e below (T0.setTop (mkF m 802 Ls [])) _
      exact k
    exact ⟨T0, _, X0, e0, N0, pre3⟩
  · skip
    have pre4 : Go p e below (T0.setTop (mkF m 740 Ls [])) (T0.setTop (mkF m 747 Ls [(.int (1 : Int32))])) := by
      intro t k
      refine pre1 t ?_
      show Steps p.tables e below (T0.setTop (mkF m 742 Ls [(.int fl)])) _
      refine XS.ifNo X0.here hx rfl (hb hby at_742) rfl (XT.i0_eq_f hc742_2) ?_
      show Steps p.tables e below (T0.setTop (mkF m 745 Ls [])) _
      refine XS.iload X0.here hx rfl (hb hby at_745) hl45 ?_
      show Steps p.tables e below (T0.setTop (mkF m 747 Ls [(.int (1 : Int32))])) _
      exact k
    obtain ⟨cl5, Ar5, SS5, NN5, HH5⟩ := Hbm.cell
    have hj5 : ¬ j < 0 ∧ j < (1999 : Int32) := hj hc742_2
    have hat5 : cl5.slots[(j).toNatClampNeg]? = some (.int (fm (j).toNatClampNeg)) := (HH5 _ (own_lt hj5)).trans (congrArg some rfl)
    have pre6 : Go p e below (T0.setTop (mkF m 740 Ls [])) (T0.setTop (mkF m 758 Ls [(.int ((xx).toInt8.toInt32)), (.int (fm (j).toNatClampNeg))])) := by
      intro t k
      refine pre4 t ?_
      show Steps p.tables e below (T0.setTop (mkF m 747 Ls [(.int (1 : Int32))])) _
      refine XS.ifNo X0.here hx rfl (hb hby at_747) rfl (XT.i0_eq_f (by decide : ¬ ((1 : Int32) = (0 : Int32)))) ?_
      show Steps p.tables e below (T0.setTop (mkF m 750 Ls [])) _
      refine XS.aload X0.here hx rfl (hb hby at_750) hl12 rfl ?_
      show Steps p.tables e below (T0.setTop (mkF m 752 Ls [(.ref bm)])) _
      refine XS.iload X0.here hx rfl (hb hby at_752) hl21 ?_
      show Steps p.tables e below (T0.setTop (mkF m 754 Ls [(.int j), (.ref bm)])) _
      refine X0.baloadBytes hx (j := j) (v := (.int (fm (j).toNatClampNeg))) (by rw [e0]; exact Ar5.1) (State.isArrayOf_alike hZ.alike Ar5.2.1) Ar5.2.2 (inb_of SS5 hj5) hat5 (g := (mkF m 754 Ls [(.int j), (.ref bm)])) rfl rfl (hb hby at_754) _ ?_
      show Steps p.tables e below (T0.setTop (mkF m 755 Ls [(.int (fm (j).toNatClampNeg))])) _
      refine XS.iload X0.here hx rfl (hb hby at_755) hl27 ?_
      show Steps p.tables e below (T0.setTop (mkF m 757 Ls [(.int xx), (.int (fm (j).toNatClampNeg))])) _
      refine XS.i2b X0.here hx rfl (hb hby at_757) rfl ?_
      show Steps p.tables e below (T0.setTop (mkF m 758 Ls [(.int ((xx).toInt8.toInt32)), (.int (fm (j).toNatClampNeg))])) _
      exact k
    have hc758_7 : (fm (j).toNatClampNeg) = ((xx).toInt8.toInt32) := by
      exact hA hc742_2
    obtain ⟨cl8, Ar8, SS8, NN8, HH8⟩ := Hbt.cell
    have hj8 : ¬ j < 0 ∧ j < (1999 : Int32) := hj hc742_2
    have hat8 : cl8.slots[(j).toNatClampNeg]? = some (.int (ft (j).toNatClampNeg)) := (HH8 _ (own_lt hj8)).trans (congrArg some rfl)
    have pre9 : Go p e below (T0.setTop (mkF m 740 Ls [])) (T0.setTop (mkF m 769 Ls [(.int ((yy).toInt8.toInt32)), (.int (ft (j).toNatClampNeg))])) := by
      intro t k
      refine pre6 t ?_
      show Steps p.tables e below (T0.setTop (mkF m 758 Ls [(.int ((xx).toInt8.toInt32)), (.int (fm (j).toNatClampNeg))])) _
      refine XS.icmpNo X0.here hx rfl (hb hby at_758) rfl (XT.ii_ne_f hc758_7) ?_
      show Steps p.tables e below (T0.setTop (mkF m 761 Ls [])) _
      refine XS.aload X0.here hx rfl (hb hby at_761) hl13 rfl ?_
      show Steps p.tables e below (T0.setTop (mkF m 763 Ls [(.ref bt)])) _
      refine XS.iload X0.here hx rfl (hb hby at_763) hl21 ?_
      show Steps p.tables e below (T0.setTop (mkF m 765 Ls [(.int j), (.ref bt)])) _
      refine X0.baloadBytes hx (j := j) (v := (.int (ft (j).toNatClampNeg))) (by rw [e0]; exact Ar8.1) (State.isArrayOf_alike hZ.alike Ar8.2.1) Ar8.2.2 (inb_of SS8 hj8) hat8 (g := (mkF m 765 Ls [(.int j), (.ref bt)])) rfl rfl (hb hby at_765) _ ?_
      show Steps p.tables e below (T0.setTop (mkF m 766 Ls [(.int (ft (j).toNatClampNeg))])) _
      refine XS.iload X0.here hx rfl (hb hby at_766) hl28 ?_
      show Steps p.tables e below (T0.setTop (mkF m 768 Ls [(.int yy), (.int (ft (j).toNatClampNeg))])) _
      refine XS.i2b X0.here hx rfl (hb hby at_768) rfl ?_
      show Steps p.tables e below (T0.setTop (mkF m 769 Ls [(.int ((yy).toInt8.toInt32)), (.int (ft (j).toNatClampNeg))])) _
      exact k
    have hc769_10 : (ft (j).toNatClampNeg) = ((yy).toInt8.toInt32) := by
      exact hB hc742_2
    have pre11 : Go p e below (T0.setTop (mkF m 740 Ls [])) (T0.setTop (mkF m 776 Ls [(.int j), (.ref a39)])) := by
      intro t k
      refine pre9 t ?_
      show Steps p.tables e below (T0.setTop (mkF m 769 Ls [(.int ((yy).toInt8.toInt32)), (.int (ft (j).toNatClampNeg))])) _
      refine XS.icmpNo X0.here hx rfl (hb hby at_769) rfl (XT.ii_ne_f hc769_10) ?_
      show Steps p.tables e below (T0.setTop (mkF m 772 Ls [])) _
      refine XS.aload X0.here hx rfl (hb hby at_772) hl39 rfl ?_
      show Steps p.tables e below (T0.setTop (mkF m 774 Ls [(.ref a39)])) _
      refine XS.iload X0.here hx rfl (hb hby at_774) hl21 ?_
      show Steps p.tables e below (T0.setTop (mkF m 776 Ls [(.int j), (.ref a39)])) _
      exact k
    obtain ⟨_, _, ⟨T12, L12, k12, n12⟩, -, X12, ⟨Lc12, hQ12, l12, y12, z12⟩, st12⟩ := Jvm.LawKit.callS X0 hx (y := (⟨"com/example/lanescan/lanescan/DistributionMergePinLaw", "carryAt", "([JI)J"⟩ : MethodName)) hown (mvT hZ (hw _ (List.mem_of_getElem? (i := 10) rfl))) (mvT hZ (hw _ (List.mem_of_getElem? (i := 11) rfl))) (mvT hZ (hw _ (List.mem_of_getElem? (i := 12) rfl))) (mvT hZ (hw _ (List.mem_of_getElem? (i := 13) rfl))) (by decide) (backOf (W := 0) (rm3_r l Z a0 hw [] a39 j k39 fR h0 n0 Z0 LR (hj hc742_2)) hZ (hw _ (List.mem_of_getElem? (i := 13) rfl)) (hw _ (List.mem_of_getElem? (i := 12) rfl)) (by decide) (by decide)) (g := (mkF m 776 Ls [(.int j), (.ref a39)])) rfl (by rw [hml]; exact hsz) (argsL := [(.ref a39), (.int j)]) (rest := []) (lenOf pd_3 rfl) rfl (by show 2 * 0 + _ ≤ _; exact Nat.le_of_eq rfl) (hb hby at_776) (fun _ _ => ⟨rfl, e0, (by decide : 5 + 0 ≤ _), (by decide : 9995 + 0 ≤ _)⟩)
    dsimp only [Pt.U, Pt.locs, Pt.cells, Pt.slots] at X12 l12 y12 z12 st12 hQ12
    subst l12 y12 z12
    obtain ⟨rfl, N12q, hh12⟩ := hQ12
    have N12 := Fr.app N0 N12q
    have pre13 : Go p e below (T0.setTop (mkF m 740 Ls [])) (T12.setTop (mkF m 779 Ls [(.long (fcar j fR))])) := fun t k => pre11 t (st12 t k)
    have pre14 : Go p e below (T0.setTop (mkF m 740 Ls [])) (T12.setTop (mkF m 781 Ls [(.int mn), (.long (fcar j fR))])) := by
      intro t k
      refine pre13 t ?_
      show Steps p.tables e below (T12.setTop (mkF m 779 Ls [(.long (fcar j fR))])) _
      refine XS.iload X12.here hx rfl (hb hby at_779) hl8 ?_
      show Steps p.tables e below (T12.setTop (mkF m 781 Ls [(.int mn), (.long (fcar j fR))])) _
      exact k
    obtain ⟨cst, h_cst⟩ : ∃ z : Int64, z = (if mn = (0 : Int32) then (5 : Int64) else (0 : Int64)) := ⟨_, rfl⟩
    have pre16 : Go p e below (T0.setTop (mkF m 740 Ls [])) (T12.setTop (mkF m 791 Ls [(.long cst), (.long (fcar j fR))])) := by
      intro t k
      refine pre14 t ?_
      show Steps p.tables e below (T12.setTop (mkF m 781 Ls [(.int mn), (.long (fcar j fR))])) _
      by_cases hc781_15 : mn = (0 : Int32)
      · skip
        refine XS.ifYes X12.here hx rfl (pc0 := 781) (pc' := 788) rfl (hb hby at_781) rfl (XT.i0_eq_t hc781_15) (by decide) (by decide) ?_
        show Steps p.tables e below (T12.setTop (mkF m 788 Ls [(.long (fcar j fR))])) _
        refine X12.ldc2J hx hown (mvT hZ (hw _ (List.mem_of_getElem? (i := 17) rfl))) (g := (mkF m 788 Ls [(.long (fcar j fR))])) rfl (hb hby at_788) ?_
        show Steps p.tables e below (T12.setTop (mkF m 791 Ls [(.long (5 : Int64)), (.long (fcar j fR))])) _
        rw [show cst = (5 : Int64) from by rw [h_cst]; rw [if_pos hc781_15]] at k
        exact k
      · skip
        refine XS.ifNo X12.here hx rfl (hb hby at_781) rfl (XT.i0_eq_f hc781_15) ?_
        show Steps p.tables e below (T12.setTop (mkF m 784 Ls [(.long (fcar j fR))])) _
        refine XT.lconstV X12.here hx rfl (0 : Int64) (hb hby at_784) rfl ?_
        show Steps p.tables e below (T12.setTop (mkF m 785 Ls [(.long (0 : Int64)), (.long (fcar j fR))])) _
        refine XS.goto X12.here hx rfl (pc0 := 785) (pc' := 791) rfl (hb hby at_785) (by decide) (by decide) ?_
        show Steps p.tables e below (T12.setTop (mkF m 791 Ls [(.long (0 : Int64)), (.long (fcar j fR))])) _
        rw [show cst = (0 : Int64) from by rw [h_cst]; rw [if_neg hc781_15]] at k
        exact k
    have pre17 : Go p e below (T0.setTop (mkF m 740 Ls [])) (T12.setTop (mkF m 792 Ls [(.int (XT.cmpL (fcar j fR) cst))])) := by
      intro t k
      refine pre16 t ?_
      show Steps p.tables e below (T12.setTop (mkF m 791 Ls [(.long cst), (.long (fcar j fR))])) _
      refine XT.lcmp X12.here hx rfl (hb hby at_791) rfl ?_
      show Steps p.tables e below (T12.setTop (mkF m 792 Ls [(.int (XT.cmpL (fcar j fR) cst))])) _
      exact k
    have hc792_18 : (fcar j fR) = cst := by
      rw [h_cst]; exact hC hc742_2
    have pre19 : Go p e below (T0.setTop (mkF m 740 Ls [])) (T12.setTop (mkF m 802 Ls [])) := by
      intro t k
      refine pre17 t ?_
      show Steps p.tables e below (T12.setTop (mkF m 792 Ls [(.int (XT.cmpL (fcar j fR) cst))])) _
      refine XS.ifNo X12.here hx rfl (hb hby at_792) rfl (XT.ll_ne_f hc792_18) ?_
      show Steps p.tables e below (T12.setTop (mkF m 795 Ls [])) _
      refine XS.iconst X12.here hx rfl (hb hby at_795) ?_
      show Steps p.tables e below (T12.setTop (mkF m 796 Ls [(.int (1 : Int32))])) _
      refine XS.goto X12.here hx rfl (pc0 := 796) (pc' := 800) rfl (hb hby at_796) (by decide) (by decide) ?_
      show Steps p.tables e below (T12.setTop (mkF m 800 Ls [(.int (1 : Int32))])) _
      refine XS.istore X12.here hx rfl (hb hby at_800) rfl (l' := Ls) hst ?_
      show Steps p.tables e below (T12.setTop (mkF m 802 Ls [])) _
      exact k
    exact ⟨T12, _, X12, hh12, N12, pre19⟩
set_option maxRecDepth 65536 in
set_option maxHeartbeats 40000000 in
theorem chk3n {p : Program} {l : Launch} {e : Env} {s : State} {m : MethodId} {args : Array Value} {below : List Frame} {meth : Method} {c : Code} {T0 : State} {locs : List Loc} {Z : State} {a0 : Array Value} {h0 : Heap} {n0 : Nat}  {Ls : Array Slot} {bm bt : Addr} {km kt : ClassId} {j xx yy fl mn : Int32} {fm ft : Nat → Int32}
    (X0 : Stand p l e room_1 s m args below meth c T0 locs 5 9995) (hx : p.tables.exec = Jvm.exec) (hZ : Z.Warmed39 s.vm) (hw : ∀ d ∈ tables_1, d.before a0 Z = true) (hby : c.code = code) (hml : c.maxLocals = 46) (hown : s.vm.findClass "com/example/lanescan/lanescan/DistributionMergePinLaw" = some m.cls) (e0 : T0.heap = h0) (N0 : Fr n0 locs) (Z0 : n0 ≤ h0.size) (hl12 : Ls[12]? = some (.val (.ref bm))) (hl13 : Ls[13]? = some (.val (.ref bt))) (hl39 : Ls[39]? = some (.val .null)) (hl22 : Ls[22]? = some (.val (.int j))) (hl29 : Ls[29]? = some (.val (.int xx))) (hl30 : Ls[30]? = some (.val (.int yy))) (hl45 : Ls[45]? = some (.val (.int (1 : Int32)))) (hl8 : Ls[8]? = some (.val (.int mn))) (hl20 : Ls[20]? = some (.val (.int fl))) (hsz : Ls.size = 46) (hst : storeLocals Ls 45 (.int (1 : Int32)) = some Ls) (Hbm : BA Z h0 bm km fm) (Hbt : BA Z h0 bt kt ft) (hj : ¬ fl = 0 → ¬ j < 0 ∧ j < (1999 : Int32)) (hA : ¬ fl = 0 → fm (j).toNatClampNeg = xx.toInt8.toInt32) (hB : ¬ fl = 0 → ft (j).toNatClampNeg = yy.toInt8.toInt32) (hC : ¬ fl = 0 → fcan = (if mn = (0 : Int32) then (5 : Int64) else (0 : Int64))) :
    ∃ (T' : State) (locs' : List Loc), Stand p l e room_1 s m args below meth c T' locs' 5 9995 ∧ T'.heap = h0 ∧ Fr n0 locs' ∧ Go p e below (T0.setTop (mkF m 802 Ls [])) (T'.setTop (mkF m 864 Ls [])) := by
  have pre0 : Go p e below (T0.setTop (mkF m 802 Ls [])) (T0.setTop (mkF m 802 Ls [])) := fun t k => k
  have pre1 : Go p e below (T0.setTop (mkF m 802 Ls [])) (T0.setTop (mkF m 804 Ls [(.int fl)])) := by
    intro t k
    refine pre0 t ?_
    show Steps p.tables e below (T0.setTop (mkF m 802 Ls [])) _
    refine XS.iload X0.here hx rfl (hb hby at_802) hl20 ?_
    show Steps p.tables e below (T0.setTop (mkF m 804 Ls [(.int fl)])) _
    exact k
  by_cases hc804_2 : fl = (0 : Int32)
  · skip
    have pre3 : Go p e below (T0.setTop (mkF m 802 Ls [])) (T0.setTop (mkF m 864 Ls [])) := by
      intro t k
      refine pre1 t ?_
      show Steps p.tables e below (T0.setTop (mkF m 804 Ls [(.int fl)])) _
      refine XS.ifYes X0.here hx rfl (pc0 := 804) (pc' := 864) rfl (hb hby at_804) rfl (XT.i0_eq_t hc804_2) (by decide) (by decide) ?_
      show Steps p.tables e below (T0.setTop (mkF m 864 Ls [])) _
      exact k
    exact ⟨T0, _, X0, e0, N0, pre3⟩
  · skip
    have pre4 : Go p e below (T0.setTop (mkF m 802 Ls [])) (T0.setTop (mkF m 809 Ls [(.int (1 : Int32))])) := by
      intro t k
      refine pre1 t ?_
      show Steps p.tables e below (T0.setTop (mkF m 804 Ls [(.int fl)])) _
      refine XS.ifNo X0.here hx rfl (hb hby at_804) rfl (XT.i0_eq_f hc804_2) ?_
      show Steps p.tables e below (T0.setTop (mkF m 807 Ls [])) _
      refine XS.iload X0.here hx rfl (hb hby at_807) hl45 ?_
      show Steps p.tables e below (T0.setTop (mkF m 809 Ls [(.int (1 : Int32))])) _
      exact k
    obtain ⟨cl5, Ar5, SS5, NN5, HH5⟩ := Hbm.cell
    have hj5 : ¬ j < 0 ∧ j < (1999 : Int32) := hj hc804_2
    have hat5 : cl5.slots[(j).toNatClampNeg]? = some (.int (fm (j).toNatClampNeg)) := (HH5 _ (own_lt hj5)).trans (congrArg some rfl)
    have pre6 : Go p e below (T0.setTop (mkF m 802 Ls [])) (T0.setTop (mkF m 820 Ls [(.int ((xx).toInt8.toInt32)), (.int (fm (j).toNatClampNeg))])) := by
      intro t k
      refine pre4 t ?_
      show Steps p.tables e below (T0.setTop (mkF m 809 Ls [(.int (1 : Int32))])) _
      refine XS.ifNo X0.here hx rfl (hb hby at_809) rfl (XT.i0_eq_f (by decide : ¬ ((1 : Int32) = (0 : Int32)))) ?_
      show Steps p.tables e below (T0.setTop (mkF m 812 Ls [])) _
      refine XS.aload X0.here hx rfl (hb hby at_812) hl12 rfl ?_
      show Steps p.tables e below (T0.setTop (mkF m 814 Ls [(.ref bm)])) _
      refine XS.iload X0.here hx rfl (hb hby at_814) hl22 ?_
      show Steps p.tables e below (T0.setTop (mkF m 816 Ls [(.int j), (.ref bm)])) _
      refine X0.baloadBytes hx (j := j) (v := (.int (fm (j).toNatClampNeg))) (by rw [e0]; exact Ar5.1) (State.isArrayOf_alike hZ.alike Ar5.2.1) Ar5.2.2 (inb_of SS5 hj5) hat5 (g := (mkF m 816 Ls [(.int j), (.ref bm)])) rfl rfl (hb hby at_816) _ ?_
      show Steps p.tables e below (T0.setTop (mkF m 817 Ls [(.int (fm (j).toNatClampNeg))])) _
      refine XS.iload X0.here hx rfl (hb hby at_817) hl29 ?_
      show Steps p.tables e below (T0.setTop (mkF m 819 Ls [(.int xx), (.int (fm (j).toNatClampNeg))])) _
      refine XS.i2b X0.here hx rfl (hb hby at_819) rfl ?_
      show Steps p.tables e below (T0.setTop (mkF m 820 Ls [(.int ((xx).toInt8.toInt32)), (.int (fm (j).toNatClampNeg))])) _
      exact k
    have hc820_7 : (fm (j).toNatClampNeg) = ((xx).toInt8.toInt32) := by
      exact hA hc804_2
    obtain ⟨cl8, Ar8, SS8, NN8, HH8⟩ := Hbt.cell
    have hj8 : ¬ j < 0 ∧ j < (1999 : Int32) := hj hc804_2
    have hat8 : cl8.slots[(j).toNatClampNeg]? = some (.int (ft (j).toNatClampNeg)) := (HH8 _ (own_lt hj8)).trans (congrArg some rfl)
    have pre9 : Go p e below (T0.setTop (mkF m 802 Ls [])) (T0.setTop (mkF m 831 Ls [(.int ((yy).toInt8.toInt32)), (.int (ft (j).toNatClampNeg))])) := by
      intro t k
      refine pre6 t ?_
      show Steps p.tables e below (T0.setTop (mkF m 820 Ls [(.int ((xx).toInt8.toInt32)), (.int (fm (j).toNatClampNeg))])) _
      refine XS.icmpNo X0.here hx rfl (hb hby at_820) rfl (XT.ii_ne_f hc820_7) ?_
      show Steps p.tables e below (T0.setTop (mkF m 823 Ls [])) _
      refine XS.aload X0.here hx rfl (hb hby at_823) hl13 rfl ?_
      show Steps p.tables e below (T0.setTop (mkF m 825 Ls [(.ref bt)])) _
      refine XS.iload X0.here hx rfl (hb hby at_825) hl22 ?_
      show Steps p.tables e below (T0.setTop (mkF m 827 Ls [(.int j), (.ref bt)])) _
      refine X0.baloadBytes hx (j := j) (v := (.int (ft (j).toNatClampNeg))) (by rw [e0]; exact Ar8.1) (State.isArrayOf_alike hZ.alike Ar8.2.1) Ar8.2.2 (inb_of SS8 hj8) hat8 (g := (mkF m 827 Ls [(.int j), (.ref bt)])) rfl rfl (hb hby at_827) _ ?_
      show Steps p.tables e below (T0.setTop (mkF m 828 Ls [(.int (ft (j).toNatClampNeg))])) _
      refine XS.iload X0.here hx rfl (hb hby at_828) hl30 ?_
      show Steps p.tables e below (T0.setTop (mkF m 830 Ls [(.int yy), (.int (ft (j).toNatClampNeg))])) _
      refine XS.i2b X0.here hx rfl (hb hby at_830) rfl ?_
      show Steps p.tables e below (T0.setTop (mkF m 831 Ls [(.int ((yy).toInt8.toInt32)), (.int (ft (j).toNatClampNeg))])) _
      exact k
    have hc831_10 : (ft (j).toNatClampNeg) = ((yy).toInt8.toInt32) := by
      exact hB hc804_2
    have pre11 : Go p e below (T0.setTop (mkF m 802 Ls [])) (T0.setTop (mkF m 838 Ls [(.int j), .null])) := by
      intro t k
      refine pre9 t ?_
      show Steps p.tables e below (T0.setTop (mkF m 831 Ls [(.int ((yy).toInt8.toInt32)), (.int (ft (j).toNatClampNeg))])) _
      refine XS.icmpNo X0.here hx rfl (hb hby at_831) rfl (XT.ii_ne_f hc831_10) ?_
      show Steps p.tables e below (T0.setTop (mkF m 834 Ls [])) _
      refine XS.aload X0.here hx rfl (hb hby at_834) hl39 rfl ?_
      show Steps p.tables e below (T0.setTop (mkF m 836 Ls [.null])) _
      refine XS.iload X0.here hx rfl (hb hby at_836) hl22 ?_
      show Steps p.tables e below (T0.setTop (mkF m 838 Ls [(.int j), .null])) _
      exact k
    obtain ⟨_, _, ⟨T12, L12, k12, n12⟩, -, X12, ⟨Lc12, hQ12, l12, y12, z12⟩, st12⟩ := Jvm.LawKit.callS X0 hx (y := (⟨"com/example/lanescan/lanescan/DistributionMergePinLaw", "carryAt", "([JI)J"⟩ : MethodName)) hown (mvT hZ (hw _ (List.mem_of_getElem? (i := 10) rfl))) (mvT hZ (hw _ (List.mem_of_getElem? (i := 11) rfl))) (mvT hZ (hw _ (List.mem_of_getElem? (i := 12) rfl))) (mvT hZ (hw _ (List.mem_of_getElem? (i := 13) rfl))) (by decide) (backOf (W := 0) (rm3_n l Z a0 hw [] j  h0 n0 Z0 ) hZ (hw _ (List.mem_of_getElem? (i := 13) rfl)) (hw _ (List.mem_of_getElem? (i := 12) rfl)) (by decide) (by decide)) (g := (mkF m 838 Ls [(.int j), .null])) rfl (by rw [hml]; exact hsz) (argsL := [.null, (.int j)]) (rest := []) (lenOf pd_3 rfl) rfl (by show 2 * 0 + _ ≤ _; exact Nat.le_of_eq rfl) (hb hby at_838) (fun _ _ => ⟨rfl, e0, (by decide : 5 + 0 ≤ _), (by decide : 9995 + 0 ≤ _)⟩)
    dsimp only [Pt.U, Pt.locs, Pt.cells, Pt.slots] at X12 l12 y12 z12 st12 hQ12
    subst l12 y12 z12
    obtain ⟨rfl, N12q, hh12⟩ := hQ12
    have N12 := Fr.app N0 N12q
    have pre13 : Go p e below (T0.setTop (mkF m 802 Ls [])) (T12.setTop (mkF m 841 Ls [(.long fcan)])) := fun t k => pre11 t (st12 t k)
    have pre14 : Go p e below (T0.setTop (mkF m 802 Ls [])) (T12.setTop (mkF m 843 Ls [(.int mn), (.long fcan)])) := by
      intro t k
      refine pre13 t ?_
      show Steps p.tables e below (T12.setTop (mkF m 841 Ls [(.long fcan)])) _
      refine XS.iload X12.here hx rfl (hb hby at_841) hl8 ?_
      show Steps p.tables e below (T12.setTop (mkF m 843 Ls [(.int mn), (.long fcan)])) _
      exact k
    obtain ⟨cst, h_cst⟩ : ∃ z : Int64, z = (if mn = (0 : Int32) then (5 : Int64) else (0 : Int64)) := ⟨_, rfl⟩
    have pre16 : Go p e below (T0.setTop (mkF m 802 Ls [])) (T12.setTop (mkF m 853 Ls [(.long cst), (.long fcan)])) := by
      intro t k
      refine pre14 t ?_
      show Steps p.tables e below (T12.setTop (mkF m 843 Ls [(.int mn), (.long fcan)])) _
      by_cases hc843_15 : mn = (0 : Int32)
      · skip
        refine XS.ifYes X12.here hx rfl (pc0 := 843) (pc' := 850) rfl (hb hby at_843) rfl (XT.i0_eq_t hc843_15) (by decide) (by decide) ?_
        show Steps p.tables e below (T12.setTop (mkF m 850 Ls [(.long fcan)])) _
        refine X12.ldc2J hx hown (mvT hZ (hw _ (List.mem_of_getElem? (i := 17) rfl))) (g := (mkF m 850 Ls [(.long fcan)])) rfl (hb hby at_850) ?_
        show Steps p.tables e below (T12.setTop (mkF m 853 Ls [(.long (5 : Int64)), (.long fcan)])) _
        rw [show cst = (5 : Int64) from by rw [h_cst]; rw [if_pos hc843_15]] at k
        exact k
      · skip
        refine XS.ifNo X12.here hx rfl (hb hby at_843) rfl (XT.i0_eq_f hc843_15) ?_
        show Steps p.tables e below (T12.setTop (mkF m 846 Ls [(.long fcan)])) _
        refine XT.lconstV X12.here hx rfl (0 : Int64) (hb hby at_846) rfl ?_
        show Steps p.tables e below (T12.setTop (mkF m 847 Ls [(.long (0 : Int64)), (.long fcan)])) _
        refine XS.goto X12.here hx rfl (pc0 := 847) (pc' := 853) rfl (hb hby at_847) (by decide) (by decide) ?_
        show Steps p.tables e below (T12.setTop (mkF m 853 Ls [(.long (0 : Int64)), (.long fcan)])) _
        rw [show cst = (0 : Int64) from by rw [h_cst]; rw [if_neg hc843_15]] at k
        exact k
    have pre17 : Go p e below (T0.setTop (mkF m 802 Ls [])) (T12.setTop (mkF m 854 Ls [(.int (XT.cmpL fcan cst))])) := by
      intro t k
      refine pre16 t ?_
      show Steps p.tables e below (T12.setTop (mkF m 853 Ls [(.long cst), (.long fcan)])) _
      refine XT.lcmp X12.here hx rfl (hb hby at_853) rfl ?_
      show Steps p.tables e below (T12.setTop (mkF m 854 Ls [(.int (XT.cmpL fcan cst))])) _
      exact k
    have hc854_18 : fcan = cst := by
      rw [h_cst]; exact hC hc804_2
    have pre19 : Go p e below (T0.setTop (mkF m 802 Ls [])) (T12.setTop (mkF m 864 Ls [])) := by
      intro t k
      refine pre17 t ?_
      show Steps p.tables e below (T12.setTop (mkF m 854 Ls [(.int (XT.cmpL fcan cst))])) _
      refine XS.ifNo X12.here hx rfl (hb hby at_854) rfl (XT.ll_ne_f hc854_18) ?_
      show Steps p.tables e below (T12.setTop (mkF m 857 Ls [])) _
      refine XS.iconst X12.here hx rfl (hb hby at_857) ?_
      show Steps p.tables e below (T12.setTop (mkF m 858 Ls [(.int (1 : Int32))])) _
      refine XS.goto X12.here hx rfl (pc0 := 858) (pc' := 862) rfl (hb hby at_858) (by decide) (by decide) ?_
      show Steps p.tables e below (T12.setTop (mkF m 862 Ls [(.int (1 : Int32))])) _
      refine XS.istore X12.here hx rfl (hb hby at_862) rfl (l' := Ls) hst ?_
      show Steps p.tables e below (T12.setTop (mkF m 864 Ls [])) _
      exact k
    exact ⟨T12, _, X12, hh12, N12, pre19⟩
set_option maxRecDepth 65536 in
set_option maxHeartbeats 40000000 in
theorem chk3r {p : Program} {l : Launch} {e : Env} {s : State} {m : MethodId} {args : Array Value} {below : List Frame} {meth : Method} {c : Code} {T0 : State} {locs : List Loc} {Z : State} {a0 : Array Value} {h0 : Heap} {n0 : Nat}  {Ls : Array Slot} {bm bt a39 : Addr} {km kt k39 : ClassId} {j xx yy fl mn : Int32} {fm ft : Nat → Int32} {fR : Nat → Int64}
    (X0 : Stand p l e room_1 s m args below meth c T0 locs 5 9995) (hx : p.tables.exec = Jvm.exec) (hZ : Z.Warmed39 s.vm) (hw : ∀ d ∈ tables_1, d.before a0 Z = true) (hby : c.code = code) (hml : c.maxLocals = 46) (hown : s.vm.findClass "com/example/lanescan/lanescan/DistributionMergePinLaw" = some m.cls) (e0 : T0.heap = h0) (N0 : Fr n0 locs) (Z0 : n0 ≤ h0.size) (hl12 : Ls[12]? = some (.val (.ref bm))) (hl13 : Ls[13]? = some (.val (.ref bt))) (hl39 : Ls[39]? = some (.val (.ref a39))) (hl22 : Ls[22]? = some (.val (.int j))) (hl29 : Ls[29]? = some (.val (.int xx))) (hl30 : Ls[30]? = some (.val (.int yy))) (hl45 : Ls[45]? = some (.val (.int (1 : Int32)))) (hl8 : Ls[8]? = some (.val (.int mn))) (hl20 : Ls[20]? = some (.val (.int fl))) (hsz : Ls.size = 46) (hst : storeLocals Ls 45 (.int (1 : Int32)) = some Ls) (Hbm : BA Z h0 bm km fm) (Hbt : BA Z h0 bt kt ft) (LR : LA Z h0 a39 k39 fR) (hj : ¬ fl = 0 → ¬ j < 0 ∧ j < (1999 : Int32)) (hA : ¬ fl = 0 → fm (j).toNatClampNeg = xx.toInt8.toInt32) (hB : ¬ fl = 0 → ft (j).toNatClampNeg = yy.toInt8.toInt32) (hC : ¬ fl = 0 → fcar j fR = (if mn = (0 : Int32) then (5 : Int64) else (0 : Int64))) :
    ∃ (T' : State) (locs' : List Loc), Stand p l e room_1 s m args below meth c T' locs' 5 9995 ∧ T'.heap = h0 ∧ Fr n0 locs' ∧ Go p e below (T0.setTop (mkF m 802 Ls [])) (T'.setTop (mkF m 864 Ls [])) := by
  have pre0 : Go p e below (T0.setTop (mkF m 802 Ls [])) (T0.setTop (mkF m 802 Ls [])) := fun t k => k
  have pre1 : Go p e below (T0.setTop (mkF m 802 Ls [])) (T0.setTop (mkF m 804 Ls [(.int fl)])) := by
    intro t k
    refine pre0 t ?_
    show Steps p.tables e below (T0.setTop (mkF m 802 Ls [])) _
    refine XS.iload X0.here hx rfl (hb hby at_802) hl20 ?_
    show Steps p.tables e below (T0.setTop (mkF m 804 Ls [(.int fl)])) _
    exact k
  by_cases hc804_2 : fl = (0 : Int32)
  · skip
    have pre3 : Go p e below (T0.setTop (mkF m 802 Ls [])) (T0.setTop (mkF m 864 Ls [])) := by
      intro t k
      refine pre1 t ?_
      show Steps p.tables e below (T0.setTop (mkF m 804 Ls [(.int fl)])) _
      refine XS.ifYes X0.here hx rfl (pc0 := 804) (pc' := 864) rfl (hb hby at_804) rfl (XT.i0_eq_t hc804_2) (by decide) (by decide) ?_
      show Steps p.tables e below (T0.setTop (mkF m 864 Ls [])) _
      exact k
    exact ⟨T0, _, X0, e0, N0, pre3⟩
  · skip
    have pre4 : Go p e below (T0.setTop (mkF m 802 Ls [])) (T0.setTop (mkF m 809 Ls [(.int (1 : Int32))])) := by
      intro t k
      refine pre1 t ?_
      show Steps p.tables e below (T0.setTop (mkF m 804 Ls [(.int fl)])) _
      refine XS.ifNo X0.here hx rfl (hb hby at_804) rfl (XT.i0_eq_f hc804_2) ?_
      show Steps p.tables e below (T0.setTop (mkF m 807 Ls [])) _
      refine XS.iload X0.here hx rfl (hb hby at_807) hl45 ?_
      show Steps p.tables e below (T0.setTop (mkF m 809 Ls [(.int (1 : Int32))])) _
      exact k
    obtain ⟨cl5, Ar5, SS5, NN5, HH5⟩ := Hbm.cell
    have hj5 : ¬ j < 0 ∧ j < (1999 : Int32) := hj hc804_2
    have hat5 : cl5.slots[(j).toNatClampNeg]? = some (.int (fm (j).toNatClampNeg)) := (HH5 _ (own_lt hj5)).trans (congrArg some rfl)
    have pre6 : Go p e below (T0.setTop (mkF m 802 Ls [])) (T0.setTop (mkF m 820 Ls [(.int ((xx).toInt8.toInt32)), (.int (fm (j).toNatClampNeg))])) := by
      intro t k
      refine pre4 t ?_
      show Steps p.tables e below (T0.setTop (mkF m 809 Ls [(.int (1 : Int32))])) _
      refine XS.ifNo X0.here hx rfl (hb hby at_809) rfl (XT.i0_eq_f (by decide : ¬ ((1 : Int32) = (0 : Int32)))) ?_
      show Steps p.tables e below (T0.setTop (mkF m 812 Ls [])) _
      refine XS.aload X0.here hx rfl (hb hby at_812) hl12 rfl ?_
      show Steps p.tables e below (T0.setTop (mkF m 814 Ls [(.ref bm)])) _
      refine XS.iload X0.here hx rfl (hb hby at_814) hl22 ?_
      show Steps p.tables e below (T0.setTop (mkF m 816 Ls [(.int j), (.ref bm)])) _
      refine X0.baloadBytes hx (j := j) (v := (.int (fm (j).toNatClampNeg))) (by rw [e0]; exact Ar5.1) (State.isArrayOf_alike hZ.alike Ar5.2.1) Ar5.2.2 (inb_of SS5 hj5) hat5 (g := (mkF m 816 Ls [(.int j), (.ref bm)])) rfl rfl (hb hby at_816) _ ?_
      show Steps p.tables e below (T0.setTop (mkF m 817 Ls [(.int (fm (j).toNatClampNeg))])) _
      refine XS.iload X0.here hx rfl (hb hby at_817) hl29 ?_
      show Steps p.tables e below (T0.setTop (mkF m 819 Ls [(.int xx), (.int (fm (j).toNatClampNeg))])) _
      refine XS.i2b X0.here hx rfl (hb hby at_819) rfl ?_
      show Steps p.tables e below (T0.setTop (mkF m 820 Ls [(.int ((xx).toInt8.toInt32)), (.int (fm (j).toNatClampNeg))])) _
      exact k
    have hc820_7 : (fm (j).toNatClampNeg) = ((xx).toInt8.toInt32) := by
      exact hA hc804_2
    obtain ⟨cl8, Ar8, SS8, NN8, HH8⟩ := Hbt.cell
    have hj8 : ¬ j < 0 ∧ j < (1999 : Int32) := hj hc804_2
    have hat8 : cl8.slots[(j).toNatClampNeg]? = some (.int (ft (j).toNatClampNeg)) := (HH8 _ (own_lt hj8)).trans (congrArg some rfl)
    have pre9 : Go p e below (T0.setTop (mkF m 802 Ls [])) (T0.setTop (mkF m 831 Ls [(.int ((yy).toInt8.toInt32)), (.int (ft (j).toNatClampNeg))])) := by
      intro t k
      refine pre6 t ?_
      show Steps p.tables e below (T0.setTop (mkF m 820 Ls [(.int ((xx).toInt8.toInt32)), (.int (fm (j).toNatClampNeg))])) _
      refine XS.icmpNo X0.here hx rfl (hb hby at_820) rfl (XT.ii_ne_f hc820_7) ?_
      show Steps p.tables e below (T0.setTop (mkF m 823 Ls [])) _
      refine XS.aload X0.here hx rfl (hb hby at_823) hl13 rfl ?_
      show Steps p.tables e below (T0.setTop (mkF m 825 Ls [(.ref bt)])) _
      refine XS.iload X0.here hx rfl (hb hby at_825) hl22 ?_
      show Steps p.tables e below (T0.setTop (mkF m 827 Ls [(.int j), (.ref bt)])) _
      refine X0.baloadBytes hx (j := j) (v := (.int (ft (j).toNatClampNeg))) (by rw [e0]; exact Ar8.1) (State.isArrayOf_alike hZ.alike Ar8.2.1) Ar8.2.2 (inb_of SS8 hj8) hat8 (g := (mkF m 827 Ls [(.int j), (.ref bt)])) rfl rfl (hb hby at_827) _ ?_
      show Steps p.tables e below (T0.setTop (mkF m 828 Ls [(.int (ft (j).toNatClampNeg))])) _
      refine XS.iload X0.here hx rfl (hb hby at_828) hl30 ?_
      show Steps p.tables e below (T0.setTop (mkF m 830 Ls [(.int yy), (.int (ft (j).toNatClampNeg))])) _
      refine XS.i2b X0.here hx rfl (hb hby at_830) rfl ?_
      show Steps p.tables e below (T0.setTop (mkF m 831 Ls [(.int ((yy).toInt8.toInt32)), (.int (ft (j).toNatClampNeg))])) _
      exact k
    have hc831_10 : (ft (j).toNatClampNeg) = ((yy).toInt8.toInt32) := by
      exact hB hc804_2
    have pre11 : Go p e below (T0.setTop (mkF m 802 Ls [])) (T0.setTop (mkF m 838 Ls [(.int j), (.ref a39)])) := by
      intro t k
      refine pre9 t ?_
      show Steps p.tables e below (T0.setTop (mkF m 831 Ls [(.int ((yy).toInt8.toInt32)), (.int (ft (j).toNatClampNeg))])) _
      refine XS.icmpNo X0.here hx rfl (hb hby at_831) rfl (XT.ii_ne_f hc831_10) ?_
      show Steps p.tables e below (T0.setTop (mkF m 834 Ls [])) _
      refine XS.aload X0.here hx rfl (hb hby at_834) hl39 rfl ?_
      show Steps p.tables e below (T0.setTop (mkF m 836 Ls [(.ref a39)])) _
      refine XS.iload X0.here hx rfl (hb hby at_836) hl22 ?_
      show Steps p.tables e below (T0.setTop (mkF m 838 Ls [(.int j), (.ref a39)])) _
      exact k
    obtain ⟨_, _, ⟨T12, L12, k12, n12⟩, -, X12, ⟨Lc12, hQ12, l12, y12, z12⟩, st12⟩ := Jvm.LawKit.callS X0 hx (y := (⟨"com/example/lanescan/lanescan/DistributionMergePinLaw", "carryAt", "([JI)J"⟩ : MethodName)) hown (mvT hZ (hw _ (List.mem_of_getElem? (i := 10) rfl))) (mvT hZ (hw _ (List.mem_of_getElem? (i := 11) rfl))) (mvT hZ (hw _ (List.mem_of_getElem? (i := 12) rfl))) (mvT hZ (hw _ (List.mem_of_getElem? (i := 13) rfl))) (by decide) (backOf (W := 0) (rm3_r l Z a0 hw [] a39 j k39 fR h0 n0 Z0 LR (hj hc804_2)) hZ (hw _ (List.mem_of_getElem? (i := 13) rfl)) (hw _ (List.mem_of_getElem? (i := 12) rfl)) (by decide) (by decide)) (g := (mkF m 838 Ls [(.int j), (.ref a39)])) rfl (by rw [hml]; exact hsz) (argsL := [(.ref a39), (.int j)]) (rest := []) (lenOf pd_3 rfl) rfl (by show 2 * 0 + _ ≤ _; exact Nat.le_of_eq rfl) (hb hby at_838) (fun _ _ => ⟨rfl, e0, (by decide : 5 + 0 ≤ _), (by decide : 9995 + 0 ≤ _)⟩)
    dsimp only [Pt.U, Pt.locs, Pt.cells, Pt.slots] at X12 l12 y12 z12 st12 hQ12
    subst l12 y12 z12
    obtain ⟨rfl, N12q, hh12⟩ := hQ12
    have N12 := Fr.app N0 N12q
    have pre13 : Go p e below (T0.setTop (mkF m 802 Ls [])) (T12.setTop (mkF m 841 Ls [(.long (fcar j fR))])) := fun t k => pre11 t (st12 t k)
    have pre14 : Go p e below (T0.setTop (mkF m 802 Ls [])) (T12.setTop (mkF m 843 Ls [(.int mn), (.long (fcar j fR))])) := by
      intro t k
      refine pre13 t ?_
      show Steps p.tables e below (T12.setTop (mkF m 841 Ls [(.long (fcar j fR))])) _
      refine XS.iload X12.here hx rfl (hb hby at_841) hl8 ?_
      show Steps p.tables e below (T12.setTop (mkF m 843 Ls [(.int mn), (.long (fcar j fR))])) _
      exact k
    obtain ⟨cst, h_cst⟩ : ∃ z : Int64, z = (if mn = (0 : Int32) then (5 : Int64) else (0 : Int64)) := ⟨_, rfl⟩
    have pre16 : Go p e below (T0.setTop (mkF m 802 Ls [])) (T12.setTop (mkF m 853 Ls [(.long cst), (.long (fcar j fR))])) := by
      intro t k
      refine pre14 t ?_
      show Steps p.tables e below (T12.setTop (mkF m 843 Ls [(.int mn), (.long (fcar j fR))])) _
      by_cases hc843_15 : mn = (0 : Int32)
      · skip
        refine XS.ifYes X12.here hx rfl (pc0 := 843) (pc' := 850) rfl (hb hby at_843) rfl (XT.i0_eq_t hc843_15) (by decide) (by decide) ?_
        show Steps p.tables e below (T12.setTop (mkF m 850 Ls [(.long (fcar j fR))])) _
        refine X12.ldc2J hx hown (mvT hZ (hw _ (List.mem_of_getElem? (i := 17) rfl))) (g := (mkF m 850 Ls [(.long (fcar j fR))])) rfl (hb hby at_850) ?_
        show Steps p.tables e below (T12.setTop (mkF m 853 Ls [(.long (5 : Int64)), (.long (fcar j fR))])) _
        rw [show cst = (5 : Int64) from by rw [h_cst]; rw [if_pos hc843_15]] at k
        exact k
      · skip
        refine XS.ifNo X12.here hx rfl (hb hby at_843) rfl (XT.i0_eq_f hc843_15) ?_
        show Steps p.tables e below (T12.setTop (mkF m 846 Ls [(.long (fcar j fR))])) _
        refine XT.lconstV X12.here hx rfl (0 : Int64) (hb hby at_846) rfl ?_
        show Steps p.tables e below (T12.setTop (mkF m 847 Ls [(.long (0 : Int64)), (.long (fcar j fR))])) _
        refine XS.goto X12.here hx rfl (pc0 := 847) (pc' := 853) rfl (hb hby at_847) (by decide) (by decide) ?_
        show Steps p.tables e below (T12.setTop (mkF m 853 Ls [(.long (0 : Int64)), (.long (fcar j fR))])) _
        rw [show cst = (0 : Int64) from by rw [h_cst]; rw [if_neg hc843_15]] at k
        exact k
    have pre17 : Go p e below (T0.setTop (mkF m 802 Ls [])) (T12.setTop (mkF m 854 Ls [(.int (XT.cmpL (fcar j fR) cst))])) := by
      intro t k
      refine pre16 t ?_
      show Steps p.tables e below (T12.setTop (mkF m 853 Ls [(.long cst), (.long (fcar j fR))])) _
      refine XT.lcmp X12.here hx rfl (hb hby at_853) rfl ?_
      show Steps p.tables e below (T12.setTop (mkF m 854 Ls [(.int (XT.cmpL (fcar j fR) cst))])) _
      exact k
    have hc854_18 : (fcar j fR) = cst := by
      rw [h_cst]; exact hC hc804_2
    have pre19 : Go p e below (T0.setTop (mkF m 802 Ls [])) (T12.setTop (mkF m 864 Ls [])) := by
      intro t k
      refine pre17 t ?_
      show Steps p.tables e below (T12.setTop (mkF m 854 Ls [(.int (XT.cmpL (fcar j fR) cst))])) _
      refine XS.ifNo X12.here hx rfl (hb hby at_854) rfl (XT.ll_ne_f hc854_18) ?_
      show Steps p.tables e below (T12.setTop (mkF m 857 Ls [])) _
      refine XS.iconst X12.here hx rfl (hb hby at_857) ?_
      show Steps p.tables e below (T12.setTop (mkF m 858 Ls [(.int (1 : Int32))])) _
      refine XS.goto X12.here hx rfl (pc0 := 858) (pc' := 862) rfl (hb hby at_858) (by decide) (by decide) ?_
      show Steps p.tables e below (T12.setTop (mkF m 862 Ls [(.int (1 : Int32))])) _
      refine XS.istore X12.here hx rfl (hb hby at_862) rfl (l' := Ls) hst ?_
      show Steps p.tables e below (T12.setTop (mkF m 864 Ls [])) _
      exact k
    exact ⟨T12, _, X12, hh12, N12, pre19⟩
theorem own_uhit {α : Type} {f : Nat → α} {j : Int32} {x : α} {i : Nat} (h : i = j.toNatClampNeg) : own_u f j x i = x := if_pos h
theorem own_umiss {α : Type} {f : Nat → α} {j : Int32} {x : α} {i : Nat} (h : ¬ i = j.toNatClampNeg) : own_u f j x i = f i := if_neg h
theorem own_cmiss {α : Type} {f : Nat → α} {fl j : Int32} {x : α} {i : Nat} (h : ¬ fl = 0 → ¬ i = j.toNatClampNeg) : own_c fl f j x i = f i := by
  by_cases hf : fl = 0
  · rw [own_sk hf]
  · rw [own_pk hf, own_umiss (h hf)]
theorem own_chit {α : Type} {f : Nat → α} {fl j : Int32} {x : α} {i : Nat} (hf : ¬ fl = 0) (h : i = j.toNatClampNeg) : own_c fl f j x i = x := by
  rw [own_pk hf, own_uhit h]
/-- the places of a merge: one or two neighbours, and what lies on both sides -/
def own_P (i0 i1 two hl hh lo hi : Int32) : Prop := (two = 0 → i1.toNatClampNeg = i0.toNatClampNeg) ∧ (¬ two = 0 → i1.toNatClampNeg = i0.toNatClampNeg + 1) ∧ (¬ hl = 0 → lo.toNatClampNeg + 1 = i0.toNatClampNeg) ∧ (¬ hh = 0 → hi.toNatClampNeg = i1.toNatClampNeg + 1)
theorem own_Ple {i0 i1 two hl hh lo hi : Int32} (P : own_P i0 i1 two hl hh lo hi) : i0.toNatClampNeg ≤ i1.toNatClampNeg := by
  by_cases q : two = 0
  · have := P.1 q; omega
  · have := P.2.1 q; omega
def own_F {α : Type} (z : Nat → α) (i0 i1 two hl hh lo hi : Int32) (a b c d : α) : Nat → α := own_c hh (own_c hl (own_c two (own_c (1 : Int32) z i0 a) i1 b) lo c) hi d
theorem own_F0 {α : Type} {z : Nat → α} {i0 i1 two hl hh lo hi : Int32} {a b c d : α} (P : own_P i0 i1 two hl hh lo hi) : own_F z i0 i1 two hl hh lo hi a b c d i0.toNatClampNeg = a := by
  have hle := own_Ple P
  obtain ⟨p1, p2, p3, p4⟩ := P
  unfold own_F
  rw [own_cmiss (fun h => by have := p4 h; omega), own_cmiss (fun h => by have := p3 h; omega), own_cmiss (fun h => by have := p2 h; omega), own_chit (by decide) rfl]
theorem own_F1 {α : Type} {z : Nat → α} {i0 i1 two hl hh lo hi : Int32} {a b c d : α} (P : own_P i0 i1 two hl hh lo hi) (h : ¬ two = 0) : own_F z i0 i1 two hl hh lo hi a b c d i1.toNatClampNeg = b := by
  obtain ⟨p1, p2, p3, p4⟩ := P
  have := p2 h
  unfold own_F
  rw [own_cmiss (fun h => by have := p4 h; omega), own_cmiss (fun h => by have := p3 h; omega), own_chit h rfl]
theorem own_F2 {α : Type} {z : Nat → α} {i0 i1 two hl hh lo hi : Int32} {a b c d : α} (P : own_P i0 i1 two hl hh lo hi) (h : ¬ hl = 0) : own_F z i0 i1 two hl hh lo hi a b c d lo.toNatClampNeg = c := by
  have hle := own_Ple P
  obtain ⟨p1, p2, p3, p4⟩ := P
  have := p3 h
  unfold own_F
  rw [own_cmiss (fun h => by have := p4 h; omega), own_chit h rfl]
theorem own_F3 {α : Type} {z : Nat → α} {i0 i1 two hl hh lo hi : Int32} {a b c d : α} (h : ¬ hh = 0) : own_F z i0 i1 two hl hh lo hi a b c d hi.toNatClampNeg = d := by
  unfold own_F; rw [own_chit h rfl]
theorem own_Fall {α : Type} {Q : α → Prop} {z : Nat → α} {i0 i1 two hl hh lo hi : Int32} {a b c d : α} (hz : ∀ i, Q (z i)) (ha : Q a) (hb : Q b) (hc : Q c) (hd : Q d) (i : Nat) : Q (own_F z i0 i1 two hl hh lo hi a b c d i) := by
  have st : ∀ (fl j : Int32) (x : α) (f : Nat → α), (∀ i, Q (f i)) → Q x → ∀ i, Q (own_c fl f j x i) := fun fl j x f hf hx i => by
    by_cases h : fl = 0
    · rw [own_sk h]; exact hf i
    · rw [own_pk h]; show Q (if i = j.toNatClampNeg then x else f i); split
      · exact hx
      · exact hf i
  exact st _ _ _ _ (st _ _ _ _ (st _ _ _ _ (st _ _ _ _ hz ha) hb) hc) hd i
theorem own_byte (x : Int32) : (x.toInt8.toInt32) &&& (255 : Int32) = x &&& (255 : Int32) := by
  apply Int32.toBitVec_inj.mp
  have e : (x.toInt8.toInt32 &&& (255 : Int32)).toBitVec = (x.toBitVec.signExtend 8).signExtend 32 &&& 255#32 := rfl
  have e2 : (x &&& (255 : Int32)).toBitVec = x.toBitVec &&& 255#32 := rfl
  rw [e, e2]
  apply BitVec.eq_of_getLsbD_eq
  intro i hi
  have h255 : (255#32).getLsbD i = decide (i < 8) := by
    have : ∀ j : Fin 32, (255#32).getLsbD j.val = decide (j.val < 8) := by decide
    exact this ⟨i, hi⟩
  rw [BitVec.getLsbD_and, BitVec.getLsbD_and, h255, BitVec.getLsbD_signExtend]
  by_cases h8 : i < 8
  · rw [if_pos h8, BitVec.getLsbD_signExtend, if_pos hi]; simp [h8, hi]
  · simp [h8]
theorem own_nar (x : Int32) : nar .byte (x.toInt8.toInt32) = x.toInt8.toInt32 := by
  have h := XT.narrow_b x
  exact Value.int.inj h
/-- x is a byte's number -/
theorem own_x {x z : Int32} (h : x = z &&& (255 : Int32)) : (nar .byte (x.toInt8.toInt32)) &&& (255 : Int32) = x := by
  rw [own_nar, own_byte, h, Int32.and_assoc]; rfl
section Law
variable {x0 y0 x1 y1 xl yl xh yh i0 i1 two hl hh lo hi j1 : Int32} {z : Nat → Int32}
abbrev own_B (x : Int32) : Int32 := nar .byte (x.toInt8.toInt32)
abbrev own_K (x y : Int32) (t : Int64) : Int64 := ((((x + y).toUInt32 >>> (((8 : Int32)) &&& 31).toUInt32).toInt32).toInt64) + t
theorem own_f1miss {fm ft : Nat → Int32} {i : Int32} {n : Nat} (h : ¬ n = i.toNatClampNeg) : own_f1 fm ft i n = fm n := own_umiss h
theorem own_r1miss {fm ft : Nat → Int32} {g f : Nat → Int64} {i : Int32} {n : Nat} (h : ¬ n = i.toNatClampNeg) : own_r1 fm ft g f i n = f n := own_umiss h
theorem own_fE_miss {tw : Int32} {fm ft : Nat → Int32} {i j : Int32} {n : Nat} (h : ¬ n = i.toNatClampNeg) (h2 : ¬ tw = 0 → ¬ n = j.toNatClampNeg) : own_fE tw fm ft i j n = fm n := by
  unfold own_fE; split
  · exact own_f1miss h
  · rename_i q; rw [own_f1miss (h2 q), own_f1miss h]
theorem own_rE_miss {tw : Int32} {fm ft : Nat → Int32} {g f : Nat → Int64} {i j : Int32} {n : Nat} (h : ¬ n = i.toNatClampNeg) (h2 : ¬ tw = 0 → ¬ n = j.toNatClampNeg) : own_rE tw fm ft g f i j n = f n := by
  unfold own_rE; split
  · exact own_r1miss h
  · rename_i q; rw [own_r1miss (h2 q), own_r1miss h]
theorem own_fE_0 {tw : Int32} {fm ft : Nat → Int32} {i j : Int32} (h2 : ¬ tw = 0 → ¬ i.toNatClampNeg = j.toNatClampNeg) : own_fE tw fm ft i j i.toNatClampNeg = own_w fm ft i := by
  unfold own_fE; split
  · exact own_uhit rfl
  · rename_i q; rw [own_f1miss (h2 q)]; exact own_uhit rfl
theorem own_rE_0 {tw : Int32} {fm ft : Nat → Int32} {g f : Nat → Int64} {i j : Int32} (h2 : ¬ tw = 0 → ¬ i.toNatClampNeg = j.toNatClampNeg) : own_rE tw fm ft g f i j i.toNatClampNeg = f i.toNatClampNeg + own_cy fm ft g i := by
  unfold own_rE; split
  · exact own_uhit rfl
  · rename_i q; rw [own_r1miss (h2 q)]; exact own_uhit rfl
theorem own_fE_1 {tw : Int32} {fm ft : Nat → Int32} {i j : Int32} (h : ¬ tw = 0) : own_fE tw fm ft i j j.toNatClampNeg = own_w (own_f1 fm ft i) ft j := by
  unfold own_fE; rw [if_neg h]; exact own_uhit rfl
theorem own_rE_1 {tw : Int32} {fm ft : Nat → Int32} {g f : Nat → Int64} {i j : Int32} (h : ¬ tw = 0) (hne : ¬ j.toNatClampNeg = i.toNatClampNeg) : own_rE tw fm ft g f i j j.toNatClampNeg = f j.toNatClampNeg + own_cy (own_f1 fm ft i) ft g j := by
  unfold own_rE; rw [if_neg h]
  show own_u _ j _ j.toNatClampNeg = _
  rw [own_uhit rfl, own_r1miss hne]
theorem own_w_eq {fm ft : Nat → Int32} {i s : Int32} (h : own_s fm ft i = s) : own_w fm ft i = s.toInt8.toInt32 := by
  unfold own_w; rw [h, own_nar]
end Law
abbrev own_G (i0 i1 two hl hh lo hi a b c d : Int32) : Nat → Int32 := own_F own_z32 i0 i1 two hl hh lo hi (own_B a) (own_B b) (own_B c) (own_B d)
section Law2
variable {i0 i1 two hl hh lo hi x0 x1 xl xh y0 y1 yl yh : Int32}
theorem own_sA (P : own_P i0 i1 two hl hh lo hi) (hx : ∃ u, x0 = u &&& (255 : Int32)) (hy : ∃ u, y0 = u &&& (255 : Int32)) : own_s (own_G i0 i1 two hl hh lo hi x0 x1 xl xh) (own_G i0 i1 two hl hh lo hi y0 y1 yl yh) i0 = x0 + y0 := by
  obtain ⟨u, hx⟩ := hx; obtain ⟨v, hy⟩ := hy
  unfold own_s own_G; rw [own_F0 P, own_F0 P, own_x hx, own_x hy]
theorem own_j1 (P : own_P i0 i1 two hl hh lo hi) (hj : (i0 + (1 : Int32)).toNatClampNeg = i0.toNatClampNeg + 1) (h : ¬ two = 0) : (i0 + (1 : Int32)).toNatClampNeg = i1.toNatClampNeg := by rw [hj, P.2.1 h]
theorem own_sB (P : own_P i0 i1 two hl hh lo hi) (hj : (i0 + (1 : Int32)).toNatClampNeg = i0.toNatClampNeg + 1) (h : ¬ two = 0) (hx : ∃ u, x1 = u &&& (255 : Int32)) (hy : ∃ u, y1 = u &&& (255 : Int32)) {ft' : Nat → Int32} :
    own_s (own_f1 (own_G i0 i1 two hl hh lo hi x0 x1 xl xh) ft' i0) (own_G i0 i1 two hl hh lo hi y0 y1 yl yh) (i0 + (1 : Int32)) = x1 + y1 := by
  obtain ⟨u, hx⟩ := hx; obtain ⟨v, hy⟩ := hy
  unfold own_s; rw [own_f1miss (by rw [hj]; omega), own_j1 P hj h]; unfold own_G; rw [own_F1 P h, own_F1 P h, own_x hx, own_x hy]
theorem own_kA (P : own_P i0 i1 two hl hh lo hi) (hx : ∃ u, x0 = u &&& (255 : Int32)) (hy : ∃ u, y0 = u &&& (255 : Int32)) {t0 t1 tl th : Int64} : own_cy (own_G i0 i1 two hl hh lo hi x0 x1 xl xh) (own_G i0 i1 two hl hh lo hi y0 y1 yl yh) (own_F own_z64 i0 i1 two hl hh lo hi t0 t1 tl th) i0 = own_K x0 y0 t0 := by
  unfold own_cy; rw [own_sA P hx hy, own_F0 P]
theorem own_kB (P : own_P i0 i1 two hl hh lo hi) (hj : (i0 + (1 : Int32)).toNatClampNeg = i0.toNatClampNeg + 1) (h : ¬ two = 0) (hx : ∃ u, x1 = u &&& (255 : Int32)) (hy : ∃ u, y1 = u &&& (255 : Int32)) {ft' : Nat → Int32} {t0 t1 tl th : Int64} :
    own_cy (own_f1 (own_G i0 i1 two hl hh lo hi x0 x1 xl xh) ft' i0) (own_G i0 i1 two hl hh lo hi y0 y1 yl yh) (own_F own_z64 i0 i1 two hl hh lo hi t0 t1 tl th) (i0 + (1 : Int32)) = own_K x1 y1 t1 := by
  unfold own_cy; rw [own_sB P hj h hx hy, own_j1 P hj h, own_F1 P h]
theorem own_mA (P : own_P i0 i1 two hl hh lo hi) (hj : (i0 + (1 : Int32)).toNatClampNeg = i0.toNatClampNeg + 1) (hx : ∃ u, x0 = u &&& (255 : Int32)) (hy : ∃ u, y0 = u &&& (255 : Int32)) :
    own_fE two (own_G i0 i1 two hl hh lo hi x0 x1 xl xh) (own_G i0 i1 two hl hh lo hi y0 y1 yl yh) i0 (i0 + (1 : Int32)) i0.toNatClampNeg = (x0 + y0).toInt8.toInt32 := by
  rw [own_fE_0 (fun _ => by rw [hj]; omega)]; exact own_w_eq (own_sA P hx hy)
theorem own_mB (P : own_P i0 i1 two hl hh lo hi) (hj : (i0 + (1 : Int32)).toNatClampNeg = i0.toNatClampNeg + 1) (h : ¬ two = 0) (hx : ∃ u, x1 = u &&& (255 : Int32)) (hy : ∃ u, y1 = u &&& (255 : Int32)) :
    own_fE two (own_G i0 i1 two hl hh lo hi x0 x1 xl xh) (own_G i0 i1 two hl hh lo hi y0 y1 yl yh) i0 (i0 + (1 : Int32)) i1.toNatClampNeg = (x1 + y1).toInt8.toInt32 := by
  rw [← own_j1 P hj h, own_fE_1 h]; exact own_w_eq (own_sB P hj h hx hy)
theorem own_mC (P : own_P i0 i1 two hl hh lo hi) (hj : (i0 + (1 : Int32)).toNatClampNeg = i0.toNatClampNeg + 1) (h : ¬ hl = 0) {ft' : Nat → Int32} :
    own_fE two (own_G i0 i1 two hl hh lo hi x0 x1 xl xh) ft' i0 (i0 + (1 : Int32)) lo.toNatClampNeg = xl.toInt8.toInt32 := by
  have := P.2.2.1 h
  rw [own_fE_miss (by omega) (fun _ => by rw [hj]; omega)]; unfold own_G; rw [own_F2 P h]; exact own_nar xl
theorem own_mD (P : own_P i0 i1 two hl hh lo hi) (hj : (i0 + (1 : Int32)).toNatClampNeg = i0.toNatClampNeg + 1) (h : ¬ hh = 0) {ft' : Nat → Int32} :
    own_fE two (own_G i0 i1 two hl hh lo hi x0 x1 xl xh) ft' i0 (i0 + (1 : Int32)) hi.toNatClampNeg = xh.toInt8.toInt32 := by
  have q := P.2.2.2 h; have hle := own_Ple P
  rw [own_fE_miss (by omega) (fun t => by have := P.2.1 t; rw [hj]; omega)]; unfold own_G; rw [own_F3 h]; exact own_nar xh
theorem own_rA (P : own_P i0 i1 two hl hh lo hi) (hj : (i0 + (1 : Int32)).toNatClampNeg = i0.toNatClampNeg + 1) (hx : ∃ u, x0 = u &&& (255 : Int32)) (hy : ∃ u, y0 = u &&& (255 : Int32)) {t0 t1 tl th : Int64} {f : Nat → Int64} :
    own_rE two (own_G i0 i1 two hl hh lo hi x0 x1 xl xh) (own_G i0 i1 two hl hh lo hi y0 y1 yl yh) (own_F own_z64 i0 i1 two hl hh lo hi t0 t1 tl th) f i0 (i0 + (1 : Int32)) i0.toNatClampNeg = f i0.toNatClampNeg + own_K x0 y0 t0 := by
  rw [own_rE_0 (fun _ => by rw [hj]; omega), own_kA P hx hy]
theorem own_rB (P : own_P i0 i1 two hl hh lo hi) (hj : (i0 + (1 : Int32)).toNatClampNeg = i0.toNatClampNeg + 1) (h : ¬ two = 0) (hx : ∃ u, x1 = u &&& (255 : Int32)) (hy : ∃ u, y1 = u &&& (255 : Int32)) {t0 t1 tl th : Int64} {f : Nat → Int64} :
    own_rE two (own_G i0 i1 two hl hh lo hi x0 x1 xl xh) (own_G i0 i1 two hl hh lo hi y0 y1 yl yh) (own_F own_z64 i0 i1 two hl hh lo hi t0 t1 tl th) f i0 (i0 + (1 : Int32)) i1.toNatClampNeg = f i1.toNatClampNeg + own_K x1 y1 t1 := by
  rw [← own_j1 P hj h, own_rE_1 h (by rw [hj]; omega), own_kB P hj h hx hy]
theorem own_rC (P : own_P i0 i1 two hl hh lo hi) (hj : (i0 + (1 : Int32)).toNatClampNeg = i0.toNatClampNeg + 1) (h : ¬ hl = 0) {fm ft : Nat → Int32} {g f : Nat → Int64} : own_rE two fm ft g f i0 (i0 + (1 : Int32)) lo.toNatClampNeg = f lo.toNatClampNeg := by
  have := P.2.2.1 h
  rw [own_rE_miss (by omega) (fun _ => by rw [hj]; omega)]
theorem own_rD (P : own_P i0 i1 two hl hh lo hi) (hj : (i0 + (1 : Int32)).toNatClampNeg = i0.toNatClampNeg + 1) (h : ¬ hh = 0) {fm ft : Nat → Int32} {g f : Nat → Int64} : own_rE two fm ft g f i0 (i0 + (1 : Int32)) hi.toNatClampNeg = f hi.toNatClampNeg := by
  have q := P.2.2.2 h; have hle := own_Ple P
  rw [own_rE_miss (by omega) (fun t => by have := P.2.1 t; rw [hj]; omega)]
end Law2
theorem own_les {a l : Int32} (h : l = ((a &&& (2147483647 : Int32)) % (1999 : Int32)) - (999 : Int32)) : -999 ≤ l.toInt ∧ l.toInt ≤ 999 := by
  have q := own_rem a 1999 (by decide)
  have c1 : (1999 : Int32).toInt = 1999 := rfl
  have c2 : (999 : Int32).toInt = 999 := rfl
  rw [h, Jvm.Kit.i32_sub (by omega) (by omega)]; omega
theorem own_grt {l g x : Int32} (hl : -999 ≤ l.toInt ∧ l.toInt ≤ 999) (h : g = fmin (l + (x &&& (1 : Int32))) (999 : Int32)) : (g.toInt = l.toInt ∨ g.toInt = l.toInt + 1) ∧ g.toInt ≤ 999 := by
  have e := Jvm.Kit.i32_mask x 1 (k := 1) (by decide) (by decide)
  have c2 : (999 : Int32).toInt = 999 := rfl
  have e1 : (l + (x &&& (1 : Int32))).toInt = l.toInt + (x &&& (1 : Int32)).toInt := Jvm.Kit.i32_add (by omega) (by omega)
  rw [h]; unfold fmin; split
  · rename_i q; rw [Int32.lt_iff_toInt_lt] at q; omega
  · rename_i q; rw [Int32.lt_iff_toInt_lt] at q; omega
theorem own_geo {les grt i0 i1 two hl hh lo hi : Int32} (hles : -999 ≤ les.toInt ∧ les.toInt ≤ 999) (hgrt : (grt.toInt = les.toInt ∨ grt.toInt = les.toInt + 1) ∧ grt.toInt ≤ 999) (h_i0 : i0 = les + (999 : Int32)) (h_i1 : i1 = grt + (999 : Int32))
    (h_two : two = if i1 = i0 then (0 : Int32) else (1 : Int32)) (h_hl : hl = if (0 : Int32) < i0 then (1 : Int32) else (0 : Int32)) (h_hh : hh = if i1 < (1998 : Int32) then (1 : Int32) else (0 : Int32)) (h_lo : lo = i0 - (1 : Int32)) (h_hi : hi = i1 + (1 : Int32)) :
    own_P i0 i1 two hl hh lo hi ∧ (i0 + (1 : Int32)).toNatClampNeg = i0.toNatClampNeg + 1 ∧ (¬ i0 < 0 ∧ i0 < (1999 : Int32)) ∧ (¬ i1 < 0 ∧ i1 < (1999 : Int32)) ∧ (¬ hl = 0 → ¬ lo < 0 ∧ lo < (1999 : Int32)) ∧ (¬ hh = 0 → ¬ hi < 0 ∧ hi < (1999 : Int32)) ∧
      ((two = 0 ∧ grt = les) ∨ (¬ two = 0 ∧ grt.toInt = les.toInt + 1 ∧ grt.toInt ≤ 999)) := by
  have c1 : (999 : Int32).toInt = 999 := rfl
  have c2 : (1 : Int32).toInt = 1 := rfl
  have c3 : (1998 : Int32).toInt = 1998 := rfl
  have c0 : (0 : Int32).toInt = 0 := rfl
  have e0 : i0.toInt = les.toInt + 999 := by rw [h_i0, Jvm.Kit.i32_add (by omega) (by omega), c1]
  have e1 : i1.toInt = grt.toInt + 999 := by rw [h_i1, Jvm.Kit.i32_add (by omega) (by omega), c1]
  have e2 : lo.toInt = i0.toInt - 1 := by rw [h_lo, Jvm.Kit.i32_sub (by omega) (by omega), c2]
  have e3 : hi.toInt = i1.toInt + 1 := by rw [h_hi, Jvm.Kit.i32_add (by omega) (by omega), c2]
  have e4 : (i0 + (1 : Int32)).toInt = i0.toInt + 1 := by rw [Jvm.Kit.i32_add (by omega) (by omega), c2]
  have n0 : i0.toNatClampNeg = i0.toInt.toNat := rfl
  have n1 : i1.toNatClampNeg = i1.toInt.toNat := rfl
  have n2 : lo.toNatClampNeg = lo.toInt.toNat := rfl
  have n3 : hi.toNatClampNeg = hi.toInt.toNat := rfl
  have n4 : (i0 + (1 : Int32)).toNatClampNeg = (i0 + (1 : Int32)).toInt.toNat := rfl
  have t0 : two = 0 → i1.toInt = i0.toInt := fun h => by
    rw [h_two] at h; split at h
    · rename_i q; rw [q]
    · exact absurd h (by decide)
  have t1 : ¬ two = 0 → i1.toInt ≠ i0.toInt := fun h q => h (by rw [h_two, if_pos (Int32.toInt_inj.mp q)])
  have l1 : ¬ hl = 0 → 0 < i0.toInt := fun h => by
    by_cases q : (0 : Int32) < i0
    · rw [Int32.lt_iff_toInt_lt] at q; omega
    · exact absurd (by rw [h_hl, if_neg q]) h
  have l2 : ¬ hh = 0 → i1.toInt < 1998 := fun h => by
    by_cases q : i1 < (1998 : Int32)
    · rw [Int32.lt_iff_toInt_lt] at q; omega
    · exact absurd (by rw [h_hh, if_neg q]) h
  refine ⟨⟨fun h => ?_, fun h => ?_, fun h => ?_, fun h => ?_⟩, ?_, own_inr (by omega), own_inr (by omega), fun h => own_inr ?_, fun h => own_inr ?_, ?_⟩
  · have := t0 h; omega
  · have := t1 h; omega
  · have := l1 h; omega
  · omega
  · omega
  · have := l1 h; omega
  · have := l2 h; omega
  · by_cases h : two = 0
    · have := t0 h; exact Or.inl ⟨h, Int32.toInt_inj.mp (by omega)⟩
    · have := t1 h; exact Or.inr ⟨h, by omega, by omega⟩
theorem own_ush2 (x : Int64) : 0 ≤ ((x.toUInt64 >>> (((2 : Int32)) &&& 0x3f).toInt64.toUInt64).toInt64).toInt ∧ ((x.toUInt64 >>> (((2 : Int32)) &&& 0x3f).toInt64.toUInt64).toInt64).toInt < 2 ^ 62 := by
  have e : ((x.toUInt64 >>> (((2 : Int32)) &&& 0x3f).toInt64.toUInt64).toInt64).toInt = (x.toBitVec >>> 2).toInt := rfl
  rw [e, BitVec.toInt_eq_toNat_cond, BitVec.toNat_ushiftRight, Nat.shiftRight_eq_div_pow]
  have := x.toBitVec.isLt
  split <;> omega
theorem own_and3 (x : Int64) : 0 ≤ (x &&& (3 : Int64)).toInt ∧ (x &&& (3 : Int64)).toInt < 2 ^ 62 := by
  have := Jvm.Kit.i64_mask x 3 (k := 2) (by decide) (by decide); omega
theorem own_hg {i0 i1 two hl hh lo hi tn : Int32} {their tc0 tc1 : Int64} (h0 : tc0 = if tn = (0 : Int32) then ((their.toUInt64 >>> (((2 : Int32)) &&& 0x3f).toInt64.toUInt64).toInt64) else (0 : Int64)) (h1 : tc1 = if tn = (0 : Int32) then (their &&& (3 : Int64)) else (0 : Int64)) :
    ∀ i, 0 ≤ (own_F own_z64 i0 i1 two hl hh lo hi tc0 tc1 (if tn = (0 : Int32) then (7 : Int64) else (0 : Int64)) (if tn = (0 : Int32) then (7 : Int64) else (0 : Int64)) i).toInt ∧ (own_F own_z64 i0 i1 two hl hh lo hi tc0 tc1 (if tn = (0 : Int32) then (7 : Int64) else (0 : Int64)) (if tn = (0 : Int32) then (7 : Int64) else (0 : Int64)) i).toInt < 2 ^ 62 := by
  have z : 0 ≤ (0 : Int64).toInt ∧ (0 : Int64).toInt < 2 ^ 62 := by decide
  have q7 : 0 ≤ (if tn = (0 : Int32) then (7 : Int64) else (0 : Int64)).toInt ∧ (if tn = (0 : Int32) then (7 : Int64) else (0 : Int64)).toInt < 2 ^ 62 := by split <;> decide
  intro i
  refine own_Fall (Q := fun v : Int64 => 0 ≤ v.toInt ∧ v.toInt < 2 ^ 62) (fun _ => z) ?_ ?_ q7 q7 i
  · rw [h0]; split
    · exact own_ush2 their
    · exact z
  · rw [h1]; split
    · exact own_and3 their
    · exact z
theorem ef_0 (m : MethodId) (ga : Int32) (gb : Int32) (gc : Int32) (gm : Int64) (gt : Int64) (gf : Int32) : entryFrame m #[(.int ga), (.int gb), (.int gc), (.long gm), (.long gt), (.int gf)] maxLocals = mkF m 0 #[.val (.int ga), .val (.int gb), .val (.int gc), .val (.long gm), .second, .val (.long gt), .second, .val (.int gf), .unset, .unset, .unset, .unset, .unset, .unset, .unset, .unset, .unset, .unset, .unset, .unset, .unset, .unset, .unset, .unset, .unset, .unset, .unset, .unset, .unset, .unset, .unset, .unset, .unset, .unset, .unset, .unset, .unset, .unset, .unset, .unset, .unset, .unset, .unset, .unset, .unset, .unset] [] := by first | (simp [entryFrame, mkF, argsToLocals, Value.category, maxLocals]; done) | rfl
theorem pd_4 : parseMethodDescriptor "(II)I" = some ⟨[.int, .int], some .int⟩ := by decide +kernel
theorem pd_5 : parseMethodDescriptor "([B[J[B[JII)[J" = some ⟨[(.array .byte), (.array .long), (.array .byte), (.array .long), .int, .int], some (.array .long)⟩ := by decide +kernel
def Q0 (Z : State) (ga : Int32) (gb : Int32) (gc : Int32) (gm : Int64) (gt : Int64) (gf : Int32) (h0 : Heap) (n0 : Nat) (v : Option Value) (h : Heap) (L : List Loc) : Prop := v = some (.int 1) ∧ Fr n0 L
set_option maxRecDepth 65536 in
set_option maxHeartbeats 40000000 in
theorem rm0 (l : Launch) (Z : State) (a0 : Array Value) (hw : ∀ d ∈ tables_1, d.before a0 Z = true) (ws : List Jvm.Cond) (ga : Int32) (gb : Int32) (gc : Int32) (gm : Int64) (gt : Int64) (gf : Int32) (h0 : Heap) (n0 : Nat) (Z0 : n0 ≤ h0.size) :
    MetFree l x (head1 (Jvm.Cond.code x code maxLocals ret :: ws) room_1) (fun a U => a = #[(.int ga), (.int gb), (.int gc), (.long gm), (.long gt), (.int gf)] ∧ Z.Warmed39 U.vm ∧ U.heap = h0) (fun _ _ _ _ _ => True) (fun _ U o U' => ∃ v L, o = .returned v ∧ Q0 Z ga gb gc gm gt gf h0 n0 v U'.heap L ∧ FrameEnd U o U' L 16 16064) := by
  refine MetFree.of_bodySF (plainFor_of_name pn_com_example_lanescan_lanescan_DistributionMergePinLaw) hisR ?_
  intro p e s m args below meth c s₁ Bd hml0 hP hK
  obtain ⟨rfl, hZ, hh⟩ := hP
  have hx := Bd.exec
  have hby := Bd.bytes
  have hml : c.maxLocals = 46 := hml0
  have hown : s.vm.findClass "com/example/lanescan/lanescan/DistributionMergePinLaw" = some m.cls := findClass_of_methodNamed Bd.named
  have hnm := (name_of_methodNamed Bd.named Bd.method).1
  have hlk : meth.locks = false := BodyLoose.notSynchronized Bd
  have X0 : Stand p l e room_1 s m #[(.int ga), (.int gb), (.int gc), (.long gm), (.long gt), (.int gf)] below meth c s₁ [] 0 0 := Stand.of_body Bd
  have e0 : s₁.heap = h0 := by rw [← hh, Bd.state]; rfl
  have N0 := Fr.nil n0
  have pre0 : Go p e below (s₁.setTop (entryFrame m #[(.int ga), (.int gb), (.int gc), (.long gm), (.long gt), (.int gf)] maxLocals)) (s₁.setTop (mkF m 0 #[.val (.int ga), .val (.int gb), .val (.int gc), .val (.long gm), .second, .val (.long gt), .second, .val (.int gf), .unset, .unset, .unset, .unset, .unset, .unset, .unset, .unset, .unset, .unset, .unset, .unset, .unset, .unset, .unset, .unset, .unset, .unset, .unset, .unset, .unset, .unset, .unset, .unset, .unset, .unset, .unset, .unset, .unset, .unset, .unset, .unset, .unset, .unset, .unset, .unset, .unset, .unset] [])) := fun t k => castTop (ef_0 m ga gb gc gm gt gf) k
  obtain ⟨Ls1, hLs1⟩ : ∃ z : Array Slot, z = #[.val (.int ga), .val (.int gb), .val (.int gc), .val (.long gm), .second, .val (.long gt), .second, .val (.int gf), .unset, .unset, .unset, .unset, .unset, .unset, .unset, .unset, .unset, .unset, .unset, .unset, .unset, .unset, .unset, .unset, .unset, .unset, .unset, .unset, .unset, .unset, .unset, .unset, .unset, .unset, .unset, .unset, .unset, .unset, .unset, .unset, .unset, .unset, .unset, .unset, .unset, .unset] := ⟨_, rfl⟩
  have pre00 : Go p e below (s₁.setTop (entryFrame m #[(.int ga), (.int gb), (.int gc), (.long gm), (.long gt), (.int gf)] maxLocals)) (s₁.setTop (mkF m 0 Ls1 [])) := by rw [hLs1]; exact pre0
  have pre2 : Go p e below (s₁.setTop (entryFrame m #[(.int ga), (.int gb), (.int gc), (.long gm), (.long gt), (.int gf)] maxLocals)) (s₁.setTop (mkF m 4 Ls1 [(.int (gf &&& (1 : Int32)))])) := by
    intro t k
    refine pre00 t ?_
    show Steps p.tables e below (s₁.setTop (mkF m 0 Ls1 [])) _
    refine XS.iload X0.here hx rfl (hb hby at_0) (by rw [hLs1]; first | done | rfl) ?_
    show Steps p.tables e below (s₁.setTop (mkF m 2 Ls1 [(.int gf)])) _
    refine XS.iconst X0.here hx rfl (hb hby at_2) ?_
    show Steps p.tables e below (s₁.setTop (mkF m 3 Ls1 [(.int (1 : Int32)), (.int gf)])) _
    refine XS.iand X0.here hx rfl (hb hby at_3) rfl ?_
    show Steps p.tables e below (s₁.setTop (mkF m 4 Ls1 [(.int (gf &&& (1 : Int32)))])) _
    exact k
  obtain ⟨mn, h_mn⟩ : ∃ z : Int32, z = (if (gf &&& (1 : Int32)) = (0 : Int32) then (0 : Int32) else (1 : Int32)) := ⟨_, rfl⟩
  have pre4 : Go p e below (s₁.setTop (entryFrame m #[(.int ga), (.int gb), (.int gc), (.long gm), (.long gt), (.int gf)] maxLocals)) (s₁.setTop (mkF m 12 Ls1 [(.int mn)])) := by
    intro t k
    refine pre2 t ?_
    show Steps p.tables e below (s₁.setTop (mkF m 4 Ls1 [(.int (gf &&& (1 : Int32)))])) _
    by_cases hc4_3 : (gf &&& (1 : Int32)) = (0 : Int32)
    · skip
      refine XS.ifYes X0.here hx rfl (pc0 := 4) (pc' := 11) rfl (hb hby at_4) rfl (XT.i0_eq_t hc4_3) (by decide) (by decide) ?_
      show Steps p.tables e below (s₁.setTop (mkF m 11 Ls1 [])) _
      refine XS.iconst X0.here hx rfl (hb hby at_11) ?_
      show Steps p.tables e below (s₁.setTop (mkF m 12 Ls1 [(.int (0 : Int32))])) _
      rw [show mn = (0 : Int32) from by rw [h_mn]; rw [if_pos hc4_3]] at k
      exact k
    · skip
      refine XS.ifNo X0.here hx rfl (hb hby at_4) rfl (XT.i0_eq_f hc4_3) ?_
      show Steps p.tables e below (s₁.setTop (mkF m 7 Ls1 [])) _
      refine XS.iconst X0.here hx rfl (hb hby at_7) ?_
      show Steps p.tables e below (s₁.setTop (mkF m 8 Ls1 [(.int (1 : Int32))])) _
      refine XS.goto X0.here hx rfl (pc0 := 8) (pc' := 12) rfl (hb hby at_8) (by decide) (by decide) ?_
      show Steps p.tables e below (s₁.setTop (mkF m 12 Ls1 [(.int (1 : Int32))])) _
      rw [show mn = (1 : Int32) from by rw [h_mn]; rw [if_neg hc4_3]] at k
      exact k
  have h01_mn : mn = 1 ∨ mn = 0 := by rw [h_mn]; split <;> first | exact Or.inr rfl | exact Or.inl rfl
  obtain ⟨Ls5, hLs5⟩ : ∃ z : Array Slot, z = #[.val (.int ga), .val (.int gb), .val (.int gc), .val (.long gm), .second, .val (.long gt), .second, .val (.int gf), .val (.int mn), .unset, .unset, .unset, .unset, .unset, .unset, .unset, .unset, .unset, .unset, .unset, .unset, .unset, .unset, .unset, .unset, .unset, .unset, .unset, .unset, .unset, .unset, .unset, .unset, .unset, .unset, .unset, .unset, .unset, .unset, .unset, .unset, .unset, .unset, .unset, .unset, .unset] := ⟨_, rfl⟩
  have pre6 : Go p e below (s₁.setTop (entryFrame m #[(.int ga), (.int gb), (.int gc), (.long gm), (.long gt), (.int gf)] maxLocals)) (s₁.setTop (mkF m 18 Ls5 [(.int (gf &&& (2 : Int32)))])) := by
    intro t k
    refine pre4 t ?_
    show Steps p.tables e below (s₁.setTop (mkF m 12 Ls1 [(.int mn)])) _
    refine XS.istore X0.here hx rfl (hb hby at_12) rfl (l' := Ls5) (by rw [hLs5, hLs1]; first | done | rfl) ?_
    show Steps p.tables e below (s₁.setTop (mkF m 14 Ls5 [])) _
    refine XS.iload X0.here hx rfl (hb hby at_14) (by rw [hLs5]; first | done | rfl) ?_
    show Steps p.tables e below (s₁.setTop (mkF m 16 Ls5 [(.int gf)])) _
    refine XS.iconst X0.here hx rfl (hb hby at_16) ?_
    show Steps p.tables e below (s₁.setTop (mkF m 17 Ls5 [(.int (2 : Int32)), (.int gf)])) _
    refine XS.iand X0.here hx rfl (hb hby at_17) rfl ?_
    show Steps p.tables e below (s₁.setTop (mkF m 18 Ls5 [(.int (gf &&& (2 : Int32)))])) _
    exact k
  obtain ⟨tn, h_tn⟩ : ∃ z : Int32, z = (if (gf &&& (2 : Int32)) = (0 : Int32) then (0 : Int32) else (1 : Int32)) := ⟨_, rfl⟩
  have pre8 : Go p e below (s₁.setTop (entryFrame m #[(.int ga), (.int gb), (.int gc), (.long gm), (.long gt), (.int gf)] maxLocals)) (s₁.setTop (mkF m 26 Ls5 [(.int tn)])) := by
    intro t k
    refine pre6 t ?_
    show Steps p.tables e below (s₁.setTop (mkF m 18 Ls5 [(.int (gf &&& (2 : Int32)))])) _
    by_cases hc18_7 : (gf &&& (2 : Int32)) = (0 : Int32)
    · skip
      refine XS.ifYes X0.here hx rfl (pc0 := 18) (pc' := 25) rfl (hb hby at_18) rfl (XT.i0_eq_t hc18_7) (by decide) (by decide) ?_
      show Steps p.tables e below (s₁.setTop (mkF m 25 Ls5 [])) _
      refine XS.iconst X0.here hx rfl (hb hby at_25) ?_
      show Steps p.tables e below (s₁.setTop (mkF m 26 Ls5 [(.int (0 : Int32))])) _
      rw [show tn = (0 : Int32) from by rw [h_tn]; rw [if_pos hc18_7]] at k
      exact k
    · skip
      refine XS.ifNo X0.here hx rfl (hb hby at_18) rfl (XT.i0_eq_f hc18_7) ?_
      show Steps p.tables e below (s₁.setTop (mkF m 21 Ls5 [])) _
      refine XS.iconst X0.here hx rfl (hb hby at_21) ?_
      show Steps p.tables e below (s₁.setTop (mkF m 22 Ls5 [(.int (1 : Int32))])) _
      refine XS.goto X0.here hx rfl (pc0 := 22) (pc' := 26) rfl (hb hby at_22) (by decide) (by decide) ?_
      show Steps p.tables e below (s₁.setTop (mkF m 26 Ls5 [(.int (1 : Int32))])) _
      rw [show tn = (1 : Int32) from by rw [h_tn]; rw [if_neg hc18_7]] at k
      exact k
  have h01_tn : tn = 1 ∨ tn = 0 := by rw [h_tn]; split <;> first | exact Or.inr rfl | exact Or.inl rfl
  obtain ⟨Ls9, hLs9⟩ : ∃ z : Array Slot, z = #[.val (.int ga), .val (.int gb), .val (.int gc), .val (.long gm), .second, .val (.long gt), .second, .val (.int gf), .val (.int mn), .val (.int tn), .unset, .unset, .unset, .unset, .unset, .unset, .unset, .unset, .unset, .unset, .unset, .unset, .unset, .unset, .unset, .unset, .unset, .unset, .unset, .unset, .unset, .unset, .unset, .unset, .unset, .unset, .unset, .unset, .unset, .unset, .unset, .unset, .unset, .unset, .unset, .unset] := ⟨_, rfl⟩
  have pre10 : Go p e below (s₁.setTop (entryFrame m #[(.int ga), (.int gb), (.int gc), (.long gm), (.long gt), (.int gf)] maxLocals)) (s₁.setTop (mkF m 40 Ls9 [(.int (((ga &&& (2147483647 : Int32)) % (1999 : Int32)) - (999 : Int32)))])) := by
    intro t k
    refine pre8 t ?_
    show Steps p.tables e below (s₁.setTop (mkF m 26 Ls5 [(.int tn)])) _
    refine XS.istore X0.here hx rfl (hb hby at_26) rfl (l' := Ls9) (by rw [hLs9, hLs5]; first | done | rfl) ?_
    show Steps p.tables e below (s₁.setTop (mkF m 28 Ls9 [])) _
    refine XS.iloadN X0.here hx rfl (hb hby at_28) (by rw [hLs9]; first | done | rfl) ?_
    show Steps p.tables e below (s₁.setTop (mkF m 29 Ls9 [(.int ga)])) _
    refine X0.ldcI hx hown (mvT hZ (hw _ (List.mem_of_getElem? (i := 0) rfl))) (g := (mkF m 29 Ls9 [(.int ga)])) rfl (hb hby at_29) ?_
    show Steps p.tables e below (s₁.setTop (mkF m 31 Ls9 [(.int (2147483647 : Int32)), (.int ga)])) _
    refine XS.iand X0.here hx rfl (hb hby at_31) rfl ?_
    show Steps p.tables e below (s₁.setTop (mkF m 32 Ls9 [(.int (ga &&& (2147483647 : Int32)))])) _
    refine XS.sipush X0.here hx rfl (hb hby at_32) ?_
    show Steps p.tables e below (s₁.setTop (mkF m 35 Ls9 [(.int (1999 : Int32)), (.int (ga &&& (2147483647 : Int32)))])) _
    refine own_irem X0.here hx rfl (hb hby at_35) rfl (by decide) ?_
    show Steps p.tables e below (s₁.setTop (mkF m 36 Ls9 [(.int ((ga &&& (2147483647 : Int32)) % (1999 : Int32)))])) _
    refine XS.sipush X0.here hx rfl (hb hby at_36) ?_
    show Steps p.tables e below (s₁.setTop (mkF m 39 Ls9 [(.int (999 : Int32)), (.int ((ga &&& (2147483647 : Int32)) % (1999 : Int32)))])) _
    refine XS.isub X0.here hx rfl (hb hby at_39) rfl ?_
    show Steps p.tables e below (s₁.setTop (mkF m 40 Ls9 [(.int (((ga &&& (2147483647 : Int32)) % (1999 : Int32)) - (999 : Int32)))])) _
    exact k
  obtain ⟨les, h_les⟩ : ∃ z : Int32, z = (((ga &&& (2147483647 : Int32)) % (1999 : Int32)) - (999 : Int32)) := ⟨_, rfl⟩
  have pre11 : Go p e below (s₁.setTop (entryFrame m #[(.int ga), (.int gb), (.int gc), (.long gm), (.long gt), (.int gf)] maxLocals)) (s₁.setTop (mkF m 40 Ls9 [(.int les)])) := by rw [h_les]; exact pre10
  have hles := own_les h_les
  obtain ⟨Ls12, hLs12⟩ : ∃ z : Array Slot, z = #[.val (.int ga), .val (.int gb), .val (.int gc), .val (.long gm), .second, .val (.long gt), .second, .val (.int gf), .val (.int mn), .val (.int tn), .val (.int les), .unset, .unset, .unset, .unset, .unset, .unset, .unset, .unset, .unset, .unset, .unset, .unset, .unset, .unset, .unset, .unset, .unset, .unset, .unset, .unset, .unset, .unset, .unset, .unset, .unset, .unset, .unset, .unset, .unset, .unset, .unset, .unset, .unset, .unset, .unset] := ⟨_, rfl⟩
  have pre13 : Go p e below (s₁.setTop (entryFrame m #[(.int ga), (.int gb), (.int gc), (.long gm), (.long gt), (.int gf)] maxLocals)) (s₁.setTop (mkF m 54 Ls12 [(.int (999 : Int32)), (.int (les + ((((gf).toUInt32 >>> (((2 : Int32)) &&& 31).toUInt32).toInt32) &&& (1 : Int32))))])) := by
    intro t k
    refine pre11 t ?_
    show Steps p.tables e below (s₁.setTop (mkF m 40 Ls9 [(.int les)])) _
    refine XS.istore X0.here hx rfl (hb hby at_40) rfl (l' := Ls12) (by rw [hLs12, hLs9]; first | done | rfl) ?_
    show Steps p.tables e below (s₁.setTop (mkF m 42 Ls12 [])) _
    refine XS.iload X0.here hx rfl (hb hby at_42) (by rw [hLs12]; first | done | rfl) ?_
    show Steps p.tables e below (s₁.setTop (mkF m 44 Ls12 [(.int les)])) _
    refine XS.iload X0.here hx rfl (hb hby at_44) (by rw [hLs12]; first | done | rfl) ?_
    show Steps p.tables e below (s₁.setTop (mkF m 46 Ls12 [(.int gf), (.int les)])) _
    refine XS.iconst X0.here hx rfl (hb hby at_46) ?_
    show Steps p.tables e below (s₁.setTop (mkF m 47 Ls12 [(.int (2 : Int32)), (.int gf), (.int les)])) _
    refine XS.iushr X0.here hx rfl (hb hby at_47) rfl ?_
    show Steps p.tables e below (s₁.setTop (mkF m 48 Ls12 [(.int (((gf).toUInt32 >>> (((2 : Int32)) &&& 31).toUInt32).toInt32)), (.int les)])) _
    refine XS.iconst X0.here hx rfl (hb hby at_48) ?_
    show Steps p.tables e below (s₁.setTop (mkF m 49 Ls12 [(.int (1 : Int32)), (.int (((gf).toUInt32 >>> (((2 : Int32)) &&& 31).toUInt32).toInt32)), (.int les)])) _
    refine XS.iand X0.here hx rfl (hb hby at_49) rfl ?_
    show Steps p.tables e below (s₁.setTop (mkF m 50 Ls12 [(.int ((((gf).toUInt32 >>> (((2 : Int32)) &&& 31).toUInt32).toInt32) &&& (1 : Int32))), (.int les)])) _
    refine XS.iadd X0.here hx rfl (hb hby at_50) rfl ?_
    show Steps p.tables e below (s₁.setTop (mkF m 51 Ls12 [(.int (les + ((((gf).toUInt32 >>> (((2 : Int32)) &&& 31).toUInt32).toInt32) &&& (1 : Int32))))])) _
    refine XS.sipush X0.here hx rfl (hb hby at_51) ?_
    show Steps p.tables e below (s₁.setTop (mkF m 54 Ls12 [(.int (999 : Int32)), (.int (les + ((((gf).toUInt32 >>> (((2 : Int32)) &&& 31).toUInt32).toInt32) &&& (1 : Int32))))])) _
    exact k
  obtain ⟨_, _, ⟨T14, L14, k14, n14⟩, -, X14, ⟨Lc14, hQ14, l14, y14, z14⟩, st14⟩ := Jvm.LawKit.callS X0 hx (y := (⟨"java/lang/Math", "min", "(II)I"⟩ : MethodName)) hown (mvT hZ (hw _ (List.mem_of_getElem? (i := 1) rfl))) (mvT hZ (hw _ (List.mem_of_getElem? (i := 2) rfl))) (mvT hZ (hw _ (List.mem_of_getElem? (i := 3) rfl))) (mvT hZ (hw _ (List.mem_of_getElem? (i := 4) rfl))) (by decide) (backOf (W := 0) (rm1 l Z a0 hw [] (les + ((((gf).toUInt32 >>> (((2 : Int32)) &&& 31).toUInt32).toInt32) &&& (1 : Int32))) (999 : Int32)  h0 n0 Z0 ) hZ (hw _ (List.mem_of_getElem? (i := 4) rfl)) (hw _ (List.mem_of_getElem? (i := 3) rfl)) (by decide) (by decide)) (g := (mkF m 54 Ls12 [(.int (999 : Int32)), (.int (les + ((((gf).toUInt32 >>> (((2 : Int32)) &&& 31).toUInt32).toInt32) &&& (1 : Int32))))])) rfl (by rw [hml]; show Array.size Ls12 = _; rw [hLs12]; first | done | rfl) (argsL := [(.int (les + ((((gf).toUInt32 >>> (((2 : Int32)) &&& 31).toUInt32).toInt32) &&& (1 : Int32)))), (.int (999 : Int32))]) (rest := []) (lenOf pd_4 rfl) rfl (by show 2 * 0 + _ ≤ _; exact Nat.le_of_eq rfl) (hb hby at_54) (fun _ _ => ⟨rfl, e0, (by decide : 0 + 0 ≤ _), (by decide : 0 + 0 ≤ _)⟩)
  dsimp only [Pt.U, Pt.locs, Pt.cells, Pt.slots] at X14 l14 y14 z14 st14 hQ14
  subst l14 y14 z14
  obtain ⟨rfl, N14q, hh14⟩ := hQ14
  have N14 := Fr.app N0 N14q
  have pre15 : Go p e below (s₁.setTop (entryFrame m #[(.int ga), (.int gb), (.int gc), (.long gm), (.long gt), (.int gf)] maxLocals)) (T14.setTop (mkF m 57 Ls12 [(.int (fmin (les + ((((gf).toUInt32 >>> (((2 : Int32)) &&& 31).toUInt32).toInt32) &&& (1 : Int32))) (999 : Int32)))])) := fun t k => pre13 t (st14 t k)
  obtain ⟨grt, h_grt⟩ : ∃ z : Int32, z = (fmin (les + ((((gf).toUInt32 >>> (((2 : Int32)) &&& 31).toUInt32).toInt32) &&& (1 : Int32))) (999 : Int32)) := ⟨_, rfl⟩
  have pre16 : Go p e below (s₁.setTop (entryFrame m #[(.int ga), (.int gb), (.int gc), (.long gm), (.long gt), (.int gf)] maxLocals)) (T14.setTop (mkF m 57 Ls12 [(.int grt)])) := by rw [h_grt]; exact pre15
  have hgrt := own_grt hles h_grt
  obtain ⟨Ls17, hLs17⟩ : ∃ z : Array Slot, z = #[.val (.int ga), .val (.int gb), .val (.int gc), .val (.long gm), .second, .val (.long gt), .second, .val (.int gf), .val (.int mn), .val (.int tn), .val (.int les), .val (.int grt), .unset, .unset, .unset, .unset, .unset, .unset, .unset, .unset, .unset, .unset, .unset, .unset, .unset, .unset, .unset, .unset, .unset, .unset, .unset, .unset, .unset, .unset, .unset, .unset, .unset, .unset, .unset, .unset, .unset, .unset, .unset, .unset, .unset, .unset] := ⟨_, rfl⟩
  have pre18 : Go p e below (s₁.setTop (entryFrame m #[(.int ga), (.int gb), (.int gc), (.long gm), (.long gt), (.int gf)] maxLocals)) (T14.setTop (mkF m 62 Ls17 [(.int (1999 : Int32))])) := by
    intro t k
    refine pre16 t ?_
    show Steps p.tables e below (T14.setTop (mkF m 57 Ls12 [(.int grt)])) _
    refine XS.istore X14.here hx rfl (hb hby at_57) rfl (l' := Ls17) (by rw [hLs17, hLs12]; first | done | rfl) ?_
    show Steps p.tables e below (T14.setTop (mkF m 59 Ls17 [])) _
    refine XS.sipush X14.here hx rfl (hb hby at_59) ?_
    show Steps p.tables e below (T14.setTop (mkF m 62 Ls17 [(.int (1999 : Int32))])) _
    exact k
  obtain ⟨T19, h19, k19, X19, e19, E19, A19, st19⟩ := newP X14 hx hZ (hw _ (List.mem_of_getElem? (i := 5) rfl)) hh14 (g := (mkF m 62 Ls17 [(.int (1999 : Int32))])) rfl (hb hby at_62) rfl (by decide) (cap := 1999) (by decide) (by decide) (by decide) (by decide)
  obtain ⟨bm, g19⟩ : ∃ z, z = h0.size := ⟨_, rfl⟩
  rw [← g19] at A19 st19
  have zz20 := (Nat.le_trans Z0 E19.1)
  have AV_bm : Arf Z h19 bm k19 .byte (1999 : Int32) (fun i_ => .int (own_z32 i_)) := (Arf.new A19 (by decide)).as (fun _ _ => rfl)
  have g_bm : n0 ≤ bm := Nat.le_trans Z0 (Nat.le_of_eq g19.symm)
  have pre21 : Go p e below (s₁.setTop (entryFrame m #[(.int ga), (.int gb), (.int gc), (.long gm), (.long gt), (.int gf)] maxLocals)) (T19.setTop (mkF m 64 Ls17 [(.ref bm)])) := fun t k => pre18 t (st19 t k)
  obtain ⟨Ls22, hLs22⟩ : ∃ z : Array Slot, z = #[.val (.int ga), .val (.int gb), .val (.int gc), .val (.long gm), .second, .val (.long gt), .second, .val (.int gf), .val (.int mn), .val (.int tn), .val (.int les), .val (.int grt), .val (.ref bm), .unset, .unset, .unset, .unset, .unset, .unset, .unset, .unset, .unset, .unset, .unset, .unset, .unset, .unset, .unset, .unset, .unset, .unset, .unset, .unset, .unset, .unset, .unset, .unset, .unset, .unset, .unset, .unset, .unset, .unset, .unset, .unset, .unset] := ⟨_, rfl⟩
  have pre23 : Go p e below (s₁.setTop (entryFrame m #[(.int ga), (.int gb), (.int gc), (.long gm), (.long gt), (.int gf)] maxLocals)) (T19.setTop (mkF m 69 Ls22 [(.int (1999 : Int32))])) := by
    intro t k
    refine pre21 t ?_
    show Steps p.tables e below (T19.setTop (mkF m 64 Ls17 [(.ref bm)])) _
    refine XS.astore X19.here hx rfl (hb hby at_64) rfl rfl (l' := Ls22) (by rw [hLs22, hLs17]; first | done | rfl) ?_
    show Steps p.tables e below (T19.setTop (mkF m 66 Ls22 [])) _
    refine XS.sipush X19.here hx rfl (hb hby at_66) ?_
    show Steps p.tables e below (T19.setTop (mkF m 69 Ls22 [(.int (1999 : Int32))])) _
    exact k
  obtain ⟨T24, h24, k24, X24, e24, E24, A24, st24⟩ := newP X19 hx hZ (hw _ (List.mem_of_getElem? (i := 5) rfl)) e19 (g := (mkF m 69 Ls22 [(.int (1999 : Int32))])) rfl (hb hby at_69) rfl (by decide) (cap := 1999) (by decide) (by decide) (by decide) (by decide)
  obtain ⟨bt, g24⟩ : ∃ z, z = h19.size := ⟨_, rfl⟩
  rw [← g24] at A24 st24
  have c25_24 := AV_bm.ext E24
  have zz26 := (Nat.le_trans zz20 E24.1)
  have AV_bt : Arf Z h24 bt k24 .byte (1999 : Int32) (fun i_ => .int (own_z32 i_)) := (Arf.new A24 (by decide)).as (fun _ _ => rfl)
  have g_bt : n0 ≤ bt := Nat.le_trans zz20 (Nat.le_of_eq g24.symm)
  have ne_bm_bt : bm ≠ bt := Nat.ne_of_lt (Nat.lt_of_lt_of_le AV_bm.lt (Nat.le_of_eq g24.symm))
  have pre27 : Go p e below (s₁.setTop (entryFrame m #[(.int ga), (.int gb), (.int gc), (.long gm), (.long gt), (.int gf)] maxLocals)) (T24.setTop (mkF m 71 Ls22 [(.ref bt)])) := fun t k => pre23 t (st24 t k)
  obtain ⟨Ls28, hLs28⟩ : ∃ z : Array Slot, z = #[.val (.int ga), .val (.int gb), .val (.int gc), .val (.long gm), .second, .val (.long gt), .second, .val (.int gf), .val (.int mn), .val (.int tn), .val (.int les), .val (.int grt), .val (.ref bm), .val (.ref bt), .unset, .unset, .unset, .unset, .unset, .unset, .unset, .unset, .unset, .unset, .unset, .unset, .unset, .unset, .unset, .unset, .unset, .unset, .unset, .unset, .unset, .unset, .unset, .unset, .unset, .unset, .unset, .unset, .unset, .unset, .unset, .unset] := ⟨_, rfl⟩
  have pre29 : Go p e below (s₁.setTop (entryFrame m #[(.int ga), (.int gb), (.int gc), (.long gm), (.long gt), (.int gf)] maxLocals)) (T24.setTop (mkF m 73 Ls28 [])) := by
    intro t k
    refine pre27 t ?_
    show Steps p.tables e below (T24.setTop (mkF m 71 Ls22 [(.ref bt)])) _
    refine XS.astore X24.here hx rfl (hb hby at_71) rfl rfl (l' := Ls28) (by rw [hLs28, hLs22]; first | done | rfl) ?_
    show Steps p.tables e below (T24.setTop (mkF m 73 Ls28 [])) _
    exact k
  obtain ⟨T30, h30, r14, X30, e30, E30, d_r14, g30⟩ := al14 (Ls := Ls28) (mn := mn) X24 hx hZ hw hby hml hown e24 N14 zz26 (by rw [hLs28]; first | done | rfl) h01_mn (by decide) (by decide)
  have hr_r14 : r14.isRef = true := by rcases d_r14 with ⟨-, q⟩ | ⟨-, a, k, q, -⟩ <;> rw [q] <;> rfl
  have c31_30 := c25_24.ext E30
  have c32_30 := AV_bt.ext E30
  have zz33 := (Nat.le_trans zz26 E30.1)
  have pre34 : Go p e below (s₁.setTop (entryFrame m #[(.int ga), (.int gb), (.int gc), (.long gm), (.long gt), (.int gf)] maxLocals)) (T30.setTop (mkF m 87 Ls28 [r14])) := fun t k => pre29 t (g30 t k)
  obtain ⟨Ls35, hLs35⟩ : ∃ z : Array Slot, z = #[.val (.int ga), .val (.int gb), .val (.int gc), .val (.long gm), .second, .val (.long gt), .second, .val (.int gf), .val (.int mn), .val (.int tn), .val (.int les), .val (.int grt), .val (.ref bm), .val (.ref bt), .val r14, .unset, .unset, .unset, .unset, .unset, .unset, .unset, .unset, .unset, .unset, .unset, .unset, .unset, .unset, .unset, .unset, .unset, .unset, .unset, .unset, .unset, .unset, .unset, .unset, .unset, .unset, .unset, .unset, .unset, .unset, .unset] := ⟨_, rfl⟩
  have pre36 : Go p e below (s₁.setTop (entryFrame m #[(.int ga), (.int gb), (.int gc), (.long gm), (.long gt), (.int gf)] maxLocals)) (T30.setTop (mkF m 89 Ls35 [])) := by
    intro t k
    refine pre34 t ?_
    show Steps p.tables e below (T30.setTop (mkF m 87 Ls28 [r14])) _
    refine XS.astore X30.here hx rfl (hb hby at_87) rfl hr_r14 (l' := Ls35) ((XS.store1 (o := .unset) (by rw [hLs28]; first | done | rfl) (Or.inl rfl) (XT.cat1 hr_r14)).trans (by rw [hLs35, hLs28]; first | done | rfl)) ?_
    show Steps p.tables e below (T30.setTop (mkF m 89 Ls35 [])) _
    exact k
  obtain ⟨T37, h37, r15, X37, e37, E37, d_r15, g37⟩ := al15 (Ls := Ls35) (mn := tn) X30 hx hZ hw hby hml hown e30 N14 zz33 (by rw [hLs35]; first | done | rfl) h01_tn (by decide) (by decide)
  have hr_r15 : r15.isRef = true := by rcases d_r15 with ⟨-, q⟩ | ⟨-, a, k, q, -⟩ <;> rw [q] <;> rfl
  have c38_37 := c31_30.ext E37
  have c39_37 := c32_30.ext E37
  have zz40 := (Nat.le_trans zz33 E37.1)
  have pre41 : Go p e below (s₁.setTop (entryFrame m #[(.int ga), (.int gb), (.int gc), (.long gm), (.long gt), (.int gf)] maxLocals)) (T37.setTop (mkF m 103 Ls35 [r15])) := fun t k => pre36 t (g37 t k)
  obtain ⟨Ls42, hLs42⟩ : ∃ z : Array Slot, z = #[.val (.int ga), .val (.int gb), .val (.int gc), .val (.long gm), .second, .val (.long gt), .second, .val (.int gf), .val (.int mn), .val (.int tn), .val (.int les), .val (.int grt), .val (.ref bm), .val (.ref bt), .val r14, .val r15, .unset, .unset, .unset, .unset, .unset, .unset, .unset, .unset, .unset, .unset, .unset, .unset, .unset, .unset, .unset, .unset, .unset, .unset, .unset, .unset, .unset, .unset, .unset, .unset, .unset, .unset, .unset, .unset, .unset, .unset] := ⟨_, rfl⟩
  have pre43 : Go p e below (s₁.setTop (entryFrame m #[(.int ga), (.int gb), (.int gc), (.long gm), (.long gt), (.int gf)] maxLocals)) (T37.setTop (mkF m 105 Ls42 [])) := by
    intro t k
    refine pre41 t ?_
    show Steps p.tables e below (T37.setTop (mkF m 103 Ls35 [r15])) _
    refine XS.astore X37.here hx rfl (hb hby at_103) rfl hr_r15 (l' := Ls42) ((XS.store1 (o := .unset) (by rw [hLs35]; first | done | rfl) (Or.inl rfl) (XT.cat1 hr_r15)).trans (by rw [hLs42, hLs35]; first | done | rfl)) ?_
    show Steps p.tables e below (T37.setTop (mkF m 105 Ls42 [])) _
    exact k
  have HH0 : own_H Z h37 n0 bm k19 bt k24 mn r14 tn r15 own_z32 own_z32 own_z64 own_z64 := by
    refine ⟨c38_37, c39_37, ne_bm_bt, g_bm, g_bt, ?_, ?_⟩
    · rcases d_r14 with ⟨q1, q2⟩ | ⟨q1, a, k, q2, q3, q4⟩
      · exact Or.inl ⟨q1, q2, fun _ => rfl⟩
      · exact Or.inr ⟨q1, a, k, q2, Nat.le_trans zz26 (Nat.le_of_eq q3.symm), Nat.ne_of_gt (Nat.lt_of_lt_of_le c25_24.lt (Nat.le_of_eq q3.symm)), Nat.ne_of_gt (Nat.lt_of_lt_of_le AV_bt.lt (Nat.le_of_eq q3.symm)), q4.ext E37⟩
    · rcases d_r15 with ⟨q1, q2⟩ | ⟨q1, a, k, q2, q3, q4⟩
      · exact Or.inl ⟨q1, q2, fun _ => rfl⟩
      · refine Or.inr ⟨q1, a, k, q2, Nat.le_trans zz33 (Nat.le_of_eq q3.symm), Nat.ne_of_gt (Nat.lt_of_lt_of_le c31_30.lt (Nat.le_of_eq q3.symm)), Nat.ne_of_gt (Nat.lt_of_lt_of_le c32_30.lt (Nat.le_of_eq q3.symm)), ?_, q4⟩
        rcases d_r14 with ⟨-, w2⟩ | ⟨-, a', k', w2, w3, w4⟩
        · rw [w2]; exact fun q => nomatch q
        · rw [w2]; exact fun q => Nat.ne_of_lt (Nat.lt_of_lt_of_le w4.lt (Nat.le_of_eq q3.symm)) (Value.ref.inj q)
  have pre44 : Go p e below (s₁.setTop (entryFrame m #[(.int ga), (.int gb), (.int gc), (.long gm), (.long gt), (.int gf)] maxLocals)) (T37.setTop (mkF m 111 Ls42 [(.int (les + (999 : Int32)))])) := by
    intro t k
    refine pre43 t ?_
    show Steps p.tables e below (T37.setTop (mkF m 105 Ls42 [])) _
    refine XS.iload X37.here hx rfl (hb hby at_105) (by rw [hLs42]; first | done | rfl) ?_
    show Steps p.tables e below (T37.setTop (mkF m 107 Ls42 [(.int les)])) _
    refine XS.sipush X37.here hx rfl (hb hby at_107) ?_
    show Steps p.tables e below (T37.setTop (mkF m 110 Ls42 [(.int (999 : Int32)), (.int les)])) _
    refine XS.iadd X37.here hx rfl (hb hby at_110) rfl ?_
    show Steps p.tables e below (T37.setTop (mkF m 111 Ls42 [(.int (les + (999 : Int32)))])) _
    exact k
  obtain ⟨i0, h_i0⟩ : ∃ z : Int32, z = (les + (999 : Int32)) := ⟨_, rfl⟩
  have pre45 : Go p e below (s₁.setTop (entryFrame m #[(.int ga), (.int gb), (.int gc), (.long gm), (.long gt), (.int gf)] maxLocals)) (T37.setTop (mkF m 111 Ls42 [(.int i0)])) := by rw [h_i0]; exact pre44
  obtain ⟨Ls46, hLs46⟩ : ∃ z : Array Slot, z = #[.val (.int ga), .val (.int gb), .val (.int gc), .val (.long gm), .second, .val (.long gt), .second, .val (.int gf), .val (.int mn), .val (.int tn), .val (.int les), .val (.int grt), .val (.ref bm), .val (.ref bt), .val r14, .val r15, .val (.int i0), .unset, .unset, .unset, .unset, .unset, .unset, .unset, .unset, .unset, .unset, .unset, .unset, .unset, .unset, .unset, .unset, .unset, .unset, .unset, .unset, .unset, .unset, .unset, .unset, .unset, .unset, .unset, .unset, .unset] := ⟨_, rfl⟩
  have pre47 : Go p e below (s₁.setTop (entryFrame m #[(.int ga), (.int gb), (.int gc), (.long gm), (.long gt), (.int gf)] maxLocals)) (T37.setTop (mkF m 119 Ls46 [(.int (grt + (999 : Int32)))])) := by
    intro t k
    refine pre45 t ?_
    show Steps p.tables e below (T37.setTop (mkF m 111 Ls42 [(.int i0)])) _
    refine XS.istore X37.here hx rfl (hb hby at_111) rfl (l' := Ls46) (by rw [hLs46, hLs42]; first | done | rfl) ?_
    show Steps p.tables e below (T37.setTop (mkF m 113 Ls46 [])) _
    refine XS.iload X37.here hx rfl (hb hby at_113) (by rw [hLs46]; first | done | rfl) ?_
    show Steps p.tables e below (T37.setTop (mkF m 115 Ls46 [(.int grt)])) _
    refine XS.sipush X37.here hx rfl (hb hby at_115) ?_
    show Steps p.tables e below (T37.setTop (mkF m 118 Ls46 [(.int (999 : Int32)), (.int grt)])) _
    refine XS.iadd X37.here hx rfl (hb hby at_118) rfl ?_
    show Steps p.tables e below (T37.setTop (mkF m 119 Ls46 [(.int (grt + (999 : Int32)))])) _
    exact k
  obtain ⟨i1, h_i1⟩ : ∃ z : Int32, z = (grt + (999 : Int32)) := ⟨_, rfl⟩
  have pre48 : Go p e below (s₁.setTop (entryFrame m #[(.int ga), (.int gb), (.int gc), (.long gm), (.long gt), (.int gf)] maxLocals)) (T37.setTop (mkF m 119 Ls46 [(.int i1)])) := by rw [h_i1]; exact pre47
  obtain ⟨Ls49, hLs49⟩ : ∃ z : Array Slot, z = #[.val (.int ga), .val (.int gb), .val (.int gc), .val (.long gm), .second, .val (.long gt), .second, .val (.int gf), .val (.int mn), .val (.int tn), .val (.int les), .val (.int grt), .val (.ref bm), .val (.ref bt), .val r14, .val r15, .val (.int i0), .val (.int i1), .unset, .unset, .unset, .unset, .unset, .unset, .unset, .unset, .unset, .unset, .unset, .unset, .unset, .unset, .unset, .unset, .unset, .unset, .unset, .unset, .unset, .unset, .unset, .unset, .unset, .unset, .unset, .unset] := ⟨_, rfl⟩
  have pre50 : Go p e below (s₁.setTop (entryFrame m #[(.int ga), (.int gb), (.int gc), (.long gm), (.long gt), (.int gf)] maxLocals)) (T37.setTop (mkF m 125 Ls49 [(.int i0), (.int i1)])) := by
    intro t k
    refine pre48 t ?_
    show Steps p.tables e below (T37.setTop (mkF m 119 Ls46 [(.int i1)])) _
    refine XS.istore X37.here hx rfl (hb hby at_119) rfl (l' := Ls49) (by rw [hLs49, hLs46]; first | done | rfl) ?_
    show Steps p.tables e below (T37.setTop (mkF m 121 Ls49 [])) _
    refine XS.iload X37.here hx rfl (hb hby at_121) (by rw [hLs49]; first | done | rfl) ?_
    show Steps p.tables e below (T37.setTop (mkF m 123 Ls49 [(.int i1)])) _
    refine XS.iload X37.here hx rfl (hb hby at_123) (by rw [hLs49]; first | done | rfl) ?_
    show Steps p.tables e below (T37.setTop (mkF m 125 Ls49 [(.int i0), (.int i1)])) _
    exact k
  obtain ⟨two, h_two⟩ : ∃ z : Int32, z = (if i1 = i0 then (0 : Int32) else (1 : Int32)) := ⟨_, rfl⟩
  have pre52 : Go p e below (s₁.setTop (entryFrame m #[(.int ga), (.int gb), (.int gc), (.long gm), (.long gt), (.int gf)] maxLocals)) (T37.setTop (mkF m 133 Ls49 [(.int two)])) := by
    intro t k
    refine pre50 t ?_
    show Steps p.tables e below (T37.setTop (mkF m 125 Ls49 [(.int i0), (.int i1)])) _
    by_cases hc125_51 : i1 = i0
    · skip
      refine XS.icmpYes X37.here hx rfl (pc0 := 125) (pc' := 132) rfl (hb hby at_125) rfl (XT.ii_eq_t hc125_51) (by decide) (by decide) ?_
      show Steps p.tables e below (T37.setTop (mkF m 132 Ls49 [])) _
      refine XS.iconst X37.here hx rfl (hb hby at_132) ?_
      show Steps p.tables e below (T37.setTop (mkF m 133 Ls49 [(.int (0 : Int32))])) _
      rw [show two = (0 : Int32) from by rw [h_two]; rw [if_pos hc125_51]] at k
      exact k
    · skip
      refine XS.icmpNo X37.here hx rfl (hb hby at_125) rfl (XT.ii_eq_f hc125_51) ?_
      show Steps p.tables e below (T37.setTop (mkF m 128 Ls49 [])) _
      refine XS.iconst X37.here hx rfl (hb hby at_128) ?_
      show Steps p.tables e below (T37.setTop (mkF m 129 Ls49 [(.int (1 : Int32))])) _
      refine XS.goto X37.here hx rfl (pc0 := 129) (pc' := 133) rfl (hb hby at_129) (by decide) (by decide) ?_
      show Steps p.tables e below (T37.setTop (mkF m 133 Ls49 [(.int (1 : Int32))])) _
      rw [show two = (1 : Int32) from by rw [h_two]; rw [if_neg hc125_51]] at k
      exact k
  obtain ⟨Ls53, hLs53⟩ : ∃ z : Array Slot, z = #[.val (.int ga), .val (.int gb), .val (.int gc), .val (.long gm), .second, .val (.long gt), .second, .val (.int gf), .val (.int mn), .val (.int tn), .val (.int les), .val (.int grt), .val (.ref bm), .val (.ref bt), .val r14, .val r15, .val (.int i0), .val (.int i1), .val (.int two), .unset, .unset, .unset, .unset, .unset, .unset, .unset, .unset, .unset, .unset, .unset, .unset, .unset, .unset, .unset, .unset, .unset, .unset, .unset, .unset, .unset, .unset, .unset, .unset, .unset, .unset, .unset] := ⟨_, rfl⟩
  have pre54 : Go p e below (s₁.setTop (entryFrame m #[(.int ga), (.int gb), (.int gc), (.long gm), (.long gt), (.int gf)] maxLocals)) (T37.setTop (mkF m 137 Ls53 [(.int i0)])) := by
    intro t k
    refine pre52 t ?_
    show Steps p.tables e below (T37.setTop (mkF m 133 Ls49 [(.int two)])) _
    refine XS.istore X37.here hx rfl (hb hby at_133) rfl (l' := Ls53) (by rw [hLs53, hLs49]; first | done | rfl) ?_
    show Steps p.tables e below (T37.setTop (mkF m 135 Ls53 [])) _
    refine XS.iload X37.here hx rfl (hb hby at_135) (by rw [hLs53]; first | done | rfl) ?_
    show Steps p.tables e below (T37.setTop (mkF m 137 Ls53 [(.int i0)])) _
    exact k
  obtain ⟨hl, h_hl⟩ : ∃ z : Int32, z = (if (0 : Int32) < i0 then (1 : Int32) else (0 : Int32)) := ⟨_, rfl⟩
  have pre56 : Go p e below (s₁.setTop (entryFrame m #[(.int ga), (.int gb), (.int gc), (.long gm), (.long gt), (.int gf)] maxLocals)) (T37.setTop (mkF m 145 Ls53 [(.int hl)])) := by
    intro t k
    refine pre54 t ?_
    show Steps p.tables e below (T37.setTop (mkF m 137 Ls53 [(.int i0)])) _
    by_cases hc137_55 : (0 : Int32) < i0
    · skip
      refine XS.ifNo X37.here hx rfl (hb hby at_137) rfl (XT.i0_le_f hc137_55) ?_
      show Steps p.tables e below (T37.setTop (mkF m 140 Ls53 [])) _
      refine XS.iconst X37.here hx rfl (hb hby at_140) ?_
      show Steps p.tables e below (T37.setTop (mkF m 141 Ls53 [(.int (1 : Int32))])) _
      refine XS.goto X37.here hx rfl (pc0 := 141) (pc' := 145) rfl (hb hby at_141) (by decide) (by decide) ?_
      show Steps p.tables e below (T37.setTop (mkF m 145 Ls53 [(.int (1 : Int32))])) _
      rw [show hl = (1 : Int32) from by rw [h_hl]; rw [if_pos hc137_55]] at k
      exact k
    · skip
      refine XS.ifYes X37.here hx rfl (pc0 := 137) (pc' := 144) rfl (hb hby at_137) rfl (XT.i0_le_t hc137_55) (by decide) (by decide) ?_
      show Steps p.tables e below (T37.setTop (mkF m 144 Ls53 [])) _
      refine XS.iconst X37.here hx rfl (hb hby at_144) ?_
      show Steps p.tables e below (T37.setTop (mkF m 145 Ls53 [(.int (0 : Int32))])) _
      rw [show hl = (0 : Int32) from by rw [h_hl]; rw [if_neg hc137_55]] at k
      exact k
  obtain ⟨Ls57, hLs57⟩ : ∃ z : Array Slot, z = #[.val (.int ga), .val (.int gb), .val (.int gc), .val (.long gm), .second, .val (.long gt), .second, .val (.int gf), .val (.int mn), .val (.int tn), .val (.int les), .val (.int grt), .val (.ref bm), .val (.ref bt), .val r14, .val r15, .val (.int i0), .val (.int i1), .val (.int two), .val (.int hl), .unset, .unset, .unset, .unset, .unset, .unset, .unset, .unset, .unset, .unset, .unset, .unset, .unset, .unset, .unset, .unset, .unset, .unset, .unset, .unset, .unset, .unset, .unset, .unset, .unset, .unset] := ⟨_, rfl⟩
  have pre58 : Go p e below (s₁.setTop (entryFrame m #[(.int ga), (.int gb), (.int gc), (.long gm), (.long gt), (.int gf)] maxLocals)) (T37.setTop (mkF m 152 Ls57 [(.int (1998 : Int32)), (.int i1)])) := by
    intro t k
    refine pre56 t ?_
    show Steps p.tables e below (T37.setTop (mkF m 145 Ls53 [(.int hl)])) _
    refine XS.istore X37.here hx rfl (hb hby at_145) rfl (l' := Ls57) (by rw [hLs57, hLs53]; first | done | rfl) ?_
    show Steps p.tables e below (T37.setTop (mkF m 147 Ls57 [])) _
    refine XS.iload X37.here hx rfl (hb hby at_147) (by rw [hLs57]; first | done | rfl) ?_
    show Steps p.tables e below (T37.setTop (mkF m 149 Ls57 [(.int i1)])) _
    refine XS.sipush X37.here hx rfl (hb hby at_149) ?_
    show Steps p.tables e below (T37.setTop (mkF m 152 Ls57 [(.int (1998 : Int32)), (.int i1)])) _
    exact k
  obtain ⟨hh, h_hh⟩ : ∃ z : Int32, z = (if i1 < (1998 : Int32) then (1 : Int32) else (0 : Int32)) := ⟨_, rfl⟩
  have pre60 : Go p e below (s₁.setTop (entryFrame m #[(.int ga), (.int gb), (.int gc), (.long gm), (.long gt), (.int gf)] maxLocals)) (T37.setTop (mkF m 160 Ls57 [(.int hh)])) := by
    intro t k
    refine pre58 t ?_
    show Steps p.tables e below (T37.setTop (mkF m 152 Ls57 [(.int (1998 : Int32)), (.int i1)])) _
    by_cases hc152_59 : i1 < (1998 : Int32)
    · skip
      refine XS.icmpNo X37.here hx rfl (hb hby at_152) rfl (XT.ii_ge_f hc152_59) ?_
      show Steps p.tables e below (T37.setTop (mkF m 155 Ls57 [])) _
      refine XS.iconst X37.here hx rfl (hb hby at_155) ?_
      show Steps p.tables e below (T37.setTop (mkF m 156 Ls57 [(.int (1 : Int32))])) _
      refine XS.goto X37.here hx rfl (pc0 := 156) (pc' := 160) rfl (hb hby at_156) (by decide) (by decide) ?_
      show Steps p.tables e below (T37.setTop (mkF m 160 Ls57 [(.int (1 : Int32))])) _
      rw [show hh = (1 : Int32) from by rw [h_hh]; rw [if_pos hc152_59]] at k
      exact k
    · skip
      refine XS.icmpYes X37.here hx rfl (pc0 := 152) (pc' := 159) rfl (hb hby at_152) rfl (XT.ii_ge_t hc152_59) (by decide) (by decide) ?_
      show Steps p.tables e below (T37.setTop (mkF m 159 Ls57 [])) _
      refine XS.iconst X37.here hx rfl (hb hby at_159) ?_
      show Steps p.tables e below (T37.setTop (mkF m 160 Ls57 [(.int (0 : Int32))])) _
      rw [show hh = (0 : Int32) from by rw [h_hh]; rw [if_neg hc152_59]] at k
      exact k
  obtain ⟨Ls61, hLs61⟩ : ∃ z : Array Slot, z = #[.val (.int ga), .val (.int gb), .val (.int gc), .val (.long gm), .second, .val (.long gt), .second, .val (.int gf), .val (.int mn), .val (.int tn), .val (.int les), .val (.int grt), .val (.ref bm), .val (.ref bt), .val r14, .val r15, .val (.int i0), .val (.int i1), .val (.int two), .val (.int hl), .val (.int hh), .unset, .unset, .unset, .unset, .unset, .unset, .unset, .unset, .unset, .unset, .unset, .unset, .unset, .unset, .unset, .unset, .unset, .unset, .unset, .unset, .unset, .unset, .unset, .unset, .unset] := ⟨_, rfl⟩
  have pre62 : Go p e below (s₁.setTop (entryFrame m #[(.int ga), (.int gb), (.int gc), (.long gm), (.long gt), (.int gf)] maxLocals)) (T37.setTop (mkF m 166 Ls61 [(.int (i0 - (1 : Int32)))])) := by
    intro t k
    refine pre60 t ?_
    show Steps p.tables e below (T37.setTop (mkF m 160 Ls57 [(.int hh)])) _
    refine XS.istore X37.here hx rfl (hb hby at_160) rfl (l' := Ls61) (by rw [hLs61, hLs57]; first | done | rfl) ?_
    show Steps p.tables e below (T37.setTop (mkF m 162 Ls61 [])) _
    refine XS.iload X37.here hx rfl (hb hby at_162) (by rw [hLs61]; first | done | rfl) ?_
    show Steps p.tables e below (T37.setTop (mkF m 164 Ls61 [(.int i0)])) _
    refine XS.iconst X37.here hx rfl (hb hby at_164) ?_
    show Steps p.tables e below (T37.setTop (mkF m 165 Ls61 [(.int (1 : Int32)), (.int i0)])) _
    refine XS.isub X37.here hx rfl (hb hby at_165) rfl ?_
    show Steps p.tables e below (T37.setTop (mkF m 166 Ls61 [(.int (i0 - (1 : Int32)))])) _
    exact k
  obtain ⟨lo, h_lo⟩ : ∃ z : Int32, z = (i0 - (1 : Int32)) := ⟨_, rfl⟩
  have pre63 : Go p e below (s₁.setTop (entryFrame m #[(.int ga), (.int gb), (.int gc), (.long gm), (.long gt), (.int gf)] maxLocals)) (T37.setTop (mkF m 166 Ls61 [(.int lo)])) := by rw [h_lo]; exact pre62
  obtain ⟨Ls64, hLs64⟩ : ∃ z : Array Slot, z = #[.val (.int ga), .val (.int gb), .val (.int gc), .val (.long gm), .second, .val (.long gt), .second, .val (.int gf), .val (.int mn), .val (.int tn), .val (.int les), .val (.int grt), .val (.ref bm), .val (.ref bt), .val r14, .val r15, .val (.int i0), .val (.int i1), .val (.int two), .val (.int hl), .val (.int hh), .val (.int lo), .unset, .unset, .unset, .unset, .unset, .unset, .unset, .unset, .unset, .unset, .unset, .unset, .unset, .unset, .unset, .unset, .unset, .unset, .unset, .unset, .unset, .unset, .unset, .unset] := ⟨_, rfl⟩
  have pre65 : Go p e below (s₁.setTop (entryFrame m #[(.int ga), (.int gb), (.int gc), (.long gm), (.long gt), (.int gf)] maxLocals)) (T37.setTop (mkF m 172 Ls64 [(.int (i1 + (1 : Int32)))])) := by
    intro t k
    refine pre63 t ?_
    show Steps p.tables e below (T37.setTop (mkF m 166 Ls61 [(.int lo)])) _
    refine XS.istore X37.here hx rfl (hb hby at_166) rfl (l' := Ls64) (by rw [hLs64, hLs61]; first | done | rfl) ?_
    show Steps p.tables e below (T37.setTop (mkF m 168 Ls64 [])) _
    refine XS.iload X37.here hx rfl (hb hby at_168) (by rw [hLs64]; first | done | rfl) ?_
    show Steps p.tables e below (T37.setTop (mkF m 170 Ls64 [(.int i1)])) _
    refine XS.iconst X37.here hx rfl (hb hby at_170) ?_
    show Steps p.tables e below (T37.setTop (mkF m 171 Ls64 [(.int (1 : Int32)), (.int i1)])) _
    refine XS.iadd X37.here hx rfl (hb hby at_171) rfl ?_
    show Steps p.tables e below (T37.setTop (mkF m 172 Ls64 [(.int (i1 + (1 : Int32)))])) _
    exact k
  obtain ⟨hi, h_hi⟩ : ∃ z : Int32, z = (i1 + (1 : Int32)) := ⟨_, rfl⟩
  have pre66 : Go p e below (s₁.setTop (entryFrame m #[(.int ga), (.int gb), (.int gc), (.long gm), (.long gt), (.int gf)] maxLocals)) (T37.setTop (mkF m 172 Ls64 [(.int hi)])) := by rw [h_hi]; exact pre65
  obtain ⟨PP, hj1, hin0, hin1, hinL, hinH, htw⟩ := own_geo hles hgrt h_i0 h_i1 h_two h_hl h_hh h_lo h_hi
  obtain ⟨Ls67, hLs67⟩ : ∃ z : Array Slot, z = #[.val (.int ga), .val (.int gb), .val (.int gc), .val (.long gm), .second, .val (.long gt), .second, .val (.int gf), .val (.int mn), .val (.int tn), .val (.int les), .val (.int grt), .val (.ref bm), .val (.ref bt), .val r14, .val r15, .val (.int i0), .val (.int i1), .val (.int two), .val (.int hl), .val (.int hh), .val (.int lo), .val (.int hi), .unset, .unset, .unset, .unset, .unset, .unset, .unset, .unset, .unset, .unset, .unset, .unset, .unset, .unset, .unset, .unset, .unset, .unset, .unset, .unset, .unset, .unset, .unset] := ⟨_, rfl⟩
  have pre68 : Go p e below (s₁.setTop (entryFrame m #[(.int ga), (.int gb), (.int gc), (.long gm), (.long gt), (.int gf)] maxLocals)) (T37.setTop (mkF m 179 Ls67 [(.int (gb &&& (255 : Int32)))])) := by
    intro t k
    refine pre66 t ?_
    show Steps p.tables e below (T37.setTop (mkF m 172 Ls64 [(.int hi)])) _
    refine XS.istore X37.here hx rfl (hb hby at_172) rfl (l' := Ls67) (by rw [hLs67, hLs64]; first | done | rfl) ?_
    show Steps p.tables e below (T37.setTop (mkF m 174 Ls67 [])) _
    refine XS.iloadN X37.here hx rfl (hb hby at_174) (by rw [hLs67]; first | done | rfl) ?_
    show Steps p.tables e below (T37.setTop (mkF m 175 Ls67 [(.int gb)])) _
    refine XS.sipush X37.here hx rfl (hb hby at_175) ?_
    show Steps p.tables e below (T37.setTop (mkF m 178 Ls67 [(.int (255 : Int32)), (.int gb)])) _
    refine XS.iand X37.here hx rfl (hb hby at_178) rfl ?_
    show Steps p.tables e below (T37.setTop (mkF m 179 Ls67 [(.int (gb &&& (255 : Int32)))])) _
    exact k
  obtain ⟨x0, h_x0⟩ : ∃ z : Int32, z = (gb &&& (255 : Int32)) := ⟨_, rfl⟩
  have pre69 : Go p e below (s₁.setTop (entryFrame m #[(.int ga), (.int gb), (.int gc), (.long gm), (.long gt), (.int gf)] maxLocals)) (T37.setTop (mkF m 179 Ls67 [(.int x0)])) := by rw [h_x0]; exact pre68
  obtain ⟨Ls70, hLs70⟩ : ∃ z : Array Slot, z = #[.val (.int ga), .val (.int gb), .val (.int gc), .val (.long gm), .second, .val (.long gt), .second, .val (.int gf), .val (.int mn), .val (.int tn), .val (.int les), .val (.int grt), .val (.ref bm), .val (.ref bt), .val r14, .val r15, .val (.int i0), .val (.int i1), .val (.int two), .val (.int hl), .val (.int hh), .val (.int lo), .val (.int hi), .val (.int x0), .unset, .unset, .unset, .unset, .unset, .unset, .unset, .unset, .unset, .unset, .unset, .unset, .unset, .unset, .unset, .unset, .unset, .unset, .unset, .unset, .unset, .unset] := ⟨_, rfl⟩
  have pre71 : Go p e below (s₁.setTop (entryFrame m #[(.int ga), (.int gb), (.int gc), (.long gm), (.long gt), (.int gf)] maxLocals)) (T37.setTop (mkF m 186 Ls70 [(.int (gc &&& (255 : Int32)))])) := by
    intro t k
    refine pre69 t ?_
    show Steps p.tables e below (T37.setTop (mkF m 179 Ls67 [(.int x0)])) _
    refine XS.istore X37.here hx rfl (hb hby at_179) rfl (l' := Ls70) (by rw [hLs70, hLs67]; first | done | rfl) ?_
    show Steps p.tables e below (T37.setTop (mkF m 181 Ls70 [])) _
    refine XS.iloadN X37.here hx rfl (hb hby at_181) (by rw [hLs70]; first | done | rfl) ?_
    show Steps p.tables e below (T37.setTop (mkF m 182 Ls70 [(.int gc)])) _
    refine XS.sipush X37.here hx rfl (hb hby at_182) ?_
    show Steps p.tables e below (T37.setTop (mkF m 185 Ls70 [(.int (255 : Int32)), (.int gc)])) _
    refine XS.iand X37.here hx rfl (hb hby at_185) rfl ?_
    show Steps p.tables e below (T37.setTop (mkF m 186 Ls70 [(.int (gc &&& (255 : Int32)))])) _
    exact k
  obtain ⟨y0, h_y0⟩ : ∃ z : Int32, z = (gc &&& (255 : Int32)) := ⟨_, rfl⟩
  have pre72 : Go p e below (s₁.setTop (entryFrame m #[(.int ga), (.int gb), (.int gc), (.long gm), (.long gt), (.int gf)] maxLocals)) (T37.setTop (mkF m 186 Ls70 [(.int y0)])) := by rw [h_y0]; exact pre71
  obtain ⟨Ls73, hLs73⟩ : ∃ z : Array Slot, z = #[.val (.int ga), .val (.int gb), .val (.int gc), .val (.long gm), .second, .val (.long gt), .second, .val (.int gf), .val (.int mn), .val (.int tn), .val (.int les), .val (.int grt), .val (.ref bm), .val (.ref bt), .val r14, .val r15, .val (.int i0), .val (.int i1), .val (.int two), .val (.int hl), .val (.int hh), .val (.int lo), .val (.int hi), .val (.int x0), .val (.int y0), .unset, .unset, .unset, .unset, .unset, .unset, .unset, .unset, .unset, .unset, .unset, .unset, .unset, .unset, .unset, .unset, .unset, .unset, .unset, .unset, .unset] := ⟨_, rfl⟩
  have pre74 : Go p e below (s₁.setTop (entryFrame m #[(.int ga), (.int gb), (.int gc), (.long gm), (.long gt), (.int gf)] maxLocals)) (T37.setTop (mkF m 196 Ls73 [(.int ((((gb).toUInt32 >>> (((8 : Int32)) &&& 31).toUInt32).toInt32) &&& (255 : Int32)))])) := by
    intro t k
    refine pre72 t ?_
    show Steps p.tables e below (T37.setTop (mkF m 186 Ls70 [(.int y0)])) _
    refine XS.istore X37.here hx rfl (hb hby at_186) rfl (l' := Ls73) (by rw [hLs73, hLs70]; first | done | rfl) ?_
    show Steps p.tables e below (T37.setTop (mkF m 188 Ls73 [])) _
    refine XS.iloadN X37.here hx rfl (hb hby at_188) (by rw [hLs73]; first | done | rfl) ?_
    show Steps p.tables e below (T37.setTop (mkF m 189 Ls73 [(.int gb)])) _
    refine XS.bipush X37.here hx rfl (hb hby at_189) ?_
    show Steps p.tables e below (T37.setTop (mkF m 191 Ls73 [(.int (8 : Int32)), (.int gb)])) _
    refine XS.iushr X37.here hx rfl (hb hby at_191) rfl ?_
    show Steps p.tables e below (T37.setTop (mkF m 192 Ls73 [(.int (((gb).toUInt32 >>> (((8 : Int32)) &&& 31).toUInt32).toInt32))])) _
    refine XS.sipush X37.here hx rfl (hb hby at_192) ?_
    show Steps p.tables e below (T37.setTop (mkF m 195 Ls73 [(.int (255 : Int32)), (.int (((gb).toUInt32 >>> (((8 : Int32)) &&& 31).toUInt32).toInt32))])) _
    refine XS.iand X37.here hx rfl (hb hby at_195) rfl ?_
    show Steps p.tables e below (T37.setTop (mkF m 196 Ls73 [(.int ((((gb).toUInt32 >>> (((8 : Int32)) &&& 31).toUInt32).toInt32) &&& (255 : Int32)))])) _
    exact k
  obtain ⟨x1, h_x1⟩ : ∃ z : Int32, z = ((((gb).toUInt32 >>> (((8 : Int32)) &&& 31).toUInt32).toInt32) &&& (255 : Int32)) := ⟨_, rfl⟩
  have pre75 : Go p e below (s₁.setTop (entryFrame m #[(.int ga), (.int gb), (.int gc), (.long gm), (.long gt), (.int gf)] maxLocals)) (T37.setTop (mkF m 196 Ls73 [(.int x1)])) := by rw [h_x1]; exact pre74
  obtain ⟨Ls76, hLs76⟩ : ∃ z : Array Slot, z = #[.val (.int ga), .val (.int gb), .val (.int gc), .val (.long gm), .second, .val (.long gt), .second, .val (.int gf), .val (.int mn), .val (.int tn), .val (.int les), .val (.int grt), .val (.ref bm), .val (.ref bt), .val r14, .val r15, .val (.int i0), .val (.int i1), .val (.int two), .val (.int hl), .val (.int hh), .val (.int lo), .val (.int hi), .val (.int x0), .val (.int y0), .val (.int x1), .unset, .unset, .unset, .unset, .unset, .unset, .unset, .unset, .unset, .unset, .unset, .unset, .unset, .unset, .unset, .unset, .unset, .unset, .unset, .unset] := ⟨_, rfl⟩
  have pre77 : Go p e below (s₁.setTop (entryFrame m #[(.int ga), (.int gb), (.int gc), (.long gm), (.long gt), (.int gf)] maxLocals)) (T37.setTop (mkF m 206 Ls76 [(.int ((((gc).toUInt32 >>> (((8 : Int32)) &&& 31).toUInt32).toInt32) &&& (255 : Int32)))])) := by
    intro t k
    refine pre75 t ?_
    show Steps p.tables e below (T37.setTop (mkF m 196 Ls73 [(.int x1)])) _
    refine XS.istore X37.here hx rfl (hb hby at_196) rfl (l' := Ls76) (by rw [hLs76, hLs73]; first | done | rfl) ?_
    show Steps p.tables e below (T37.setTop (mkF m 198 Ls76 [])) _
    refine XS.iloadN X37.here hx rfl (hb hby at_198) (by rw [hLs76]; first | done | rfl) ?_
    show Steps p.tables e below (T37.setTop (mkF m 199 Ls76 [(.int gc)])) _
    refine XS.bipush X37.here hx rfl (hb hby at_199) ?_
    show Steps p.tables e below (T37.setTop (mkF m 201 Ls76 [(.int (8 : Int32)), (.int gc)])) _
    refine XS.iushr X37.here hx rfl (hb hby at_201) rfl ?_
    show Steps p.tables e below (T37.setTop (mkF m 202 Ls76 [(.int (((gc).toUInt32 >>> (((8 : Int32)) &&& 31).toUInt32).toInt32))])) _
    refine XS.sipush X37.here hx rfl (hb hby at_202) ?_
    show Steps p.tables e below (T37.setTop (mkF m 205 Ls76 [(.int (255 : Int32)), (.int (((gc).toUInt32 >>> (((8 : Int32)) &&& 31).toUInt32).toInt32))])) _
    refine XS.iand X37.here hx rfl (hb hby at_205) rfl ?_
    show Steps p.tables e below (T37.setTop (mkF m 206 Ls76 [(.int ((((gc).toUInt32 >>> (((8 : Int32)) &&& 31).toUInt32).toInt32) &&& (255 : Int32)))])) _
    exact k
  obtain ⟨y1, h_y1⟩ : ∃ z : Int32, z = ((((gc).toUInt32 >>> (((8 : Int32)) &&& 31).toUInt32).toInt32) &&& (255 : Int32)) := ⟨_, rfl⟩
  have pre78 : Go p e below (s₁.setTop (entryFrame m #[(.int ga), (.int gb), (.int gc), (.long gm), (.long gt), (.int gf)] maxLocals)) (T37.setTop (mkF m 206 Ls76 [(.int y1)])) := by rw [h_y1]; exact pre77
  obtain ⟨Ls79, hLs79⟩ : ∃ z : Array Slot, z = #[.val (.int ga), .val (.int gb), .val (.int gc), .val (.long gm), .second, .val (.long gt), .second, .val (.int gf), .val (.int mn), .val (.int tn), .val (.int les), .val (.int grt), .val (.ref bm), .val (.ref bt), .val r14, .val r15, .val (.int i0), .val (.int i1), .val (.int two), .val (.int hl), .val (.int hh), .val (.int lo), .val (.int hi), .val (.int x0), .val (.int y0), .val (.int x1), .val (.int y1), .unset, .unset, .unset, .unset, .unset, .unset, .unset, .unset, .unset, .unset, .unset, .unset, .unset, .unset, .unset, .unset, .unset, .unset, .unset] := ⟨_, rfl⟩
  have pre80 : Go p e below (s₁.setTop (entryFrame m #[(.int ga), (.int gb), (.int gc), (.long gm), (.long gt), (.int gf)] maxLocals)) (T37.setTop (mkF m 216 Ls79 [(.int ((((gb).toUInt32 >>> (((16 : Int32)) &&& 31).toUInt32).toInt32) &&& (255 : Int32)))])) := by
    intro t k
    refine pre78 t ?_
    show Steps p.tables e below (T37.setTop (mkF m 206 Ls76 [(.int y1)])) _
    refine XS.istore X37.here hx rfl (hb hby at_206) rfl (l' := Ls79) (by rw [hLs79, hLs76]; first | done | rfl) ?_
    show Steps p.tables e below (T37.setTop (mkF m 208 Ls79 [])) _
    refine XS.iloadN X37.here hx rfl (hb hby at_208) (by rw [hLs79]; first | done | rfl) ?_
    show Steps p.tables e below (T37.setTop (mkF m 209 Ls79 [(.int gb)])) _
    refine XS.bipush X37.here hx rfl (hb hby at_209) ?_
    show Steps p.tables e below (T37.setTop (mkF m 211 Ls79 [(.int (16 : Int32)), (.int gb)])) _
    refine XS.iushr X37.here hx rfl (hb hby at_211) rfl ?_
    show Steps p.tables e below (T37.setTop (mkF m 212 Ls79 [(.int (((gb).toUInt32 >>> (((16 : Int32)) &&& 31).toUInt32).toInt32))])) _
    refine XS.sipush X37.here hx rfl (hb hby at_212) ?_
    show Steps p.tables e below (T37.setTop (mkF m 215 Ls79 [(.int (255 : Int32)), (.int (((gb).toUInt32 >>> (((16 : Int32)) &&& 31).toUInt32).toInt32))])) _
    refine XS.iand X37.here hx rfl (hb hby at_215) rfl ?_
    show Steps p.tables e below (T37.setTop (mkF m 216 Ls79 [(.int ((((gb).toUInt32 >>> (((16 : Int32)) &&& 31).toUInt32).toInt32) &&& (255 : Int32)))])) _
    exact k
  obtain ⟨xl, h_xl⟩ : ∃ z : Int32, z = ((((gb).toUInt32 >>> (((16 : Int32)) &&& 31).toUInt32).toInt32) &&& (255 : Int32)) := ⟨_, rfl⟩
  have pre81 : Go p e below (s₁.setTop (entryFrame m #[(.int ga), (.int gb), (.int gc), (.long gm), (.long gt), (.int gf)] maxLocals)) (T37.setTop (mkF m 216 Ls79 [(.int xl)])) := by rw [h_xl]; exact pre80
  obtain ⟨Ls82, hLs82⟩ : ∃ z : Array Slot, z = #[.val (.int ga), .val (.int gb), .val (.int gc), .val (.long gm), .second, .val (.long gt), .second, .val (.int gf), .val (.int mn), .val (.int tn), .val (.int les), .val (.int grt), .val (.ref bm), .val (.ref bt), .val r14, .val r15, .val (.int i0), .val (.int i1), .val (.int two), .val (.int hl), .val (.int hh), .val (.int lo), .val (.int hi), .val (.int x0), .val (.int y0), .val (.int x1), .val (.int y1), .val (.int xl), .unset, .unset, .unset, .unset, .unset, .unset, .unset, .unset, .unset, .unset, .unset, .unset, .unset, .unset, .unset, .unset, .unset, .unset] := ⟨_, rfl⟩
  have pre83 : Go p e below (s₁.setTop (entryFrame m #[(.int ga), (.int gb), (.int gc), (.long gm), (.long gt), (.int gf)] maxLocals)) (T37.setTop (mkF m 226 Ls82 [(.int ((((gc).toUInt32 >>> (((16 : Int32)) &&& 31).toUInt32).toInt32) &&& (255 : Int32)))])) := by
    intro t k
    refine pre81 t ?_
    show Steps p.tables e below (T37.setTop (mkF m 216 Ls79 [(.int xl)])) _
    refine XS.istore X37.here hx rfl (hb hby at_216) rfl (l' := Ls82) (by rw [hLs82, hLs79]; first | done | rfl) ?_
    show Steps p.tables e below (T37.setTop (mkF m 218 Ls82 [])) _
    refine XS.iloadN X37.here hx rfl (hb hby at_218) (by rw [hLs82]; first | done | rfl) ?_
    show Steps p.tables e below (T37.setTop (mkF m 219 Ls82 [(.int gc)])) _
    refine XS.bipush X37.here hx rfl (hb hby at_219) ?_
    show Steps p.tables e below (T37.setTop (mkF m 221 Ls82 [(.int (16 : Int32)), (.int gc)])) _
    refine XS.iushr X37.here hx rfl (hb hby at_221) rfl ?_
    show Steps p.tables e below (T37.setTop (mkF m 222 Ls82 [(.int (((gc).toUInt32 >>> (((16 : Int32)) &&& 31).toUInt32).toInt32))])) _
    refine XS.sipush X37.here hx rfl (hb hby at_222) ?_
    show Steps p.tables e below (T37.setTop (mkF m 225 Ls82 [(.int (255 : Int32)), (.int (((gc).toUInt32 >>> (((16 : Int32)) &&& 31).toUInt32).toInt32))])) _
    refine XS.iand X37.here hx rfl (hb hby at_225) rfl ?_
    show Steps p.tables e below (T37.setTop (mkF m 226 Ls82 [(.int ((((gc).toUInt32 >>> (((16 : Int32)) &&& 31).toUInt32).toInt32) &&& (255 : Int32)))])) _
    exact k
  obtain ⟨yl, h_yl⟩ : ∃ z : Int32, z = ((((gc).toUInt32 >>> (((16 : Int32)) &&& 31).toUInt32).toInt32) &&& (255 : Int32)) := ⟨_, rfl⟩
  have pre84 : Go p e below (s₁.setTop (entryFrame m #[(.int ga), (.int gb), (.int gc), (.long gm), (.long gt), (.int gf)] maxLocals)) (T37.setTop (mkF m 226 Ls82 [(.int yl)])) := by rw [h_yl]; exact pre83
  obtain ⟨Ls85, hLs85⟩ : ∃ z : Array Slot, z = #[.val (.int ga), .val (.int gb), .val (.int gc), .val (.long gm), .second, .val (.long gt), .second, .val (.int gf), .val (.int mn), .val (.int tn), .val (.int les), .val (.int grt), .val (.ref bm), .val (.ref bt), .val r14, .val r15, .val (.int i0), .val (.int i1), .val (.int two), .val (.int hl), .val (.int hh), .val (.int lo), .val (.int hi), .val (.int x0), .val (.int y0), .val (.int x1), .val (.int y1), .val (.int xl), .val (.int yl), .unset, .unset, .unset, .unset, .unset, .unset, .unset, .unset, .unset, .unset, .unset, .unset, .unset, .unset, .unset, .unset, .unset] := ⟨_, rfl⟩
  have pre86 : Go p e below (s₁.setTop (entryFrame m #[(.int ga), (.int gb), (.int gc), (.long gm), (.long gt), (.int gf)] maxLocals)) (T37.setTop (mkF m 236 Ls85 [(.int ((((gb).toUInt32 >>> (((24 : Int32)) &&& 31).toUInt32).toInt32) &&& (255 : Int32)))])) := by
    intro t k
    refine pre84 t ?_
    show Steps p.tables e below (T37.setTop (mkF m 226 Ls82 [(.int yl)])) _
    refine XS.istore X37.here hx rfl (hb hby at_226) rfl (l' := Ls85) (by rw [hLs85, hLs82]; first | done | rfl) ?_
    show Steps p.tables e below (T37.setTop (mkF m 228 Ls85 [])) _
    refine XS.iloadN X37.here hx rfl (hb hby at_228) (by rw [hLs85]; first | done | rfl) ?_
    show Steps p.tables e below (T37.setTop (mkF m 229 Ls85 [(.int gb)])) _
    refine XS.bipush X37.here hx rfl (hb hby at_229) ?_
    show Steps p.tables e below (T37.setTop (mkF m 231 Ls85 [(.int (24 : Int32)), (.int gb)])) _
    refine XS.iushr X37.here hx rfl (hb hby at_231) rfl ?_
    show Steps p.tables e below (T37.setTop (mkF m 232 Ls85 [(.int (((gb).toUInt32 >>> (((24 : Int32)) &&& 31).toUInt32).toInt32))])) _
    refine XS.sipush X37.here hx rfl (hb hby at_232) ?_
    show Steps p.tables e below (T37.setTop (mkF m 235 Ls85 [(.int (255 : Int32)), (.int (((gb).toUInt32 >>> (((24 : Int32)) &&& 31).toUInt32).toInt32))])) _
    refine XS.iand X37.here hx rfl (hb hby at_235) rfl ?_
    show Steps p.tables e below (T37.setTop (mkF m 236 Ls85 [(.int ((((gb).toUInt32 >>> (((24 : Int32)) &&& 31).toUInt32).toInt32) &&& (255 : Int32)))])) _
    exact k
  obtain ⟨xh, h_xh⟩ : ∃ z : Int32, z = ((((gb).toUInt32 >>> (((24 : Int32)) &&& 31).toUInt32).toInt32) &&& (255 : Int32)) := ⟨_, rfl⟩
  have pre87 : Go p e below (s₁.setTop (entryFrame m #[(.int ga), (.int gb), (.int gc), (.long gm), (.long gt), (.int gf)] maxLocals)) (T37.setTop (mkF m 236 Ls85 [(.int xh)])) := by rw [h_xh]; exact pre86
  obtain ⟨Ls88, hLs88⟩ : ∃ z : Array Slot, z = #[.val (.int ga), .val (.int gb), .val (.int gc), .val (.long gm), .second, .val (.long gt), .second, .val (.int gf), .val (.int mn), .val (.int tn), .val (.int les), .val (.int grt), .val (.ref bm), .val (.ref bt), .val r14, .val r15, .val (.int i0), .val (.int i1), .val (.int two), .val (.int hl), .val (.int hh), .val (.int lo), .val (.int hi), .val (.int x0), .val (.int y0), .val (.int x1), .val (.int y1), .val (.int xl), .val (.int yl), .val (.int xh), .unset, .unset, .unset, .unset, .unset, .unset, .unset, .unset, .unset, .unset, .unset, .unset, .unset, .unset, .unset, .unset] := ⟨_, rfl⟩
  have pre89 : Go p e below (s₁.setTop (entryFrame m #[(.int ga), (.int gb), (.int gc), (.long gm), (.long gt), (.int gf)] maxLocals)) (T37.setTop (mkF m 246 Ls88 [(.int ((((gc).toUInt32 >>> (((24 : Int32)) &&& 31).toUInt32).toInt32) &&& (255 : Int32)))])) := by
    intro t k
    refine pre87 t ?_
    show Steps p.tables e below (T37.setTop (mkF m 236 Ls85 [(.int xh)])) _
    refine XS.istore X37.here hx rfl (hb hby at_236) rfl (l' := Ls88) (by rw [hLs88, hLs85]; first | done | rfl) ?_
    show Steps p.tables e below (T37.setTop (mkF m 238 Ls88 [])) _
    refine XS.iloadN X37.here hx rfl (hb hby at_238) (by rw [hLs88]; first | done | rfl) ?_
    show Steps p.tables e below (T37.setTop (mkF m 239 Ls88 [(.int gc)])) _
    refine XS.bipush X37.here hx rfl (hb hby at_239) ?_
    show Steps p.tables e below (T37.setTop (mkF m 241 Ls88 [(.int (24 : Int32)), (.int gc)])) _
    refine XS.iushr X37.here hx rfl (hb hby at_241) rfl ?_
    show Steps p.tables e below (T37.setTop (mkF m 242 Ls88 [(.int (((gc).toUInt32 >>> (((24 : Int32)) &&& 31).toUInt32).toInt32))])) _
    refine XS.sipush X37.here hx rfl (hb hby at_242) ?_
    show Steps p.tables e below (T37.setTop (mkF m 245 Ls88 [(.int (255 : Int32)), (.int (((gc).toUInt32 >>> (((24 : Int32)) &&& 31).toUInt32).toInt32))])) _
    refine XS.iand X37.here hx rfl (hb hby at_245) rfl ?_
    show Steps p.tables e below (T37.setTop (mkF m 246 Ls88 [(.int ((((gc).toUInt32 >>> (((24 : Int32)) &&& 31).toUInt32).toInt32) &&& (255 : Int32)))])) _
    exact k
  obtain ⟨yh, h_yh⟩ : ∃ z : Int32, z = ((((gc).toUInt32 >>> (((24 : Int32)) &&& 31).toUInt32).toInt32) &&& (255 : Int32)) := ⟨_, rfl⟩
  have pre90 : Go p e below (s₁.setTop (entryFrame m #[(.int ga), (.int gb), (.int gc), (.long gm), (.long gt), (.int gf)] maxLocals)) (T37.setTop (mkF m 246 Ls88 [(.int yh)])) := by rw [h_yh]; exact pre89
  obtain ⟨Ls91, hLs91⟩ : ∃ z : Array Slot, z = #[.val (.int ga), .val (.int gb), .val (.int gc), .val (.long gm), .second, .val (.long gt), .second, .val (.int gf), .val (.int mn), .val (.int tn), .val (.int les), .val (.int grt), .val (.ref bm), .val (.ref bt), .val r14, .val r15, .val (.int i0), .val (.int i1), .val (.int two), .val (.int hl), .val (.int hh), .val (.int lo), .val (.int hi), .val (.int x0), .val (.int y0), .val (.int x1), .val (.int y1), .val (.int xl), .val (.int yl), .val (.int xh), .val (.int yh), .unset, .unset, .unset, .unset, .unset, .unset, .unset, .unset, .unset, .unset, .unset, .unset, .unset, .unset, .unset] := ⟨_, rfl⟩
  have pre92 : Go p e below (s₁.setTop (entryFrame m #[(.int ga), (.int gb), (.int gc), (.long gm), (.long gt), (.int gf)] maxLocals)) (T37.setTop (mkF m 250 Ls91 [(.int mn)])) := by
    intro t k
    refine pre90 t ?_
    show Steps p.tables e below (T37.setTop (mkF m 246 Ls88 [(.int yh)])) _
    refine XS.istore X37.here hx rfl (hb hby at_246) rfl (l' := Ls91) (by rw [hLs91, hLs88]; first | done | rfl) ?_
    show Steps p.tables e below (T37.setTop (mkF m 248 Ls91 [])) _
    refine XS.iload X37.here hx rfl (hb hby at_248) (by rw [hLs91]; first | done | rfl) ?_
    show Steps p.tables e below (T37.setTop (mkF m 250 Ls91 [(.int mn)])) _
    exact k
  obtain ⟨mc0, h_mc0⟩ : ∃ z : Int64, z = (if mn = (0 : Int32) then (((gm).toUInt64 >>> (((2 : Int32)) &&& 0x3f).toInt64.toUInt64).toInt64) else (0 : Int64)) := ⟨_, rfl⟩
  have pre94 : Go p e below (s₁.setTop (entryFrame m #[(.int ga), (.int gb), (.int gc), (.long gm), (.long gt), (.int gf)] maxLocals)) (T37.setTop (mkF m 260 Ls91 [(.long mc0)])) := by
    intro t k
    refine pre92 t ?_
    show Steps p.tables e below (T37.setTop (mkF m 250 Ls91 [(.int mn)])) _
    by_cases hc250_93 : mn = (0 : Int32)
    · skip
      refine XS.ifYes X37.here hx rfl (pc0 := 250) (pc' := 257) rfl (hb hby at_250) rfl (XT.i0_eq_t hc250_93) (by decide) (by decide) ?_
      show Steps p.tables e below (T37.setTop (mkF m 257 Ls91 [])) _
      refine XT.lloadN X37.here hx rfl (hb hby at_257) (by rw [hLs91]; first | done | rfl) ?_
      show Steps p.tables e below (T37.setTop (mkF m 258 Ls91 [(.long gm)])) _
      refine XS.iconst X37.here hx rfl (hb hby at_258) ?_
      show Steps p.tables e below (T37.setTop (mkF m 259 Ls91 [(.int (2 : Int32)), (.long gm)])) _
      refine XS.lushr X37.here hx rfl (hb hby at_259) rfl ?_
      show Steps p.tables e below (T37.setTop (mkF m 260 Ls91 [(.long (((gm).toUInt64 >>> (((2 : Int32)) &&& 0x3f).toInt64.toUInt64).toInt64))])) _
      rw [show mc0 = (((gm).toUInt64 >>> (((2 : Int32)) &&& 0x3f).toInt64.toUInt64).toInt64) from by rw [h_mc0]; rw [if_pos hc250_93]] at k
      exact k
    · skip
      refine XS.ifNo X37.here hx rfl (hb hby at_250) rfl (XT.i0_eq_f hc250_93) ?_
      show Steps p.tables e below (T37.setTop (mkF m 253 Ls91 [])) _
      refine XT.lconstV X37.here hx rfl (0 : Int64) (hb hby at_253) rfl ?_
      show Steps p.tables e below (T37.setTop (mkF m 254 Ls91 [(.long (0 : Int64))])) _
      refine XS.goto X37.here hx rfl (pc0 := 254) (pc' := 260) rfl (hb hby at_254) (by decide) (by decide) ?_
      show Steps p.tables e below (T37.setTop (mkF m 260 Ls91 [(.long (0 : Int64))])) _
      rw [show mc0 = (0 : Int64) from by rw [h_mc0]; rw [if_neg hc250_93]] at k
      exact k
  obtain ⟨Ls95, hLs95⟩ : ∃ z : Array Slot, z = #[.val (.int ga), .val (.int gb), .val (.int gc), .val (.long gm), .second, .val (.long gt), .second, .val (.int gf), .val (.int mn), .val (.int tn), .val (.int les), .val (.int grt), .val (.ref bm), .val (.ref bt), .val r14, .val r15, .val (.int i0), .val (.int i1), .val (.int two), .val (.int hl), .val (.int hh), .val (.int lo), .val (.int hi), .val (.int x0), .val (.int y0), .val (.int x1), .val (.int y1), .val (.int xl), .val (.int yl), .val (.int xh), .val (.int yh), .val (.long mc0), .second, .unset, .unset, .unset, .unset, .unset, .unset, .unset, .unset, .unset, .unset, .unset, .unset, .unset] := ⟨_, rfl⟩
  have pre96 : Go p e below (s₁.setTop (entryFrame m #[(.int ga), (.int gb), (.int gc), (.long gm), (.long gt), (.int gf)] maxLocals)) (T37.setTop (mkF m 264 Ls95 [(.int tn)])) := by
    intro t k
    refine pre94 t ?_
    show Steps p.tables e below (T37.setTop (mkF m 260 Ls91 [(.long mc0)])) _
    refine XT.lstore X37.here hx rfl (hb hby at_260) rfl (l' := Ls95) (by rw [hLs95, hLs91]; first | done | rfl) ?_
    show Steps p.tables e below (T37.setTop (mkF m 262 Ls95 [])) _
    refine XS.iload X37.here hx rfl (hb hby at_262) (by rw [hLs95]; first | done | rfl) ?_
    show Steps p.tables e below (T37.setTop (mkF m 264 Ls95 [(.int tn)])) _
    exact k
  obtain ⟨tc0, h_tc0⟩ : ∃ z : Int64, z = (if tn = (0 : Int32) then (((gt).toUInt64 >>> (((2 : Int32)) &&& 0x3f).toInt64.toUInt64).toInt64) else (0 : Int64)) := ⟨_, rfl⟩
  have pre98 : Go p e below (s₁.setTop (entryFrame m #[(.int ga), (.int gb), (.int gc), (.long gm), (.long gt), (.int gf)] maxLocals)) (T37.setTop (mkF m 275 Ls95 [(.long tc0)])) := by
    intro t k
    refine pre96 t ?_
    show Steps p.tables e below (T37.setTop (mkF m 264 Ls95 [(.int tn)])) _
    by_cases hc264_97 : tn = (0 : Int32)
    · skip
      refine XS.ifYes X37.here hx rfl (pc0 := 264) (pc' := 271) rfl (hb hby at_264) rfl (XT.i0_eq_t hc264_97) (by decide) (by decide) ?_
      show Steps p.tables e below (T37.setTop (mkF m 271 Ls95 [])) _
      refine XT.lload X37.here hx rfl (hb hby at_271) (by rw [hLs95]; first | done | rfl) ?_
      show Steps p.tables e below (T37.setTop (mkF m 273 Ls95 [(.long gt)])) _
      refine XS.iconst X37.here hx rfl (hb hby at_273) ?_
      show Steps p.tables e below (T37.setTop (mkF m 274 Ls95 [(.int (2 : Int32)), (.long gt)])) _
      refine XS.lushr X37.here hx rfl (hb hby at_274) rfl ?_
      show Steps p.tables e below (T37.setTop (mkF m 275 Ls95 [(.long (((gt).toUInt64 >>> (((2 : Int32)) &&& 0x3f).toInt64.toUInt64).toInt64))])) _
      rw [show tc0 = (((gt).toUInt64 >>> (((2 : Int32)) &&& 0x3f).toInt64.toUInt64).toInt64) from by rw [h_tc0]; rw [if_pos hc264_97]] at k
      exact k
    · skip
      refine XS.ifNo X37.here hx rfl (hb hby at_264) rfl (XT.i0_eq_f hc264_97) ?_
      show Steps p.tables e below (T37.setTop (mkF m 267 Ls95 [])) _
      refine XT.lconstV X37.here hx rfl (0 : Int64) (hb hby at_267) rfl ?_
      show Steps p.tables e below (T37.setTop (mkF m 268 Ls95 [(.long (0 : Int64))])) _
      refine XS.goto X37.here hx rfl (pc0 := 268) (pc' := 275) rfl (hb hby at_268) (by decide) (by decide) ?_
      show Steps p.tables e below (T37.setTop (mkF m 275 Ls95 [(.long (0 : Int64))])) _
      rw [show tc0 = (0 : Int64) from by rw [h_tc0]; rw [if_neg hc264_97]] at k
      exact k
  obtain ⟨Ls99, hLs99⟩ : ∃ z : Array Slot, z = #[.val (.int ga), .val (.int gb), .val (.int gc), .val (.long gm), .second, .val (.long gt), .second, .val (.int gf), .val (.int mn), .val (.int tn), .val (.int les), .val (.int grt), .val (.ref bm), .val (.ref bt), .val r14, .val r15, .val (.int i0), .val (.int i1), .val (.int two), .val (.int hl), .val (.int hh), .val (.int lo), .val (.int hi), .val (.int x0), .val (.int y0), .val (.int x1), .val (.int y1), .val (.int xl), .val (.int yl), .val (.int xh), .val (.int yh), .val (.long mc0), .second, .val (.long tc0), .second, .unset, .unset, .unset, .unset, .unset, .unset, .unset, .unset, .unset, .unset, .unset] := ⟨_, rfl⟩
  have pre100 : Go p e below (s₁.setTop (entryFrame m #[(.int ga), (.int gb), (.int gc), (.long gm), (.long gt), (.int gf)] maxLocals)) (T37.setTop (mkF m 279 Ls99 [(.int mn)])) := by
    intro t k
    refine pre98 t ?_
    show Steps p.tables e below (T37.setTop (mkF m 275 Ls95 [(.long tc0)])) _
    refine XT.lstore X37.here hx rfl (hb hby at_275) rfl (l' := Ls99) (by rw [hLs99, hLs95]; first | done | rfl) ?_
    show Steps p.tables e below (T37.setTop (mkF m 277 Ls99 [])) _
    refine XS.iload X37.here hx rfl (hb hby at_277) (by rw [hLs99]; first | done | rfl) ?_
    show Steps p.tables e below (T37.setTop (mkF m 279 Ls99 [(.int mn)])) _
    exact k
  obtain ⟨mc1, h_mc1⟩ : ∃ z : Int64, z = (if mn = (0 : Int32) then (gm &&& (3 : Int64)) else (0 : Int64)) := ⟨_, rfl⟩
  have pre102 : Go p e below (s₁.setTop (entryFrame m #[(.int ga), (.int gb), (.int gc), (.long gm), (.long gt), (.int gf)] maxLocals)) (T37.setTop (mkF m 291 Ls99 [(.long mc1)])) := by
    intro t k
    refine pre100 t ?_
    show Steps p.tables e below (T37.setTop (mkF m 279 Ls99 [(.int mn)])) _
    by_cases hc279_101 : mn = (0 : Int32)
    · skip
      refine XS.ifYes X37.here hx rfl (pc0 := 279) (pc' := 286) rfl (hb hby at_279) rfl (XT.i0_eq_t hc279_101) (by decide) (by decide) ?_
      show Steps p.tables e below (T37.setTop (mkF m 286 Ls99 [])) _
      refine XT.lloadN X37.here hx rfl (hb hby at_286) (by rw [hLs99]; first | done | rfl) ?_
      show Steps p.tables e below (T37.setTop (mkF m 287 Ls99 [(.long gm)])) _
      refine X37.ldc2J hx hown (mvT hZ (hw _ (List.mem_of_getElem? (i := 15) rfl))) (g := (mkF m 287 Ls99 [(.long gm)])) rfl (hb hby at_287) ?_
      show Steps p.tables e below (T37.setTop (mkF m 290 Ls99 [(.long (3 : Int64)), (.long gm)])) _
      refine XS.land X37.here hx rfl (hb hby at_290) rfl ?_
      show Steps p.tables e below (T37.setTop (mkF m 291 Ls99 [(.long (gm &&& (3 : Int64)))])) _
      rw [show mc1 = (gm &&& (3 : Int64)) from by rw [h_mc1]; rw [if_pos hc279_101]] at k
      exact k
    · skip
      refine XS.ifNo X37.here hx rfl (hb hby at_279) rfl (XT.i0_eq_f hc279_101) ?_
      show Steps p.tables e below (T37.setTop (mkF m 282 Ls99 [])) _
      refine XT.lconstV X37.here hx rfl (0 : Int64) (hb hby at_282) rfl ?_
      show Steps p.tables e below (T37.setTop (mkF m 283 Ls99 [(.long (0 : Int64))])) _
      refine XS.goto X37.here hx rfl (pc0 := 283) (pc' := 291) rfl (hb hby at_283) (by decide) (by decide) ?_
      show Steps p.tables e below (T37.setTop (mkF m 291 Ls99 [(.long (0 : Int64))])) _
      rw [show mc1 = (0 : Int64) from by rw [h_mc1]; rw [if_neg hc279_101]] at k
      exact k
  obtain ⟨Ls103, hLs103⟩ : ∃ z : Array Slot, z = #[.val (.int ga), .val (.int gb), .val (.int gc), .val (.long gm), .second, .val (.long gt), .second, .val (.int gf), .val (.int mn), .val (.int tn), .val (.int les), .val (.int grt), .val (.ref bm), .val (.ref bt), .val r14, .val r15, .val (.int i0), .val (.int i1), .val (.int two), .val (.int hl), .val (.int hh), .val (.int lo), .val (.int hi), .val (.int x0), .val (.int y0), .val (.int x1), .val (.int y1), .val (.int xl), .val (.int yl), .val (.int xh), .val (.int yh), .val (.long mc0), .second, .val (.long tc0), .second, .val (.long mc1), .second, .unset, .unset, .unset, .unset, .unset, .unset, .unset, .unset, .unset] := ⟨_, rfl⟩
  have pre104 : Go p e below (s₁.setTop (entryFrame m #[(.int ga), (.int gb), (.int gc), (.long gm), (.long gt), (.int gf)] maxLocals)) (T37.setTop (mkF m 295 Ls103 [(.int tn)])) := by
    intro t k
    refine pre102 t ?_
    show Steps p.tables e below (T37.setTop (mkF m 291 Ls99 [(.long mc1)])) _
    refine XT.lstore X37.here hx rfl (hb hby at_291) rfl (l' := Ls103) (by rw [hLs103, hLs99]; first | done | rfl) ?_
    show Steps p.tables e below (T37.setTop (mkF m 293 Ls103 [])) _
    refine XS.iload X37.here hx rfl (hb hby at_293) (by rw [hLs103]; first | done | rfl) ?_
    show Steps p.tables e below (T37.setTop (mkF m 295 Ls103 [(.int tn)])) _
    exact k
  obtain ⟨tc1, h_tc1⟩ : ∃ z : Int64, z = (if tn = (0 : Int32) then (gt &&& (3 : Int64)) else (0 : Int64)) := ⟨_, rfl⟩
  have pre106 : Go p e below (s₁.setTop (entryFrame m #[(.int ga), (.int gb), (.int gc), (.long gm), (.long gt), (.int gf)] maxLocals)) (T37.setTop (mkF m 308 Ls103 [(.long tc1)])) := by
    intro t k
    refine pre104 t ?_
    show Steps p.tables e below (T37.setTop (mkF m 295 Ls103 [(.int tn)])) _
    by_cases hc295_105 : tn = (0 : Int32)
    · skip
      refine XS.ifYes X37.here hx rfl (pc0 := 295) (pc' := 302) rfl (hb hby at_295) rfl (XT.i0_eq_t hc295_105) (by decide) (by decide) ?_
      show Steps p.tables e below (T37.setTop (mkF m 302 Ls103 [])) _
      refine XT.lload X37.here hx rfl (hb hby at_302) (by rw [hLs103]; first | done | rfl) ?_
      show Steps p.tables e below (T37.setTop (mkF m 304 Ls103 [(.long gt)])) _
      refine X37.ldc2J hx hown (mvT hZ (hw _ (List.mem_of_getElem? (i := 15) rfl))) (g := (mkF m 304 Ls103 [(.long gt)])) rfl (hb hby at_304) ?_
      show Steps p.tables e below (T37.setTop (mkF m 307 Ls103 [(.long (3 : Int64)), (.long gt)])) _
      refine XS.land X37.here hx rfl (hb hby at_307) rfl ?_
      show Steps p.tables e below (T37.setTop (mkF m 308 Ls103 [(.long (gt &&& (3 : Int64)))])) _
      rw [show tc1 = (gt &&& (3 : Int64)) from by rw [h_tc1]; rw [if_pos hc295_105]] at k
      exact k
    · skip
      refine XS.ifNo X37.here hx rfl (hb hby at_295) rfl (XT.i0_eq_f hc295_105) ?_
      show Steps p.tables e below (T37.setTop (mkF m 298 Ls103 [])) _
      refine XT.lconstV X37.here hx rfl (0 : Int64) (hb hby at_298) rfl ?_
      show Steps p.tables e below (T37.setTop (mkF m 299 Ls103 [(.long (0 : Int64))])) _
      refine XS.goto X37.here hx rfl (pc0 := 299) (pc' := 308) rfl (hb hby at_299) (by decide) (by decide) ?_
      show Steps p.tables e below (T37.setTop (mkF m 308 Ls103 [(.long (0 : Int64))])) _
      rw [show tc1 = (0 : Int64) from by rw [h_tc1]; rw [if_neg hc295_105]] at k
      exact k
  obtain ⟨Ls107, hLs107⟩ : ∃ z : Array Slot, z = #[.val (.int ga), .val (.int gb), .val (.int gc), .val (.long gm), .second, .val (.long gt), .second, .val (.int gf), .val (.int mn), .val (.int tn), .val (.int les), .val (.int grt), .val (.ref bm), .val (.ref bt), .val r14, .val r15, .val (.int i0), .val (.int i1), .val (.int two), .val (.int hl), .val (.int hh), .val (.int lo), .val (.int hi), .val (.int x0), .val (.int y0), .val (.int x1), .val (.int y1), .val (.int xl), .val (.int yl), .val (.int xh), .val (.int yh), .val (.long mc0), .second, .val (.long tc0), .second, .val (.long mc1), .second, .val (.long tc1), .second, .unset, .unset, .unset, .unset, .unset, .unset, .unset] := ⟨_, rfl⟩
  have pre108 : Go p e below (s₁.setTop (entryFrame m #[(.int ga), (.int gb), (.int gc), (.long gm), (.long gt), (.int gf)] maxLocals)) (T37.setTop (mkF m 310 Ls107 [])) := by
    intro t k
    refine pre106 t ?_
    show Steps p.tables e below (T37.setTop (mkF m 308 Ls103 [(.long tc1)])) _
    refine XT.lstore X37.here hx rfl (hb hby at_308) rfl (l' := Ls107) (by rw [hLs107, hLs103]; first | done | rfl) ?_
    show Steps p.tables e below (T37.setTop (mkF m 310 Ls107 [])) _
    exact k
  have hvm1 : ∀ {m : Int32} {v w : Int64}, v = (if m = (0 : Int32) then w else (0 : Int64)) → m = 1 → v = 0 := fun h q => by rw [h, q]; first | done | rfl
  obtain ⟨T109, h109, lc109, X109, e109, N109, zz109, HH109, g109⟩ := blk1 (Ls := Ls107) (bm := bm) (bt := bt) (mn := mn) (tn := tn) (r := r14) (q := r15) (j := i0) (xx := x0) (yy := y0) (vm := mc0) (vt := tc0) X37 hx hZ hw hby hml hown e37 N14 zz40 (by rw [hLs107]; first | done | rfl) (by rw [hLs107]; first | done | rfl) (by rw [hLs107]; first | done | rfl) (by rw [hLs107]; first | done | rfl) (by rw [hLs107]; first | done | rfl) (by rw [hLs107]; first | done | rfl) (by rw [hLs107]; first | done | rfl) (by rw [hLs107]; first | done | rfl) (by rw [hLs107]; first | done | rfl) (by rw [hLs107]; first | done | rfl) (by rw [hLs107]; first | done | rfl) HH0.1 HH0.2.1 HH0.2.2.1 HH0.2.2.2.1 HH0.2.2.2.2.1 HH0.2.2.2.2.2.1 HH0.2.2.2.2.2.2 (fun _ => hin0) (hvm1 h_mc0) (hvm1 h_tc0)
  have pre110 : Go p e below (s₁.setTop (entryFrame m #[(.int ga), (.int gb), (.int gc), (.long gm), (.long gt), (.int gf)] maxLocals)) (T109.setTop (mkF m 350 Ls107 [])) := fun t k => pre108 t (g109 t k)
  obtain ⟨T111, h111, lc111, X111, e111, N111, zz111, HH111, g111⟩ := blk2 (Ls := Ls107) (bm := bm) (bt := bt) (mn := mn) (tn := tn) (r := r14) (q := r15) (j := i1) (xx := x1) (yy := y1) (vm := mc1) (vt := tc1) (fl := two) X109 hx hZ hw hby hml hown e109 N109 zz109 (by rw [hLs107]; first | done | rfl) (by rw [hLs107]; first | done | rfl) (by rw [hLs107]; first | done | rfl) (by rw [hLs107]; first | done | rfl) (by rw [hLs107]; first | done | rfl) (by rw [hLs107]; first | done | rfl) (by rw [hLs107]; first | done | rfl) (by rw [hLs107]; first | done | rfl) (by rw [hLs107]; first | done | rfl) (by rw [hLs107]; first | done | rfl) (by rw [hLs107]; first | done | rfl) (by rw [hLs107]; first | done | rfl) HH109.1 HH109.2.1 HH109.2.2.1 HH109.2.2.2.1 HH109.2.2.2.2.1 HH109.2.2.2.2.2.1 HH109.2.2.2.2.2.2 (fun _ => hin1) (hvm1 h_mc1) (hvm1 h_tc1)
  have pre112 : Go p e below (s₁.setTop (entryFrame m #[(.int ga), (.int gb), (.int gc), (.long gm), (.long gt), (.int gf)] maxLocals)) (T111.setTop (mkF m 395 Ls107 [])) := fun t k => pre110 t (g111 t k)
  obtain ⟨T113, h113, lc113, X113, e113, N113, zz113, HH113, g113⟩ := blk3 (Ls := Ls107) (bm := bm) (bt := bt) (mn := mn) (tn := tn) (r := r14) (q := r15) (j := lo) (xx := xl) (yy := yl) (vm := (if mn = (0 : Int32) then (5 : Int64) else (0 : Int64))) (vt := (if tn = (0 : Int32) then (7 : Int64) else (0 : Int64))) (fl := hl) X111 hx hZ hw hby hml hown e111 N111 zz111 (by rw [hLs107]; first | done | rfl) (by rw [hLs107]; first | done | rfl) (by rw [hLs107]; first | done | rfl) (by rw [hLs107]; first | done | rfl) (by rw [hLs107]; first | done | rfl) (by rw [hLs107]; first | done | rfl) (by rw [hLs107]; first | done | rfl) (by rw [hLs107]; first | done | rfl) (by rw [hLs107]; first | done | rfl) (by rw [hLs107]; first | done | rfl) HH111.1 HH111.2.1 HH111.2.2.1 HH111.2.2.2.1 HH111.2.2.2.2.1 HH111.2.2.2.2.2.1 HH111.2.2.2.2.2.2 hinL (hvm1 rfl) (hvm1 rfl) (fun q => by rw [q]; first | done | rfl) (fun q => by rw [q]; first | done | rfl)
  have pre114 : Go p e below (s₁.setTop (entryFrame m #[(.int ga), (.int gb), (.int gc), (.long gm), (.long gt), (.int gf)] maxLocals)) (T113.setTop (mkF m 442 Ls107 [])) := fun t k => pre112 t (g113 t k)
  obtain ⟨T115, h115, lc115, X115, e115, N115, zz115, HH115, g115⟩ := blk4 (Ls := Ls107) (bm := bm) (bt := bt) (mn := mn) (tn := tn) (r := r14) (q := r15) (j := hi) (xx := xh) (yy := yh) (vm := (if mn = (0 : Int32) then (5 : Int64) else (0 : Int64))) (vt := (if tn = (0 : Int32) then (7 : Int64) else (0 : Int64))) (fl := hh) X113 hx hZ hw hby hml hown e113 N113 zz113 (by rw [hLs107]; first | done | rfl) (by rw [hLs107]; first | done | rfl) (by rw [hLs107]; first | done | rfl) (by rw [hLs107]; first | done | rfl) (by rw [hLs107]; first | done | rfl) (by rw [hLs107]; first | done | rfl) (by rw [hLs107]; first | done | rfl) (by rw [hLs107]; first | done | rfl) (by rw [hLs107]; first | done | rfl) (by rw [hLs107]; first | done | rfl) HH113.1 HH113.2.1 HH113.2.2.1 HH113.2.2.2.1 HH113.2.2.2.2.1 HH113.2.2.2.2.2.1 HH113.2.2.2.2.2.2 hinH (hvm1 rfl) (hvm1 rfl) (fun q => by rw [q]; first | done | rfl) (fun q => by rw [q]; first | done | rfl)
  have pre116 : Go p e below (s₁.setTop (entryFrame m #[(.int ga), (.int gb), (.int gc), (.long gm), (.long gt), (.int gf)] maxLocals)) (T115.setTop (mkF m 489 Ls107 [])) := fun t k => pre114 t (g115 t k)
  obtain ⟨Hbm_, Hbt_, -, -, -, Hm_, Ht_⟩ := HH115
  have Hbm : BA Z h115 bm k19 (own_G i0 i1 two hl hh lo hi x0 x1 xl xh) := Hbm_
  have Hbt : BA Z h115 bt k24 (own_G i0 i1 two hl hh lo hi y0 y1 yl yh) := Hbt_
  have Hm : (mn = 1 ∧ r14 = .null ∧ ∀ i, (own_F own_z64 i0 i1 two hl hh lo hi mc0 mc1 (if mn = (0 : Int32) then (5 : Int64) else (0 : Int64)) (if mn = (0 : Int32) then (5 : Int64) else (0 : Int64))) i = 0) ∨ (mn = 0 ∧ ∃ a k, r14 = .ref a ∧ n0 ≤ a ∧ a ≠ bm ∧ a ≠ bt ∧ LA Z h115 a k (own_F own_z64 i0 i1 two hl hh lo hi mc0 mc1 (if mn = (0 : Int32) then (5 : Int64) else (0 : Int64)) (if mn = (0 : Int32) then (5 : Int64) else (0 : Int64)))) := Hm_
  have Ht : (tn = 1 ∧ r15 = .null ∧ ∀ i, (own_F own_z64 i0 i1 two hl hh lo hi tc0 tc1 (if tn = (0 : Int32) then (7 : Int64) else (0 : Int64)) (if tn = (0 : Int32) then (7 : Int64) else (0 : Int64))) i = 0) ∨ (tn = 0 ∧ ∃ a k, r15 = .ref a ∧ n0 ≤ a ∧ a ≠ bm ∧ a ≠ bt ∧ r14 ≠ .ref a ∧ LA Z h115 a k (own_F own_z64 i0 i1 two hl hh lo hi tc0 tc1 (if tn = (0 : Int32) then (7 : Int64) else (0 : Int64)) (if tn = (0 : Int32) then (7 : Int64) else (0 : Int64)))) := Ht_
  have hg := own_hg (i0 := i0) (i1 := i1) (two := two) (hl := hl) (hh := hh) (lo := lo) (hi := hi) h_tc0 h_tc1
  clear Hbm_ Hbt_ Hm_ Ht_
  rcases Hm with ⟨rfl, rfl, hzm⟩ | ⟨rfl, am, kam, rfl, g_am, ne_am_bm, ne_am_bt, LAm⟩
  · skip
    have pre117 : Go p e below (s₁.setTop (entryFrame m #[(.int ga), (.int gb), (.int gc), (.long gm), (.long gt), (.int gf)] maxLocals)) (T115.setTop (mkF m 501 Ls107 [(.int grt), (.int les), r15, (.ref bt), .null, (.ref bm)])) := by
      intro t k
      refine pre116 t ?_
      show Steps p.tables e below (T115.setTop (mkF m 489 Ls107 [])) _
      refine XS.aload X115.here hx rfl (hb hby at_489) (by rw [hLs107]; first | done | rfl) rfl ?_
      show Steps p.tables e below (T115.setTop (mkF m 491 Ls107 [(.ref bm)])) _
      refine XS.aload X115.here hx rfl (hb hby at_491) (by rw [hLs107]; first | done | rfl) rfl ?_
      show Steps p.tables e below (T115.setTop (mkF m 493 Ls107 [.null, (.ref bm)])) _
      refine XS.aload X115.here hx rfl (hb hby at_493) (by rw [hLs107]; first | done | rfl) rfl ?_
      show Steps p.tables e below (T115.setTop (mkF m 495 Ls107 [(.ref bt), .null, (.ref bm)])) _
      refine XS.aload X115.here hx rfl (hb hby at_495) (by rw [hLs107]; first | done | rfl) hr_r15 ?_
      show Steps p.tables e below (T115.setTop (mkF m 497 Ls107 [r15, (.ref bt), .null, (.ref bm)])) _
      refine XS.iload X115.here hx rfl (hb hby at_497) (by rw [hLs107]; first | done | rfl) ?_
      show Steps p.tables e below (T115.setTop (mkF m 499 Ls107 [(.int les), r15, (.ref bt), .null, (.ref bm)])) _
      refine XS.iload X115.here hx rfl (hb hby at_499) (by rw [hLs107]; first | done | rfl) ?_
      show Steps p.tables e below (T115.setTop (mkF m 501 Ls107 [(.int grt), (.int les), r15, (.ref bt), .null, (.ref bm)])) _
      exact k
    obtain ⟨_, _, ⟨T118, L118, k118, n118⟩, -, X118, ⟨Lc118, hQ118, l118, y118, z118⟩, st118⟩ := Jvm.LawKit.callS X115 hx (y := (⟨"com/example/lanescan/lanescan/Distribution", "merge", "([B[J[B[JII)[J"⟩ : MethodName)) hown (mvT hZ (hw _ (List.mem_of_getElem? (i := 6) rfl))) (mvT hZ (hw _ (List.mem_of_getElem? (i := 7) rfl))) (mvT hZ (hw _ (List.mem_of_getElem? (i := 8) rfl))) (mvT hZ (hw _ (List.mem_of_getElem? (i := 9) rfl))) (by decide) (backOf (W := 0) (rm2_n l Z a0 hw [] bm bt les grt r15 k19 k24 (own_G i0 i1 two hl hh lo hi x0 x1 xl xh) (own_G i0 i1 two hl hh lo hi y0 y1 yl yh) (own_F own_z64 i0 i1 two hl hh lo hi tc0 tc1 (if tn = (0 : Int32) then (7 : Int64) else (0 : Int64)) (if tn = (0 : Int32) then (7 : Int64) else (0 : Int64))) two h115 n0 zz115 hr_r15 Hbm Hbt (Ne.symm ne_bm_bt) g_bm hles htw hg (Ht.imp (fun z => ⟨z.2.1, z.2.2⟩) fun ⟨_, a, k, q1, _, q2, _, _, q3⟩ => ⟨a, k, q1, q2, q2, q3⟩)) hZ (hw _ (List.mem_of_getElem? (i := 9) rfl)) (hw _ (List.mem_of_getElem? (i := 8) rfl)) (by decide) (by decide)) (g := (mkF m 501 Ls107 [(.int grt), (.int les), r15, (.ref bt), .null, (.ref bm)])) rfl (by rw [hml]; show Array.size Ls107 = _; rw [hLs107]; first | done | rfl) (argsL := [(.ref bm), .null, (.ref bt), r15, (.int les), (.int grt)]) (rest := []) (lenOf pd_5 rfl) rfl (by show 2 * 0 + _ ≤ _; exact Nat.le_of_eq rfl) (hb hby at_501) (fun _ _ => ⟨rfl, e115, (by decide : 4 + 1 ≤ _), (by decide : 7996 + 1999 ≤ _)⟩)
    dsimp only [Pt.U, Pt.locs, Pt.cells, Pt.slots] at X118 l118 y118 z118 st118 hQ118
    subst l118 y118 z118
    obtain ⟨r39, rfl, N118q, Mbm, Mbt, hD⟩ := hQ118
    have N118 := Fr.app N115 N118q
    rw [← h_i0] at Mbm hD
    have zz118 : n0 ≤ T118.heap.size := Nat.le_of_lt (Nat.lt_of_le_of_lt g_bm Mbm.lt)
    have pre119 : Go p e below (s₁.setTop (entryFrame m #[(.int ga), (.int gb), (.int gc), (.long gm), (.long gt), (.int gf)] maxLocals)) (T118.setTop (mkF m 504 Ls107 [r39])) := fun t k => pre117 t (st118 t k)
    rcases hD with ⟨rfl, hcn0, hcn1⟩ | ⟨hcy, a39, k39, rfl, LR⟩
    · skip
      obtain ⟨Ls120, hLs120⟩ : ∃ z : Array Slot, z = #[.val (.int ga), .val (.int gb), .val (.int gc), .val (.long gm), .second, .val (.long gt), .second, .val (.int gf), .val (.int (1 : Int32)), .val (.int tn), .val (.int les), .val (.int grt), .val (.ref bm), .val (.ref bt), .val .null, .val r15, .val (.int i0), .val (.int i1), .val (.int two), .val (.int hl), .val (.int hh), .val (.int lo), .val (.int hi), .val (.int x0), .val (.int y0), .val (.int x1), .val (.int y1), .val (.int xl), .val (.int yl), .val (.int xh), .val (.int yh), .val (.long mc0), .second, .val (.long tc0), .second, .val (.long mc1), .second, .val (.long tc1), .second, .val .null, .unset, .unset, .unset, .unset, .unset, .unset] := ⟨_, rfl⟩
      have pre121 : Go p e below (s₁.setTop (entryFrame m #[(.int ga), (.int gb), (.int gc), (.long gm), (.long gt), (.int gf)] maxLocals)) (T118.setTop (mkF m 518 Ls120 [(.long (((((((x0 + y0)).toUInt32 >>> (((8 : Int32)) &&& 31).toUInt32).toInt32)).toInt64) + tc0))])) := by
        intro t k
        refine pre119 t ?_
        show Steps p.tables e below (T118.setTop (mkF m 504 Ls107 [.null])) _
        refine XS.astore X118.here hx rfl (hb hby at_504) rfl rfl (l' := Ls120) (by rw [hLs120, hLs107]; first | done | rfl) ?_
        show Steps p.tables e below (T118.setTop (mkF m 506 Ls120 [])) _
        refine XS.iload X118.here hx rfl (hb hby at_506) (by rw [hLs120]; first | done | rfl) ?_
        show Steps p.tables e below (T118.setTop (mkF m 508 Ls120 [(.int x0)])) _
        refine XS.iload X118.here hx rfl (hb hby at_508) (by rw [hLs120]; first | done | rfl) ?_
        show Steps p.tables e below (T118.setTop (mkF m 510 Ls120 [(.int y0), (.int x0)])) _
        refine XS.iadd X118.here hx rfl (hb hby at_510) rfl ?_
        show Steps p.tables e below (T118.setTop (mkF m 511 Ls120 [(.int (x0 + y0))])) _
        refine XS.bipush X118.here hx rfl (hb hby at_511) ?_
        show Steps p.tables e below (T118.setTop (mkF m 513 Ls120 [(.int (8 : Int32)), (.int (x0 + y0))])) _
        refine XS.iushr X118.here hx rfl (hb hby at_513) rfl ?_
        show Steps p.tables e below (T118.setTop (mkF m 514 Ls120 [(.int ((((x0 + y0)).toUInt32 >>> (((8 : Int32)) &&& 31).toUInt32).toInt32))])) _
        refine XS.i2l X118.here hx rfl (hb hby at_514) rfl ?_
        show Steps p.tables e below (T118.setTop (mkF m 515 Ls120 [(.long ((((((x0 + y0)).toUInt32 >>> (((8 : Int32)) &&& 31).toUInt32).toInt32)).toInt64))])) _
        refine XT.lload X118.here hx rfl (hb hby at_515) (by rw [hLs120]; first | done | rfl) ?_
        show Steps p.tables e below (T118.setTop (mkF m 517 Ls120 [(.long tc0), (.long ((((((x0 + y0)).toUInt32 >>> (((8 : Int32)) &&& 31).toUInt32).toInt32)).toInt64))])) _
        refine XS.ladd X118.here hx rfl (hb hby at_517) rfl ?_
        show Steps p.tables e below (T118.setTop (mkF m 518 Ls120 [(.long (((((((x0 + y0)).toUInt32 >>> (((8 : Int32)) &&& 31).toUInt32).toInt32)).toInt64) + tc0))])) _
        exact k
      obtain ⟨k0, h_k0⟩ : ∃ z : Int64, z = (((((((x0 + y0)).toUInt32 >>> (((8 : Int32)) &&& 31).toUInt32).toInt32)).toInt64) + tc0) := ⟨_, rfl⟩
      have pre122 : Go p e below (s₁.setTop (entryFrame m #[(.int ga), (.int gb), (.int gc), (.long gm), (.long gt), (.int gf)] maxLocals)) (T118.setTop (mkF m 518 Ls120 [(.long k0)])) := by rw [h_k0]; exact pre121
      obtain ⟨Ls123, hLs123⟩ : ∃ z : Array Slot, z = #[.val (.int ga), .val (.int gb), .val (.int gc), .val (.long gm), .second, .val (.long gt), .second, .val (.int gf), .val (.int (1 : Int32)), .val (.int tn), .val (.int les), .val (.int grt), .val (.ref bm), .val (.ref bt), .val .null, .val r15, .val (.int i0), .val (.int i1), .val (.int two), .val (.int hl), .val (.int hh), .val (.int lo), .val (.int hi), .val (.int x0), .val (.int y0), .val (.int x1), .val (.int y1), .val (.int xl), .val (.int yl), .val (.int xh), .val (.int yh), .val (.long mc0), .second, .val (.long tc0), .second, .val (.long mc1), .second, .val (.long tc1), .second, .val .null, .val (.long k0), .second, .unset, .unset, .unset, .unset] := ⟨_, rfl⟩
      have pre124 : Go p e below (s₁.setTop (entryFrame m #[(.int ga), (.int gb), (.int gc), (.long gm), (.long gt), (.int gf)] maxLocals)) (T118.setTop (mkF m 522 Ls123 [(.int two)])) := by
        intro t k
        refine pre122 t ?_
        show Steps p.tables e below (T118.setTop (mkF m 518 Ls120 [(.long k0)])) _
        refine XT.lstore X118.here hx rfl (hb hby at_518) rfl (l' := Ls123) (by rw [hLs123, hLs120]; first | done | rfl) ?_
        show Steps p.tables e below (T118.setTop (mkF m 520 Ls123 [])) _
        refine XS.iload X118.here hx rfl (hb hby at_520) (by rw [hLs123]; first | done | rfl) ?_
        show Steps p.tables e below (T118.setTop (mkF m 522 Ls123 [(.int two)])) _
        exact k
      obtain ⟨k1, h_k1⟩ : ∃ z : Int64, z = (if two = (0 : Int32) then (0 : Int64) else (((((((x1 + y1)).toUInt32 >>> (((8 : Int32)) &&& 31).toUInt32).toInt32)).toInt64) + tc1)) := ⟨_, rfl⟩
      have pre126 : Go p e below (s₁.setTop (entryFrame m #[(.int ga), (.int gb), (.int gc), (.long gm), (.long gt), (.int gf)] maxLocals)) (T118.setTop (mkF m 541 Ls123 [(.long k1)])) := by
        intro t k
        refine pre124 t ?_
        show Steps p.tables e below (T118.setTop (mkF m 522 Ls123 [(.int two)])) _
        by_cases hc522_125 : two = (0 : Int32)
        · skip
          refine XS.ifYes X118.here hx rfl (pc0 := 522) (pc' := 540) rfl (hb hby at_522) rfl (XT.i0_eq_t hc522_125) (by decide) (by decide) ?_
          show Steps p.tables e below (T118.setTop (mkF m 540 Ls123 [])) _
          refine XT.lconstV X118.here hx rfl (0 : Int64) (hb hby at_540) rfl ?_
          show Steps p.tables e below (T118.setTop (mkF m 541 Ls123 [(.long (0 : Int64))])) _
          rw [show k1 = (0 : Int64) from by rw [h_k1]; rw [if_pos hc522_125]] at k
          exact k
        · skip
          refine XS.ifNo X118.here hx rfl (hb hby at_522) rfl (XT.i0_eq_f hc522_125) ?_
          show Steps p.tables e below (T118.setTop (mkF m 525 Ls123 [])) _
          refine XS.iload X118.here hx rfl (hb hby at_525) (by rw [hLs123]; first | done | rfl) ?_
          show Steps p.tables e below (T118.setTop (mkF m 527 Ls123 [(.int x1)])) _
          refine XS.iload X118.here hx rfl (hb hby at_527) (by rw [hLs123]; first | done | rfl) ?_
          show Steps p.tables e below (T118.setTop (mkF m 529 Ls123 [(.int y1), (.int x1)])) _
          refine XS.iadd X118.here hx rfl (hb hby at_529) rfl ?_
          show Steps p.tables e below (T118.setTop (mkF m 530 Ls123 [(.int (x1 + y1))])) _
          refine XS.bipush X118.here hx rfl (hb hby at_530) ?_
          show Steps p.tables e below (T118.setTop (mkF m 532 Ls123 [(.int (8 : Int32)), (.int (x1 + y1))])) _
          refine XS.iushr X118.here hx rfl (hb hby at_532) rfl ?_
          show Steps p.tables e below (T118.setTop (mkF m 533 Ls123 [(.int ((((x1 + y1)).toUInt32 >>> (((8 : Int32)) &&& 31).toUInt32).toInt32))])) _
          refine XS.i2l X118.here hx rfl (hb hby at_533) rfl ?_
          show Steps p.tables e below (T118.setTop (mkF m 534 Ls123 [(.long ((((((x1 + y1)).toUInt32 >>> (((8 : Int32)) &&& 31).toUInt32).toInt32)).toInt64))])) _
          refine XT.lload X118.here hx rfl (hb hby at_534) (by rw [hLs123]; first | done | rfl) ?_
          show Steps p.tables e below (T118.setTop (mkF m 536 Ls123 [(.long tc1), (.long ((((((x1 + y1)).toUInt32 >>> (((8 : Int32)) &&& 31).toUInt32).toInt32)).toInt64))])) _
          refine XS.ladd X118.here hx rfl (hb hby at_536) rfl ?_
          show Steps p.tables e below (T118.setTop (mkF m 537 Ls123 [(.long (((((((x1 + y1)).toUInt32 >>> (((8 : Int32)) &&& 31).toUInt32).toInt32)).toInt64) + tc1))])) _
          refine XS.goto X118.here hx rfl (pc0 := 537) (pc' := 541) rfl (hb hby at_537) (by decide) (by decide) ?_
          show Steps p.tables e below (T118.setTop (mkF m 541 Ls123 [(.long (((((((x1 + y1)).toUInt32 >>> (((8 : Int32)) &&& 31).toUInt32).toInt32)).toInt64) + tc1))])) _
          rw [show k1 = (((((((x1 + y1)).toUInt32 >>> (((8 : Int32)) &&& 31).toUInt32).toInt32)).toInt64) + tc1) from by rw [h_k1]; rw [if_neg hc522_125]] at k
          exact k
      obtain ⟨Ls127, hLs127⟩ : ∃ z : Array Slot, z = #[.val (.int ga), .val (.int gb), .val (.int gc), .val (.long gm), .second, .val (.long gt), .second, .val (.int gf), .val (.int (1 : Int32)), .val (.int tn), .val (.int les), .val (.int grt), .val (.ref bm), .val (.ref bt), .val .null, .val r15, .val (.int i0), .val (.int i1), .val (.int two), .val (.int hl), .val (.int hh), .val (.int lo), .val (.int hi), .val (.int x0), .val (.int y0), .val (.int x1), .val (.int y1), .val (.int xl), .val (.int yl), .val (.int xh), .val (.int yh), .val (.long mc0), .second, .val (.long tc0), .second, .val (.long mc1), .second, .val (.long tc1), .second, .val .null, .val (.long k0), .second, .val (.long k1), .second, .unset, .unset] := ⟨_, rfl⟩
      have pre128 : Go p e below (s₁.setTop (entryFrame m #[(.int ga), (.int gb), (.int gc), (.long gm), (.long gt), (.int gf)] maxLocals)) (T118.setTop (mkF m 547 Ls127 [(.int (XT.cmpL k0 (0 : Int64)))])) := by
        intro t k
        refine pre126 t ?_
        show Steps p.tables e below (T118.setTop (mkF m 541 Ls123 [(.long k1)])) _
        refine XT.lstore X118.here hx rfl (hb hby at_541) rfl (l' := Ls127) (by rw [hLs127, hLs123]; first | done | rfl) ?_
        show Steps p.tables e below (T118.setTop (mkF m 543 Ls127 [])) _
        refine XT.lload X118.here hx rfl (hb hby at_543) (by rw [hLs127]; first | done | rfl) ?_
        show Steps p.tables e below (T118.setTop (mkF m 545 Ls127 [(.long k0)])) _
        refine XT.lconstV X118.here hx rfl (0 : Int64) (hb hby at_545) rfl ?_
        show Steps p.tables e below (T118.setTop (mkF m 546 Ls127 [(.long (0 : Int64)), (.long k0)])) _
        refine XT.lcmp X118.here hx rfl (hb hby at_546) rfl ?_
        show Steps p.tables e below (T118.setTop (mkF m 547 Ls127 [(.int (XT.cmpL k0 (0 : Int64)))])) _
        exact k
      obtain ⟨anyc, h_anyc⟩ : ∃ z : Int32, z = (if (0 : Int64) < k0 then (1 : Int32) else (if (0 : Int64) < k1 then (1 : Int32) else (0 : Int32))) := ⟨_, rfl⟩
      have pre131 : Go p e below (s₁.setTop (entryFrame m #[(.int ga), (.int gb), (.int gc), (.long gm), (.long gt), (.int gf)] maxLocals)) (T118.setTop (mkF m 562 Ls127 [(.int anyc)])) := by
        intro t k
        refine pre128 t ?_
        show Steps p.tables e below (T118.setTop (mkF m 547 Ls127 [(.int (XT.cmpL k0 (0 : Int64)))])) _
        by_cases hc547_129 : (0 : Int64) < k0
        · skip
          refine XS.ifYes X118.here hx rfl (pc0 := 547) (pc' := 557) rfl (hb hby at_547) rfl (XT.ll_gt_t hc547_129) (by decide) (by decide) ?_
          show Steps p.tables e below (T118.setTop (mkF m 557 Ls127 [])) _
          refine XS.iconst X118.here hx rfl (hb hby at_557) ?_
          show Steps p.tables e below (T118.setTop (mkF m 558 Ls127 [(.int (1 : Int32))])) _
          refine XS.goto X118.here hx rfl (pc0 := 558) (pc' := 562) rfl (hb hby at_558) (by decide) (by decide) ?_
          show Steps p.tables e below (T118.setTop (mkF m 562 Ls127 [(.int (1 : Int32))])) _
          rw [show anyc = (1 : Int32) from by rw [h_anyc]; rw [if_pos hc547_129]] at k
          exact k
        · skip
          refine XS.ifNo X118.here hx rfl (hb hby at_547) rfl (XT.ll_gt_f hc547_129) ?_
          show Steps p.tables e below (T118.setTop (mkF m 550 Ls127 [])) _
          refine XT.lload X118.here hx rfl (hb hby at_550) (by rw [hLs127]; first | done | rfl) ?_
          show Steps p.tables e below (T118.setTop (mkF m 552 Ls127 [(.long k1)])) _
          refine XT.lconstV X118.here hx rfl (0 : Int64) (hb hby at_552) rfl ?_
          show Steps p.tables e below (T118.setTop (mkF m 553 Ls127 [(.long (0 : Int64)), (.long k1)])) _
          refine XT.lcmp X118.here hx rfl (hb hby at_553) rfl ?_
          show Steps p.tables e below (T118.setTop (mkF m 554 Ls127 [(.int (XT.cmpL k1 (0 : Int64)))])) _
          by_cases hc554_130 : (0 : Int64) < k1
          · skip
            refine XS.ifNo X118.here hx rfl (hb hby at_554) rfl (XT.ll_le_f hc554_130) ?_
            show Steps p.tables e below (T118.setTop (mkF m 557 Ls127 [])) _
            refine XS.iconst X118.here hx rfl (hb hby at_557) ?_
            show Steps p.tables e below (T118.setTop (mkF m 558 Ls127 [(.int (1 : Int32))])) _
            refine XS.goto X118.here hx rfl (pc0 := 558) (pc' := 562) rfl (hb hby at_558) (by decide) (by decide) ?_
            show Steps p.tables e below (T118.setTop (mkF m 562 Ls127 [(.int (1 : Int32))])) _
            rw [show anyc = (1 : Int32) from by rw [h_anyc]; rw [if_neg hc547_129, if_pos hc554_130]] at k
            exact k
          · skip
            refine XS.ifYes X118.here hx rfl (pc0 := 554) (pc' := 561) rfl (hb hby at_554) rfl (XT.ll_le_t hc554_130) (by decide) (by decide) ?_
            show Steps p.tables e below (T118.setTop (mkF m 561 Ls127 [])) _
            refine XS.iconst X118.here hx rfl (hb hby at_561) ?_
            show Steps p.tables e below (T118.setTop (mkF m 562 Ls127 [(.int (0 : Int32))])) _
            rw [show anyc = (0 : Int32) from by rw [h_anyc]; rw [if_neg hc547_129, if_neg hc554_130]] at k
            exact k
      obtain ⟨Ls132, hLs132⟩ : ∃ z : Array Slot, z = #[.val (.int ga), .val (.int gb), .val (.int gc), .val (.long gm), .second, .val (.long gt), .second, .val (.int gf), .val (.int (1 : Int32)), .val (.int tn), .val (.int les), .val (.int grt), .val (.ref bm), .val (.ref bt), .val .null, .val r15, .val (.int i0), .val (.int i1), .val (.int two), .val (.int hl), .val (.int hh), .val (.int lo), .val (.int hi), .val (.int x0), .val (.int y0), .val (.int x1), .val (.int y1), .val (.int xl), .val (.int yl), .val (.int xh), .val (.int yh), .val (.long mc0), .second, .val (.long tc0), .second, .val (.long mc1), .second, .val (.long tc1), .second, .val .null, .val (.long k0), .second, .val (.long k1), .second, .val (.int anyc), .unset] := ⟨_, rfl⟩
      have pre133 : Go p e below (s₁.setTop (entryFrame m #[(.int ga), (.int gb), (.int gc), (.long gm), (.long gt), (.int gf)] maxLocals)) (T118.setTop (mkF m 564 Ls132 [])) := by
        intro t k
        refine pre131 t ?_
        show Steps p.tables e below (T118.setTop (mkF m 562 Ls127 [(.int anyc)])) _
        refine XS.istore X118.here hx rfl (hb hby at_562) rfl (l' := Ls132) (by rw [hLs132, hLs127]; first | done | rfl) ?_
        show Steps p.tables e below (T118.setTop (mkF m 564 Ls132 [])) _
        exact k
      have hK0 : own_cy (own_G i0 i1 two hl hh lo hi x0 x1 xl xh) (own_G i0 i1 two hl hh lo hi y0 y1 yl yh) (own_F own_z64 i0 i1 two hl hh lo hi tc0 tc1 (if tn = (0 : Int32) then (7 : Int64) else (0 : Int64)) (if tn = (0 : Int32) then (7 : Int64) else (0 : Int64))) i0 = k0 := by rw [h_k0]; exact own_kA PP ⟨_, h_x0⟩ ⟨_, h_y0⟩
      have hK1 : ¬ two = 0 → own_cy (own_f1 (own_G i0 i1 two hl hh lo hi x0 x1 xl xh) (own_G i0 i1 two hl hh lo hi y0 y1 yl yh) i0) (own_G i0 i1 two hl hh lo hi y0 y1 yl yh) (own_F own_z64 i0 i1 two hl hh lo hi tc0 tc1 (if tn = (0 : Int32) then (7 : Int64) else (0 : Int64)) (if tn = (0 : Int32) then (7 : Int64) else (0 : Int64))) (i0 + (1 : Int32)) = k1 := fun q => by rw [h_k1, if_neg q]; exact own_kB PP hj1 q ⟨_, h_x1⟩ ⟨_, h_y1⟩
      have hK1z : two = 0 → k1 = 0 := fun q => by rw [h_k1, if_pos q]
      have pre134 : Go p e below (s₁.setTop (entryFrame m #[(.int ga), (.int gb), (.int gc), (.long gm), (.long gt), (.int gf)] maxLocals)) (T118.setTop (mkF m 566 Ls132 [(.int (1 : Int32))])) := by
        intro t k
        refine pre133 t ?_
        show Steps p.tables e below (T118.setTop (mkF m 564 Ls132 [])) _
        refine XS.iload X118.here hx rfl (hb hby at_564) (by rw [hLs132]; first | done | rfl) ?_
        show Steps p.tables e below (T118.setTop (mkF m 566 Ls132 [(.int (1 : Int32))])) _
        exact k
      have pre135 : Go p e below (s₁.setTop (entryFrame m #[(.int ga), (.int gb), (.int gc), (.long gm), (.long gt), (.int gf)] maxLocals)) (T118.setTop (mkF m 588 Ls132 [(.int anyc)])) := by
        intro t k
        refine pre134 t ?_
        show Steps p.tables e below (T118.setTop (mkF m 566 Ls132 [(.int (1 : Int32))])) _
        refine XS.ifYes X118.here hx rfl (pc0 := 566) (pc' := 586) rfl (hb hby at_566) rfl (XT.i0_ne_t (by decide : ¬ ((1 : Int32) = (0 : Int32)))) (by decide) (by decide) ?_
        show Steps p.tables e below (T118.setTop (mkF m 586 Ls132 [])) _
        refine XS.iload X118.here hx rfl (hb hby at_586) (by rw [hLs132]; first | done | rfl) ?_
        show Steps p.tables e below (T118.setTop (mkF m 588 Ls132 [(.int anyc)])) _
        exact k
      have hc588_136 : anyc = (0 : Int32) := by
        have z0 : ¬ (0 : Int64) < k0 := hK0 ▸ hcn0
        have z1 : ¬ (0 : Int64) < k1 := by
          by_cases q : two = 0
          · rw [hK1z q]; decide
          · rcases hcn1 with w | w
            · exact absurd w q
            · exact hK1 q ▸ w
        rw [h_anyc, if_neg z0, if_neg z1]
      obtain ⟨Ls137, hLs137⟩ : ∃ z : Array Slot, z = #[.val (.int ga), .val (.int gb), .val (.int gc), .val (.long gm), .second, .val (.long gt), .second, .val (.int gf), .val (.int (1 : Int32)), .val (.int tn), .val (.int les), .val (.int grt), .val (.ref bm), .val (.ref bt), .val .null, .val r15, .val (.int i0), .val (.int i1), .val (.int two), .val (.int hl), .val (.int hh), .val (.int lo), .val (.int hi), .val (.int x0), .val (.int y0), .val (.int x1), .val (.int y1), .val (.int xl), .val (.int yl), .val (.int xh), .val (.int yh), .val (.long mc0), .second, .val (.long tc0), .second, .val (.long mc1), .second, .val (.long tc1), .second, .val .null, .val (.long k0), .second, .val (.long k1), .second, .val (.int anyc), .val (.int (1 : Int32))] := ⟨_, rfl⟩
      have pre138 : Go p e below (s₁.setTop (entryFrame m #[(.int ga), (.int gb), (.int gc), (.long gm), (.long gt), (.int gf)] maxLocals)) (T118.setTop (mkF m 629 Ls137 [(.int (1 : Int32))])) := by
        intro t k
        refine pre135 t ?_
        show Steps p.tables e below (T118.setTop (mkF m 588 Ls132 [(.int anyc)])) _
        refine XS.ifNo X118.here hx rfl (hb hby at_588) rfl (XT.i0_ne_f hc588_136) ?_
        show Steps p.tables e below (T118.setTop (mkF m 591 Ls132 [])) _
        refine XS.aload X118.here hx rfl (hb hby at_591) (by rw [hLs132]; first | done | rfl) rfl ?_
        show Steps p.tables e below (T118.setTop (mkF m 593 Ls132 [.null])) _
        refine XS.ifnonnullNo X118.here hx rfl (hb hby at_593) rfl ?_
        show Steps p.tables e below (T118.setTop (mkF m 596 Ls132 [])) _
        refine XS.iconst X118.here hx rfl (hb hby at_596) ?_
        show Steps p.tables e below (T118.setTop (mkF m 597 Ls132 [(.int (1 : Int32))])) _
        refine XS.goto X118.here hx rfl (pc0 := 597) (pc' := 601) rfl (hb hby at_597) (by decide) (by decide) ?_
        show Steps p.tables e below (T118.setTop (mkF m 601 Ls132 [(.int (1 : Int32))])) _
        refine XS.istore X118.here hx rfl (hb hby at_601) rfl (l' := Ls137) (by rw [hLs137, hLs132]; first | done | rfl) ?_
        show Steps p.tables e below (T118.setTop (mkF m 603 Ls137 [])) _
        refine XS.goto X118.here hx rfl (pc0 := 603) (pc' := 627) rfl (hb hby at_603) (by decide) (by decide) ?_
        show Steps p.tables e below (T118.setTop (mkF m 627 Ls137 [])) _
        refine XS.iload X118.here hx rfl (hb hby at_627) (by rw [hLs137]; first | done | rfl) ?_
        show Steps p.tables e below (T118.setTop (mkF m 629 Ls137 [(.int (1 : Int32))])) _
        exact k
      have pre139 : Go p e below (s₁.setTop (entryFrame m #[(.int ga), (.int gb), (.int gc), (.long gm), (.long gt), (.int gf)] maxLocals)) (T118.setTop (mkF m 634 Ls137 [])) := by
        intro t k
        refine pre138 t ?_
        show Steps p.tables e below (T118.setTop (mkF m 629 Ls137 [(.int (1 : Int32))])) _
        refine XS.ifYes X118.here hx rfl (pc0 := 629) (pc' := 634) rfl (hb hby at_629) rfl (XT.i0_ne_t (by decide : ¬ ((1 : Int32) = (0 : Int32)))) (by decide) (by decide) ?_
        show Steps p.tables e below (T118.setTop (mkF m 634 Ls137 [])) _
        exact k
      have z0 : k0 = 0 := by rw [← hK0]; exact own_cy0 hg hcn0
      have z1 : ¬ two = 0 → k1 = 0 := fun q => by
        rw [← hK1 q]
        rcases hcn1 with w | w
        · exact absurd w q
        · exact own_cy0 hg w
      have m0 : mc0 = 0 := hvm1 h_mc0 rfl
      have m1 : mc1 = 0 := hvm1 h_mc1 rfl
      obtain ⟨T140, lc140, X140, e140, N140, g140⟩ := chk0n (Ls := Ls137) (bm := bm) (bt := bt) (fm := (own_fE two (own_G i0 i1 two hl hh lo hi x0 x1 xl xh) (own_G i0 i1 two hl hh lo hi y0 y1 yl yh) i0 (i0 + (1 : Int32)))) (ft := (own_G i0 i1 two hl hh lo hi y0 y1 yl yh)) (j := i0) (xx := x0) (yy := y0) (vm := mc0) (kk := k0) X118 hx hZ hw hby hml hown rfl N118 zz118 (by rw [hLs137]; first | done | rfl) (by rw [hLs137]; first | done | rfl) (by rw [hLs137]; first | done | rfl) (by rw [hLs137]; first | done | rfl) (by rw [hLs137]; first | done | rfl) (by rw [hLs137]; first | done | rfl) (by rw [hLs137]; first | done | rfl) (by rw [hLs137]; first | done | rfl) (by rw [hLs137]; first | done | rfl) (by rw [hLs137]; first | done | rfl) (by rw [hLs137]; first | done | rfl) Mbm Mbt hin0 (own_mA PP hj1 ⟨_, h_x0⟩ ⟨_, h_y0⟩) ((own_F0 PP).trans (own_nar y0)) (by rw [m0, z0]; first | done | rfl)
      have pre141 : Go p e below (s₁.setTop (entryFrame m #[(.int ga), (.int gb), (.int gc), (.long gm), (.long gt), (.int gf)] maxLocals)) (T140.setTop (mkF m 682 Ls137 [])) := fun t k => pre139 t (g140 t k)
      obtain ⟨T142, lc142, X142, e142, N142, g142⟩ := chk1n (Ls := Ls137) (bm := bm) (bt := bt) (fm := (own_fE two (own_G i0 i1 two hl hh lo hi x0 x1 xl xh) (own_G i0 i1 two hl hh lo hi y0 y1 yl yh) i0 (i0 + (1 : Int32)))) (ft := (own_G i0 i1 two hl hh lo hi y0 y1 yl yh)) (j := i1) (xx := x1) (yy := y1) (vm := mc1) (kk := k1) (fl := two) X140 hx hZ hw hby hml hown e140 N140 zz118 (by rw [hLs137]; first | done | rfl) (by rw [hLs137]; first | done | rfl) (by rw [hLs137]; first | done | rfl) (by rw [hLs137]; first | done | rfl) (by rw [hLs137]; first | done | rfl) (by rw [hLs137]; first | done | rfl) (by rw [hLs137]; first | done | rfl) (by rw [hLs137]; first | done | rfl) (by rw [hLs137]; first | done | rfl) (by rw [hLs137]; first | done | rfl) (by rw [hLs137]; first | done | rfl) (by rw [hLs137]; first | done | rfl) Mbm Mbt (fun _ => hin1) (fun q => own_mB PP hj1 q ⟨_, h_x1⟩ ⟨_, h_y1⟩) (fun q => (own_F1 PP q).trans (own_nar y1)) (fun q => by rw [m1, z1 q]; first | done | rfl)
      have pre143 : Go p e below (s₁.setTop (entryFrame m #[(.int ga), (.int gb), (.int gc), (.long gm), (.long gt), (.int gf)] maxLocals)) (T142.setTop (mkF m 740 Ls137 [])) := fun t k => pre141 t (g142 t k)
      obtain ⟨T144, lc144, X144, e144, N144, g144⟩ := chk2n (Ls := Ls137) (bm := bm) (bt := bt) (fm := (own_fE two (own_G i0 i1 two hl hh lo hi x0 x1 xl xh) (own_G i0 i1 two hl hh lo hi y0 y1 yl yh) i0 (i0 + (1 : Int32)))) (ft := (own_G i0 i1 two hl hh lo hi y0 y1 yl yh)) (j := lo) (xx := xl) (yy := yl) (mn := (1 : Int32)) (fl := hl) X142 hx hZ hw hby hml hown e142 N142 zz118 (by rw [hLs137]; first | done | rfl) (by rw [hLs137]; first | done | rfl) (by rw [hLs137]; first | done | rfl) (by rw [hLs137]; first | done | rfl) (by rw [hLs137]; first | done | rfl) (by rw [hLs137]; first | done | rfl) (by rw [hLs137]; first | done | rfl) (by rw [hLs137]; first | done | rfl) (by rw [hLs137]; first | done | rfl) (by rw [hLs137]; first | done | rfl) (by rw [hLs137]; first | done | rfl) Mbm Mbt hinL (fun q => own_mC PP hj1 q) (fun q => (own_F2 PP q).trans (own_nar yl)) (fun _ => rfl)
      have pre145 : Go p e below (s₁.setTop (entryFrame m #[(.int ga), (.int gb), (.int gc), (.long gm), (.long gt), (.int gf)] maxLocals)) (T144.setTop (mkF m 802 Ls137 [])) := fun t k => pre143 t (g144 t k)
      obtain ⟨T146, lc146, X146, e146, N146, g146⟩ := chk3n (Ls := Ls137) (bm := bm) (bt := bt) (fm := (own_fE two (own_G i0 i1 two hl hh lo hi x0 x1 xl xh) (own_G i0 i1 two hl hh lo hi y0 y1 yl yh) i0 (i0 + (1 : Int32)))) (ft := (own_G i0 i1 two hl hh lo hi y0 y1 yl yh)) (j := hi) (xx := xh) (yy := yh) (mn := (1 : Int32)) (fl := hh) X144 hx hZ hw hby hml hown e144 N144 zz118 (by rw [hLs137]; first | done | rfl) (by rw [hLs137]; first | done | rfl) (by rw [hLs137]; first | done | rfl) (by rw [hLs137]; first | done | rfl) (by rw [hLs137]; first | done | rfl) (by rw [hLs137]; first | done | rfl) (by rw [hLs137]; first | done | rfl) (by rw [hLs137]; first | done | rfl) (by rw [hLs137]; first | done | rfl) (by rw [hLs137]; first | done | rfl) (by rw [hLs137]; first | done | rfl) Mbm Mbt hinH (fun q => own_mD PP hj1 q) (fun q => (own_F3 q).trans (own_nar yh)) (fun _ => rfl)
      have pre147 : Go p e below (s₁.setTop (entryFrame m #[(.int ga), (.int gb), (.int gc), (.long gm), (.long gt), (.int gf)] maxLocals)) (T146.setTop (mkF m 864 Ls137 [])) := fun t k => pre145 t (g146 t k)
      have pre148 : Go p e below (s₁.setTop (entryFrame m #[(.int ga), (.int gb), (.int gc), (.long gm), (.long gt), (.int gf)] maxLocals)) (T146.setTop (mkF m 866 Ls137 [(.int (1 : Int32))])) := by
        intro t k
        refine pre147 t ?_
        show Steps p.tables e below (T146.setTop (mkF m 864 Ls137 [])) _
        refine XS.iload X146.here hx rfl (hb hby at_864) (by rw [hLs137]; first | done | rfl) ?_
        show Steps p.tables e below (T146.setTop (mkF m 866 Ls137 [(.int (1 : Int32))])) _
        exact k
      obtain ⟨fs, hr, hrun, hended, hW, hsame⟩ := X146.leave (hlocks := hlk) (v := some (.int (1 : Int32))) (fun h => by rw [Bd.returns] at h; cases h)
      refine ⟨_, _, pre148 _ (retN X146 hx (t := .boolean) Bd.returns (by simp) (hb hby at_866) hr), hrun, hended, _, _, rfl, ?_, ⟨_, rfl⟩, hW, hsame.mono (by decide) (by decide)⟩
      show Q0 Z ga gb gc gm gt gf h0 n0 _ T146.heap _
      rw [e146]
      exact ⟨rfl, N146⟩
    · skip
      obtain ⟨Ls149, hLs149⟩ : ∃ z : Array Slot, z = #[.val (.int ga), .val (.int gb), .val (.int gc), .val (.long gm), .second, .val (.long gt), .second, .val (.int gf), .val (.int (1 : Int32)), .val (.int tn), .val (.int les), .val (.int grt), .val (.ref bm), .val (.ref bt), .val .null, .val r15, .val (.int i0), .val (.int i1), .val (.int two), .val (.int hl), .val (.int hh), .val (.int lo), .val (.int hi), .val (.int x0), .val (.int y0), .val (.int x1), .val (.int y1), .val (.int xl), .val (.int yl), .val (.int xh), .val (.int yh), .val (.long mc0), .second, .val (.long tc0), .second, .val (.long mc1), .second, .val (.long tc1), .second, .val (.ref a39), .unset, .unset, .unset, .unset, .unset, .unset] := ⟨_, rfl⟩
      have pre150 : Go p e below (s₁.setTop (entryFrame m #[(.int ga), (.int gb), (.int gc), (.long gm), (.long gt), (.int gf)] maxLocals)) (T118.setTop (mkF m 518 Ls149 [(.long (((((((x0 + y0)).toUInt32 >>> (((8 : Int32)) &&& 31).toUInt32).toInt32)).toInt64) + tc0))])) := by
        intro t k
        refine pre119 t ?_
        show Steps p.tables e below (T118.setTop (mkF m 504 Ls107 [(.ref a39)])) _
        refine XS.astore X118.here hx rfl (hb hby at_504) rfl rfl (l' := Ls149) (by rw [hLs149, hLs107]; first | done | rfl) ?_
        show Steps p.tables e below (T118.setTop (mkF m 506 Ls149 [])) _
        refine XS.iload X118.here hx rfl (hb hby at_506) (by rw [hLs149]; first | done | rfl) ?_
        show Steps p.tables e below (T118.setTop (mkF m 508 Ls149 [(.int x0)])) _
        refine XS.iload X118.here hx rfl (hb hby at_508) (by rw [hLs149]; first | done | rfl) ?_
        show Steps p.tables e below (T118.setTop (mkF m 510 Ls149 [(.int y0), (.int x0)])) _
        refine XS.iadd X118.here hx rfl (hb hby at_510) rfl ?_
        show Steps p.tables e below (T118.setTop (mkF m 511 Ls149 [(.int (x0 + y0))])) _
        refine XS.bipush X118.here hx rfl (hb hby at_511) ?_
        show Steps p.tables e below (T118.setTop (mkF m 513 Ls149 [(.int (8 : Int32)), (.int (x0 + y0))])) _
        refine XS.iushr X118.here hx rfl (hb hby at_513) rfl ?_
        show Steps p.tables e below (T118.setTop (mkF m 514 Ls149 [(.int ((((x0 + y0)).toUInt32 >>> (((8 : Int32)) &&& 31).toUInt32).toInt32))])) _
        refine XS.i2l X118.here hx rfl (hb hby at_514) rfl ?_
        show Steps p.tables e below (T118.setTop (mkF m 515 Ls149 [(.long ((((((x0 + y0)).toUInt32 >>> (((8 : Int32)) &&& 31).toUInt32).toInt32)).toInt64))])) _
        refine XT.lload X118.here hx rfl (hb hby at_515) (by rw [hLs149]; first | done | rfl) ?_
        show Steps p.tables e below (T118.setTop (mkF m 517 Ls149 [(.long tc0), (.long ((((((x0 + y0)).toUInt32 >>> (((8 : Int32)) &&& 31).toUInt32).toInt32)).toInt64))])) _
        refine XS.ladd X118.here hx rfl (hb hby at_517) rfl ?_
        show Steps p.tables e below (T118.setTop (mkF m 518 Ls149 [(.long (((((((x0 + y0)).toUInt32 >>> (((8 : Int32)) &&& 31).toUInt32).toInt32)).toInt64) + tc0))])) _
        exact k
      obtain ⟨k0, h_k0⟩ : ∃ z : Int64, z = (((((((x0 + y0)).toUInt32 >>> (((8 : Int32)) &&& 31).toUInt32).toInt32)).toInt64) + tc0) := ⟨_, rfl⟩
      have pre151 : Go p e below (s₁.setTop (entryFrame m #[(.int ga), (.int gb), (.int gc), (.long gm), (.long gt), (.int gf)] maxLocals)) (T118.setTop (mkF m 518 Ls149 [(.long k0)])) := by rw [h_k0]; exact pre150
      obtain ⟨Ls152, hLs152⟩ : ∃ z : Array Slot, z = #[.val (.int ga), .val (.int gb), .val (.int gc), .val (.long gm), .second, .val (.long gt), .second, .val (.int gf), .val (.int (1 : Int32)), .val (.int tn), .val (.int les), .val (.int grt), .val (.ref bm), .val (.ref bt), .val .null, .val r15, .val (.int i0), .val (.int i1), .val (.int two), .val (.int hl), .val (.int hh), .val (.int lo), .val (.int hi), .val (.int x0), .val (.int y0), .val (.int x1), .val (.int y1), .val (.int xl), .val (.int yl), .val (.int xh), .val (.int yh), .val (.long mc0), .second, .val (.long tc0), .second, .val (.long mc1), .second, .val (.long tc1), .second, .val (.ref a39), .val (.long k0), .second, .unset, .unset, .unset, .unset] := ⟨_, rfl⟩
      have pre153 : Go p e below (s₁.setTop (entryFrame m #[(.int ga), (.int gb), (.int gc), (.long gm), (.long gt), (.int gf)] maxLocals)) (T118.setTop (mkF m 522 Ls152 [(.int two)])) := by
        intro t k
        refine pre151 t ?_
        show Steps p.tables e below (T118.setTop (mkF m 518 Ls149 [(.long k0)])) _
        refine XT.lstore X118.here hx rfl (hb hby at_518) rfl (l' := Ls152) (by rw [hLs152, hLs149]; first | done | rfl) ?_
        show Steps p.tables e below (T118.setTop (mkF m 520 Ls152 [])) _
        refine XS.iload X118.here hx rfl (hb hby at_520) (by rw [hLs152]; first | done | rfl) ?_
        show Steps p.tables e below (T118.setTop (mkF m 522 Ls152 [(.int two)])) _
        exact k
      obtain ⟨k1, h_k1⟩ : ∃ z : Int64, z = (if two = (0 : Int32) then (0 : Int64) else (((((((x1 + y1)).toUInt32 >>> (((8 : Int32)) &&& 31).toUInt32).toInt32)).toInt64) + tc1)) := ⟨_, rfl⟩
      have pre155 : Go p e below (s₁.setTop (entryFrame m #[(.int ga), (.int gb), (.int gc), (.long gm), (.long gt), (.int gf)] maxLocals)) (T118.setTop (mkF m 541 Ls152 [(.long k1)])) := by
        intro t k
        refine pre153 t ?_
        show Steps p.tables e below (T118.setTop (mkF m 522 Ls152 [(.int two)])) _
        by_cases hc522_154 : two = (0 : Int32)
        · skip
          refine XS.ifYes X118.here hx rfl (pc0 := 522) (pc' := 540) rfl (hb hby at_522) rfl (XT.i0_eq_t hc522_154) (by decide) (by decide) ?_
          show Steps p.tables e below (T118.setTop (mkF m 540 Ls152 [])) _
          refine XT.lconstV X118.here hx rfl (0 : Int64) (hb hby at_540) rfl ?_
          show Steps p.tables e below (T118.setTop (mkF m 541 Ls152 [(.long (0 : Int64))])) _
          rw [show k1 = (0 : Int64) from by rw [h_k1]; rw [if_pos hc522_154]] at k
          exact k
        · skip
          refine XS.ifNo X118.here hx rfl (hb hby at_522) rfl (XT.i0_eq_f hc522_154) ?_
          show Steps p.tables e below (T118.setTop (mkF m 525 Ls152 [])) _
          refine XS.iload X118.here hx rfl (hb hby at_525) (by rw [hLs152]; first | done | rfl) ?_
          show Steps p.tables e below (T118.setTop (mkF m 527 Ls152 [(.int x1)])) _
          refine XS.iload X118.here hx rfl (hb hby at_527) (by rw [hLs152]; first | done | rfl) ?_
          show Steps p.tables e below (T118.setTop (mkF m 529 Ls152 [(.int y1), (.int x1)])) _
          refine XS.iadd X118.here hx rfl (hb hby at_529) rfl ?_
          show Steps p.tables e below (T118.setTop (mkF m 530 Ls152 [(.int (x1 + y1))])) _
          refine XS.bipush X118.here hx rfl (hb hby at_530) ?_
          show Steps p.tables e below (T118.setTop (mkF m 532 Ls152 [(.int (8 : Int32)), (.int (x1 + y1))])) _
          refine XS.iushr X118.here hx rfl (hb hby at_532) rfl ?_
          show Steps p.tables e below (T118.setTop (mkF m 533 Ls152 [(.int ((((x1 + y1)).toUInt32 >>> (((8 : Int32)) &&& 31).toUInt32).toInt32))])) _
          refine XS.i2l X118.here hx rfl (hb hby at_533) rfl ?_
          show Steps p.tables e below (T118.setTop (mkF m 534 Ls152 [(.long ((((((x1 + y1)).toUInt32 >>> (((8 : Int32)) &&& 31).toUInt32).toInt32)).toInt64))])) _
          refine XT.lload X118.here hx rfl (hb hby at_534) (by rw [hLs152]; first | done | rfl) ?_
          show Steps p.tables e below (T118.setTop (mkF m 536 Ls152 [(.long tc1), (.long ((((((x1 + y1)).toUInt32 >>> (((8 : Int32)) &&& 31).toUInt32).toInt32)).toInt64))])) _
          refine XS.ladd X118.here hx rfl (hb hby at_536) rfl ?_
          show Steps p.tables e below (T118.setTop (mkF m 537 Ls152 [(.long (((((((x1 + y1)).toUInt32 >>> (((8 : Int32)) &&& 31).toUInt32).toInt32)).toInt64) + tc1))])) _
          refine XS.goto X118.here hx rfl (pc0 := 537) (pc' := 541) rfl (hb hby at_537) (by decide) (by decide) ?_
          show Steps p.tables e below (T118.setTop (mkF m 541 Ls152 [(.long (((((((x1 + y1)).toUInt32 >>> (((8 : Int32)) &&& 31).toUInt32).toInt32)).toInt64) + tc1))])) _
          rw [show k1 = (((((((x1 + y1)).toUInt32 >>> (((8 : Int32)) &&& 31).toUInt32).toInt32)).toInt64) + tc1) from by rw [h_k1]; rw [if_neg hc522_154]] at k
          exact k
      obtain ⟨Ls156, hLs156⟩ : ∃ z : Array Slot, z = #[.val (.int ga), .val (.int gb), .val (.int gc), .val (.long gm), .second, .val (.long gt), .second, .val (.int gf), .val (.int (1 : Int32)), .val (.int tn), .val (.int les), .val (.int grt), .val (.ref bm), .val (.ref bt), .val .null, .val r15, .val (.int i0), .val (.int i1), .val (.int two), .val (.int hl), .val (.int hh), .val (.int lo), .val (.int hi), .val (.int x0), .val (.int y0), .val (.int x1), .val (.int y1), .val (.int xl), .val (.int yl), .val (.int xh), .val (.int yh), .val (.long mc0), .second, .val (.long tc0), .second, .val (.long mc1), .second, .val (.long tc1), .second, .val (.ref a39), .val (.long k0), .second, .val (.long k1), .second, .unset, .unset] := ⟨_, rfl⟩
      have pre157 : Go p e below (s₁.setTop (entryFrame m #[(.int ga), (.int gb), (.int gc), (.long gm), (.long gt), (.int gf)] maxLocals)) (T118.setTop (mkF m 547 Ls156 [(.int (XT.cmpL k0 (0 : Int64)))])) := by
        intro t k
        refine pre155 t ?_
        show Steps p.tables e below (T118.setTop (mkF m 541 Ls152 [(.long k1)])) _
        refine XT.lstore X118.here hx rfl (hb hby at_541) rfl (l' := Ls156) (by rw [hLs156, hLs152]; first | done | rfl) ?_
        show Steps p.tables e below (T118.setTop (mkF m 543 Ls156 [])) _
        refine XT.lload X118.here hx rfl (hb hby at_543) (by rw [hLs156]; first | done | rfl) ?_
        show Steps p.tables e below (T118.setTop (mkF m 545 Ls156 [(.long k0)])) _
        refine XT.lconstV X118.here hx rfl (0 : Int64) (hb hby at_545) rfl ?_
        show Steps p.tables e below (T118.setTop (mkF m 546 Ls156 [(.long (0 : Int64)), (.long k0)])) _
        refine XT.lcmp X118.here hx rfl (hb hby at_546) rfl ?_
        show Steps p.tables e below (T118.setTop (mkF m 547 Ls156 [(.int (XT.cmpL k0 (0 : Int64)))])) _
        exact k
      obtain ⟨anyc, h_anyc⟩ : ∃ z : Int32, z = (if (0 : Int64) < k0 then (1 : Int32) else (if (0 : Int64) < k1 then (1 : Int32) else (0 : Int32))) := ⟨_, rfl⟩
      have pre160 : Go p e below (s₁.setTop (entryFrame m #[(.int ga), (.int gb), (.int gc), (.long gm), (.long gt), (.int gf)] maxLocals)) (T118.setTop (mkF m 562 Ls156 [(.int anyc)])) := by
        intro t k
        refine pre157 t ?_
        show Steps p.tables e below (T118.setTop (mkF m 547 Ls156 [(.int (XT.cmpL k0 (0 : Int64)))])) _
        by_cases hc547_158 : (0 : Int64) < k0
        · skip
          refine XS.ifYes X118.here hx rfl (pc0 := 547) (pc' := 557) rfl (hb hby at_547) rfl (XT.ll_gt_t hc547_158) (by decide) (by decide) ?_
          show Steps p.tables e below (T118.setTop (mkF m 557 Ls156 [])) _
          refine XS.iconst X118.here hx rfl (hb hby at_557) ?_
          show Steps p.tables e below (T118.setTop (mkF m 558 Ls156 [(.int (1 : Int32))])) _
          refine XS.goto X118.here hx rfl (pc0 := 558) (pc' := 562) rfl (hb hby at_558) (by decide) (by decide) ?_
          show Steps p.tables e below (T118.setTop (mkF m 562 Ls156 [(.int (1 : Int32))])) _
          rw [show anyc = (1 : Int32) from by rw [h_anyc]; rw [if_pos hc547_158]] at k
          exact k
        · skip
          refine XS.ifNo X118.here hx rfl (hb hby at_547) rfl (XT.ll_gt_f hc547_158) ?_
          show Steps p.tables e below (T118.setTop (mkF m 550 Ls156 [])) _
          refine XT.lload X118.here hx rfl (hb hby at_550) (by rw [hLs156]; first | done | rfl) ?_
          show Steps p.tables e below (T118.setTop (mkF m 552 Ls156 [(.long k1)])) _
          refine XT.lconstV X118.here hx rfl (0 : Int64) (hb hby at_552) rfl ?_
          show Steps p.tables e below (T118.setTop (mkF m 553 Ls156 [(.long (0 : Int64)), (.long k1)])) _
          refine XT.lcmp X118.here hx rfl (hb hby at_553) rfl ?_
          show Steps p.tables e below (T118.setTop (mkF m 554 Ls156 [(.int (XT.cmpL k1 (0 : Int64)))])) _
          by_cases hc554_159 : (0 : Int64) < k1
          · skip
            refine XS.ifNo X118.here hx rfl (hb hby at_554) rfl (XT.ll_le_f hc554_159) ?_
            show Steps p.tables e below (T118.setTop (mkF m 557 Ls156 [])) _
            refine XS.iconst X118.here hx rfl (hb hby at_557) ?_
            show Steps p.tables e below (T118.setTop (mkF m 558 Ls156 [(.int (1 : Int32))])) _
            refine XS.goto X118.here hx rfl (pc0 := 558) (pc' := 562) rfl (hb hby at_558) (by decide) (by decide) ?_
            show Steps p.tables e below (T118.setTop (mkF m 562 Ls156 [(.int (1 : Int32))])) _
            rw [show anyc = (1 : Int32) from by rw [h_anyc]; rw [if_neg hc547_158, if_pos hc554_159]] at k
            exact k
          · skip
            refine XS.ifYes X118.here hx rfl (pc0 := 554) (pc' := 561) rfl (hb hby at_554) rfl (XT.ll_le_t hc554_159) (by decide) (by decide) ?_
            show Steps p.tables e below (T118.setTop (mkF m 561 Ls156 [])) _
            refine XS.iconst X118.here hx rfl (hb hby at_561) ?_
            show Steps p.tables e below (T118.setTop (mkF m 562 Ls156 [(.int (0 : Int32))])) _
            rw [show anyc = (0 : Int32) from by rw [h_anyc]; rw [if_neg hc547_158, if_neg hc554_159]] at k
            exact k
      obtain ⟨Ls161, hLs161⟩ : ∃ z : Array Slot, z = #[.val (.int ga), .val (.int gb), .val (.int gc), .val (.long gm), .second, .val (.long gt), .second, .val (.int gf), .val (.int (1 : Int32)), .val (.int tn), .val (.int les), .val (.int grt), .val (.ref bm), .val (.ref bt), .val .null, .val r15, .val (.int i0), .val (.int i1), .val (.int two), .val (.int hl), .val (.int hh), .val (.int lo), .val (.int hi), .val (.int x0), .val (.int y0), .val (.int x1), .val (.int y1), .val (.int xl), .val (.int yl), .val (.int xh), .val (.int yh), .val (.long mc0), .second, .val (.long tc0), .second, .val (.long mc1), .second, .val (.long tc1), .second, .val (.ref a39), .val (.long k0), .second, .val (.long k1), .second, .val (.int anyc), .unset] := ⟨_, rfl⟩
      have pre162 : Go p e below (s₁.setTop (entryFrame m #[(.int ga), (.int gb), (.int gc), (.long gm), (.long gt), (.int gf)] maxLocals)) (T118.setTop (mkF m 564 Ls161 [])) := by
        intro t k
        refine pre160 t ?_
        show Steps p.tables e below (T118.setTop (mkF m 562 Ls156 [(.int anyc)])) _
        refine XS.istore X118.here hx rfl (hb hby at_562) rfl (l' := Ls161) (by rw [hLs161, hLs156]; first | done | rfl) ?_
        show Steps p.tables e below (T118.setTop (mkF m 564 Ls161 [])) _
        exact k
      have hK0 : own_cy (own_G i0 i1 two hl hh lo hi x0 x1 xl xh) (own_G i0 i1 two hl hh lo hi y0 y1 yl yh) (own_F own_z64 i0 i1 two hl hh lo hi tc0 tc1 (if tn = (0 : Int32) then (7 : Int64) else (0 : Int64)) (if tn = (0 : Int32) then (7 : Int64) else (0 : Int64))) i0 = k0 := by rw [h_k0]; exact own_kA PP ⟨_, h_x0⟩ ⟨_, h_y0⟩
      have hK1 : ¬ two = 0 → own_cy (own_f1 (own_G i0 i1 two hl hh lo hi x0 x1 xl xh) (own_G i0 i1 two hl hh lo hi y0 y1 yl yh) i0) (own_G i0 i1 two hl hh lo hi y0 y1 yl yh) (own_F own_z64 i0 i1 two hl hh lo hi tc0 tc1 (if tn = (0 : Int32) then (7 : Int64) else (0 : Int64)) (if tn = (0 : Int32) then (7 : Int64) else (0 : Int64))) (i0 + (1 : Int32)) = k1 := fun q => by rw [h_k1, if_neg q]; exact own_kB PP hj1 q ⟨_, h_x1⟩ ⟨_, h_y1⟩
      have hK1z : two = 0 → k1 = 0 := fun q => by rw [h_k1, if_pos q]
      have pre163 : Go p e below (s₁.setTop (entryFrame m #[(.int ga), (.int gb), (.int gc), (.long gm), (.long gt), (.int gf)] maxLocals)) (T118.setTop (mkF m 566 Ls161 [(.int (1 : Int32))])) := by
        intro t k
        refine pre162 t ?_
        show Steps p.tables e below (T118.setTop (mkF m 564 Ls161 [])) _
        refine XS.iload X118.here hx rfl (hb hby at_564) (by rw [hLs161]; first | done | rfl) ?_
        show Steps p.tables e below (T118.setTop (mkF m 566 Ls161 [(.int (1 : Int32))])) _
        exact k
      have pre164 : Go p e below (s₁.setTop (entryFrame m #[(.int ga), (.int gb), (.int gc), (.long gm), (.long gt), (.int gf)] maxLocals)) (T118.setTop (mkF m 588 Ls161 [(.int anyc)])) := by
        intro t k
        refine pre163 t ?_
        show Steps p.tables e below (T118.setTop (mkF m 566 Ls161 [(.int (1 : Int32))])) _
        refine XS.ifYes X118.here hx rfl (pc0 := 566) (pc' := 586) rfl (hb hby at_566) rfl (XT.i0_ne_t (by decide : ¬ ((1 : Int32) = (0 : Int32)))) (by decide) (by decide) ?_
        show Steps p.tables e below (T118.setTop (mkF m 586 Ls161 [])) _
        refine XS.iload X118.here hx rfl (hb hby at_586) (by rw [hLs161]; first | done | rfl) ?_
        show Steps p.tables e below (T118.setTop (mkF m 588 Ls161 [(.int anyc)])) _
        exact k
      have hc588_165 : ¬ (anyc = (0 : Int32)) := by
        rw [h_anyc]
        rcases hcy with w | ⟨q, w⟩
        · rw [if_pos (hK0 ▸ w)]; decide
        · have w' : (0 : Int64) < k1 := hK1 q ▸ w
          by_cases c0 : (0 : Int64) < k0
          · rw [if_pos c0]; decide
          · rw [if_neg c0, if_pos w']; decide
      obtain ⟨cl166, Ar166, SS166, NN166, -⟩ := LR.cell
      have pre167 : Go p e below (s₁.setTop (entryFrame m #[(.int ga), (.int gb), (.int gc), (.long gm), (.long gt), (.int gf)] maxLocals)) (T118.setTop (mkF m 617 Ls161 [(.int (1999 : Int32)), (.int (1999 : Int32))])) := by
        intro t k
        refine pre164 t ?_
        show Steps p.tables e below (T118.setTop (mkF m 588 Ls161 [(.int anyc)])) _
        refine XS.ifYes X118.here hx rfl (pc0 := 588) (pc' := 606) rfl (hb hby at_588) rfl (XT.i0_ne_t hc588_165) (by decide) (by decide) ?_
        show Steps p.tables e below (T118.setTop (mkF m 606 Ls161 [])) _
        refine XS.aload X118.here hx rfl (hb hby at_606) (by rw [hLs161]; first | done | rfl) rfl ?_
        show Steps p.tables e below (T118.setTop (mkF m 608 Ls161 [(.ref a39)])) _
        refine XS.ifnullNo X118.here hx rfl (hb hby at_608) rfl ?_
        show Steps p.tables e below (T118.setTop (mkF m 611 Ls161 [])) _
        refine XS.aload X118.here hx rfl (hb hby at_611) (by rw [hLs161]; first | done | rfl) rfl ?_
        show Steps p.tables e below (T118.setTop (mkF m 613 Ls161 [(.ref a39)])) _
        refine X118.arraylength hx Ar166.1 (State.isArrayOf_alike hZ.alike Ar166.2.1) (g := (mkF m 613 Ls161 [(.ref a39)])) rfl rfl (hb hby at_613) _ ?_
        rw [len_of SS166 NN166]
        show Steps p.tables e below (T118.setTop (mkF m 614 Ls161 [(.int (1999 : Int32))])) _
        refine XS.sipush X118.here hx rfl (hb hby at_614) ?_
        show Steps p.tables e below (T118.setTop (mkF m 617 Ls161 [(.int (1999 : Int32)), (.int (1999 : Int32))])) _
        exact k
      obtain ⟨Ls168, hLs168⟩ : ∃ z : Array Slot, z = #[.val (.int ga), .val (.int gb), .val (.int gc), .val (.long gm), .second, .val (.long gt), .second, .val (.int gf), .val (.int (1 : Int32)), .val (.int tn), .val (.int les), .val (.int grt), .val (.ref bm), .val (.ref bt), .val .null, .val r15, .val (.int i0), .val (.int i1), .val (.int two), .val (.int hl), .val (.int hh), .val (.int lo), .val (.int hi), .val (.int x0), .val (.int y0), .val (.int x1), .val (.int y1), .val (.int xl), .val (.int yl), .val (.int xh), .val (.int yh), .val (.long mc0), .second, .val (.long tc0), .second, .val (.long mc1), .second, .val (.long tc1), .second, .val (.ref a39), .val (.long k0), .second, .val (.long k1), .second, .val (.int anyc), .val (.int (1 : Int32))] := ⟨_, rfl⟩
      have pre169 : Go p e below (s₁.setTop (entryFrame m #[(.int ga), (.int gb), (.int gc), (.long gm), (.long gt), (.int gf)] maxLocals)) (T118.setTop (mkF m 629 Ls168 [(.int (1 : Int32))])) := by
        intro t k
        refine pre167 t ?_
        show Steps p.tables e below (T118.setTop (mkF m 617 Ls161 [(.int (1999 : Int32)), (.int (1999 : Int32))])) _
        refine XS.icmpNo X118.here hx rfl (hb hby at_617) rfl (XT.ii_ne_f (by decide : (1999 : Int32) = (1999 : Int32))) ?_
        show Steps p.tables e below (T118.setTop (mkF m 620 Ls161 [])) _
        refine XS.iconst X118.here hx rfl (hb hby at_620) ?_
        show Steps p.tables e below (T118.setTop (mkF m 621 Ls161 [(.int (1 : Int32))])) _
        refine XS.goto X118.here hx rfl (pc0 := 621) (pc' := 625) rfl (hb hby at_621) (by decide) (by decide) ?_
        show Steps p.tables e below (T118.setTop (mkF m 625 Ls161 [(.int (1 : Int32))])) _
        refine XS.istore X118.here hx rfl (hb hby at_625) rfl (l' := Ls168) (by rw [hLs168, hLs161]; first | done | rfl) ?_
        show Steps p.tables e below (T118.setTop (mkF m 627 Ls168 [])) _
        refine XS.iload X118.here hx rfl (hb hby at_627) (by rw [hLs168]; first | done | rfl) ?_
        show Steps p.tables e below (T118.setTop (mkF m 629 Ls168 [(.int (1 : Int32))])) _
        exact k
      have pre170 : Go p e below (s₁.setTop (entryFrame m #[(.int ga), (.int gb), (.int gc), (.long gm), (.long gt), (.int gf)] maxLocals)) (T118.setTop (mkF m 634 Ls168 [])) := by
        intro t k
        refine pre169 t ?_
        show Steps p.tables e below (T118.setTop (mkF m 629 Ls168 [(.int (1 : Int32))])) _
        refine XS.ifYes X118.here hx rfl (pc0 := 629) (pc' := 634) rfl (hb hby at_629) rfl (XT.i0_ne_t (by decide : ¬ ((1 : Int32) = (0 : Int32)))) (by decide) (by decide) ?_
        show Steps p.tables e below (T118.setTop (mkF m 634 Ls168 [])) _
        exact k
      have m0 : mc0 = 0 := hvm1 h_mc0 rfl
      have m1 : mc1 = 0 := hvm1 h_mc1 rfl
      obtain ⟨T171, lc171, X171, e171, N171, g171⟩ := chk0r (Ls := Ls168) (bm := bm) (bt := bt) (fm := (own_fE two (own_G i0 i1 two hl hh lo hi x0 x1 xl xh) (own_G i0 i1 two hl hh lo hi y0 y1 yl yh) i0 (i0 + (1 : Int32)))) (ft := (own_G i0 i1 two hl hh lo hi y0 y1 yl yh)) (j := i0) (xx := x0) (yy := y0) (vm := mc0) (kk := k0) (a39 := a39) (k39 := k39) (fR := (own_rE two (own_G i0 i1 two hl hh lo hi x0 x1 xl xh) (own_G i0 i1 two hl hh lo hi y0 y1 yl yh) (own_F own_z64 i0 i1 two hl hh lo hi tc0 tc1 (if tn = (0 : Int32) then (7 : Int64) else (0 : Int64)) (if tn = (0 : Int32) then (7 : Int64) else (0 : Int64))) own_z64 i0 (i0 + (1 : Int32)))) X118 hx hZ hw hby hml hown rfl N118 zz118 (by rw [hLs168]; first | done | rfl) (by rw [hLs168]; first | done | rfl) (by rw [hLs168]; first | done | rfl) (by rw [hLs168]; first | done | rfl) (by rw [hLs168]; first | done | rfl) (by rw [hLs168]; first | done | rfl) (by rw [hLs168]; first | done | rfl) (by rw [hLs168]; first | done | rfl) (by rw [hLs168]; first | done | rfl) (by rw [hLs168]; first | done | rfl) (by rw [hLs168]; first | done | rfl) Mbm Mbt LR hin0 (own_mA PP hj1 ⟨_, h_x0⟩ ⟨_, h_y0⟩) ((own_F0 PP).trans (own_nar y0)) (by unfold fcar; rw [own_rA PP hj1 ⟨_, h_x0⟩ ⟨_, h_y0⟩, m0, h_k0]; first | done | rfl)
      have pre172 : Go p e below (s₁.setTop (entryFrame m #[(.int ga), (.int gb), (.int gc), (.long gm), (.long gt), (.int gf)] maxLocals)) (T171.setTop (mkF m 682 Ls168 [])) := fun t k => pre170 t (g171 t k)
      obtain ⟨T173, lc173, X173, e173, N173, g173⟩ := chk1r (Ls := Ls168) (bm := bm) (bt := bt) (fm := (own_fE two (own_G i0 i1 two hl hh lo hi x0 x1 xl xh) (own_G i0 i1 two hl hh lo hi y0 y1 yl yh) i0 (i0 + (1 : Int32)))) (ft := (own_G i0 i1 two hl hh lo hi y0 y1 yl yh)) (j := i1) (xx := x1) (yy := y1) (vm := mc1) (kk := k1) (fl := two) (a39 := a39) (k39 := k39) (fR := (own_rE two (own_G i0 i1 two hl hh lo hi x0 x1 xl xh) (own_G i0 i1 two hl hh lo hi y0 y1 yl yh) (own_F own_z64 i0 i1 two hl hh lo hi tc0 tc1 (if tn = (0 : Int32) then (7 : Int64) else (0 : Int64)) (if tn = (0 : Int32) then (7 : Int64) else (0 : Int64))) own_z64 i0 (i0 + (1 : Int32)))) X171 hx hZ hw hby hml hown e171 N171 zz118 (by rw [hLs168]; first | done | rfl) (by rw [hLs168]; first | done | rfl) (by rw [hLs168]; first | done | rfl) (by rw [hLs168]; first | done | rfl) (by rw [hLs168]; first | done | rfl) (by rw [hLs168]; first | done | rfl) (by rw [hLs168]; first | done | rfl) (by rw [hLs168]; first | done | rfl) (by rw [hLs168]; first | done | rfl) (by rw [hLs168]; first | done | rfl) (by rw [hLs168]; first | done | rfl) (by rw [hLs168]; first | done | rfl) Mbm Mbt LR (fun _ => hin1) (fun q => own_mB PP hj1 q ⟨_, h_x1⟩ ⟨_, h_y1⟩) (fun q => (own_F1 PP q).trans (own_nar y1)) (fun q => by unfold fcar; rw [own_rB PP hj1 q ⟨_, h_x1⟩ ⟨_, h_y1⟩, m1, h_k1, if_neg q]; first | done | rfl)
      have pre174 : Go p e below (s₁.setTop (entryFrame m #[(.int ga), (.int gb), (.int gc), (.long gm), (.long gt), (.int gf)] maxLocals)) (T173.setTop (mkF m 740 Ls168 [])) := fun t k => pre172 t (g173 t k)
      obtain ⟨T175, lc175, X175, e175, N175, g175⟩ := chk2r (Ls := Ls168) (bm := bm) (bt := bt) (fm := (own_fE two (own_G i0 i1 two hl hh lo hi x0 x1 xl xh) (own_G i0 i1 two hl hh lo hi y0 y1 yl yh) i0 (i0 + (1 : Int32)))) (ft := (own_G i0 i1 two hl hh lo hi y0 y1 yl yh)) (j := lo) (xx := xl) (yy := yl) (mn := (1 : Int32)) (fl := hl) (a39 := a39) (k39 := k39) (fR := (own_rE two (own_G i0 i1 two hl hh lo hi x0 x1 xl xh) (own_G i0 i1 two hl hh lo hi y0 y1 yl yh) (own_F own_z64 i0 i1 two hl hh lo hi tc0 tc1 (if tn = (0 : Int32) then (7 : Int64) else (0 : Int64)) (if tn = (0 : Int32) then (7 : Int64) else (0 : Int64))) own_z64 i0 (i0 + (1 : Int32)))) X173 hx hZ hw hby hml hown e173 N173 zz118 (by rw [hLs168]; first | done | rfl) (by rw [hLs168]; first | done | rfl) (by rw [hLs168]; first | done | rfl) (by rw [hLs168]; first | done | rfl) (by rw [hLs168]; first | done | rfl) (by rw [hLs168]; first | done | rfl) (by rw [hLs168]; first | done | rfl) (by rw [hLs168]; first | done | rfl) (by rw [hLs168]; first | done | rfl) (by rw [hLs168]; first | done | rfl) (by rw [hLs168]; first | done | rfl) Mbm Mbt LR hinL (fun q => own_mC PP hj1 q) (fun q => (own_F2 PP q).trans (own_nar yl)) (fun q => by unfold fcar; rw [own_rC PP hj1 q]; first | done | rfl)
      have pre176 : Go p e below (s₁.setTop (entryFrame m #[(.int ga), (.int gb), (.int gc), (.long gm), (.long gt), (.int gf)] maxLocals)) (T175.setTop (mkF m 802 Ls168 [])) := fun t k => pre174 t (g175 t k)
      obtain ⟨T177, lc177, X177, e177, N177, g177⟩ := chk3r (Ls := Ls168) (bm := bm) (bt := bt) (fm := (own_fE two (own_G i0 i1 two hl hh lo hi x0 x1 xl xh) (own_G i0 i1 two hl hh lo hi y0 y1 yl yh) i0 (i0 + (1 : Int32)))) (ft := (own_G i0 i1 two hl hh lo hi y0 y1 yl yh)) (j := hi) (xx := xh) (yy := yh) (mn := (1 : Int32)) (fl := hh) (a39 := a39) (k39 := k39) (fR := (own_rE two (own_G i0 i1 two hl hh lo hi x0 x1 xl xh) (own_G i0 i1 two hl hh lo hi y0 y1 yl yh) (own_F own_z64 i0 i1 two hl hh lo hi tc0 tc1 (if tn = (0 : Int32) then (7 : Int64) else (0 : Int64)) (if tn = (0 : Int32) then (7 : Int64) else (0 : Int64))) own_z64 i0 (i0 + (1 : Int32)))) X175 hx hZ hw hby hml hown e175 N175 zz118 (by rw [hLs168]; first | done | rfl) (by rw [hLs168]; first | done | rfl) (by rw [hLs168]; first | done | rfl) (by rw [hLs168]; first | done | rfl) (by rw [hLs168]; first | done | rfl) (by rw [hLs168]; first | done | rfl) (by rw [hLs168]; first | done | rfl) (by rw [hLs168]; first | done | rfl) (by rw [hLs168]; first | done | rfl) (by rw [hLs168]; first | done | rfl) (by rw [hLs168]; first | done | rfl) Mbm Mbt LR hinH (fun q => own_mD PP hj1 q) (fun q => (own_F3 q).trans (own_nar yh)) (fun q => by unfold fcar; rw [own_rD PP hj1 q]; first | done | rfl)
      have pre178 : Go p e below (s₁.setTop (entryFrame m #[(.int ga), (.int gb), (.int gc), (.long gm), (.long gt), (.int gf)] maxLocals)) (T177.setTop (mkF m 864 Ls168 [])) := fun t k => pre176 t (g177 t k)
      have pre179 : Go p e below (s₁.setTop (entryFrame m #[(.int ga), (.int gb), (.int gc), (.long gm), (.long gt), (.int gf)] maxLocals)) (T177.setTop (mkF m 866 Ls168 [(.int (1 : Int32))])) := by
        intro t k
        refine pre178 t ?_
        show Steps p.tables e below (T177.setTop (mkF m 864 Ls168 [])) _
        refine XS.iload X177.here hx rfl (hb hby at_864) (by rw [hLs168]; first | done | rfl) ?_
        show Steps p.tables e below (T177.setTop (mkF m 866 Ls168 [(.int (1 : Int32))])) _
        exact k
      obtain ⟨fs, hr, hrun, hended, hW, hsame⟩ := X177.leave (hlocks := hlk) (v := some (.int (1 : Int32))) (fun h => by rw [Bd.returns] at h; cases h)
      refine ⟨_, _, pre179 _ (retN X177 hx (t := .boolean) Bd.returns (by simp) (hb hby at_866) hr), hrun, hended, _, _, rfl, ?_, ⟨_, rfl⟩, hW, hsame.mono (by decide) (by decide)⟩
      show Q0 Z ga gb gc gm gt gf h0 n0 _ T177.heap _
      rw [e177]
      exact ⟨rfl, N177⟩
  · skip
    have pre180 : Go p e below (s₁.setTop (entryFrame m #[(.int ga), (.int gb), (.int gc), (.long gm), (.long gt), (.int gf)] maxLocals)) (T115.setTop (mkF m 501 Ls107 [(.int grt), (.int les), r15, (.ref bt), (.ref am), (.ref bm)])) := by
      intro t k
      refine pre116 t ?_
      show Steps p.tables e below (T115.setTop (mkF m 489 Ls107 [])) _
      refine XS.aload X115.here hx rfl (hb hby at_489) (by rw [hLs107]; first | done | rfl) rfl ?_
      show Steps p.tables e below (T115.setTop (mkF m 491 Ls107 [(.ref bm)])) _
      refine XS.aload X115.here hx rfl (hb hby at_491) (by rw [hLs107]; first | done | rfl) rfl ?_
      show Steps p.tables e below (T115.setTop (mkF m 493 Ls107 [(.ref am), (.ref bm)])) _
      refine XS.aload X115.here hx rfl (hb hby at_493) (by rw [hLs107]; first | done | rfl) rfl ?_
      show Steps p.tables e below (T115.setTop (mkF m 495 Ls107 [(.ref bt), (.ref am), (.ref bm)])) _
      refine XS.aload X115.here hx rfl (hb hby at_495) (by rw [hLs107]; first | done | rfl) hr_r15 ?_
      show Steps p.tables e below (T115.setTop (mkF m 497 Ls107 [r15, (.ref bt), (.ref am), (.ref bm)])) _
      refine XS.iload X115.here hx rfl (hb hby at_497) (by rw [hLs107]; first | done | rfl) ?_
      show Steps p.tables e below (T115.setTop (mkF m 499 Ls107 [(.int les), r15, (.ref bt), (.ref am), (.ref bm)])) _
      refine XS.iload X115.here hx rfl (hb hby at_499) (by rw [hLs107]; first | done | rfl) ?_
      show Steps p.tables e below (T115.setTop (mkF m 501 Ls107 [(.int grt), (.int les), r15, (.ref bt), (.ref am), (.ref bm)])) _
      exact k
    obtain ⟨_, _, ⟨T181, L181, k181, n181⟩, -, X181, ⟨Lc181, hQ181, l181, y181, z181⟩, st181⟩ := Jvm.LawKit.callS X115 hx (y := (⟨"com/example/lanescan/lanescan/Distribution", "merge", "([B[J[B[JII)[J"⟩ : MethodName)) hown (mvT hZ (hw _ (List.mem_of_getElem? (i := 6) rfl))) (mvT hZ (hw _ (List.mem_of_getElem? (i := 7) rfl))) (mvT hZ (hw _ (List.mem_of_getElem? (i := 8) rfl))) (mvT hZ (hw _ (List.mem_of_getElem? (i := 9) rfl))) (by decide) (backOf (W := 0) (rm2_r l Z a0 hw [] bm am bt les grt r15 k19 k24 (own_G i0 i1 two hl hh lo hi x0 x1 xl xh) (own_G i0 i1 two hl hh lo hi y0 y1 yl yh) (own_F own_z64 i0 i1 two hl hh lo hi tc0 tc1 (if tn = (0 : Int32) then (7 : Int64) else (0 : Int64)) (if tn = (0 : Int32) then (7 : Int64) else (0 : Int64))) two kam (own_F own_z64 i0 i1 two hl hh lo hi mc0 mc1 (if (0 : Int32) = (0 : Int32) then (5 : Int64) else (0 : Int64)) (if (0 : Int32) = (0 : Int32) then (5 : Int64) else (0 : Int64))) h115 n0 zz115 hr_r15 Hbm Hbt (Ne.symm ne_bm_bt) g_bm hles htw hg LAm g_am ne_am_bm (Ne.symm ne_am_bt) (Ht.imp (fun z => ⟨z.2.1, z.2.2⟩) fun ⟨_, a, k, q1, _, q2, _, q4, q3⟩ => ⟨a, k, q1, q2, fun z => q4 (congrArg Value.ref z.symm), q3⟩)) hZ (hw _ (List.mem_of_getElem? (i := 9) rfl)) (hw _ (List.mem_of_getElem? (i := 8) rfl)) (by decide) (by decide)) (g := (mkF m 501 Ls107 [(.int grt), (.int les), r15, (.ref bt), (.ref am), (.ref bm)])) rfl (by rw [hml]; show Array.size Ls107 = _; rw [hLs107]; first | done | rfl) (argsL := [(.ref bm), (.ref am), (.ref bt), r15, (.int les), (.int grt)]) (rest := []) (lenOf pd_5 rfl) rfl (by show 2 * 0 + _ ≤ _; exact Nat.le_of_eq rfl) (hb hby at_501) (fun _ _ => ⟨rfl, e115, (by decide : 4 + 1 ≤ _), (by decide : 7996 + 1999 ≤ _)⟩)
    dsimp only [Pt.U, Pt.locs, Pt.cells, Pt.slots] at X181 l181 y181 z181 st181 hQ181
    subst l181 y181 z181
    obtain ⟨rfl, N181q, Mbm, Mbt, LR⟩ := hQ181
    have N181 := Fr.app N115 N181q
    rw [← h_i0] at Mbm LR
    have zz181 : n0 ≤ T181.heap.size := Nat.le_of_lt (Nat.lt_of_le_of_lt g_bm Mbm.lt)
    have pre182 : Go p e below (s₁.setTop (entryFrame m #[(.int ga), (.int gb), (.int gc), (.long gm), (.long gt), (.int gf)] maxLocals)) (T181.setTop (mkF m 504 Ls107 [(.ref am)])) := fun t k => pre180 t (st181 t k)
    obtain ⟨Ls183, hLs183⟩ : ∃ z : Array Slot, z = #[.val (.int ga), .val (.int gb), .val (.int gc), .val (.long gm), .second, .val (.long gt), .second, .val (.int gf), .val (.int (0 : Int32)), .val (.int tn), .val (.int les), .val (.int grt), .val (.ref bm), .val (.ref bt), .val (.ref am), .val r15, .val (.int i0), .val (.int i1), .val (.int two), .val (.int hl), .val (.int hh), .val (.int lo), .val (.int hi), .val (.int x0), .val (.int y0), .val (.int x1), .val (.int y1), .val (.int xl), .val (.int yl), .val (.int xh), .val (.int yh), .val (.long mc0), .second, .val (.long tc0), .second, .val (.long mc1), .second, .val (.long tc1), .second, .val (.ref am), .unset, .unset, .unset, .unset, .unset, .unset] := ⟨_, rfl⟩
    have pre184 : Go p e below (s₁.setTop (entryFrame m #[(.int ga), (.int gb), (.int gc), (.long gm), (.long gt), (.int gf)] maxLocals)) (T181.setTop (mkF m 518 Ls183 [(.long (((((((x0 + y0)).toUInt32 >>> (((8 : Int32)) &&& 31).toUInt32).toInt32)).toInt64) + tc0))])) := by
      intro t k
      refine pre182 t ?_
      show Steps p.tables e below (T181.setTop (mkF m 504 Ls107 [(.ref am)])) _
      refine XS.astore X181.here hx rfl (hb hby at_504) rfl rfl (l' := Ls183) (by rw [hLs183, hLs107]; first | done | rfl) ?_
      show Steps p.tables e below (T181.setTop (mkF m 506 Ls183 [])) _
      refine XS.iload X181.here hx rfl (hb hby at_506) (by rw [hLs183]; first | done | rfl) ?_
      show Steps p.tables e below (T181.setTop (mkF m 508 Ls183 [(.int x0)])) _
      refine XS.iload X181.here hx rfl (hb hby at_508) (by rw [hLs183]; first | done | rfl) ?_
      show Steps p.tables e below (T181.setTop (mkF m 510 Ls183 [(.int y0), (.int x0)])) _
      refine XS.iadd X181.here hx rfl (hb hby at_510) rfl ?_
      show Steps p.tables e below (T181.setTop (mkF m 511 Ls183 [(.int (x0 + y0))])) _
      refine XS.bipush X181.here hx rfl (hb hby at_511) ?_
      show Steps p.tables e below (T181.setTop (mkF m 513 Ls183 [(.int (8 : Int32)), (.int (x0 + y0))])) _
      refine XS.iushr X181.here hx rfl (hb hby at_513) rfl ?_
      show Steps p.tables e below (T181.setTop (mkF m 514 Ls183 [(.int ((((x0 + y0)).toUInt32 >>> (((8 : Int32)) &&& 31).toUInt32).toInt32))])) _
      refine XS.i2l X181.here hx rfl (hb hby at_514) rfl ?_
      show Steps p.tables e below (T181.setTop (mkF m 515 Ls183 [(.long ((((((x0 + y0)).toUInt32 >>> (((8 : Int32)) &&& 31).toUInt32).toInt32)).toInt64))])) _
      refine XT.lload X181.here hx rfl (hb hby at_515) (by rw [hLs183]; first | done | rfl) ?_
      show Steps p.tables e below (T181.setTop (mkF m 517 Ls183 [(.long tc0), (.long ((((((x0 + y0)).toUInt32 >>> (((8 : Int32)) &&& 31).toUInt32).toInt32)).toInt64))])) _
      refine XS.ladd X181.here hx rfl (hb hby at_517) rfl ?_
      show Steps p.tables e below (T181.setTop (mkF m 518 Ls183 [(.long (((((((x0 + y0)).toUInt32 >>> (((8 : Int32)) &&& 31).toUInt32).toInt32)).toInt64) + tc0))])) _
      exact k
    obtain ⟨k0, h_k0⟩ : ∃ z : Int64, z = (((((((x0 + y0)).toUInt32 >>> (((8 : Int32)) &&& 31).toUInt32).toInt32)).toInt64) + tc0) := ⟨_, rfl⟩
    have pre185 : Go p e below (s₁.setTop (entryFrame m #[(.int ga), (.int gb), (.int gc), (.long gm), (.long gt), (.int gf)] maxLocals)) (T181.setTop (mkF m 518 Ls183 [(.long k0)])) := by rw [h_k0]; exact pre184
    obtain ⟨Ls186, hLs186⟩ : ∃ z : Array Slot, z = #[.val (.int ga), .val (.int gb), .val (.int gc), .val (.long gm), .second, .val (.long gt), .second, .val (.int gf), .val (.int (0 : Int32)), .val (.int tn), .val (.int les), .val (.int grt), .val (.ref bm), .val (.ref bt), .val (.ref am), .val r15, .val (.int i0), .val (.int i1), .val (.int two), .val (.int hl), .val (.int hh), .val (.int lo), .val (.int hi), .val (.int x0), .val (.int y0), .val (.int x1), .val (.int y1), .val (.int xl), .val (.int yl), .val (.int xh), .val (.int yh), .val (.long mc0), .second, .val (.long tc0), .second, .val (.long mc1), .second, .val (.long tc1), .second, .val (.ref am), .val (.long k0), .second, .unset, .unset, .unset, .unset] := ⟨_, rfl⟩
    have pre187 : Go p e below (s₁.setTop (entryFrame m #[(.int ga), (.int gb), (.int gc), (.long gm), (.long gt), (.int gf)] maxLocals)) (T181.setTop (mkF m 522 Ls186 [(.int two)])) := by
      intro t k
      refine pre185 t ?_
      show Steps p.tables e below (T181.setTop (mkF m 518 Ls183 [(.long k0)])) _
      refine XT.lstore X181.here hx rfl (hb hby at_518) rfl (l' := Ls186) (by rw [hLs186, hLs183]; first | done | rfl) ?_
      show Steps p.tables e below (T181.setTop (mkF m 520 Ls186 [])) _
      refine XS.iload X181.here hx rfl (hb hby at_520) (by rw [hLs186]; first | done | rfl) ?_
      show Steps p.tables e below (T181.setTop (mkF m 522 Ls186 [(.int two)])) _
      exact k
    obtain ⟨k1, h_k1⟩ : ∃ z : Int64, z = (if two = (0 : Int32) then (0 : Int64) else (((((((x1 + y1)).toUInt32 >>> (((8 : Int32)) &&& 31).toUInt32).toInt32)).toInt64) + tc1)) := ⟨_, rfl⟩
    have pre189 : Go p e below (s₁.setTop (entryFrame m #[(.int ga), (.int gb), (.int gc), (.long gm), (.long gt), (.int gf)] maxLocals)) (T181.setTop (mkF m 541 Ls186 [(.long k1)])) := by
      intro t k
      refine pre187 t ?_
      show Steps p.tables e below (T181.setTop (mkF m 522 Ls186 [(.int two)])) _
      by_cases hc522_188 : two = (0 : Int32)
      · skip
        refine XS.ifYes X181.here hx rfl (pc0 := 522) (pc' := 540) rfl (hb hby at_522) rfl (XT.i0_eq_t hc522_188) (by decide) (by decide) ?_
        show Steps p.tables e below (T181.setTop (mkF m 540 Ls186 [])) _
        refine XT.lconstV X181.here hx rfl (0 : Int64) (hb hby at_540) rfl ?_
        show Steps p.tables e below (T181.setTop (mkF m 541 Ls186 [(.long (0 : Int64))])) _
        rw [show k1 = (0 : Int64) from by rw [h_k1]; rw [if_pos hc522_188]] at k
        exact k
      · skip
        refine XS.ifNo X181.here hx rfl (hb hby at_522) rfl (XT.i0_eq_f hc522_188) ?_
        show Steps p.tables e below (T181.setTop (mkF m 525 Ls186 [])) _
        refine XS.iload X181.here hx rfl (hb hby at_525) (by rw [hLs186]; first | done | rfl) ?_
        show Steps p.tables e below (T181.setTop (mkF m 527 Ls186 [(.int x1)])) _
        refine XS.iload X181.here hx rfl (hb hby at_527) (by rw [hLs186]; first | done | rfl) ?_
        show Steps p.tables e below (T181.setTop (mkF m 529 Ls186 [(.int y1), (.int x1)])) _
        refine XS.iadd X181.here hx rfl (hb hby at_529) rfl ?_
        show Steps p.tables e below (T181.setTop (mkF m 530 Ls186 [(.int (x1 + y1))])) _
        refine XS.bipush X181.here hx rfl (hb hby at_530) ?_
        show Steps p.tables e below (T181.setTop (mkF m 532 Ls186 [(.int (8 : Int32)), (.int (x1 + y1))])) _
        refine XS.iushr X181.here hx rfl (hb hby at_532) rfl ?_
        show Steps p.tables e below (T181.setTop (mkF m 533 Ls186 [(.int ((((x1 + y1)).toUInt32 >>> (((8 : Int32)) &&& 31).toUInt32).toInt32))])) _
        refine XS.i2l X181.here hx rfl (hb hby at_533) rfl ?_
        show Steps p.tables e below (T181.setTop (mkF m 534 Ls186 [(.long ((((((x1 + y1)).toUInt32 >>> (((8 : Int32)) &&& 31).toUInt32).toInt32)).toInt64))])) _
        refine XT.lload X181.here hx rfl (hb hby at_534) (by rw [hLs186]; first | done | rfl) ?_
        show Steps p.tables e below (T181.setTop (mkF m 536 Ls186 [(.long tc1), (.long ((((((x1 + y1)).toUInt32 >>> (((8 : Int32)) &&& 31).toUInt32).toInt32)).toInt64))])) _
        refine XS.ladd X181.here hx rfl (hb hby at_536) rfl ?_
        show Steps p.tables e below (T181.setTop (mkF m 537 Ls186 [(.long (((((((x1 + y1)).toUInt32 >>> (((8 : Int32)) &&& 31).toUInt32).toInt32)).toInt64) + tc1))])) _
        refine XS.goto X181.here hx rfl (pc0 := 537) (pc' := 541) rfl (hb hby at_537) (by decide) (by decide) ?_
        show Steps p.tables e below (T181.setTop (mkF m 541 Ls186 [(.long (((((((x1 + y1)).toUInt32 >>> (((8 : Int32)) &&& 31).toUInt32).toInt32)).toInt64) + tc1))])) _
        rw [show k1 = (((((((x1 + y1)).toUInt32 >>> (((8 : Int32)) &&& 31).toUInt32).toInt32)).toInt64) + tc1) from by rw [h_k1]; rw [if_neg hc522_188]] at k
        exact k
    obtain ⟨Ls190, hLs190⟩ : ∃ z : Array Slot, z = #[.val (.int ga), .val (.int gb), .val (.int gc), .val (.long gm), .second, .val (.long gt), .second, .val (.int gf), .val (.int (0 : Int32)), .val (.int tn), .val (.int les), .val (.int grt), .val (.ref bm), .val (.ref bt), .val (.ref am), .val r15, .val (.int i0), .val (.int i1), .val (.int two), .val (.int hl), .val (.int hh), .val (.int lo), .val (.int hi), .val (.int x0), .val (.int y0), .val (.int x1), .val (.int y1), .val (.int xl), .val (.int yl), .val (.int xh), .val (.int yh), .val (.long mc0), .second, .val (.long tc0), .second, .val (.long mc1), .second, .val (.long tc1), .second, .val (.ref am), .val (.long k0), .second, .val (.long k1), .second, .unset, .unset] := ⟨_, rfl⟩
    have pre191 : Go p e below (s₁.setTop (entryFrame m #[(.int ga), (.int gb), (.int gc), (.long gm), (.long gt), (.int gf)] maxLocals)) (T181.setTop (mkF m 547 Ls190 [(.int (XT.cmpL k0 (0 : Int64)))])) := by
      intro t k
      refine pre189 t ?_
      show Steps p.tables e below (T181.setTop (mkF m 541 Ls186 [(.long k1)])) _
      refine XT.lstore X181.here hx rfl (hb hby at_541) rfl (l' := Ls190) (by rw [hLs190, hLs186]; first | done | rfl) ?_
      show Steps p.tables e below (T181.setTop (mkF m 543 Ls190 [])) _
      refine XT.lload X181.here hx rfl (hb hby at_543) (by rw [hLs190]; first | done | rfl) ?_
      show Steps p.tables e below (T181.setTop (mkF m 545 Ls190 [(.long k0)])) _
      refine XT.lconstV X181.here hx rfl (0 : Int64) (hb hby at_545) rfl ?_
      show Steps p.tables e below (T181.setTop (mkF m 546 Ls190 [(.long (0 : Int64)), (.long k0)])) _
      refine XT.lcmp X181.here hx rfl (hb hby at_546) rfl ?_
      show Steps p.tables e below (T181.setTop (mkF m 547 Ls190 [(.int (XT.cmpL k0 (0 : Int64)))])) _
      exact k
    obtain ⟨anyc, h_anyc⟩ : ∃ z : Int32, z = (if (0 : Int64) < k0 then (1 : Int32) else (if (0 : Int64) < k1 then (1 : Int32) else (0 : Int32))) := ⟨_, rfl⟩
    have pre194 : Go p e below (s₁.setTop (entryFrame m #[(.int ga), (.int gb), (.int gc), (.long gm), (.long gt), (.int gf)] maxLocals)) (T181.setTop (mkF m 562 Ls190 [(.int anyc)])) := by
      intro t k
      refine pre191 t ?_
      show Steps p.tables e below (T181.setTop (mkF m 547 Ls190 [(.int (XT.cmpL k0 (0 : Int64)))])) _
      by_cases hc547_192 : (0 : Int64) < k0
      · skip
        refine XS.ifYes X181.here hx rfl (pc0 := 547) (pc' := 557) rfl (hb hby at_547) rfl (XT.ll_gt_t hc547_192) (by decide) (by decide) ?_
        show Steps p.tables e below (T181.setTop (mkF m 557 Ls190 [])) _
        refine XS.iconst X181.here hx rfl (hb hby at_557) ?_
        show Steps p.tables e below (T181.setTop (mkF m 558 Ls190 [(.int (1 : Int32))])) _
        refine XS.goto X181.here hx rfl (pc0 := 558) (pc' := 562) rfl (hb hby at_558) (by decide) (by decide) ?_
        show Steps p.tables e below (T181.setTop (mkF m 562 Ls190 [(.int (1 : Int32))])) _
        rw [show anyc = (1 : Int32) from by rw [h_anyc]; rw [if_pos hc547_192]] at k
        exact k
      · skip
        refine XS.ifNo X181.here hx rfl (hb hby at_547) rfl (XT.ll_gt_f hc547_192) ?_
        show Steps p.tables e below (T181.setTop (mkF m 550 Ls190 [])) _
        refine XT.lload X181.here hx rfl (hb hby at_550) (by rw [hLs190]; first | done | rfl) ?_
        show Steps p.tables e below (T181.setTop (mkF m 552 Ls190 [(.long k1)])) _
        refine XT.lconstV X181.here hx rfl (0 : Int64) (hb hby at_552) rfl ?_
        show Steps p.tables e below (T181.setTop (mkF m 553 Ls190 [(.long (0 : Int64)), (.long k1)])) _
        refine XT.lcmp X181.here hx rfl (hb hby at_553) rfl ?_
        show Steps p.tables e below (T181.setTop (mkF m 554 Ls190 [(.int (XT.cmpL k1 (0 : Int64)))])) _
        by_cases hc554_193 : (0 : Int64) < k1
        · skip
          refine XS.ifNo X181.here hx rfl (hb hby at_554) rfl (XT.ll_le_f hc554_193) ?_
          show Steps p.tables e below (T181.setTop (mkF m 557 Ls190 [])) _
          refine XS.iconst X181.here hx rfl (hb hby at_557) ?_
          show Steps p.tables e below (T181.setTop (mkF m 558 Ls190 [(.int (1 : Int32))])) _
          refine XS.goto X181.here hx rfl (pc0 := 558) (pc' := 562) rfl (hb hby at_558) (by decide) (by decide) ?_
          show Steps p.tables e below (T181.setTop (mkF m 562 Ls190 [(.int (1 : Int32))])) _
          rw [show anyc = (1 : Int32) from by rw [h_anyc]; rw [if_neg hc547_192, if_pos hc554_193]] at k
          exact k
        · skip
          refine XS.ifYes X181.here hx rfl (pc0 := 554) (pc' := 561) rfl (hb hby at_554) rfl (XT.ll_le_t hc554_193) (by decide) (by decide) ?_
          show Steps p.tables e below (T181.setTop (mkF m 561 Ls190 [])) _
          refine XS.iconst X181.here hx rfl (hb hby at_561) ?_
          show Steps p.tables e below (T181.setTop (mkF m 562 Ls190 [(.int (0 : Int32))])) _
          rw [show anyc = (0 : Int32) from by rw [h_anyc]; rw [if_neg hc547_192, if_neg hc554_193]] at k
          exact k
    obtain ⟨Ls195, hLs195⟩ : ∃ z : Array Slot, z = #[.val (.int ga), .val (.int gb), .val (.int gc), .val (.long gm), .second, .val (.long gt), .second, .val (.int gf), .val (.int (0 : Int32)), .val (.int tn), .val (.int les), .val (.int grt), .val (.ref bm), .val (.ref bt), .val (.ref am), .val r15, .val (.int i0), .val (.int i1), .val (.int two), .val (.int hl), .val (.int hh), .val (.int lo), .val (.int hi), .val (.int x0), .val (.int y0), .val (.int x1), .val (.int y1), .val (.int xl), .val (.int yl), .val (.int xh), .val (.int yh), .val (.long mc0), .second, .val (.long tc0), .second, .val (.long mc1), .second, .val (.long tc1), .second, .val (.ref am), .val (.long k0), .second, .val (.long k1), .second, .val (.int anyc), .unset] := ⟨_, rfl⟩
    have pre196 : Go p e below (s₁.setTop (entryFrame m #[(.int ga), (.int gb), (.int gc), (.long gm), (.long gt), (.int gf)] maxLocals)) (T181.setTop (mkF m 564 Ls195 [])) := by
      intro t k
      refine pre194 t ?_
      show Steps p.tables e below (T181.setTop (mkF m 562 Ls190 [(.int anyc)])) _
      refine XS.istore X181.here hx rfl (hb hby at_562) rfl (l' := Ls195) (by rw [hLs195, hLs190]; first | done | rfl) ?_
      show Steps p.tables e below (T181.setTop (mkF m 564 Ls195 [])) _
      exact k
    have hK0 : own_cy (own_G i0 i1 two hl hh lo hi x0 x1 xl xh) (own_G i0 i1 two hl hh lo hi y0 y1 yl yh) (own_F own_z64 i0 i1 two hl hh lo hi tc0 tc1 (if tn = (0 : Int32) then (7 : Int64) else (0 : Int64)) (if tn = (0 : Int32) then (7 : Int64) else (0 : Int64))) i0 = k0 := by rw [h_k0]; exact own_kA PP ⟨_, h_x0⟩ ⟨_, h_y0⟩
    have hK1 : ¬ two = 0 → own_cy (own_f1 (own_G i0 i1 two hl hh lo hi x0 x1 xl xh) (own_G i0 i1 two hl hh lo hi y0 y1 yl yh) i0) (own_G i0 i1 two hl hh lo hi y0 y1 yl yh) (own_F own_z64 i0 i1 two hl hh lo hi tc0 tc1 (if tn = (0 : Int32) then (7 : Int64) else (0 : Int64)) (if tn = (0 : Int32) then (7 : Int64) else (0 : Int64))) (i0 + (1 : Int32)) = k1 := fun q => by rw [h_k1, if_neg q]; exact own_kB PP hj1 q ⟨_, h_x1⟩ ⟨_, h_y1⟩
    have hK1z : two = 0 → k1 = 0 := fun q => by rw [h_k1, if_pos q]
    have pre197 : Go p e below (s₁.setTop (entryFrame m #[(.int ga), (.int gb), (.int gc), (.long gm), (.long gt), (.int gf)] maxLocals)) (T181.setTop (mkF m 566 Ls195 [(.int (0 : Int32))])) := by
      intro t k
      refine pre196 t ?_
      show Steps p.tables e below (T181.setTop (mkF m 564 Ls195 [])) _
      refine XS.iload X181.here hx rfl (hb hby at_564) (by rw [hLs195]; first | done | rfl) ?_
      show Steps p.tables e below (T181.setTop (mkF m 566 Ls195 [(.int (0 : Int32))])) _
      exact k
    obtain ⟨Ls198, hLs198⟩ : ∃ z : Array Slot, z = #[.val (.int ga), .val (.int gb), .val (.int gc), .val (.long gm), .second, .val (.long gt), .second, .val (.int gf), .val (.int (0 : Int32)), .val (.int tn), .val (.int les), .val (.int grt), .val (.ref bm), .val (.ref bt), .val (.ref am), .val r15, .val (.int i0), .val (.int i1), .val (.int two), .val (.int hl), .val (.int hh), .val (.int lo), .val (.int hi), .val (.int x0), .val (.int y0), .val (.int x1), .val (.int y1), .val (.int xl), .val (.int yl), .val (.int xh), .val (.int yh), .val (.long mc0), .second, .val (.long tc0), .second, .val (.long mc1), .second, .val (.long tc1), .second, .val (.ref am), .val (.long k0), .second, .val (.long k1), .second, .val (.int anyc), .val (.int (1 : Int32))] := ⟨_, rfl⟩
    have pre199 : Go p e below (s₁.setTop (entryFrame m #[(.int ga), (.int gb), (.int gc), (.long gm), (.long gt), (.int gf)] maxLocals)) (T181.setTop (mkF m 629 Ls198 [(.int (1 : Int32))])) := by
      intro t k
      refine pre197 t ?_
      show Steps p.tables e below (T181.setTop (mkF m 566 Ls195 [(.int (0 : Int32))])) _
      refine XS.ifNo X181.here hx rfl (hb hby at_566) rfl (XT.i0_ne_f (by decide : (0 : Int32) = (0 : Int32))) ?_
      show Steps p.tables e below (T181.setTop (mkF m 569 Ls195 [])) _
      refine XS.aload X181.here hx rfl (hb hby at_569) (by rw [hLs195]; first | done | rfl) rfl ?_
      show Steps p.tables e below (T181.setTop (mkF m 571 Ls195 [(.ref am)])) _
      refine XS.aload X181.here hx rfl (hb hby at_571) (by rw [hLs195]; first | done | rfl) rfl ?_
      show Steps p.tables e below (T181.setTop (mkF m 573 Ls195 [(.ref am), (.ref am)])) _
      refine Jvm.RoadKit.acmp (g := (mkF m 573 Ls195 [(.ref am), (.ref am)])) X181 hx rfl rfl rfl (pc0 := 573) (pc' := 576) (same := true) rfl (hb hby at_573) rfl (decide_eq_true rfl) (by decide) (by decide) ?_
      show Steps p.tables e below (T181.setTop (mkF m 576 Ls195 [])) _
      refine XS.iconst X181.here hx rfl (hb hby at_576) ?_
      show Steps p.tables e below (T181.setTop (mkF m 577 Ls195 [(.int (1 : Int32))])) _
      refine XS.goto X181.here hx rfl (pc0 := 577) (pc' := 581) rfl (hb hby at_577) (by decide) (by decide) ?_
      show Steps p.tables e below (T181.setTop (mkF m 581 Ls195 [(.int (1 : Int32))])) _
      refine XS.istore X181.here hx rfl (hb hby at_581) rfl (l' := Ls198) (by rw [hLs198, hLs195]; first | done | rfl) ?_
      show Steps p.tables e below (T181.setTop (mkF m 583 Ls198 [])) _
      refine XS.goto X181.here hx rfl (pc0 := 583) (pc' := 627) rfl (hb hby at_583) (by decide) (by decide) ?_
      show Steps p.tables e below (T181.setTop (mkF m 627 Ls198 [])) _
      refine XS.iload X181.here hx rfl (hb hby at_627) (by rw [hLs198]; first | done | rfl) ?_
      show Steps p.tables e below (T181.setTop (mkF m 629 Ls198 [(.int (1 : Int32))])) _
      exact k
    have pre200 : Go p e below (s₁.setTop (entryFrame m #[(.int ga), (.int gb), (.int gc), (.long gm), (.long gt), (.int gf)] maxLocals)) (T181.setTop (mkF m 634 Ls198 [])) := by
      intro t k
      refine pre199 t ?_
      show Steps p.tables e below (T181.setTop (mkF m 629 Ls198 [(.int (1 : Int32))])) _
      refine XS.ifYes X181.here hx rfl (pc0 := 629) (pc' := 634) rfl (hb hby at_629) rfl (XT.i0_ne_t (by decide : ¬ ((1 : Int32) = (0 : Int32)))) (by decide) (by decide) ?_
      show Steps p.tables e below (T181.setTop (mkF m 634 Ls198 [])) _
      exact k
    obtain ⟨T201, lc201, X201, e201, N201, g201⟩ := chk0r (Ls := Ls198) (bm := bm) (bt := bt) (fm := (own_fE two (own_G i0 i1 two hl hh lo hi x0 x1 xl xh) (own_G i0 i1 two hl hh lo hi y0 y1 yl yh) i0 (i0 + (1 : Int32)))) (ft := (own_G i0 i1 two hl hh lo hi y0 y1 yl yh)) (j := i0) (xx := x0) (yy := y0) (vm := mc0) (kk := k0) (a39 := am) (k39 := kam) (fR := (own_rE two (own_G i0 i1 two hl hh lo hi x0 x1 xl xh) (own_G i0 i1 two hl hh lo hi y0 y1 yl yh) (own_F own_z64 i0 i1 two hl hh lo hi tc0 tc1 (if tn = (0 : Int32) then (7 : Int64) else (0 : Int64)) (if tn = (0 : Int32) then (7 : Int64) else (0 : Int64))) (own_F own_z64 i0 i1 two hl hh lo hi mc0 mc1 (if (0 : Int32) = (0 : Int32) then (5 : Int64) else (0 : Int64)) (if (0 : Int32) = (0 : Int32) then (5 : Int64) else (0 : Int64))) i0 (i0 + (1 : Int32)))) X181 hx hZ hw hby hml hown rfl N181 zz181 (by rw [hLs198]; first | done | rfl) (by rw [hLs198]; first | done | rfl) (by rw [hLs198]; first | done | rfl) (by rw [hLs198]; first | done | rfl) (by rw [hLs198]; first | done | rfl) (by rw [hLs198]; first | done | rfl) (by rw [hLs198]; first | done | rfl) (by rw [hLs198]; first | done | rfl) (by rw [hLs198]; first | done | rfl) (by rw [hLs198]; first | done | rfl) (by rw [hLs198]; first | done | rfl) Mbm Mbt LR hin0 (own_mA PP hj1 ⟨_, h_x0⟩ ⟨_, h_y0⟩) ((own_F0 PP).trans (own_nar y0)) (by unfold fcar; rw [own_rA PP hj1 ⟨_, h_x0⟩ ⟨_, h_y0⟩, own_F0 PP, h_k0]; first | done | rfl)
    have pre202 : Go p e below (s₁.setTop (entryFrame m #[(.int ga), (.int gb), (.int gc), (.long gm), (.long gt), (.int gf)] maxLocals)) (T201.setTop (mkF m 682 Ls198 [])) := fun t k => pre200 t (g201 t k)
    obtain ⟨T203, lc203, X203, e203, N203, g203⟩ := chk1r (Ls := Ls198) (bm := bm) (bt := bt) (fm := (own_fE two (own_G i0 i1 two hl hh lo hi x0 x1 xl xh) (own_G i0 i1 two hl hh lo hi y0 y1 yl yh) i0 (i0 + (1 : Int32)))) (ft := (own_G i0 i1 two hl hh lo hi y0 y1 yl yh)) (j := i1) (xx := x1) (yy := y1) (vm := mc1) (kk := k1) (fl := two) (a39 := am) (k39 := kam) (fR := (own_rE two (own_G i0 i1 two hl hh lo hi x0 x1 xl xh) (own_G i0 i1 two hl hh lo hi y0 y1 yl yh) (own_F own_z64 i0 i1 two hl hh lo hi tc0 tc1 (if tn = (0 : Int32) then (7 : Int64) else (0 : Int64)) (if tn = (0 : Int32) then (7 : Int64) else (0 : Int64))) (own_F own_z64 i0 i1 two hl hh lo hi mc0 mc1 (if (0 : Int32) = (0 : Int32) then (5 : Int64) else (0 : Int64)) (if (0 : Int32) = (0 : Int32) then (5 : Int64) else (0 : Int64))) i0 (i0 + (1 : Int32)))) X201 hx hZ hw hby hml hown e201 N201 zz181 (by rw [hLs198]; first | done | rfl) (by rw [hLs198]; first | done | rfl) (by rw [hLs198]; first | done | rfl) (by rw [hLs198]; first | done | rfl) (by rw [hLs198]; first | done | rfl) (by rw [hLs198]; first | done | rfl) (by rw [hLs198]; first | done | rfl) (by rw [hLs198]; first | done | rfl) (by rw [hLs198]; first | done | rfl) (by rw [hLs198]; first | done | rfl) (by rw [hLs198]; first | done | rfl) (by rw [hLs198]; first | done | rfl) Mbm Mbt LR (fun _ => hin1) (fun q => own_mB PP hj1 q ⟨_, h_x1⟩ ⟨_, h_y1⟩) (fun q => (own_F1 PP q).trans (own_nar y1)) (fun q => by unfold fcar; rw [own_rB PP hj1 q ⟨_, h_x1⟩ ⟨_, h_y1⟩, own_F1 PP q, h_k1, if_neg q]; first | done | rfl)
    have pre204 : Go p e below (s₁.setTop (entryFrame m #[(.int ga), (.int gb), (.int gc), (.long gm), (.long gt), (.int gf)] maxLocals)) (T203.setTop (mkF m 740 Ls198 [])) := fun t k => pre202 t (g203 t k)
    obtain ⟨T205, lc205, X205, e205, N205, g205⟩ := chk2r (Ls := Ls198) (bm := bm) (bt := bt) (fm := (own_fE two (own_G i0 i1 two hl hh lo hi x0 x1 xl xh) (own_G i0 i1 two hl hh lo hi y0 y1 yl yh) i0 (i0 + (1 : Int32)))) (ft := (own_G i0 i1 two hl hh lo hi y0 y1 yl yh)) (j := lo) (xx := xl) (yy := yl) (mn := (0 : Int32)) (fl := hl) (a39 := am) (k39 := kam) (fR := (own_rE two (own_G i0 i1 two hl hh lo hi x0 x1 xl xh) (own_G i0 i1 two hl hh lo hi y0 y1 yl yh) (own_F own_z64 i0 i1 two hl hh lo hi tc0 tc1 (if tn = (0 : Int32) then (7 : Int64) else (0 : Int64)) (if tn = (0 : Int32) then (7 : Int64) else (0 : Int64))) (own_F own_z64 i0 i1 two hl hh lo hi mc0 mc1 (if (0 : Int32) = (0 : Int32) then (5 : Int64) else (0 : Int64)) (if (0 : Int32) = (0 : Int32) then (5 : Int64) else (0 : Int64))) i0 (i0 + (1 : Int32)))) X203 hx hZ hw hby hml hown e203 N203 zz181 (by rw [hLs198]; first | done | rfl) (by rw [hLs198]; first | done | rfl) (by rw [hLs198]; first | done | rfl) (by rw [hLs198]; first | done | rfl) (by rw [hLs198]; first | done | rfl) (by rw [hLs198]; first | done | rfl) (by rw [hLs198]; first | done | rfl) (by rw [hLs198]; first | done | rfl) (by rw [hLs198]; first | done | rfl) (by rw [hLs198]; first | done | rfl) (by rw [hLs198]; first | done | rfl) Mbm Mbt LR hinL (fun q => own_mC PP hj1 q) (fun q => (own_F2 PP q).trans (own_nar yl)) (fun q => by unfold fcar; rw [own_rC PP hj1 q, own_F2 PP q]; first | done | rfl)
    have pre206 : Go p e below (s₁.setTop (entryFrame m #[(.int ga), (.int gb), (.int gc), (.long gm), (.long gt), (.int gf)] maxLocals)) (T205.setTop (mkF m 802 Ls198 [])) := fun t k => pre204 t (g205 t k)
    obtain ⟨T207, lc207, X207, e207, N207, g207⟩ := chk3r (Ls := Ls198) (bm := bm) (bt := bt) (fm := (own_fE two (own_G i0 i1 two hl hh lo hi x0 x1 xl xh) (own_G i0 i1 two hl hh lo hi y0 y1 yl yh) i0 (i0 + (1 : Int32)))) (ft := (own_G i0 i1 two hl hh lo hi y0 y1 yl yh)) (j := hi) (xx := xh) (yy := yh) (mn := (0 : Int32)) (fl := hh) (a39 := am) (k39 := kam) (fR := (own_rE two (own_G i0 i1 two hl hh lo hi x0 x1 xl xh) (own_G i0 i1 two hl hh lo hi y0 y1 yl yh) (own_F own_z64 i0 i1 two hl hh lo hi tc0 tc1 (if tn = (0 : Int32) then (7 : Int64) else (0 : Int64)) (if tn = (0 : Int32) then (7 : Int64) else (0 : Int64))) (own_F own_z64 i0 i1 two hl hh lo hi mc0 mc1 (if (0 : Int32) = (0 : Int32) then (5 : Int64) else (0 : Int64)) (if (0 : Int32) = (0 : Int32) then (5 : Int64) else (0 : Int64))) i0 (i0 + (1 : Int32)))) X205 hx hZ hw hby hml hown e205 N205 zz181 (by rw [hLs198]; first | done | rfl) (by rw [hLs198]; first | done | rfl) (by rw [hLs198]; first | done | rfl) (by rw [hLs198]; first | done | rfl) (by rw [hLs198]; first | done | rfl) (by rw [hLs198]; first | done | rfl) (by rw [hLs198]; first | done | rfl) (by rw [hLs198]; first | done | rfl) (by rw [hLs198]; first | done | rfl) (by rw [hLs198]; first | done | rfl) (by rw [hLs198]; first | done | rfl) Mbm Mbt LR hinH (fun q => own_mD PP hj1 q) (fun q => (own_F3 q).trans (own_nar yh)) (fun q => by unfold fcar; rw [own_rD PP hj1 q, own_F3 q]; first | done | rfl)
    have pre208 : Go p e below (s₁.setTop (entryFrame m #[(.int ga), (.int gb), (.int gc), (.long gm), (.long gt), (.int gf)] maxLocals)) (T207.setTop (mkF m 864 Ls198 [])) := fun t k => pre206 t (g207 t k)
    have pre209 : Go p e below (s₁.setTop (entryFrame m #[(.int ga), (.int gb), (.int gc), (.long gm), (.long gt), (.int gf)] maxLocals)) (T207.setTop (mkF m 866 Ls198 [(.int (1 : Int32))])) := by
      intro t k
      refine pre208 t ?_
      show Steps p.tables e below (T207.setTop (mkF m 864 Ls198 [])) _
      refine XS.iload X207.here hx rfl (hb hby at_864) (by rw [hLs198]; first | done | rfl) ?_
      show Steps p.tables e below (T207.setTop (mkF m 866 Ls198 [(.int (1 : Int32))])) _
      exact k
    obtain ⟨fs, hr, hrun, hended, hW, hsame⟩ := X207.leave (hlocks := hlk) (v := some (.int (1 : Int32))) (fun h => by rw [Bd.returns] at h; cases h)
    refine ⟨_, _, pre209 _ (retN X207 hx (t := .boolean) Bd.returns (by simp) (hb hby at_866) hr), hrun, hended, _, _, rfl, ?_, ⟨_, rfl⟩, hW, hsame.mono (by decide) (by decide)⟩
    show Q0 Z ga gb gc gm gt gf h0 n0 _ T207.heap _
    rw [e207]
    exact ⟨rfl, N207⟩
set_option maxRecDepth 65536 in
set_option maxHeartbeats 40000000 in
theorem comes_1 {Post : Tables → Env → Array Value → State → Outcome → State → Prop} (hpost : ∀ tb e args s v u, (limb_1_1.after args s (.returned v) u = true ∧ limb_1_2.after args s (.returned v) u = true ∧ True) → FrameEnd s (.returned v) u (Jvm.fieldLocs frame_1_writes args s ++ Jvm.arrayLocs frame_1_arrays args s ++ Jvm.staticLocs frame_1_statics s) 16 16064 → Post tb e args s (.returned v) u) :
    ArmFor flags0 classFile x code maxLocals ret World_1 tables_1 room_1 Calls_1 rest_1 Pre_1 Post := by
  intro l hfl _ _ p e ha hc hk s m args below hf hA hF happ hP
  obtain ⟨hcalls, hrest, hpre⟩ := hP
  obtain ⟨-, -, -, hnamed, -, -, -, hat⟩ := (Spec.applies_iff hf).mp happ
  obtain ⟨hg, hn⟩ := and_e (Cond.before_iff.mp (show (Jvm.Cond.and given_1 narrow_1).before args s = true from hpre))
  obtain ⟨u1, u2⟩ := and_e hg
  obtain ⟨u3, u4⟩ := and_e u2
  obtain ⟨u5, u6⟩ := and_e u4
  obtain ⟨u7, u8⟩ := and_e u6
  obtain ⟨u9, u10⟩ := and_e u8
  obtain ⟨u11, u12⟩ := and_e u10
  obtain ⟨w0, w1, w2, w3, w4, w5, rfl⟩ : ∃ w0 w1 w2 w3 w4 w5 : Value, args = #[w0, w1, w2, w3, w4, w5] := by
    have hs : args.size = 6 := by simpa [Cond.value, given_1] using u1
    obtain ⟨L⟩ := args
    match L, hs with
    | [w0, w1, w2, w3, w4, w5], _ => exact ⟨w0, w1, w2, w3, w4, w5, rfl⟩
  have hw := fun d (hd : d ∈ tables_1) => atoms_spec (ws := Jvm.Cond.code x code maxLocals ret :: tables_1) hat d (List.mem_cons_of_mem _ hd)
  obtain ⟨i0, ei0⟩ := is_v u3
  obtain rfl : w0 = (.int i0) := Option.some.inj ei0
  obtain ⟨i1, ei1⟩ := is_v u5
  obtain rfl : w1 = (.int i1) := Option.some.inj ei1
  obtain ⟨i2, ei2⟩ := is_v u7
  obtain rfl : w2 = (.int i2) := Option.some.inj ei2
  obtain ⟨i3, ei3⟩ := isL_v u9
  obtain rfl : w3 = (.long i3) := Option.some.inj ei3
  obtain ⟨i4, ei4⟩ := isL_v u11
  obtain rfl : w4 = (.long i4) := Option.some.inj ei4
  obtain ⟨i5, ei5⟩ := is_v u12
  obtain rfl : w5 = (.int i5) := Option.some.inj ei5
  obtain ⟨n, o, h1, h2, h3, _, L, rfl, ⟨rfl, N⟩, hq⟩ := rm0 l s _ hw tables_1 i0 i1 i2 i3 i4 i5 s.heap s.heap.size (Nat.le_refl _) p e ha hc hk s m _ below hf ((Spec.applies_iff_loose hf).mp happ).1 ⟨rfl, State.Warmed39.refl s, rfl⟩ trivial
  refine ⟨n, _, h1, h2, h3, hpost _ _ _ _ _ _ ⟨Cond.after_iff.mpr rfl, Cond.after_iff.mpr (eq_i res_at (Term.int_eval (1)) rfl), trivial⟩ ⟨hq.1, hq.2.1, (hq.2.2.sift fun y hy => Or.inr (N y hy)).mono (by decide) (by decide)⟩⟩
theorem main_1_1 : Claimed_1_1 := comes_1 fun _ _ _ _ _ _ h hF => ⟨h.1, hF⟩
theorem main_1_2 : Claimed_1_2 := comes_1 fun _ _ _ _ _ _ h hF => ⟨h.2.1, hF⟩
end Jvm.Pilot.@@N@@
namespace Jvm.Pilot.@@N@@
open Jvm Jvm.ClassFile Sem Op Lib Jvm.Free Jvm.Stand Jvm.Pilot.@@N@@.Jvm.D
/-! MADE BY PROGRAM (witnessworld.py) out of the Statement's table words and the real class files: 12 classes; the members and pool entries that the words name. The judged class is class 1, her method 2. -/
namespace start1
open Jvm.ClassFile
def u (s : String) : CpInfo := .utf8 (stringToUtf16 s)
/-- a pool by its gaps: so many unusable entries, then the entry; so many at the end -/
def gap : Nat → List CpInfo → List CpInfo
  | 0, r => r
  | n + 1, r => .unusable :: gap n r
def poolList (es : List (Nat × CpInfo)) (last : Nat) : List CpInfo := es.foldr (fun e r => gap e.1 (e.2 :: r)) (gap last [])
def pool (es : List (Nat × CpInfo)) (last : Nat) : Array CpInfo := ⟨poolList es last⟩
def fileOf (pool : Array CpInfo) (this : Nat) (attrs : Array Attribute := #[]) (ms : Array MethodInfo := #[]) (fl : Nat := 33) (sup : Nat := 0) (ifs : Array Nat := #[]) (fds : Array FieldInfo := #[]) : ClassFile where
  minorVersion := 0
  majorVersion := 65
  constantPool := pool
  accessFlags := fl
  thisClass := this
  superClass := sup
  interfaces := ifs
  fields := fds
  methods := ms
  attributes := attrs
def plain (name : String) (sup : Option ClassId) : Class where
  name := name
  kind := .ordinary
  loader := none
  accessFlags := 33
  super := sup
  interfaces := #[]
  cf := none
  fields := #[]
  methods := #[]
  instanceTypes := #[]
  staticTypes := #[]
  resolved := #[]
  callSites := []
  init := .initialized
  statics := none
  mirror := none

def pool0 : Array CpInfo := pool [(5, u "<init>"), (0, u "()V"), (1, .class_ 10), (1, u "java/lang/Object")] 113

def k0m0 : Method := { name := "<init>", desc := "()V", sig := { parameters := [], returnType := none }, accessFlags := 1, code := none }
/-- java/lang/Object -/
def k0 : Class := { plain "java/lang/Object" none with
  accessFlags := 33
  interfaces := #[]
  cf := some (fileOf pool0 8 #[] #[{ accessFlags := 1, nameIndex := 5, descriptorIndex := 6, attributes := #[] }] 33 0 #[] #[])
  fields := #[]
  methods := #[k0m0]
  instanceTypes := #[]
  staticTypes := #[]
  resolved := Array.replicate 124 none
  statics := none }

def pool1 : Array CpInfo := pool [(2, .class_ 4), (1, u "java/lang/Object"), (0, u "<init>"), (0, u "()V"), (0, .integer 2147483647), (0, .methodref 9 10), (0, .class_ 11), (0, .nameAndType 12 13), (0, u "java/lang/Math"), (0, u "min"), (0, u "(II)I"), (0, .class_ 15), (0, u "com/example/lanescan/lanescan/Distribution"), (0, .long 3), (1, .long 5), (1, .long 7), (1, .methodref 14 23), (0, .nameAndType 24 25), (0, u "merge"), (0, u "([B[J[B[JII)[J"), (0, .methodref 27 28), (0, .class_ 29), (0, .nameAndType 30 31), (0, u "com/example/lanescan/lanescan/DistributionMergePinLaw"), (0, u "carryAt"), (0, u "([JI)J"), (3, u "law"), (0, u "(IIIJJI)Z")] 6

def k1m0 : Method := { name := "<init>", desc := "()V", sig := { parameters := [], returnType := none }, accessFlags := 1, code := none }
def k1c1 : Code := { maxStack := 2, maxLocals := 2, code := method_2_code, exceptionTable := #[], attributes := #[] }
def k1m1 : Method := { name := "carryAt", desc := "([JI)J", sig := { parameters := [(.array .long), .int], returnType := some .long }, accessFlags := 10, code := some k1c1 }
def k1c2 : Code := { maxStack := 6, maxLocals := 46, code := code, exceptionTable := #[], attributes := #[] }
def k1m2 : Method := { name := "law", desc := "(IIIJJI)Z", sig := { parameters := [.int, .int, .int, .long, .long, .int], returnType := some .boolean }, accessFlags := 9, code := some k1c2 }
/-- com/example/lanescan/lanescan/DistributionMergePinLaw -/
def k1 : Class := { plain "com/example/lanescan/lanescan/DistributionMergePinLaw" (some 0) with
  accessFlags := 49
  interfaces := #[]
  cf := some (fileOf pool1 27 #[] #[{ accessFlags := 1, nameIndex := 5, descriptorIndex := 6, attributes := #[] }, { accessFlags := 10, nameIndex := 30, descriptorIndex := 31, attributes := #[] }, { accessFlags := 9, nameIndex := 35, descriptorIndex := 36, attributes := #[] }] 49 2 #[] #[])
  fields := #[]
  methods := #[k1m0, k1m1, k1m2]
  instanceTypes := #[]
  staticTypes := #[]
  resolved := Array.replicate 43 none
  statics := none }

def pool2 : Array CpInfo := pool [(1, .class_ 2), (0, u "java/lang/Math"), (1, .class_ 6), (1, u "java/lang/Object"), (0, u "<init>"), (0, u "()V"), (89, .class_ 100), (1, u "java/lang/Math$RandomNumberGeneratorHolder"), (71, u "negativeZeroFloatBits"), (0, u "J"), (2, u "negativeZeroDoubleBits"), (24, u "min"), (43, u "$assertionsDisabled"), (0, u "Z"), (88, u "(II)I"), (2, u "twoToTheDoubleScaleDown"), (0, u "D"), (4, u "twoToTheDoubleScaleUp"), (9, u "E"), (3, u "PI"), (2, u "TAU"), (2, u "DEGREES_TO_RADIANS"), (0, u "RADIANS_TO_DEGREES")] 94

def k2m0 : Method := { name := "<init>", desc := "()V", sig := { parameters := [], returnType := none }, accessFlags := 2, code := none }
def k2c1 : Code := { maxStack := 2, maxLocals := 2, code := jdk_29_method_69_code, exceptionTable := #[], attributes := #[] }
def k2m1 : Method := { name := "min", desc := "(II)I", sig := { parameters := [.int, .int], returnType := some .int }, accessFlags := 9, code := some k2c1 }
/-- java/lang/Math -/
def k2 : Class := { plain "java/lang/Math" (some 0) with
  accessFlags := 49
  interfaces := #[]
  cf := some (fileOf pool2 1 #[.nestMembers #[98]] #[{ accessFlags := 2, nameIndex := 7, descriptorIndex := 8, attributes := #[] }, { accessFlags := 9, nameIndex := 201, descriptorIndex := 335, attributes := #[] }] 49 4 #[] #[{ accessFlags := 25, nameIndex := 354, descriptorIndex := 339, attributes := #[] }, { accessFlags := 25, nameIndex := 358, descriptorIndex := 339, attributes := #[] }, { accessFlags := 25, nameIndex := 361, descriptorIndex := 339, attributes := #[] }, { accessFlags := 26, nameIndex := 364, descriptorIndex := 339, attributes := #[] }, { accessFlags := 26, nameIndex := 365, descriptorIndex := 339, attributes := #[] }, { accessFlags := 26, nameIndex := 172, descriptorIndex := 173, attributes := #[] }, { accessFlags := 26, nameIndex := 176, descriptorIndex := 173, attributes := #[] }, { accessFlags := 8, nameIndex := 344, descriptorIndex := 339, attributes := #[] }, { accessFlags := 8, nameIndex := 338, descriptorIndex := 339, attributes := #[] }, { accessFlags := 4120, nameIndex := 245, descriptorIndex := 246, attributes := #[] }])
  fields := #[{ name := "E", type := .double, accessFlags := 25, slot := 0, constantValue := 0 }, { name := "PI", type := .double, accessFlags := 25, slot := 1, constantValue := 0 }, { name := "TAU", type := .double, accessFlags := 25, slot := 2, constantValue := 0 }, { name := "DEGREES_TO_RADIANS", type := .double, accessFlags := 26, slot := 3, constantValue := 0 }, { name := "RADIANS_TO_DEGREES", type := .double, accessFlags := 26, slot := 4, constantValue := 0 }, { name := "negativeZeroFloatBits", type := .long, accessFlags := 26, slot := 5, constantValue := 0 }, { name := "negativeZeroDoubleBits", type := .long, accessFlags := 26, slot := 6, constantValue := 0 }, { name := "twoToTheDoubleScaleUp", type := .double, accessFlags := 8, slot := 7, constantValue := 0 }, { name := "twoToTheDoubleScaleDown", type := .double, accessFlags := 8, slot := 8, constantValue := 0 }, { name := "$assertionsDisabled", type := .boolean, accessFlags := 4120, slot := 9, constantValue := 0 }]
  methods := #[k2m0, k2m1]
  instanceTypes := #[]
  staticTypes := #[.double, .double, .double, .double, .double, .long, .long, .double, .double, .boolean]
  resolved := Array.replicate 460 none
  statics := none }

def pool3 : Array CpInfo := pool [(3, .class_ 4), (0, u "com/example/lanescan/lanescan/Distribution"), (3, .class_ 10), (1, u "java/lang/Object"), (0, u "<init>"), (0, u "()V"), (12, u "MAX_TENTHS"), (0, u "I"), (2, u "VALUES"), (1, u "BYTE_BITS"), (1, u "BYTE_MASK"), (1, u "HUNDRED"), (12, u "merge"), (0, u "([B[J[B[JII)[J")] 10

def k3m0 : Method := { name := "<init>", desc := "()V", sig := { parameters := [], returnType := none }, accessFlags := 2, code := none }
def k3c1 : Code := { maxStack := 6, maxLocals := 11, code := prog_2_method_5_code, exceptionTable := #[], attributes := #[] }
def k3m1 : Method := { name := "merge", desc := "([B[J[B[JII)[J", sig := { parameters := [(.array .byte), (.array .long), (.array .byte), (.array .long), .int, .int], returnType := some (.array .long) }, accessFlags := 8, code := some k3c1 }
/-- com/example/lanescan/lanescan/Distribution -/
def k3 : Class := { plain "com/example/lanescan/lanescan/Distribution" (some 0) with
  accessFlags := 48
  interfaces := #[]
  cf := some (fileOf pool3 3 #[] #[{ accessFlags := 2, nameIndex := 11, descriptorIndex := 12, attributes := #[] }, { accessFlags := 8, nameIndex := 48, descriptorIndex := 49, attributes := #[] }] 48 8 #[] #[{ accessFlags := 26, nameIndex := 25, descriptorIndex := 26, attributes := #[] }, { accessFlags := 24, nameIndex := 29, descriptorIndex := 26, attributes := #[] }, { accessFlags := 26, nameIndex := 31, descriptorIndex := 26, attributes := #[] }, { accessFlags := 26, nameIndex := 33, descriptorIndex := 26, attributes := #[] }, { accessFlags := 24, nameIndex := 35, descriptorIndex := 26, attributes := #[] }])
  fields := #[{ name := "MAX_TENTHS", type := .int, accessFlags := 26, slot := 0, constantValue := 0 }, { name := "VALUES", type := .int, accessFlags := 24, slot := 1, constantValue := 0 }, { name := "BYTE_BITS", type := .int, accessFlags := 26, slot := 2, constantValue := 0 }, { name := "BYTE_MASK", type := .int, accessFlags := 26, slot := 3, constantValue := 0 }, { name := "HUNDRED", type := .int, accessFlags := 24, slot := 4, constantValue := 0 }]
  methods := #[k3m0, k3m1]
  instanceTypes := #[]
  staticTypes := #[.int, .int, .int, .int, .int]
  resolved := Array.replicate 60 none
  statics := none }

def pool4 : Array CpInfo := pool [(1, u "java/lang/Cloneable"), (0, .class_ 1), (0, u "java/lang/Object"), (0, .class_ 3)] 3

/-- java/lang/Cloneable -/
def k4 : Class := { plain "java/lang/Cloneable" (some 0) with
  accessFlags := 1537
  interfaces := #[]
  cf := some (fileOf pool4 2 #[] #[] 1537 4 #[] #[])
  fields := #[]
  methods := #[]
  instanceTypes := #[]
  staticTypes := #[]
  resolved := Array.replicate 8 none
  statics := none }

def pool5 : Array CpInfo := pool [(1, u "java/io/Serializable"), (0, .class_ 1), (0, u "java/lang/Object"), (0, .class_ 3)] 3

/-- java/io/Serializable -/
def k5 : Class := { plain "java/io/Serializable" (some 0) with
  accessFlags := 1537
  interfaces := #[]
  cf := some (fileOf pool5 2 #[] #[] 1537 4 #[] #[])
  fields := #[]
  methods := #[]
  instanceTypes := #[]
  staticTypes := #[]
  resolved := Array.replicate 8 none
  statics := none }

/-- the primitive byte -/
def k6 : Class := { plain "byte" none with kind := .primitive 'B', accessFlags := 0x411 }
/-- [B -/
def k7 : Class := { plain "[B" (some 0) with kind := .array 6 .byte, interfaces := #[4, 5], accessFlags := 1041 }

/-- the primitive int -/
def k8 : Class := { plain "int" none with kind := .primitive 'I', accessFlags := 0x411 }
/-- [I -/
def k9 : Class := { plain "[I" (some 0) with kind := .array 8 .int, interfaces := #[4, 5], accessFlags := 1041 }

/-- the primitive long -/
def k10 : Class := { plain "long" none with kind := .primitive 'J', accessFlags := 0x411 }
/-- [J -/
def k11 : Class := { plain "[J" (some 0) with kind := .array 10 .long, interfaces := #[4, 5], accessFlags := 1041 }

def heap : Heap := #[]
def classes : Array Class := #[k0, k1, k2, k3, k4, k5, k6, k7, k8, k9, k10, k11]
def interned : List (Array UInt16 × Addr) := []
def slotsUsed : Nat := 0
def theMethod : MethodId := ⟨1, 2⟩
def args0 : Array Value := #[.int 5, .int 7, .int 6, .long 3, .long 1, .int 4]
def aboutOver (below : List Frame) : State where
  vm := { classes := classes, interned := interned.toArray }
  heap := heap
  slotsUsed := slotsUsed
  threads := #[{ frames := .invoking theMethod args0 :: below }]
def below0 : List Frame := [.native { method := ⟨0, 0⟩, args := #[] }]
def about1 : State := aboutOver below0
def p0 : Program := .bare "" "" ""
def e0 : Env := launch0.env 0 0 0
theorem w_frames : about1.frames = Frame.invoking theMethod args0 :: below0 := rfl
set_option maxRecDepth 65536 in
theorem w_args : argsFit about1.vm theMethod args0 = true := by decide +kernel
set_option maxRecDepth 65536 in
theorem w_heap : heapFits about1 = true := by decide +kernel
set_option maxRecDepth 65536 in
theorem w_runnable : about1.curStatus? = some .runnable := by decide +kernel
set_option maxRecDepth 65536 in
theorem w_alone : about1.alone = true := by decide +kernel
set_option maxRecDepth 65536 in
theorem w_named : about1.methodNamed? x = some theMethod := by decide +kernel
set_option maxRecDepth 65536 in
theorem w_hears : about1.hears theMethod below0 = true := by decide +kernel
set_option maxRecDepth 65536 in
theorem w_ripe : about1.ripe theMethod args0 below0 = true := by decide +kernel
theorem w_running : about1.status = .running := rfl
set_option maxRecDepth 65536 in
theorem w_room : about1.hasRoom e0.platform room_1 = true :=
  launch0.hasRoom_least _ room_1 (by decide +kernel) (by decide +kernel) (by decide +kernel) (by decide +kernel) (by decide +kernel) (by decide +kernel)
theorem allAtoms_all (ts : List Jvm.Cond) (a : Array Jvm.Value) (st : Jvm.State) : (allAtoms ts).before a st = ts.all (fun c => c.before a st) := by
  induction ts with
  | nil => rfl
  | cons c t ih =>
    show (Jvm.Cond.and c (allAtoms t)).before a st = _
    rw [Jvm.Cond.before_and, ih, List.all_cons]
def words1 : List Jvm.Cond := Jvm.Cond.code x code maxLocals ret :: tables_1
/-- a 'code' word, met by the world's own term for the bytes: nothing is compared byte by byte -/
theorem code_word {y : MethodName} {bytes : ByteArray} {mx : Nat} {rt : Option FieldType} {a : Array Value} {s : State} {m : MethodId} {meth : Method} {c : Code} (h1 : s.methodNamed? y = some m) (h2 : s.vm.method? m = some meth) (h3 : meth.code = some c) (h4 : c.code = bytes)
    (h5 : (c.maxLocals == mx && c.exceptionTable.isEmpty && decide (c.maxStack ≤ mostOperands) && decide (meth.sig.returnType = rt) && !meth.locks && decide (parseMethodDescriptor y.desc = some meth.sig)) = true) : (Jvm.Cond.code y bytes mx rt).before a s = true := by
  simp only [Bool.and_eq_true, beq_iff_eq, Bool.not_eq_true', decide_eq_true_eq] at h5
  obtain ⟨⟨⟨⟨⟨g1, g2⟩, g3⟩, g4⟩, g5⟩, g6⟩ := h5
  simp [Cond.before, Cond.holds, Cond.value, h1, h2, h3, h4, g1, g2, g3, g4, g5, g6]
def isCode : Jvm.Cond → Bool
  | .code _ _ _ _ => true
  | _ => false
theorem all_split {L : List Jvm.Cond} {P : Jvm.Cond → Bool} (h1 : L.all (fun c => isCode c || P c) = true) (h2 : ∀ c ∈ L.filter isCode, P c = true) : L.all P = true := by
  refine List.all_eq_true.mpr fun c hc => ?_
  have h := List.all_eq_true.mp h1 c hc
  rcases Bool.eq_false_or_eq_true (isCode c) with hi | hi
  · exact h2 c (List.mem_filter.mpr ⟨hc, hi⟩)
  · simpa [hi] using h
set_option maxRecDepth 65536 in
theorem w_c0 : (Jvm.Cond.code x code maxLocals ret).before args0 about1 = true := code_word (m := ⟨1, 2⟩) (meth := k1m2) (c := k1c2) (by decide +kernel) rfl rfl rfl (by decide +kernel)
set_option maxRecDepth 65536 in
theorem w_c1 : (Jvm.Cond.code ({ cls := "java/lang/Math", name := "min", desc := "(II)I" } : Jvm.MethodName) jdk_29_method_69_code (2 : Nat) (Option.some Jvm.ClassFile.FieldType.int)).before args0 about1 = true := code_word (m := ⟨2, 1⟩) (meth := k2m1) (c := k2c1) (by decide +kernel) rfl rfl rfl (by decide +kernel)
set_option maxRecDepth 65536 in
theorem w_c2 : (Jvm.Cond.code ({ cls := "com/example/lanescan/lanescan/Distribution", name := "merge", desc := "([B[J[B[JII)[J" } : Jvm.MethodName) prog_2_method_5_code (11 : Nat) (Option.some (Jvm.ClassFile.FieldType.array Jvm.ClassFile.FieldType.long))).before args0 about1 = true := code_word (m := ⟨3, 1⟩) (meth := k3m1) (c := k3c1) (by decide +kernel) rfl rfl rfl (by decide +kernel)
set_option maxRecDepth 65536 in
theorem w_c3 : (Jvm.Cond.code ({ cls := "com/example/lanescan/lanescan/DistributionMergePinLaw", name := "carryAt", desc := "([JI)J" } : Jvm.MethodName) method_2_code (2 : Nat) (Option.some Jvm.ClassFile.FieldType.long)).before args0 about1 = true := code_word (m := ⟨1, 1⟩) (meth := k1m1) (c := k1c1) (by decide +kernel) rfl rfl rfl (by decide +kernel)
def codes1 : List Jvm.Cond := [Jvm.Cond.code x code maxLocals ret, Jvm.Cond.code ({ cls := "java/lang/Math", name := "min", desc := "(II)I" } : Jvm.MethodName) jdk_29_method_69_code (2 : Nat) (Option.some Jvm.ClassFile.FieldType.int), Jvm.Cond.code ({ cls := "com/example/lanescan/lanescan/Distribution", name := "merge", desc := "([B[J[B[JII)[J" } : Jvm.MethodName) prog_2_method_5_code (11 : Nat) (Option.some (Jvm.ClassFile.FieldType.array Jvm.ClassFile.FieldType.long)), Jvm.Cond.code ({ cls := "com/example/lanescan/lanescan/DistributionMergePinLaw", name := "carryAt", desc := "([JI)J" } : Jvm.MethodName) method_2_code (2 : Nat) (Option.some Jvm.ClassFile.FieldType.long)]
set_option maxRecDepth 65536 in
theorem codes_eq : words1.filter isCode = codes1 := rfl
theorem w_codes : ∀ c ∈ words1.filter isCode, c.before args0 about1 = true := by
  rw [codes_eq]
  intro c hc
  simp only [codes1, List.mem_cons, List.not_mem_nil, or_false] at hc
  rcases hc with rfl | rfl | rfl | rfl
  · exact w_c0
  · exact w_c1
  · exact w_c2
  · exact w_c3
set_option maxRecDepth 65536 in
theorem w_t1 : words1.all (fun c => isCode c || c.before args0 about1) = true := by decide +kernel
theorem w_tables : (allAtoms (Jvm.Cond.code x code maxLocals ret :: tables_1)).before args0 about1 = true := by
  rw [allAtoms_all]
  show words1.all (fun c => c.before args0 about1) = true
  refine all_split ?_ w_codes
  rw [w_t1]
set_option maxRecDepth 65536 in
theorem w_case : (Jvm.Cond.and given_1 narrow_1).before args0 about1 = true := by decide +kernel
theorem w_applies : (headSpec (Jvm.Cond.code x code maxLocals ret :: tables_1) room_1).applies x e0.platform about1 = true :=
  (Spec.applies_iff w_frames).mpr ⟨w_running, w_runnable, w_alone, w_named, w_hears, w_ripe, w_room, w_tables⟩
theorem atStart : AtStart classFile x code maxLocals ret World_1 tables_1 room_1 Calls_1 rest_1 Pre_1 launch0 p0 e0 about1 theMethod args0 below0 :=
  ⟨lists_1, trivial, launch0.admits_env _ _ _, launch0.least_env, fairChoices_fair.cas, fairChoices_fair.clock, w_frames, w_args, w_heap, w_applies, trivial, trivial, w_case⟩
end start1
theorem witness_1 : WitnessClaimed_1 := ⟨start1.p0, start1.e0, start1.about1, start1.theMethod, start1.args0, start1.below0, start1.atStart⟩
end Jvm.Pilot.@@N@@
