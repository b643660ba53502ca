import JvmDerived
import JvmDerived.Pilot.@@N@@Statement
import JvmDerived.Pilot.@@N@@Code
set_option linter.unusedVariables false
set_option linter.unusedSimpArgs false
@@BLOCK:NumsL.lean.txt@@
namespace Jvm.RoadKit
open Sem ClassFile Op Lib Jvm.Stand Jvm.Free Jvm.LawKit
section New
variable {p : Program} {l : Launch} {e : Env} {R : Room} {s : State} {m : MethodId} {args : Array Value} {below : List Frame} {meth : Method} {c : Code} {T : State} {locs : List Loc} {cells slots : Nat}
theorem retI (X : Stand p l e R s m args below meth c T locs cells slots) (hx : p.tables.exec = Jvm.exec) {pc : Nat} {Ls : Array Slot} {z : Int32} {rest : List Value} (hret : meth.sig.returnType = some .int) (hd : decode c.code pc = .ok (.ireturn, 1)) {fs : List Frame}
    (hl : ∀ (f : JFrame) (acts : List Action), f.method = m → f.locked = none → f.entered = [] → (doReturn e (T.setTop f) acts (some (.int z))).1 = T.setFrames fs) : Steps p.tables e below (T.setTop (mkF m pc Ls (.int z :: rest))) (T.setFrames fs) :=
  retOut X hx (w := .int z) (t := .int) (i := .ireturn) hret rfl (Or.inl ⟨rfl, Or.inl rfl, z, rfl⟩) hd hl
theorem retJ (X : Stand p l e R s m args below meth c T locs cells slots) (hx : p.tables.exec = Jvm.exec) {pc : Nat} {Ls : Array Slot} {z : Int64} {rest : List Value} (hret : meth.sig.returnType = some .long) (hd : decode c.code pc = .ok (.lreturn, 1)) {fs : List Frame}
    (hl : ∀ (f : JFrame) (acts : List Action), f.method = m → f.locked = none → f.entered = [] → (doReturn e (T.setTop f) acts (some (.long z))).1 = T.setFrames fs) : Steps p.tables e below (T.setTop (mkF m pc Ls (.long z :: rest))) (T.setFrames fs) :=
  retOut X hx (w := .long z) (t := .long) (i := .lreturn) hret rfl (Or.inr (Or.inl ⟨rfl, rfl, z, rfl⟩)) hd hl
theorem retA (X : Stand p l e R s m args below meth c T locs cells slots) (hx : p.tables.exec = Jvm.exec) {pc : Nat} {Ls : Array Slot} {w : Value} {t : FieldType} {rest : List Value} (hret : meth.sig.returnType = some t) (ht : t.isReference = true) (hw : w.isRef = true) (hn : narrow t w = w) (hd : decode c.code pc = .ok (.areturn, 1)) {fs : List Frame}
    (hl : ∀ (f : JFrame) (acts : List Action), f.method = m → f.locked = none → f.entered = [] → (doReturn e (T.setTop f) acts (some w)).1 = T.setFrames fs) : Steps p.tables e below (T.setTop (mkF m pc Ls (w :: rest))) (T.setFrames fs) :=
  retOut X hx (w := w) (t := t) (i := .areturn) hret hn (Or.inr (Or.inr (Or.inr (Or.inr ⟨rfl, ht, hw⟩)))) hd hl
end New
end Jvm.RoadKit
namespace Jvm.Pilot.@@N@@
open Jvm Jvm.ClassFile Sem Op Lib Jvm.Free Jvm.Stand Jvm.LawKit Jvm.RoadKit Bundle Jvm.Pilot.@@N@@.Jvm.D
/-- from S every run comes to T -/
abbrev Go (p : Program) (e : Env) (below : List Frame) (S T : State) : Prop := ∀ t, Steps p.tables e below T t → Steps p.tables e below S t

theorem own_ofNat {c : Int32} {n : Nat} (h : c.toInt = n) : c = Int32.ofNat n := by
  apply Int32.toInt_inj.mp
  have h2 := c.toInt_lt
  rw [Int32.toInt_ofNat', show Int32.size = 4294967296 from rfl, Int.bmod_eq_of_le (by omega) (by omega), h]
theorem own_char (x : Int32) : (x.toUInt32.toUInt16.toUInt32.toInt32).toInt = x.toInt % 65536 := by
  have h : (x.toUInt32.toUInt16.toUInt32.toInt32).toBitVec = (x.toBitVec.setWidth 16).setWidth 32 := rfl
  have h1 : (x.toUInt32.toUInt16.toUInt32.toInt32).toInt = ((x.toBitVec.setWidth 16).setWidth 32).toInt := by rw [← h]; rfl
  rw [h1, BitVec.toInt_eq_toNat_cond]
  have h3 : x.toInt = x.toBitVec.toInt := rfl
  rw [h3, BitVec.toInt_eq_toNat_cond]
  simp only [BitVec.toNat_setWidth]
  have := x.toBitVec.isLt
  split <;> split <;> omega


theorem own_m31 (x : Int32) : 0 ≤ (x &&& 2147483647).toInt := by
  have := Jvm.Kit.i32_mask x 2147483647 (k := 31) (by decide) (by decide); omega
theorem own_rem (x n : Int32) (hn : 0 < n.toInt) : 0 ≤ ((x &&& 2147483647) % n).toInt ∧ ((x &&& 2147483647) % n).toInt < n.toInt := by
  rw [Jvm.Kit.i32_rem_nonneg (own_m31 x)]
  exact ⟨Int.emod_nonneg _ (by omega), Int.emod_lt_of_pos _ hn⟩
theorem own_remeq (x y : Int32) : x - (x / y) * y = x % y := by
  apply Int32.toInt_inj.mp
  have a := (x % y).toInt_lt; have b := (x % y).le_toInt
  rw [Int32.toInt_mod] at a b ⊢
  rw [Int32.toInt_sub, Int32.toInt_mul, Int32.toInt_div, Int.bmod_mul_bmod, Int.sub_bmod_bmod, Int.mul_comm, ← Int.tmod_def]
  exact Jvm.Kit.bmod32 b a
theorem own_irem {tb : Tables} [Ours tb] {e : Env} {below : List Frame} {T target : State} {m : MethodId} {c : Code} {g : JFrame} (h : At T m c below) (hx : tb.exec = Jvm.exec) (hg : g.method = m) {x y : Int32} {rest : List Value} (hd : decode c.code g.pc = .ok (.irem, 1)) (hs : g.stack = .int y :: .int x :: rest) (hy : y ≠ 0)
    (hr : Steps tb e below (T.setTop { g with pc := g.pc + 1, stack := .int (x % y) :: rest }) target) : Steps tb e below (T.setTop g) target := XS.irem h hx hg hd hs hy (by rw [own_remeq]; exact hr)

theorem own_getD (ws : List Int32) (k : Nat) : (ws.map Value.int).getD k (.int (0 : Int32)) = .int (ws.getD k 0) := by
  induction ws generalizing k with
  | nil => rfl
  | cons a t ih => cases k with
    | zero => rfl
    | succ k => exact ih k
theorem ef_1 (m : MethodId) (p0 : Int32) (p1 : Int32) : entryFrame m #[(.int p0), (.int p1)] 2 = mkF m 0 #[.val (.int p0), .val (.int p1)] [] := by first | (simp [entryFrame, mkF, argsToLocals, Value.category]; done) | rfl
theorem d1_0 : decode jdk_29_method_69_code 0 = .ok (.iload_n 0, 1) := by decide +kernel
theorem d1_1 : decode jdk_29_method_69_code 1 = .ok (.iload_n 1, 1) := by decide +kernel
theorem d1_2 : decode jdk_29_method_69_code 2 = .ok (.if_icmp .gt 7, 3) := by decide +kernel
theorem d1_9 : decode jdk_29_method_69_code 9 = .ok (.iload_n 1, 1) := by decide +kernel
theorem d1_10 : decode jdk_29_method_69_code 10 = .ok (.ireturn, 1) := by decide +kernel
theorem d1_5 : decode jdk_29_method_69_code 5 = .ok (.iload_n 0, 1) := by decide +kernel
theorem d1_6 : decode jdk_29_method_69_code 6 = .ok (.goto 4, 3) := by decide +kernel
def fmin (p0 : Int32) (p1 : Int32) : Int32 := (if p1 < p0 then p1 else p0)
def Q1 (Z : State) (p0 : Int32) (p1 : Int32) (h0 : Heap) (n0 : Nat) (v : Option Value) (h : Heap) (L : List Loc) : Prop := v = some (.int (fmin p0 p1)) ∧ Fr n0 L ∧ h = h0
set_option maxRecDepth 65536 in
set_option maxHeartbeats 40000000 in
theorem rm1 (l : Launch) (Z : State) (a0 : Array Value) (hw : ∀ d ∈ tables_1, d.before a0 Z = true) (ws : List Jvm.Cond) (p0 : Int32) (p1 : Int32) (h0 : Heap) (n0 : Nat) (Z0 : n0 ≤ h0.size) :
    MetFree l (⟨"java/lang/Math", "min", "(II)I"⟩ : MethodName) (head1 (Jvm.Cond.code (⟨"java/lang/Math", "min", "(II)I"⟩ : MethodName) jdk_29_method_69_code 2 (some .int) :: ws) ({ frames := 0, cells := 0, slots := 0, locals := 0 } : Room)) (fun a U => a = #[(.int p0), (.int p1)] ∧ Z.Warmed39 U.vm ∧ U.heap = h0) (fun _ _ _ _ _ => True) (fun _ U o U' => ∃ v L, o = .returned v ∧ Q1 Z p0 p1 h0 n0 v U'.heap L ∧ FrameEnd U o U' L ({ frames := 0, cells := 0, slots := 0, locals := 0 } : Room).cells ({ frames := 0, cells := 0, slots := 0, locals := 0 } : Room).slots) := by
  refine MetFree.of_bodySF (Jvm.Free.JP.mathPlain rfl (by decide +kernel)) hisR ?_
  intro p e s m args below meth c s₁ Bd hml0 hP hK
  obtain ⟨rfl, hZ, hh⟩ := hP
  have hx := Bd.exec
  have hby := Bd.bytes
  have hml : c.maxLocals = 2 := hml0
  have hown : s.vm.findClass "java/lang/Math" = some m.cls := findClass_of_methodNamed Bd.named
  have hnm := (name_of_methodNamed Bd.named Bd.method).1
  have hlk : meth.locks = false := BodyLoose.notSynchronized Bd
  have X0 : Stand p l e ({ frames := 0, cells := 0, slots := 0, locals := 0 } : Room) s m #[(.int p0), (.int p1)] below meth c s₁ [] 0 0 := Stand.of_body Bd
  have e0 : s₁.heap = h0 := by rw [← hh, Bd.state]; rfl
  have N0 := Fr.nil n0
  have pre0 : Go p e below (s₁.setTop (entryFrame m #[(.int p0), (.int p1)] 2)) (s₁.setTop (mkF m 0 #[.val (.int p0), .val (.int p1)] [])) := fun t k => castTop (ef_1 m p0 p1) k
  have pre1 : Go p e below (s₁.setTop (entryFrame m #[(.int p0), (.int p1)] 2)) (s₁.setTop (mkF m 2 #[.val (.int p0), .val (.int p1)] [(.int p1), (.int p0)])) := by
    intro t k
    refine pre0 t ?_
    show Steps p.tables e below (s₁.setTop (mkF m 0 #[.val (.int p0), .val (.int p1)] [])) _
    refine XS.iloadN X0.here hx rfl (hb hby d1_0) rfl ?_
    show Steps p.tables e below (s₁.setTop (mkF m 1 #[.val (.int p0), .val (.int p1)] [(.int p0)])) _
    refine XS.iloadN X0.here hx rfl (hb hby d1_1) rfl ?_
    show Steps p.tables e below (s₁.setTop (mkF m 2 #[.val (.int p0), .val (.int p1)] [(.int p1), (.int p0)])) _
    exact k
  by_cases hc2_2 : p1 < p0
  · skip
    have pre3 : Go p e below (s₁.setTop (entryFrame m #[(.int p0), (.int p1)] 2)) (s₁.setTop (mkF m 10 #[.val (.int p0), .val (.int p1)] [(.int p1)])) := by
      intro t k
      refine pre1 t ?_
      show Steps p.tables e below (s₁.setTop (mkF m 2 #[.val (.int p0), .val (.int p1)] [(.int p1), (.int p0)])) _
      refine XS.icmpYes X0.here hx rfl (pc0 := 2) (pc' := 9) rfl (hb hby d1_2) rfl (XT.ii_gt_t hc2_2) (by decide) (by decide) ?_
      show Steps p.tables e below (s₁.setTop (mkF m 9 #[.val (.int p0), .val (.int p1)] [])) _
      refine XS.iloadN X0.here hx rfl (hb hby d1_9) rfl ?_
      show Steps p.tables e below (s₁.setTop (mkF m 10 #[.val (.int p0), .val (.int p1)] [(.int p1)])) _
      exact k
    obtain ⟨fs, hr, hrun, hended, hW, hsame⟩ := X0.leave (hlocks := hlk) (v := some (.int p1)) (fun h => by rw [Bd.returns] at h; cases h)
    refine ⟨_, _, pre3 _ (retI X0 hx Bd.returns (hb hby d1_10) hr), hrun, hended, _, _, rfl, ?_, ⟨_, rfl⟩, hW, hsame.mono (by decide) (by decide)⟩
    show Q1 Z p0 p1 h0 n0 _ s₁.heap _
    rw [e0]
    exact ⟨congrArg some (congrArg Value.int (show p1 = fmin p0 p1 from by rw [fmin, if_pos hc2_2])), N0, rfl⟩
  · skip
    have pre4 : Go p e below (s₁.setTop (entryFrame m #[(.int p0), (.int p1)] 2)) (s₁.setTop (mkF m 10 #[.val (.int p0), .val (.int p1)] [(.int p0)])) := by
      intro t k
      refine pre1 t ?_
      show Steps p.tables e below (s₁.setTop (mkF m 2 #[.val (.int p0), .val (.int p1)] [(.int p1), (.int p0)])) _
      refine XS.icmpNo X0.here hx rfl (hb hby d1_2) rfl (XT.ii_gt_f hc2_2) ?_
      show Steps p.tables e below (s₁.setTop (mkF m 5 #[.val (.int p0), .val (.int p1)] [])) _
      refine XS.iloadN X0.here hx rfl (hb hby d1_5) rfl ?_
      show Steps p.tables e below (s₁.setTop (mkF m 6 #[.val (.int p0), .val (.int p1)] [(.int p0)])) _
      refine XS.goto X0.here hx rfl (pc0 := 6) (pc' := 10) rfl (hb hby d1_6) (by decide) (by decide) ?_
      show Steps p.tables e below (s₁.setTop (mkF m 10 #[.val (.int p0), .val (.int p1)] [(.int p0)])) _
      exact k
    obtain ⟨fs, hr, hrun, hended, hW, hsame⟩ := X0.leave (hlocks := hlk) (v := some (.int p0)) (fun h => by rw [Bd.returns] at h; cases h)
    refine ⟨_, _, pre4 _ (retI X0 hx Bd.returns (hb hby d1_10) hr), hrun, hended, _, _, rfl, ?_, ⟨_, rfl⟩, hW, hsame.mono (by decide) (by decide)⟩
    show Q1 Z p0 p1 h0 n0 _ s₁.heap _
    rw [e0]
    exact ⟨congrArg some (congrArg Value.int (show p0 = fmin p0 p1 from by rw [fmin, if_neg hc2_2])), N0, rfl⟩
theorem ef_2 (m : MethodId) (p0 : Int32) (p1 : Int32) : entryFrame m #[(.int p0), (.int p1)] 2 = mkF m 0 #[.val (.int p0), .val (.int p1)] [] := by first | (simp [entryFrame, mkF, argsToLocals, Value.category]; done) | rfl
theorem d2_0 : decode jdk_29_method_65_code 0 = .ok (.iload_n 0, 1) := by decide +kernel
theorem d2_1 : decode jdk_29_method_65_code 1 = .ok (.iload_n 1, 1) := by decide +kernel
theorem d2_2 : decode jdk_29_method_65_code 2 = .ok (.if_icmp .lt 7, 3) := by decide +kernel
theorem d2_9 : decode jdk_29_method_65_code 9 = .ok (.iload_n 1, 1) := by decide +kernel
theorem d2_10 : decode jdk_29_method_65_code 10 = .ok (.ireturn, 1) := by decide +kernel
theorem d2_5 : decode jdk_29_method_65_code 5 = .ok (.iload_n 0, 1) := by decide +kernel
theorem d2_6 : decode jdk_29_method_65_code 6 = .ok (.goto 4, 3) := by decide +kernel
def fmax (p0 : Int32) (p1 : Int32) : Int32 := (if p0 < p1 then p1 else p0)
def Q2 (Z : State) (p0 : Int32) (p1 : Int32) (h0 : Heap) (n0 : Nat) (v : Option Value) (h : Heap) (L : List Loc) : Prop := v = some (.int (fmax p0 p1)) ∧ Fr n0 L ∧ h = h0
set_option maxRecDepth 65536 in
set_option maxHeartbeats 40000000 in
theorem rm2 (l : Launch) (Z : State) (a0 : Array Value) (hw : ∀ d ∈ tables_1, d.before a0 Z = true) (ws : List Jvm.Cond) (p0 : Int32) (p1 : Int32) (h0 : Heap) (n0 : Nat) (Z0 : n0 ≤ h0.size) :
    MetFree l (⟨"java/lang/Math", "max", "(II)I"⟩ : MethodName) (head1 (Jvm.Cond.code (⟨"java/lang/Math", "max", "(II)I"⟩ : MethodName) jdk_29_method_65_code 2 (some .int) :: ws) ({ frames := 0, cells := 0, slots := 0, locals := 0 } : Room)) (fun a U => a = #[(.int p0), (.int p1)] ∧ Z.Warmed39 U.vm ∧ U.heap = h0) (fun _ _ _ _ _ => True) (fun _ U o U' => ∃ v L, o = .returned v ∧ Q2 Z p0 p1 h0 n0 v U'.heap L ∧ FrameEnd U o U' L ({ frames := 0, cells := 0, slots := 0, locals := 0 } : Room).cells ({ frames := 0, cells := 0, slots := 0, locals := 0 } : Room).slots) := by
  refine MetFree.of_bodySF (Jvm.Free.JP.mathPlain rfl (by decide +kernel)) hisR ?_
  intro p e s m args below meth c s₁ Bd hml0 hP hK
  obtain ⟨rfl, hZ, hh⟩ := hP
  have hx := Bd.exec
  have hby := Bd.bytes
  have hml : c.maxLocals = 2 := hml0
  have hown : s.vm.findClass "java/lang/Math" = some m.cls := findClass_of_methodNamed Bd.named
  have hnm := (name_of_methodNamed Bd.named Bd.method).1
  have hlk : meth.locks = false := BodyLoose.notSynchronized Bd
  have X0 : Stand p l e ({ frames := 0, cells := 0, slots := 0, locals := 0 } : Room) s m #[(.int p0), (.int p1)] below meth c s₁ [] 0 0 := Stand.of_body Bd
  have e0 : s₁.heap = h0 := by rw [← hh, Bd.state]; rfl
  have N0 := Fr.nil n0
  have pre0 : Go p e below (s₁.setTop (entryFrame m #[(.int p0), (.int p1)] 2)) (s₁.setTop (mkF m 0 #[.val (.int p0), .val (.int p1)] [])) := fun t k => castTop (ef_2 m p0 p1) k
  have pre1 : Go p e below (s₁.setTop (entryFrame m #[(.int p0), (.int p1)] 2)) (s₁.setTop (mkF m 2 #[.val (.int p0), .val (.int p1)] [(.int p1), (.int p0)])) := by
    intro t k
    refine pre0 t ?_
    show Steps p.tables e below (s₁.setTop (mkF m 0 #[.val (.int p0), .val (.int p1)] [])) _
    refine XS.iloadN X0.here hx rfl (hb hby d2_0) rfl ?_
    show Steps p.tables e below (s₁.setTop (mkF m 1 #[.val (.int p0), .val (.int p1)] [(.int p0)])) _
    refine XS.iloadN X0.here hx rfl (hb hby d2_1) rfl ?_
    show Steps p.tables e below (s₁.setTop (mkF m 2 #[.val (.int p0), .val (.int p1)] [(.int p1), (.int p0)])) _
    exact k
  by_cases hc2_2 : p0 < p1
  · skip
    have pre3 : Go p e below (s₁.setTop (entryFrame m #[(.int p0), (.int p1)] 2)) (s₁.setTop (mkF m 10 #[.val (.int p0), .val (.int p1)] [(.int p1)])) := by
      intro t k
      refine pre1 t ?_
      show Steps p.tables e below (s₁.setTop (mkF m 2 #[.val (.int p0), .val (.int p1)] [(.int p1), (.int p0)])) _
      refine XS.icmpYes X0.here hx rfl (pc0 := 2) (pc' := 9) rfl (hb hby d2_2) rfl (XT.ii_lt_t hc2_2) (by decide) (by decide) ?_
      show Steps p.tables e below (s₁.setTop (mkF m 9 #[.val (.int p0), .val (.int p1)] [])) _
      refine XS.iloadN X0.here hx rfl (hb hby d2_9) rfl ?_
      show Steps p.tables e below (s₁.setTop (mkF m 10 #[.val (.int p0), .val (.int p1)] [(.int p1)])) _
      exact k
    obtain ⟨fs, hr, hrun, hended, hW, hsame⟩ := X0.leave (hlocks := hlk) (v := some (.int p1)) (fun h => by rw [Bd.returns] at h; cases h)
    refine ⟨_, _, pre3 _ (retI X0 hx Bd.returns (hb hby d2_10) hr), hrun, hended, _, _, rfl, ?_, ⟨_, rfl⟩, hW, hsame.mono (by decide) (by decide)⟩
    show Q2 Z p0 p1 h0 n0 _ s₁.heap _
    rw [e0]
    exact ⟨congrArg some (congrArg Value.int (show p1 = fmax p0 p1 from by rw [fmax, if_pos hc2_2])), N0, rfl⟩
  · skip
    have pre4 : Go p e below (s₁.setTop (entryFrame m #[(.int p0), (.int p1)] 2)) (s₁.setTop (mkF m 10 #[.val (.int p0), .val (.int p1)] [(.int p0)])) := by
      intro t k
      refine pre1 t ?_
      show Steps p.tables e below (s₁.setTop (mkF m 2 #[.val (.int p0), .val (.int p1)] [(.int p1), (.int p0)])) _
      refine XS.icmpNo X0.here hx rfl (hb hby d2_2) rfl (XT.ii_lt_f hc2_2) ?_
      show Steps p.tables e below (s₁.setTop (mkF m 5 #[.val (.int p0), .val (.int p1)] [])) _
      refine XS.iloadN X0.here hx rfl (hb hby d2_5) rfl ?_
      show Steps p.tables e below (s₁.setTop (mkF m 6 #[.val (.int p0), .val (.int p1)] [(.int p0)])) _
      refine XS.goto X0.here hx rfl (pc0 := 6) (pc' := 10) rfl (hb hby d2_6) (by decide) (by decide) ?_
      show Steps p.tables e below (s₁.setTop (mkF m 10 #[.val (.int p0), .val (.int p1)] [(.int p0)])) _
      exact k
    obtain ⟨fs, hr, hrun, hended, hW, hsame⟩ := X0.leave (hlocks := hlk) (v := some (.int p0)) (fun h => by rw [Bd.returns] at h; cases h)
    refine ⟨_, _, pre4 _ (retI X0 hx Bd.returns (hb hby d2_10) hr), hrun, hended, _, _, rfl, ?_, ⟨_, rfl⟩, hW, hsame.mono (by decide) (by decide)⟩
    show Q2 Z p0 p1 h0 n0 _ s₁.heap _
    rw [e0]
    exact ⟨congrArg some (congrArg Value.int (show p0 = fmax p0 p1 from by rw [fmax, if_neg hc2_2])), N0, rfl⟩
theorem ef_8 (m : MethodId) (p0 : Int32) : entryFrame m #[(.int p0)] 1 = mkF m 0 #[.val (.int p0)] [] := by first | (simp [entryFrame, mkF, argsToLocals, Value.category]; done) | rfl
theorem d8_0 : decode method_2_code 0 = .ok (.iload_n 0, 1) := by decide +kernel
theorem d8_1 : decode method_2_code 1 = .ok (.sipush 128, 3) := by decide +kernel
theorem d8_4 : decode method_2_code 4 = .ok (.if_icmp .ge 5, 3) := by decide +kernel
theorem d8_7 : decode method_2_code 7 = .ok (.lconst 1, 1) := by decide +kernel
theorem d8_8 : decode method_2_code 8 = .ok (.lreturn, 1) := by decide +kernel
theorem d8_9 : decode method_2_code 9 = .ok (.iload_n 0, 1) := by decide +kernel
theorem d8_10 : decode method_2_code 10 = .ok (.sipush 2048, 3) := by decide +kernel
theorem d8_13 : decode method_2_code 13 = .ok (.if_icmp .ge 7, 3) := by decide +kernel
theorem d8_16 : decode method_2_code 16 = .ok (.ldc2_w 7, 3) := by decide +kernel
theorem d8_19 : decode method_2_code 19 = .ok (.lreturn, 1) := by decide +kernel
theorem d8_20 : decode method_2_code 20 = .ok (.iload_n 0, 1) := by decide +kernel
theorem d8_21 : decode method_2_code 21 = .ok (.ldc 9, 2) := by decide +kernel
theorem d8_23 : decode method_2_code 23 = .ok (.if_icmp .lt 13, 3) := by decide +kernel
theorem d8_36 : decode method_2_code 36 = .ok (.ldc2_w 11, 3) := by decide +kernel
theorem d8_39 : decode method_2_code 39 = .ok (.lreturn, 1) := by decide +kernel
theorem d8_26 : decode method_2_code 26 = .ok (.iload_n 0, 1) := by decide +kernel
theorem d8_27 : decode method_2_code 27 = .ok (.ldc 10, 2) := by decide +kernel
theorem d8_29 : decode method_2_code 29 = .ok (.if_icmp .gt 7, 3) := by decide +kernel
theorem d8_32 : decode method_2_code 32 = .ok (.ldc2_w 7, 3) := by decide +kernel
theorem d8_35 : decode method_2_code 35 = .ok (.lreturn, 1) := by decide +kernel
def fw (p0 : Int32) : Int64 := (if p0 < (128 : Int32) then (1 : Int64) else (if p0 < (2048 : Int32) then (2 : Int64) else (if p0 < (55296 : Int32) then (3 : Int64) else (if (57343 : Int32) < p0 then (3 : Int64) else (2 : Int64)))))
def Q8 (Z : State) (p0 : Int32) (h0 : Heap) (n0 : Nat) (v : Option Value) (h : Heap) (L : List Loc) : Prop := v = some (.long (fw p0)) ∧ Fr n0 L ∧ h = h0
set_option maxRecDepth 65536 in
set_option maxHeartbeats 40000000 in
theorem pn_com_example_xylograph_xylograph_MaxSizeSizeOfPinLaw : plainName "com/example/xylograph/xylograph/MaxSizeSizeOfPinLaw" = true := by first | (simp [plainName, overriddenIn]; done) | decide +kernel
theorem rm8 (l : Launch) (Z : State) (a0 : Array Value) (hw : ∀ d ∈ tables_1, d.before a0 Z = true) (ws : List Jvm.Cond) (p0 : Int32) (h0 : Heap) (n0 : Nat) (Z0 : n0 ≤ h0.size) :
    MetFree l (⟨"com/example/xylograph/xylograph/MaxSizeSizeOfPinLaw", "w", "(C)J"⟩ : MethodName) (head1 (Jvm.Cond.code (⟨"com/example/xylograph/xylograph/MaxSizeSizeOfPinLaw", "w", "(C)J"⟩ : MethodName) method_2_code 1 (some .long) :: ws) ({ frames := 0, cells := 0, slots := 0, locals := 0 } : Room)) (fun a U => a = #[(.int p0)] ∧ Z.Warmed39 U.vm ∧ U.heap = h0) (fun _ _ _ _ _ => True) (fun _ U o U' => ∃ v L, o = .returned v ∧ Q8 Z p0 h0 n0 v U'.heap L ∧ FrameEnd U o U' L ({ frames := 0, cells := 0, slots := 0, locals := 0 } : Room).cells ({ frames := 0, cells := 0, slots := 0, locals := 0 } : Room).slots) := by
  refine MetFree.of_bodySF (plainFor_of_name pn_com_example_xylograph_xylograph_MaxSizeSizeOfPinLaw) hisR ?_
  intro p e s m args below meth c s₁ Bd hml0 hP hK
  obtain ⟨rfl, hZ, hh⟩ := hP
  have hx := Bd.exec
  have hby := Bd.bytes
  have hml : c.maxLocals = 1 := hml0
  have hown : s.vm.findClass "com/example/xylograph/xylograph/MaxSizeSizeOfPinLaw" = some m.cls := findClass_of_methodNamed Bd.named
  have hnm := (name_of_methodNamed Bd.named Bd.method).1
  have hlk : meth.locks = false := BodyLoose.notSynchronized Bd
  have X0 : Stand p l e ({ frames := 0, cells := 0, slots := 0, locals := 0 } : Room) s m #[(.int p0)] below meth c s₁ [] 0 0 := Stand.of_body Bd
  have e0 : s₁.heap = h0 := by rw [← hh, Bd.state]; rfl
  have N0 := Fr.nil n0
  have pre0 : Go p e below (s₁.setTop (entryFrame m #[(.int p0)] 1)) (s₁.setTop (mkF m 0 #[.val (.int p0)] [])) := fun t k => castTop (ef_8 m p0) k
  have pre1 : Go p e below (s₁.setTop (entryFrame m #[(.int p0)] 1)) (s₁.setTop (mkF m 4 #[.val (.int p0)] [(.int (128 : Int32)), (.int p0)])) := by
    intro t k
    refine pre0 t ?_
    show Steps p.tables e below (s₁.setTop (mkF m 0 #[.val (.int p0)] [])) _
    refine XS.iloadN X0.here hx rfl (hb hby d8_0) rfl ?_
    show Steps p.tables e below (s₁.setTop (mkF m 1 #[.val (.int p0)] [(.int p0)])) _
    refine XS.sipush X0.here hx rfl (hb hby d8_1) ?_
    show Steps p.tables e below (s₁.setTop (mkF m 4 #[.val (.int p0)] [(.int (128 : Int32)), (.int p0)])) _
    exact k
  by_cases hc4_2 : p0 < (128 : Int32)
  · skip
    have pre3 : Go p e below (s₁.setTop (entryFrame m #[(.int p0)] 1)) (s₁.setTop (mkF m 8 #[.val (.int p0)] [(.long (1 : Int64))])) := by
      intro t k
      refine pre1 t ?_
      show Steps p.tables e below (s₁.setTop (mkF m 4 #[.val (.int p0)] [(.int (128 : Int32)), (.int p0)])) _
      refine XS.icmpNo X0.here hx rfl (hb hby d8_4) rfl (XT.ii_ge_f hc4_2) ?_
      show Steps p.tables e below (s₁.setTop (mkF m 7 #[.val (.int p0)] [])) _
      refine XT.lconstV X0.here hx rfl (1 : Int64) (hb hby d8_7) rfl ?_
      show Steps p.tables e below (s₁.setTop (mkF m 8 #[.val (.int p0)] [(.long (1 : Int64))])) _
      exact k
    obtain ⟨fs, hr, hrun, hended, hW, hsame⟩ := X0.leave (hlocks := hlk) (v := some (.long (1 : Int64))) (fun h => by rw [Bd.returns] at h; cases h)
    refine ⟨_, _, pre3 _ (retJ X0 hx Bd.returns (hb hby d8_8) hr), hrun, hended, _, _, rfl, ?_, ⟨_, rfl⟩, hW, hsame.mono (by decide) (by decide)⟩
    show Q8 Z p0 h0 n0 _ s₁.heap _
    rw [e0]
    exact ⟨congrArg some (congrArg Value.long (show (1 : Int64) = fw p0 from by rw [fw, if_pos hc4_2])), N0, rfl⟩
  · skip
    have pre4 : Go p e below (s₁.setTop (entryFrame m #[(.int p0)] 1)) (s₁.setTop (mkF m 13 #[.val (.int p0)] [(.int (2048 : Int32)), (.int p0)])) := by
      intro t k
      refine pre1 t ?_
      show Steps p.tables e below (s₁.setTop (mkF m 4 #[.val (.int p0)] [(.int (128 : Int32)), (.int p0)])) _
      refine XS.icmpYes X0.here hx rfl (pc0 := 4) (pc' := 9) rfl (hb hby d8_4) rfl (XT.ii_ge_t hc4_2) (by decide) (by decide) ?_
      show Steps p.tables e below (s₁.setTop (mkF m 9 #[.val (.int p0)] [])) _
      refine XS.iloadN X0.here hx rfl (hb hby d8_9) rfl ?_
      show Steps p.tables e below (s₁.setTop (mkF m 10 #[.val (.int p0)] [(.int p0)])) _
      refine XS.sipush X0.here hx rfl (hb hby d8_10) ?_
      show Steps p.tables e below (s₁.setTop (mkF m 13 #[.val (.int p0)] [(.int (2048 : Int32)), (.int p0)])) _
      exact k
    by_cases hc13_5 : p0 < (2048 : Int32)
    · skip
      have pre6 : Go p e below (s₁.setTop (entryFrame m #[(.int p0)] 1)) (s₁.setTop (mkF m 19 #[.val (.int p0)] [(.long (2 : Int64))])) := by
        intro t k
        refine pre4 t ?_
        show Steps p.tables e below (s₁.setTop (mkF m 13 #[.val (.int p0)] [(.int (2048 : Int32)), (.int p0)])) _
        refine XS.icmpNo X0.here hx rfl (hb hby d8_13) rfl (XT.ii_ge_f hc13_5) ?_
        show Steps p.tables e below (s₁.setTop (mkF m 16 #[.val (.int p0)] [])) _
        refine X0.ldc2J hx hown (mvT hZ (hw _ (List.mem_of_getElem? (i := 50) rfl))) (g := (mkF m 16 #[.val (.int p0)] [])) rfl (hb hby d8_16) ?_
        show Steps p.tables e below (s₁.setTop (mkF m 19 #[.val (.int p0)] [(.long (2 : Int64))])) _
        exact k
      obtain ⟨fs, hr, hrun, hended, hW, hsame⟩ := X0.leave (hlocks := hlk) (v := some (.long (2 : Int64))) (fun h => by rw [Bd.returns] at h; cases h)
      refine ⟨_, _, pre6 _ (retJ X0 hx Bd.returns (hb hby d8_19) hr), hrun, hended, _, _, rfl, ?_, ⟨_, rfl⟩, hW, hsame.mono (by decide) (by decide)⟩
      show Q8 Z p0 h0 n0 _ s₁.heap _
      rw [e0]
      exact ⟨congrArg some (congrArg Value.long (show (2 : Int64) = fw p0 from by rw [fw, if_neg hc4_2, if_pos hc13_5])), N0, rfl⟩
    · skip
      have pre7 : Go p e below (s₁.setTop (entryFrame m #[(.int p0)] 1)) (s₁.setTop (mkF m 23 #[.val (.int p0)] [(.int (55296 : Int32)), (.int p0)])) := by
        intro t k
        refine pre4 t ?_
        show Steps p.tables e below (s₁.setTop (mkF m 13 #[.val (.int p0)] [(.int (2048 : Int32)), (.int p0)])) _
        refine XS.icmpYes X0.here hx rfl (pc0 := 13) (pc' := 20) rfl (hb hby d8_13) rfl (XT.ii_ge_t hc13_5) (by decide) (by decide) ?_
        show Steps p.tables e below (s₁.setTop (mkF m 20 #[.val (.int p0)] [])) _
        refine XS.iloadN X0.here hx rfl (hb hby d8_20) rfl ?_
        show Steps p.tables e below (s₁.setTop (mkF m 21 #[.val (.int p0)] [(.int p0)])) _
        refine X0.ldcI hx hown (mvT hZ (hw _ (List.mem_of_getElem? (i := 40) rfl))) (g := (mkF m 21 #[.val (.int p0)] [(.int p0)])) rfl (hb hby d8_21) ?_
        show Steps p.tables e below (s₁.setTop (mkF m 23 #[.val (.int p0)] [(.int (55296 : Int32)), (.int p0)])) _
        exact k
      by_cases hc23_8 : p0 < (55296 : Int32)
      · skip
        have pre9 : Go p e below (s₁.setTop (entryFrame m #[(.int p0)] 1)) (s₁.setTop (mkF m 39 #[.val (.int p0)] [(.long (3 : Int64))])) := by
          intro t k
          refine pre7 t ?_
          show Steps p.tables e below (s₁.setTop (mkF m 23 #[.val (.int p0)] [(.int (55296 : Int32)), (.int p0)])) _
          refine XS.icmpYes X0.here hx rfl (pc0 := 23) (pc' := 36) rfl (hb hby d8_23) rfl (XT.ii_lt_t hc23_8) (by decide) (by decide) ?_
          show Steps p.tables e below (s₁.setTop (mkF m 36 #[.val (.int p0)] [])) _
          refine X0.ldc2J hx hown (mvT hZ (hw _ (List.mem_of_getElem? (i := 41) rfl))) (g := (mkF m 36 #[.val (.int p0)] [])) rfl (hb hby d8_36) ?_
          show Steps p.tables e below (s₁.setTop (mkF m 39 #[.val (.int p0)] [(.long (3 : Int64))])) _
          exact k
        obtain ⟨fs, hr, hrun, hended, hW, hsame⟩ := X0.leave (hlocks := hlk) (v := some (.long (3 : Int64))) (fun h => by rw [Bd.returns] at h; cases h)
        refine ⟨_, _, pre9 _ (retJ X0 hx Bd.returns (hb hby d8_39) hr), hrun, hended, _, _, rfl, ?_, ⟨_, rfl⟩, hW, hsame.mono (by decide) (by decide)⟩
        show Q8 Z p0 h0 n0 _ s₁.heap _
        rw [e0]
        exact ⟨congrArg some (congrArg Value.long (show (3 : Int64) = fw p0 from by rw [fw, if_neg hc4_2, if_neg hc13_5, if_pos hc23_8])), N0, rfl⟩
      · skip
        have pre10 : Go p e below (s₁.setTop (entryFrame m #[(.int p0)] 1)) (s₁.setTop (mkF m 29 #[.val (.int p0)] [(.int (57343 : Int32)), (.int p0)])) := by
          intro t k
          refine pre7 t ?_
          show Steps p.tables e below (s₁.setTop (mkF m 23 #[.val (.int p0)] [(.int (55296 : Int32)), (.int p0)])) _
          refine XS.icmpNo X0.here hx rfl (hb hby d8_23) rfl (XT.ii_lt_f hc23_8) ?_
          show Steps p.tables e below (s₁.setTop (mkF m 26 #[.val (.int p0)] [])) _
          refine XS.iloadN X0.here hx rfl (hb hby d8_26) rfl ?_
          show Steps p.tables e below (s₁.setTop (mkF m 27 #[.val (.int p0)] [(.int p0)])) _
          refine X0.ldcI hx hown (mvT hZ (hw _ (List.mem_of_getElem? (i := 48) rfl))) (g := (mkF m 27 #[.val (.int p0)] [(.int p0)])) rfl (hb hby d8_27) ?_
          show Steps p.tables e below (s₁.setTop (mkF m 29 #[.val (.int p0)] [(.int (57343 : Int32)), (.int p0)])) _
          exact k
        by_cases hc29_11 : (57343 : Int32) < p0
        · skip
          have pre12 : Go p e below (s₁.setTop (entryFrame m #[(.int p0)] 1)) (s₁.setTop (mkF m 39 #[.val (.int p0)] [(.long (3 : Int64))])) := by
            intro t k
            refine pre10 t ?_
            show Steps p.tables e below (s₁.setTop (mkF m 29 #[.val (.int p0)] [(.int (57343 : Int32)), (.int p0)])) _
            refine XS.icmpYes X0.here hx rfl (pc0 := 29) (pc' := 36) rfl (hb hby d8_29) rfl (XT.ii_gt_t hc29_11) (by decide) (by decide) ?_
            show Steps p.tables e below (s₁.setTop (mkF m 36 #[.val (.int p0)] [])) _
            refine X0.ldc2J hx hown (mvT hZ (hw _ (List.mem_of_getElem? (i := 41) rfl))) (g := (mkF m 36 #[.val (.int p0)] [])) rfl (hb hby d8_36) ?_
            show Steps p.tables e below (s₁.setTop (mkF m 39 #[.val (.int p0)] [(.long (3 : Int64))])) _
            exact k
          obtain ⟨fs, hr, hrun, hended, hW, hsame⟩ := X0.leave (hlocks := hlk) (v := some (.long (3 : Int64))) (fun h => by rw [Bd.returns] at h; cases h)
          refine ⟨_, _, pre12 _ (retJ X0 hx Bd.returns (hb hby d8_39) hr), hrun, hended, _, _, rfl, ?_, ⟨_, rfl⟩, hW, hsame.mono (by decide) (by decide)⟩
          show Q8 Z p0 h0 n0 _ s₁.heap _
          rw [e0]
          exact ⟨congrArg some (congrArg Value.long (show (3 : Int64) = fw p0 from by rw [fw, if_neg hc4_2, if_neg hc13_5, if_neg hc23_8, if_pos hc29_11])), N0, rfl⟩
        · skip
          have pre13 : Go p e below (s₁.setTop (entryFrame m #[(.int p0)] 1)) (s₁.setTop (mkF m 35 #[.val (.int p0)] [(.long (2 : Int64))])) := by
            intro t k
            refine pre10 t ?_
            show Steps p.tables e below (s₁.setTop (mkF m 29 #[.val (.int p0)] [(.int (57343 : Int32)), (.int p0)])) _
            refine XS.icmpNo X0.here hx rfl (hb hby d8_29) rfl (XT.ii_gt_f hc29_11) ?_
            show Steps p.tables e below (s₁.setTop (mkF m 32 #[.val (.int p0)] [])) _
            refine X0.ldc2J hx hown (mvT hZ (hw _ (List.mem_of_getElem? (i := 50) rfl))) (g := (mkF m 32 #[.val (.int p0)] [])) rfl (hb hby d8_32) ?_
            show Steps p.tables e below (s₁.setTop (mkF m 35 #[.val (.int p0)] [(.long (2 : Int64))])) _
            exact k
          obtain ⟨fs, hr, hrun, hended, hW, hsame⟩ := X0.leave (hlocks := hlk) (v := some (.long (2 : Int64))) (fun h => by rw [Bd.returns] at h; cases h)
          refine ⟨_, _, pre13 _ (retJ X0 hx Bd.returns (hb hby d8_35) hr), hrun, hended, _, _, rfl, ?_, ⟨_, rfl⟩, hW, hsame.mono (by decide) (by decide)⟩
          show Q8 Z p0 h0 n0 _ s₁.heap _
          rw [e0]
          exact ⟨congrArg some (congrArg Value.long (show (2 : Int64) = fw p0 from by rw [fw, if_neg hc4_2, if_neg hc13_5, if_neg hc23_8, if_neg hc29_11])), N0, rfl⟩
theorem ef_9 (m : MethodId) (p0 : Int32) : entryFrame m #[(.int p0)] 1 = mkF m 0 #[.val (.int p0)] [] := by first | (simp [entryFrame, mkF, argsToLocals, Value.category]; done) | rfl
theorem d9_0 : decode jdk_89_method_16_code 0 = .ok (.iload_n 0, 1) := by decide +kernel
theorem d9_1 : decode jdk_89_method_16_code 1 = .ok (.ldc 75, 2) := by decide +kernel
theorem d9_3 : decode jdk_89_method_16_code 3 = .ok (.if_icmp .lt 13, 3) := by decide +kernel
theorem d9_16 : decode jdk_89_method_16_code 16 = .ok (.iconst 0, 1) := by decide +kernel
theorem d9_17 : decode jdk_89_method_16_code 17 = .ok (.ireturn, 1) := by decide +kernel
theorem d9_6 : decode jdk_89_method_16_code 6 = .ok (.iload_n 0, 1) := by decide +kernel
theorem d9_7 : decode jdk_89_method_16_code 7 = .ok (.ldc 77, 2) := by decide +kernel
theorem d9_9 : decode jdk_89_method_16_code 9 = .ok (.if_icmp .ge 7, 3) := by decide +kernel
theorem d9_12 : decode jdk_89_method_16_code 12 = .ok (.iconst 1, 1) := by decide +kernel
theorem d9_13 : decode jdk_89_method_16_code 13 = .ok (.goto 4, 3) := by decide +kernel
def fsur (p0 : Int32) : Int32 := (if p0 < (55296 : Int32) then (0 : Int32) else (if p0 < (57344 : Int32) then (1 : Int32) else (0 : Int32)))
def Q9 (Z : State) (p0 : Int32) (h0 : Heap) (n0 : Nat) (v : Option Value) (h : Heap) (L : List Loc) : Prop := v = some (.int (fsur p0)) ∧ Fr n0 L ∧ h = h0
set_option maxRecDepth 65536 in
set_option maxHeartbeats 40000000 in
theorem pn_java_lang_Character : plainName "java/lang/Character" = true := by first | (simp [plainName, overriddenIn]; done) | decide +kernel
theorem rm9 (l : Launch) (Z : State) (a0 : Array Value) (hw : ∀ d ∈ tables_1, d.before a0 Z = true) (ws : List Jvm.Cond) (p0 : Int32) (h0 : Heap) (n0 : Nat) (Z0 : n0 ≤ h0.size) :
    MetFree l (⟨"java/lang/Character", "isSurrogate", "(C)Z"⟩ : MethodName) (head1 (Jvm.Cond.code (⟨"java/lang/Character", "isSurrogate", "(C)Z"⟩ : MethodName) jdk_89_method_16_code 1 (some .boolean) :: ws) ({ frames := 0, cells := 0, slots := 0, locals := 0 } : Room)) (fun a U => a = #[(.int p0)] ∧ Z.Warmed39 U.vm ∧ U.heap = h0) (fun _ _ _ _ _ => True) (fun _ U o U' => ∃ v L, o = .returned v ∧ Q9 Z p0 h0 n0 v U'.heap L ∧ FrameEnd U o U' L ({ frames := 0, cells := 0, slots := 0, locals := 0 } : Room).cells ({ frames := 0, cells := 0, slots := 0, locals := 0 } : Room).slots) := by
  refine MetFree.of_bodySF (plainFor_of_name pn_java_lang_Character) hisR ?_
  intro p e s m args below meth c s₁ Bd hml0 hP hK
  obtain ⟨rfl, hZ, hh⟩ := hP
  have hx := Bd.exec
  have hby := Bd.bytes
  have hml : c.maxLocals = 1 := hml0
  have hown : s.vm.findClass "java/lang/Character" = some m.cls := findClass_of_methodNamed Bd.named
  have hnm := (name_of_methodNamed Bd.named Bd.method).1
  have hlk : meth.locks = false := BodyLoose.notSynchronized Bd
  have X0 : Stand p l e ({ frames := 0, cells := 0, slots := 0, locals := 0 } : Room) s m #[(.int p0)] below meth c s₁ [] 0 0 := Stand.of_body Bd
  have e0 : s₁.heap = h0 := by rw [← hh, Bd.state]; rfl
  have N0 := Fr.nil n0
  have pre0 : Go p e below (s₁.setTop (entryFrame m #[(.int p0)] 1)) (s₁.setTop (mkF m 0 #[.val (.int p0)] [])) := fun t k => castTop (ef_9 m p0) k
  have pre1 : Go p e below (s₁.setTop (entryFrame m #[(.int p0)] 1)) (s₁.setTop (mkF m 3 #[.val (.int p0)] [(.int (55296 : Int32)), (.int p0)])) := by
    intro t k
    refine pre0 t ?_
    show Steps p.tables e below (s₁.setTop (mkF m 0 #[.val (.int p0)] [])) _
    refine XS.iloadN X0.here hx rfl (hb hby d9_0) rfl ?_
    show Steps p.tables e below (s₁.setTop (mkF m 1 #[.val (.int p0)] [(.int p0)])) _
    refine X0.ldcI hx hown (mvT hZ (hw _ (List.mem_of_getElem? (i := 46) rfl))) (g := (mkF m 1 #[.val (.int p0)] [(.int p0)])) rfl (hb hby d9_1) ?_
    show Steps p.tables e below (s₁.setTop (mkF m 3 #[.val (.int p0)] [(.int (55296 : Int32)), (.int p0)])) _
    exact k
  by_cases hc3_2 : p0 < (55296 : Int32)
  · skip
    have pre3 : Go p e below (s₁.setTop (entryFrame m #[(.int p0)] 1)) (s₁.setTop (mkF m 17 #[.val (.int p0)] [(.int (0 : Int32))])) := by
      intro t k
      refine pre1 t ?_
      show Steps p.tables e below (s₁.setTop (mkF m 3 #[.val (.int p0)] [(.int (55296 : Int32)), (.int p0)])) _
      refine XS.icmpYes X0.here hx rfl (pc0 := 3) (pc' := 16) rfl (hb hby d9_3) rfl (XT.ii_lt_t hc3_2) (by decide) (by decide) ?_
      show Steps p.tables e below (s₁.setTop (mkF m 16 #[.val (.int p0)] [])) _
      refine XS.iconst X0.here hx rfl (hb hby d9_16) ?_
      show Steps p.tables e below (s₁.setTop (mkF m 17 #[.val (.int p0)] [(.int (0 : Int32))])) _
      exact k
    obtain ⟨fs, hr, hrun, hended, hW, hsame⟩ := X0.leave (hlocks := hlk) (v := some (.int (0 : Int32))) (fun h => by rw [Bd.returns] at h; cases h)
    refine ⟨_, _, pre3 _ (retN X0 hx (t := .boolean) Bd.returns (by simp) (hb hby d9_17) hr), hrun, hended, _, _, rfl, ?_, ⟨_, rfl⟩, hW, hsame.mono (by decide) (by decide)⟩
    show Q9 Z p0 h0 n0 _ s₁.heap _
    rw [e0]
    exact ⟨congrArg some (congrArg Value.int (show (0 : Int32) = fsur p0 from by rw [fsur, if_pos hc3_2])), N0, rfl⟩
  · skip
    have pre4 : Go p e below (s₁.setTop (entryFrame m #[(.int p0)] 1)) (s₁.setTop (mkF m 9 #[.val (.int p0)] [(.int (57344 : Int32)), (.int p0)])) := by
      intro t k
      refine pre1 t ?_
      show Steps p.tables e below (s₁.setTop (mkF m 3 #[.val (.int p0)] [(.int (55296 : Int32)), (.int p0)])) _
      refine XS.icmpNo X0.here hx rfl (hb hby d9_3) rfl (XT.ii_lt_f hc3_2) ?_
      show Steps p.tables e below (s₁.setTop (mkF m 6 #[.val (.int p0)] [])) _
      refine XS.iloadN X0.here hx rfl (hb hby d9_6) rfl ?_
      show Steps p.tables e below (s₁.setTop (mkF m 7 #[.val (.int p0)] [(.int p0)])) _
      refine X0.ldcI hx hown (mvT hZ (hw _ (List.mem_of_getElem? (i := 49) rfl))) (g := (mkF m 7 #[.val (.int p0)] [(.int p0)])) rfl (hb hby d9_7) ?_
      show Steps p.tables e below (s₁.setTop (mkF m 9 #[.val (.int p0)] [(.int (57344 : Int32)), (.int p0)])) _
      exact k
    by_cases hc9_5 : p0 < (57344 : Int32)
    · skip
      have pre6 : Go p e below (s₁.setTop (entryFrame m #[(.int p0)] 1)) (s₁.setTop (mkF m 17 #[.val (.int p0)] [(.int (1 : Int32))])) := by
        intro t k
        refine pre4 t ?_
        show Steps p.tables e below (s₁.setTop (mkF m 9 #[.val (.int p0)] [(.int (57344 : Int32)), (.int p0)])) _
        refine XS.icmpNo X0.here hx rfl (hb hby d9_9) rfl (XT.ii_ge_f hc9_5) ?_
        show Steps p.tables e below (s₁.setTop (mkF m 12 #[.val (.int p0)] [])) _
        refine XS.iconst X0.here hx rfl (hb hby d9_12) ?_
        show Steps p.tables e below (s₁.setTop (mkF m 13 #[.val (.int p0)] [(.int (1 : Int32))])) _
        refine XS.goto X0.here hx rfl (pc0 := 13) (pc' := 17) rfl (hb hby d9_13) (by decide) (by decide) ?_
        show Steps p.tables e below (s₁.setTop (mkF m 17 #[.val (.int p0)] [(.int (1 : Int32))])) _
        exact k
      obtain ⟨fs, hr, hrun, hended, hW, hsame⟩ := X0.leave (hlocks := hlk) (v := some (.int (1 : Int32))) (fun h => by rw [Bd.returns] at h; cases h)
      refine ⟨_, _, pre6 _ (retN X0 hx (t := .boolean) Bd.returns (by simp) (hb hby d9_17) hr), hrun, hended, _, _, rfl, ?_, ⟨_, rfl⟩, hW, hsame.mono (by decide) (by decide)⟩
      show Q9 Z p0 h0 n0 _ s₁.heap _
      rw [e0]
      exact ⟨congrArg some (congrArg Value.int (show (1 : Int32) = fsur p0 from by rw [fsur, if_neg hc3_2, if_pos hc9_5])), N0, rfl⟩
    · skip
      have pre7 : Go p e below (s₁.setTop (entryFrame m #[(.int p0)] 1)) (s₁.setTop (mkF m 17 #[.val (.int p0)] [(.int (0 : Int32))])) := by
        intro t k
        refine pre4 t ?_
        show Steps p.tables e below (s₁.setTop (mkF m 9 #[.val (.int p0)] [(.int (57344 : Int32)), (.int p0)])) _
        refine XS.icmpYes X0.here hx rfl (pc0 := 9) (pc' := 16) rfl (hb hby d9_9) rfl (XT.ii_ge_t hc9_5) (by decide) (by decide) ?_
        show Steps p.tables e below (s₁.setTop (mkF m 16 #[.val (.int p0)] [])) _
        refine XS.iconst X0.here hx rfl (hb hby d9_16) ?_
        show Steps p.tables e below (s₁.setTop (mkF m 17 #[.val (.int p0)] [(.int (0 : Int32))])) _
        exact k
      obtain ⟨fs, hr, hrun, hended, hW, hsame⟩ := X0.leave (hlocks := hlk) (v := some (.int (0 : Int32))) (fun h => by rw [Bd.returns] at h; cases h)
      refine ⟨_, _, pre7 _ (retN X0 hx (t := .boolean) Bd.returns (by simp) (hb hby d9_17) hr), hrun, hended, _, _, rfl, ?_, ⟨_, rfl⟩, hW, hsame.mono (by decide) (by decide)⟩
      show Q9 Z p0 h0 n0 _ s₁.heap _
      rw [e0]
      exact ⟨congrArg some (congrArg Value.int (show (0 : Int32) = fsur p0 from by rw [fsur, if_neg hc3_2, if_neg hc9_5])), N0, rfl⟩
theorem ef_4 (m : MethodId) (a1 : Addr) : entryFrame m #[(.ref a1)] 1 = mkF m 0 #[.val (.ref a1)] [] := by first | (simp [entryFrame, mkF, argsToLocals, Value.category]; done) | rfl
theorem d4_0 : decode jdk_30_method_1_code 0 = .ok (.aload_n 0, 1) := by decide +kernel
theorem d4_1 : decode jdk_30_method_1_code 1 = .ok (.invokespecial 1, 3) := by decide +kernel
theorem d4_4 : decode jdk_30_method_1_code 4 = .ok (.return_, 1) := by decide +kernel
def Q4 (Z : State) (a1 : Addr) (h0 : Heap) (n0 : Nat) (v : Option Value) (h : Heap) (L : List Loc) : Prop := v = none ∧ Fr n0 L ∧ h = h0
set_option maxRecDepth 65536 in
set_option maxHeartbeats 40000000 in
theorem pn_java_lang_Record : plainName "java/lang/Record" = true := by first | (simp [plainName, overriddenIn]; done) | decide +kernel
theorem rm4 (l : Launch) (Z : State) (a0 : Array Value) (hw : ∀ d ∈ tables_1, d.before a0 Z = true) (ws : List Jvm.Cond) (a1 : Addr) (h0 : Heap) (n0 : Nat) (Z0 : n0 ≤ h0.size) :
    MetFree l (⟨"java/lang/Record", "<init>", "()V"⟩ : MethodName) (head1 (Jvm.Cond.code (⟨"java/lang/Record", "<init>", "()V"⟩ : MethodName) jdk_30_method_1_code 1 none :: ws) ({ frames := 1, cells := 0, slots := 0, locals := 12 } : Room)) (fun a U => a = #[(.ref a1)] ∧ Z.Warmed39 U.vm ∧ U.heap = h0) (fun _ _ _ _ _ => True) (fun _ U o U' => ∃ v L, o = .returned v ∧ Q4 Z a1 h0 n0 v U'.heap L ∧ FrameEnd U o U' L ({ frames := 1, cells := 0, slots := 0, locals := 12 } : Room).cells ({ frames := 1, cells := 0, slots := 0, locals := 12 } : Room).slots) := by
  refine MetFree.of_bodySF (plainFor_of_name pn_java_lang_Record) hisR ?_
  intro p e s m args below meth c s₁ Bd hml0 hP hK
  obtain ⟨rfl, hZ, hh⟩ := hP
  have hx := Bd.exec
  have hby := Bd.bytes
  have hml : c.maxLocals = 1 := hml0
  have hown : s.vm.findClass "java/lang/Record" = some m.cls := findClass_of_methodNamed Bd.named
  have hnm := (name_of_methodNamed Bd.named Bd.method).1
  have hlk : meth.locks = false := BodyLoose.notSynchronized Bd
  have X0 : Stand p l e ({ frames := 1, cells := 0, slots := 0, locals := 12 } : Room) s m #[(.ref a1)] below meth c s₁ [] 0 0 := Stand.of_body Bd
  have e0 : s₁.heap = h0 := by rw [← hh, Bd.state]; rfl
  have N0 := Fr.nil n0
  have pre0 : Go p e below (s₁.setTop (entryFrame m #[(.ref a1)] 1)) (s₁.setTop (mkF m 0 #[.val (.ref a1)] [])) := fun t k => castTop (ef_4 m a1) k
  have pre1 : Go p e below (s₁.setTop (entryFrame m #[(.ref a1)] 1)) (s₁.setTop (mkF m 1 #[.val (.ref a1)] [(.ref a1)])) := by
    intro t k
    refine pre0 t ?_
    show Steps p.tables e below (s₁.setTop (mkF m 0 #[.val (.ref a1)] [])) _
    refine XS.aloadN X0.here hx rfl (hb hby d4_0) rfl rfl ?_
    show Steps p.tables e below (s₁.setTop (mkF m 1 #[.val (.ref a1)] [(.ref a1)])) _
    exact k
  obtain ⟨T2, X2, e2, st2⟩ := initO X0 hx hZ hown (hw _ (List.mem_of_getElem? (i := 21) rfl)) (hw _ (List.mem_of_getElem? (i := 22) rfl)) (hw _ (List.mem_of_getElem? (i := 23) rfl)) e0 (g := (mkF m 1 #[.val (.ref a1)] [(.ref a1)])) rfl (by rw [hml]; rfl) rfl (hb hby d4_1) (by decide) (W := 0) (by show 2 * 0 + _ ≤ _; exact Nat.le_of_eq rfl) (by decide)
  have pre3 : Go p e below (s₁.setTop (entryFrame m #[(.ref a1)] 1)) (T2.setTop (mkF m 4 #[.val (.ref a1)] [])) := fun t k => pre1 t (st2 t k)
  obtain ⟨fs, hr, hrun, hended, hW, hsame⟩ := X2.leave (hlocks := hlk) (v := none) (fun _ => rfl)
  refine ⟨_, _, pre3 _ (X2.returnOut hx Bd.returns (hb hby d4_4) hr), hrun, hended, _, _, rfl, ?_, ⟨_, rfl⟩, hW, hsame.mono (by decide) (by decide)⟩
  show Q4 Z a1 h0 n0 _ T2.heap _
  rw [e2]
  exact ⟨rfl, N0, rfl⟩
theorem ef_3 (m : MethodId) (a1 : Addr) (q1 : Int64) (p1 : Int32) : entryFrame m #[(.ref a1), (.long q1), (.int p1)] 4 = mkF m 0 #[.val (.ref a1), .val (.long q1), .second, .val (.int p1)] [] := by first | (simp [entryFrame, mkF, argsToLocals, Value.category]; done) | rfl
theorem d3_0 : decode prog_29_method_1_code 0 = .ok (.aload_n 0, 1) := by decide +kernel
theorem d3_1 : decode prog_29_method_1_code 1 = .ok (.invokespecial 1, 3) := by decide +kernel
theorem pd_5 : parseMethodDescriptor "()V" = some ⟨[], none⟩ := by decide +kernel
theorem d3_4 : decode prog_29_method_1_code 4 = .ok (.aload_n 0, 1) := by decide +kernel
theorem d3_5 : decode prog_29_method_1_code 5 = .ok (.lload_n 1, 1) := by decide +kernel
theorem d3_6 : decode prog_29_method_1_code 6 = .ok (.putfield 7, 3) := by decide +kernel
theorem d3_9 : decode prog_29_method_1_code 9 = .ok (.aload_n 0, 1) := by decide +kernel
theorem d3_10 : decode prog_29_method_1_code 10 = .ok (.iload_n 3, 1) := by decide +kernel
theorem d3_11 : decode prog_29_method_1_code 11 = .ok (.putfield 13, 3) := by decide +kernel
theorem d3_14 : decode prog_29_method_1_code 14 = .ok (.return_, 1) := by decide +kernel
def Q3 (Z : State) (a1 : Addr) (q1 : Int64) (p1 : Int32) (h0 : Heap) (n0 : Nat) (v : Option Value) (h : Heap) (L : List Loc) : Prop := v = none ∧ Fr n0 L ∧ Keep h0 h [a1] ∧ Exa Z h a1 "com/example/xylograph/xylograph/MaxSize" ∧ Fld Z h a1 "com/example/xylograph/xylograph/MaxSize" "inBytes" "Z" (.int (nar .boolean p1))
set_option maxRecDepth 65536 in
set_option maxHeartbeats 40000000 in
theorem pn_com_example_xylograph_xylograph_MaxSize : plainName "com/example/xylograph/xylograph/MaxSize" = true := by first | (simp [plainName, overriddenIn]; done) | decide +kernel
theorem rm3 (l : Launch) (Z : State) (a0 : Array Value) (hw : ∀ d ∈ tables_1, d.before a0 Z = true) (ws : List Jvm.Cond) (a1 : Addr) (q1 : Int64) (p1 : Int32) (h0 : Heap) (n0 : Nat) (Z0 : n0 ≤ h0.size) (E1 : Exa Z h0 a1 "com/example/xylograph/xylograph/MaxSize") (F1 : Fld Z h0 a1 "com/example/xylograph/xylograph/MaxSize" "limit" "J" (.long (0 : Int64))) (F2 : Fld Z h0 a1 "com/example/xylograph/xylograph/MaxSize" "inBytes" "Z" (.int (0 : Int32))) (g_a1 : n0 ≤ a1) :
    MetFree l (⟨"com/example/xylograph/xylograph/MaxSize", "<init>", "(JZ)V"⟩ : MethodName) (head1 (Jvm.Cond.code (⟨"com/example/xylograph/xylograph/MaxSize", "<init>", "(JZ)V"⟩ : MethodName) prog_29_method_1_code 4 none :: ws) ({ frames := 2, cells := 0, slots := 0, locals := 24 } : Room)) (fun a U => a = #[(.ref a1), (.long q1), (.int p1)] ∧ Z.Warmed39 U.vm ∧ U.heap = h0) (fun _ _ _ _ _ => True) (fun _ U o U' => ∃ v L, o = .returned v ∧ Q3 Z a1 q1 p1 h0 n0 v U'.heap L ∧ FrameEnd U o U' L ({ frames := 2, cells := 0, slots := 0, locals := 24 } : Room).cells ({ frames := 2, cells := 0, slots := 0, locals := 24 } : Room).slots) := by
  refine MetFree.of_bodySF (plainFor_of_name pn_com_example_xylograph_xylograph_MaxSize) hisR ?_
  intro p e s m args below meth c s₁ Bd hml0 hP hK
  obtain ⟨rfl, hZ, hh⟩ := hP
  have hx := Bd.exec
  have hby := Bd.bytes
  have hml : c.maxLocals = 4 := hml0
  have hown : s.vm.findClass "com/example/xylograph/xylograph/MaxSize" = some m.cls := findClass_of_methodNamed Bd.named
  have hnm := (name_of_methodNamed Bd.named Bd.method).1
  have hlk : meth.locks = false := BodyLoose.notSynchronized Bd
  have X0 : Stand p l e ({ frames := 2, cells := 0, slots := 0, locals := 24 } : Room) s m #[(.ref a1), (.long q1), (.int p1)] below meth c s₁ [] 0 0 := Stand.of_body Bd
  have e0 : s₁.heap = h0 := by rw [← hh, Bd.state]; rfl
  have N0 := Fr.nil n0
  have pre0 : Go p e below (s₁.setTop (entryFrame m #[(.ref a1), (.long q1), (.int p1)] 4)) (s₁.setTop (mkF m 0 #[.val (.ref a1), .val (.long q1), .second, .val (.int p1)] [])) := fun t k => castTop (ef_3 m a1 q1 p1) k
  have pre1 : Go p e below (s₁.setTop (entryFrame m #[(.ref a1), (.long q1), (.int p1)] 4)) (s₁.setTop (mkF m 1 #[.val (.ref a1), .val (.long q1), .second, .val (.int p1)] [(.ref a1)])) := by
    intro t k
    refine pre0 t ?_
    show Steps p.tables e below (s₁.setTop (mkF m 0 #[.val (.ref a1), .val (.long q1), .second, .val (.int p1)] [])) _
    refine XS.aloadN X0.here hx rfl (hb hby d3_0) rfl rfl ?_
    show Steps p.tables e below (s₁.setTop (mkF m 1 #[.val (.ref a1), .val (.long q1), .second, .val (.int p1)] [(.ref a1)])) _
    exact k
  obtain ⟨_, _, ⟨T2, L2, k2, n2⟩, -, X2, ⟨Lc2, hQ2, l2, y2, z2⟩, st2⟩ := X0.specialBack hx (y := (⟨"java/lang/Record", "<init>", "()V"⟩ : MethodName)) rfl hown (mvT hZ (hw _ (List.mem_of_getElem? (i := 16) rfl))) (mvT hZ (hw _ (List.mem_of_getElem? (i := 17) rfl))) (mvT hZ (hw _ (List.mem_of_getElem? (i := 20) rfl))) (by decide) (backOf (W := 0) (rm4 l Z a0 hw [] a1  h0 n0 Z0 ) hZ (hw _ (List.mem_of_getElem? (i := 20) rfl)) (hw _ (List.mem_of_getElem? (i := 19) rfl)) (by decide) (by decide)) (g := (mkF m 1 #[.val (.ref a1), .val (.long q1), .second, .val (.int p1)] [(.ref a1)])) rfl (by rw [hml]; rfl) (Steps.refl _) (a := a1) (argsL := []) (rest := []) (lenOf pd_5 rfl) rfl (by show 2 * 0 + _ ≤ _; exact Nat.le_of_eq rfl) (hb hby d3_1) (fun _ _ => ⟨rfl, e0, (by decide : 0 + 0 ≤ _), (by decide : 0 + 0 ≤ _)⟩)
  dsimp only [Pt.U, Pt.locs, Pt.cells, Pt.slots] at X2 l2 y2 z2 st2 hQ2
  subst l2 y2 z2
  obtain ⟨rfl, N2q, hh2⟩ := hQ2
  have N2 := Fr.app N0 N2q
  have pre3 : Go p e below (s₁.setTop (entryFrame m #[(.ref a1), (.long q1), (.int p1)] 4)) (T2.setTop (mkF m 4 #[.val (.ref a1), .val (.long q1), .second, .val (.int p1)] [])) := fun t k => pre1 t (st2.trans k)
  have pre4 : Go p e below (s₁.setTop (entryFrame m #[(.ref a1), (.long q1), (.int p1)] 4)) (T2.setTop (mkF m 6 #[.val (.ref a1), .val (.long q1), .second, .val (.int p1)] [(.long q1), (.ref a1)])) := by
    intro t k
    refine pre3 t ?_
    show Steps p.tables e below (T2.setTop (mkF m 4 #[.val (.ref a1), .val (.long q1), .second, .val (.int p1)] [])) _
    refine XS.aloadN X2.here hx rfl (hb hby d3_4) rfl rfl ?_
    show Steps p.tables e below (T2.setTop (mkF m 5 #[.val (.ref a1), .val (.long q1), .second, .val (.int p1)] [(.ref a1)])) _
    refine XT.lloadN X2.here hx rfl (hb hby d3_5) rfl ?_
    show Steps p.tables e below (T2.setTop (mkF m 6 #[.val (.ref a1), .val (.long q1), .second, .val (.int p1)] [(.long q1), (.ref a1)])) _
    exact k
  obtain ⟨T5, h5, X5, e5, W5, st5⟩ := putF X2 hx hZ hown (host := "") (Or.inl (hw _ (List.mem_of_getElem? (i := 24) rfl))) Via.refl hh2 F1 E1 (Or.inr ⟨(hw _ (List.mem_of_getElem? (i := 25) rfl)), rfl, hnm⟩) (hw _ (List.mem_of_getElem? (i := 11) rfl)) (ty := .long) (by decide) rfl rfl (g := (mkF m 6 #[.val (.ref a1), .val (.long q1), .second, .val (.int p1)] [(.long q1), (.ref a1)])) rfl rfl (hb hby d3_6)
  have Fw5 := F1.same W5
  have c6_5 := E1.wr W5
  have c7_5 := F2.other W5 (Or.inr (slot_ne (Or.inr (hw _ (List.mem_of_getElem? (i := 27) rfl))) (Or.inr (hw _ (List.mem_of_getElem? (i := 25) rfl))) (by decide) (t := .boolean) (t' := .long) (by decide) (by decide)))
  have zz8 := (Nat.le_trans Z0 (Keep.of_wr W5).1)
  have K9 := (Keep.refl h0 [a1]).wr W5 (Or.inl (List.mem_singleton.mpr rfl))
  have N5 := Fr.snoc X5 N2 g_a1
  have pre10 : Go p e below (s₁.setTop (entryFrame m #[(.ref a1), (.long q1), (.int p1)] 4)) (T5.setTop (mkF m 9 #[.val (.ref a1), .val (.long q1), .second, .val (.int p1)] [])) := fun t k => pre4 t (st5 t k)
  have pre11 : Go p e below (s₁.setTop (entryFrame m #[(.ref a1), (.long q1), (.int p1)] 4)) (T5.setTop (mkF m 11 #[.val (.ref a1), .val (.long q1), .second, .val (.int p1)] [(.int p1), (.ref a1)])) := by
    intro t k
    refine pre10 t ?_
    show Steps p.tables e below (T5.setTop (mkF m 9 #[.val (.ref a1), .val (.long q1), .second, .val (.int p1)] [])) _
    refine XS.aloadN X5.here hx rfl (hb hby d3_9) rfl rfl ?_
    show Steps p.tables e below (T5.setTop (mkF m 10 #[.val (.ref a1), .val (.long q1), .second, .val (.int p1)] [(.ref a1)])) _
    refine XS.iloadN X5.here hx rfl (hb hby d3_10) rfl ?_
    show Steps p.tables e below (T5.setTop (mkF m 11 #[.val (.ref a1), .val (.long q1), .second, .val (.int p1)] [(.int p1), (.ref a1)])) _
    exact k
  obtain ⟨T12, h12, X12, e12, W12, st12⟩ := putFN X5 hx hZ hown (hw _ (List.mem_of_getElem? (i := 26) rfl)) Via.refl e5 c7_5 c6_5 (Or.inr ⟨(hw _ (List.mem_of_getElem? (i := 27) rfl)), rfl, hnm⟩) (hw _ (List.mem_of_getElem? (i := 11) rfl)) (ty := .boolean) (v' := (.int (nar .boolean p1))) (by decide) rfl (fits_nar_bool _) (g := (mkF m 11 #[.val (.ref a1), .val (.long q1), .second, .val (.int p1)] [(.int p1), (.ref a1)])) rfl rfl (hb hby d3_11)
  have Fw12 := c7_5.same W12
  have c13_12 := c6_5.wr W12
  have c14_12 := Fw5.other W12 (Or.inr (slot_ne (Or.inr (hw _ (List.mem_of_getElem? (i := 25) rfl))) (Or.inr (hw _ (List.mem_of_getElem? (i := 27) rfl))) (by decide) (t := .long) (t' := .boolean) (by decide) (by decide)))
  have zz15 := (Nat.le_trans zz8 (Keep.of_wr W12).1)
  have K16 := K9.wr W12 (Or.inl (List.mem_singleton.mpr rfl))
  have N12 := Fr.snoc X12 N5 g_a1
  have pre17 : Go p e below (s₁.setTop (entryFrame m #[(.ref a1), (.long q1), (.int p1)] 4)) (T12.setTop (mkF m 14 #[.val (.ref a1), .val (.long q1), .second, .val (.int p1)] [])) := fun t k => pre11 t (st12 t k)
  obtain ⟨fs, hr, hrun, hended, hW, hsame⟩ := X12.leave (hlocks := hlk) (v := none) (fun _ => rfl)
  refine ⟨_, _, pre17 _ (X12.returnOut hx Bd.returns (hb hby d3_14) hr), hrun, hended, _, _, rfl, ?_, ⟨_, rfl⟩, hW, hsame.mono (by decide) (by decide)⟩
  show Q3 Z a1 q1 p1 h0 n0 _ T12.heap _
  rw [e12]
  exact ⟨rfl, N12, K16, c13_12, Fw12⟩
theorem ef_7 (m : MethodId) (a1 : Addr) (i : Int32) (lo : Int32) (hi : Int32) : entryFrame m #[(.ref a1), (.int i), (.int lo), (.int hi)] 4 = mkF m 0 #[.val (.ref a1), .val (.int i), .val (.int lo), .val (.int hi)] [] := by first | (simp [entryFrame, mkF, argsToLocals, Value.category]; done) | rfl
theorem d7_0 : decode method_3_code 0 = .ok (.iload_n 2, 1) := by decide +kernel
theorem d7_1 : decode method_3_code 1 = .ok (.iload_n 1, 1) := by decide +kernel
theorem d7_2 : decode method_3_code 2 = .ok (.if_icmp .gt 15, 3) := by decide +kernel
theorem d7_17 : decode method_3_code 17 = .ok (.lconst 0, 1) := by decide +kernel
theorem d7_18 : decode method_3_code 18 = .ok (.lreturn, 1) := by decide +kernel
theorem d7_5 : decode method_3_code 5 = .ok (.iload_n 1, 1) := by decide +kernel
theorem d7_6 : decode method_3_code 6 = .ok (.iload_n 3, 1) := by decide +kernel
theorem d7_7 : decode method_3_code 7 = .ok (.if_icmp .ge 10, 3) := by decide +kernel
theorem d7_10 : decode method_3_code 10 = .ok (.aload_n 0, 1) := by decide +kernel
theorem d7_11 : decode method_3_code 11 = .ok (.iload_n 1, 1) := by decide +kernel
theorem d7_12 : decode method_3_code 12 = .ok (.caload, 1) := by decide +kernel
theorem d7_13 : decode method_3_code 13 = .ok (.invokestatic 13, 3) := by decide +kernel
theorem pd_7 : parseMethodDescriptor "(C)J" = some ⟨[.char], some .long⟩ := by decide +kernel
theorem d7_16 : decode method_3_code 16 = .ok (.lreturn, 1) := by decide +kernel
def fpart (i : Int32) (wi : Int32) (lo : Int32) (hi : Int32) : Int64 := (if i < lo then (0 : Int64) else (if i < hi then (fw wi) else (0 : Int64)))
def Q7 (Z : State) (a1 : Addr) (i : Int32) (lo : Int32) (hi : Int32) (kk : ClassId) (vs : List Value) (wi : Int32) (h0 : Heap) (n0 : Nat) (v : Option Value) (h : Heap) (L : List Loc) : Prop := v = some (.long (fpart i wi lo hi)) ∧ Fr n0 L ∧ h = h0
set_option maxRecDepth 65536 in
set_option maxHeartbeats 40000000 in
theorem rm7 (l : Launch) (Z : State) (a0 : Array Value) (hw : ∀ d ∈ tables_1, d.before a0 Z = true) (ws : List Jvm.Cond) (a1 : Addr) (i : Int32) (lo : Int32) (hi : Int32) (kk : ClassId) (vs : List Value) (wi : Int32) (h0 : Heap) (n0 : Nat) (Z0 : n0 ≤ h0.size) (V1 : Arv Z h0 a1 kk .char (5 : Int32) vs (.int (0 : Int32))) (hi5 : ¬ i < 0 ∧ i < (5 : Int32)) (hv : vs.getD i.toNatClampNeg (.int (0 : Int32)) = .int wi) :
    MetFree l (⟨"com/example/xylograph/xylograph/MaxSizeSizeOfPinLaw", "part", "([CIII)J"⟩ : MethodName) (head1 (Jvm.Cond.code (⟨"com/example/xylograph/xylograph/MaxSizeSizeOfPinLaw", "part", "([CIII)J"⟩ : MethodName) method_3_code 4 (some .long) :: ws) ({ frames := 1, cells := 0, slots := 0, locals := 12 } : Room)) (fun a U => a = #[(.ref a1), (.int i), (.int lo), (.int hi)] ∧ Z.Warmed39 U.vm ∧ U.heap = h0) (fun _ _ _ _ _ => True) (fun _ U o U' => ∃ v L, o = .returned v ∧ Q7 Z a1 i lo hi kk vs wi h0 n0 v U'.heap L ∧ FrameEnd U o U' L ({ frames := 1, cells := 0, slots := 0, locals := 12 } : Room).cells ({ frames := 1, cells := 0, slots := 0, locals := 12 } : Room).slots) := by
  refine MetFree.of_bodySF (plainFor_of_name pn_com_example_xylograph_xylograph_MaxSizeSizeOfPinLaw) hisR ?_
  intro p e s m args below meth c s₁ Bd hml0 hP hK
  obtain ⟨rfl, hZ, hh⟩ := hP
  have hx := Bd.exec
  have hby := Bd.bytes
  have hml : c.maxLocals = 4 := hml0
  have hown : s.vm.findClass "com/example/xylograph/xylograph/MaxSizeSizeOfPinLaw" = some m.cls := findClass_of_methodNamed Bd.named
  have hnm := (name_of_methodNamed Bd.named Bd.method).1
  have hlk : meth.locks = false := BodyLoose.notSynchronized Bd
  have X0 : Stand p l e ({ frames := 1, cells := 0, slots := 0, locals := 12 } : Room) s m #[(.ref a1), (.int i), (.int lo), (.int hi)] below meth c s₁ [] 0 0 := Stand.of_body Bd
  have e0 : s₁.heap = h0 := by rw [← hh, Bd.state]; rfl
  have N0 := Fr.nil n0
  have pre0 : Go p e below (s₁.setTop (entryFrame m #[(.ref a1), (.int i), (.int lo), (.int hi)] 4)) (s₁.setTop (mkF m 0 #[.val (.ref a1), .val (.int i), .val (.int lo), .val (.int hi)] [])) := fun t k => castTop (ef_7 m a1 i lo hi) k
  have pre1 : Go p e below (s₁.setTop (entryFrame m #[(.ref a1), (.int i), (.int lo), (.int hi)] 4)) (s₁.setTop (mkF m 2 #[.val (.ref a1), .val (.int i), .val (.int lo), .val (.int hi)] [(.int i), (.int lo)])) := by
    intro t k
    refine pre0 t ?_
    show Steps p.tables e below (s₁.setTop (mkF m 0 #[.val (.ref a1), .val (.int i), .val (.int lo), .val (.int hi)] [])) _
    refine XS.iloadN X0.here hx rfl (hb hby d7_0) rfl ?_
    show Steps p.tables e below (s₁.setTop (mkF m 1 #[.val (.ref a1), .val (.int i), .val (.int lo), .val (.int hi)] [(.int lo)])) _
    refine XS.iloadN X0.here hx rfl (hb hby d7_1) rfl ?_
    show Steps p.tables e below (s₁.setTop (mkF m 2 #[.val (.ref a1), .val (.int i), .val (.int lo), .val (.int hi)] [(.int i), (.int lo)])) _
    exact k
  by_cases hc2_2 : i < lo
  · skip
    have pre3 : Go p e below (s₁.setTop (entryFrame m #[(.ref a1), (.int i), (.int lo), (.int hi)] 4)) (s₁.setTop (mkF m 18 #[.val (.ref a1), .val (.int i), .val (.int lo), .val (.int hi)] [(.long (0 : Int64))])) := by
      intro t k
      refine pre1 t ?_
      show Steps p.tables e below (s₁.setTop (mkF m 2 #[.val (.ref a1), .val (.int i), .val (.int lo), .val (.int hi)] [(.int i), (.int lo)])) _
      refine XS.icmpYes X0.here hx rfl (pc0 := 2) (pc' := 17) rfl (hb hby d7_2) rfl (XT.ii_gt_t hc2_2) (by decide) (by decide) ?_
      show Steps p.tables e below (s₁.setTop (mkF m 17 #[.val (.ref a1), .val (.int i), .val (.int lo), .val (.int hi)] [])) _
      refine XT.lconstV X0.here hx rfl (0 : Int64) (hb hby d7_17) rfl ?_
      show Steps p.tables e below (s₁.setTop (mkF m 18 #[.val (.ref a1), .val (.int i), .val (.int lo), .val (.int hi)] [(.long (0 : Int64))])) _
      exact k
    obtain ⟨fs, hr, hrun, hended, hW, hsame⟩ := X0.leave (hlocks := hlk) (v := some (.long (0 : Int64))) (fun h => by rw [Bd.returns] at h; cases h)
    refine ⟨_, _, pre3 _ (retJ X0 hx Bd.returns (hb hby d7_18) hr), hrun, hended, _, _, rfl, ?_, ⟨_, rfl⟩, hW, hsame.mono (by decide) (by decide)⟩
    show Q7 Z a1 i lo hi kk vs wi h0 n0 _ s₁.heap _
    rw [e0]
    exact ⟨congrArg some (congrArg Value.long (show (0 : Int64) = fpart i wi lo hi from by rw [fpart, if_pos hc2_2])), N0, rfl⟩
  · skip
    have pre4 : Go p e below (s₁.setTop (entryFrame m #[(.ref a1), (.int i), (.int lo), (.int hi)] 4)) (s₁.setTop (mkF m 7 #[.val (.ref a1), .val (.int i), .val (.int lo), .val (.int hi)] [(.int hi), (.int i)])) := by
      intro t k
      refine pre1 t ?_
      show Steps p.tables e below (s₁.setTop (mkF m 2 #[.val (.ref a1), .val (.int i), .val (.int lo), .val (.int hi)] [(.int i), (.int lo)])) _
      refine XS.icmpNo X0.here hx rfl (hb hby d7_2) rfl (XT.ii_gt_f hc2_2) ?_
      show Steps p.tables e below (s₁.setTop (mkF m 5 #[.val (.ref a1), .val (.int i), .val (.int lo), .val (.int hi)] [])) _
      refine XS.iloadN X0.here hx rfl (hb hby d7_5) rfl ?_
      show Steps p.tables e below (s₁.setTop (mkF m 6 #[.val (.ref a1), .val (.int i), .val (.int lo), .val (.int hi)] [(.int i)])) _
      refine XS.iloadN X0.here hx rfl (hb hby d7_6) rfl ?_
      show Steps p.tables e below (s₁.setTop (mkF m 7 #[.val (.ref a1), .val (.int i), .val (.int lo), .val (.int hi)] [(.int hi), (.int i)])) _
      exact k
    by_cases hc7_5 : i < hi
    · skip
      have pre6 : Go p e below (s₁.setTop (entryFrame m #[(.ref a1), (.int i), (.int lo), (.int hi)] 4)) (s₁.setTop (mkF m 12 #[.val (.ref a1), .val (.int i), .val (.int lo), .val (.int hi)] [(.int i), (.ref a1)])) := by
        intro t k
        refine pre4 t ?_
        show Steps p.tables e below (s₁.setTop (mkF m 7 #[.val (.ref a1), .val (.int i), .val (.int lo), .val (.int hi)] [(.int hi), (.int i)])) _
        refine XS.icmpNo X0.here hx rfl (hb hby d7_7) rfl (XT.ii_ge_f hc7_5) ?_
        show Steps p.tables e below (s₁.setTop (mkF m 10 #[.val (.ref a1), .val (.int i), .val (.int lo), .val (.int hi)] [])) _
        refine XS.aloadN X0.here hx rfl (hb hby d7_10) rfl rfl ?_
        show Steps p.tables e below (s₁.setTop (mkF m 11 #[.val (.ref a1), .val (.int i), .val (.int lo), .val (.int hi)] [(.ref a1)])) _
        refine XS.iloadN X0.here hx rfl (hb hby d7_11) rfl ?_
        show Steps p.tables e below (s₁.setTop (mkF m 12 #[.val (.ref a1), .val (.int i), .val (.int lo), .val (.int hi)] [(.int i), (.ref a1)])) _
        exact k
      obtain ⟨cl, Ar, -, SS, NN, HH, -⟩ := V1
      have hin := inb_of (j := i) SS hi5
      have hat := HH.at hin hv
      have pre7 : Go p e below (s₁.setTop (entryFrame m #[(.ref a1), (.int i), (.int lo), (.int hi)] 4)) (s₁.setTop (mkF m 13 #[.val (.ref a1), .val (.int i), .val (.int lo), .val (.int hi)] [(.int wi)])) := by
        intro t k
        refine pre6 t ?_
        show Steps p.tables e below (s₁.setTop (mkF m 12 #[.val (.ref a1), .val (.int i), .val (.int lo), .val (.int hi)] [(.int i), (.ref a1)])) _
        refine X0.caload hx (j := i) (v := (.int wi)) (by rw [e0]; exact Ar.1) (State.isArrayOf_alike hZ.alike Ar.2.1) Ar.2.2 hin hat (g := (mkF m 12 #[.val (.ref a1), .val (.int i), .val (.int lo), .val (.int hi)] [(.int i), (.ref a1)])) rfl rfl (hb hby d7_12) _ ?_
        show Steps p.tables e below (s₁.setTop (mkF m 13 #[.val (.ref a1), .val (.int i), .val (.int lo), .val (.int hi)] [(.int wi)])) _
        exact k
      obtain ⟨_, _, ⟨T8, L8, k8, n8⟩, -, X8, ⟨Lc8, hQ8, l8, y8, z8⟩, st8⟩ := Jvm.LawKit.callS X0 hx (y := (⟨"com/example/xylograph/xylograph/MaxSizeSizeOfPinLaw", "w", "(C)J"⟩ : MethodName)) hown (mvT hZ (hw _ (List.mem_of_getElem? (i := 37) rfl))) (mvT hZ (hw _ (List.mem_of_getElem? (i := 38) rfl))) (mvT hZ (hw _ (List.mem_of_getElem? (i := 35) rfl))) (mvT hZ (hw _ (List.mem_of_getElem? (i := 39) rfl))) (by decide) (backOf (W := 0) (rm8 l Z a0 hw [] wi  h0 n0 Z0 ) hZ (hw _ (List.mem_of_getElem? (i := 39) rfl)) (hw _ (List.mem_of_getElem? (i := 35) rfl)) (by decide) (by decide)) (g := (mkF m 13 #[.val (.ref a1), .val (.int i), .val (.int lo), .val (.int hi)] [(.int wi)])) rfl (by rw [hml]; rfl) (argsL := [(.int wi)]) (rest := []) (lenOf pd_7 rfl) rfl (by show 2 * 0 + _ ≤ _; exact Nat.le_of_eq rfl) (hb hby d7_13) (fun _ _ => ⟨rfl, e0, (by decide : 0 + 0 ≤ _), (by decide : 0 + 0 ≤ _)⟩)
      dsimp only [Pt.U, Pt.locs, Pt.cells, Pt.slots] at X8 l8 y8 z8 st8 hQ8
      subst l8 y8 z8
      obtain ⟨rfl, N8q, hh8⟩ := hQ8
      have N8 := Fr.app N0 N8q
      have pre9 : Go p e below (s₁.setTop (entryFrame m #[(.ref a1), (.int i), (.int lo), (.int hi)] 4)) (T8.setTop (mkF m 16 #[.val (.ref a1), .val (.int i), .val (.int lo), .val (.int hi)] [(.long (fw wi))])) := fun t k => pre7 t (st8 t k)
      obtain ⟨fs, hr, hrun, hended, hW, hsame⟩ := X8.leave (hlocks := hlk) (v := some (.long (fw wi))) (fun h => by rw [Bd.returns] at h; cases h)
      refine ⟨_, _, pre9 _ (retJ X8 hx Bd.returns (hb hby d7_16) hr), hrun, hended, _, _, rfl, ?_, ⟨_, rfl⟩, hW, hsame.mono (by decide) (by decide)⟩
      show Q7 Z a1 i lo hi kk vs wi h0 n0 _ T8.heap _
      rw [hh8]
      exact ⟨congrArg some (congrArg Value.long (show (fw wi) = fpart i wi lo hi from by rw [fpart, if_neg hc2_2, if_pos hc7_5])), N8, rfl⟩
    · skip
      have pre10 : Go p e below (s₁.setTop (entryFrame m #[(.ref a1), (.int i), (.int lo), (.int hi)] 4)) (s₁.setTop (mkF m 18 #[.val (.ref a1), .val (.int i), .val (.int lo), .val (.int hi)] [(.long (0 : Int64))])) := by
        intro t k
        refine pre4 t ?_
        show Steps p.tables e below (s₁.setTop (mkF m 7 #[.val (.ref a1), .val (.int i), .val (.int lo), .val (.int hi)] [(.int hi), (.int i)])) _
        refine XS.icmpYes X0.here hx rfl (pc0 := 7) (pc' := 17) rfl (hb hby d7_7) rfl (XT.ii_ge_t hc7_5) (by decide) (by decide) ?_
        show Steps p.tables e below (s₁.setTop (mkF m 17 #[.val (.ref a1), .val (.int i), .val (.int lo), .val (.int hi)] [])) _
        refine XT.lconstV X0.here hx rfl (0 : Int64) (hb hby d7_17) rfl ?_
        show Steps p.tables e below (s₁.setTop (mkF m 18 #[.val (.ref a1), .val (.int i), .val (.int lo), .val (.int hi)] [(.long (0 : Int64))])) _
        exact k
      obtain ⟨fs, hr, hrun, hended, hW, hsame⟩ := X0.leave (hlocks := hlk) (v := some (.long (0 : Int64))) (fun h => by rw [Bd.returns] at h; cases h)
      refine ⟨_, _, pre10 _ (retJ X0 hx Bd.returns (hb hby d7_18) hr), hrun, hended, _, _, rfl, ?_, ⟨_, rfl⟩, hW, hsame.mono (by decide) (by decide)⟩
      show Q7 Z a1 i lo hi kk vs wi h0 n0 _ s₁.heap _
      rw [e0]
      exact ⟨congrArg some (congrArg Value.long (show (0 : Int64) = fpart i wi lo hi from by rw [fpart, if_neg hc2_2, if_neg hc7_5])), N0, rfl⟩
def own_g (c : Int32) : Int64 := if c < (2048 : Int32) then (if c < (128 : Int32) then (0 : Int64) else (1 : Int64)) else (if fsur c = (0 : Int32) then (2 : Int64) else (if c < (128 : Int32) then (0 : Int64) else (1 : Int64)))
def own_sum (t : List Int32) : Nat → Nat → Int64
  | _, 0 => 0
  | i, k + 1 => own_g (t.getD i 0) + own_sum t (i + 1) k
theorem d6_16 : decode prog_29_method_2_code 16 = .ok (.iload 6, 2) := by decide +kernel
theorem d6_18 : decode prog_29_method_2_code 18 = .ok (.iload_n 3, 1) := by decide +kernel
theorem d6_19 : decode prog_29_method_2_code 19 = .ok (.if_icmp .ge 56, 3) := by decide +kernel
theorem d6_22 : decode prog_29_method_2_code 22 = .ok (.aload_n 1, 1) := by decide +kernel
theorem d6_23 : decode prog_29_method_2_code 23 = .ok (.iload 6, 2) := by decide +kernel
theorem d6_25 : decode prog_29_method_2_code 25 = .ok (.caload, 1) := by decide +kernel
theorem d6_26 : decode prog_29_method_2_code 26 = .ok (.istore 7, 2) := by decide +kernel
theorem d6_28 : decode prog_29_method_2_code 28 = .ok (.iload 7, 2) := by decide +kernel
theorem d6_30 : decode prog_29_method_2_code 30 = .ok (.sipush 2048, 3) := by decide +kernel
theorem d6_33 : decode prog_29_method_2_code 33 = .ok (.if_icmp .lt 22, 3) := by decide +kernel
theorem d6_55 : decode prog_29_method_2_code 55 = .ok (.iload 7, 2) := by decide +kernel
theorem d6_57 : decode prog_29_method_2_code 57 = .ok (.sipush 128, 3) := by decide +kernel
theorem d6_60 : decode prog_29_method_2_code 60 = .ok (.if_icmp .lt 9, 3) := by decide +kernel
theorem d6_69 : decode prog_29_method_2_code 69 = .ok (.iinc 6 1, 3) := by decide +kernel
theorem d6_72 : decode prog_29_method_2_code 72 = .ok (.goto (-56), 3) := by decide +kernel
theorem d6_63 : decode prog_29_method_2_code 63 = .ok (.lload 4, 2) := by decide +kernel
theorem d6_65 : decode prog_29_method_2_code 65 = .ok (.lconst 1, 1) := by decide +kernel
theorem d6_66 : decode prog_29_method_2_code 66 = .ok (.ladd, 1) := by decide +kernel
theorem d6_67 : decode prog_29_method_2_code 67 = .ok (.lstore 4, 2) := by decide +kernel
theorem d6_36 : decode prog_29_method_2_code 36 = .ok (.iload 7, 2) := by decide +kernel
theorem d6_38 : decode prog_29_method_2_code 38 = .ok (.invokestatic 17, 3) := by decide +kernel
theorem pd_9 : parseMethodDescriptor "(C)Z" = some ⟨[.char], some .boolean⟩ := by decide +kernel
theorem d6_41 : decode prog_29_method_2_code 41 = .ok (.ifCond .ne 14, 3) := by decide +kernel
theorem d6_44 : decode prog_29_method_2_code 44 = .ok (.lload 4, 2) := by decide +kernel
theorem d6_46 : decode prog_29_method_2_code 46 = .ok (.ldc2_w 23, 3) := by decide +kernel
theorem d6_49 : decode prog_29_method_2_code 49 = .ok (.ladd, 1) := by decide +kernel
theorem d6_50 : decode prog_29_method_2_code 50 = .ok (.lstore 4, 2) := by decide +kernel
theorem d6_52 : decode prog_29_method_2_code 52 = .ok (.goto 17, 3) := by decide +kernel
set_option maxRecDepth 65536 in
set_option maxHeartbeats 40000000 in
theorem tn16 {p : Program} {l : Launch} {e : Env} {s : State} {m : MethodId} {args : Array Value} {below : List Frame} {meth : Method} {c : Code} {T0 : State} {locs : List Loc} {Z : State} {a0 : Array Value} {h0 : Heap} {n0 : Nat}  {a1 a2 : Addr} {lo hi : Int32} {acc : Int64} {i : Int32} {s7 : Slot} {cl : Cell} {wi : Int32}
    (X0 : Stand p l e ({ frames := 1, cells := 0, slots := 0, locals := 12 } : Room) s m args below meth c T0 locs 0 0) (hx : p.tables.exec = Jvm.exec) (hZ : Z.Warmed39 s.vm) (hw : ∀ d ∈ tables_1, d.before a0 Z = true) (hby : c.code = prog_29_method_2_code) (hml : c.maxLocals = 8) (hown : s.vm.findClass "com/example/xylograph/xylograph/MaxSize" = some m.cls) (e0 : T0.heap = h0) (N0 : Fr n0 locs) (Z0 : n0 ≤ h0.size) (hs7 : One s7) (hih : i < hi) (Ar : Arr Z h0 a2 cl .char) (hin : ¬ (i < 0 ∨ cl.slots.size ≤ i.toNatClampNeg)) (hat : cl.slots[i.toNatClampNeg]? = some (.int wi)) :
    ∃ (T' : State) (locs' : List Loc), Stand p l e ({ frames := 1, cells := 0, slots := 0, locals := 12 } : Room) s m args below meth c T' locs' 0 0 ∧ T'.heap = h0 ∧ Fr n0 locs' ∧ Go p e below (T0.setTop (mkF m 16 #[.val (.ref a1), .val (.ref a2), .val (.int lo), .val (.int hi), .val (.long acc), .second, .val (.int i), s7] [])) (T'.setTop (mkF m 16 #[.val (.ref a1), .val (.ref a2), .val (.int lo), .val (.int hi), .val (.long (acc + own_g wi)), .second, .val (.int (i + (1 : Int32))), .val (.int wi)] [])) := by
  have pre0 : Go p e below (T0.setTop (mkF m 16 #[.val (.ref a1), .val (.ref a2), .val (.int lo), .val (.int hi), .val (.long acc), .second, .val (.int i), s7] [])) (T0.setTop (mkF m 16 #[.val (.ref a1), .val (.ref a2), .val (.int lo), .val (.int hi), .val (.long acc), .second, .val (.int i), s7] [])) := fun t k => k
  have pre1 : Go p e below (T0.setTop (mkF m 16 #[.val (.ref a1), .val (.ref a2), .val (.int lo), .val (.int hi), .val (.long acc), .second, .val (.int i), s7] [])) (T0.setTop (mkF m 19 #[.val (.ref a1), .val (.ref a2), .val (.int lo), .val (.int hi), .val (.long acc), .second, .val (.int i), s7] [(.int hi), (.int i)])) := by
    intro t k
    refine pre0 t ?_
    show Steps p.tables e below (T0.setTop (mkF m 16 #[.val (.ref a1), .val (.ref a2), .val (.int lo), .val (.int hi), .val (.long acc), .second, .val (.int i), s7] [])) _
    refine XS.iload X0.here hx rfl (hb hby d6_16) rfl ?_
    show Steps p.tables e below (T0.setTop (mkF m 18 #[.val (.ref a1), .val (.ref a2), .val (.int lo), .val (.int hi), .val (.long acc), .second, .val (.int i), s7] [(.int i)])) _
    refine XS.iloadN X0.here hx rfl (hb hby d6_18) rfl ?_
    show Steps p.tables e below (T0.setTop (mkF m 19 #[.val (.ref a1), .val (.ref a2), .val (.int lo), .val (.int hi), .val (.long acc), .second, .val (.int i), s7] [(.int hi), (.int i)])) _
    exact k
  have hc19_2 : i < hi := by
    exact hih
  have pre3 : Go p e below (T0.setTop (mkF m 16 #[.val (.ref a1), .val (.ref a2), .val (.int lo), .val (.int hi), .val (.long acc), .second, .val (.int i), s7] [])) (T0.setTop (mkF m 33 #[.val (.ref a1), .val (.ref a2), .val (.int lo), .val (.int hi), .val (.long acc), .second, .val (.int i), .val (.int wi)] [(.int (2048 : Int32)), (.int wi)])) := by
    intro t k
    refine pre1 t ?_
    show Steps p.tables e below (T0.setTop (mkF m 19 #[.val (.ref a1), .val (.ref a2), .val (.int lo), .val (.int hi), .val (.long acc), .second, .val (.int i), s7] [(.int hi), (.int i)])) _
    refine XS.icmpNo X0.here hx rfl (hb hby d6_19) rfl (XT.ii_ge_f hc19_2) ?_
    show Steps p.tables e below (T0.setTop (mkF m 22 #[.val (.ref a1), .val (.ref a2), .val (.int lo), .val (.int hi), .val (.long acc), .second, .val (.int i), s7] [])) _
    refine XS.aloadN X0.here hx rfl (hb hby d6_22) rfl rfl ?_
    show Steps p.tables e below (T0.setTop (mkF m 23 #[.val (.ref a1), .val (.ref a2), .val (.int lo), .val (.int hi), .val (.long acc), .second, .val (.int i), s7] [(.ref a2)])) _
    refine XS.iload X0.here hx rfl (hb hby d6_23) rfl ?_
    show Steps p.tables e below (T0.setTop (mkF m 25 #[.val (.ref a1), .val (.ref a2), .val (.int lo), .val (.int hi), .val (.long acc), .second, .val (.int i), s7] [(.int i), (.ref a2)])) _
    refine X0.caload hx (j := i) (v := (.int wi)) (by rw [e0]; exact Ar.1) (State.isArrayOf_alike hZ.alike Ar.2.1) Ar.2.2 hin hat (g := (mkF m 25 #[.val (.ref a1), .val (.ref a2), .val (.int lo), .val (.int hi), .val (.long acc), .second, .val (.int i), s7] [(.int i), (.ref a2)])) rfl rfl (hb hby d6_25) _ ?_
    show Steps p.tables e below (T0.setTop (mkF m 26 #[.val (.ref a1), .val (.ref a2), .val (.int lo), .val (.int hi), .val (.long acc), .second, .val (.int i), s7] [(.int wi)])) _
    refine XS.istoreS X0.here hx rfl (hb hby d6_26) rfl rfl hs7 ?_
    show Steps p.tables e below (T0.setTop (mkF m 28 #[.val (.ref a1), .val (.ref a2), .val (.int lo), .val (.int hi), .val (.long acc), .second, .val (.int i), .val (.int wi)] [])) _
    refine XS.iload X0.here hx rfl (hb hby d6_28) rfl ?_
    show Steps p.tables e below (T0.setTop (mkF m 30 #[.val (.ref a1), .val (.ref a2), .val (.int lo), .val (.int hi), .val (.long acc), .second, .val (.int i), .val (.int wi)] [(.int wi)])) _
    refine XS.sipush X0.here hx rfl (hb hby d6_30) ?_
    show Steps p.tables e below (T0.setTop (mkF m 33 #[.val (.ref a1), .val (.ref a2), .val (.int lo), .val (.int hi), .val (.long acc), .second, .val (.int i), .val (.int wi)] [(.int (2048 : Int32)), (.int wi)])) _
    exact k
  by_cases hc33_4 : wi < (2048 : Int32)
  · skip
    have pre5 : Go p e below (T0.setTop (mkF m 16 #[.val (.ref a1), .val (.ref a2), .val (.int lo), .val (.int hi), .val (.long acc), .second, .val (.int i), s7] [])) (T0.setTop (mkF m 60 #[.val (.ref a1), .val (.ref a2), .val (.int lo), .val (.int hi), .val (.long acc), .second, .val (.int i), .val (.int wi)] [(.int (128 : Int32)), (.int wi)])) := by
      intro t k
      refine pre3 t ?_
      show Steps p.tables e below (T0.setTop (mkF m 33 #[.val (.ref a1), .val (.ref a2), .val (.int lo), .val (.int hi), .val (.long acc), .second, .val (.int i), .val (.int wi)] [(.int (2048 : Int32)), (.int wi)])) _
      refine XS.icmpYes X0.here hx rfl (pc0 := 33) (pc' := 55) rfl (hb hby d6_33) rfl (XT.ii_lt_t hc33_4) (by decide) (by decide) ?_
      show Steps p.tables e below (T0.setTop (mkF m 55 #[.val (.ref a1), .val (.ref a2), .val (.int lo), .val (.int hi), .val (.long acc), .second, .val (.int i), .val (.int wi)] [])) _
      refine XS.iload X0.here hx rfl (hb hby d6_55) rfl ?_
      show Steps p.tables e below (T0.setTop (mkF m 57 #[.val (.ref a1), .val (.ref a2), .val (.int lo), .val (.int hi), .val (.long acc), .second, .val (.int i), .val (.int wi)] [(.int wi)])) _
      refine XS.sipush X0.here hx rfl (hb hby d6_57) ?_
      show Steps p.tables e below (T0.setTop (mkF m 60 #[.val (.ref a1), .val (.ref a2), .val (.int lo), .val (.int hi), .val (.long acc), .second, .val (.int i), .val (.int wi)] [(.int (128 : Int32)), (.int wi)])) _
      exact k
    by_cases hc60_6 : wi < (128 : Int32)
    · skip
      have pre7 : Go p e below (T0.setTop (mkF m 16 #[.val (.ref a1), .val (.ref a2), .val (.int lo), .val (.int hi), .val (.long acc), .second, .val (.int i), s7] [])) (T0.setTop (mkF m 16 #[.val (.ref a1), .val (.ref a2), .val (.int lo), .val (.int hi), .val (.long acc), .second, .val (.int (i + (1 : Int32))), .val (.int wi)] [])) := by
        intro t k
        refine pre5 t ?_
        show Steps p.tables e below (T0.setTop (mkF m 60 #[.val (.ref a1), .val (.ref a2), .val (.int lo), .val (.int hi), .val (.long acc), .second, .val (.int i), .val (.int wi)] [(.int (128 : Int32)), (.int wi)])) _
        refine XS.icmpYes X0.here hx rfl (pc0 := 60) (pc' := 69) rfl (hb hby d6_60) rfl (XT.ii_lt_t hc60_6) (by decide) (by decide) ?_
        show Steps p.tables e below (T0.setTop (mkF m 69 #[.val (.ref a1), .val (.ref a2), .val (.int lo), .val (.int hi), .val (.long acc), .second, .val (.int i), .val (.int wi)] [])) _
        refine XS.iinc X0.here hx rfl (hb hby d6_69) rfl (l' := #[.val (.ref a1), .val (.ref a2), .val (.int lo), .val (.int hi), .val (.long acc), .second, .val (.int (i + (1 : Int32))), .val (.int wi)]) rfl ?_
        show Steps p.tables e below (T0.setTop (mkF m 72 #[.val (.ref a1), .val (.ref a2), .val (.int lo), .val (.int hi), .val (.long acc), .second, .val (.int (i + (1 : Int32))), .val (.int wi)] [])) _
        refine XS.goto X0.here hx rfl (pc0 := 72) (pc' := 16) rfl (hb hby d6_72) (by decide) (by decide) ?_
        show Steps p.tables e below (T0.setTop (mkF m 16 #[.val (.ref a1), .val (.ref a2), .val (.int lo), .val (.int hi), .val (.long acc), .second, .val (.int (i + (1 : Int32))), .val (.int wi)] [])) _
        exact k
      refine ⟨T0, _, X0, e0, N0, ?_⟩
      rw [show acc + own_g wi = acc from by rw [own_g, if_pos hc33_4, if_pos hc60_6]; exact Int64.add_zero acc]; exact pre7
    · skip
      have pre8 : Go p e below (T0.setTop (mkF m 16 #[.val (.ref a1), .val (.ref a2), .val (.int lo), .val (.int hi), .val (.long acc), .second, .val (.int i), s7] [])) (T0.setTop (mkF m 16 #[.val (.ref a1), .val (.ref a2), .val (.int lo), .val (.int hi), .val (.long (acc + (1 : Int64))), .second, .val (.int (i + (1 : Int32))), .val (.int wi)] [])) := by
        intro t k
        refine pre5 t ?_
        show Steps p.tables e below (T0.setTop (mkF m 60 #[.val (.ref a1), .val (.ref a2), .val (.int lo), .val (.int hi), .val (.long acc), .second, .val (.int i), .val (.int wi)] [(.int (128 : Int32)), (.int wi)])) _
        refine XS.icmpNo X0.here hx rfl (hb hby d6_60) rfl (XT.ii_lt_f hc60_6) ?_
        show Steps p.tables e below (T0.setTop (mkF m 63 #[.val (.ref a1), .val (.ref a2), .val (.int lo), .val (.int hi), .val (.long acc), .second, .val (.int i), .val (.int wi)] [])) _
        refine XT.lload X0.here hx rfl (hb hby d6_63) rfl ?_
        show Steps p.tables e below (T0.setTop (mkF m 65 #[.val (.ref a1), .val (.ref a2), .val (.int lo), .val (.int hi), .val (.long acc), .second, .val (.int i), .val (.int wi)] [(.long acc)])) _
        refine XT.lconstV X0.here hx rfl (1 : Int64) (hb hby d6_65) rfl ?_
        show Steps p.tables e below (T0.setTop (mkF m 66 #[.val (.ref a1), .val (.ref a2), .val (.int lo), .val (.int hi), .val (.long acc), .second, .val (.int i), .val (.int wi)] [(.long (1 : Int64)), (.long acc)])) _
        refine XS.ladd X0.here hx rfl (hb hby d6_66) rfl ?_
        show Steps p.tables e below (T0.setTop (mkF m 67 #[.val (.ref a1), .val (.ref a2), .val (.int lo), .val (.int hi), .val (.long acc), .second, .val (.int i), .val (.int wi)] [(.long (acc + (1 : Int64)))])) _
        refine XT.lstore X0.here hx rfl (hb hby d6_67) rfl (l' := #[.val (.ref a1), .val (.ref a2), .val (.int lo), .val (.int hi), .val (.long (acc + (1 : Int64))), .second, .val (.int i), .val (.int wi)]) rfl ?_
        show Steps p.tables e below (T0.setTop (mkF m 69 #[.val (.ref a1), .val (.ref a2), .val (.int lo), .val (.int hi), .val (.long (acc + (1 : Int64))), .second, .val (.int i), .val (.int wi)] [])) _
        refine XS.iinc X0.here hx rfl (hb hby d6_69) rfl (l' := #[.val (.ref a1), .val (.ref a2), .val (.int lo), .val (.int hi), .val (.long (acc + (1 : Int64))), .second, .val (.int (i + (1 : Int32))), .val (.int wi)]) rfl ?_
        show Steps p.tables e below (T0.setTop (mkF m 72 #[.val (.ref a1), .val (.ref a2), .val (.int lo), .val (.int hi), .val (.long (acc + (1 : Int64))), .second, .val (.int (i + (1 : Int32))), .val (.int wi)] [])) _
        refine XS.goto X0.here hx rfl (pc0 := 72) (pc' := 16) rfl (hb hby d6_72) (by decide) (by decide) ?_
        show Steps p.tables e below (T0.setTop (mkF m 16 #[.val (.ref a1), .val (.ref a2), .val (.int lo), .val (.int hi), .val (.long (acc + (1 : Int64))), .second, .val (.int (i + (1 : Int32))), .val (.int wi)] [])) _
        exact k
      refine ⟨T0, _, X0, e0, N0, ?_⟩
      rw [show acc + own_g wi = (acc + (1 : Int64)) from by rw [own_g, if_pos hc33_4, if_neg hc60_6]]; exact pre8
  · skip
    have pre9 : Go p e below (T0.setTop (mkF m 16 #[.val (.ref a1), .val (.ref a2), .val (.int lo), .val (.int hi), .val (.long acc), .second, .val (.int i), s7] [])) (T0.setTop (mkF m 38 #[.val (.ref a1), .val (.ref a2), .val (.int lo), .val (.int hi), .val (.long acc), .second, .val (.int i), .val (.int wi)] [(.int wi)])) := by
      intro t k
      refine pre3 t ?_
      show Steps p.tables e below (T0.setTop (mkF m 33 #[.val (.ref a1), .val (.ref a2), .val (.int lo), .val (.int hi), .val (.long acc), .second, .val (.int i), .val (.int wi)] [(.int (2048 : Int32)), (.int wi)])) _
      refine XS.icmpNo X0.here hx rfl (hb hby d6_33) rfl (XT.ii_lt_f hc33_4) ?_
      show Steps p.tables e below (T0.setTop (mkF m 36 #[.val (.ref a1), .val (.ref a2), .val (.int lo), .val (.int hi), .val (.long acc), .second, .val (.int i), .val (.int wi)] [])) _
      refine XS.iload X0.here hx rfl (hb hby d6_36) rfl ?_
      show Steps p.tables e below (T0.setTop (mkF m 38 #[.val (.ref a1), .val (.ref a2), .val (.int lo), .val (.int hi), .val (.long acc), .second, .val (.int i), .val (.int wi)] [(.int wi)])) _
      exact k
    obtain ⟨_, _, ⟨T10, L10, k10, n10⟩, -, X10, ⟨Lc10, hQ10, l10, y10, z10⟩, st10⟩ := Jvm.LawKit.callS X0 hx (y := (⟨"java/lang/Character", "isSurrogate", "(C)Z"⟩ : MethodName)) hown (mvT hZ (hw _ (List.mem_of_getElem? (i := 42) rfl))) (mvT hZ (hw _ (List.mem_of_getElem? (i := 43) rfl))) (mvT hZ (hw _ (List.mem_of_getElem? (i := 44) rfl))) (mvT hZ (hw _ (List.mem_of_getElem? (i := 45) rfl))) (by decide) (backOf (W := 0) (rm9 l Z a0 hw [] wi  h0 n0 Z0 ) hZ (hw _ (List.mem_of_getElem? (i := 45) rfl)) (hw _ (List.mem_of_getElem? (i := 44) rfl)) (by decide) (by decide)) (g := (mkF m 38 #[.val (.ref a1), .val (.ref a2), .val (.int lo), .val (.int hi), .val (.long acc), .second, .val (.int i), .val (.int wi)] [(.int wi)])) rfl (by rw [hml]; rfl) (argsL := [(.int wi)]) (rest := []) (lenOf pd_9 rfl) rfl (by show 2 * 0 + _ ≤ _; exact Nat.le_of_eq rfl) (hb hby d6_38) (fun _ _ => ⟨rfl, e0, (by decide : 0 + 0 ≤ _), (by decide : 0 + 0 ≤ _)⟩)
    dsimp only [Pt.U, Pt.locs, Pt.cells, Pt.slots] at X10 l10 y10 z10 st10 hQ10
    subst l10 y10 z10
    obtain ⟨rfl, N10q, hh10⟩ := hQ10
    have N10 := Fr.app N0 N10q
    have pre11 : Go p e below (T0.setTop (mkF m 16 #[.val (.ref a1), .val (.ref a2), .val (.int lo), .val (.int hi), .val (.long acc), .second, .val (.int i), s7] [])) (T10.setTop (mkF m 41 #[.val (.ref a1), .val (.ref a2), .val (.int lo), .val (.int hi), .val (.long acc), .second, .val (.int i), .val (.int wi)] [(.int (fsur wi))])) := fun t k => pre9 t (st10 t k)
    by_cases hc41_12 : (fsur wi) = (0 : Int32)
    · skip
      have pre13 : Go p e below (T0.setTop (mkF m 16 #[.val (.ref a1), .val (.ref a2), .val (.int lo), .val (.int hi), .val (.long acc), .second, .val (.int i), s7] [])) (T10.setTop (mkF m 16 #[.val (.ref a1), .val (.ref a2), .val (.int lo), .val (.int hi), .val (.long (acc + (2 : Int64))), .second, .val (.int (i + (1 : Int32))), .val (.int wi)] [])) := by
        intro t k
        refine pre11 t ?_
        show Steps p.tables e below (T10.setTop (mkF m 41 #[.val (.ref a1), .val (.ref a2), .val (.int lo), .val (.int hi), .val (.long acc), .second, .val (.int i), .val (.int wi)] [(.int (fsur wi))])) _
        refine XS.ifNo X10.here hx rfl (hb hby d6_41) rfl (XT.i0_ne_f hc41_12) ?_
        show Steps p.tables e below (T10.setTop (mkF m 44 #[.val (.ref a1), .val (.ref a2), .val (.int lo), .val (.int hi), .val (.long acc), .second, .val (.int i), .val (.int wi)] [])) _
        refine XT.lload X10.here hx rfl (hb hby d6_44) rfl ?_
        show Steps p.tables e below (T10.setTop (mkF m 46 #[.val (.ref a1), .val (.ref a2), .val (.int lo), .val (.int hi), .val (.long acc), .second, .val (.int i), .val (.int wi)] [(.long acc)])) _
        refine X10.ldc2J hx hown (mvT hZ (hw _ (List.mem_of_getElem? (i := 47) rfl))) (g := (mkF m 46 #[.val (.ref a1), .val (.ref a2), .val (.int lo), .val (.int hi), .val (.long acc), .second, .val (.int i), .val (.int wi)] [(.long acc)])) rfl (hb hby d6_46) ?_
        show Steps p.tables e below (T10.setTop (mkF m 49 #[.val (.ref a1), .val (.ref a2), .val (.int lo), .val (.int hi), .val (.long acc), .second, .val (.int i), .val (.int wi)] [(.long (2 : Int64)), (.long acc)])) _
        refine XS.ladd X10.here hx rfl (hb hby d6_49) rfl ?_
        show Steps p.tables e below (T10.setTop (mkF m 50 #[.val (.ref a1), .val (.ref a2), .val (.int lo), .val (.int hi), .val (.long acc), .second, .val (.int i), .val (.int wi)] [(.long (acc + (2 : Int64)))])) _
        refine XT.lstore X10.here hx rfl (hb hby d6_50) rfl (l' := #[.val (.ref a1), .val (.ref a2), .val (.int lo), .val (.int hi), .val (.long (acc + (2 : Int64))), .second, .val (.int i), .val (.int wi)]) rfl ?_
        show Steps p.tables e below (T10.setTop (mkF m 52 #[.val (.ref a1), .val (.ref a2), .val (.int lo), .val (.int hi), .val (.long (acc + (2 : Int64))), .second, .val (.int i), .val (.int wi)] [])) _
        refine XS.goto X10.here hx rfl (pc0 := 52) (pc' := 69) rfl (hb hby d6_52) (by decide) (by decide) ?_
        show Steps p.tables e below (T10.setTop (mkF m 69 #[.val (.ref a1), .val (.ref a2), .val (.int lo), .val (.int hi), .val (.long (acc + (2 : Int64))), .second, .val (.int i), .val (.int wi)] [])) _
        refine XS.iinc X10.here hx rfl (hb hby d6_69) rfl (l' := #[.val (.ref a1), .val (.ref a2), .val (.int lo), .val (.int hi), .val (.long (acc + (2 : Int64))), .second, .val (.int (i + (1 : Int32))), .val (.int wi)]) rfl ?_
        show Steps p.tables e below (T10.setTop (mkF m 72 #[.val (.ref a1), .val (.ref a2), .val (.int lo), .val (.int hi), .val (.long (acc + (2 : Int64))), .second, .val (.int (i + (1 : Int32))), .val (.int wi)] [])) _
        refine XS.goto X10.here hx rfl (pc0 := 72) (pc' := 16) rfl (hb hby d6_72) (by decide) (by decide) ?_
        show Steps p.tables e below (T10.setTop (mkF m 16 #[.val (.ref a1), .val (.ref a2), .val (.int lo), .val (.int hi), .val (.long (acc + (2 : Int64))), .second, .val (.int (i + (1 : Int32))), .val (.int wi)] [])) _
        exact k
      refine ⟨T10, _, X10, hh10, N10, ?_⟩
      rw [show acc + own_g wi = (acc + (2 : Int64)) from by rw [own_g, if_neg hc33_4, if_pos hc41_12]]; exact pre13
    · skip
      have pre14 : Go p e below (T0.setTop (mkF m 16 #[.val (.ref a1), .val (.ref a2), .val (.int lo), .val (.int hi), .val (.long acc), .second, .val (.int i), s7] [])) (T10.setTop (mkF m 60 #[.val (.ref a1), .val (.ref a2), .val (.int lo), .val (.int hi), .val (.long acc), .second, .val (.int i), .val (.int wi)] [(.int (128 : Int32)), (.int wi)])) := by
        intro t k
        refine pre11 t ?_
        show Steps p.tables e below (T10.setTop (mkF m 41 #[.val (.ref a1), .val (.ref a2), .val (.int lo), .val (.int hi), .val (.long acc), .second, .val (.int i), .val (.int wi)] [(.int (fsur wi))])) _
        refine XS.ifYes X10.here hx rfl (pc0 := 41) (pc' := 55) rfl (hb hby d6_41) rfl (XT.i0_ne_t hc41_12) (by decide) (by decide) ?_
        show Steps p.tables e below (T10.setTop (mkF m 55 #[.val (.ref a1), .val (.ref a2), .val (.int lo), .val (.int hi), .val (.long acc), .second, .val (.int i), .val (.int wi)] [])) _
        refine XS.iload X10.here hx rfl (hb hby d6_55) rfl ?_
        show Steps p.tables e below (T10.setTop (mkF m 57 #[.val (.ref a1), .val (.ref a2), .val (.int lo), .val (.int hi), .val (.long acc), .second, .val (.int i), .val (.int wi)] [(.int wi)])) _
        refine XS.sipush X10.here hx rfl (hb hby d6_57) ?_
        show Steps p.tables e below (T10.setTop (mkF m 60 #[.val (.ref a1), .val (.ref a2), .val (.int lo), .val (.int hi), .val (.long acc), .second, .val (.int i), .val (.int wi)] [(.int (128 : Int32)), (.int wi)])) _
        exact k
      by_cases hc60_15 : wi < (128 : Int32)
      · skip
        have pre16 : Go p e below (T0.setTop (mkF m 16 #[.val (.ref a1), .val (.ref a2), .val (.int lo), .val (.int hi), .val (.long acc), .second, .val (.int i), s7] [])) (T10.setTop (mkF m 16 #[.val (.ref a1), .val (.ref a2), .val (.int lo), .val (.int hi), .val (.long acc), .second, .val (.int (i + (1 : Int32))), .val (.int wi)] [])) := by
          intro t k
          refine pre14 t ?_
          show Steps p.tables e below (T10.setTop (mkF m 60 #[.val (.ref a1), .val (.ref a2), .val (.int lo), .val (.int hi), .val (.long acc), .second, .val (.int i), .val (.int wi)] [(.int (128 : Int32)), (.int wi)])) _
          refine XS.icmpYes X10.here hx rfl (pc0 := 60) (pc' := 69) rfl (hb hby d6_60) rfl (XT.ii_lt_t hc60_15) (by decide) (by decide) ?_
          show Steps p.tables e below (T10.setTop (mkF m 69 #[.val (.ref a1), .val (.ref a2), .val (.int lo), .val (.int hi), .val (.long acc), .second, .val (.int i), .val (.int wi)] [])) _
          refine XS.iinc X10.here hx rfl (hb hby d6_69) rfl (l' := #[.val (.ref a1), .val (.ref a2), .val (.int lo), .val (.int hi), .val (.long acc), .second, .val (.int (i + (1 : Int32))), .val (.int wi)]) rfl ?_
          show Steps p.tables e below (T10.setTop (mkF m 72 #[.val (.ref a1), .val (.ref a2), .val (.int lo), .val (.int hi), .val (.long acc), .second, .val (.int (i + (1 : Int32))), .val (.int wi)] [])) _
          refine XS.goto X10.here hx rfl (pc0 := 72) (pc' := 16) rfl (hb hby d6_72) (by decide) (by decide) ?_
          show Steps p.tables e below (T10.setTop (mkF m 16 #[.val (.ref a1), .val (.ref a2), .val (.int lo), .val (.int hi), .val (.long acc), .second, .val (.int (i + (1 : Int32))), .val (.int wi)] [])) _
          exact k
        refine ⟨T10, _, X10, hh10, N10, ?_⟩
        rw [show acc + own_g wi = acc from by rw [own_g, if_neg hc33_4, if_neg hc41_12, if_pos hc60_15]; exact Int64.add_zero acc]; exact pre16
      · skip
        have pre17 : Go p e below (T0.setTop (mkF m 16 #[.val (.ref a1), .val (.ref a2), .val (.int lo), .val (.int hi), .val (.long acc), .second, .val (.int i), s7] [])) (T10.setTop (mkF m 16 #[.val (.ref a1), .val (.ref a2), .val (.int lo), .val (.int hi), .val (.long (acc + (1 : Int64))), .second, .val (.int (i + (1 : Int32))), .val (.int wi)] [])) := by
          intro t k
          refine pre14 t ?_
          show Steps p.tables e below (T10.setTop (mkF m 60 #[.val (.ref a1), .val (.ref a2), .val (.int lo), .val (.int hi), .val (.long acc), .second, .val (.int i), .val (.int wi)] [(.int (128 : Int32)), (.int wi)])) _
          refine XS.icmpNo X10.here hx rfl (hb hby d6_60) rfl (XT.ii_lt_f hc60_15) ?_
          show Steps p.tables e below (T10.setTop (mkF m 63 #[.val (.ref a1), .val (.ref a2), .val (.int lo), .val (.int hi), .val (.long acc), .second, .val (.int i), .val (.int wi)] [])) _
          refine XT.lload X10.here hx rfl (hb hby d6_63) rfl ?_
          show Steps p.tables e below (T10.setTop (mkF m 65 #[.val (.ref a1), .val (.ref a2), .val (.int lo), .val (.int hi), .val (.long acc), .second, .val (.int i), .val (.int wi)] [(.long acc)])) _
          refine XT.lconstV X10.here hx rfl (1 : Int64) (hb hby d6_65) rfl ?_
          show Steps p.tables e below (T10.setTop (mkF m 66 #[.val (.ref a1), .val (.ref a2), .val (.int lo), .val (.int hi), .val (.long acc), .second, .val (.int i), .val (.int wi)] [(.long (1 : Int64)), (.long acc)])) _
          refine XS.ladd X10.here hx rfl (hb hby d6_66) rfl ?_
          show Steps p.tables e below (T10.setTop (mkF m 67 #[.val (.ref a1), .val (.ref a2), .val (.int lo), .val (.int hi), .val (.long acc), .second, .val (.int i), .val (.int wi)] [(.long (acc + (1 : Int64)))])) _
          refine XT.lstore X10.here hx rfl (hb hby d6_67) rfl (l' := #[.val (.ref a1), .val (.ref a2), .val (.int lo), .val (.int hi), .val (.long (acc + (1 : Int64))), .second, .val (.int i), .val (.int wi)]) rfl ?_
          show Steps p.tables e below (T10.setTop (mkF m 69 #[.val (.ref a1), .val (.ref a2), .val (.int lo), .val (.int hi), .val (.long (acc + (1 : Int64))), .second, .val (.int i), .val (.int wi)] [])) _
          refine XS.iinc X10.here hx rfl (hb hby d6_69) rfl (l' := #[.val (.ref a1), .val (.ref a2), .val (.int lo), .val (.int hi), .val (.long (acc + (1 : Int64))), .second, .val (.int (i + (1 : Int32))), .val (.int wi)]) rfl ?_
          show Steps p.tables e below (T10.setTop (mkF m 72 #[.val (.ref a1), .val (.ref a2), .val (.int lo), .val (.int hi), .val (.long (acc + (1 : Int64))), .second, .val (.int (i + (1 : Int32))), .val (.int wi)] [])) _
          refine XS.goto X10.here hx rfl (pc0 := 72) (pc' := 16) rfl (hb hby d6_72) (by decide) (by decide) ?_
          show Steps p.tables e below (T10.setTop (mkF m 16 #[.val (.ref a1), .val (.ref a2), .val (.int lo), .val (.int hi), .val (.long (acc + (1 : Int64))), .second, .val (.int (i + (1 : Int32))), .val (.int wi)] [])) _
          exact k
        refine ⟨T10, _, X10, hh10, N10, ?_⟩
        rw [show acc + own_g wi = (acc + (1 : Int64)) from by rw [own_g, if_neg hc33_4, if_neg hc41_12, if_neg hc60_15]]; exact pre17
set_option maxRecDepth 65536 in
set_option maxHeartbeats 40000000 in
theorem tx16 {p : Program} {l : Launch} {e : Env} {s : State} {m : MethodId} {args : Array Value} {below : List Frame} {meth : Method} {c : Code} {T0 : State} {locs : List Loc} {Z : State} {a0 : Array Value} {h0 : Heap} {n0 : Nat}  {a1 a2 : Addr} {lo hi : Int32} {acc : Int64} {i : Int32} {s7 : Slot}
    (X0 : Stand p l e ({ frames := 1, cells := 0, slots := 0, locals := 12 } : Room) s m args below meth c T0 locs 0 0) (hx : p.tables.exec = Jvm.exec) (hZ : Z.Warmed39 s.vm) (hw : ∀ d ∈ tables_1, d.before a0 Z = true) (hby : c.code = prog_29_method_2_code) (hml : c.maxLocals = 8) (hown : s.vm.findClass "com/example/xylograph/xylograph/MaxSize" = some m.cls) (e0 : T0.heap = h0) (N0 : Fr n0 locs) (Z0 : n0 ≤ h0.size) (hih : ¬ (i < hi)) :
    Go p e below (T0.setTop (mkF m 16 #[.val (.ref a1), .val (.ref a2), .val (.int lo), .val (.int hi), .val (.long acc), .second, .val (.int i), s7] [])) (T0.setTop (mkF m 75 #[.val (.ref a1), .val (.ref a2), .val (.int lo), .val (.int hi), .val (.long acc), .second, .val (.int i), s7] [])) := by
  have pre0 : Go p e below (T0.setTop (mkF m 16 #[.val (.ref a1), .val (.ref a2), .val (.int lo), .val (.int hi), .val (.long acc), .second, .val (.int i), s7] [])) (T0.setTop (mkF m 16 #[.val (.ref a1), .val (.ref a2), .val (.int lo), .val (.int hi), .val (.long acc), .second, .val (.int i), s7] [])) := fun t k => k
  have pre1 : Go p e below (T0.setTop (mkF m 16 #[.val (.ref a1), .val (.ref a2), .val (.int lo), .val (.int hi), .val (.long acc), .second, .val (.int i), s7] [])) (T0.setTop (mkF m 19 #[.val (.ref a1), .val (.ref a2), .val (.int lo), .val (.int hi), .val (.long acc), .second, .val (.int i), s7] [(.int hi), (.int i)])) := by
    intro t k
    refine pre0 t ?_
    show Steps p.tables e below (T0.setTop (mkF m 16 #[.val (.ref a1), .val (.ref a2), .val (.int lo), .val (.int hi), .val (.long acc), .second, .val (.int i), s7] [])) _
    refine XS.iload X0.here hx rfl (hb hby d6_16) rfl ?_
    show Steps p.tables e below (T0.setTop (mkF m 18 #[.val (.ref a1), .val (.ref a2), .val (.int lo), .val (.int hi), .val (.long acc), .second, .val (.int i), s7] [(.int i)])) _
    refine XS.iloadN X0.here hx rfl (hb hby d6_18) rfl ?_
    show Steps p.tables e below (T0.setTop (mkF m 19 #[.val (.ref a1), .val (.ref a2), .val (.int lo), .val (.int hi), .val (.long acc), .second, .val (.int i), s7] [(.int hi), (.int i)])) _
    exact k
  have hc19_2 : ¬ (i < hi) := by
    exact hih
  have pre3 : Go p e below (T0.setTop (mkF m 16 #[.val (.ref a1), .val (.ref a2), .val (.int lo), .val (.int hi), .val (.long acc), .second, .val (.int i), s7] [])) (T0.setTop (mkF m 75 #[.val (.ref a1), .val (.ref a2), .val (.int lo), .val (.int hi), .val (.long acc), .second, .val (.int i), s7] [])) := by
    intro t k
    refine pre1 t ?_
    show Steps p.tables e below (T0.setTop (mkF m 19 #[.val (.ref a1), .val (.ref a2), .val (.int lo), .val (.int hi), .val (.long acc), .second, .val (.int i), s7] [(.int hi), (.int i)])) _
    refine XS.icmpYes X0.here hx rfl (pc0 := 19) (pc' := 75) rfl (hb hby d6_19) rfl (XT.ii_ge_t hc19_2) (by decide) (by decide) ?_
    show Steps p.tables e below (T0.setTop (mkF m 75 #[.val (.ref a1), .val (.ref a2), .val (.int lo), .val (.int hi), .val (.long acc), .second, .val (.int i), s7] [])) _
    exact k
  exact pre3
set_option maxHeartbeats 40000000 in
theorem loop16 {p : Program} {l : Launch} {e : Env} {s : State} {m : MethodId} {args : Array Value} {below : List Frame} {meth : Method} {c : Code} {Z : State} {a0 : Array Value} {h0 : Heap} {n0 : Nat} {a1 a2 : Addr} {lo hi : Int32} {cl : Cell} {tl : List Int32}
    (hx : p.tables.exec = Jvm.exec) (hZ : Z.Warmed39 s.vm) (hw : ∀ d ∈ tables_1, d.before a0 Z = true) (hby : c.code = prog_29_method_2_code) (hml : c.maxLocals = 8) (hown : s.vm.findClass "com/example/xylograph/xylograph/MaxSize" = some m.cls) (Z0 : n0 ≤ h0.size) (Ar : Arr Z h0 a2 cl .char) (SS : cl.slots.size = (5 : Int32).toNatClampNeg) (HH : Has cl (tl.map Value.int) (.int (0 : Int32))) (h5 : hi.toInt ≤ 5) :
    ∀ (k : Nat) (T0 : State) (locs : List Loc) (acc : Int64) (i : Int32) (s7 : Slot), One s7 → Stand p l e ({ frames := 1, cells := 0, slots := 0, locals := 12 } : Room) s m args below meth c T0 locs 0 0 → T0.heap = h0 → Fr n0 locs → 0 ≤ i.toInt → hi.toInt - i.toInt = (k : Int) →
      ∃ (T' : State) (locs' : List Loc) (s7' : Slot), Stand p l e ({ frames := 1, cells := 0, slots := 0, locals := 12 } : Room) s m args below meth c T' locs' 0 0 ∧ T'.heap = h0 ∧ Fr n0 locs' ∧ Go p e below (T0.setTop (mkF m 16 #[.val (.ref a1), .val (.ref a2), .val (.int lo), .val (.int hi), .val (.long acc), .second, .val (.int i), s7] [])) (T'.setTop (mkF m 75 #[.val (.ref a1), .val (.ref a2), .val (.int lo), .val (.int hi), .val (.long (acc + own_sum tl i.toInt.toNat k)), .second, .val (.int hi), s7'] [])) := by
  intro k
  induction k with
  | zero =>
    intro T0 locs acc i s7 hs7 X0 e0 N0 hi0 hk
    have hii : i = hi := Int32.toInt_inj.mp (by omega)
    subst hii
    have g := tx16 (acc := acc) (a1 := a1) (a2 := a2) (lo := lo) (s7 := s7) (i := i) (hi := i) X0 hx hZ hw hby hml hown e0 N0 Z0 (by rw [Int32.lt_iff_toInt_lt]; omega)
    refine ⟨T0, locs, s7, X0, e0, N0, ?_⟩
    rw [show acc + own_sum tl i.toInt.toNat 0 = acc from Int64.add_zero acc]; exact g
  | succ k ih =>
    intro T0 locs acc i s7 hs7 X0 e0 N0 hi0 hk
    have c5 : (5 : Int32).toInt = 5 := rfl
    have c0 : (0 : Int32).toInt = 0 := rfl
    have c1 : (1 : Int32).toInt = 1 := rfl
    have hih : i < hi := by rw [Int32.lt_iff_toInt_lt]; omega
    have hin : ¬ (i < 0 ∨ cl.slots.size ≤ i.toNatClampNeg) := inb_of SS ⟨by rw [Int32.lt_iff_toInt_lt]; omega, by rw [Int32.lt_iff_toInt_lt]; omega⟩
    have hat : cl.slots[i.toNatClampNeg]? = some (.int (tl.getD i.toInt.toNat 0)) := HH.at hin (own_getD _ _)
    obtain ⟨T1, locs1, X1, e1, N1, g1⟩ := tn16 (acc := acc) (a1 := a1) (lo := lo) X0 hx hZ hw hby hml hown e0 N0 Z0 hs7 hih Ar hin hat
    have ei : (i + (1 : Int32)).toInt = i.toInt + 1 := by rw [Jvm.Kit.i32_add (by omega) (by omega), c1]
    obtain ⟨T2, locs2, s2, X2, e2, N2, g2⟩ := ih T1 locs1 (acc + own_g (tl.getD i.toInt.toNat 0)) (i + (1 : Int32)) _ (One.val (w := .int (tl.getD i.toInt.toNat 0)) rfl) X1 e1 N1 (by omega) (by omega)
    refine ⟨T2, locs2, s2, X2, e2, N2, ?_⟩
    rw [show acc + own_sum tl i.toInt.toNat (k + 1) = acc + own_g (tl.getD i.toInt.toNat 0) + own_sum tl (i + (1 : Int32)).toInt.toNat k from by
      rw [ei, show (i.toInt + 1).toNat = i.toInt.toNat + 1 from by omega, own_sum, Int64.add_assoc]]
    exact fun t k => g1 t (g2 t k)
def own_size (ib lo hi : Int32) (tl : List Int32) : Int64 := if ib = (0 : Int32) then (hi - lo).toInt64 else (hi - lo).toInt64 + own_sum tl lo.toInt.toNat (hi.toInt - lo.toInt).toNat
theorem ef_6 (m : MethodId) (a1 : Addr) (a2 : Addr) (lo : Int32) (hi : Int32) : entryFrame m #[(.ref a1), (.ref a2), (.int lo), (.int hi)] 8 = mkF m 0 #[.val (.ref a1), .val (.ref a2), .val (.int lo), .val (.int hi), .unset, .unset, .unset, .unset] [] := by first | (simp [entryFrame, mkF, argsToLocals, Value.category]; done) | rfl
theorem d6_0 : decode prog_29_method_2_code 0 = .ok (.iload_n 3, 1) := by decide +kernel
theorem d6_1 : decode prog_29_method_2_code 1 = .ok (.iload_n 2, 1) := by decide +kernel
theorem d6_2 : decode prog_29_method_2_code 2 = .ok (.isub, 1) := by decide +kernel
theorem d6_3 : decode prog_29_method_2_code 3 = .ok (.i2l, 1) := by decide +kernel
theorem d6_4 : decode prog_29_method_2_code 4 = .ok (.lstore 4, 2) := by decide +kernel
theorem d6_6 : decode prog_29_method_2_code 6 = .ok (.aload_n 0, 1) := by decide +kernel
theorem d6_7 : decode prog_29_method_2_code 7 = .ok (.getfield 13, 3) := by decide +kernel
theorem d6_10 : decode prog_29_method_2_code 10 = .ok (.ifCond .eq 65, 3) := by decide +kernel
theorem d6_75 : decode prog_29_method_2_code 75 = .ok (.lload 4, 2) := by decide +kernel
theorem d6_77 : decode prog_29_method_2_code 77 = .ok (.lreturn, 1) := by decide +kernel
theorem d6_13 : decode prog_29_method_2_code 13 = .ok (.iload_n 2, 1) := by decide +kernel
theorem d6_14 : decode prog_29_method_2_code 14 = .ok (.istore 6, 2) := by decide +kernel
def Q6 (Z : State) (a1 : Addr) (a2 : Addr) (lo : Int32) (hi : Int32) (ib : Int32) (kk : ClassId) (tl : List Int32) (h0 : Heap) (n0 : Nat) (v : Option Value) (h : Heap) (L : List Loc) : Prop := v = some (.long (own_size ib lo hi tl)) ∧ Fr n0 L ∧ h = h0
set_option maxRecDepth 65536 in
set_option maxHeartbeats 40000000 in
theorem rm6 (l : Launch) (Z : State) (a0 : Array Value) (hw : ∀ d ∈ tables_1, d.before a0 Z = true) (ws : List Jvm.Cond) (a1 : Addr) (a2 : Addr) (lo : Int32) (hi : Int32) (ib : Int32) (kk : ClassId) (tl : List Int32) (h0 : Heap) (n0 : Nat) (Z0 : n0 ≤ h0.size) (F1 : Fld Z h0 a1 "com/example/xylograph/xylograph/MaxSize" "inBytes" "Z" (.int ib)) (V2 : Arv Z h0 a2 kk .char (5 : Int32) (tl.map Value.int) (.int (0 : Int32))) (h0l : 0 ≤ lo.toInt) (hlh : lo.toInt ≤ hi.toInt) (h5 : hi.toInt ≤ 5) :
    MetFree l (⟨"com/example/xylograph/xylograph/MaxSize", "sizeOf", "([CII)J"⟩ : MethodName) (head1 (Jvm.Cond.code (⟨"com/example/xylograph/xylograph/MaxSize", "sizeOf", "([CII)J"⟩ : MethodName) prog_29_method_2_code 8 (some .long) :: ws) ({ frames := 1, cells := 0, slots := 0, locals := 12 } : Room)) (fun a U => a = #[(.ref a1), (.ref a2), (.int lo), (.int hi)] ∧ Z.Warmed39 U.vm ∧ U.heap = h0) (fun _ _ _ _ _ => True) (fun _ U o U' => ∃ v L, o = .returned v ∧ Q6 Z a1 a2 lo hi ib kk tl h0 n0 v U'.heap L ∧ FrameEnd U o U' L ({ frames := 1, cells := 0, slots := 0, locals := 12 } : Room).cells ({ frames := 1, cells := 0, slots := 0, locals := 12 } : Room).slots) := by
  refine MetFree.of_bodySF (plainFor_of_name pn_com_example_xylograph_xylograph_MaxSize) hisR ?_
  intro p e s m args below meth c s₁ Bd hml0 hP hK
  obtain ⟨rfl, hZ, hh⟩ := hP
  have hx := Bd.exec
  have hby := Bd.bytes
  have hml : c.maxLocals = 8 := hml0
  have hown : s.vm.findClass "com/example/xylograph/xylograph/MaxSize" = some m.cls := findClass_of_methodNamed Bd.named
  have hnm := (name_of_methodNamed Bd.named Bd.method).1
  have hlk : meth.locks = false := BodyLoose.notSynchronized Bd
  have X0 : Stand p l e ({ frames := 1, cells := 0, slots := 0, locals := 12 } : Room) s m #[(.ref a1), (.ref a2), (.int lo), (.int hi)] below meth c s₁ [] 0 0 := Stand.of_body Bd
  have e0 : s₁.heap = h0 := by rw [← hh, Bd.state]; rfl
  have N0 := Fr.nil n0
  have pre0 : Go p e below (s₁.setTop (entryFrame m #[(.ref a1), (.ref a2), (.int lo), (.int hi)] 8)) (s₁.setTop (mkF m 0 #[.val (.ref a1), .val (.ref a2), .val (.int lo), .val (.int hi), .unset, .unset, .unset, .unset] [])) := fun t k => castTop (ef_6 m a1 a2 lo hi) k
  have pre1 : Go p e below (s₁.setTop (entryFrame m #[(.ref a1), (.ref a2), (.int lo), (.int hi)] 8)) (s₁.setTop (mkF m 7 #[.val (.ref a1), .val (.ref a2), .val (.int lo), .val (.int hi), .val (.long (((hi - lo)).toInt64)), .second, .unset, .unset] [(.ref a1)])) := by
    intro t k
    refine pre0 t ?_
    show Steps p.tables e below (s₁.setTop (mkF m 0 #[.val (.ref a1), .val (.ref a2), .val (.int lo), .val (.int hi), .unset, .unset, .unset, .unset] [])) _
    refine XS.iloadN X0.here hx rfl (hb hby d6_0) rfl ?_
    show Steps p.tables e below (s₁.setTop (mkF m 1 #[.val (.ref a1), .val (.ref a2), .val (.int lo), .val (.int hi), .unset, .unset, .unset, .unset] [(.int hi)])) _
    refine XS.iloadN X0.here hx rfl (hb hby d6_1) rfl ?_
    show Steps p.tables e below (s₁.setTop (mkF m 2 #[.val (.ref a1), .val (.ref a2), .val (.int lo), .val (.int hi), .unset, .unset, .unset, .unset] [(.int lo), (.int hi)])) _
    refine XS.isub X0.here hx rfl (hb hby d6_2) rfl ?_
    show Steps p.tables e below (s₁.setTop (mkF m 3 #[.val (.ref a1), .val (.ref a2), .val (.int lo), .val (.int hi), .unset, .unset, .unset, .unset] [(.int (hi - lo))])) _
    refine XS.i2l X0.here hx rfl (hb hby d6_3) rfl ?_
    show Steps p.tables e below (s₁.setTop (mkF m 4 #[.val (.ref a1), .val (.ref a2), .val (.int lo), .val (.int hi), .unset, .unset, .unset, .unset] [(.long (((hi - lo)).toInt64))])) _
    refine XT.lstore X0.here hx rfl (hb hby d6_4) rfl (l' := #[.val (.ref a1), .val (.ref a2), .val (.int lo), .val (.int hi), .val (.long (((hi - lo)).toInt64)), .second, .unset, .unset]) rfl ?_
    show Steps p.tables e below (s₁.setTop (mkF m 6 #[.val (.ref a1), .val (.ref a2), .val (.int lo), .val (.int hi), .val (.long (((hi - lo)).toInt64)), .second, .unset, .unset] [])) _
    refine XS.aloadN X0.here hx rfl (hb hby d6_6) rfl rfl ?_
    show Steps p.tables e below (s₁.setTop (mkF m 7 #[.val (.ref a1), .val (.ref a2), .val (.int lo), .val (.int hi), .val (.long (((hi - lo)).toInt64)), .second, .unset, .unset] [(.ref a1)])) _
    exact k
  obtain ⟨T2, X2, e2, st2⟩ := getF X0 hx hZ hown (host := "") (Or.inl (hw _ (List.mem_of_getElem? (i := 26) rfl))) Via.refl e0 F1 (g := (mkF m 7 #[.val (.ref a1), .val (.ref a2), .val (.int lo), .val (.int hi), .val (.long (((hi - lo)).toInt64)), .second, .unset, .unset] [(.ref a1)])) rfl rfl (hb hby d6_7)
  have pre3 : Go p e below (s₁.setTop (entryFrame m #[(.ref a1), (.ref a2), (.int lo), (.int hi)] 8)) (T2.setTop (mkF m 10 #[.val (.ref a1), .val (.ref a2), .val (.int lo), .val (.int hi), .val (.long (((hi - lo)).toInt64)), .second, .unset, .unset] [(.int ib)])) := fun t k => pre1 t (st2 t k)
  by_cases hc10_4 : ib = (0 : Int32)
  · skip
    have pre5 : Go p e below (s₁.setTop (entryFrame m #[(.ref a1), (.ref a2), (.int lo), (.int hi)] 8)) (T2.setTop (mkF m 77 #[.val (.ref a1), .val (.ref a2), .val (.int lo), .val (.int hi), .val (.long (((hi - lo)).toInt64)), .second, .unset, .unset] [(.long (((hi - lo)).toInt64))])) := by
      intro t k
      refine pre3 t ?_
      show Steps p.tables e below (T2.setTop (mkF m 10 #[.val (.ref a1), .val (.ref a2), .val (.int lo), .val (.int hi), .val (.long (((hi - lo)).toInt64)), .second, .unset, .unset] [(.int ib)])) _
      refine XS.ifYes X2.here hx rfl (pc0 := 10) (pc' := 75) rfl (hb hby d6_10) rfl (XT.i0_eq_t hc10_4) (by decide) (by decide) ?_
      show Steps p.tables e below (T2.setTop (mkF m 75 #[.val (.ref a1), .val (.ref a2), .val (.int lo), .val (.int hi), .val (.long (((hi - lo)).toInt64)), .second, .unset, .unset] [])) _
      refine XT.lload X2.here hx rfl (hb hby d6_75) rfl ?_
      show Steps p.tables e below (T2.setTop (mkF m 77 #[.val (.ref a1), .val (.ref a2), .val (.int lo), .val (.int hi), .val (.long (((hi - lo)).toInt64)), .second, .unset, .unset] [(.long (((hi - lo)).toInt64))])) _
      exact k
    obtain ⟨fs, hr, hrun, hended, hW, hsame⟩ := X2.leave (hlocks := hlk) (v := some (.long (((hi - lo)).toInt64))) (fun h => by rw [Bd.returns] at h; cases h)
    refine ⟨_, _, pre5 _ (retJ X2 hx Bd.returns (hb hby d6_77) hr), hrun, hended, _, _, rfl, ?_, ⟨_, rfl⟩, hW, hsame.mono (by decide) (by decide)⟩
    show Q6 Z a1 a2 lo hi ib kk tl h0 n0 _ T2.heap _
    rw [e2]
    exact ⟨congrArg some (congrArg Value.long (show (((hi - lo)).toInt64) = own_size ib lo hi tl from by rw [own_size, if_pos hc10_4])), N0, rfl⟩
  · skip
    have pre6 : Go p e below (s₁.setTop (entryFrame m #[(.ref a1), (.ref a2), (.int lo), (.int hi)] 8)) (T2.setTop (mkF m 16 #[.val (.ref a1), .val (.ref a2), .val (.int lo), .val (.int hi), .val (.long (((hi - lo)).toInt64)), .second, .val (.int lo), .unset] [])) := by
      intro t k
      refine pre3 t ?_
      show Steps p.tables e below (T2.setTop (mkF m 10 #[.val (.ref a1), .val (.ref a2), .val (.int lo), .val (.int hi), .val (.long (((hi - lo)).toInt64)), .second, .unset, .unset] [(.int ib)])) _
      refine XS.ifNo X2.here hx rfl (hb hby d6_10) rfl (XT.i0_eq_f hc10_4) ?_
      show Steps p.tables e below (T2.setTop (mkF m 13 #[.val (.ref a1), .val (.ref a2), .val (.int lo), .val (.int hi), .val (.long (((hi - lo)).toInt64)), .second, .unset, .unset] [])) _
      refine XS.iloadN X2.here hx rfl (hb hby d6_13) rfl ?_
      show Steps p.tables e below (T2.setTop (mkF m 14 #[.val (.ref a1), .val (.ref a2), .val (.int lo), .val (.int hi), .val (.long (((hi - lo)).toInt64)), .second, .unset, .unset] [(.int lo)])) _
      refine XS.istore X2.here hx rfl (hb hby d6_14) rfl (l' := #[.val (.ref a1), .val (.ref a2), .val (.int lo), .val (.int hi), .val (.long (((hi - lo)).toInt64)), .second, .val (.int lo), .unset]) rfl ?_
      show Steps p.tables e below (T2.setTop (mkF m 16 #[.val (.ref a1), .val (.ref a2), .val (.int lo), .val (.int hi), .val (.long (((hi - lo)).toInt64)), .second, .val (.int lo), .unset] [])) _
      exact k
    obtain ⟨cl, Ar, -, SS, NN, HH, -⟩ := V2
    obtain ⟨TL, lcL, s7, XL, eL, NL, gL⟩ := loop16 (a1 := a1) (lo := lo) hx hZ hw hby hml hown Z0 Ar SS HH h5 (hi.toInt - lo.toInt).toNat T2 _ (((hi - lo)).toInt64) lo .unset One.u X2 e2 N0 h0l (by omega)
    have pre7 : Go p e below (s₁.setTop (entryFrame m #[(.ref a1), (.ref a2), (.int lo), (.int hi)] 8)) (TL.setTop (mkF m 75 #[.val (.ref a1), .val (.ref a2), .val (.int lo), .val (.int hi), .val (.long ((((hi - lo)).toInt64) + own_sum tl lo.toInt.toNat (hi.toInt - lo.toInt).toNat)), .second, .val (.int hi), s7] [])) := fun t k => pre6 t (gL t k)
    have pre8 : Go p e below (s₁.setTop (entryFrame m #[(.ref a1), (.ref a2), (.int lo), (.int hi)] 8)) (TL.setTop (mkF m 77 #[.val (.ref a1), .val (.ref a2), .val (.int lo), .val (.int hi), .val (.long ((((hi - lo)).toInt64) + own_sum tl lo.toInt.toNat (hi.toInt - lo.toInt).toNat)), .second, .val (.int hi), s7] [(.long ((((hi - lo)).toInt64) + own_sum tl lo.toInt.toNat (hi.toInt - lo.toInt).toNat))])) := by
      intro t k
      refine pre7 t ?_
      show Steps p.tables e below (TL.setTop (mkF m 75 #[.val (.ref a1), .val (.ref a2), .val (.int lo), .val (.int hi), .val (.long ((((hi - lo)).toInt64) + own_sum tl lo.toInt.toNat (hi.toInt - lo.toInt).toNat)), .second, .val (.int hi), s7] [])) _
      refine XT.lload XL.here hx rfl (hb hby d6_75) rfl ?_
      show Steps p.tables e below (TL.setTop (mkF m 77 #[.val (.ref a1), .val (.ref a2), .val (.int lo), .val (.int hi), .val (.long ((((hi - lo)).toInt64) + own_sum tl lo.toInt.toNat (hi.toInt - lo.toInt).toNat)), .second, .val (.int hi), s7] [(.long ((((hi - lo)).toInt64) + own_sum tl lo.toInt.toNat (hi.toInt - lo.toInt).toNat))])) _
      exact k
    obtain ⟨fs, hr, hrun, hended, hW, hsame⟩ := XL.leave (hlocks := hlk) (v := some (.long ((((hi - lo)).toInt64) + own_sum tl lo.toInt.toNat (hi.toInt - lo.toInt).toNat))) (fun h => by rw [Bd.returns] at h; cases h)
    refine ⟨_, _, pre8 _ (retJ XL hx Bd.returns (hb hby d6_77) hr), hrun, hended, _, _, rfl, ?_, ⟨_, rfl⟩, hW, hsame.mono (by decide) (by decide)⟩
    show Q6 Z a1 a2 lo hi ib kk tl h0 n0 _ TL.heap _
    rw [eL]
    exact ⟨congrArg some (congrArg Value.long (show ((((hi - lo)).toInt64) + own_sum tl lo.toInt.toNat (hi.toInt - lo.toInt).toNat) = own_size ib lo hi tl from by rw [own_size, if_neg hc10_4])), NL, rfl⟩
theorem own_w (c : Int32) : fw c = (1 : Int64) + own_g c := by
  have c1 : (128 : Int32).toInt = 128 := rfl
  have c2 : (2048 : Int32).toInt = 2048 := rfl
  have c3 : (55296 : Int32).toInt = 55296 := rfl
  have c4 : (57343 : Int32).toInt = 57343 := rfl
  have c5 : (57344 : Int32).toInt = 57344 := rfl
  have z1 : ¬ (1 : Int32) = 0 := by decide
  unfold fw own_g fsur
  simp only [Int32.lt_iff_toInt_lt, c1, c2, c3, c4, c5]
  repeat' split
  all_goals first | rfl | omega | simp_all
theorem own_six {x n : Int32} (h : n = (x &&& (2147483647 : Int32)) % (6 : Int32)) : n = 0 ∨ n = 1 ∨ n = 2 ∨ n = 3 ∨ n = 4 ∨ n = 5 := by
  have q := own_rem x 6 (by decide); rw [← h] at q
  have c6 : (6 : Int32).toInt = 6 := rfl
  have h : n.toInt = (0 : Nat) ∨ n.toInt = (1 : Nat) ∨ n.toInt = (2 : Nat) ∨ n.toInt = (3 : Nat) ∨ n.toInt = (4 : Nat) ∨ n.toInt = (5 : Nat) := by omega
  rcases h with h | h | h | h | h | h
  · exact Or.inl (own_ofNat h)
  · exact Or.inr (Or.inl (own_ofNat h))
  · exact Or.inr (Or.inr (Or.inl (own_ofNat h)))
  · exact Or.inr (Or.inr (Or.inr (Or.inl (own_ofNat h))))
  · exact Or.inr (Or.inr (Or.inr (Or.inr (Or.inl (own_ofNat h)))))
  · exact Or.inr (Or.inr (Or.inr (Or.inr (Or.inr (own_ofNat h)))))
theorem own_bounds {xx yy : Int32} (hx : xx = 0 ∨ xx = 1 ∨ xx = 2 ∨ xx = 3 ∨ xx = 4 ∨ xx = 5) (hy : yy = 0 ∨ yy = 1 ∨ yy = 2 ∨ yy = 3 ∨ yy = 4 ∨ yy = 5) : 0 ≤ (fmin xx yy).toInt ∧ (fmin xx yy).toInt ≤ (fmax xx yy).toInt ∧ (fmax xx yy).toInt ≤ 5 := by
  rcases hx with rfl | rfl | rfl | rfl | rfl | rfl <;> rcases hy with rfl | rfl | rfl | rfl | rfl | rfl <;> decide
theorem own_fin (w0 w1 w2 w3 w4 : Int32) {xx yy lo hi : Int32} (hx : xx = 0 ∨ xx = 1 ∨ xx = 2 ∨ xx = 3 ∨ xx = 4 ∨ xx = 5) (hy : yy = 0 ∨ yy = 1 ∨ yy = 2 ∨ yy = 3 ∨ yy = 4 ∨ yy = 5) (hlo : lo = fmin xx yy) (hhi : hi = fmax xx yy) :
    (hi - lo).toInt64 + own_sum [w0, w1, w2, w3, w4] lo.toInt.toNat (hi.toInt - lo.toInt).toNat = ((((fpart (0 : Int32) w0 lo hi + fpart (1 : Int32) w1 lo hi) + fpart (2 : Int32) w2 lo hi) + fpart (3 : Int32) w3 lo hi) + fpart (4 : Int32) w4 lo hi) := by
  unfold fpart
  rw [own_w, own_w, own_w, own_w, own_w]
  have s : ∀ (i : Nat), own_sum [w0, w1, w2, w3, w4] i 0 = 0 ∧ own_sum [w0, w1, w2, w3, w4] i 1 = own_g ([w0, w1, w2, w3, w4].getD i 0) ∧ own_sum [w0, w1, w2, w3, w4] i 2 = own_g ([w0, w1, w2, w3, w4].getD i 0) + own_g ([w0, w1, w2, w3, w4].getD (i + 1) 0) ∧
      own_sum [w0, w1, w2, w3, w4] i 3 = own_g ([w0, w1, w2, w3, w4].getD i 0) + (own_g ([w0, w1, w2, w3, w4].getD (i + 1) 0) + own_g ([w0, w1, w2, w3, w4].getD (i + 2) 0)) ∧
      own_sum [w0, w1, w2, w3, w4] i 4 = own_g ([w0, w1, w2, w3, w4].getD i 0) + (own_g ([w0, w1, w2, w3, w4].getD (i + 1) 0) + (own_g ([w0, w1, w2, w3, w4].getD (i + 2) 0) + own_g ([w0, w1, w2, w3, w4].getD (i + 3) 0))) ∧
      own_sum [w0, w1, w2, w3, w4] i 5 = own_g ([w0, w1, w2, w3, w4].getD i 0) + (own_g ([w0, w1, w2, w3, w4].getD (i + 1) 0) + (own_g ([w0, w1, w2, w3, w4].getD (i + 2) 0) + (own_g ([w0, w1, w2, w3, w4].getD (i + 3) 0) + own_g ([w0, w1, w2, w3, w4].getD (i + 4) 0)))) := fun i => by
    simp only [own_sum, Int64.add_zero]; exact ⟨trivial, trivial, trivial, trivial, trivial, trivial⟩
  rw [hlo, hhi]
  have key : ∀ (L H : Int32) (i k : Nat) (d : Int64) (b0 b1 b2 b3 b4 : Bool), True := fun _ _ _ _ _ _ _ _ _ _ => trivial
  rcases hx with rfl | rfl | rfl | rfl | rfl | rfl <;> rcases hy with rfl | rfl | rfl | rfl | rfl | rfl
  · show (0 : Int64) + own_sum [w0, w1, w2, w3, w4] 0 0 = (((((0 : Int64) + (0 : Int64)) + (0 : Int64)) + (0 : Int64)) + (0 : Int64))
    rw [(s 0).1]
    show (0 : Int64) + (0) = _
    grind
  · show (1 : Int64) + own_sum [w0, w1, w2, w3, w4] 0 1 = ((((((1 : Int64) + own_g w0) + (0 : Int64)) + (0 : Int64)) + (0 : Int64)) + (0 : Int64))
    rw [(s 0).2.1]
    show (1 : Int64) + (own_g w0) = _
    generalize own_g w0 = g0
    grind
  · show (2 : Int64) + own_sum [w0, w1, w2, w3, w4] 0 2 = ((((((1 : Int64) + own_g w0) + ((1 : Int64) + own_g w1)) + (0 : Int64)) + (0 : Int64)) + (0 : Int64))
    rw [(s 0).2.2.1]
    show (2 : Int64) + (own_g w0 + (own_g w1)) = _
    generalize own_g w0 = g0
    generalize own_g w1 = g1
    grind
  · show (3 : Int64) + own_sum [w0, w1, w2, w3, w4] 0 3 = ((((((1 : Int64) + own_g w0) + ((1 : Int64) + own_g w1)) + ((1 : Int64) + own_g w2)) + (0 : Int64)) + (0 : Int64))
    rw [(s 0).2.2.2.1]
    show (3 : Int64) + (own_g w0 + (own_g w1 + (own_g w2))) = _
    generalize own_g w0 = g0
    generalize own_g w1 = g1
    generalize own_g w2 = g2
    grind
  · show (4 : Int64) + own_sum [w0, w1, w2, w3, w4] 0 4 = ((((((1 : Int64) + own_g w0) + ((1 : Int64) + own_g w1)) + ((1 : Int64) + own_g w2)) + ((1 : Int64) + own_g w3)) + (0 : Int64))
    rw [(s 0).2.2.2.2.1]
    show (4 : Int64) + (own_g w0 + (own_g w1 + (own_g w2 + (own_g w3)))) = _
    generalize own_g w0 = g0
    generalize own_g w1 = g1
    generalize own_g w2 = g2
    generalize own_g w3 = g3
    grind
  · show (5 : Int64) + own_sum [w0, w1, w2, w3, w4] 0 5 = ((((((1 : Int64) + own_g w0) + ((1 : Int64) + own_g w1)) + ((1 : Int64) + own_g w2)) + ((1 : Int64) + own_g w3)) + ((1 : Int64) + own_g w4))
    rw [(s 0).2.2.2.2.2]
    show (5 : Int64) + (own_g w0 + (own_g w1 + (own_g w2 + (own_g w3 + (own_g w4))))) = _
    generalize own_g w0 = g0
    generalize own_g w1 = g1
    generalize own_g w2 = g2
    generalize own_g w3 = g3
    generalize own_g w4 = g4
    grind
  · show (1 : Int64) + own_sum [w0, w1, w2, w3, w4] 0 1 = ((((((1 : Int64) + own_g w0) + (0 : Int64)) + (0 : Int64)) + (0 : Int64)) + (0 : Int64))
    rw [(s 0).2.1]
    show (1 : Int64) + (own_g w0) = _
    generalize own_g w0 = g0
    grind
  · show (0 : Int64) + own_sum [w0, w1, w2, w3, w4] 1 0 = (((((0 : Int64) + (0 : Int64)) + (0 : Int64)) + (0 : Int64)) + (0 : Int64))
    rw [(s 1).1]
    show (0 : Int64) + (0) = _
    grind
  · show (1 : Int64) + own_sum [w0, w1, w2, w3, w4] 1 1 = (((((0 : Int64) + ((1 : Int64) + own_g w1)) + (0 : Int64)) + (0 : Int64)) + (0 : Int64))
    rw [(s 1).2.1]
    show (1 : Int64) + (own_g w1) = _
    generalize own_g w1 = g1
    grind
  · show (2 : Int64) + own_sum [w0, w1, w2, w3, w4] 1 2 = (((((0 : Int64) + ((1 : Int64) + own_g w1)) + ((1 : Int64) + own_g w2)) + (0 : Int64)) + (0 : Int64))
    rw [(s 1).2.2.1]
    show (2 : Int64) + (own_g w1 + (own_g w2)) = _
    generalize own_g w1 = g1
    generalize own_g w2 = g2
    grind
  · show (3 : Int64) + own_sum [w0, w1, w2, w3, w4] 1 3 = (((((0 : Int64) + ((1 : Int64) + own_g w1)) + ((1 : Int64) + own_g w2)) + ((1 : Int64) + own_g w3)) + (0 : Int64))
    rw [(s 1).2.2.2.1]
    show (3 : Int64) + (own_g w1 + (own_g w2 + (own_g w3))) = _
    generalize own_g w1 = g1
    generalize own_g w2 = g2
    generalize own_g w3 = g3
    grind
  · show (4 : Int64) + own_sum [w0, w1, w2, w3, w4] 1 4 = (((((0 : Int64) + ((1 : Int64) + own_g w1)) + ((1 : Int64) + own_g w2)) + ((1 : Int64) + own_g w3)) + ((1 : Int64) + own_g w4))
    rw [(s 1).2.2.2.2.1]
    show (4 : Int64) + (own_g w1 + (own_g w2 + (own_g w3 + (own_g w4)))) = _
    generalize own_g w1 = g1
    generalize own_g w2 = g2
    generalize own_g w3 = g3
    generalize own_g w4 = g4
    grind
  · show (2 : Int64) + own_sum [w0, w1, w2, w3, w4] 0 2 = ((((((1 : Int64) + own_g w0) + ((1 : Int64) + own_g w1)) + (0 : Int64)) + (0 : Int64)) + (0 : Int64))
    rw [(s 0).2.2.1]
    show (2 : Int64) + (own_g w0 + (own_g w1)) = _
    generalize own_g w0 = g0
    generalize own_g w1 = g1
    grind
  · show (1 : Int64) + own_sum [w0, w1, w2, w3, w4] 1 1 = (((((0 : Int64) + ((1 : Int64) + own_g w1)) + (0 : Int64)) + (0 : Int64)) + (0 : Int64))
    rw [(s 1).2.1]
    show (1 : Int64) + (own_g w1) = _
    generalize own_g w1 = g1
    grind
  · show (0 : Int64) + own_sum [w0, w1, w2, w3, w4] 2 0 = (((((0 : Int64) + (0 : Int64)) + (0 : Int64)) + (0 : Int64)) + (0 : Int64))
    rw [(s 2).1]
    show (0 : Int64) + (0) = _
    grind
  · show (1 : Int64) + own_sum [w0, w1, w2, w3, w4] 2 1 = (((((0 : Int64) + (0 : Int64)) + ((1 : Int64) + own_g w2)) + (0 : Int64)) + (0 : Int64))
    rw [(s 2).2.1]
    show (1 : Int64) + (own_g w2) = _
    generalize own_g w2 = g2
    grind
  · show (2 : Int64) + own_sum [w0, w1, w2, w3, w4] 2 2 = (((((0 : Int64) + (0 : Int64)) + ((1 : Int64) + own_g w2)) + ((1 : Int64) + own_g w3)) + (0 : Int64))
    rw [(s 2).2.2.1]
    show (2 : Int64) + (own_g w2 + (own_g w3)) = _
    generalize own_g w2 = g2
    generalize own_g w3 = g3
    grind
  · show (3 : Int64) + own_sum [w0, w1, w2, w3, w4] 2 3 = (((((0 : Int64) + (0 : Int64)) + ((1 : Int64) + own_g w2)) + ((1 : Int64) + own_g w3)) + ((1 : Int64) + own_g w4))
    rw [(s 2).2.2.2.1]
    show (3 : Int64) + (own_g w2 + (own_g w3 + (own_g w4))) = _
    generalize own_g w2 = g2
    generalize own_g w3 = g3
    generalize own_g w4 = g4
    grind
  · show (3 : Int64) + own_sum [w0, w1, w2, w3, w4] 0 3 = ((((((1 : Int64) + own_g w0) + ((1 : Int64) + own_g w1)) + ((1 : Int64) + own_g w2)) + (0 : Int64)) + (0 : Int64))
    rw [(s 0).2.2.2.1]
    show (3 : Int64) + (own_g w0 + (own_g w1 + (own_g w2))) = _
    generalize own_g w0 = g0
    generalize own_g w1 = g1
    generalize own_g w2 = g2
    grind
  · show (2 : Int64) + own_sum [w0, w1, w2, w3, w4] 1 2 = (((((0 : Int64) + ((1 : Int64) + own_g w1)) + ((1 : Int64) + own_g w2)) + (0 : Int64)) + (0 : Int64))
    rw [(s 1).2.2.1]
    show (2 : Int64) + (own_g w1 + (own_g w2)) = _
    generalize own_g w1 = g1
    generalize own_g w2 = g2
    grind
  · show (1 : Int64) + own_sum [w0, w1, w2, w3, w4] 2 1 = (((((0 : Int64) + (0 : Int64)) + ((1 : Int64) + own_g w2)) + (0 : Int64)) + (0 : Int64))
    rw [(s 2).2.1]
    show (1 : Int64) + (own_g w2) = _
    generalize own_g w2 = g2
    grind
  · show (0 : Int64) + own_sum [w0, w1, w2, w3, w4] 3 0 = (((((0 : Int64) + (0 : Int64)) + (0 : Int64)) + (0 : Int64)) + (0 : Int64))
    rw [(s 3).1]
    show (0 : Int64) + (0) = _
    grind
  · show (1 : Int64) + own_sum [w0, w1, w2, w3, w4] 3 1 = (((((0 : Int64) + (0 : Int64)) + (0 : Int64)) + ((1 : Int64) + own_g w3)) + (0 : Int64))
    rw [(s 3).2.1]
    show (1 : Int64) + (own_g w3) = _
    generalize own_g w3 = g3
    grind
  · show (2 : Int64) + own_sum [w0, w1, w2, w3, w4] 3 2 = (((((0 : Int64) + (0 : Int64)) + (0 : Int64)) + ((1 : Int64) + own_g w3)) + ((1 : Int64) + own_g w4))
    rw [(s 3).2.2.1]
    show (2 : Int64) + (own_g w3 + (own_g w4)) = _
    generalize own_g w3 = g3
    generalize own_g w4 = g4
    grind
  · show (4 : Int64) + own_sum [w0, w1, w2, w3, w4] 0 4 = ((((((1 : Int64) + own_g w0) + ((1 : Int64) + own_g w1)) + ((1 : Int64) + own_g w2)) + ((1 : Int64) + own_g w3)) + (0 : Int64))
    rw [(s 0).2.2.2.2.1]
    show (4 : Int64) + (own_g w0 + (own_g w1 + (own_g w2 + (own_g w3)))) = _
    generalize own_g w0 = g0
    generalize own_g w1 = g1
    generalize own_g w2 = g2
    generalize own_g w3 = g3
    grind
  · show (3 : Int64) + own_sum [w0, w1, w2, w3, w4] 1 3 = (((((0 : Int64) + ((1 : Int64) + own_g w1)) + ((1 : Int64) + own_g w2)) + ((1 : Int64) + own_g w3)) + (0 : Int64))
    rw [(s 1).2.2.2.1]
    show (3 : Int64) + (own_g w1 + (own_g w2 + (own_g w3))) = _
    generalize own_g w1 = g1
    generalize own_g w2 = g2
    generalize own_g w3 = g3
    grind
  · show (2 : Int64) + own_sum [w0, w1, w2, w3, w4] 2 2 = (((((0 : Int64) + (0 : Int64)) + ((1 : Int64) + own_g w2)) + ((1 : Int64) + own_g w3)) + (0 : Int64))
    rw [(s 2).2.2.1]
    show (2 : Int64) + (own_g w2 + (own_g w3)) = _
    generalize own_g w2 = g2
    generalize own_g w3 = g3
    grind
  · show (1 : Int64) + own_sum [w0, w1, w2, w3, w4] 3 1 = (((((0 : Int64) + (0 : Int64)) + (0 : Int64)) + ((1 : Int64) + own_g w3)) + (0 : Int64))
    rw [(s 3).2.1]
    show (1 : Int64) + (own_g w3) = _
    generalize own_g w3 = g3
    grind
  · show (0 : Int64) + own_sum [w0, w1, w2, w3, w4] 4 0 = (((((0 : Int64) + (0 : Int64)) + (0 : Int64)) + (0 : Int64)) + (0 : Int64))
    rw [(s 4).1]
    show (0 : Int64) + (0) = _
    grind
  · show (1 : Int64) + own_sum [w0, w1, w2, w3, w4] 4 1 = (((((0 : Int64) + (0 : Int64)) + (0 : Int64)) + (0 : Int64)) + ((1 : Int64) + own_g w4))
    rw [(s 4).2.1]
    show (1 : Int64) + (own_g w4) = _
    generalize own_g w4 = g4
    grind
  · show (5 : Int64) + own_sum [w0, w1, w2, w3, w4] 0 5 = ((((((1 : Int64) + own_g w0) + ((1 : Int64) + own_g w1)) + ((1 : Int64) + own_g w2)) + ((1 : Int64) + own_g w3)) + ((1 : Int64) + own_g w4))
    rw [(s 0).2.2.2.2.2]
    show (5 : Int64) + (own_g w0 + (own_g w1 + (own_g w2 + (own_g w3 + (own_g w4))))) = _
    generalize own_g w0 = g0
    generalize own_g w1 = g1
    generalize own_g w2 = g2
    generalize own_g w3 = g3
    generalize own_g w4 = g4
    grind
  · show (4 : Int64) + own_sum [w0, w1, w2, w3, w4] 1 4 = (((((0 : Int64) + ((1 : Int64) + own_g w1)) + ((1 : Int64) + own_g w2)) + ((1 : Int64) + own_g w3)) + ((1 : Int64) + own_g w4))
    rw [(s 1).2.2.2.2.1]
    show (4 : Int64) + (own_g w1 + (own_g w2 + (own_g w3 + (own_g w4)))) = _
    generalize own_g w1 = g1
    generalize own_g w2 = g2
    generalize own_g w3 = g3
    generalize own_g w4 = g4
    grind
  · show (3 : Int64) + own_sum [w0, w1, w2, w3, w4] 2 3 = (((((0 : Int64) + (0 : Int64)) + ((1 : Int64) + own_g w2)) + ((1 : Int64) + own_g w3)) + ((1 : Int64) + own_g w4))
    rw [(s 2).2.2.2.1]
    show (3 : Int64) + (own_g w2 + (own_g w3 + (own_g w4))) = _
    generalize own_g w2 = g2
    generalize own_g w3 = g3
    generalize own_g w4 = g4
    grind
  · show (2 : Int64) + own_sum [w0, w1, w2, w3, w4] 3 2 = (((((0 : Int64) + (0 : Int64)) + (0 : Int64)) + ((1 : Int64) + own_g w3)) + ((1 : Int64) + own_g w4))
    rw [(s 3).2.2.1]
    show (2 : Int64) + (own_g w3 + (own_g w4)) = _
    generalize own_g w3 = g3
    generalize own_g w4 = g4
    grind
  · show (1 : Int64) + own_sum [w0, w1, w2, w3, w4] 4 1 = (((((0 : Int64) + (0 : Int64)) + (0 : Int64)) + (0 : Int64)) + ((1 : Int64) + own_g w4))
    rw [(s 4).2.1]
    show (1 : Int64) + (own_g w4) = _
    generalize own_g w4 = g4
    grind
  · show (0 : Int64) + own_sum [w0, w1, w2, w3, w4] 5 0 = (((((0 : Int64) + (0 : Int64)) + (0 : Int64)) + (0 : Int64)) + (0 : Int64))
    rw [(s 5).1]
    show (0 : Int64) + (0) = _
    grind
theorem ef_0 (m : MethodId) (x0 : Int64) (x1 : Int32) (x2 : Int32) (x3 : Int32) (x4 : Int32) : entryFrame m #[(.long x0), (.int x1), (.int x2), (.int x3), (.int x4)] maxLocals = mkF m 0 #[.val (.long x0), .second, .val (.int x1), .val (.int x2), .val (.int x3), .val (.int x4), .unset, .unset, .unset, .unset, .unset, .unset, .unset, .unset, .unset, .unset, .unset] [] := by first | (simp [entryFrame, mkF, argsToLocals, Value.category, maxLocals]; done) | rfl
theorem pd_11 : parseMethodDescriptor "(II)I" = some ⟨[.int, .int], some .int⟩ := by decide +kernel
theorem pd_12 : parseMethodDescriptor "(JZ)V" = some ⟨[.long, .boolean], none⟩ := by decide +kernel
theorem pd_13 : parseMethodDescriptor "([CII)J" = some ⟨[(.array .char), .int, .int], some .long⟩ := by decide +kernel
theorem pd_14 : parseMethodDescriptor "([CIII)J" = some ⟨[(.array .char), .int, .int, .int], some .long⟩ := by decide +kernel
def Q0 (Z : State) (x0 : Int64) (x1 : Int32) (x2 : Int32) (x3 : Int32) (x4 : Int32) (h0 : Heap) (n0 : Nat) (v : Option Value) (h : Heap) (L : List Loc) : Prop := v = some (.int 1) ∧ Fr n0 L
set_option maxRecDepth 65536 in
set_option maxHeartbeats 40000000 in
theorem rm0 (l : Launch) (Z : State) (a0 : Array Value) (hw : ∀ d ∈ tables_1, d.before a0 Z = true) (ws : List Jvm.Cond) (x0 : Int64) (x1 : Int32) (x2 : Int32) (x3 : Int32) (x4 : Int32) (h0 : Heap) (n0 : Nat) (Z0 : n0 ≤ h0.size) :
    MetFree l x (head1 (Jvm.Cond.code x code maxLocals ret :: ws) room_1) (fun a U => a = #[(.long x0), (.int x1), (.int x2), (.int x3), (.int x4)] ∧ Z.Warmed39 U.vm ∧ U.heap = h0) (fun _ _ _ _ _ => True) (fun _ U o U' => ∃ v L, o = .returned v ∧ Q0 Z x0 x1 x2 x3 x4 h0 n0 v U'.heap L ∧ FrameEnd U o U' L 16 128) := by
  refine MetFree.of_bodySF (plainFor_of_name pn_com_example_xylograph_xylograph_MaxSizeSizeOfPinLaw) hisR ?_
  intro p e s m args below meth c s₁ Bd hml0 hP hK
  obtain ⟨rfl, hZ, hh⟩ := hP
  have hx := Bd.exec
  have hby := Bd.bytes
  have hml : c.maxLocals = 17 := hml0
  have hown : s.vm.findClass "com/example/xylograph/xylograph/MaxSizeSizeOfPinLaw" = some m.cls := findClass_of_methodNamed Bd.named
  have hnm := (name_of_methodNamed Bd.named Bd.method).1
  have hlk : meth.locks = false := BodyLoose.notSynchronized Bd
  have X0 : Stand p l e room_1 s m #[(.long x0), (.int x1), (.int x2), (.int x3), (.int x4)] below meth c s₁ [] 0 0 := Stand.of_body Bd
  have e0 : s₁.heap = h0 := by rw [← hh, Bd.state]; rfl
  have N0 := Fr.nil n0
  have pre0 : Go p e below (s₁.setTop (entryFrame m #[(.long x0), (.int x1), (.int x2), (.int x3), (.int x4)] maxLocals)) (s₁.setTop (mkF m 0 #[.val (.long x0), .second, .val (.int x1), .val (.int x2), .val (.int x3), .val (.int x4), .unset, .unset, .unset, .unset, .unset, .unset, .unset, .unset, .unset, .unset, .unset] [])) := fun t k => castTop (ef_0 m x0 x1 x2 x3 x4) k
  have pre1 : Go p e below (s₁.setTop (entryFrame m #[(.long x0), (.int x1), (.int x2), (.int x3), (.int x4)] maxLocals)) (s₁.setTop (mkF m 1 #[.val (.long x0), .second, .val (.int x1), .val (.int x2), .val (.int x3), .val (.int x4), .unset, .unset, .unset, .unset, .unset, .unset, .unset, .unset, .unset, .unset, .unset] [(.int (5 : Int32))])) := by
    intro t k
    refine pre0 t ?_
    show Steps p.tables e below (s₁.setTop (mkF m 0 #[.val (.long x0), .second, .val (.int x1), .val (.int x2), .val (.int x3), .val (.int x4), .unset, .unset, .unset, .unset, .unset, .unset, .unset, .unset, .unset, .unset, .unset] [])) _
    refine XS.iconst X0.here hx rfl (hb hby at_0) ?_
    show Steps p.tables e below (s₁.setTop (mkF m 1 #[.val (.long x0), .second, .val (.int x1), .val (.int x2), .val (.int x3), .val (.int x4), .unset, .unset, .unset, .unset, .unset, .unset, .unset, .unset, .unset, .unset, .unset] [(.int (5 : Int32))])) _
    exact k
  obtain ⟨T2, h2, k2, X2, e2, E2, A2, st2⟩ := newP X0 hx hZ (hw _ (List.mem_of_getElem? (i := 0) rfl)) e0 (g := (mkF m 1 #[.val (.long x0), .second, .val (.int x1), .val (.int x2), .val (.int x3), .val (.int x4), .unset, .unset, .unset, .unset, .unset, .unset, .unset, .unset, .unset, .unset, .unset] [(.int (5 : Int32))])) rfl (hb hby at_1) rfl (by decide) (cap := 5) (by decide) (by decide) (by decide) (by decide)
  obtain ⟨b0, g2⟩ : ∃ z, z = h0.size := ⟨_, rfl⟩
  rw [← g2] at A2 st2
  have zz3 := (Nat.le_trans Z0 E2.1)
  have V_b0 : Arv Z h2 b0 k2 .char (5 : Int32) [(.int (0 : Int32)), (.int (0 : Int32)), (.int (0 : Int32)), (.int (0 : Int32)), (.int (0 : Int32))] (.int (0 : Int32)) := (Arv.new A2 (by decide)).pad (pad_rep [] (.int (0 : Int32)) 5)
  have g_b0 : n0 ≤ b0 := Nat.le_trans Z0 (Nat.le_of_eq g2.symm)
  have pre4 : Go p e below (s₁.setTop (entryFrame m #[(.long x0), (.int x1), (.int x2), (.int x3), (.int x4)] maxLocals)) (T2.setTop (mkF m 3 #[.val (.long x0), .second, .val (.int x1), .val (.int x2), .val (.int x3), .val (.int x4), .unset, .unset, .unset, .unset, .unset, .unset, .unset, .unset, .unset, .unset, .unset] [(.ref b0)])) := fun t k => pre1 t (st2 t k)
  have pre5 : Go p e below (s₁.setTop (entryFrame m #[(.long x0), (.int x1), (.int x2), (.int x3), (.int x4)] maxLocals)) (T2.setTop (mkF m 13 #[.val (.long x0), .second, .val (.int x1), .val (.int x2), .val (.int x3), .val (.int x4), .val (.ref b0), .unset, .unset, .unset, .unset, .unset, .unset, .unset, .unset, .unset, .unset] [(.int (((x1 &&& (65535 : Int32))).toUInt32.toUInt16.toUInt32.toInt32)), (.int (0 : Int32)), (.ref b0)])) := by
    intro t k
    refine pre4 t ?_
    show Steps p.tables e below (T2.setTop (mkF m 3 #[.val (.long x0), .second, .val (.int x1), .val (.int x2), .val (.int x3), .val (.int x4), .unset, .unset, .unset, .unset, .unset, .unset, .unset, .unset, .unset, .unset, .unset] [(.ref b0)])) _
    refine XS.astore X2.here hx rfl (hb hby at_3) rfl rfl (l' := #[.val (.long x0), .second, .val (.int x1), .val (.int x2), .val (.int x3), .val (.int x4), .val (.ref b0), .unset, .unset, .unset, .unset, .unset, .unset, .unset, .unset, .unset, .unset]) rfl ?_
    show Steps p.tables e below (T2.setTop (mkF m 5 #[.val (.long x0), .second, .val (.int x1), .val (.int x2), .val (.int x3), .val (.int x4), .val (.ref b0), .unset, .unset, .unset, .unset, .unset, .unset, .unset, .unset, .unset, .unset] [])) _
    refine XS.aload X2.here hx rfl (hb hby at_5) rfl rfl ?_
    show Steps p.tables e below (T2.setTop (mkF m 7 #[.val (.long x0), .second, .val (.int x1), .val (.int x2), .val (.int x3), .val (.int x4), .val (.ref b0), .unset, .unset, .unset, .unset, .unset, .unset, .unset, .unset, .unset, .unset] [(.ref b0)])) _
    refine XS.iconst X2.here hx rfl (hb hby at_7) ?_
    show Steps p.tables e below (T2.setTop (mkF m 8 #[.val (.long x0), .second, .val (.int x1), .val (.int x2), .val (.int x3), .val (.int x4), .val (.ref b0), .unset, .unset, .unset, .unset, .unset, .unset, .unset, .unset, .unset, .unset] [(.int (0 : Int32)), (.ref b0)])) _
    refine XS.iloadN X2.here hx rfl (hb hby at_8) rfl ?_
    show Steps p.tables e below (T2.setTop (mkF m 9 #[.val (.long x0), .second, .val (.int x1), .val (.int x2), .val (.int x3), .val (.int x4), .val (.ref b0), .unset, .unset, .unset, .unset, .unset, .unset, .unset, .unset, .unset, .unset] [(.int x1), (.int (0 : Int32)), (.ref b0)])) _
    refine X2.ldcI hx hown (mvT hZ (hw _ (List.mem_of_getElem? (i := 1) rfl))) (g := (mkF m 9 #[.val (.long x0), .second, .val (.int x1), .val (.int x2), .val (.int x3), .val (.int x4), .val (.ref b0), .unset, .unset, .unset, .unset, .unset, .unset, .unset, .unset, .unset, .unset] [(.int x1), (.int (0 : Int32)), (.ref b0)])) rfl (hb hby at_9) ?_
    show Steps p.tables e below (T2.setTop (mkF m 11 #[.val (.long x0), .second, .val (.int x1), .val (.int x2), .val (.int x3), .val (.int x4), .val (.ref b0), .unset, .unset, .unset, .unset, .unset, .unset, .unset, .unset, .unset, .unset] [(.int (65535 : Int32)), (.int x1), (.int (0 : Int32)), (.ref b0)])) _
    refine XS.iand X2.here hx rfl (hb hby at_11) rfl ?_
    show Steps p.tables e below (T2.setTop (mkF m 12 #[.val (.long x0), .second, .val (.int x1), .val (.int x2), .val (.int x3), .val (.int x4), .val (.ref b0), .unset, .unset, .unset, .unset, .unset, .unset, .unset, .unset, .unset, .unset] [(.int (x1 &&& (65535 : Int32))), (.int (0 : Int32)), (.ref b0)])) _
    refine XS.i2c X2.here hx rfl (hb hby at_12) rfl ?_
    show Steps p.tables e below (T2.setTop (mkF m 13 #[.val (.long x0), .second, .val (.int x1), .val (.int x2), .val (.int x3), .val (.int x4), .val (.ref b0), .unset, .unset, .unset, .unset, .unset, .unset, .unset, .unset, .unset, .unset] [(.int (((x1 &&& (65535 : Int32))).toUInt32.toUInt16.toUInt32.toInt32)), (.int (0 : Int32)), (.ref b0)])) _
    exact k
  obtain ⟨u0, h_u0⟩ : ∃ z : Int32, z = (((x1 &&& (65535 : Int32))).toUInt32.toUInt16.toUInt32.toInt32) := ⟨_, rfl⟩
  have pre6 : Go p e below (s₁.setTop (entryFrame m #[(.long x0), (.int x1), (.int x2), (.int x3), (.int x4)] maxLocals)) (T2.setTop (mkF m 13 #[.val (.long x0), .second, .val (.int x1), .val (.int x2), .val (.int x3), .val (.int x4), .val (.ref b0), .unset, .unset, .unset, .unset, .unset, .unset, .unset, .unset, .unset, .unset] [(.int u0), (.int (0 : Int32)), (.ref b0)])) := by rw [h_u0]; exact pre5
  obtain ⟨cl7, Ar7, qq7, SS7, NN7, HH7, GG7⟩ := V_b0
  have hin7 : ¬ ((0 : Int32) < 0 ∨ cl7.slots.size ≤ ((0 : Int32)).toNatClampNeg) := inb_of SS7 ⟨by decide, by decide⟩
  obtain ⟨T7, h7, X7, e7, W7, st7⟩ := stC X2 hx hZ e2 Ar7 (j := (0 : Int32)) hin7 (g := (mkF m 13 #[.val (.long x0), .second, .val (.int x1), .val (.int x2), .val (.int x3), .val (.int x4), .val (.ref b0), .unset, .unset, .unset, .unset, .unset, .unset, .unset, .unset, .unset, .unset] [(.int u0), (.int (0 : Int32)), (.ref b0)])) rfl rfl (hb hby at_13)
  have V7 : Arv Z h7 b0 k2 .char (5 : Int32) [(.int (nar .char u0)), (.int (0 : Int32)), (.int (0 : Int32)), (.int (0 : Int32)), (.int (0 : Int32))] (.int (0 : Int32)) := Arv.set Ar7 qq7 SS7 NN7 HH7 GG7 (fits_nar_char _) W7 0 rfl (Nat.le_of_ble_eq_true rfl)
  have zz8 := (Nat.le_trans zz3 (Keep.of_wr W7).1)
  have N7 := Fr.snoc X7 N0 g_b0
  have pre9 : Go p e below (s₁.setTop (entryFrame m #[(.long x0), (.int x1), (.int x2), (.int x3), (.int x4)] maxLocals)) (T7.setTop (mkF m 14 #[.val (.long x0), .second, .val (.int x1), .val (.int x2), .val (.int x3), .val (.int x4), .val (.ref b0), .unset, .unset, .unset, .unset, .unset, .unset, .unset, .unset, .unset, .unset] [])) := fun t k => pre6 t (st7 t k)
  have pre10 : Go p e below (s₁.setTop (entryFrame m #[(.long x0), (.int x1), (.int x2), (.int x3), (.int x4)] maxLocals)) (T7.setTop (mkF m 25 #[.val (.long x0), .second, .val (.int x1), .val (.int x2), .val (.int x3), .val (.int x4), .val (.ref b0), .unset, .unset, .unset, .unset, .unset, .unset, .unset, .unset, .unset, .unset] [(.int ((((((x1).toUInt32 >>> (((16 : Int32)) &&& 31).toUInt32).toInt32) &&& (65535 : Int32))).toUInt32.toUInt16.toUInt32.toInt32)), (.int (1 : Int32)), (.ref b0)])) := by
    intro t k
    refine pre9 t ?_
    show Steps p.tables e below (T7.setTop (mkF m 14 #[.val (.long x0), .second, .val (.int x1), .val (.int x2), .val (.int x3), .val (.int x4), .val (.ref b0), .unset, .unset, .unset, .unset, .unset, .unset, .unset, .unset, .unset, .unset] [])) _
    refine XS.aload X7.here hx rfl (hb hby at_14) rfl rfl ?_
    show Steps p.tables e below (T7.setTop (mkF m 16 #[.val (.long x0), .second, .val (.int x1), .val (.int x2), .val (.int x3), .val (.int x4), .val (.ref b0), .unset, .unset, .unset, .unset, .unset, .unset, .unset, .unset, .unset, .unset] [(.ref b0)])) _
    refine XS.iconst X7.here hx rfl (hb hby at_16) ?_
    show Steps p.tables e below (T7.setTop (mkF m 17 #[.val (.long x0), .second, .val (.int x1), .val (.int x2), .val (.int x3), .val (.int x4), .val (.ref b0), .unset, .unset, .unset, .unset, .unset, .unset, .unset, .unset, .unset, .unset] [(.int (1 : Int32)), (.ref b0)])) _
    refine XS.iloadN X7.here hx rfl (hb hby at_17) rfl ?_
    show Steps p.tables e below (T7.setTop (mkF m 18 #[.val (.long x0), .second, .val (.int x1), .val (.int x2), .val (.int x3), .val (.int x4), .val (.ref b0), .unset, .unset, .unset, .unset, .unset, .unset, .unset, .unset, .unset, .unset] [(.int x1), (.int (1 : Int32)), (.ref b0)])) _
    refine XS.bipush X7.here hx rfl (hb hby at_18) ?_
    show Steps p.tables e below (T7.setTop (mkF m 20 #[.val (.long x0), .second, .val (.int x1), .val (.int x2), .val (.int x3), .val (.int x4), .val (.ref b0), .unset, .unset, .unset, .unset, .unset, .unset, .unset, .unset, .unset, .unset] [(.int (16 : Int32)), (.int x1), (.int (1 : Int32)), (.ref b0)])) _
    refine XS.iushr X7.here hx rfl (hb hby at_20) rfl ?_
    show Steps p.tables e below (T7.setTop (mkF m 21 #[.val (.long x0), .second, .val (.int x1), .val (.int x2), .val (.int x3), .val (.int x4), .val (.ref b0), .unset, .unset, .unset, .unset, .unset, .unset, .unset, .unset, .unset, .unset] [(.int (((x1).toUInt32 >>> (((16 : Int32)) &&& 31).toUInt32).toInt32)), (.int (1 : Int32)), (.ref b0)])) _
    refine X7.ldcI hx hown (mvT hZ (hw _ (List.mem_of_getElem? (i := 1) rfl))) (g := (mkF m 21 #[.val (.long x0), .second, .val (.int x1), .val (.int x2), .val (.int x3), .val (.int x4), .val (.ref b0), .unset, .unset, .unset, .unset, .unset, .unset, .unset, .unset, .unset, .unset] [(.int (((x1).toUInt32 >>> (((16 : Int32)) &&& 31).toUInt32).toInt32)), (.int (1 : Int32)), (.ref b0)])) rfl (hb hby at_21) ?_
    show Steps p.tables e below (T7.setTop (mkF m 23 #[.val (.long x0), .second, .val (.int x1), .val (.int x2), .val (.int x3), .val (.int x4), .val (.ref b0), .unset, .unset, .unset, .unset, .unset, .unset, .unset, .unset, .unset, .unset] [(.int (65535 : Int32)), (.int (((x1).toUInt32 >>> (((16 : Int32)) &&& 31).toUInt32).toInt32)), (.int (1 : Int32)), (.ref b0)])) _
    refine XS.iand X7.here hx rfl (hb hby at_23) rfl ?_
    show Steps p.tables e below (T7.setTop (mkF m 24 #[.val (.long x0), .second, .val (.int x1), .val (.int x2), .val (.int x3), .val (.int x4), .val (.ref b0), .unset, .unset, .unset, .unset, .unset, .unset, .unset, .unset, .unset, .unset] [(.int ((((x1).toUInt32 >>> (((16 : Int32)) &&& 31).toUInt32).toInt32) &&& (65535 : Int32))), (.int (1 : Int32)), (.ref b0)])) _
    refine XS.i2c X7.here hx rfl (hb hby at_24) rfl ?_
    show Steps p.tables e below (T7.setTop (mkF m 25 #[.val (.long x0), .second, .val (.int x1), .val (.int x2), .val (.int x3), .val (.int x4), .val (.ref b0), .unset, .unset, .unset, .unset, .unset, .unset, .unset, .unset, .unset, .unset] [(.int ((((((x1).toUInt32 >>> (((16 : Int32)) &&& 31).toUInt32).toInt32) &&& (65535 : Int32))).toUInt32.toUInt16.toUInt32.toInt32)), (.int (1 : Int32)), (.ref b0)])) _
    exact k
  obtain ⟨u1, h_u1⟩ : ∃ z : Int32, z = ((((((x1).toUInt32 >>> (((16 : Int32)) &&& 31).toUInt32).toInt32) &&& (65535 : Int32))).toUInt32.toUInt16.toUInt32.toInt32) := ⟨_, rfl⟩
  have pre11 : Go p e below (s₁.setTop (entryFrame m #[(.long x0), (.int x1), (.int x2), (.int x3), (.int x4)] maxLocals)) (T7.setTop (mkF m 25 #[.val (.long x0), .second, .val (.int x1), .val (.int x2), .val (.int x3), .val (.int x4), .val (.ref b0), .unset, .unset, .unset, .unset, .unset, .unset, .unset, .unset, .unset, .unset] [(.int u1), (.int (1 : Int32)), (.ref b0)])) := by rw [h_u1]; exact pre10
  obtain ⟨cl12, Ar12, qq12, SS12, NN12, HH12, GG12⟩ := V7
  have hin12 : ¬ ((1 : Int32) < 0 ∨ cl12.slots.size ≤ ((1 : Int32)).toNatClampNeg) := inb_of SS12 ⟨by decide, by decide⟩
  obtain ⟨T12, h12, X12, e12, W12, st12⟩ := stC X7 hx hZ e7 Ar12 (j := (1 : Int32)) hin12 (g := (mkF m 25 #[.val (.long x0), .second, .val (.int x1), .val (.int x2), .val (.int x3), .val (.int x4), .val (.ref b0), .unset, .unset, .unset, .unset, .unset, .unset, .unset, .unset, .unset, .unset] [(.int u1), (.int (1 : Int32)), (.ref b0)])) rfl rfl (hb hby at_25)
  have V12 : Arv Z h12 b0 k2 .char (5 : Int32) [(.int (nar .char u0)), (.int (nar .char u1)), (.int (0 : Int32)), (.int (0 : Int32)), (.int (0 : Int32))] (.int (0 : Int32)) := Arv.set Ar12 qq12 SS12 NN12 HH12 GG12 (fits_nar_char _) W12 1 rfl (Nat.le_of_ble_eq_true rfl)
  have zz13 := (Nat.le_trans zz8 (Keep.of_wr W12).1)
  have N12 := Fr.snoc X12 N7 g_b0
  have pre14 : Go p e below (s₁.setTop (entryFrame m #[(.long x0), (.int x1), (.int x2), (.int x3), (.int x4)] maxLocals)) (T12.setTop (mkF m 26 #[.val (.long x0), .second, .val (.int x1), .val (.int x2), .val (.int x3), .val (.int x4), .val (.ref b0), .unset, .unset, .unset, .unset, .unset, .unset, .unset, .unset, .unset, .unset] [])) := fun t k => pre11 t (st12 t k)
  have pre15 : Go p e below (s₁.setTop (entryFrame m #[(.long x0), (.int x1), (.int x2), (.int x3), (.int x4)] maxLocals)) (T12.setTop (mkF m 34 #[.val (.long x0), .second, .val (.int x1), .val (.int x2), .val (.int x3), .val (.int x4), .val (.ref b0), .unset, .unset, .unset, .unset, .unset, .unset, .unset, .unset, .unset, .unset] [(.int (((x2 &&& (65535 : Int32))).toUInt32.toUInt16.toUInt32.toInt32)), (.int (2 : Int32)), (.ref b0)])) := by
    intro t k
    refine pre14 t ?_
    show Steps p.tables e below (T12.setTop (mkF m 26 #[.val (.long x0), .second, .val (.int x1), .val (.int x2), .val (.int x3), .val (.int x4), .val (.ref b0), .unset, .unset, .unset, .unset, .unset, .unset, .unset, .unset, .unset, .unset] [])) _
    refine XS.aload X12.here hx rfl (hb hby at_26) rfl rfl ?_
    show Steps p.tables e below (T12.setTop (mkF m 28 #[.val (.long x0), .second, .val (.int x1), .val (.int x2), .val (.int x3), .val (.int x4), .val (.ref b0), .unset, .unset, .unset, .unset, .unset, .unset, .unset, .unset, .unset, .unset] [(.ref b0)])) _
    refine XS.iconst X12.here hx rfl (hb hby at_28) ?_
    show Steps p.tables e below (T12.setTop (mkF m 29 #[.val (.long x0), .second, .val (.int x1), .val (.int x2), .val (.int x3), .val (.int x4), .val (.ref b0), .unset, .unset, .unset, .unset, .unset, .unset, .unset, .unset, .unset, .unset] [(.int (2 : Int32)), (.ref b0)])) _
    refine XS.iloadN X12.here hx rfl (hb hby at_29) rfl ?_
    show Steps p.tables e below (T12.setTop (mkF m 30 #[.val (.long x0), .second, .val (.int x1), .val (.int x2), .val (.int x3), .val (.int x4), .val (.ref b0), .unset, .unset, .unset, .unset, .unset, .unset, .unset, .unset, .unset, .unset] [(.int x2), (.int (2 : Int32)), (.ref b0)])) _
    refine X12.ldcI hx hown (mvT hZ (hw _ (List.mem_of_getElem? (i := 1) rfl))) (g := (mkF m 30 #[.val (.long x0), .second, .val (.int x1), .val (.int x2), .val (.int x3), .val (.int x4), .val (.ref b0), .unset, .unset, .unset, .unset, .unset, .unset, .unset, .unset, .unset, .unset] [(.int x2), (.int (2 : Int32)), (.ref b0)])) rfl (hb hby at_30) ?_
    show Steps p.tables e below (T12.setTop (mkF m 32 #[.val (.long x0), .second, .val (.int x1), .val (.int x2), .val (.int x3), .val (.int x4), .val (.ref b0), .unset, .unset, .unset, .unset, .unset, .unset, .unset, .unset, .unset, .unset] [(.int (65535 : Int32)), (.int x2), (.int (2 : Int32)), (.ref b0)])) _
    refine XS.iand X12.here hx rfl (hb hby at_32) rfl ?_
    show Steps p.tables e below (T12.setTop (mkF m 33 #[.val (.long x0), .second, .val (.int x1), .val (.int x2), .val (.int x3), .val (.int x4), .val (.ref b0), .unset, .unset, .unset, .unset, .unset, .unset, .unset, .unset, .unset, .unset] [(.int (x2 &&& (65535 : Int32))), (.int (2 : Int32)), (.ref b0)])) _
    refine XS.i2c X12.here hx rfl (hb hby at_33) rfl ?_
    show Steps p.tables e below (T12.setTop (mkF m 34 #[.val (.long x0), .second, .val (.int x1), .val (.int x2), .val (.int x3), .val (.int x4), .val (.ref b0), .unset, .unset, .unset, .unset, .unset, .unset, .unset, .unset, .unset, .unset] [(.int (((x2 &&& (65535 : Int32))).toUInt32.toUInt16.toUInt32.toInt32)), (.int (2 : Int32)), (.ref b0)])) _
    exact k
  obtain ⟨u2, h_u2⟩ : ∃ z : Int32, z = (((x2 &&& (65535 : Int32))).toUInt32.toUInt16.toUInt32.toInt32) := ⟨_, rfl⟩
  have pre16 : Go p e below (s₁.setTop (entryFrame m #[(.long x0), (.int x1), (.int x2), (.int x3), (.int x4)] maxLocals)) (T12.setTop (mkF m 34 #[.val (.long x0), .second, .val (.int x1), .val (.int x2), .val (.int x3), .val (.int x4), .val (.ref b0), .unset, .unset, .unset, .unset, .unset, .unset, .unset, .unset, .unset, .unset] [(.int u2), (.int (2 : Int32)), (.ref b0)])) := by rw [h_u2]; exact pre15
  obtain ⟨cl17, Ar17, qq17, SS17, NN17, HH17, GG17⟩ := V12
  have hin17 : ¬ ((2 : Int32) < 0 ∨ cl17.slots.size ≤ ((2 : Int32)).toNatClampNeg) := inb_of SS17 ⟨by decide, by decide⟩
  obtain ⟨T17, h17, X17, e17, W17, st17⟩ := stC X12 hx hZ e12 Ar17 (j := (2 : Int32)) hin17 (g := (mkF m 34 #[.val (.long x0), .second, .val (.int x1), .val (.int x2), .val (.int x3), .val (.int x4), .val (.ref b0), .unset, .unset, .unset, .unset, .unset, .unset, .unset, .unset, .unset, .unset] [(.int u2), (.int (2 : Int32)), (.ref b0)])) rfl rfl (hb hby at_34)
  have V17 : Arv Z h17 b0 k2 .char (5 : Int32) [(.int (nar .char u0)), (.int (nar .char u1)), (.int (nar .char u2)), (.int (0 : Int32)), (.int (0 : Int32))] (.int (0 : Int32)) := Arv.set Ar17 qq17 SS17 NN17 HH17 GG17 (fits_nar_char _) W17 2 rfl (Nat.le_of_ble_eq_true rfl)
  have zz18 := (Nat.le_trans zz13 (Keep.of_wr W17).1)
  have N17 := Fr.snoc X17 N12 g_b0
  have pre19 : Go p e below (s₁.setTop (entryFrame m #[(.long x0), (.int x1), (.int x2), (.int x3), (.int x4)] maxLocals)) (T17.setTop (mkF m 35 #[.val (.long x0), .second, .val (.int x1), .val (.int x2), .val (.int x3), .val (.int x4), .val (.ref b0), .unset, .unset, .unset, .unset, .unset, .unset, .unset, .unset, .unset, .unset] [])) := fun t k => pre16 t (st17 t k)
  have pre20 : Go p e below (s₁.setTop (entryFrame m #[(.long x0), (.int x1), (.int x2), (.int x3), (.int x4)] maxLocals)) (T17.setTop (mkF m 46 #[.val (.long x0), .second, .val (.int x1), .val (.int x2), .val (.int x3), .val (.int x4), .val (.ref b0), .unset, .unset, .unset, .unset, .unset, .unset, .unset, .unset, .unset, .unset] [(.int ((((((x2).toUInt32 >>> (((16 : Int32)) &&& 31).toUInt32).toInt32) &&& (65535 : Int32))).toUInt32.toUInt16.toUInt32.toInt32)), (.int (3 : Int32)), (.ref b0)])) := by
    intro t k
    refine pre19 t ?_
    show Steps p.tables e below (T17.setTop (mkF m 35 #[.val (.long x0), .second, .val (.int x1), .val (.int x2), .val (.int x3), .val (.int x4), .val (.ref b0), .unset, .unset, .unset, .unset, .unset, .unset, .unset, .unset, .unset, .unset] [])) _
    refine XS.aload X17.here hx rfl (hb hby at_35) rfl rfl ?_
    show Steps p.tables e below (T17.setTop (mkF m 37 #[.val (.long x0), .second, .val (.int x1), .val (.int x2), .val (.int x3), .val (.int x4), .val (.ref b0), .unset, .unset, .unset, .unset, .unset, .unset, .unset, .unset, .unset, .unset] [(.ref b0)])) _
    refine XS.iconst X17.here hx rfl (hb hby at_37) ?_
    show Steps p.tables e below (T17.setTop (mkF m 38 #[.val (.long x0), .second, .val (.int x1), .val (.int x2), .val (.int x3), .val (.int x4), .val (.ref b0), .unset, .unset, .unset, .unset, .unset, .unset, .unset, .unset, .unset, .unset] [(.int (3 : Int32)), (.ref b0)])) _
    refine XS.iloadN X17.here hx rfl (hb hby at_38) rfl ?_
    show Steps p.tables e below (T17.setTop (mkF m 39 #[.val (.long x0), .second, .val (.int x1), .val (.int x2), .val (.int x3), .val (.int x4), .val (.ref b0), .unset, .unset, .unset, .unset, .unset, .unset, .unset, .unset, .unset, .unset] [(.int x2), (.int (3 : Int32)), (.ref b0)])) _
    refine XS.bipush X17.here hx rfl (hb hby at_39) ?_
    show Steps p.tables e below (T17.setTop (mkF m 41 #[.val (.long x0), .second, .val (.int x1), .val (.int x2), .val (.int x3), .val (.int x4), .val (.ref b0), .unset, .unset, .unset, .unset, .unset, .unset, .unset, .unset, .unset, .unset] [(.int (16 : Int32)), (.int x2), (.int (3 : Int32)), (.ref b0)])) _
    refine XS.iushr X17.here hx rfl (hb hby at_41) rfl ?_
    show Steps p.tables e below (T17.setTop (mkF m 42 #[.val (.long x0), .second, .val (.int x1), .val (.int x2), .val (.int x3), .val (.int x4), .val (.ref b0), .unset, .unset, .unset, .unset, .unset, .unset, .unset, .unset, .unset, .unset] [(.int (((x2).toUInt32 >>> (((16 : Int32)) &&& 31).toUInt32).toInt32)), (.int (3 : Int32)), (.ref b0)])) _
    refine X17.ldcI hx hown (mvT hZ (hw _ (List.mem_of_getElem? (i := 1) rfl))) (g := (mkF m 42 #[.val (.long x0), .second, .val (.int x1), .val (.int x2), .val (.int x3), .val (.int x4), .val (.ref b0), .unset, .unset, .unset, .unset, .unset, .unset, .unset, .unset, .unset, .unset] [(.int (((x2).toUInt32 >>> (((16 : Int32)) &&& 31).toUInt32).toInt32)), (.int (3 : Int32)), (.ref b0)])) rfl (hb hby at_42) ?_
    show Steps p.tables e below (T17.setTop (mkF m 44 #[.val (.long x0), .second, .val (.int x1), .val (.int x2), .val (.int x3), .val (.int x4), .val (.ref b0), .unset, .unset, .unset, .unset, .unset, .unset, .unset, .unset, .unset, .unset] [(.int (65535 : Int32)), (.int (((x2).toUInt32 >>> (((16 : Int32)) &&& 31).toUInt32).toInt32)), (.int (3 : Int32)), (.ref b0)])) _
    refine XS.iand X17.here hx rfl (hb hby at_44) rfl ?_
    show Steps p.tables e below (T17.setTop (mkF m 45 #[.val (.long x0), .second, .val (.int x1), .val (.int x2), .val (.int x3), .val (.int x4), .val (.ref b0), .unset, .unset, .unset, .unset, .unset, .unset, .unset, .unset, .unset, .unset] [(.int ((((x2).toUInt32 >>> (((16 : Int32)) &&& 31).toUInt32).toInt32) &&& (65535 : Int32))), (.int (3 : Int32)), (.ref b0)])) _
    refine XS.i2c X17.here hx rfl (hb hby at_45) rfl ?_
    show Steps p.tables e below (T17.setTop (mkF m 46 #[.val (.long x0), .second, .val (.int x1), .val (.int x2), .val (.int x3), .val (.int x4), .val (.ref b0), .unset, .unset, .unset, .unset, .unset, .unset, .unset, .unset, .unset, .unset] [(.int ((((((x2).toUInt32 >>> (((16 : Int32)) &&& 31).toUInt32).toInt32) &&& (65535 : Int32))).toUInt32.toUInt16.toUInt32.toInt32)), (.int (3 : Int32)), (.ref b0)])) _
    exact k
  obtain ⟨u3, h_u3⟩ : ∃ z : Int32, z = ((((((x2).toUInt32 >>> (((16 : Int32)) &&& 31).toUInt32).toInt32) &&& (65535 : Int32))).toUInt32.toUInt16.toUInt32.toInt32) := ⟨_, rfl⟩
  have pre21 : Go p e below (s₁.setTop (entryFrame m #[(.long x0), (.int x1), (.int x2), (.int x3), (.int x4)] maxLocals)) (T17.setTop (mkF m 46 #[.val (.long x0), .second, .val (.int x1), .val (.int x2), .val (.int x3), .val (.int x4), .val (.ref b0), .unset, .unset, .unset, .unset, .unset, .unset, .unset, .unset, .unset, .unset] [(.int u3), (.int (3 : Int32)), (.ref b0)])) := by rw [h_u3]; exact pre20
  obtain ⟨cl22, Ar22, qq22, SS22, NN22, HH22, GG22⟩ := V17
  have hin22 : ¬ ((3 : Int32) < 0 ∨ cl22.slots.size ≤ ((3 : Int32)).toNatClampNeg) := inb_of SS22 ⟨by decide, by decide⟩
  obtain ⟨T22, h22, X22, e22, W22, st22⟩ := stC X17 hx hZ e17 Ar22 (j := (3 : Int32)) hin22 (g := (mkF m 46 #[.val (.long x0), .second, .val (.int x1), .val (.int x2), .val (.int x3), .val (.int x4), .val (.ref b0), .unset, .unset, .unset, .unset, .unset, .unset, .unset, .unset, .unset, .unset] [(.int u3), (.int (3 : Int32)), (.ref b0)])) rfl rfl (hb hby at_46)
  have V22 : Arv Z h22 b0 k2 .char (5 : Int32) [(.int (nar .char u0)), (.int (nar .char u1)), (.int (nar .char u2)), (.int (nar .char u3)), (.int (0 : Int32))] (.int (0 : Int32)) := Arv.set Ar22 qq22 SS22 NN22 HH22 GG22 (fits_nar_char _) W22 3 rfl (Nat.le_of_ble_eq_true rfl)
  have zz23 := (Nat.le_trans zz18 (Keep.of_wr W22).1)
  have N22 := Fr.snoc X22 N17 g_b0
  have pre24 : Go p e below (s₁.setTop (entryFrame m #[(.long x0), (.int x1), (.int x2), (.int x3), (.int x4)] maxLocals)) (T22.setTop (mkF m 47 #[.val (.long x0), .second, .val (.int x1), .val (.int x2), .val (.int x3), .val (.int x4), .val (.ref b0), .unset, .unset, .unset, .unset, .unset, .unset, .unset, .unset, .unset, .unset] [])) := fun t k => pre21 t (st22 t k)
  have pre25 : Go p e below (s₁.setTop (entryFrame m #[(.long x0), (.int x1), (.int x2), (.int x3), (.int x4)] maxLocals)) (T22.setTop (mkF m 56 #[.val (.long x0), .second, .val (.int x1), .val (.int x2), .val (.int x3), .val (.int x4), .val (.ref b0), .unset, .unset, .unset, .unset, .unset, .unset, .unset, .unset, .unset, .unset] [(.int (((x3 &&& (65535 : Int32))).toUInt32.toUInt16.toUInt32.toInt32)), (.int (4 : Int32)), (.ref b0)])) := by
    intro t k
    refine pre24 t ?_
    show Steps p.tables e below (T22.setTop (mkF m 47 #[.val (.long x0), .second, .val (.int x1), .val (.int x2), .val (.int x3), .val (.int x4), .val (.ref b0), .unset, .unset, .unset, .unset, .unset, .unset, .unset, .unset, .unset, .unset] [])) _
    refine XS.aload X22.here hx rfl (hb hby at_47) rfl rfl ?_
    show Steps p.tables e below (T22.setTop (mkF m 49 #[.val (.long x0), .second, .val (.int x1), .val (.int x2), .val (.int x3), .val (.int x4), .val (.ref b0), .unset, .unset, .unset, .unset, .unset, .unset, .unset, .unset, .unset, .unset] [(.ref b0)])) _
    refine XS.iconst X22.here hx rfl (hb hby at_49) ?_
    show Steps p.tables e below (T22.setTop (mkF m 50 #[.val (.long x0), .second, .val (.int x1), .val (.int x2), .val (.int x3), .val (.int x4), .val (.ref b0), .unset, .unset, .unset, .unset, .unset, .unset, .unset, .unset, .unset, .unset] [(.int (4 : Int32)), (.ref b0)])) _
    refine XS.iload X22.here hx rfl (hb hby at_50) rfl ?_
    show Steps p.tables e below (T22.setTop (mkF m 52 #[.val (.long x0), .second, .val (.int x1), .val (.int x2), .val (.int x3), .val (.int x4), .val (.ref b0), .unset, .unset, .unset, .unset, .unset, .unset, .unset, .unset, .unset, .unset] [(.int x3), (.int (4 : Int32)), (.ref b0)])) _
    refine X22.ldcI hx hown (mvT hZ (hw _ (List.mem_of_getElem? (i := 1) rfl))) (g := (mkF m 52 #[.val (.long x0), .second, .val (.int x1), .val (.int x2), .val (.int x3), .val (.int x4), .val (.ref b0), .unset, .unset, .unset, .unset, .unset, .unset, .unset, .unset, .unset, .unset] [(.int x3), (.int (4 : Int32)), (.ref b0)])) rfl (hb hby at_52) ?_
    show Steps p.tables e below (T22.setTop (mkF m 54 #[.val (.long x0), .second, .val (.int x1), .val (.int x2), .val (.int x3), .val (.int x4), .val (.ref b0), .unset, .unset, .unset, .unset, .unset, .unset, .unset, .unset, .unset, .unset] [(.int (65535 : Int32)), (.int x3), (.int (4 : Int32)), (.ref b0)])) _
    refine XS.iand X22.here hx rfl (hb hby at_54) rfl ?_
    show Steps p.tables e below (T22.setTop (mkF m 55 #[.val (.long x0), .second, .val (.int x1), .val (.int x2), .val (.int x3), .val (.int x4), .val (.ref b0), .unset, .unset, .unset, .unset, .unset, .unset, .unset, .unset, .unset, .unset] [(.int (x3 &&& (65535 : Int32))), (.int (4 : Int32)), (.ref b0)])) _
    refine XS.i2c X22.here hx rfl (hb hby at_55) rfl ?_
    show Steps p.tables e below (T22.setTop (mkF m 56 #[.val (.long x0), .second, .val (.int x1), .val (.int x2), .val (.int x3), .val (.int x4), .val (.ref b0), .unset, .unset, .unset, .unset, .unset, .unset, .unset, .unset, .unset, .unset] [(.int (((x3 &&& (65535 : Int32))).toUInt32.toUInt16.toUInt32.toInt32)), (.int (4 : Int32)), (.ref b0)])) _
    exact k
  obtain ⟨u4, h_u4⟩ : ∃ z : Int32, z = (((x3 &&& (65535 : Int32))).toUInt32.toUInt16.toUInt32.toInt32) := ⟨_, rfl⟩
  have pre26 : Go p e below (s₁.setTop (entryFrame m #[(.long x0), (.int x1), (.int x2), (.int x3), (.int x4)] maxLocals)) (T22.setTop (mkF m 56 #[.val (.long x0), .second, .val (.int x1), .val (.int x2), .val (.int x3), .val (.int x4), .val (.ref b0), .unset, .unset, .unset, .unset, .unset, .unset, .unset, .unset, .unset, .unset] [(.int u4), (.int (4 : Int32)), (.ref b0)])) := by rw [h_u4]; exact pre25
  obtain ⟨cl27, Ar27, qq27, SS27, NN27, HH27, GG27⟩ := V22
  have hin27 : ¬ ((4 : Int32) < 0 ∨ cl27.slots.size ≤ ((4 : Int32)).toNatClampNeg) := inb_of SS27 ⟨by decide, by decide⟩
  obtain ⟨T27, h27, X27, e27, W27, st27⟩ := stC X22 hx hZ e22 Ar27 (j := (4 : Int32)) hin27 (g := (mkF m 56 #[.val (.long x0), .second, .val (.int x1), .val (.int x2), .val (.int x3), .val (.int x4), .val (.ref b0), .unset, .unset, .unset, .unset, .unset, .unset, .unset, .unset, .unset, .unset] [(.int u4), (.int (4 : Int32)), (.ref b0)])) rfl rfl (hb hby at_56)
  have V27 : Arv Z h27 b0 k2 .char (5 : Int32) [(.int (nar .char u0)), (.int (nar .char u1)), (.int (nar .char u2)), (.int (nar .char u3)), (.int (nar .char u4))] (.int (0 : Int32)) := Arv.set Ar27 qq27 SS27 NN27 HH27 GG27 (fits_nar_char _) W27 4 rfl (Nat.le_of_ble_eq_true rfl)
  have zz28 := (Nat.le_trans zz23 (Keep.of_wr W27).1)
  have N27 := Fr.snoc X27 N22 g_b0
  have pre29 : Go p e below (s₁.setTop (entryFrame m #[(.long x0), (.int x1), (.int x2), (.int x3), (.int x4)] maxLocals)) (T27.setTop (mkF m 57 #[.val (.long x0), .second, .val (.int x1), .val (.int x2), .val (.int x3), .val (.int x4), .val (.ref b0), .unset, .unset, .unset, .unset, .unset, .unset, .unset, .unset, .unset, .unset] [])) := fun t k => pre26 t (st27 t k)
  have VT : Arv Z h27 b0 k2 .char (5 : Int32) ([nar .char u0, nar .char u1, nar .char u2, nar .char u3, nar .char u4].map Value.int) (.int (0 : Int32)) := V27
  have pre30 : Go p e below (s₁.setTop (entryFrame m #[(.long x0), (.int x1), (.int x2), (.int x3), (.int x4)] maxLocals)) (T27.setTop (mkF m 64 #[.val (.long x0), .second, .val (.int x1), .val (.int x2), .val (.int x3), .val (.int x4), .val (.ref b0), .unset, .unset, .unset, .unset, .unset, .unset, .unset, .unset, .unset, .unset] [(.int ((((x3).toUInt32 >>> (((16 : Int32)) &&& 31).toUInt32).toInt32) &&& (1 : Int32)))])) := by
    intro t k
    refine pre29 t ?_
    show Steps p.tables e below (T27.setTop (mkF m 57 #[.val (.long x0), .second, .val (.int x1), .val (.int x2), .val (.int x3), .val (.int x4), .val (.ref b0), .unset, .unset, .unset, .unset, .unset, .unset, .unset, .unset, .unset, .unset] [])) _
    refine XS.iload X27.here hx rfl (hb hby at_57) rfl ?_
    show Steps p.tables e below (T27.setTop (mkF m 59 #[.val (.long x0), .second, .val (.int x1), .val (.int x2), .val (.int x3), .val (.int x4), .val (.ref b0), .unset, .unset, .unset, .unset, .unset, .unset, .unset, .unset, .unset, .unset] [(.int x3)])) _
    refine XS.bipush X27.here hx rfl (hb hby at_59) ?_
    show Steps p.tables e below (T27.setTop (mkF m 61 #[.val (.long x0), .second, .val (.int x1), .val (.int x2), .val (.int x3), .val (.int x4), .val (.ref b0), .unset, .unset, .unset, .unset, .unset, .unset, .unset, .unset, .unset, .unset] [(.int (16 : Int32)), (.int x3)])) _
    refine XS.iushr X27.here hx rfl (hb hby at_61) rfl ?_
    show Steps p.tables e below (T27.setTop (mkF m 62 #[.val (.long x0), .second, .val (.int x1), .val (.int x2), .val (.int x3), .val (.int x4), .val (.ref b0), .unset, .unset, .unset, .unset, .unset, .unset, .unset, .unset, .unset, .unset] [(.int (((x3).toUInt32 >>> (((16 : Int32)) &&& 31).toUInt32).toInt32))])) _
    refine XS.iconst X27.here hx rfl (hb hby at_62) ?_
    show Steps p.tables e below (T27.setTop (mkF m 63 #[.val (.long x0), .second, .val (.int x1), .val (.int x2), .val (.int x3), .val (.int x4), .val (.ref b0), .unset, .unset, .unset, .unset, .unset, .unset, .unset, .unset, .unset, .unset] [(.int (1 : Int32)), (.int (((x3).toUInt32 >>> (((16 : Int32)) &&& 31).toUInt32).toInt32))])) _
    refine XS.iand X27.here hx rfl (hb hby at_63) rfl ?_
    show Steps p.tables e below (T27.setTop (mkF m 64 #[.val (.long x0), .second, .val (.int x1), .val (.int x2), .val (.int x3), .val (.int x4), .val (.ref b0), .unset, .unset, .unset, .unset, .unset, .unset, .unset, .unset, .unset, .unset] [(.int ((((x3).toUInt32 >>> (((16 : Int32)) &&& 31).toUInt32).toInt32) &&& (1 : Int32)))])) _
    exact k
  obtain ⟨ib, h_ib⟩ : ∃ z : Int32, z = (if ((((x3).toUInt32 >>> (((16 : Int32)) &&& 31).toUInt32).toInt32) &&& (1 : Int32)) = (0 : Int32) then (0 : Int32) else (1 : Int32)) := ⟨_, rfl⟩
  have pre32 : Go p e below (s₁.setTop (entryFrame m #[(.long x0), (.int x1), (.int x2), (.int x3), (.int x4)] maxLocals)) (T27.setTop (mkF m 72 #[.val (.long x0), .second, .val (.int x1), .val (.int x2), .val (.int x3), .val (.int x4), .val (.ref b0), .unset, .unset, .unset, .unset, .unset, .unset, .unset, .unset, .unset, .unset] [(.int ib)])) := by
    intro t k
    refine pre30 t ?_
    show Steps p.tables e below (T27.setTop (mkF m 64 #[.val (.long x0), .second, .val (.int x1), .val (.int x2), .val (.int x3), .val (.int x4), .val (.ref b0), .unset, .unset, .unset, .unset, .unset, .unset, .unset, .unset, .unset, .unset] [(.int ((((x3).toUInt32 >>> (((16 : Int32)) &&& 31).toUInt32).toInt32) &&& (1 : Int32)))])) _
    by_cases hc64_31 : ((((x3).toUInt32 >>> (((16 : Int32)) &&& 31).toUInt32).toInt32) &&& (1 : Int32)) = (0 : Int32)
    · skip
      refine XS.ifYes X27.here hx rfl (pc0 := 64) (pc' := 71) rfl (hb hby at_64) rfl (XT.i0_eq_t hc64_31) (by decide) (by decide) ?_
      show Steps p.tables e below (T27.setTop (mkF m 71 #[.val (.long x0), .second, .val (.int x1), .val (.int x2), .val (.int x3), .val (.int x4), .val (.ref b0), .unset, .unset, .unset, .unset, .unset, .unset, .unset, .unset, .unset, .unset] [])) _
      refine XS.iconst X27.here hx rfl (hb hby at_71) ?_
      show Steps p.tables e below (T27.setTop (mkF m 72 #[.val (.long x0), .second, .val (.int x1), .val (.int x2), .val (.int x3), .val (.int x4), .val (.ref b0), .unset, .unset, .unset, .unset, .unset, .unset, .unset, .unset, .unset, .unset] [(.int (0 : Int32))])) _
      rw [show ib = (0 : Int32) from by rw [h_ib]; rw [if_pos hc64_31]] at k
      exact k
    · skip
      refine XS.ifNo X27.here hx rfl (hb hby at_64) rfl (XT.i0_eq_f hc64_31) ?_
      show Steps p.tables e below (T27.setTop (mkF m 67 #[.val (.long x0), .second, .val (.int x1), .val (.int x2), .val (.int x3), .val (.int x4), .val (.ref b0), .unset, .unset, .unset, .unset, .unset, .unset, .unset, .unset, .unset, .unset] [])) _
      refine XS.iconst X27.here hx rfl (hb hby at_67) ?_
      show Steps p.tables e below (T27.setTop (mkF m 68 #[.val (.long x0), .second, .val (.int x1), .val (.int x2), .val (.int x3), .val (.int x4), .val (.ref b0), .unset, .unset, .unset, .unset, .unset, .unset, .unset, .unset, .unset, .unset] [(.int (1 : Int32))])) _
      refine XS.goto X27.here hx rfl (pc0 := 68) (pc' := 72) rfl (hb hby at_68) (by decide) (by decide) ?_
      show Steps p.tables e below (T27.setTop (mkF m 72 #[.val (.long x0), .second, .val (.int x1), .val (.int x2), .val (.int x3), .val (.int x4), .val (.ref b0), .unset, .unset, .unset, .unset, .unset, .unset, .unset, .unset, .unset, .unset] [(.int (1 : Int32))])) _
      rw [show ib = (1 : Int32) from by rw [h_ib]; rw [if_neg hc64_31]] at k
      exact k
  have pre33 : Go p e below (s₁.setTop (entryFrame m #[(.long x0), (.int x1), (.int x2), (.int x3), (.int x4)] maxLocals)) (T27.setTop (mkF m 82 #[.val (.long x0), .second, .val (.int x1), .val (.int x2), .val (.int x3), .val (.int x4), .val (.ref b0), .val (.int ib), .unset, .unset, .unset, .unset, .unset, .unset, .unset, .unset, .unset] [(.int ((x4 &&& (2147483647 : Int32)) % (6 : Int32)))])) := by
    intro t k
    refine pre32 t ?_
    show Steps p.tables e below (T27.setTop (mkF m 72 #[.val (.long x0), .second, .val (.int x1), .val (.int x2), .val (.int x3), .val (.int x4), .val (.ref b0), .unset, .unset, .unset, .unset, .unset, .unset, .unset, .unset, .unset, .unset] [(.int ib)])) _
    refine XS.istore X27.here hx rfl (hb hby at_72) rfl (l' := #[.val (.long x0), .second, .val (.int x1), .val (.int x2), .val (.int x3), .val (.int x4), .val (.ref b0), .val (.int ib), .unset, .unset, .unset, .unset, .unset, .unset, .unset, .unset, .unset]) rfl ?_
    show Steps p.tables e below (T27.setTop (mkF m 74 #[.val (.long x0), .second, .val (.int x1), .val (.int x2), .val (.int x3), .val (.int x4), .val (.ref b0), .val (.int ib), .unset, .unset, .unset, .unset, .unset, .unset, .unset, .unset, .unset] [])) _
    refine XS.iload X27.here hx rfl (hb hby at_74) rfl ?_
    show Steps p.tables e below (T27.setTop (mkF m 76 #[.val (.long x0), .second, .val (.int x1), .val (.int x2), .val (.int x3), .val (.int x4), .val (.ref b0), .val (.int ib), .unset, .unset, .unset, .unset, .unset, .unset, .unset, .unset, .unset] [(.int x4)])) _
    refine X27.ldcI hx hown (mvT hZ (hw _ (List.mem_of_getElem? (i := 2) rfl))) (g := (mkF m 76 #[.val (.long x0), .second, .val (.int x1), .val (.int x2), .val (.int x3), .val (.int x4), .val (.ref b0), .val (.int ib), .unset, .unset, .unset, .unset, .unset, .unset, .unset, .unset, .unset] [(.int x4)])) rfl (hb hby at_76) ?_
    show Steps p.tables e below (T27.setTop (mkF m 78 #[.val (.long x0), .second, .val (.int x1), .val (.int x2), .val (.int x3), .val (.int x4), .val (.ref b0), .val (.int ib), .unset, .unset, .unset, .unset, .unset, .unset, .unset, .unset, .unset] [(.int (2147483647 : Int32)), (.int x4)])) _
    refine XS.iand X27.here hx rfl (hb hby at_78) rfl ?_
    show Steps p.tables e below (T27.setTop (mkF m 79 #[.val (.long x0), .second, .val (.int x1), .val (.int x2), .val (.int x3), .val (.int x4), .val (.ref b0), .val (.int ib), .unset, .unset, .unset, .unset, .unset, .unset, .unset, .unset, .unset] [(.int (x4 &&& (2147483647 : Int32)))])) _
    refine XS.bipush X27.here hx rfl (hb hby at_79) ?_
    show Steps p.tables e below (T27.setTop (mkF m 81 #[.val (.long x0), .second, .val (.int x1), .val (.int x2), .val (.int x3), .val (.int x4), .val (.ref b0), .val (.int ib), .unset, .unset, .unset, .unset, .unset, .unset, .unset, .unset, .unset] [(.int (6 : Int32)), (.int (x4 &&& (2147483647 : Int32)))])) _
    refine own_irem X27.here hx rfl (hb hby at_81) rfl (by decide) ?_
    show Steps p.tables e below (T27.setTop (mkF m 82 #[.val (.long x0), .second, .val (.int x1), .val (.int x2), .val (.int x3), .val (.int x4), .val (.ref b0), .val (.int ib), .unset, .unset, .unset, .unset, .unset, .unset, .unset, .unset, .unset] [(.int ((x4 &&& (2147483647 : Int32)) % (6 : Int32)))])) _
    exact k
  obtain ⟨xx, h_xx⟩ : ∃ z : Int32, z = ((x4 &&& (2147483647 : Int32)) % (6 : Int32)) := ⟨_, rfl⟩
  have pre34 : Go p e below (s₁.setTop (entryFrame m #[(.long x0), (.int x1), (.int x2), (.int x3), (.int x4)] maxLocals)) (T27.setTop (mkF m 82 #[.val (.long x0), .second, .val (.int x1), .val (.int x2), .val (.int x3), .val (.int x4), .val (.ref b0), .val (.int ib), .unset, .unset, .unset, .unset, .unset, .unset, .unset, .unset, .unset] [(.int xx)])) := by rw [h_xx]; exact pre33
  have hxx := own_six h_xx
  have pre35 : Go p e below (s₁.setTop (entryFrame m #[(.long x0), (.int x1), (.int x2), (.int x3), (.int x4)] maxLocals)) (T27.setTop (mkF m 95 #[.val (.long x0), .second, .val (.int x1), .val (.int x2), .val (.int x3), .val (.int x4), .val (.ref b0), .val (.int ib), .val (.int xx), .unset, .unset, .unset, .unset, .unset, .unset, .unset, .unset] [(.int (((((x4).toUInt32 >>> (((8 : Int32)) &&& 31).toUInt32).toInt32) &&& (2147483647 : Int32)) % (6 : Int32)))])) := by
    intro t k
    refine pre34 t ?_
    show Steps p.tables e below (T27.setTop (mkF m 82 #[.val (.long x0), .second, .val (.int x1), .val (.int x2), .val (.int x3), .val (.int x4), .val (.ref b0), .val (.int ib), .unset, .unset, .unset, .unset, .unset, .unset, .unset, .unset, .unset] [(.int xx)])) _
    refine XS.istore X27.here hx rfl (hb hby at_82) rfl (l' := #[.val (.long x0), .second, .val (.int x1), .val (.int x2), .val (.int x3), .val (.int x4), .val (.ref b0), .val (.int ib), .val (.int xx), .unset, .unset, .unset, .unset, .unset, .unset, .unset, .unset]) rfl ?_
    show Steps p.tables e below (T27.setTop (mkF m 84 #[.val (.long x0), .second, .val (.int x1), .val (.int x2), .val (.int x3), .val (.int x4), .val (.ref b0), .val (.int ib), .val (.int xx), .unset, .unset, .unset, .unset, .unset, .unset, .unset, .unset] [])) _
    refine XS.iload X27.here hx rfl (hb hby at_84) rfl ?_
    show Steps p.tables e below (T27.setTop (mkF m 86 #[.val (.long x0), .second, .val (.int x1), .val (.int x2), .val (.int x3), .val (.int x4), .val (.ref b0), .val (.int ib), .val (.int xx), .unset, .unset, .unset, .unset, .unset, .unset, .unset, .unset] [(.int x4)])) _
    refine XS.bipush X27.here hx rfl (hb hby at_86) ?_
    show Steps p.tables e below (T27.setTop (mkF m 88 #[.val (.long x0), .second, .val (.int x1), .val (.int x2), .val (.int x3), .val (.int x4), .val (.ref b0), .val (.int ib), .val (.int xx), .unset, .unset, .unset, .unset, .unset, .unset, .unset, .unset] [(.int (8 : Int32)), (.int x4)])) _
    refine XS.iushr X27.here hx rfl (hb hby at_88) rfl ?_
    show Steps p.tables e below (T27.setTop (mkF m 89 #[.val (.long x0), .second, .val (.int x1), .val (.int x2), .val (.int x3), .val (.int x4), .val (.ref b0), .val (.int ib), .val (.int xx), .unset, .unset, .unset, .unset, .unset, .unset, .unset, .unset] [(.int (((x4).toUInt32 >>> (((8 : Int32)) &&& 31).toUInt32).toInt32))])) _
    refine X27.ldcI hx hown (mvT hZ (hw _ (List.mem_of_getElem? (i := 2) rfl))) (g := (mkF m 89 #[.val (.long x0), .second, .val (.int x1), .val (.int x2), .val (.int x3), .val (.int x4), .val (.ref b0), .val (.int ib), .val (.int xx), .unset, .unset, .unset, .unset, .unset, .unset, .unset, .unset] [(.int (((x4).toUInt32 >>> (((8 : Int32)) &&& 31).toUInt32).toInt32))])) rfl (hb hby at_89) ?_
    show Steps p.tables e below (T27.setTop (mkF m 91 #[.val (.long x0), .second, .val (.int x1), .val (.int x2), .val (.int x3), .val (.int x4), .val (.ref b0), .val (.int ib), .val (.int xx), .unset, .unset, .unset, .unset, .unset, .unset, .unset, .unset] [(.int (2147483647 : Int32)), (.int (((x4).toUInt32 >>> (((8 : Int32)) &&& 31).toUInt32).toInt32))])) _
    refine XS.iand X27.here hx rfl (hb hby at_91) rfl ?_
    show Steps p.tables e below (T27.setTop (mkF m 92 #[.val (.long x0), .second, .val (.int x1), .val (.int x2), .val (.int x3), .val (.int x4), .val (.ref b0), .val (.int ib), .val (.int xx), .unset, .unset, .unset, .unset, .unset, .unset, .unset, .unset] [(.int ((((x4).toUInt32 >>> (((8 : Int32)) &&& 31).toUInt32).toInt32) &&& (2147483647 : Int32)))])) _
    refine XS.bipush X27.here hx rfl (hb hby at_92) ?_
    show Steps p.tables e below (T27.setTop (mkF m 94 #[.val (.long x0), .second, .val (.int x1), .val (.int x2), .val (.int x3), .val (.int x4), .val (.ref b0), .val (.int ib), .val (.int xx), .unset, .unset, .unset, .unset, .unset, .unset, .unset, .unset] [(.int (6 : Int32)), (.int ((((x4).toUInt32 >>> (((8 : Int32)) &&& 31).toUInt32).toInt32) &&& (2147483647 : Int32)))])) _
    refine own_irem X27.here hx rfl (hb hby at_94) rfl (by decide) ?_
    show Steps p.tables e below (T27.setTop (mkF m 95 #[.val (.long x0), .second, .val (.int x1), .val (.int x2), .val (.int x3), .val (.int x4), .val (.ref b0), .val (.int ib), .val (.int xx), .unset, .unset, .unset, .unset, .unset, .unset, .unset, .unset] [(.int (((((x4).toUInt32 >>> (((8 : Int32)) &&& 31).toUInt32).toInt32) &&& (2147483647 : Int32)) % (6 : Int32)))])) _
    exact k
  obtain ⟨yy, h_yy⟩ : ∃ z : Int32, z = (((((x4).toUInt32 >>> (((8 : Int32)) &&& 31).toUInt32).toInt32) &&& (2147483647 : Int32)) % (6 : Int32)) := ⟨_, rfl⟩
  have pre36 : Go p e below (s₁.setTop (entryFrame m #[(.long x0), (.int x1), (.int x2), (.int x3), (.int x4)] maxLocals)) (T27.setTop (mkF m 95 #[.val (.long x0), .second, .val (.int x1), .val (.int x2), .val (.int x3), .val (.int x4), .val (.ref b0), .val (.int ib), .val (.int xx), .unset, .unset, .unset, .unset, .unset, .unset, .unset, .unset] [(.int yy)])) := by rw [h_yy]; exact pre35
  have hyy := own_six h_yy
  have hbd := own_bounds hxx hyy
  have pre37 : Go p e below (s₁.setTop (entryFrame m #[(.long x0), (.int x1), (.int x2), (.int x3), (.int x4)] maxLocals)) (T27.setTop (mkF m 101 #[.val (.long x0), .second, .val (.int x1), .val (.int x2), .val (.int x3), .val (.int x4), .val (.ref b0), .val (.int ib), .val (.int xx), .val (.int yy), .unset, .unset, .unset, .unset, .unset, .unset, .unset] [(.int yy), (.int xx)])) := by
    intro t k
    refine pre36 t ?_
    show Steps p.tables e below (T27.setTop (mkF m 95 #[.val (.long x0), .second, .val (.int x1), .val (.int x2), .val (.int x3), .val (.int x4), .val (.ref b0), .val (.int ib), .val (.int xx), .unset, .unset, .unset, .unset, .unset, .unset, .unset, .unset] [(.int yy)])) _
    refine XS.istore X27.here hx rfl (hb hby at_95) rfl (l' := #[.val (.long x0), .second, .val (.int x1), .val (.int x2), .val (.int x3), .val (.int x4), .val (.ref b0), .val (.int ib), .val (.int xx), .val (.int yy), .unset, .unset, .unset, .unset, .unset, .unset, .unset]) rfl ?_
    show Steps p.tables e below (T27.setTop (mkF m 97 #[.val (.long x0), .second, .val (.int x1), .val (.int x2), .val (.int x3), .val (.int x4), .val (.ref b0), .val (.int ib), .val (.int xx), .val (.int yy), .unset, .unset, .unset, .unset, .unset, .unset, .unset] [])) _
    refine XS.iload X27.here hx rfl (hb hby at_97) rfl ?_
    show Steps p.tables e below (T27.setTop (mkF m 99 #[.val (.long x0), .second, .val (.int x1), .val (.int x2), .val (.int x3), .val (.int x4), .val (.ref b0), .val (.int ib), .val (.int xx), .val (.int yy), .unset, .unset, .unset, .unset, .unset, .unset, .unset] [(.int xx)])) _
    refine XS.iload X27.here hx rfl (hb hby at_99) rfl ?_
    show Steps p.tables e below (T27.setTop (mkF m 101 #[.val (.long x0), .second, .val (.int x1), .val (.int x2), .val (.int x3), .val (.int x4), .val (.ref b0), .val (.int ib), .val (.int xx), .val (.int yy), .unset, .unset, .unset, .unset, .unset, .unset, .unset] [(.int yy), (.int xx)])) _
    exact k
  obtain ⟨_, _, ⟨T38, L38, k38, n38⟩, -, X38, ⟨Lc38, hQ38, l38, y38, z38⟩, st38⟩ := Jvm.LawKit.callS X27 hx (y := (⟨"java/lang/Math", "min", "(II)I"⟩ : MethodName)) hown (mvT hZ (hw _ (List.mem_of_getElem? (i := 3) rfl))) (mvT hZ (hw _ (List.mem_of_getElem? (i := 4) rfl))) (mvT hZ (hw _ (List.mem_of_getElem? (i := 5) rfl))) (mvT hZ (hw _ (List.mem_of_getElem? (i := 6) rfl))) (by decide) (backOf (W := 0) (rm1 l Z a0 hw [] xx yy  h27 n0 zz28 ) hZ (hw _ (List.mem_of_getElem? (i := 6) rfl)) (hw _ (List.mem_of_getElem? (i := 5) rfl)) (by decide) (by decide)) (g := (mkF m 101 #[.val (.long x0), .second, .val (.int x1), .val (.int x2), .val (.int x3), .val (.int x4), .val (.ref b0), .val (.int ib), .val (.int xx), .val (.int yy), .unset, .unset, .unset, .unset, .unset, .unset, .unset] [(.int yy), (.int xx)])) rfl (by rw [hml]; rfl) (argsL := [(.int xx), (.int yy)]) (rest := []) (lenOf pd_11 rfl) rfl (by show 2 * 0 + _ ≤ _; exact Nat.le_of_eq rfl) (hb hby at_101) (fun _ _ => ⟨rfl, e27, (by decide : 1 + 0 ≤ _), (by decide : 5 + 0 ≤ _)⟩)
  dsimp only [Pt.U, Pt.locs, Pt.cells, Pt.slots] at X38 l38 y38 z38 st38 hQ38
  subst l38 y38 z38
  obtain ⟨rfl, N38q, hh38⟩ := hQ38
  have N38 := Fr.app N27 N38q
  have pre39 : Go p e below (s₁.setTop (entryFrame m #[(.long x0), (.int x1), (.int x2), (.int x3), (.int x4)] maxLocals)) (T38.setTop (mkF m 104 #[.val (.long x0), .second, .val (.int x1), .val (.int x2), .val (.int x3), .val (.int x4), .val (.ref b0), .val (.int ib), .val (.int xx), .val (.int yy), .unset, .unset, .unset, .unset, .unset, .unset, .unset] [(.int (fmin xx yy))])) := fun t k => pre37 t (st38 t k)
  obtain ⟨lo, h_lo⟩ : ∃ z : Int32, z = (fmin xx yy) := ⟨_, rfl⟩
  have pre40 : Go p e below (s₁.setTop (entryFrame m #[(.long x0), (.int x1), (.int x2), (.int x3), (.int x4)] maxLocals)) (T38.setTop (mkF m 104 #[.val (.long x0), .second, .val (.int x1), .val (.int x2), .val (.int x3), .val (.int x4), .val (.ref b0), .val (.int ib), .val (.int xx), .val (.int yy), .unset, .unset, .unset, .unset, .unset, .unset, .unset] [(.int lo)])) := by rw [h_lo]; exact pre39
  have pre41 : Go p e below (s₁.setTop (entryFrame m #[(.long x0), (.int x1), (.int x2), (.int x3), (.int x4)] maxLocals)) (T38.setTop (mkF m 110 #[.val (.long x0), .second, .val (.int x1), .val (.int x2), .val (.int x3), .val (.int x4), .val (.ref b0), .val (.int ib), .val (.int xx), .val (.int yy), .val (.int lo), .unset, .unset, .unset, .unset, .unset, .unset] [(.int yy), (.int xx)])) := by
    intro t k
    refine pre40 t ?_
    show Steps p.tables e below (T38.setTop (mkF m 104 #[.val (.long x0), .second, .val (.int x1), .val (.int x2), .val (.int x3), .val (.int x4), .val (.ref b0), .val (.int ib), .val (.int xx), .val (.int yy), .unset, .unset, .unset, .unset, .unset, .unset, .unset] [(.int lo)])) _
    refine XS.istore X38.here hx rfl (hb hby at_104) rfl (l' := #[.val (.long x0), .second, .val (.int x1), .val (.int x2), .val (.int x3), .val (.int x4), .val (.ref b0), .val (.int ib), .val (.int xx), .val (.int yy), .val (.int lo), .unset, .unset, .unset, .unset, .unset, .unset]) rfl ?_
    show Steps p.tables e below (T38.setTop (mkF m 106 #[.val (.long x0), .second, .val (.int x1), .val (.int x2), .val (.int x3), .val (.int x4), .val (.ref b0), .val (.int ib), .val (.int xx), .val (.int yy), .val (.int lo), .unset, .unset, .unset, .unset, .unset, .unset] [])) _
    refine XS.iload X38.here hx rfl (hb hby at_106) rfl ?_
    show Steps p.tables e below (T38.setTop (mkF m 108 #[.val (.long x0), .second, .val (.int x1), .val (.int x2), .val (.int x3), .val (.int x4), .val (.ref b0), .val (.int ib), .val (.int xx), .val (.int yy), .val (.int lo), .unset, .unset, .unset, .unset, .unset, .unset] [(.int xx)])) _
    refine XS.iload X38.here hx rfl (hb hby at_108) rfl ?_
    show Steps p.tables e below (T38.setTop (mkF m 110 #[.val (.long x0), .second, .val (.int x1), .val (.int x2), .val (.int x3), .val (.int x4), .val (.ref b0), .val (.int ib), .val (.int xx), .val (.int yy), .val (.int lo), .unset, .unset, .unset, .unset, .unset, .unset] [(.int yy), (.int xx)])) _
    exact k
  obtain ⟨_, _, ⟨T42, L42, k42, n42⟩, -, X42, ⟨Lc42, hQ42, l42, y42, z42⟩, st42⟩ := Jvm.LawKit.callS X38 hx (y := (⟨"java/lang/Math", "max", "(II)I"⟩ : MethodName)) hown (mvT hZ (hw _ (List.mem_of_getElem? (i := 7) rfl))) (mvT hZ (hw _ (List.mem_of_getElem? (i := 8) rfl))) (mvT hZ (hw _ (List.mem_of_getElem? (i := 5) rfl))) (mvT hZ (hw _ (List.mem_of_getElem? (i := 9) rfl))) (by decide) (backOf (W := 0) (rm2 l Z a0 hw [] xx yy  h27 n0 zz28 ) hZ (hw _ (List.mem_of_getElem? (i := 9) rfl)) (hw _ (List.mem_of_getElem? (i := 5) rfl)) (by decide) (by decide)) (g := (mkF m 110 #[.val (.long x0), .second, .val (.int x1), .val (.int x2), .val (.int x3), .val (.int x4), .val (.ref b0), .val (.int ib), .val (.int xx), .val (.int yy), .val (.int lo), .unset, .unset, .unset, .unset, .unset, .unset] [(.int yy), (.int xx)])) rfl (by rw [hml]; rfl) (argsL := [(.int xx), (.int yy)]) (rest := []) (lenOf pd_11 rfl) rfl (by show 2 * 0 + _ ≤ _; exact Nat.le_of_eq rfl) (hb hby at_110) (fun _ _ => ⟨rfl, hh38, (by decide : 1 + 0 ≤ _), (by decide : 5 + 0 ≤ _)⟩)
  dsimp only [Pt.U, Pt.locs, Pt.cells, Pt.slots] at X42 l42 y42 z42 st42 hQ42
  subst l42 y42 z42
  obtain ⟨rfl, N42q, hh42⟩ := hQ42
  have N42 := Fr.app N38 N42q
  have pre43 : Go p e below (s₁.setTop (entryFrame m #[(.long x0), (.int x1), (.int x2), (.int x3), (.int x4)] maxLocals)) (T42.setTop (mkF m 113 #[.val (.long x0), .second, .val (.int x1), .val (.int x2), .val (.int x3), .val (.int x4), .val (.ref b0), .val (.int ib), .val (.int xx), .val (.int yy), .val (.int lo), .unset, .unset, .unset, .unset, .unset, .unset] [(.int (fmax xx yy))])) := fun t k => pre41 t (st42 t k)
  obtain ⟨hi, h_hi⟩ : ∃ z : Int32, z = (fmax xx yy) := ⟨_, rfl⟩
  have pre44 : Go p e below (s₁.setTop (entryFrame m #[(.long x0), (.int x1), (.int x2), (.int x3), (.int x4)] maxLocals)) (T42.setTop (mkF m 113 #[.val (.long x0), .second, .val (.int x1), .val (.int x2), .val (.int x3), .val (.int x4), .val (.ref b0), .val (.int ib), .val (.int xx), .val (.int yy), .val (.int lo), .unset, .unset, .unset, .unset, .unset, .unset] [(.int hi)])) := by rw [h_hi]; exact pre43
  rw [← h_lo, ← h_hi] at hbd
  have pre45 : Go p e below (s₁.setTop (entryFrame m #[(.long x0), (.int x1), (.int x2), (.int x3), (.int x4)] maxLocals)) (T42.setTop (mkF m 117 #[.val (.long x0), .second, .val (.int x1), .val (.int x2), .val (.int x3), .val (.int x4), .val (.ref b0), .val (.int ib), .val (.int xx), .val (.int yy), .val (.int lo), .val (.int hi), .unset, .unset, .unset, .unset, .unset] [(.int ib)])) := by
    intro t k
    refine pre44 t ?_
    show Steps p.tables e below (T42.setTop (mkF m 113 #[.val (.long x0), .second, .val (.int x1), .val (.int x2), .val (.int x3), .val (.int x4), .val (.ref b0), .val (.int ib), .val (.int xx), .val (.int yy), .val (.int lo), .unset, .unset, .unset, .unset, .unset, .unset] [(.int hi)])) _
    refine XS.istore X42.here hx rfl (hb hby at_113) rfl (l' := #[.val (.long x0), .second, .val (.int x1), .val (.int x2), .val (.int x3), .val (.int x4), .val (.ref b0), .val (.int ib), .val (.int xx), .val (.int yy), .val (.int lo), .val (.int hi), .unset, .unset, .unset, .unset, .unset]) rfl ?_
    show Steps p.tables e below (T42.setTop (mkF m 115 #[.val (.long x0), .second, .val (.int x1), .val (.int x2), .val (.int x3), .val (.int x4), .val (.ref b0), .val (.int ib), .val (.int xx), .val (.int yy), .val (.int lo), .val (.int hi), .unset, .unset, .unset, .unset, .unset] [])) _
    refine XS.iload X42.here hx rfl (hb hby at_115) rfl ?_
    show Steps p.tables e below (T42.setTop (mkF m 117 #[.val (.long x0), .second, .val (.int x1), .val (.int x2), .val (.int x3), .val (.int x4), .val (.ref b0), .val (.int ib), .val (.int xx), .val (.int yy), .val (.int lo), .val (.int hi), .unset, .unset, .unset, .unset, .unset] [(.int ib)])) _
    exact k
  by_cases hc117_46 : ib = (0 : Int32)
  · skip
    have pre47 : Go p e below (s₁.setTop (entryFrame m #[(.long x0), (.int x1), (.int x2), (.int x3), (.int x4)] maxLocals)) (T42.setTop (mkF m 187 #[.val (.long x0), .second, .val (.int x1), .val (.int x2), .val (.int x3), .val (.int x4), .val (.ref b0), .val (.int ib), .val (.int xx), .val (.int yy), .val (.int lo), .val (.int hi), .val (.long (((hi - lo)).toInt64)), .second, .unset, .unset, .unset] [])) := by
      intro t k
      refine pre45 t ?_
      show Steps p.tables e below (T42.setTop (mkF m 117 #[.val (.long x0), .second, .val (.int x1), .val (.int x2), .val (.int x3), .val (.int x4), .val (.ref b0), .val (.int ib), .val (.int xx), .val (.int yy), .val (.int lo), .val (.int hi), .unset, .unset, .unset, .unset, .unset] [(.int ib)])) _
      refine XS.ifYes X42.here hx rfl (pc0 := 117) (pc' := 179) rfl (hb hby at_117) rfl (XT.i0_eq_t hc117_46) (by decide) (by decide) ?_
      show Steps p.tables e below (T42.setTop (mkF m 179 #[.val (.long x0), .second, .val (.int x1), .val (.int x2), .val (.int x3), .val (.int x4), .val (.ref b0), .val (.int ib), .val (.int xx), .val (.int yy), .val (.int lo), .val (.int hi), .unset, .unset, .unset, .unset, .unset] [])) _
      refine XS.iload X42.here hx rfl (hb hby at_179) rfl ?_
      show Steps p.tables e below (T42.setTop (mkF m 181 #[.val (.long x0), .second, .val (.int x1), .val (.int x2), .val (.int x3), .val (.int x4), .val (.ref b0), .val (.int ib), .val (.int xx), .val (.int yy), .val (.int lo), .val (.int hi), .unset, .unset, .unset, .unset, .unset] [(.int hi)])) _
      refine XS.iload X42.here hx rfl (hb hby at_181) rfl ?_
      show Steps p.tables e below (T42.setTop (mkF m 183 #[.val (.long x0), .second, .val (.int x1), .val (.int x2), .val (.int x3), .val (.int x4), .val (.ref b0), .val (.int ib), .val (.int xx), .val (.int yy), .val (.int lo), .val (.int hi), .unset, .unset, .unset, .unset, .unset] [(.int lo), (.int hi)])) _
      refine XS.isub X42.here hx rfl (hb hby at_183) rfl ?_
      show Steps p.tables e below (T42.setTop (mkF m 184 #[.val (.long x0), .second, .val (.int x1), .val (.int x2), .val (.int x3), .val (.int x4), .val (.ref b0), .val (.int ib), .val (.int xx), .val (.int yy), .val (.int lo), .val (.int hi), .unset, .unset, .unset, .unset, .unset] [(.int (hi - lo))])) _
      refine XS.i2l X42.here hx rfl (hb hby at_184) rfl ?_
      show Steps p.tables e below (T42.setTop (mkF m 185 #[.val (.long x0), .second, .val (.int x1), .val (.int x2), .val (.int x3), .val (.int x4), .val (.ref b0), .val (.int ib), .val (.int xx), .val (.int yy), .val (.int lo), .val (.int hi), .unset, .unset, .unset, .unset, .unset] [(.long (((hi - lo)).toInt64))])) _
      refine XT.lstore X42.here hx rfl (hb hby at_185) rfl (l' := #[.val (.long x0), .second, .val (.int x1), .val (.int x2), .val (.int x3), .val (.int x4), .val (.ref b0), .val (.int ib), .val (.int xx), .val (.int yy), .val (.int lo), .val (.int hi), .val (.long (((hi - lo)).toInt64)), .second, .unset, .unset, .unset]) rfl ?_
      show Steps p.tables e below (T42.setTop (mkF m 187 #[.val (.long x0), .second, .val (.int x1), .val (.int x2), .val (.int x3), .val (.int x4), .val (.ref b0), .val (.int ib), .val (.int xx), .val (.int yy), .val (.int lo), .val (.int hi), .val (.long (((hi - lo)).toInt64)), .second, .unset, .unset, .unset] [])) _
      exact k
    obtain ⟨T48, h48, X48, e48, E48, A48, D48, -, st48⟩ := newO X42 hx hZ hown (hw _ (List.mem_of_getElem? (i := 10) rfl)) (hw _ (List.mem_of_getElem? (i := 11) rfl)) (hw _ (List.mem_of_getElem? (i := 12) rfl)) hh42 (g := (mkF m 187 #[.val (.long x0), .second, .val (.int x1), .val (.int x2), .val (.int x3), .val (.int x4), .val (.ref b0), .val (.int ib), .val (.int xx), .val (.int yy), .val (.int lo), .val (.int hi), .val (.long (((hi - lo)).toInt64)), .second, .unset, .unset, .unset] [])) rfl (hb hby at_187) (by decide) (by decide)
    obtain ⟨b1, g48⟩ : ∃ z, z = h27.size := ⟨_, rfl⟩
    rw [← g48] at A48 D48 st48
    have c49_48 := VT.ext E48
    have zz50 := (Nat.le_trans zz28 E48.1)
    have F_limit_b1 : Fld Z h48 b1 "com/example/xylograph/xylograph/MaxSize" "limit" "J" (.long (0 : Int64)) := D48 (Or.inr (hw _ (List.mem_of_getElem? (i := 25) rfl))) (ty := .long) (by decide)
    have F_inBytes_b1 : Fld Z h48 b1 "com/example/xylograph/xylograph/MaxSize" "inBytes" "Z" (.int (0 : Int32)) := D48 (Or.inr (hw _ (List.mem_of_getElem? (i := 27) rfl))) (ty := .boolean) (by decide)
    have g_b1 : n0 ≤ b1 := Nat.le_trans zz28 (Nat.le_of_eq g48.symm)
    have ne_b0_b1 : b0 ≠ b1 := Nat.ne_of_lt (Nat.lt_of_lt_of_le VT.lt (Nat.le_of_eq g48.symm))
    have pre51 : Go p e below (s₁.setTop (entryFrame m #[(.long x0), (.int x1), (.int x2), (.int x3), (.int x4)] maxLocals)) (T48.setTop (mkF m 190 #[.val (.long x0), .second, .val (.int x1), .val (.int x2), .val (.int x3), .val (.int x4), .val (.ref b0), .val (.int ib), .val (.int xx), .val (.int yy), .val (.int lo), .val (.int hi), .val (.long (((hi - lo)).toInt64)), .second, .unset, .unset, .unset] [(.ref b1)])) := fun t k => pre47 t (st48 t k)
    have pre52 : Go p e below (s₁.setTop (entryFrame m #[(.long x0), (.int x1), (.int x2), (.int x3), (.int x4)] maxLocals)) (T48.setTop (mkF m 194 #[.val (.long x0), .second, .val (.int x1), .val (.int x2), .val (.int x3), .val (.int x4), .val (.ref b0), .val (.int ib), .val (.int xx), .val (.int yy), .val (.int lo), .val (.int hi), .val (.long (((hi - lo)).toInt64)), .second, .unset, .unset, .unset] [(.int ib), (.long x0), (.ref b1), (.ref b1)])) := by
      intro t k
      refine pre51 t ?_
      show Steps p.tables e below (T48.setTop (mkF m 190 #[.val (.long x0), .second, .val (.int x1), .val (.int x2), .val (.int x3), .val (.int x4), .val (.ref b0), .val (.int ib), .val (.int xx), .val (.int yy), .val (.int lo), .val (.int hi), .val (.long (((hi - lo)).toInt64)), .second, .unset, .unset, .unset] [(.ref b1)])) _
      refine XS.dup X48.here hx rfl (hb hby at_190) rfl rfl ?_
      show Steps p.tables e below (T48.setTop (mkF m 191 #[.val (.long x0), .second, .val (.int x1), .val (.int x2), .val (.int x3), .val (.int x4), .val (.ref b0), .val (.int ib), .val (.int xx), .val (.int yy), .val (.int lo), .val (.int hi), .val (.long (((hi - lo)).toInt64)), .second, .unset, .unset, .unset] [(.ref b1), (.ref b1)])) _
      refine XT.lloadN X48.here hx rfl (hb hby at_191) rfl ?_
      show Steps p.tables e below (T48.setTop (mkF m 192 #[.val (.long x0), .second, .val (.int x1), .val (.int x2), .val (.int x3), .val (.int x4), .val (.ref b0), .val (.int ib), .val (.int xx), .val (.int yy), .val (.int lo), .val (.int hi), .val (.long (((hi - lo)).toInt64)), .second, .unset, .unset, .unset] [(.long x0), (.ref b1), (.ref b1)])) _
      refine XS.iload X48.here hx rfl (hb hby at_192) rfl ?_
      show Steps p.tables e below (T48.setTop (mkF m 194 #[.val (.long x0), .second, .val (.int x1), .val (.int x2), .val (.int x3), .val (.int x4), .val (.ref b0), .val (.int ib), .val (.int xx), .val (.int yy), .val (.int lo), .val (.int hi), .val (.long (((hi - lo)).toInt64)), .second, .unset, .unset, .unset] [(.int ib), (.long x0), (.ref b1), (.ref b1)])) _
      exact k
    obtain ⟨_, _, ⟨T53, L53, k53, n53⟩, -, X53, ⟨Lc53, hQ53, l53, y53, z53⟩, st53⟩ := X48.specialBack hx (y := (⟨"com/example/xylograph/xylograph/MaxSize", "<init>", "(JZ)V"⟩ : MethodName)) rfl hown (mvT hZ (hw _ (List.mem_of_getElem? (i := 13) rfl))) (mvT hZ (hw _ (List.mem_of_getElem? (i := 14) rfl))) (mvT hZ (hw _ (List.mem_of_getElem? (i := 15) rfl))) (by decide) (backOf (W := 1) (rm3 l Z a0 hw [] b1 x0 ib  h48 n0 zz50 A48 F_limit_b1 F_inBytes_b1 g_b1) hZ (hw _ (List.mem_of_getElem? (i := 15) rfl)) (hw _ (List.mem_of_getElem? (i := 12) rfl)) (by decide) (by decide)) (g := (mkF m 194 #[.val (.long x0), .second, .val (.int x1), .val (.int x2), .val (.int x3), .val (.int x4), .val (.ref b0), .val (.int ib), .val (.int xx), .val (.int yy), .val (.int lo), .val (.int hi), .val (.long (((hi - lo)).toInt64)), .second, .unset, .unset, .unset] [(.int ib), (.long x0), (.ref b1), (.ref b1)])) rfl (by rw [hml]; rfl) (Steps.refl _) (a := b1) (argsL := [(.long x0), (.int ib)]) (rest := [(.ref b1)]) (lenOf pd_12 rfl) rfl (by show 2 * 0 + _ ≤ _; exact Nat.le_of_eq rfl) (hb hby at_194) (fun _ _ => ⟨rfl, e48, (by decide : 2 + 0 ≤ _), (by decide : 7 + 0 ≤ _)⟩)
    dsimp only [Pt.U, Pt.locs, Pt.cells, Pt.slots] at X53 l53 y53 z53 st53 hQ53
    subst l53 y53 z53
    obtain ⟨rfl, N53q, K53, X53e, Fb53⟩ := hQ53
    have N53 := Fr.app N42 N53q
    have kc54 := c49_48.keep K53 (ninS ne_b0_b1 nin0)
    have kc55 := A48.keep K53
    have zz56 := Nat.le_trans zz50 K53.1
    have pre57 : Go p e below (s₁.setTop (entryFrame m #[(.long x0), (.int x1), (.int x2), (.int x3), (.int x4)] maxLocals)) (T53.setTop (mkF m 197 #[.val (.long x0), .second, .val (.int x1), .val (.int x2), .val (.int x3), .val (.int x4), .val (.ref b0), .val (.int ib), .val (.int xx), .val (.int yy), .val (.int lo), .val (.int hi), .val (.long (((hi - lo)).toInt64)), .second, .unset, .unset, .unset] [(.ref b1)])) := fun t k => pre52 t (st53.trans k)
    have pre58 : Go p e below (s₁.setTop (entryFrame m #[(.long x0), (.int x1), (.int x2), (.int x3), (.int x4)] maxLocals)) (T53.setTop (mkF m 207 #[.val (.long x0), .second, .val (.int x1), .val (.int x2), .val (.int x3), .val (.int x4), .val (.ref b0), .val (.int ib), .val (.int xx), .val (.int yy), .val (.int lo), .val (.int hi), .val (.long (((hi - lo)).toInt64)), .second, .val (.ref b1), .unset, .unset] [(.int hi), (.int lo), (.ref b0), (.ref b1)])) := by
      intro t k
      refine pre57 t ?_
      show Steps p.tables e below (T53.setTop (mkF m 197 #[.val (.long x0), .second, .val (.int x1), .val (.int x2), .val (.int x3), .val (.int x4), .val (.ref b0), .val (.int ib), .val (.int xx), .val (.int yy), .val (.int lo), .val (.int hi), .val (.long (((hi - lo)).toInt64)), .second, .unset, .unset, .unset] [(.ref b1)])) _
      refine XS.astore X53.here hx rfl (hb hby at_197) rfl rfl (l' := #[.val (.long x0), .second, .val (.int x1), .val (.int x2), .val (.int x3), .val (.int x4), .val (.ref b0), .val (.int ib), .val (.int xx), .val (.int yy), .val (.int lo), .val (.int hi), .val (.long (((hi - lo)).toInt64)), .second, .val (.ref b1), .unset, .unset]) rfl ?_
      show Steps p.tables e below (T53.setTop (mkF m 199 #[.val (.long x0), .second, .val (.int x1), .val (.int x2), .val (.int x3), .val (.int x4), .val (.ref b0), .val (.int ib), .val (.int xx), .val (.int yy), .val (.int lo), .val (.int hi), .val (.long (((hi - lo)).toInt64)), .second, .val (.ref b1), .unset, .unset] [])) _
      refine XS.aload X53.here hx rfl (hb hby at_199) rfl rfl ?_
      show Steps p.tables e below (T53.setTop (mkF m 201 #[.val (.long x0), .second, .val (.int x1), .val (.int x2), .val (.int x3), .val (.int x4), .val (.ref b0), .val (.int ib), .val (.int xx), .val (.int yy), .val (.int lo), .val (.int hi), .val (.long (((hi - lo)).toInt64)), .second, .val (.ref b1), .unset, .unset] [(.ref b1)])) _
      refine XS.aload X53.here hx rfl (hb hby at_201) rfl rfl ?_
      show Steps p.tables e below (T53.setTop (mkF m 203 #[.val (.long x0), .second, .val (.int x1), .val (.int x2), .val (.int x3), .val (.int x4), .val (.ref b0), .val (.int ib), .val (.int xx), .val (.int yy), .val (.int lo), .val (.int hi), .val (.long (((hi - lo)).toInt64)), .second, .val (.ref b1), .unset, .unset] [(.ref b0), (.ref b1)])) _
      refine XS.iload X53.here hx rfl (hb hby at_203) rfl ?_
      show Steps p.tables e below (T53.setTop (mkF m 205 #[.val (.long x0), .second, .val (.int x1), .val (.int x2), .val (.int x3), .val (.int x4), .val (.ref b0), .val (.int ib), .val (.int xx), .val (.int yy), .val (.int lo), .val (.int hi), .val (.long (((hi - lo)).toInt64)), .second, .val (.ref b1), .unset, .unset] [(.int lo), (.ref b0), (.ref b1)])) _
      refine XS.iload X53.here hx rfl (hb hby at_205) rfl ?_
      show Steps p.tables e below (T53.setTop (mkF m 207 #[.val (.long x0), .second, .val (.int x1), .val (.int x2), .val (.int x3), .val (.int x4), .val (.ref b0), .val (.int ib), .val (.int xx), .val (.int yy), .val (.int lo), .val (.int hi), .val (.long (((hi - lo)).toInt64)), .second, .val (.ref b1), .unset, .unset] [(.int hi), (.int lo), (.ref b0), (.ref b1)])) _
      exact k
    obtain ⟨cq59, kq59, q59a, q59b, q59c⟩ := isOf hZ rfl kc55
    obtain ⟨_, _, ⟨T59, L59, k59, n59⟩, -, X59, ⟨Lc59, hQ59, l59, y59, z59⟩, st59⟩ := X53.virtualBack hx (y := (⟨"com/example/xylograph/xylograph/MaxSize", "sizeOf", "([CII)J"⟩ : MethodName)) (z := (⟨"com/example/xylograph/xylograph/MaxSize", "sizeOf", "([CII)J"⟩ : MethodName)) hown (mvT hZ (hw _ (List.mem_of_getElem? (i := 28) rfl))) (mvT hZ (hw _ (List.mem_of_getElem? (i := 29) rfl))) (notFace_of_selects (args := #[]) (mvT hZ (hw _ (List.mem_of_getElem? (i := 31) rfl)))) (mvT hZ (hw _ (List.mem_of_getElem? (i := 31) rfl))) (mvT hZ (hw _ (List.mem_of_getElem? (i := 30) rfl))) (by decide) (backOf (W := 0) (rm6 l Z a0 hw [] b1 b0 lo hi (nar .boolean ib) k2 [nar .char u0, nar .char u1, nar .char u2, nar .char u3, nar .char u4] T53.heap n0 zz56 Fb53 kc54 hbd.1 hbd.2.1 hbd.2.2) hZ (hw _ (List.mem_of_getElem? (i := 32) rfl)) (hw _ (List.mem_of_getElem? (i := 12) rfl)) (by decide) (by decide)) q59a q59c (g := (mkF m 207 #[.val (.long x0), .second, .val (.int x1), .val (.int x2), .val (.int x3), .val (.int x4), .val (.ref b0), .val (.int ib), .val (.int xx), .val (.int yy), .val (.int lo), .val (.int hi), .val (.long (((hi - lo)).toInt64)), .second, .val (.ref b1), .unset, .unset] [(.int hi), (.int lo), (.ref b0), (.ref b1)])) rfl (by rw [hml]; rfl) (Steps.refl _) (argsL := [(.ref b0), (.int lo), (.int hi)]) (rest := []) (lenOf pd_13 rfl) rfl (by show 2 * 0 + _ ≤ _; exact Nat.le_of_eq rfl) (hb hby at_207) (fun _ _ => ⟨rfl, rfl, (by decide : 2 + 0 ≤ _), (by decide : 7 + 0 ≤ _)⟩)
    dsimp only [Pt.U, Pt.locs, Pt.cells, Pt.slots] at X59 l59 y59 z59 st59 hQ59
    subst l59 y59 z59
    obtain ⟨rfl, N59q, hh59⟩ := hQ59
    have N59 := Fr.app N53 N59q
    have pre60 : Go p e below (s₁.setTop (entryFrame m #[(.long x0), (.int x1), (.int x2), (.int x3), (.int x4)] maxLocals)) (T59.setTop (mkF m 210 #[.val (.long x0), .second, .val (.int x1), .val (.int x2), .val (.int x3), .val (.int x4), .val (.ref b0), .val (.int ib), .val (.int xx), .val (.int yy), .val (.int lo), .val (.int hi), .val (.long (((hi - lo)).toInt64)), .second, .val (.ref b1), .unset, .unset] [(.long (own_size (nar .boolean ib) lo hi [nar .char u0, nar .char u1, nar .char u2, nar .char u3, nar .char u4]))])) := fun t k => pre58 t (st59.trans k)
    have pre61 : Go p e below (s₁.setTop (entryFrame m #[(.long x0), (.int x1), (.int x2), (.int x3), (.int x4)] maxLocals)) (T59.setTop (mkF m 217 #[.val (.long x0), .second, .val (.int x1), .val (.int x2), .val (.int x3), .val (.int x4), .val (.ref b0), .val (.int ib), .val (.int xx), .val (.int yy), .val (.int lo), .val (.int hi), .val (.long (((hi - lo)).toInt64)), .second, .val (.ref b1), .val (.long (own_size (nar .boolean ib) lo hi [nar .char u0, nar .char u1, nar .char u2, nar .char u3, nar .char u4])), .second] [(.int (XT.cmpL (own_size (nar .boolean ib) lo hi [nar .char u0, nar .char u1, nar .char u2, nar .char u3, nar .char u4]) (((hi - lo)).toInt64)))])) := by
      intro t k
      refine pre60 t ?_
      show Steps p.tables e below (T59.setTop (mkF m 210 #[.val (.long x0), .second, .val (.int x1), .val (.int x2), .val (.int x3), .val (.int x4), .val (.ref b0), .val (.int ib), .val (.int xx), .val (.int yy), .val (.int lo), .val (.int hi), .val (.long (((hi - lo)).toInt64)), .second, .val (.ref b1), .unset, .unset] [(.long (own_size (nar .boolean ib) lo hi [nar .char u0, nar .char u1, nar .char u2, nar .char u3, nar .char u4]))])) _
      refine XT.lstore X59.here hx rfl (hb hby at_210) rfl (l' := #[.val (.long x0), .second, .val (.int x1), .val (.int x2), .val (.int x3), .val (.int x4), .val (.ref b0), .val (.int ib), .val (.int xx), .val (.int yy), .val (.int lo), .val (.int hi), .val (.long (((hi - lo)).toInt64)), .second, .val (.ref b1), .val (.long (own_size (nar .boolean ib) lo hi [nar .char u0, nar .char u1, nar .char u2, nar .char u3, nar .char u4])), .second]) rfl ?_
      show Steps p.tables e below (T59.setTop (mkF m 212 #[.val (.long x0), .second, .val (.int x1), .val (.int x2), .val (.int x3), .val (.int x4), .val (.ref b0), .val (.int ib), .val (.int xx), .val (.int yy), .val (.int lo), .val (.int hi), .val (.long (((hi - lo)).toInt64)), .second, .val (.ref b1), .val (.long (own_size (nar .boolean ib) lo hi [nar .char u0, nar .char u1, nar .char u2, nar .char u3, nar .char u4])), .second] [])) _
      refine XT.lload X59.here hx rfl (hb hby at_212) rfl ?_
      show Steps p.tables e below (T59.setTop (mkF m 214 #[.val (.long x0), .second, .val (.int x1), .val (.int x2), .val (.int x3), .val (.int x4), .val (.ref b0), .val (.int ib), .val (.int xx), .val (.int yy), .val (.int lo), .val (.int hi), .val (.long (((hi - lo)).toInt64)), .second, .val (.ref b1), .val (.long (own_size (nar .boolean ib) lo hi [nar .char u0, nar .char u1, nar .char u2, nar .char u3, nar .char u4])), .second] [(.long (own_size (nar .boolean ib) lo hi [nar .char u0, nar .char u1, nar .char u2, nar .char u3, nar .char u4]))])) _
      refine XT.lload X59.here hx rfl (hb hby at_214) rfl ?_
      show Steps p.tables e below (T59.setTop (mkF m 216 #[.val (.long x0), .second, .val (.int x1), .val (.int x2), .val (.int x3), .val (.int x4), .val (.ref b0), .val (.int ib), .val (.int xx), .val (.int yy), .val (.int lo), .val (.int hi), .val (.long (((hi - lo)).toInt64)), .second, .val (.ref b1), .val (.long (own_size (nar .boolean ib) lo hi [nar .char u0, nar .char u1, nar .char u2, nar .char u3, nar .char u4])), .second] [(.long (((hi - lo)).toInt64)), (.long (own_size (nar .boolean ib) lo hi [nar .char u0, nar .char u1, nar .char u2, nar .char u3, nar .char u4]))])) _
      refine XT.lcmp X59.here hx rfl (hb hby at_216) rfl ?_
      show Steps p.tables e below (T59.setTop (mkF m 217 #[.val (.long x0), .second, .val (.int x1), .val (.int x2), .val (.int x3), .val (.int x4), .val (.ref b0), .val (.int ib), .val (.int xx), .val (.int yy), .val (.int lo), .val (.int hi), .val (.long (((hi - lo)).toInt64)), .second, .val (.ref b1), .val (.long (own_size (nar .boolean ib) lo hi [nar .char u0, nar .char u1, nar .char u2, nar .char u3, nar .char u4])), .second] [(.int (XT.cmpL (own_size (nar .boolean ib) lo hi [nar .char u0, nar .char u1, nar .char u2, nar .char u3, nar .char u4]) (((hi - lo)).toInt64)))])) _
      exact k
    have hc217_62 : (own_size (nar .boolean ib) lo hi [nar .char u0, nar .char u1, nar .char u2, nar .char u3, nar .char u4]) = (((hi - lo)).toInt64) := by
      rw [own_size, if_pos (by rw [hc117_46]; decide)]
    have pre63 : Go p e below (s₁.setTop (entryFrame m #[(.long x0), (.int x1), (.int x2), (.int x3), (.int x4)] maxLocals)) (T59.setTop (mkF m 225 #[.val (.long x0), .second, .val (.int x1), .val (.int x2), .val (.int x3), .val (.int x4), .val (.ref b0), .val (.int ib), .val (.int xx), .val (.int yy), .val (.int lo), .val (.int hi), .val (.long (((hi - lo)).toInt64)), .second, .val (.ref b1), .val (.long (own_size (nar .boolean ib) lo hi [nar .char u0, nar .char u1, nar .char u2, nar .char u3, nar .char u4])), .second] [(.int (1 : Int32))])) := by
      intro t k
      refine pre61 t ?_
      show Steps p.tables e below (T59.setTop (mkF m 217 #[.val (.long x0), .second, .val (.int x1), .val (.int x2), .val (.int x3), .val (.int x4), .val (.ref b0), .val (.int ib), .val (.int xx), .val (.int yy), .val (.int lo), .val (.int hi), .val (.long (((hi - lo)).toInt64)), .second, .val (.ref b1), .val (.long (own_size (nar .boolean ib) lo hi [nar .char u0, nar .char u1, nar .char u2, nar .char u3, nar .char u4])), .second] [(.int (XT.cmpL (own_size (nar .boolean ib) lo hi [nar .char u0, nar .char u1, nar .char u2, nar .char u3, nar .char u4]) (((hi - lo)).toInt64)))])) _
      refine XS.ifNo X59.here hx rfl (hb hby at_217) rfl (XT.ll_ne_f hc217_62) ?_
      show Steps p.tables e below (T59.setTop (mkF m 220 #[.val (.long x0), .second, .val (.int x1), .val (.int x2), .val (.int x3), .val (.int x4), .val (.ref b0), .val (.int ib), .val (.int xx), .val (.int yy), .val (.int lo), .val (.int hi), .val (.long (((hi - lo)).toInt64)), .second, .val (.ref b1), .val (.long (own_size (nar .boolean ib) lo hi [nar .char u0, nar .char u1, nar .char u2, nar .char u3, nar .char u4])), .second] [])) _
      refine XS.iconst X59.here hx rfl (hb hby at_220) ?_
      show Steps p.tables e below (T59.setTop (mkF m 221 #[.val (.long x0), .second, .val (.int x1), .val (.int x2), .val (.int x3), .val (.int x4), .val (.ref b0), .val (.int ib), .val (.int xx), .val (.int yy), .val (.int lo), .val (.int hi), .val (.long (((hi - lo)).toInt64)), .second, .val (.ref b1), .val (.long (own_size (nar .boolean ib) lo hi [nar .char u0, nar .char u1, nar .char u2, nar .char u3, nar .char u4])), .second] [(.int (1 : Int32))])) _
      refine XS.goto X59.here hx rfl (pc0 := 221) (pc' := 225) rfl (hb hby at_221) (by decide) (by decide) ?_
      show Steps p.tables e below (T59.setTop (mkF m 225 #[.val (.long x0), .second, .val (.int x1), .val (.int x2), .val (.int x3), .val (.int x4), .val (.ref b0), .val (.int ib), .val (.int xx), .val (.int yy), .val (.int lo), .val (.int hi), .val (.long (((hi - lo)).toInt64)), .second, .val (.ref b1), .val (.long (own_size (nar .boolean ib) lo hi [nar .char u0, nar .char u1, nar .char u2, nar .char u3, nar .char u4])), .second] [(.int (1 : Int32))])) _
      exact k
    obtain ⟨fs, hr, hrun, hended, hW, hsame⟩ := X59.leave (hlocks := hlk) (v := some (.int (1 : Int32))) (fun h => by rw [Bd.returns] at h; cases h)
    refine ⟨_, _, pre63 _ (retN X59 hx (t := .boolean) Bd.returns (by simp) (hb hby at_225) hr), hrun, hended, _, _, rfl, ?_, ⟨_, rfl⟩, hW, hsame.mono (by decide) (by decide)⟩
    show Q0 Z x0 x1 x2 x3 x4 h0 n0 _ T59.heap _
    rw [hh59]
    exact ⟨rfl, N59⟩
  · skip
    have pre64 : Go p e below (s₁.setTop (entryFrame m #[(.long x0), (.int x1), (.int x2), (.int x3), (.int x4)] maxLocals)) (T42.setTop (mkF m 127 #[.val (.long x0), .second, .val (.int x1), .val (.int x2), .val (.int x3), .val (.int x4), .val (.ref b0), .val (.int ib), .val (.int xx), .val (.int yy), .val (.int lo), .val (.int hi), .unset, .unset, .unset, .unset, .unset] [(.int hi), (.int lo), (.int (0 : Int32)), (.ref b0)])) := by
      intro t k
      refine pre45 t ?_
      show Steps p.tables e below (T42.setTop (mkF m 117 #[.val (.long x0), .second, .val (.int x1), .val (.int x2), .val (.int x3), .val (.int x4), .val (.ref b0), .val (.int ib), .val (.int xx), .val (.int yy), .val (.int lo), .val (.int hi), .unset, .unset, .unset, .unset, .unset] [(.int ib)])) _
      refine XS.ifNo X42.here hx rfl (hb hby at_117) rfl (XT.i0_eq_f hc117_46) ?_
      show Steps p.tables e below (T42.setTop (mkF m 120 #[.val (.long x0), .second, .val (.int x1), .val (.int x2), .val (.int x3), .val (.int x4), .val (.ref b0), .val (.int ib), .val (.int xx), .val (.int yy), .val (.int lo), .val (.int hi), .unset, .unset, .unset, .unset, .unset] [])) _
      refine XS.aload X42.here hx rfl (hb hby at_120) rfl rfl ?_
      show Steps p.tables e below (T42.setTop (mkF m 122 #[.val (.long x0), .second, .val (.int x1), .val (.int x2), .val (.int x3), .val (.int x4), .val (.ref b0), .val (.int ib), .val (.int xx), .val (.int yy), .val (.int lo), .val (.int hi), .unset, .unset, .unset, .unset, .unset] [(.ref b0)])) _
      refine XS.iconst X42.here hx rfl (hb hby at_122) ?_
      show Steps p.tables e below (T42.setTop (mkF m 123 #[.val (.long x0), .second, .val (.int x1), .val (.int x2), .val (.int x3), .val (.int x4), .val (.ref b0), .val (.int ib), .val (.int xx), .val (.int yy), .val (.int lo), .val (.int hi), .unset, .unset, .unset, .unset, .unset] [(.int (0 : Int32)), (.ref b0)])) _
      refine XS.iload X42.here hx rfl (hb hby at_123) rfl ?_
      show Steps p.tables e below (T42.setTop (mkF m 125 #[.val (.long x0), .second, .val (.int x1), .val (.int x2), .val (.int x3), .val (.int x4), .val (.ref b0), .val (.int ib), .val (.int xx), .val (.int yy), .val (.int lo), .val (.int hi), .unset, .unset, .unset, .unset, .unset] [(.int lo), (.int (0 : Int32)), (.ref b0)])) _
      refine XS.iload X42.here hx rfl (hb hby at_125) rfl ?_
      show Steps p.tables e below (T42.setTop (mkF m 127 #[.val (.long x0), .second, .val (.int x1), .val (.int x2), .val (.int x3), .val (.int x4), .val (.ref b0), .val (.int ib), .val (.int xx), .val (.int yy), .val (.int lo), .val (.int hi), .unset, .unset, .unset, .unset, .unset] [(.int hi), (.int lo), (.int (0 : Int32)), (.ref b0)])) _
      exact k
    obtain ⟨_, _, ⟨T65, L65, k65, n65⟩, -, X65, ⟨Lc65, hQ65, l65, y65, z65⟩, st65⟩ := Jvm.LawKit.callS X42 hx (y := (⟨"com/example/xylograph/xylograph/MaxSizeSizeOfPinLaw", "part", "([CIII)J"⟩ : MethodName)) hown (mvT hZ (hw _ (List.mem_of_getElem? (i := 33) rfl))) (mvT hZ (hw _ (List.mem_of_getElem? (i := 34) rfl))) (mvT hZ (hw _ (List.mem_of_getElem? (i := 35) rfl))) (mvT hZ (hw _ (List.mem_of_getElem? (i := 36) rfl))) (by decide) (backOf (W := 0) (rm7 l Z a0 hw [] b0 (0 : Int32) lo hi k2 ([nar .char u0, nar .char u1, nar .char u2, nar .char u3, nar .char u4].map Value.int) (nar .char u0) h27 n0 zz28 VT ⟨by decide, by decide⟩ rfl) hZ (hw _ (List.mem_of_getElem? (i := 36) rfl)) (hw _ (List.mem_of_getElem? (i := 35) rfl)) (by decide) (by decide)) (g := (mkF m 127 #[.val (.long x0), .second, .val (.int x1), .val (.int x2), .val (.int x3), .val (.int x4), .val (.ref b0), .val (.int ib), .val (.int xx), .val (.int yy), .val (.int lo), .val (.int hi), .unset, .unset, .unset, .unset, .unset] [(.int hi), (.int lo), (.int (0 : Int32)), (.ref b0)])) rfl (by rw [hml]; rfl) (argsL := [(.ref b0), (.int (0 : Int32)), (.int lo), (.int hi)]) (rest := []) (lenOf pd_14 rfl) rfl (by show 2 * 0 + _ ≤ _; exact Nat.le_of_eq rfl) (hb hby at_127) (fun _ _ => ⟨rfl, hh42, (by decide : 1 + 0 ≤ _), (by decide : 5 + 0 ≤ _)⟩)
    dsimp only [Pt.U, Pt.locs, Pt.cells, Pt.slots] at X65 l65 y65 z65 st65 hQ65
    subst l65 y65 z65
    obtain ⟨rfl, N65q, hh65⟩ := hQ65
    have N65 := Fr.app N42 N65q
    have pre66 : Go p e below (s₁.setTop (entryFrame m #[(.long x0), (.int x1), (.int x2), (.int x3), (.int x4)] maxLocals)) (T65.setTop (mkF m 130 #[.val (.long x0), .second, .val (.int x1), .val (.int x2), .val (.int x3), .val (.int x4), .val (.ref b0), .val (.int ib), .val (.int xx), .val (.int yy), .val (.int lo), .val (.int hi), .unset, .unset, .unset, .unset, .unset] [(.long (fpart (0 : Int32) (nar .char u0) lo hi))])) := fun t k => pre64 t (st65 t k)
    have pre67 : Go p e below (s₁.setTop (entryFrame m #[(.long x0), (.int x1), (.int x2), (.int x3), (.int x4)] maxLocals)) (T65.setTop (mkF m 137 #[.val (.long x0), .second, .val (.int x1), .val (.int x2), .val (.int x3), .val (.int x4), .val (.ref b0), .val (.int ib), .val (.int xx), .val (.int yy), .val (.int lo), .val (.int hi), .unset, .unset, .unset, .unset, .unset] [(.int hi), (.int lo), (.int (1 : Int32)), (.ref b0), (.long (fpart (0 : Int32) (nar .char u0) lo hi))])) := by
      intro t k
      refine pre66 t ?_
      show Steps p.tables e below (T65.setTop (mkF m 130 #[.val (.long x0), .second, .val (.int x1), .val (.int x2), .val (.int x3), .val (.int x4), .val (.ref b0), .val (.int ib), .val (.int xx), .val (.int yy), .val (.int lo), .val (.int hi), .unset, .unset, .unset, .unset, .unset] [(.long (fpart (0 : Int32) (nar .char u0) lo hi))])) _
      refine XS.aload X65.here hx rfl (hb hby at_130) rfl rfl ?_
      show Steps p.tables e below (T65.setTop (mkF m 132 #[.val (.long x0), .second, .val (.int x1), .val (.int x2), .val (.int x3), .val (.int x4), .val (.ref b0), .val (.int ib), .val (.int xx), .val (.int yy), .val (.int lo), .val (.int hi), .unset, .unset, .unset, .unset, .unset] [(.ref b0), (.long (fpart (0 : Int32) (nar .char u0) lo hi))])) _
      refine XS.iconst X65.here hx rfl (hb hby at_132) ?_
      show Steps p.tables e below (T65.setTop (mkF m 133 #[.val (.long x0), .second, .val (.int x1), .val (.int x2), .val (.int x3), .val (.int x4), .val (.ref b0), .val (.int ib), .val (.int xx), .val (.int yy), .val (.int lo), .val (.int hi), .unset, .unset, .unset, .unset, .unset] [(.int (1 : Int32)), (.ref b0), (.long (fpart (0 : Int32) (nar .char u0) lo hi))])) _
      refine XS.iload X65.here hx rfl (hb hby at_133) rfl ?_
      show Steps p.tables e below (T65.setTop (mkF m 135 #[.val (.long x0), .second, .val (.int x1), .val (.int x2), .val (.int x3), .val (.int x4), .val (.ref b0), .val (.int ib), .val (.int xx), .val (.int yy), .val (.int lo), .val (.int hi), .unset, .unset, .unset, .unset, .unset] [(.int lo), (.int (1 : Int32)), (.ref b0), (.long (fpart (0 : Int32) (nar .char u0) lo hi))])) _
      refine XS.iload X65.here hx rfl (hb hby at_135) rfl ?_
      show Steps p.tables e below (T65.setTop (mkF m 137 #[.val (.long x0), .second, .val (.int x1), .val (.int x2), .val (.int x3), .val (.int x4), .val (.ref b0), .val (.int ib), .val (.int xx), .val (.int yy), .val (.int lo), .val (.int hi), .unset, .unset, .unset, .unset, .unset] [(.int hi), (.int lo), (.int (1 : Int32)), (.ref b0), (.long (fpart (0 : Int32) (nar .char u0) lo hi))])) _
      exact k
    obtain ⟨_, _, ⟨T68, L68, k68, n68⟩, -, X68, ⟨Lc68, hQ68, l68, y68, z68⟩, st68⟩ := Jvm.LawKit.callS X65 hx (y := (⟨"com/example/xylograph/xylograph/MaxSizeSizeOfPinLaw", "part", "([CIII)J"⟩ : MethodName)) hown (mvT hZ (hw _ (List.mem_of_getElem? (i := 33) rfl))) (mvT hZ (hw _ (List.mem_of_getElem? (i := 34) rfl))) (mvT hZ (hw _ (List.mem_of_getElem? (i := 35) rfl))) (mvT hZ (hw _ (List.mem_of_getElem? (i := 36) rfl))) (by decide) (backOf (W := 2) (rm7 l Z a0 hw [] b0 (1 : Int32) lo hi k2 ([nar .char u0, nar .char u1, nar .char u2, nar .char u3, nar .char u4].map Value.int) (nar .char u1) h27 n0 zz28 VT ⟨by decide, by decide⟩ rfl) hZ (hw _ (List.mem_of_getElem? (i := 36) rfl)) (hw _ (List.mem_of_getElem? (i := 35) rfl)) (by decide) (by decide)) (g := (mkF m 137 #[.val (.long x0), .second, .val (.int x1), .val (.int x2), .val (.int x3), .val (.int x4), .val (.ref b0), .val (.int ib), .val (.int xx), .val (.int yy), .val (.int lo), .val (.int hi), .unset, .unset, .unset, .unset, .unset] [(.int hi), (.int lo), (.int (1 : Int32)), (.ref b0), (.long (fpart (0 : Int32) (nar .char u0) lo hi))])) rfl (by rw [hml]; rfl) (argsL := [(.ref b0), (.int (1 : Int32)), (.int lo), (.int hi)]) (rest := [(.long (fpart (0 : Int32) (nar .char u0) lo hi))]) (lenOf pd_14 rfl) rfl (by show 2 * 0 + _ ≤ _; exact Nat.le_of_eq rfl) (hb hby at_137) (fun _ _ => ⟨rfl, hh65, (by decide : 1 + 0 ≤ _), (by decide : 5 + 0 ≤ _)⟩)
    dsimp only [Pt.U, Pt.locs, Pt.cells, Pt.slots] at X68 l68 y68 z68 st68 hQ68
    subst l68 y68 z68
    obtain ⟨rfl, N68q, hh68⟩ := hQ68
    have N68 := Fr.app N65 N68q
    have pre69 : Go p e below (s₁.setTop (entryFrame m #[(.long x0), (.int x1), (.int x2), (.int x3), (.int x4)] maxLocals)) (T68.setTop (mkF m 140 #[.val (.long x0), .second, .val (.int x1), .val (.int x2), .val (.int x3), .val (.int x4), .val (.ref b0), .val (.int ib), .val (.int xx), .val (.int yy), .val (.int lo), .val (.int hi), .unset, .unset, .unset, .unset, .unset] [(.long (fpart (1 : Int32) (nar .char u1) lo hi)), (.long (fpart (0 : Int32) (nar .char u0) lo hi))])) := fun t k => pre67 t (st68 t k)
    have pre70 : Go p e below (s₁.setTop (entryFrame m #[(.long x0), (.int x1), (.int x2), (.int x3), (.int x4)] maxLocals)) (T68.setTop (mkF m 148 #[.val (.long x0), .second, .val (.int x1), .val (.int x2), .val (.int x3), .val (.int x4), .val (.ref b0), .val (.int ib), .val (.int xx), .val (.int yy), .val (.int lo), .val (.int hi), .unset, .unset, .unset, .unset, .unset] [(.int hi), (.int lo), (.int (2 : Int32)), (.ref b0), (.long ((fpart (0 : Int32) (nar .char u0) lo hi) + (fpart (1 : Int32) (nar .char u1) lo hi)))])) := by
      intro t k
      refine pre69 t ?_
      show Steps p.tables e below (T68.setTop (mkF m 140 #[.val (.long x0), .second, .val (.int x1), .val (.int x2), .val (.int x3), .val (.int x4), .val (.ref b0), .val (.int ib), .val (.int xx), .val (.int yy), .val (.int lo), .val (.int hi), .unset, .unset, .unset, .unset, .unset] [(.long (fpart (1 : Int32) (nar .char u1) lo hi)), (.long (fpart (0 : Int32) (nar .char u0) lo hi))])) _
      refine XS.ladd X68.here hx rfl (hb hby at_140) rfl ?_
      show Steps p.tables e below (T68.setTop (mkF m 141 #[.val (.long x0), .second, .val (.int x1), .val (.int x2), .val (.int x3), .val (.int x4), .val (.ref b0), .val (.int ib), .val (.int xx), .val (.int yy), .val (.int lo), .val (.int hi), .unset, .unset, .unset, .unset, .unset] [(.long ((fpart (0 : Int32) (nar .char u0) lo hi) + (fpart (1 : Int32) (nar .char u1) lo hi)))])) _
      refine XS.aload X68.here hx rfl (hb hby at_141) rfl rfl ?_
      show Steps p.tables e below (T68.setTop (mkF m 143 #[.val (.long x0), .second, .val (.int x1), .val (.int x2), .val (.int x3), .val (.int x4), .val (.ref b0), .val (.int ib), .val (.int xx), .val (.int yy), .val (.int lo), .val (.int hi), .unset, .unset, .unset, .unset, .unset] [(.ref b0), (.long ((fpart (0 : Int32) (nar .char u0) lo hi) + (fpart (1 : Int32) (nar .char u1) lo hi)))])) _
      refine XS.iconst X68.here hx rfl (hb hby at_143) ?_
      show Steps p.tables e below (T68.setTop (mkF m 144 #[.val (.long x0), .second, .val (.int x1), .val (.int x2), .val (.int x3), .val (.int x4), .val (.ref b0), .val (.int ib), .val (.int xx), .val (.int yy), .val (.int lo), .val (.int hi), .unset, .unset, .unset, .unset, .unset] [(.int (2 : Int32)), (.ref b0), (.long ((fpart (0 : Int32) (nar .char u0) lo hi) + (fpart (1 : Int32) (nar .char u1) lo hi)))])) _
      refine XS.iload X68.here hx rfl (hb hby at_144) rfl ?_
      show Steps p.tables e below (T68.setTop (mkF m 146 #[.val (.long x0), .second, .val (.int x1), .val (.int x2), .val (.int x3), .val (.int x4), .val (.ref b0), .val (.int ib), .val (.int xx), .val (.int yy), .val (.int lo), .val (.int hi), .unset, .unset, .unset, .unset, .unset] [(.int lo), (.int (2 : Int32)), (.ref b0), (.long ((fpart (0 : Int32) (nar .char u0) lo hi) + (fpart (1 : Int32) (nar .char u1) lo hi)))])) _
      refine XS.iload X68.here hx rfl (hb hby at_146) rfl ?_
      show Steps p.tables e below (T68.setTop (mkF m 148 #[.val (.long x0), .second, .val (.int x1), .val (.int x2), .val (.int x3), .val (.int x4), .val (.ref b0), .val (.int ib), .val (.int xx), .val (.int yy), .val (.int lo), .val (.int hi), .unset, .unset, .unset, .unset, .unset] [(.int hi), (.int lo), (.int (2 : Int32)), (.ref b0), (.long ((fpart (0 : Int32) (nar .char u0) lo hi) + (fpart (1 : Int32) (nar .char u1) lo hi)))])) _
      exact k
    obtain ⟨_, _, ⟨T71, L71, k71, n71⟩, -, X71, ⟨Lc71, hQ71, l71, y71, z71⟩, st71⟩ := Jvm.LawKit.callS X68 hx (y := (⟨"com/example/xylograph/xylograph/MaxSizeSizeOfPinLaw", "part", "([CIII)J"⟩ : MethodName)) hown (mvT hZ (hw _ (List.mem_of_getElem? (i := 33) rfl))) (mvT hZ (hw _ (List.mem_of_getElem? (i := 34) rfl))) (mvT hZ (hw _ (List.mem_of_getElem? (i := 35) rfl))) (mvT hZ (hw _ (List.mem_of_getElem? (i := 36) rfl))) (by decide) (backOf (W := 2) (rm7 l Z a0 hw [] b0 (2 : Int32) lo hi k2 ([nar .char u0, nar .char u1, nar .char u2, nar .char u3, nar .char u4].map Value.int) (nar .char u2) h27 n0 zz28 VT ⟨by decide, by decide⟩ rfl) hZ (hw _ (List.mem_of_getElem? (i := 36) rfl)) (hw _ (List.mem_of_getElem? (i := 35) rfl)) (by decide) (by decide)) (g := (mkF m 148 #[.val (.long x0), .second, .val (.int x1), .val (.int x2), .val (.int x3), .val (.int x4), .val (.ref b0), .val (.int ib), .val (.int xx), .val (.int yy), .val (.int lo), .val (.int hi), .unset, .unset, .unset, .unset, .unset] [(.int hi), (.int lo), (.int (2 : Int32)), (.ref b0), (.long ((fpart (0 : Int32) (nar .char u0) lo hi) + (fpart (1 : Int32) (nar .char u1) lo hi)))])) rfl (by rw [hml]; rfl) (argsL := [(.ref b0), (.int (2 : Int32)), (.int lo), (.int hi)]) (rest := [(.long ((fpart (0 : Int32) (nar .char u0) lo hi) + (fpart (1 : Int32) (nar .char u1) lo hi)))]) (lenOf pd_14 rfl) rfl (by show 2 * 0 + _ ≤ _; exact Nat.le_of_eq rfl) (hb hby at_148) (fun _ _ => ⟨rfl, hh68, (by decide : 1 + 0 ≤ _), (by decide : 5 + 0 ≤ _)⟩)
    dsimp only [Pt.U, Pt.locs, Pt.cells, Pt.slots] at X71 l71 y71 z71 st71 hQ71
    subst l71 y71 z71
    obtain ⟨rfl, N71q, hh71⟩ := hQ71
    have N71 := Fr.app N68 N71q
    have pre72 : Go p e below (s₁.setTop (entryFrame m #[(.long x0), (.int x1), (.int x2), (.int x3), (.int x4)] maxLocals)) (T71.setTop (mkF m 151 #[.val (.long x0), .second, .val (.int x1), .val (.int x2), .val (.int x3), .val (.int x4), .val (.ref b0), .val (.int ib), .val (.int xx), .val (.int yy), .val (.int lo), .val (.int hi), .unset, .unset, .unset, .unset, .unset] [(.long (fpart (2 : Int32) (nar .char u2) lo hi)), (.long ((fpart (0 : Int32) (nar .char u0) lo hi) + (fpart (1 : Int32) (nar .char u1) lo hi)))])) := fun t k => pre70 t (st71 t k)
    have pre73 : Go p e below (s₁.setTop (entryFrame m #[(.long x0), (.int x1), (.int x2), (.int x3), (.int x4)] maxLocals)) (T71.setTop (mkF m 159 #[.val (.long x0), .second, .val (.int x1), .val (.int x2), .val (.int x3), .val (.int x4), .val (.ref b0), .val (.int ib), .val (.int xx), .val (.int yy), .val (.int lo), .val (.int hi), .unset, .unset, .unset, .unset, .unset] [(.int hi), (.int lo), (.int (3 : Int32)), (.ref b0), (.long (((fpart (0 : Int32) (nar .char u0) lo hi) + (fpart (1 : Int32) (nar .char u1) lo hi)) + (fpart (2 : Int32) (nar .char u2) lo hi)))])) := by
      intro t k
      refine pre72 t ?_
      show Steps p.tables e below (T71.setTop (mkF m 151 #[.val (.long x0), .second, .val (.int x1), .val (.int x2), .val (.int x3), .val (.int x4), .val (.ref b0), .val (.int ib), .val (.int xx), .val (.int yy), .val (.int lo), .val (.int hi), .unset, .unset, .unset, .unset, .unset] [(.long (fpart (2 : Int32) (nar .char u2) lo hi)), (.long ((fpart (0 : Int32) (nar .char u0) lo hi) + (fpart (1 : Int32) (nar .char u1) lo hi)))])) _
      refine XS.ladd X71.here hx rfl (hb hby at_151) rfl ?_
      show Steps p.tables e below (T71.setTop (mkF m 152 #[.val (.long x0), .second, .val (.int x1), .val (.int x2), .val (.int x3), .val (.int x4), .val (.ref b0), .val (.int ib), .val (.int xx), .val (.int yy), .val (.int lo), .val (.int hi), .unset, .unset, .unset, .unset, .unset] [(.long (((fpart (0 : Int32) (nar .char u0) lo hi) + (fpart (1 : Int32) (nar .char u1) lo hi)) + (fpart (2 : Int32) (nar .char u2) lo hi)))])) _
      refine XS.aload X71.here hx rfl (hb hby at_152) rfl rfl ?_
      show Steps p.tables e below (T71.setTop (mkF m 154 #[.val (.long x0), .second, .val (.int x1), .val (.int x2), .val (.int x3), .val (.int x4), .val (.ref b0), .val (.int ib), .val (.int xx), .val (.int yy), .val (.int lo), .val (.int hi), .unset, .unset, .unset, .unset, .unset] [(.ref b0), (.long (((fpart (0 : Int32) (nar .char u0) lo hi) + (fpart (1 : Int32) (nar .char u1) lo hi)) + (fpart (2 : Int32) (nar .char u2) lo hi)))])) _
      refine XS.iconst X71.here hx rfl (hb hby at_154) ?_
      show Steps p.tables e below (T71.setTop (mkF m 155 #[.val (.long x0), .second, .val (.int x1), .val (.int x2), .val (.int x3), .val (.int x4), .val (.ref b0), .val (.int ib), .val (.int xx), .val (.int yy), .val (.int lo), .val (.int hi), .unset, .unset, .unset, .unset, .unset] [(.int (3 : Int32)), (.ref b0), (.long (((fpart (0 : Int32) (nar .char u0) lo hi) + (fpart (1 : Int32) (nar .char u1) lo hi)) + (fpart (2 : Int32) (nar .char u2) lo hi)))])) _
      refine XS.iload X71.here hx rfl (hb hby at_155) rfl ?_
      show Steps p.tables e below (T71.setTop (mkF m 157 #[.val (.long x0), .second, .val (.int x1), .val (.int x2), .val (.int x3), .val (.int x4), .val (.ref b0), .val (.int ib), .val (.int xx), .val (.int yy), .val (.int lo), .val (.int hi), .unset, .unset, .unset, .unset, .unset] [(.int lo), (.int (3 : Int32)), (.ref b0), (.long (((fpart (0 : Int32) (nar .char u0) lo hi) + (fpart (1 : Int32) (nar .char u1) lo hi)) + (fpart (2 : Int32) (nar .char u2) lo hi)))])) _
      refine XS.iload X71.here hx rfl (hb hby at_157) rfl ?_
      show Steps p.tables e below (T71.setTop (mkF m 159 #[.val (.long x0), .second, .val (.int x1), .val (.int x2), .val (.int x3), .val (.int x4), .val (.ref b0), .val (.int ib), .val (.int xx), .val (.int yy), .val (.int lo), .val (.int hi), .unset, .unset, .unset, .unset, .unset] [(.int hi), (.int lo), (.int (3 : Int32)), (.ref b0), (.long (((fpart (0 : Int32) (nar .char u0) lo hi) + (fpart (1 : Int32) (nar .char u1) lo hi)) + (fpart (2 : Int32) (nar .char u2) lo hi)))])) _
      exact k
    obtain ⟨_, _, ⟨T74, L74, k74, n74⟩, -, X74, ⟨Lc74, hQ74, l74, y74, z74⟩, st74⟩ := Jvm.LawKit.callS X71 hx (y := (⟨"com/example/xylograph/xylograph/MaxSizeSizeOfPinLaw", "part", "([CIII)J"⟩ : MethodName)) hown (mvT hZ (hw _ (List.mem_of_getElem? (i := 33) rfl))) (mvT hZ (hw _ (List.mem_of_getElem? (i := 34) rfl))) (mvT hZ (hw _ (List.mem_of_getElem? (i := 35) rfl))) (mvT hZ (hw _ (List.mem_of_getElem? (i := 36) rfl))) (by decide) (backOf (W := 2) (rm7 l Z a0 hw [] b0 (3 : Int32) lo hi k2 ([nar .char u0, nar .char u1, nar .char u2, nar .char u3, nar .char u4].map Value.int) (nar .char u3) h27 n0 zz28 VT ⟨by decide, by decide⟩ rfl) hZ (hw _ (List.mem_of_getElem? (i := 36) rfl)) (hw _ (List.mem_of_getElem? (i := 35) rfl)) (by decide) (by decide)) (g := (mkF m 159 #[.val (.long x0), .second, .val (.int x1), .val (.int x2), .val (.int x3), .val (.int x4), .val (.ref b0), .val (.int ib), .val (.int xx), .val (.int yy), .val (.int lo), .val (.int hi), .unset, .unset, .unset, .unset, .unset] [(.int hi), (.int lo), (.int (3 : Int32)), (.ref b0), (.long (((fpart (0 : Int32) (nar .char u0) lo hi) + (fpart (1 : Int32) (nar .char u1) lo hi)) + (fpart (2 : Int32) (nar .char u2) lo hi)))])) rfl (by rw [hml]; rfl) (argsL := [(.ref b0), (.int (3 : Int32)), (.int lo), (.int hi)]) (rest := [(.long (((fpart (0 : Int32) (nar .char u0) lo hi) + (fpart (1 : Int32) (nar .char u1) lo hi)) + (fpart (2 : Int32) (nar .char u2) lo hi)))]) (lenOf pd_14 rfl) rfl (by show 2 * 0 + _ ≤ _; exact Nat.le_of_eq rfl) (hb hby at_159) (fun _ _ => ⟨rfl, hh71, (by decide : 1 + 0 ≤ _), (by decide : 5 + 0 ≤ _)⟩)
    dsimp only [Pt.U, Pt.locs, Pt.cells, Pt.slots] at X74 l74 y74 z74 st74 hQ74
    subst l74 y74 z74
    obtain ⟨rfl, N74q, hh74⟩ := hQ74
    have N74 := Fr.app N71 N74q
    have pre75 : Go p e below (s₁.setTop (entryFrame m #[(.long x0), (.int x1), (.int x2), (.int x3), (.int x4)] maxLocals)) (T74.setTop (mkF m 162 #[.val (.long x0), .second, .val (.int x1), .val (.int x2), .val (.int x3), .val (.int x4), .val (.ref b0), .val (.int ib), .val (.int xx), .val (.int yy), .val (.int lo), .val (.int hi), .unset, .unset, .unset, .unset, .unset] [(.long (fpart (3 : Int32) (nar .char u3) lo hi)), (.long (((fpart (0 : Int32) (nar .char u0) lo hi) + (fpart (1 : Int32) (nar .char u1) lo hi)) + (fpart (2 : Int32) (nar .char u2) lo hi)))])) := fun t k => pre73 t (st74 t k)
    have pre76 : Go p e below (s₁.setTop (entryFrame m #[(.long x0), (.int x1), (.int x2), (.int x3), (.int x4)] maxLocals)) (T74.setTop (mkF m 170 #[.val (.long x0), .second, .val (.int x1), .val (.int x2), .val (.int x3), .val (.int x4), .val (.ref b0), .val (.int ib), .val (.int xx), .val (.int yy), .val (.int lo), .val (.int hi), .unset, .unset, .unset, .unset, .unset] [(.int hi), (.int lo), (.int (4 : Int32)), (.ref b0), (.long ((((fpart (0 : Int32) (nar .char u0) lo hi) + (fpart (1 : Int32) (nar .char u1) lo hi)) + (fpart (2 : Int32) (nar .char u2) lo hi)) + (fpart (3 : Int32) (nar .char u3) lo hi)))])) := by
      intro t k
      refine pre75 t ?_
      show Steps p.tables e below (T74.setTop (mkF m 162 #[.val (.long x0), .second, .val (.int x1), .val (.int x2), .val (.int x3), .val (.int x4), .val (.ref b0), .val (.int ib), .val (.int xx), .val (.int yy), .val (.int lo), .val (.int hi), .unset, .unset, .unset, .unset, .unset] [(.long (fpart (3 : Int32) (nar .char u3) lo hi)), (.long (((fpart (0 : Int32) (nar .char u0) lo hi) + (fpart (1 : Int32) (nar .char u1) lo hi)) + (fpart (2 : Int32) (nar .char u2) lo hi)))])) _
      refine XS.ladd X74.here hx rfl (hb hby at_162) rfl ?_
      show Steps p.tables e below (T74.setTop (mkF m 163 #[.val (.long x0), .second, .val (.int x1), .val (.int x2), .val (.int x3), .val (.int x4), .val (.ref b0), .val (.int ib), .val (.int xx), .val (.int yy), .val (.int lo), .val (.int hi), .unset, .unset, .unset, .unset, .unset] [(.long ((((fpart (0 : Int32) (nar .char u0) lo hi) + (fpart (1 : Int32) (nar .char u1) lo hi)) + (fpart (2 : Int32) (nar .char u2) lo hi)) + (fpart (3 : Int32) (nar .char u3) lo hi)))])) _
      refine XS.aload X74.here hx rfl (hb hby at_163) rfl rfl ?_
      show Steps p.tables e below (T74.setTop (mkF m 165 #[.val (.long x0), .second, .val (.int x1), .val (.int x2), .val (.int x3), .val (.int x4), .val (.ref b0), .val (.int ib), .val (.int xx), .val (.int yy), .val (.int lo), .val (.int hi), .unset, .unset, .unset, .unset, .unset] [(.ref b0), (.long ((((fpart (0 : Int32) (nar .char u0) lo hi) + (fpart (1 : Int32) (nar .char u1) lo hi)) + (fpart (2 : Int32) (nar .char u2) lo hi)) + (fpart (3 : Int32) (nar .char u3) lo hi)))])) _
      refine XS.iconst X74.here hx rfl (hb hby at_165) ?_
      show Steps p.tables e below (T74.setTop (mkF m 166 #[.val (.long x0), .second, .val (.int x1), .val (.int x2), .val (.int x3), .val (.int x4), .val (.ref b0), .val (.int ib), .val (.int xx), .val (.int yy), .val (.int lo), .val (.int hi), .unset, .unset, .unset, .unset, .unset] [(.int (4 : Int32)), (.ref b0), (.long ((((fpart (0 : Int32) (nar .char u0) lo hi) + (fpart (1 : Int32) (nar .char u1) lo hi)) + (fpart (2 : Int32) (nar .char u2) lo hi)) + (fpart (3 : Int32) (nar .char u3) lo hi)))])) _
      refine XS.iload X74.here hx rfl (hb hby at_166) rfl ?_
      show Steps p.tables e below (T74.setTop (mkF m 168 #[.val (.long x0), .second, .val (.int x1), .val (.int x2), .val (.int x3), .val (.int x4), .val (.ref b0), .val (.int ib), .val (.int xx), .val (.int yy), .val (.int lo), .val (.int hi), .unset, .unset, .unset, .unset, .unset] [(.int lo), (.int (4 : Int32)), (.ref b0), (.long ((((fpart (0 : Int32) (nar .char u0) lo hi) + (fpart (1 : Int32) (nar .char u1) lo hi)) + (fpart (2 : Int32) (nar .char u2) lo hi)) + (fpart (3 : Int32) (nar .char u3) lo hi)))])) _
      refine XS.iload X74.here hx rfl (hb hby at_168) rfl ?_
      show Steps p.tables e below (T74.setTop (mkF m 170 #[.val (.long x0), .second, .val (.int x1), .val (.int x2), .val (.int x3), .val (.int x4), .val (.ref b0), .val (.int ib), .val (.int xx), .val (.int yy), .val (.int lo), .val (.int hi), .unset, .unset, .unset, .unset, .unset] [(.int hi), (.int lo), (.int (4 : Int32)), (.ref b0), (.long ((((fpart (0 : Int32) (nar .char u0) lo hi) + (fpart (1 : Int32) (nar .char u1) lo hi)) + (fpart (2 : Int32) (nar .char u2) lo hi)) + (fpart (3 : Int32) (nar .char u3) lo hi)))])) _
      exact k
    obtain ⟨_, _, ⟨T77, L77, k77, n77⟩, -, X77, ⟨Lc77, hQ77, l77, y77, z77⟩, st77⟩ := Jvm.LawKit.callS X74 hx (y := (⟨"com/example/xylograph/xylograph/MaxSizeSizeOfPinLaw", "part", "([CIII)J"⟩ : MethodName)) hown (mvT hZ (hw _ (List.mem_of_getElem? (i := 33) rfl))) (mvT hZ (hw _ (List.mem_of_getElem? (i := 34) rfl))) (mvT hZ (hw _ (List.mem_of_getElem? (i := 35) rfl))) (mvT hZ (hw _ (List.mem_of_getElem? (i := 36) rfl))) (by decide) (backOf (W := 2) (rm7 l Z a0 hw [] b0 (4 : Int32) lo hi k2 ([nar .char u0, nar .char u1, nar .char u2, nar .char u3, nar .char u4].map Value.int) (nar .char u4) h27 n0 zz28 VT ⟨by decide, by decide⟩ rfl) hZ (hw _ (List.mem_of_getElem? (i := 36) rfl)) (hw _ (List.mem_of_getElem? (i := 35) rfl)) (by decide) (by decide)) (g := (mkF m 170 #[.val (.long x0), .second, .val (.int x1), .val (.int x2), .val (.int x3), .val (.int x4), .val (.ref b0), .val (.int ib), .val (.int xx), .val (.int yy), .val (.int lo), .val (.int hi), .unset, .unset, .unset, .unset, .unset] [(.int hi), (.int lo), (.int (4 : Int32)), (.ref b0), (.long ((((fpart (0 : Int32) (nar .char u0) lo hi) + (fpart (1 : Int32) (nar .char u1) lo hi)) + (fpart (2 : Int32) (nar .char u2) lo hi)) + (fpart (3 : Int32) (nar .char u3) lo hi)))])) rfl (by rw [hml]; rfl) (argsL := [(.ref b0), (.int (4 : Int32)), (.int lo), (.int hi)]) (rest := [(.long ((((fpart (0 : Int32) (nar .char u0) lo hi) + (fpart (1 : Int32) (nar .char u1) lo hi)) + (fpart (2 : Int32) (nar .char u2) lo hi)) + (fpart (3 : Int32) (nar .char u3) lo hi)))]) (lenOf pd_14 rfl) rfl (by show 2 * 0 + _ ≤ _; exact Nat.le_of_eq rfl) (hb hby at_170) (fun _ _ => ⟨rfl, hh74, (by decide : 1 + 0 ≤ _), (by decide : 5 + 0 ≤ _)⟩)
    dsimp only [Pt.U, Pt.locs, Pt.cells, Pt.slots] at X77 l77 y77 z77 st77 hQ77
    subst l77 y77 z77
    obtain ⟨rfl, N77q, hh77⟩ := hQ77
    have N77 := Fr.app N74 N77q
    have pre78 : Go p e below (s₁.setTop (entryFrame m #[(.long x0), (.int x1), (.int x2), (.int x3), (.int x4)] maxLocals)) (T77.setTop (mkF m 173 #[.val (.long x0), .second, .val (.int x1), .val (.int x2), .val (.int x3), .val (.int x4), .val (.ref b0), .val (.int ib), .val (.int xx), .val (.int yy), .val (.int lo), .val (.int hi), .unset, .unset, .unset, .unset, .unset] [(.long (fpart (4 : Int32) (nar .char u4) lo hi)), (.long ((((fpart (0 : Int32) (nar .char u0) lo hi) + (fpart (1 : Int32) (nar .char u1) lo hi)) + (fpart (2 : Int32) (nar .char u2) lo hi)) + (fpart (3 : Int32) (nar .char u3) lo hi)))])) := fun t k => pre76 t (st77 t k)
    have pre79 : Go p e below (s₁.setTop (entryFrame m #[(.long x0), (.int x1), (.int x2), (.int x3), (.int x4)] maxLocals)) (T77.setTop (mkF m 187 #[.val (.long x0), .second, .val (.int x1), .val (.int x2), .val (.int x3), .val (.int x4), .val (.ref b0), .val (.int ib), .val (.int xx), .val (.int yy), .val (.int lo), .val (.int hi), .val (.long (((((fpart (0 : Int32) (nar .char u0) lo hi) + (fpart (1 : Int32) (nar .char u1) lo hi)) + (fpart (2 : Int32) (nar .char u2) lo hi)) + (fpart (3 : Int32) (nar .char u3) lo hi)) + (fpart (4 : Int32) (nar .char u4) lo hi))), .second, .unset, .unset, .unset] [])) := by
      intro t k
      refine pre78 t ?_
      show Steps p.tables e below (T77.setTop (mkF m 173 #[.val (.long x0), .second, .val (.int x1), .val (.int x2), .val (.int x3), .val (.int x4), .val (.ref b0), .val (.int ib), .val (.int xx), .val (.int yy), .val (.int lo), .val (.int hi), .unset, .unset, .unset, .unset, .unset] [(.long (fpart (4 : Int32) (nar .char u4) lo hi)), (.long ((((fpart (0 : Int32) (nar .char u0) lo hi) + (fpart (1 : Int32) (nar .char u1) lo hi)) + (fpart (2 : Int32) (nar .char u2) lo hi)) + (fpart (3 : Int32) (nar .char u3) lo hi)))])) _
      refine XS.ladd X77.here hx rfl (hb hby at_173) rfl ?_
      show Steps p.tables e below (T77.setTop (mkF m 174 #[.val (.long x0), .second, .val (.int x1), .val (.int x2), .val (.int x3), .val (.int x4), .val (.ref b0), .val (.int ib), .val (.int xx), .val (.int yy), .val (.int lo), .val (.int hi), .unset, .unset, .unset, .unset, .unset] [(.long (((((fpart (0 : Int32) (nar .char u0) lo hi) + (fpart (1 : Int32) (nar .char u1) lo hi)) + (fpart (2 : Int32) (nar .char u2) lo hi)) + (fpart (3 : Int32) (nar .char u3) lo hi)) + (fpart (4 : Int32) (nar .char u4) lo hi)))])) _
      refine XT.lstore X77.here hx rfl (hb hby at_174) rfl (l' := #[.val (.long x0), .second, .val (.int x1), .val (.int x2), .val (.int x3), .val (.int x4), .val (.ref b0), .val (.int ib), .val (.int xx), .val (.int yy), .val (.int lo), .val (.int hi), .val (.long (((((fpart (0 : Int32) (nar .char u0) lo hi) + (fpart (1 : Int32) (nar .char u1) lo hi)) + (fpart (2 : Int32) (nar .char u2) lo hi)) + (fpart (3 : Int32) (nar .char u3) lo hi)) + (fpart (4 : Int32) (nar .char u4) lo hi))), .second, .unset, .unset, .unset]) rfl ?_
      show Steps p.tables e below (T77.setTop (mkF m 176 #[.val (.long x0), .second, .val (.int x1), .val (.int x2), .val (.int x3), .val (.int x4), .val (.ref b0), .val (.int ib), .val (.int xx), .val (.int yy), .val (.int lo), .val (.int hi), .val (.long (((((fpart (0 : Int32) (nar .char u0) lo hi) + (fpart (1 : Int32) (nar .char u1) lo hi)) + (fpart (2 : Int32) (nar .char u2) lo hi)) + (fpart (3 : Int32) (nar .char u3) lo hi)) + (fpart (4 : Int32) (nar .char u4) lo hi))), .second, .unset, .unset, .unset] [])) _
      refine XS.goto X77.here hx rfl (pc0 := 176) (pc' := 187) rfl (hb hby at_176) (by decide) (by decide) ?_
      show Steps p.tables e below (T77.setTop (mkF m 187 #[.val (.long x0), .second, .val (.int x1), .val (.int x2), .val (.int x3), .val (.int x4), .val (.ref b0), .val (.int ib), .val (.int xx), .val (.int yy), .val (.int lo), .val (.int hi), .val (.long (((((fpart (0 : Int32) (nar .char u0) lo hi) + (fpart (1 : Int32) (nar .char u1) lo hi)) + (fpart (2 : Int32) (nar .char u2) lo hi)) + (fpart (3 : Int32) (nar .char u3) lo hi)) + (fpart (4 : Int32) (nar .char u4) lo hi))), .second, .unset, .unset, .unset] [])) _
      exact k
    obtain ⟨T80, h80, X80, e80, E80, A80, D80, -, st80⟩ := newO X77 hx hZ hown (hw _ (List.mem_of_getElem? (i := 10) rfl)) (hw _ (List.mem_of_getElem? (i := 11) rfl)) (hw _ (List.mem_of_getElem? (i := 12) rfl)) hh77 (g := (mkF m 187 #[.val (.long x0), .second, .val (.int x1), .val (.int x2), .val (.int x3), .val (.int x4), .val (.ref b0), .val (.int ib), .val (.int xx), .val (.int yy), .val (.int lo), .val (.int hi), .val (.long (((((fpart (0 : Int32) (nar .char u0) lo hi) + (fpart (1 : Int32) (nar .char u1) lo hi)) + (fpart (2 : Int32) (nar .char u2) lo hi)) + (fpart (3 : Int32) (nar .char u3) lo hi)) + (fpart (4 : Int32) (nar .char u4) lo hi))), .second, .unset, .unset, .unset] [])) rfl (hb hby at_187) (by decide) (by decide)
    obtain ⟨b1, g80⟩ : ∃ z, z = h27.size := ⟨_, rfl⟩
    rw [← g80] at A80 D80 st80
    have c81_80 := VT.ext E80
    have zz82 := (Nat.le_trans zz28 E80.1)
    have F_limit_b1 : Fld Z h80 b1 "com/example/xylograph/xylograph/MaxSize" "limit" "J" (.long (0 : Int64)) := D80 (Or.inr (hw _ (List.mem_of_getElem? (i := 25) rfl))) (ty := .long) (by decide)
    have F_inBytes_b1 : Fld Z h80 b1 "com/example/xylograph/xylograph/MaxSize" "inBytes" "Z" (.int (0 : Int32)) := D80 (Or.inr (hw _ (List.mem_of_getElem? (i := 27) rfl))) (ty := .boolean) (by decide)
    have g_b1 : n0 ≤ b1 := Nat.le_trans zz28 (Nat.le_of_eq g80.symm)
    have ne_b0_b1 : b0 ≠ b1 := Nat.ne_of_lt (Nat.lt_of_lt_of_le VT.lt (Nat.le_of_eq g80.symm))
    have pre83 : Go p e below (s₁.setTop (entryFrame m #[(.long x0), (.int x1), (.int x2), (.int x3), (.int x4)] maxLocals)) (T80.setTop (mkF m 190 #[.val (.long x0), .second, .val (.int x1), .val (.int x2), .val (.int x3), .val (.int x4), .val (.ref b0), .val (.int ib), .val (.int xx), .val (.int yy), .val (.int lo), .val (.int hi), .val (.long (((((fpart (0 : Int32) (nar .char u0) lo hi) + (fpart (1 : Int32) (nar .char u1) lo hi)) + (fpart (2 : Int32) (nar .char u2) lo hi)) + (fpart (3 : Int32) (nar .char u3) lo hi)) + (fpart (4 : Int32) (nar .char u4) lo hi))), .second, .unset, .unset, .unset] [(.ref b1)])) := fun t k => pre79 t (st80 t k)
    have pre84 : Go p e below (s₁.setTop (entryFrame m #[(.long x0), (.int x1), (.int x2), (.int x3), (.int x4)] maxLocals)) (T80.setTop (mkF m 194 #[.val (.long x0), .second, .val (.int x1), .val (.int x2), .val (.int x3), .val (.int x4), .val (.ref b0), .val (.int ib), .val (.int xx), .val (.int yy), .val (.int lo), .val (.int hi), .val (.long (((((fpart (0 : Int32) (nar .char u0) lo hi) + (fpart (1 : Int32) (nar .char u1) lo hi)) + (fpart (2 : Int32) (nar .char u2) lo hi)) + (fpart (3 : Int32) (nar .char u3) lo hi)) + (fpart (4 : Int32) (nar .char u4) lo hi))), .second, .unset, .unset, .unset] [(.int ib), (.long x0), (.ref b1), (.ref b1)])) := by
      intro t k
      refine pre83 t ?_
      show Steps p.tables e below (T80.setTop (mkF m 190 #[.val (.long x0), .second, .val (.int x1), .val (.int x2), .val (.int x3), .val (.int x4), .val (.ref b0), .val (.int ib), .val (.int xx), .val (.int yy), .val (.int lo), .val (.int hi), .val (.long (((((fpart (0 : Int32) (nar .char u0) lo hi) + (fpart (1 : Int32) (nar .char u1) lo hi)) + (fpart (2 : Int32) (nar .char u2) lo hi)) + (fpart (3 : Int32) (nar .char u3) lo hi)) + (fpart (4 : Int32) (nar .char u4) lo hi))), .second, .unset, .unset, .unset] [(.ref b1)])) _
      refine XS.dup X80.here hx rfl (hb hby at_190) rfl rfl ?_
      show Steps p.tables e below (T80.setTop (mkF m 191 #[.val (.long x0), .second, .val (.int x1), .val (.int x2), .val (.int x3), .val (.int x4), .val (.ref b0), .val (.int ib), .val (.int xx), .val (.int yy), .val (.int lo), .val (.int hi), .val (.long (((((fpart (0 : Int32) (nar .char u0) lo hi) + (fpart (1 : Int32) (nar .char u1) lo hi)) + (fpart (2 : Int32) (nar .char u2) lo hi)) + (fpart (3 : Int32) (nar .char u3) lo hi)) + (fpart (4 : Int32) (nar .char u4) lo hi))), .second, .unset, .unset, .unset] [(.ref b1), (.ref b1)])) _
      refine XT.lloadN X80.here hx rfl (hb hby at_191) rfl ?_
      show Steps p.tables e below (T80.setTop (mkF m 192 #[.val (.long x0), .second, .val (.int x1), .val (.int x2), .val (.int x3), .val (.int x4), .val (.ref b0), .val (.int ib), .val (.int xx), .val (.int yy), .val (.int lo), .val (.int hi), .val (.long (((((fpart (0 : Int32) (nar .char u0) lo hi) + (fpart (1 : Int32) (nar .char u1) lo hi)) + (fpart (2 : Int32) (nar .char u2) lo hi)) + (fpart (3 : Int32) (nar .char u3) lo hi)) + (fpart (4 : Int32) (nar .char u4) lo hi))), .second, .unset, .unset, .unset] [(.long x0), (.ref b1), (.ref b1)])) _
      refine XS.iload X80.here hx rfl (hb hby at_192) rfl ?_
      show Steps p.tables e below (T80.setTop (mkF m 194 #[.val (.long x0), .second, .val (.int x1), .val (.int x2), .val (.int x3), .val (.int x4), .val (.ref b0), .val (.int ib), .val (.int xx), .val (.int yy), .val (.int lo), .val (.int hi), .val (.long (((((fpart (0 : Int32) (nar .char u0) lo hi) + (fpart (1 : Int32) (nar .char u1) lo hi)) + (fpart (2 : Int32) (nar .char u2) lo hi)) + (fpart (3 : Int32) (nar .char u3) lo hi)) + (fpart (4 : Int32) (nar .char u4) lo hi))), .second, .unset, .unset, .unset] [(.int ib), (.long x0), (.ref b1), (.ref b1)])) _
      exact k
    obtain ⟨_, _, ⟨T85, L85, k85, n85⟩, -, X85, ⟨Lc85, hQ85, l85, y85, z85⟩, st85⟩ := X80.specialBack hx (y := (⟨"com/example/xylograph/xylograph/MaxSize", "<init>", "(JZ)V"⟩ : MethodName)) rfl hown (mvT hZ (hw _ (List.mem_of_getElem? (i := 13) rfl))) (mvT hZ (hw _ (List.mem_of_getElem? (i := 14) rfl))) (mvT hZ (hw _ (List.mem_of_getElem? (i := 15) rfl))) (by decide) (backOf (W := 1) (rm3 l Z a0 hw [] b1 x0 ib  h80 n0 zz82 A80 F_limit_b1 F_inBytes_b1 g_b1) hZ (hw _ (List.mem_of_getElem? (i := 15) rfl)) (hw _ (List.mem_of_getElem? (i := 12) rfl)) (by decide) (by decide)) (g := (mkF m 194 #[.val (.long x0), .second, .val (.int x1), .val (.int x2), .val (.int x3), .val (.int x4), .val (.ref b0), .val (.int ib), .val (.int xx), .val (.int yy), .val (.int lo), .val (.int hi), .val (.long (((((fpart (0 : Int32) (nar .char u0) lo hi) + (fpart (1 : Int32) (nar .char u1) lo hi)) + (fpart (2 : Int32) (nar .char u2) lo hi)) + (fpart (3 : Int32) (nar .char u3) lo hi)) + (fpart (4 : Int32) (nar .char u4) lo hi))), .second, .unset, .unset, .unset] [(.int ib), (.long x0), (.ref b1), (.ref b1)])) rfl (by rw [hml]; rfl) (Steps.refl _) (a := b1) (argsL := [(.long x0), (.int ib)]) (rest := [(.ref b1)]) (lenOf pd_12 rfl) rfl (by show 2 * 0 + _ ≤ _; exact Nat.le_of_eq rfl) (hb hby at_194) (fun _ _ => ⟨rfl, e80, (by decide : 2 + 0 ≤ _), (by decide : 7 + 0 ≤ _)⟩)
    dsimp only [Pt.U, Pt.locs, Pt.cells, Pt.slots] at X85 l85 y85 z85 st85 hQ85
    subst l85 y85 z85
    obtain ⟨rfl, N85q, K85, X85e, Fb85⟩ := hQ85
    have N85 := Fr.app N77 N85q
    have kc86 := c81_80.keep K85 (ninS ne_b0_b1 nin0)
    have kc87 := A80.keep K85
    have zz88 := Nat.le_trans zz82 K85.1
    have pre89 : Go p e below (s₁.setTop (entryFrame m #[(.long x0), (.int x1), (.int x2), (.int x3), (.int x4)] maxLocals)) (T85.setTop (mkF m 197 #[.val (.long x0), .second, .val (.int x1), .val (.int x2), .val (.int x3), .val (.int x4), .val (.ref b0), .val (.int ib), .val (.int xx), .val (.int yy), .val (.int lo), .val (.int hi), .val (.long (((((fpart (0 : Int32) (nar .char u0) lo hi) + (fpart (1 : Int32) (nar .char u1) lo hi)) + (fpart (2 : Int32) (nar .char u2) lo hi)) + (fpart (3 : Int32) (nar .char u3) lo hi)) + (fpart (4 : Int32) (nar .char u4) lo hi))), .second, .unset, .unset, .unset] [(.ref b1)])) := fun t k => pre84 t (st85.trans k)
    have pre90 : Go p e below (s₁.setTop (entryFrame m #[(.long x0), (.int x1), (.int x2), (.int x3), (.int x4)] maxLocals)) (T85.setTop (mkF m 207 #[.val (.long x0), .second, .val (.int x1), .val (.int x2), .val (.int x3), .val (.int x4), .val (.ref b0), .val (.int ib), .val (.int xx), .val (.int yy), .val (.int lo), .val (.int hi), .val (.long (((((fpart (0 : Int32) (nar .char u0) lo hi) + (fpart (1 : Int32) (nar .char u1) lo hi)) + (fpart (2 : Int32) (nar .char u2) lo hi)) + (fpart (3 : Int32) (nar .char u3) lo hi)) + (fpart (4 : Int32) (nar .char u4) lo hi))), .second, .val (.ref b1), .unset, .unset] [(.int hi), (.int lo), (.ref b0), (.ref b1)])) := by
      intro t k
      refine pre89 t ?_
      show Steps p.tables e below (T85.setTop (mkF m 197 #[.val (.long x0), .second, .val (.int x1), .val (.int x2), .val (.int x3), .val (.int x4), .val (.ref b0), .val (.int ib), .val (.int xx), .val (.int yy), .val (.int lo), .val (.int hi), .val (.long (((((fpart (0 : Int32) (nar .char u0) lo hi) + (fpart (1 : Int32) (nar .char u1) lo hi)) + (fpart (2 : Int32) (nar .char u2) lo hi)) + (fpart (3 : Int32) (nar .char u3) lo hi)) + (fpart (4 : Int32) (nar .char u4) lo hi))), .second, .unset, .unset, .unset] [(.ref b1)])) _
      refine XS.astore X85.here hx rfl (hb hby at_197) rfl rfl (l' := #[.val (.long x0), .second, .val (.int x1), .val (.int x2), .val (.int x3), .val (.int x4), .val (.ref b0), .val (.int ib), .val (.int xx), .val (.int yy), .val (.int lo), .val (.int hi), .val (.long (((((fpart (0 : Int32) (nar .char u0) lo hi) + (fpart (1 : Int32) (nar .char u1) lo hi)) + (fpart (2 : Int32) (nar .char u2) lo hi)) + (fpart (3 : Int32) (nar .char u3) lo hi)) + (fpart (4 : Int32) (nar .char u4) lo hi))), .second, .val (.ref b1), .unset, .unset]) rfl ?_
      show Steps p.tables e below (T85.setTop (mkF m 199 #[.val (.long x0), .second, .val (.int x1), .val (.int x2), .val (.int x3), .val (.int x4), .val (.ref b0), .val (.int ib), .val (.int xx), .val (.int yy), .val (.int lo), .val (.int hi), .val (.long (((((fpart (0 : Int32) (nar .char u0) lo hi) + (fpart (1 : Int32) (nar .char u1) lo hi)) + (fpart (2 : Int32) (nar .char u2) lo hi)) + (fpart (3 : Int32) (nar .char u3) lo hi)) + (fpart (4 : Int32) (nar .char u4) lo hi))), .second, .val (.ref b1), .unset, .unset] [])) _
      refine XS.aload X85.here hx rfl (hb hby at_199) rfl rfl ?_
      show Steps p.tables e below (T85.setTop (mkF m 201 #[.val (.long x0), .second, .val (.int x1), .val (.int x2), .val (.int x3), .val (.int x4), .val (.ref b0), .val (.int ib), .val (.int xx), .val (.int yy), .val (.int lo), .val (.int hi), .val (.long (((((fpart (0 : Int32) (nar .char u0) lo hi) + (fpart (1 : Int32) (nar .char u1) lo hi)) + (fpart (2 : Int32) (nar .char u2) lo hi)) + (fpart (3 : Int32) (nar .char u3) lo hi)) + (fpart (4 : Int32) (nar .char u4) lo hi))), .second, .val (.ref b1), .unset, .unset] [(.ref b1)])) _
      refine XS.aload X85.here hx rfl (hb hby at_201) rfl rfl ?_
      show Steps p.tables e below (T85.setTop (mkF m 203 #[.val (.long x0), .second, .val (.int x1), .val (.int x2), .val (.int x3), .val (.int x4), .val (.ref b0), .val (.int ib), .val (.int xx), .val (.int yy), .val (.int lo), .val (.int hi), .val (.long (((((fpart (0 : Int32) (nar .char u0) lo hi) + (fpart (1 : Int32) (nar .char u1) lo hi)) + (fpart (2 : Int32) (nar .char u2) lo hi)) + (fpart (3 : Int32) (nar .char u3) lo hi)) + (fpart (4 : Int32) (nar .char u4) lo hi))), .second, .val (.ref b1), .unset, .unset] [(.ref b0), (.ref b1)])) _
      refine XS.iload X85.here hx rfl (hb hby at_203) rfl ?_
      show Steps p.tables e below (T85.setTop (mkF m 205 #[.val (.long x0), .second, .val (.int x1), .val (.int x2), .val (.int x3), .val (.int x4), .val (.ref b0), .val (.int ib), .val (.int xx), .val (.int yy), .val (.int lo), .val (.int hi), .val (.long (((((fpart (0 : Int32) (nar .char u0) lo hi) + (fpart (1 : Int32) (nar .char u1) lo hi)) + (fpart (2 : Int32) (nar .char u2) lo hi)) + (fpart (3 : Int32) (nar .char u3) lo hi)) + (fpart (4 : Int32) (nar .char u4) lo hi))), .second, .val (.ref b1), .unset, .unset] [(.int lo), (.ref b0), (.ref b1)])) _
      refine XS.iload X85.here hx rfl (hb hby at_205) rfl ?_
      show Steps p.tables e below (T85.setTop (mkF m 207 #[.val (.long x0), .second, .val (.int x1), .val (.int x2), .val (.int x3), .val (.int x4), .val (.ref b0), .val (.int ib), .val (.int xx), .val (.int yy), .val (.int lo), .val (.int hi), .val (.long (((((fpart (0 : Int32) (nar .char u0) lo hi) + (fpart (1 : Int32) (nar .char u1) lo hi)) + (fpart (2 : Int32) (nar .char u2) lo hi)) + (fpart (3 : Int32) (nar .char u3) lo hi)) + (fpart (4 : Int32) (nar .char u4) lo hi))), .second, .val (.ref b1), .unset, .unset] [(.int hi), (.int lo), (.ref b0), (.ref b1)])) _
      exact k
    obtain ⟨cq91, kq91, q91a, q91b, q91c⟩ := isOf hZ rfl kc87
    obtain ⟨_, _, ⟨T91, L91, k91, n91⟩, -, X91, ⟨Lc91, hQ91, l91, y91, z91⟩, st91⟩ := X85.virtualBack hx (y := (⟨"com/example/xylograph/xylograph/MaxSize", "sizeOf", "([CII)J"⟩ : MethodName)) (z := (⟨"com/example/xylograph/xylograph/MaxSize", "sizeOf", "([CII)J"⟩ : MethodName)) hown (mvT hZ (hw _ (List.mem_of_getElem? (i := 28) rfl))) (mvT hZ (hw _ (List.mem_of_getElem? (i := 29) rfl))) (notFace_of_selects (args := #[]) (mvT hZ (hw _ (List.mem_of_getElem? (i := 31) rfl)))) (mvT hZ (hw _ (List.mem_of_getElem? (i := 31) rfl))) (mvT hZ (hw _ (List.mem_of_getElem? (i := 30) rfl))) (by decide) (backOf (W := 0) (rm6 l Z a0 hw [] b1 b0 lo hi (nar .boolean ib) k2 [nar .char u0, nar .char u1, nar .char u2, nar .char u3, nar .char u4] T85.heap n0 zz88 Fb85 kc86 hbd.1 hbd.2.1 hbd.2.2) hZ (hw _ (List.mem_of_getElem? (i := 32) rfl)) (hw _ (List.mem_of_getElem? (i := 12) rfl)) (by decide) (by decide)) q91a q91c (g := (mkF m 207 #[.val (.long x0), .second, .val (.int x1), .val (.int x2), .val (.int x3), .val (.int x4), .val (.ref b0), .val (.int ib), .val (.int xx), .val (.int yy), .val (.int lo), .val (.int hi), .val (.long (((((fpart (0 : Int32) (nar .char u0) lo hi) + (fpart (1 : Int32) (nar .char u1) lo hi)) + (fpart (2 : Int32) (nar .char u2) lo hi)) + (fpart (3 : Int32) (nar .char u3) lo hi)) + (fpart (4 : Int32) (nar .char u4) lo hi))), .second, .val (.ref b1), .unset, .unset] [(.int hi), (.int lo), (.ref b0), (.ref b1)])) rfl (by rw [hml]; rfl) (Steps.refl _) (argsL := [(.ref b0), (.int lo), (.int hi)]) (rest := []) (lenOf pd_13 rfl) rfl (by show 2 * 0 + _ ≤ _; exact Nat.le_of_eq rfl) (hb hby at_207) (fun _ _ => ⟨rfl, rfl, (by decide : 2 + 0 ≤ _), (by decide : 7 + 0 ≤ _)⟩)
    dsimp only [Pt.U, Pt.locs, Pt.cells, Pt.slots] at X91 l91 y91 z91 st91 hQ91
    subst l91 y91 z91
    obtain ⟨rfl, N91q, hh91⟩ := hQ91
    have N91 := Fr.app N85 N91q
    have pre92 : Go p e below (s₁.setTop (entryFrame m #[(.long x0), (.int x1), (.int x2), (.int x3), (.int x4)] maxLocals)) (T91.setTop (mkF m 210 #[.val (.long x0), .second, .val (.int x1), .val (.int x2), .val (.int x3), .val (.int x4), .val (.ref b0), .val (.int ib), .val (.int xx), .val (.int yy), .val (.int lo), .val (.int hi), .val (.long (((((fpart (0 : Int32) (nar .char u0) lo hi) + (fpart (1 : Int32) (nar .char u1) lo hi)) + (fpart (2 : Int32) (nar .char u2) lo hi)) + (fpart (3 : Int32) (nar .char u3) lo hi)) + (fpart (4 : Int32) (nar .char u4) lo hi))), .second, .val (.ref b1), .unset, .unset] [(.long (own_size (nar .boolean ib) lo hi [nar .char u0, nar .char u1, nar .char u2, nar .char u3, nar .char u4]))])) := fun t k => pre90 t (st91.trans k)
    have pre93 : Go p e below (s₁.setTop (entryFrame m #[(.long x0), (.int x1), (.int x2), (.int x3), (.int x4)] maxLocals)) (T91.setTop (mkF m 217 #[.val (.long x0), .second, .val (.int x1), .val (.int x2), .val (.int x3), .val (.int x4), .val (.ref b0), .val (.int ib), .val (.int xx), .val (.int yy), .val (.int lo), .val (.int hi), .val (.long (((((fpart (0 : Int32) (nar .char u0) lo hi) + (fpart (1 : Int32) (nar .char u1) lo hi)) + (fpart (2 : Int32) (nar .char u2) lo hi)) + (fpart (3 : Int32) (nar .char u3) lo hi)) + (fpart (4 : Int32) (nar .char u4) lo hi))), .second, .val (.ref b1), .val (.long (own_size (nar .boolean ib) lo hi [nar .char u0, nar .char u1, nar .char u2, nar .char u3, nar .char u4])), .second] [(.int (XT.cmpL (own_size (nar .boolean ib) lo hi [nar .char u0, nar .char u1, nar .char u2, nar .char u3, nar .char u4]) (((((fpart (0 : Int32) (nar .char u0) lo hi) + (fpart (1 : Int32) (nar .char u1) lo hi)) + (fpart (2 : Int32) (nar .char u2) lo hi)) + (fpart (3 : Int32) (nar .char u3) lo hi)) + (fpart (4 : Int32) (nar .char u4) lo hi))))])) := by
      intro t k
      refine pre92 t ?_
      show Steps p.tables e below (T91.setTop (mkF m 210 #[.val (.long x0), .second, .val (.int x1), .val (.int x2), .val (.int x3), .val (.int x4), .val (.ref b0), .val (.int ib), .val (.int xx), .val (.int yy), .val (.int lo), .val (.int hi), .val (.long (((((fpart (0 : Int32) (nar .char u0) lo hi) + (fpart (1 : Int32) (nar .char u1) lo hi)) + (fpart (2 : Int32) (nar .char u2) lo hi)) + (fpart (3 : Int32) (nar .char u3) lo hi)) + (fpart (4 : Int32) (nar .char u4) lo hi))), .second, .val (.ref b1), .unset, .unset] [(.long (own_size (nar .boolean ib) lo hi [nar .char u0, nar .char u1, nar .char u2, nar .char u3, nar .char u4]))])) _
      refine XT.lstore X91.here hx rfl (hb hby at_210) rfl (l' := #[.val (.long x0), .second, .val (.int x1), .val (.int x2), .val (.int x3), .val (.int x4), .val (.ref b0), .val (.int ib), .val (.int xx), .val (.int yy), .val (.int lo), .val (.int hi), .val (.long (((((fpart (0 : Int32) (nar .char u0) lo hi) + (fpart (1 : Int32) (nar .char u1) lo hi)) + (fpart (2 : Int32) (nar .char u2) lo hi)) + (fpart (3 : Int32) (nar .char u3) lo hi)) + (fpart (4 : Int32) (nar .char u4) lo hi))), .second, .val (.ref b1), .val (.long (own_size (nar .boolean ib) lo hi [nar .char u0, nar .char u1, nar .char u2, nar .char u3, nar .char u4])), .second]) rfl ?_
      show Steps p.tables e below (T91.setTop (mkF m 212 #[.val (.long x0), .second, .val (.int x1), .val (.int x2), .val (.int x3), .val (.int x4), .val (.ref b0), .val (.int ib), .val (.int xx), .val (.int yy), .val (.int lo), .val (.int hi), .val (.long (((((fpart (0 : Int32) (nar .char u0) lo hi) + (fpart (1 : Int32) (nar .char u1) lo hi)) + (fpart (2 : Int32) (nar .char u2) lo hi)) + (fpart (3 : Int32) (nar .char u3) lo hi)) + (fpart (4 : Int32) (nar .char u4) lo hi))), .second, .val (.ref b1), .val (.long (own_size (nar .boolean ib) lo hi [nar .char u0, nar .char u1, nar .char u2, nar .char u3, nar .char u4])), .second] [])) _
      refine XT.lload X91.here hx rfl (hb hby at_212) rfl ?_
      show Steps p.tables e below (T91.setTop (mkF m 214 #[.val (.long x0), .second, .val (.int x1), .val (.int x2), .val (.int x3), .val (.int x4), .val (.ref b0), .val (.int ib), .val (.int xx), .val (.int yy), .val (.int lo), .val (.int hi), .val (.long (((((fpart (0 : Int32) (nar .char u0) lo hi) + (fpart (1 : Int32) (nar .char u1) lo hi)) + (fpart (2 : Int32) (nar .char u2) lo hi)) + (fpart (3 : Int32) (nar .char u3) lo hi)) + (fpart (4 : Int32) (nar .char u4) lo hi))), .second, .val (.ref b1), .val (.long (own_size (nar .boolean ib) lo hi [nar .char u0, nar .char u1, nar .char u2, nar .char u3, nar .char u4])), .second] [(.long (own_size (nar .boolean ib) lo hi [nar .char u0, nar .char u1, nar .char u2, nar .char u3, nar .char u4]))])) _
      refine XT.lload X91.here hx rfl (hb hby at_214) rfl ?_
      show Steps p.tables e below (T91.setTop (mkF m 216 #[.val (.long x0), .second, .val (.int x1), .val (.int x2), .val (.int x3), .val (.int x4), .val (.ref b0), .val (.int ib), .val (.int xx), .val (.int yy), .val (.int lo), .val (.int hi), .val (.long (((((fpart (0 : Int32) (nar .char u0) lo hi) + (fpart (1 : Int32) (nar .char u1) lo hi)) + (fpart (2 : Int32) (nar .char u2) lo hi)) + (fpart (3 : Int32) (nar .char u3) lo hi)) + (fpart (4 : Int32) (nar .char u4) lo hi))), .second, .val (.ref b1), .val (.long (own_size (nar .boolean ib) lo hi [nar .char u0, nar .char u1, nar .char u2, nar .char u3, nar .char u4])), .second] [(.long (((((fpart (0 : Int32) (nar .char u0) lo hi) + (fpart (1 : Int32) (nar .char u1) lo hi)) + (fpart (2 : Int32) (nar .char u2) lo hi)) + (fpart (3 : Int32) (nar .char u3) lo hi)) + (fpart (4 : Int32) (nar .char u4) lo hi))), (.long (own_size (nar .boolean ib) lo hi [nar .char u0, nar .char u1, nar .char u2, nar .char u3, nar .char u4]))])) _
      refine XT.lcmp X91.here hx rfl (hb hby at_216) rfl ?_
      show Steps p.tables e below (T91.setTop (mkF m 217 #[.val (.long x0), .second, .val (.int x1), .val (.int x2), .val (.int x3), .val (.int x4), .val (.ref b0), .val (.int ib), .val (.int xx), .val (.int yy), .val (.int lo), .val (.int hi), .val (.long (((((fpart (0 : Int32) (nar .char u0) lo hi) + (fpart (1 : Int32) (nar .char u1) lo hi)) + (fpart (2 : Int32) (nar .char u2) lo hi)) + (fpart (3 : Int32) (nar .char u3) lo hi)) + (fpart (4 : Int32) (nar .char u4) lo hi))), .second, .val (.ref b1), .val (.long (own_size (nar .boolean ib) lo hi [nar .char u0, nar .char u1, nar .char u2, nar .char u3, nar .char u4])), .second] [(.int (XT.cmpL (own_size (nar .boolean ib) lo hi [nar .char u0, nar .char u1, nar .char u2, nar .char u3, nar .char u4]) (((((fpart (0 : Int32) (nar .char u0) lo hi) + (fpart (1 : Int32) (nar .char u1) lo hi)) + (fpart (2 : Int32) (nar .char u2) lo hi)) + (fpart (3 : Int32) (nar .char u3) lo hi)) + (fpart (4 : Int32) (nar .char u4) lo hi))))])) _
      exact k
    have hc217_94 : (own_size (nar .boolean ib) lo hi [nar .char u0, nar .char u1, nar .char u2, nar .char u3, nar .char u4]) = (((((fpart (0 : Int32) (nar .char u0) lo hi) + (fpart (1 : Int32) (nar .char u1) lo hi)) + (fpart (2 : Int32) (nar .char u2) lo hi)) + (fpart (3 : Int32) (nar .char u3) lo hi)) + (fpart (4 : Int32) (nar .char u4) lo hi)) := by
      have hb1 : ib = 1 := by
        rcases (show ib = 0 ∨ ib = 1 from by rw [h_ib]; split <;> first | exact Or.inl rfl | exact Or.inr rfl) with q | q
        · exact absurd q hc117_46
        · exact q
      rw [own_size, if_neg (by rw [hb1]; decide)]
      exact own_fin _ _ _ _ _ hxx hyy h_lo h_hi
    have pre95 : Go p e below (s₁.setTop (entryFrame m #[(.long x0), (.int x1), (.int x2), (.int x3), (.int x4)] maxLocals)) (T91.setTop (mkF m 225 #[.val (.long x0), .second, .val (.int x1), .val (.int x2), .val (.int x3), .val (.int x4), .val (.ref b0), .val (.int ib), .val (.int xx), .val (.int yy), .val (.int lo), .val (.int hi), .val (.long (((((fpart (0 : Int32) (nar .char u0) lo hi) + (fpart (1 : Int32) (nar .char u1) lo hi)) + (fpart (2 : Int32) (nar .char u2) lo hi)) + (fpart (3 : Int32) (nar .char u3) lo hi)) + (fpart (4 : Int32) (nar .char u4) lo hi))), .second, .val (.ref b1), .val (.long (own_size (nar .boolean ib) lo hi [nar .char u0, nar .char u1, nar .char u2, nar .char u3, nar .char u4])), .second] [(.int (1 : Int32))])) := by
      intro t k
      refine pre93 t ?_
      show Steps p.tables e below (T91.setTop (mkF m 217 #[.val (.long x0), .second, .val (.int x1), .val (.int x2), .val (.int x3), .val (.int x4), .val (.ref b0), .val (.int ib), .val (.int xx), .val (.int yy), .val (.int lo), .val (.int hi), .val (.long (((((fpart (0 : Int32) (nar .char u0) lo hi) + (fpart (1 : Int32) (nar .char u1) lo hi)) + (fpart (2 : Int32) (nar .char u2) lo hi)) + (fpart (3 : Int32) (nar .char u3) lo hi)) + (fpart (4 : Int32) (nar .char u4) lo hi))), .second, .val (.ref b1), .val (.long (own_size (nar .boolean ib) lo hi [nar .char u0, nar .char u1, nar .char u2, nar .char u3, nar .char u4])), .second] [(.int (XT.cmpL (own_size (nar .boolean ib) lo hi [nar .char u0, nar .char u1, nar .char u2, nar .char u3, nar .char u4]) (((((fpart (0 : Int32) (nar .char u0) lo hi) + (fpart (1 : Int32) (nar .char u1) lo hi)) + (fpart (2 : Int32) (nar .char u2) lo hi)) + (fpart (3 : Int32) (nar .char u3) lo hi)) + (fpart (4 : Int32) (nar .char u4) lo hi))))])) _
      refine XS.ifNo X91.here hx rfl (hb hby at_217) rfl (XT.ll_ne_f hc217_94) ?_
      show Steps p.tables e below (T91.setTop (mkF m 220 #[.val (.long x0), .second, .val (.int x1), .val (.int x2), .val (.int x3), .val (.int x4), .val (.ref b0), .val (.int ib), .val (.int xx), .val (.int yy), .val (.int lo), .val (.int hi), .val (.long (((((fpart (0 : Int32) (nar .char u0) lo hi) + (fpart (1 : Int32) (nar .char u1) lo hi)) + (fpart (2 : Int32) (nar .char u2) lo hi)) + (fpart (3 : Int32) (nar .char u3) lo hi)) + (fpart (4 : Int32) (nar .char u4) lo hi))), .second, .val (.ref b1), .val (.long (own_size (nar .boolean ib) lo hi [nar .char u0, nar .char u1, nar .char u2, nar .char u3, nar .char u4])), .second] [])) _
      refine XS.iconst X91.here hx rfl (hb hby at_220) ?_
      show Steps p.tables e below (T91.setTop (mkF m 221 #[.val (.long x0), .second, .val (.int x1), .val (.int x2), .val (.int x3), .val (.int x4), .val (.ref b0), .val (.int ib), .val (.int xx), .val (.int yy), .val (.int lo), .val (.int hi), .val (.long (((((fpart (0 : Int32) (nar .char u0) lo hi) + (fpart (1 : Int32) (nar .char u1) lo hi)) + (fpart (2 : Int32) (nar .char u2) lo hi)) + (fpart (3 : Int32) (nar .char u3) lo hi)) + (fpart (4 : Int32) (nar .char u4) lo hi))), .second, .val (.ref b1), .val (.long (own_size (nar .boolean ib) lo hi [nar .char u0, nar .char u1, nar .char u2, nar .char u3, nar .char u4])), .second] [(.int (1 : Int32))])) _
      refine XS.goto X91.here hx rfl (pc0 := 221) (pc' := 225) rfl (hb hby at_221) (by decide) (by decide) ?_
      show Steps p.tables e below (T91.setTop (mkF m 225 #[.val (.long x0), .second, .val (.int x1), .val (.int x2), .val (.int x3), .val (.int x4), .val (.ref b0), .val (.int ib), .val (.int xx), .val (.int yy), .val (.int lo), .val (.int hi), .val (.long (((((fpart (0 : Int32) (nar .char u0) lo hi) + (fpart (1 : Int32) (nar .char u1) lo hi)) + (fpart (2 : Int32) (nar .char u2) lo hi)) + (fpart (3 : Int32) (nar .char u3) lo hi)) + (fpart (4 : Int32) (nar .char u4) lo hi))), .second, .val (.ref b1), .val (.long (own_size (nar .boolean ib) lo hi [nar .char u0, nar .char u1, nar .char u2, nar .char u3, nar .char u4])), .second] [(.int (1 : Int32))])) _
      exact k
    obtain ⟨fs, hr, hrun, hended, hW, hsame⟩ := X91.leave (hlocks := hlk) (v := some (.int (1 : Int32))) (fun h => by rw [Bd.returns] at h; cases h)
    refine ⟨_, _, pre95 _ (retN X91 hx (t := .boolean) Bd.returns (by simp) (hb hby at_225) hr), hrun, hended, _, _, rfl, ?_, ⟨_, rfl⟩, hW, hsame.mono (by decide) (by decide)⟩
    show Q0 Z x0 x1 x2 x3 x4 h0 n0 _ T91.heap _
    rw [hh91]
    exact ⟨rfl, N91⟩
set_option maxRecDepth 65536 in
set_option maxHeartbeats 40000000 in
theorem comes_1 {Post : Tables → Env → Array Value → State → Outcome → State → Prop} (hpost : ∀ tb e args s v u, (limb_1_1.after args s (.returned v) u = true ∧ limb_1_2.after args s (.returned v) u = true ∧ True) → FrameEnd s (.returned v) u (Jvm.fieldLocs frame_1_writes args s ++ Jvm.arrayLocs frame_1_arrays args s ++ Jvm.staticLocs frame_1_statics s) 16 128 → Post tb e args s (.returned v) u) :
    ArmFor flags0 classFile x code maxLocals ret World_1 tables_1 room_1 Calls_1 rest_1 Pre_1 Post := by
  intro l hfl _ _ p e ha hc hk s m args below hf hA hF happ hP
  obtain ⟨hcalls, hrest, hpre⟩ := hP
  obtain ⟨-, -, -, hnamed, -, -, -, hat⟩ := (Spec.applies_iff hf).mp happ
  obtain ⟨hg, hn⟩ := and_e (Cond.before_iff.mp (show (Jvm.Cond.and given_1 narrow_1).before args s = true from hpre))
  obtain ⟨u1, u2⟩ := and_e hg
  obtain ⟨u3, u4⟩ := and_e u2
  obtain ⟨u5, u6⟩ := and_e u4
  obtain ⟨u7, u8⟩ := and_e u6
  obtain ⟨u9, u10⟩ := and_e u8
  obtain ⟨w0, w1, w2, w3, w4, rfl⟩ : ∃ w0 w1 w2 w3 w4 : Value, args = #[w0, w1, w2, w3, w4] := by
    have hs : args.size = 5 := by simpa [Cond.value, given_1] using u1
    obtain ⟨L⟩ := args
    match L, hs with
    | [w0, w1, w2, w3, w4], _ => exact ⟨w0, w1, w2, w3, w4, rfl⟩
  have hw := fun d (hd : d ∈ tables_1) => atoms_spec (ws := Jvm.Cond.code x code maxLocals ret :: tables_1) hat d (List.mem_cons_of_mem _ hd)
  obtain ⟨i0, ei0⟩ := isL_v u3
  obtain rfl : w0 = (.long i0) := Option.some.inj ei0
  obtain ⟨i1, ei1⟩ := is_v u5
  obtain rfl : w1 = (.int i1) := Option.some.inj ei1
  obtain ⟨i2, ei2⟩ := is_v u7
  obtain rfl : w2 = (.int i2) := Option.some.inj ei2
  obtain ⟨i3, ei3⟩ := is_v u9
  obtain rfl : w3 = (.int i3) := Option.some.inj ei3
  obtain ⟨i4, ei4⟩ := is_v u10
  obtain rfl : w4 = (.int i4) := Option.some.inj ei4
  obtain ⟨n, o, h1, h2, h3, _, L, rfl, ⟨rfl, N⟩, hq⟩ := rm0 l s _ hw tables_1 i0 i1 i2 i3 i4 s.heap s.heap.size (Nat.le_refl _) p e ha hc hk s m _ below hf ((Spec.applies_iff_loose hf).mp happ).1 ⟨rfl, State.Warmed39.refl s, rfl⟩ trivial
  refine ⟨n, _, h1, h2, h3, hpost _ _ _ _ _ _ ⟨Cond.after_iff.mpr rfl, Cond.after_iff.mpr (eq_i res_at (Term.int_eval (1)) rfl), trivial⟩ ⟨hq.1, hq.2.1, (hq.2.2.sift fun y hy => Or.inr (N y hy)).mono (by decide) (by decide)⟩⟩
theorem main_1_1 : Claimed_1_1 := comes_1 fun _ _ _ _ _ _ h hF => ⟨h.1, hF⟩
theorem main_1_2 : Claimed_1_2 := comes_1 fun _ _ _ _ _ _ h hF => ⟨h.2.1, hF⟩
end Jvm.Pilot.@@N@@
namespace Jvm.Pilot.@@N@@
open Jvm Jvm.ClassFile Sem Op Lib Jvm.Free Jvm.Stand Jvm.Pilot.@@N@@.Jvm.D
/-! MADE BY PROGRAM (witnessworld.py) out of the Statement's table words and the real class files: 16 classes; the members and pool entries that the words name. The judged class is class 1, her method 3. -/
namespace start1
open Jvm.ClassFile
def u (s : String) : CpInfo := .utf8 (stringToUtf16 s)
/-- a pool by its gaps: so many unusable entries, then the entry; so many at the end -/
def gap : Nat → List CpInfo → List CpInfo
  | 0, r => r
  | n + 1, r => .unusable :: gap n r
def poolList (es : List (Nat × CpInfo)) (last : Nat) : List CpInfo := es.foldr (fun e r => gap e.1 (e.2 :: r)) (gap last [])
def pool (es : List (Nat × CpInfo)) (last : Nat) : Array CpInfo := ⟨poolList es last⟩
def fileOf (pool : Array CpInfo) (this : Nat) (attrs : Array Attribute := #[]) (ms : Array MethodInfo := #[]) (fl : Nat := 33) (sup : Nat := 0) (ifs : Array Nat := #[]) (fds : Array FieldInfo := #[]) : ClassFile where
  minorVersion := 0
  majorVersion := 65
  constantPool := pool
  accessFlags := fl
  thisClass := this
  superClass := sup
  interfaces := ifs
  fields := fds
  methods := ms
  attributes := attrs
def plain (name : String) (sup : Option ClassId) : Class where
  name := name
  kind := .ordinary
  loader := none
  accessFlags := 33
  super := sup
  interfaces := #[]
  cf := none
  fields := #[]
  methods := #[]
  instanceTypes := #[]
  staticTypes := #[]
  resolved := #[]
  callSites := []
  init := .initialized
  statics := none
  mirror := none

def pool0 : Array CpInfo := pool [(5, u "<init>"), (0, u "()V"), (1, .class_ 10), (1, u "java/lang/Object")] 113

def k0c0 : Code := { maxStack := 0, maxLocals := 1, code := object_method_1_code, exceptionTable := #[], attributes := #[] }
def k0m0 : Method := { name := "<init>", desc := "()V", sig := { parameters := [], returnType := none }, accessFlags := 1, code := some k0c0 }
/-- java/lang/Object -/
def k0 : Class := { plain "java/lang/Object" none with
  accessFlags := 33
  interfaces := #[]
  cf := some (fileOf pool0 8 #[] #[{ accessFlags := 1, nameIndex := 5, descriptorIndex := 6, attributes := #[] }] 33 0 #[] #[])
  fields := #[]
  methods := #[k0m0]
  instanceTypes := #[]
  staticTypes := #[]
  resolved := Array.replicate 124 none
  statics := none }

def pool1 : Array CpInfo := pool [(2, .class_ 4), (1, u "java/lang/Object"), (0, u "<init>"), (0, u "()V"), (0, .long 2), (1, .integer 55296), (0, .integer 57343), (0, .long 3), (1, .methodref 14 15), (0, .class_ 16), (0, .nameAndType 17 18), (0, u "com/example/xylograph/xylograph/MaxSizeSizeOfPinLaw"), (0, u "w"), (0, u "(C)J"), (0, .integer 65535), (0, .integer 2147483647), (0, .methodref 22 23), (0, .class_ 24), (0, .nameAndType 25 26), (0, u "java/lang/Math"), (0, u "min"), (0, u "(II)I"), (0, .methodref 22 28), (0, .nameAndType 29 26), (0, u "max"), (0, .methodref 14 31), (0, .nameAndType 32 33), (0, u "part"), (0, u "([CIII)J"), (0, .class_ 35), (0, u "com/example/xylograph/xylograph/MaxSize"), (0, .methodref 34 37), (0, .nameAndType 5 38), (0, u "(JZ)V"), (0, .methodref 34 40), (0, .nameAndType 41 42), (0, u "sizeOf"), (0, u "([CII)J"), (3, u "law"), (0, u "(JIIII)Z")] 4

def k1m0 : Method := { name := "<init>", desc := "()V", sig := { parameters := [], returnType := none }, accessFlags := 1, code := none }
def k1c1 : Code := { maxStack := 2, maxLocals := 1, code := method_2_code, exceptionTable := #[], attributes := #[] }
def k1m1 : Method := { name := "w", desc := "(C)J", sig := { parameters := [.char], returnType := some .long }, accessFlags := 10, code := some k1c1 }
def k1c2 : Code := { maxStack := 2, maxLocals := 4, code := method_3_code, exceptionTable := #[], attributes := #[] }
def k1m2 : Method := { name := "part", desc := "([CIII)J", sig := { parameters := [(.array .char), .int, .int, .int], returnType := some .long }, accessFlags := 10, code := some k1c2 }
def k1c3 : Code := { maxStack := 6, maxLocals := 17, code := code, exceptionTable := #[], attributes := #[] }
def k1m3 : Method := { name := "law", desc := "(JIIII)Z", sig := { parameters := [.long, .int, .int, .int, .int], returnType := some .boolean }, accessFlags := 9, code := some k1c3 }
/-- com/example/xylograph/xylograph/MaxSizeSizeOfPinLaw -/
def k1 : Class := { plain "com/example/xylograph/xylograph/MaxSizeSizeOfPinLaw" (some 0) with
  accessFlags := 49
  interfaces := #[]
  cf := some (fileOf pool1 14 #[] #[{ accessFlags := 1, nameIndex := 5, descriptorIndex := 6, attributes := #[] }, { accessFlags := 10, nameIndex := 17, descriptorIndex := 18, attributes := #[] }, { accessFlags := 10, nameIndex := 32, descriptorIndex := 33, attributes := #[] }, { accessFlags := 9, nameIndex := 46, descriptorIndex := 47, attributes := #[] }] 49 2 #[] #[])
  fields := #[]
  methods := #[k1m0, k1m1, k1m2, k1m3]
  instanceTypes := #[]
  staticTypes := #[]
  resolved := Array.replicate 52 none
  statics := none }

def pool2 : Array CpInfo := pool [(1, .class_ 2), (0, u "java/lang/Math"), (1, .class_ 6), (1, u "java/lang/Object"), (0, u "<init>"), (0, u "()V"), (89, .class_ 100), (1, u "java/lang/Math$RandomNumberGeneratorHolder"), (71, u "negativeZeroFloatBits"), (0, u "J"), (2, u "negativeZeroDoubleBits"), (21, u "max"), (2, u "min"), (43, u "$assertionsDisabled"), (0, u "Z"), (88, u "(II)I"), (2, u "twoToTheDoubleScaleDown"), (0, u "D"), (4, u "twoToTheDoubleScaleUp"), (9, u "E"), (3, u "PI"), (2, u "TAU"), (2, u "DEGREES_TO_RADIANS"), (0, u "RADIANS_TO_DEGREES")] 94

def k2m0 : Method := { name := "<init>", desc := "()V", sig := { parameters := [], returnType := none }, accessFlags := 2, code := none }
def k2c1 : Code := { maxStack := 2, maxLocals := 2, code := jdk_29_method_65_code, exceptionTable := #[], attributes := #[] }
def k2m1 : Method := { name := "max", desc := "(II)I", sig := { parameters := [.int, .int], returnType := some .int }, accessFlags := 9, code := some k2c1 }
def k2c2 : Code := { maxStack := 2, maxLocals := 2, code := jdk_29_method_69_code, exceptionTable := #[], attributes := #[] }
def k2m2 : Method := { name := "min", desc := "(II)I", sig := { parameters := [.int, .int], returnType := some .int }, accessFlags := 9, code := some k2c2 }
/-- java/lang/Math -/
def k2 : Class := { plain "java/lang/Math" (some 0) with
  accessFlags := 49
  interfaces := #[]
  cf := some (fileOf pool2 1 #[.nestMembers #[98]] #[{ accessFlags := 2, nameIndex := 7, descriptorIndex := 8, attributes := #[] }, { accessFlags := 9, nameIndex := 198, descriptorIndex := 335, attributes := #[] }, { accessFlags := 9, nameIndex := 201, descriptorIndex := 335, attributes := #[] }] 49 4 #[] #[{ accessFlags := 25, nameIndex := 354, descriptorIndex := 339, attributes := #[] }, { accessFlags := 25, nameIndex := 358, descriptorIndex := 339, attributes := #[] }, { accessFlags := 25, nameIndex := 361, descriptorIndex := 339, attributes := #[] }, { accessFlags := 26, nameIndex := 364, descriptorIndex := 339, attributes := #[] }, { accessFlags := 26, nameIndex := 365, descriptorIndex := 339, attributes := #[] }, { accessFlags := 26, nameIndex := 172, descriptorIndex := 173, attributes := #[] }, { accessFlags := 26, nameIndex := 176, descriptorIndex := 173, attributes := #[] }, { accessFlags := 8, nameIndex := 344, descriptorIndex := 339, attributes := #[] }, { accessFlags := 8, nameIndex := 338, descriptorIndex := 339, attributes := #[] }, { accessFlags := 4120, nameIndex := 245, descriptorIndex := 246, attributes := #[] }])
  fields := #[{ name := "E", type := .double, accessFlags := 25, slot := 0, constantValue := 0 }, { name := "PI", type := .double, accessFlags := 25, slot := 1, constantValue := 0 }, { name := "TAU", type := .double, accessFlags := 25, slot := 2, constantValue := 0 }, { name := "DEGREES_TO_RADIANS", type := .double, accessFlags := 26, slot := 3, constantValue := 0 }, { name := "RADIANS_TO_DEGREES", type := .double, accessFlags := 26, slot := 4, constantValue := 0 }, { name := "negativeZeroFloatBits", type := .long, accessFlags := 26, slot := 5, constantValue := 0 }, { name := "negativeZeroDoubleBits", type := .long, accessFlags := 26, slot := 6, constantValue := 0 }, { name := "twoToTheDoubleScaleUp", type := .double, accessFlags := 8, slot := 7, constantValue := 0 }, { name := "twoToTheDoubleScaleDown", type := .double, accessFlags := 8, slot := 8, constantValue := 0 }, { name := "$assertionsDisabled", type := .boolean, accessFlags := 4120, slot := 9, constantValue := 0 }]
  methods := #[k2m0, k2m1, k2m2]
  instanceTypes := #[]
  staticTypes := #[.double, .double, .double, .double, .double, .long, .long, .double, .double, .boolean]
  resolved := Array.replicate 460 none
  statics := none }

def pool3 : Array CpInfo := pool [(1, .methodref 2 3), (0, .class_ 4), (0, .nameAndType 5 6), (0, u "java/lang/Object"), (0, u "<init>"), (0, u "()V"), (0, .class_ 8), (0, u "java/lang/Record")] 13

def k3c0 : Code := { maxStack := 1, maxLocals := 1, code := jdk_30_method_1_code, exceptionTable := #[], attributes := #[] }
def k3m0 : Method := { name := "<init>", desc := "()V", sig := { parameters := [], returnType := none }, accessFlags := 4, code := some k3c0 }
/-- java/lang/Record -/
def k3 : Class := { plain "java/lang/Record" (some 0) with
  accessFlags := 1057
  interfaces := #[]
  cf := some (fileOf pool3 7 #[] #[{ accessFlags := 4, nameIndex := 5, descriptorIndex := 6, attributes := #[] }] 1057 2 #[] #[])
  fields := #[]
  methods := #[k3m0]
  instanceTypes := #[]
  staticTypes := #[]
  resolved := Array.replicate 22 none
  statics := none }

def pool4 : Array CpInfo := pool [(1, .methodref 2 3), (0, .class_ 4), (0, .nameAndType 5 6), (0, u "java/lang/Record"), (0, u "<init>"), (0, u "()V"), (0, .fieldref 8 9), (0, .class_ 10), (0, .nameAndType 11 12), (0, u "com/example/xylograph/xylograph/MaxSize"), (0, u "limit"), (0, u "J"), (0, .fieldref 8 14), (0, .nameAndType 15 16), (0, u "inBytes"), (0, u "Z"), (0, .methodref 18 19), (0, .class_ 20), (0, .nameAndType 21 22), (0, u "java/lang/Character"), (0, u "isSurrogate"), (0, u "(C)Z"), (0, .long 2), (32, u "(JZ)V"), (3, u "sizeOf"), (0, u "([CII)J")] 39

def k4c0 : Code := { maxStack := 3, maxLocals := 4, code := prog_29_method_1_code, exceptionTable := #[], attributes := #[] }
def k4m0 : Method := { name := "<init>", desc := "(JZ)V", sig := { parameters := [.long, .boolean], returnType := none }, accessFlags := 0, code := some k4c0 }
def k4c1 : Code := { maxStack := 4, maxLocals := 8, code := prog_29_method_2_code, exceptionTable := #[], attributes := #[] }
def k4m1 : Method := { name := "sizeOf", desc := "([CII)J", sig := { parameters := [(.array .char), .int, .int], returnType := some .long }, accessFlags := 0, code := some k4c1 }
/-- com/example/xylograph/xylograph/MaxSize -/
def k4 : Class := { plain "com/example/xylograph/xylograph/MaxSize" (some 3) with
  accessFlags := 48
  interfaces := #[]
  cf := some (fileOf pool4 8 #[] #[{ accessFlags := 0, nameIndex := 5, descriptorIndex := 56, attributes := #[] }, { accessFlags := 0, nameIndex := 60, descriptorIndex := 61, attributes := #[] }] 48 2 #[] #[{ accessFlags := 18, nameIndex := 11, descriptorIndex := 12, attributes := #[] }, { accessFlags := 18, nameIndex := 15, descriptorIndex := 16, attributes := #[] }])
  fields := #[{ name := "limit", type := .long, accessFlags := 18, slot := 0, constantValue := 0 }, { name := "inBytes", type := .boolean, accessFlags := 18, slot := 1, constantValue := 0 }]
  methods := #[k4m0, k4m1]
  instanceTypes := #[.long, .boolean]
  staticTypes := #[]
  resolved := Array.replicate 101 none
  statics := none }

def pool5 : Array CpInfo := pool [(1, .class_ 2), (0, u "java/io/Serializable"), (0, .class_ 4), (0, u "java/lang/Object")] 2

/-- java/io/Serializable -/
def k5 : Class := { plain "java/io/Serializable" (some 0) with
  accessFlags := 1537
  interfaces := #[]
  cf := some (fileOf pool5 1 #[] #[] 1537 3 #[] #[])
  fields := #[]
  methods := #[]
  instanceTypes := #[]
  staticTypes := #[]
  resolved := Array.replicate 7 none
  statics := none }

def pool6 : Array CpInfo := pool [(1, .class_ 2), (0, u "java/lang/Comparable"), (0, .class_ 4), (0, u "java/lang/Object")] 7

/-- java/lang/Comparable -/
def k6 : Class := { plain "java/lang/Comparable" (some 0) with
  accessFlags := 1537
  interfaces := #[]
  cf := some (fileOf pool6 1 #[] #[] 1537 3 #[] #[])
  fields := #[]
  methods := #[]
  instanceTypes := #[]
  staticTypes := #[]
  resolved := Array.replicate 12 none
  statics := none }

def pool7 : Array CpInfo := pool [(1, .class_ 2), (0, u "java/lang/constant/Constable"), (0, .class_ 4), (0, u "java/lang/Object")] 6

/-- java/lang/constant/Constable -/
def k7 : Class := { plain "java/lang/constant/Constable" (some 0) with
  accessFlags := 1537
  interfaces := #[]
  cf := some (fileOf pool7 1 #[] #[] 1537 3 #[] #[])
  fields := #[]
  methods := #[]
  instanceTypes := #[]
  staticTypes := #[]
  resolved := Array.replicate 11 none
  statics := none }

def pool8 : Array CpInfo := pool [(1, .class_ 2), (0, u "java/lang/Character"), (18, u "value"), (0, u "C"), (19, .class_ 44), (1, u "java/lang/Object"), (3, .class_ 50), (1, u "java/lang/Character$CharacterCache"), (24, .integer 55296), (1, .integer 57344), (3, u "(C)Z"), (202, u "$assertionsDisabled"), (0, u "Z"), (21, .class_ 309), (1, u "java/lang/Character$UnicodeBlock"), (73, u "TYPE"), (0, u "Ljava/lang/Class;"), (0, .class_ 386), (0, u "java/io/Serializable"), (0, .class_ 388), (0, u "java/lang/Comparable"), (0, .class_ 390), (0, u "java/lang/constant/Constable"), (0, u "MIN_RADIX"), (0, u "I"), (2, u "MAX_RADIX"), (1, u "MIN_VALUE"), (1, u "MAX_VALUE"), (3, u "UNASSIGNED"), (0, u "B"), (0, u "UPPERCASE_LETTER"), (1, u "LOWERCASE_LETTER"), (0, u "TITLECASE_LETTER"), (1, u "MODIFIER_LETTER"), (1, u "OTHER_LETTER"), (1, u "NON_SPACING_MARK"), (1, u "ENCLOSING_MARK"), (1, u "COMBINING_SPACING_MARK"), (1, u "DECIMAL_DIGIT_NUMBER"), (1, u "LETTER_NUMBER"), (1, u "OTHER_NUMBER"), (1, u "SPACE_SEPARATOR"), (1, u "LINE_SEPARATOR"), (1, u "PARAGRAPH_SEPARATOR"), (1, u "CONTROL"), (1, u "FORMAT"), (1, u "PRIVATE_USE"), (1, u "SURROGATE"), (1, u "DASH_PUNCTUATION"), (1, u "START_PUNCTUATION"), (1, u "END_PUNCTUATION"), (1, u "CONNECTOR_PUNCTUATION"), (1, u "OTHER_PUNCTUATION"), (1, u "MATH_SYMBOL"), (1, u "CURRENCY_SYMBOL"), (1, u "MODIFIER_SYMBOL"), (1, u "OTHER_SYMBOL"), (1, u "INITIAL_QUOTE_PUNCTUATION"), (1, u "FINAL_QUOTE_PUNCTUATION"), (1, u "ERROR"), (1, u "DIRECTIONALITY_UNDEFINED"), (0, u "DIRECTIONALITY_LEFT_TO_RIGHT"), (0, u "DIRECTIONALITY_RIGHT_TO_LEFT"), (0, u "DIRECTIONALITY_RIGHT_TO_LEFT_ARABIC"), (0, u "DIRECTIONALITY_EUROPEAN_NUMBER"), (0, u "DIRECTIONALITY_EUROPEAN_NUMBER_SEPARATOR"), (0, u "DIRECTIONALITY_EUROPEAN_NUMBER_TERMINATOR"), (0, u "DIRECTIONALITY_ARABIC_NUMBER"), (0, u "DIRECTIONALITY_COMMON_NUMBER_SEPARATOR"), (0, u "DIRECTIONALITY_NONSPACING_MARK"), (0, u "DIRECTIONALITY_BOUNDARY_NEUTRAL"), (0, u "DIRECTIONALITY_PARAGRAPH_SEPARATOR"), (0, u "DIRECTIONALITY_SEGMENT_SEPARATOR"), (0, u "DIRECTIONALITY_WHITESPACE"), (0, u "DIRECTIONALITY_OTHER_NEUTRALS"), (0, u "DIRECTIONALITY_LEFT_TO_RIGHT_EMBEDDING"), (0, u "DIRECTIONALITY_LEFT_TO_RIGHT_OVERRIDE"), (0, u "DIRECTIONALITY_RIGHT_TO_LEFT_EMBEDDING"), (0, u "DIRECTIONALITY_RIGHT_TO_LEFT_OVERRIDE"), (1, u "DIRECTIONALITY_POP_DIRECTIONAL_FORMAT"), (0, u "DIRECTIONALITY_LEFT_TO_RIGHT_ISOLATE"), (0, u "DIRECTIONALITY_RIGHT_TO_LEFT_ISOLATE"), (0, u "DIRECTIONALITY_FIRST_STRONG_ISOLATE"), (0, u "DIRECTIONALITY_POP_DIRECTIONAL_ISOLATE"), (0, u "MIN_HIGH_SURROGATE"), (0, u "MAX_HIGH_SURROGATE"), (1, u "MIN_LOW_SURROGATE"), (0, u "MAX_LOW_SURROGATE"), (1, u "MIN_SURROGATE"), (0, u "MAX_SURROGATE"), (0, u "MIN_SUPPLEMENTARY_CODE_POINT"), (0, u "MIN_CODE_POINT"), (0, u "MAX_CODE_POINT"), (1, u "serialVersionUID"), (0, u "J"), (2, u "SIZE"), (0, u "BYTES"), (24, u "isSurrogate"), (63, .class_ 596), (0, u "java/lang/Character$UnicodeScript"), (0, .class_ 598), (0, u "java/lang/Character$Subset")] 5

def k8c0 : Code := { maxStack := 2, maxLocals := 1, code := jdk_89_method_16_code, exceptionTable := #[], attributes := #[] }
def k8m0 : Method := { name := "isSurrogate", desc := "(C)Z", sig := { parameters := [.char], returnType := some .boolean }, accessFlags := 9, code := some k8c0 }
/-- java/lang/Character -/
def k8 : Class := { plain "java/lang/Character" (some 0) with
  accessFlags := 49
  interfaces := #[5, 6, 7]
  cf := some (fileOf pool8 1 #[.nestMembers #[48, 595, 307, 597]] #[{ accessFlags := 9, nameIndex := 531, descriptorIndex := 81, attributes := #[] }] 49 42 #[385, 387, 389] #[{ accessFlags := 25, nameIndex := 391, descriptorIndex := 392, attributes := #[] }, { accessFlags := 25, nameIndex := 395, descriptorIndex := 392, attributes := #[] }, { accessFlags := 25, nameIndex := 397, descriptorIndex := 22, attributes := #[] }, { accessFlags := 25, nameIndex := 399, descriptorIndex := 22, attributes := #[] }, { accessFlags := 25, nameIndex := 383, descriptorIndex := 384, attributes := #[] }, { accessFlags := 25, nameIndex := 403, descriptorIndex := 404, attributes := #[] }, { accessFlags := 25, nameIndex := 405, descriptorIndex := 404, attributes := #[] }, { accessFlags := 25, nameIndex := 407, descriptorIndex := 404, attributes := #[] }, { accessFlags := 25, nameIndex := 408, descriptorIndex := 404, attributes := #[] }, { accessFlags := 25, nameIndex := 410, descriptorIndex := 404, attributes := #[] }, { accessFlags := 25, nameIndex := 412, descriptorIndex := 404, attributes := #[] }, { accessFlags := 25, nameIndex := 414, descriptorIndex := 404, attributes := #[] }, { accessFlags := 25, nameIndex := 416, descriptorIndex := 404, attributes := #[] }, { accessFlags := 25, nameIndex := 418, descriptorIndex := 404, attributes := #[] }, { accessFlags := 25, nameIndex := 420, descriptorIndex := 404, attributes := #[] }, { accessFlags := 25, nameIndex := 422, descriptorIndex := 404, attributes := #[] }, { accessFlags := 25, nameIndex := 424, descriptorIndex := 404, attributes := #[] }, { accessFlags := 25, nameIndex := 426, descriptorIndex := 404, attributes := #[] }, { accessFlags := 25, nameIndex := 428, descriptorIndex := 404, attributes := #[] }, { accessFlags := 25, nameIndex := 430, descriptorIndex := 404, attributes := #[] }, { accessFlags := 25, nameIndex := 432, descriptorIndex := 404, attributes := #[] }, { accessFlags := 25, nameIndex := 434, descriptorIndex := 404, attributes := #[] }, { accessFlags := 25, nameIndex := 436, descriptorIndex := 404, attributes := #[] }, { accessFlags := 25, nameIndex := 438, descriptorIndex := 404, attributes := #[] }, { accessFlags := 25, nameIndex := 440, descriptorIndex := 404, attributes := #[] }, { accessFlags := 25, nameIndex := 442, descriptorIndex := 404, attributes := #[] }, { accessFlags := 25, nameIndex := 444, descriptorIndex := 404, attributes := #[] }, { accessFlags := 25, nameIndex := 446, descriptorIndex := 404, attributes := #[] }, { accessFlags := 25, nameIndex := 448, descriptorIndex := 404, attributes := #[] }, { accessFlags := 25, nameIndex := 450, descriptorIndex := 404, attributes := #[] }, { accessFlags := 25, nameIndex := 452, descriptorIndex := 404, attributes := #[] }, { accessFlags := 25, nameIndex := 454, descriptorIndex := 404, attributes := #[] }, { accessFlags := 25, nameIndex := 456, descriptorIndex := 404, attributes := #[] }, { accessFlags := 25, nameIndex := 458, descriptorIndex := 404, attributes := #[] }, { accessFlags := 25, nameIndex := 460, descriptorIndex := 404, attributes := #[] }, { accessFlags := 24, nameIndex := 462, descriptorIndex := 392, attributes := #[] }, { accessFlags := 25, nameIndex := 464, descriptorIndex := 404, attributes := #[] }, { accessFlags := 25, nameIndex := 465, descriptorIndex := 404, attributes := #[] }, { accessFlags := 25, nameIndex := 466, descriptorIndex := 404, attributes := #[] }, { accessFlags := 25, nameIndex := 467, descriptorIndex := 404, attributes := #[] }, { accessFlags := 25, nameIndex := 468, descriptorIndex := 404, attributes := #[] }, { accessFlags := 25, nameIndex := 469, descriptorIndex := 404, attributes := #[] }, { accessFlags := 25, nameIndex := 470, descriptorIndex := 404, attributes := #[] }, { accessFlags := 25, nameIndex := 471, descriptorIndex := 404, attributes := #[] }, { accessFlags := 25, nameIndex := 472, descriptorIndex := 404, attributes := #[] }, { accessFlags := 25, nameIndex := 473, descriptorIndex := 404, attributes := #[] }, { accessFlags := 25, nameIndex := 474, descriptorIndex := 404, attributes := #[] }, { accessFlags := 25, nameIndex := 475, descriptorIndex := 404, attributes := #[] }, { accessFlags := 25, nameIndex := 476, descriptorIndex := 404, attributes := #[] }, { accessFlags := 25, nameIndex := 477, descriptorIndex := 404, attributes := #[] }, { accessFlags := 25, nameIndex := 478, descriptorIndex := 404, attributes := #[] }, { accessFlags := 25, nameIndex := 479, descriptorIndex := 404, attributes := #[] }, { accessFlags := 25, nameIndex := 480, descriptorIndex := 404, attributes := #[] }, { accessFlags := 25, nameIndex := 481, descriptorIndex := 404, attributes := #[] }, { accessFlags := 25, nameIndex := 482, descriptorIndex := 404, attributes := #[] }, { accessFlags := 25, nameIndex := 484, descriptorIndex := 404, attributes := #[] }, { accessFlags := 25, nameIndex := 485, descriptorIndex := 404, attributes := #[] }, { accessFlags := 25, nameIndex := 486, descriptorIndex := 404, attributes := #[] }, { accessFlags := 25, nameIndex := 487, descriptorIndex := 404, attributes := #[] }, { accessFlags := 25, nameIndex := 488, descriptorIndex := 404, attributes := #[] }, { accessFlags := 25, nameIndex := 489, descriptorIndex := 22, attributes := #[] }, { accessFlags := 25, nameIndex := 490, descriptorIndex := 22, attributes := #[] }, { accessFlags := 25, nameIndex := 492, descriptorIndex := 22, attributes := #[] }, { accessFlags := 25, nameIndex := 493, descriptorIndex := 22, attributes := #[] }, { accessFlags := 25, nameIndex := 495, descriptorIndex := 22, attributes := #[] }, { accessFlags := 25, nameIndex := 496, descriptorIndex := 22, attributes := #[] }, { accessFlags := 25, nameIndex := 497, descriptorIndex := 392, attributes := #[] }, { accessFlags := 25, nameIndex := 498, descriptorIndex := 392, attributes := #[] }, { accessFlags := 25, nameIndex := 499, descriptorIndex := 392, attributes := #[] }, { accessFlags := 18, nameIndex := 21, descriptorIndex := 22, attributes := #[] }, { accessFlags := 26, nameIndex := 501, descriptorIndex := 502, attributes := #[] }, { accessFlags := 25, nameIndex := 505, descriptorIndex := 392, attributes := #[] }, { accessFlags := 25, nameIndex := 506, descriptorIndex := 392, attributes := #[] }, { accessFlags := 4120, nameIndex := 284, descriptorIndex := 285, attributes := #[] }])
  fields := #[{ name := "MIN_RADIX", type := .int, accessFlags := 25, slot := 0, constantValue := 0 }, { name := "MAX_RADIX", type := .int, accessFlags := 25, slot := 1, constantValue := 0 }, { name := "MIN_VALUE", type := .char, accessFlags := 25, slot := 2, constantValue := 0 }, { name := "MAX_VALUE", type := .char, accessFlags := 25, slot := 3, constantValue := 0 }, { name := "TYPE", type := (.object "java/lang/Class"), accessFlags := 25, slot := 4, constantValue := 0 }, { name := "UNASSIGNED", type := .byte, accessFlags := 25, slot := 5, constantValue := 0 }, { name := "UPPERCASE_LETTER", type := .byte, accessFlags := 25, slot := 6, constantValue := 0 }, { name := "LOWERCASE_LETTER", type := .byte, accessFlags := 25, slot := 7, constantValue := 0 }, { name := "TITLECASE_LETTER", type := .byte, accessFlags := 25, slot := 8, constantValue := 0 }, { name := "MODIFIER_LETTER", type := .byte, accessFlags := 25, slot := 9, constantValue := 0 }, { name := "OTHER_LETTER", type := .byte, accessFlags := 25, slot := 10, constantValue := 0 }, { name := "NON_SPACING_MARK", type := .byte, accessFlags := 25, slot := 11, constantValue := 0 }, { name := "ENCLOSING_MARK", type := .byte, accessFlags := 25, slot := 12, constantValue := 0 }, { name := "COMBINING_SPACING_MARK", type := .byte, accessFlags := 25, slot := 13, constantValue := 0 }, { name := "DECIMAL_DIGIT_NUMBER", type := .byte, accessFlags := 25, slot := 14, constantValue := 0 }, { name := "LETTER_NUMBER", type := .byte, accessFlags := 25, slot := 15, constantValue := 0 }, { name := "OTHER_NUMBER", type := .byte, accessFlags := 25, slot := 16, constantValue := 0 }, { name := "SPACE_SEPARATOR", type := .byte, accessFlags := 25, slot := 17, constantValue := 0 }, { name := "LINE_SEPARATOR", type := .byte, accessFlags := 25, slot := 18, constantValue := 0 }, { name := "PARAGRAPH_SEPARATOR", type := .byte, accessFlags := 25, slot := 19, constantValue := 0 }, { name := "CONTROL", type := .byte, accessFlags := 25, slot := 20, constantValue := 0 }, { name := "FORMAT", type := .byte, accessFlags := 25, slot := 21, constantValue := 0 }, { name := "PRIVATE_USE", type := .byte, accessFlags := 25, slot := 22, constantValue := 0 }, { name := "SURROGATE", type := .byte, accessFlags := 25, slot := 23, constantValue := 0 }, { name := "DASH_PUNCTUATION", type := .byte, accessFlags := 25, slot := 24, constantValue := 0 }, { name := "START_PUNCTUATION", type := .byte, accessFlags := 25, slot := 25, constantValue := 0 }, { name := "END_PUNCTUATION", type := .byte, accessFlags := 25, slot := 26, constantValue := 0 }, { name := "CONNECTOR_PUNCTUATION", type := .byte, accessFlags := 25, slot := 27, constantValue := 0 }, { name := "OTHER_PUNCTUATION", type := .byte, accessFlags := 25, slot := 28, constantValue := 0 }, { name := "MATH_SYMBOL", type := .byte, accessFlags := 25, slot := 29, constantValue := 0 }, { name := "CURRENCY_SYMBOL", type := .byte, accessFlags := 25, slot := 30, constantValue := 0 }, { name := "MODIFIER_SYMBOL", type := .byte, accessFlags := 25, slot := 31, constantValue := 0 }, { name := "OTHER_SYMBOL", type := .byte, accessFlags := 25, slot := 32, constantValue := 0 }, { name := "INITIAL_QUOTE_PUNCTUATION", type := .byte, accessFlags := 25, slot := 33, constantValue := 0 }, { name := "FINAL_QUOTE_PUNCTUATION", type := .byte, accessFlags := 25, slot := 34, constantValue := 0 }, { name := "ERROR", type := .int, accessFlags := 24, slot := 35, constantValue := 0 }, { name := "DIRECTIONALITY_UNDEFINED", type := .byte, accessFlags := 25, slot := 36, constantValue := 0 }, { name := "DIRECTIONALITY_LEFT_TO_RIGHT", type := .byte, accessFlags := 25, slot := 37, constantValue := 0 }, { name := "DIRECTIONALITY_RIGHT_TO_LEFT", type := .byte, accessFlags := 25, slot := 38, constantValue := 0 }, { name := "DIRECTIONALITY_RIGHT_TO_LEFT_ARABIC", type := .byte, accessFlags := 25, slot := 39, constantValue := 0 }, { name := "DIRECTIONALITY_EUROPEAN_NUMBER", type := .byte, accessFlags := 25, slot := 40, constantValue := 0 }, { name := "DIRECTIONALITY_EUROPEAN_NUMBER_SEPARATOR", type := .byte, accessFlags := 25, slot := 41, constantValue := 0 }, { name := "DIRECTIONALITY_EUROPEAN_NUMBER_TERMINATOR", type := .byte, accessFlags := 25, slot := 42, constantValue := 0 }, { name := "DIRECTIONALITY_ARABIC_NUMBER", type := .byte, accessFlags := 25, slot := 43, constantValue := 0 }, { name := "DIRECTIONALITY_COMMON_NUMBER_SEPARATOR", type := .byte, accessFlags := 25, slot := 44, constantValue := 0 }, { name := "DIRECTIONALITY_NONSPACING_MARK", type := .byte, accessFlags := 25, slot := 45, constantValue := 0 }, { name := "DIRECTIONALITY_BOUNDARY_NEUTRAL", type := .byte, accessFlags := 25, slot := 46, constantValue := 0 }, { name := "DIRECTIONALITY_PARAGRAPH_SEPARATOR", type := .byte, accessFlags := 25, slot := 47, constantValue := 0 }, { name := "DIRECTIONALITY_SEGMENT_SEPARATOR", type := .byte, accessFlags := 25, slot := 48, constantValue := 0 }, { name := "DIRECTIONALITY_WHITESPACE", type := .byte, accessFlags := 25, slot := 49, constantValue := 0 }, { name := "DIRECTIONALITY_OTHER_NEUTRALS", type := .byte, accessFlags := 25, slot := 50, constantValue := 0 }, { name := "DIRECTIONALITY_LEFT_TO_RIGHT_EMBEDDING", type := .byte, accessFlags := 25, slot := 51, constantValue := 0 }, { name := "DIRECTIONALITY_LEFT_TO_RIGHT_OVERRIDE", type := .byte, accessFlags := 25, slot := 52, constantValue := 0 }, { name := "DIRECTIONALITY_RIGHT_TO_LEFT_EMBEDDING", type := .byte, accessFlags := 25, slot := 53, constantValue := 0 }, { name := "DIRECTIONALITY_RIGHT_TO_LEFT_OVERRIDE", type := .byte, accessFlags := 25, slot := 54, constantValue := 0 }, { name := "DIRECTIONALITY_POP_DIRECTIONAL_FORMAT", type := .byte, accessFlags := 25, slot := 55, constantValue := 0 }, { name := "DIRECTIONALITY_LEFT_TO_RIGHT_ISOLATE", type := .byte, accessFlags := 25, slot := 56, constantValue := 0 }, { name := "DIRECTIONALITY_RIGHT_TO_LEFT_ISOLATE", type := .byte, accessFlags := 25, slot := 57, constantValue := 0 }, { name := "DIRECTIONALITY_FIRST_STRONG_ISOLATE", type := .byte, accessFlags := 25, slot := 58, constantValue := 0 }, { name := "DIRECTIONALITY_POP_DIRECTIONAL_ISOLATE", type := .byte, accessFlags := 25, slot := 59, constantValue := 0 }, { name := "MIN_HIGH_SURROGATE", type := .char, accessFlags := 25, slot := 60, constantValue := 0 }, { name := "MAX_HIGH_SURROGATE", type := .char, accessFlags := 25, slot := 61, constantValue := 0 }, { name := "MIN_LOW_SURROGATE", type := .char, accessFlags := 25, slot := 62, constantValue := 0 }, { name := "MAX_LOW_SURROGATE", type := .char, accessFlags := 25, slot := 63, constantValue := 0 }, { name := "MIN_SURROGATE", type := .char, accessFlags := 25, slot := 64, constantValue := 0 }, { name := "MAX_SURROGATE", type := .char, accessFlags := 25, slot := 65, constantValue := 0 }, { name := "MIN_SUPPLEMENTARY_CODE_POINT", type := .int, accessFlags := 25, slot := 66, constantValue := 0 }, { name := "MIN_CODE_POINT", type := .int, accessFlags := 25, slot := 67, constantValue := 0 }, { name := "MAX_CODE_POINT", type := .int, accessFlags := 25, slot := 68, constantValue := 0 }, { name := "value", type := .char, accessFlags := 18, slot := 0, constantValue := 0 }, { name := "serialVersionUID", type := .long, accessFlags := 26, slot := 69, constantValue := 0 }, { name := "SIZE", type := .int, accessFlags := 25, slot := 70, constantValue := 0 }, { name := "BYTES", type := .int, accessFlags := 25, slot := 71, constantValue := 0 }, { name := "$assertionsDisabled", type := .boolean, accessFlags := 4120, slot := 72, constantValue := 0 }]
  methods := #[k8m0]
  instanceTypes := #[.char]
  staticTypes := #[.int, .int, .char, .char, (.object "java/lang/Class"), .byte, .byte, .byte, .byte, .byte, .byte, .byte, .byte, .byte, .byte, .byte, .byte, .byte, .byte, .byte, .byte, .byte, .byte, .byte, .byte, .byte, .byte, .byte, .byte, .byte, .byte, .byte, .byte, .byte, .byte, .int, .byte, .byte, .byte, .byte, .byte, .byte, .byte, .byte, .byte, .byte, .byte, .byte, .byte, .byte, .byte, .byte, .byte, .byte, .byte, .byte, .byte, .byte, .byte, .byte, .char, .char, .char, .char, .char, .char, .int, .int, .int, .long, .int, .int, .boolean]
  resolved := Array.replicate 604 none
  statics := none }

def pool9 : Array CpInfo := pool [(1, u "java/lang/Cloneable"), (0, .class_ 1), (0, u "java/lang/Object"), (0, .class_ 3)] 3

/-- java/lang/Cloneable -/
def k9 : Class := { plain "java/lang/Cloneable" (some 0) with
  accessFlags := 1537
  interfaces := #[]
  cf := some (fileOf pool9 2 #[] #[] 1537 4 #[] #[])
  fields := #[]
  methods := #[]
  instanceTypes := #[]
  staticTypes := #[]
  resolved := Array.replicate 8 none
  statics := none }

/-- the primitive byte -/
def k10 : Class := { plain "byte" none with kind := .primitive 'B', accessFlags := 0x411 }
/-- [B -/
def k11 : Class := { plain "[B" (some 0) with kind := .array 10 .byte, interfaces := #[9, 5], accessFlags := 1041 }

/-- the primitive char -/
def k12 : Class := { plain "char" none with kind := .primitive 'C', accessFlags := 0x411 }
/-- [C -/
def k13 : Class := { plain "[C" (some 0) with kind := .array 12 .char, interfaces := #[9, 5], accessFlags := 1041 }

/-- the primitive int -/
def k14 : Class := { plain "int" none with kind := .primitive 'I', accessFlags := 0x411 }
/-- [I -/
def k15 : Class := { plain "[I" (some 0) with kind := .array 14 .int, interfaces := #[9, 5], accessFlags := 1041 }

def heap : Heap := #[]
def classes : Array Class := #[k0, k1, k2, k3, k4, k5, k6, k7, k8, k9, k10, k11, k12, k13, k14, k15]
def interned : List (Array UInt16 × Addr) := []
def slotsUsed : Nat := 0
def theMethod : MethodId := ⟨1, 3⟩
def args0 : Array Value := #[.long 5, .int 7, .int 6, .int 3, .int 1]
def aboutOver (below : List Frame) : State where
  vm := { classes := classes, interned := interned.toArray }
  heap := heap
  slotsUsed := slotsUsed
  threads := #[{ frames := .invoking theMethod args0 :: below }]
def below0 : List Frame := [.native { method := ⟨0, 0⟩, args := #[] }]
def about1 : State := aboutOver below0
def p0 : Program := .bare "" "" ""
def e0 : Env := launch0.env 0 0 0
theorem w_frames : about1.frames = Frame.invoking theMethod args0 :: below0 := rfl
set_option maxRecDepth 65536 in
theorem w_args : argsFit about1.vm theMethod args0 = true := by decide +kernel
set_option maxRecDepth 65536 in
theorem w_heap : heapFits about1 = true := by decide +kernel
set_option maxRecDepth 65536 in
theorem w_runnable : about1.curStatus? = some .runnable := by decide +kernel
set_option maxRecDepth 65536 in
theorem w_alone : about1.alone = true := by decide +kernel
set_option maxRecDepth 65536 in
theorem w_named : about1.methodNamed? x = some theMethod := by decide +kernel
set_option maxRecDepth 65536 in
theorem w_hears : about1.hears theMethod below0 = true := by decide +kernel
set_option maxRecDepth 65536 in
theorem w_ripe : about1.ripe theMethod args0 below0 = true := by decide +kernel
theorem w_running : about1.status = .running := rfl
set_option maxRecDepth 65536 in
theorem w_room : about1.hasRoom e0.platform room_1 = true :=
  launch0.hasRoom_least _ room_1 (by decide +kernel) (by decide +kernel) (by decide +kernel) (by decide +kernel) (by decide +kernel) (by decide +kernel)
theorem allAtoms_all (ts : List Jvm.Cond) (a : Array Jvm.Value) (st : Jvm.State) : (allAtoms ts).before a st = ts.all (fun c => c.before a st) := by
  induction ts with
  | nil => rfl
  | cons c t ih =>
    show (Jvm.Cond.and c (allAtoms t)).before a st = _
    rw [Jvm.Cond.before_and, ih, List.all_cons]
def words1 : List Jvm.Cond := Jvm.Cond.code x code maxLocals ret :: tables_1
/-- a 'code' word, met by the world's own term for the bytes: nothing is compared byte by byte -/
theorem code_word {y : MethodName} {bytes : ByteArray} {mx : Nat} {rt : Option FieldType} {a : Array Value} {s : State} {m : MethodId} {meth : Method} {c : Code} (h1 : s.methodNamed? y = some m) (h2 : s.vm.method? m = some meth) (h3 : meth.code = some c) (h4 : c.code = bytes)
    (h5 : (c.maxLocals == mx && c.exceptionTable.isEmpty && decide (c.maxStack ≤ mostOperands) && decide (meth.sig.returnType = rt) && !meth.locks && decide (parseMethodDescriptor y.desc = some meth.sig)) = true) : (Jvm.Cond.code y bytes mx rt).before a s = true := by
  simp only [Bool.and_eq_true, beq_iff_eq, Bool.not_eq_true', decide_eq_true_eq] at h5
  obtain ⟨⟨⟨⟨⟨g1, g2⟩, g3⟩, g4⟩, g5⟩, g6⟩ := h5
  simp [Cond.before, Cond.holds, Cond.value, h1, h2, h3, h4, g1, g2, g3, g4, g5, g6]
def isCode : Jvm.Cond → Bool
  | .code _ _ _ _ => true
  | _ => false
theorem all_split {L : List Jvm.Cond} {P : Jvm.Cond → Bool} (h1 : L.all (fun c => isCode c || P c) = true) (h2 : ∀ c ∈ L.filter isCode, P c = true) : L.all P = true := by
  refine List.all_eq_true.mpr fun c hc => ?_
  have h := List.all_eq_true.mp h1 c hc
  rcases Bool.eq_false_or_eq_true (isCode c) with hi | hi
  · exact h2 c (List.mem_filter.mpr ⟨hc, hi⟩)
  · simpa [hi] using h
set_option maxRecDepth 65536 in
theorem w_c0 : (Jvm.Cond.code x code maxLocals ret).before args0 about1 = true := code_word (m := ⟨1, 3⟩) (meth := k1m3) (c := k1c3) (by decide +kernel) rfl rfl rfl (by decide +kernel)
set_option maxRecDepth 65536 in
theorem w_c1 : (Jvm.Cond.code ({ cls := "java/lang/Math", name := "min", desc := "(II)I" } : Jvm.MethodName) jdk_29_method_69_code (2 : Nat) (Option.some Jvm.ClassFile.FieldType.int)).before args0 about1 = true := code_word (m := ⟨2, 2⟩) (meth := k2m2) (c := k2c2) (by decide +kernel) rfl rfl rfl (by decide +kernel)
set_option maxRecDepth 65536 in
theorem w_c2 : (Jvm.Cond.code ({ cls := "java/lang/Math", name := "max", desc := "(II)I" } : Jvm.MethodName) jdk_29_method_65_code (2 : Nat) (Option.some Jvm.ClassFile.FieldType.int)).before args0 about1 = true := code_word (m := ⟨2, 1⟩) (meth := k2m1) (c := k2c1) (by decide +kernel) rfl rfl rfl (by decide +kernel)
set_option maxRecDepth 65536 in
theorem w_c3 : (Jvm.Cond.code ({ cls := "com/example/xylograph/xylograph/MaxSize", name := "<init>", desc := "(JZ)V" } : Jvm.MethodName) prog_29_method_1_code (4 : Nat) (Option.none : Option Jvm.ClassFile.FieldType)).before args0 about1 = true := code_word (m := ⟨4, 0⟩) (meth := k4m0) (c := k4c0) (by decide +kernel) rfl rfl rfl (by decide +kernel)
set_option maxRecDepth 65536 in
theorem w_c4 : (Jvm.Cond.code ({ cls := "java/lang/Record", name := "<init>", desc := "()V" } : Jvm.MethodName) jdk_30_method_1_code (1 : Nat) (Option.none : Option Jvm.ClassFile.FieldType)).before args0 about1 = true := code_word (m := ⟨3, 0⟩) (meth := k3m0) (c := k3c0) (by decide +kernel) rfl rfl rfl (by decide +kernel)
set_option maxRecDepth 65536 in
theorem w_c5 : (Jvm.Cond.code ({ cls := "java/lang/Object", name := "<init>", desc := "()V" } : Jvm.MethodName) object_method_1_code (1 : Nat) (Option.none : Option Jvm.ClassFile.FieldType)).before args0 about1 = true := code_word (m := ⟨0, 0⟩) (meth := k0m0) (c := k0c0) (by decide +kernel) rfl rfl rfl (by decide +kernel)
set_option maxRecDepth 65536 in
theorem w_c6 : (Jvm.Cond.code ({ cls := "com/example/xylograph/xylograph/MaxSize", name := "sizeOf", desc := "([CII)J" } : Jvm.MethodName) prog_29_method_2_code (8 : Nat) (Option.some Jvm.ClassFile.FieldType.long)).before args0 about1 = true := code_word (m := ⟨4, 1⟩) (meth := k4m1) (c := k4c1) (by decide +kernel) rfl rfl rfl (by decide +kernel)
set_option maxRecDepth 65536 in
theorem w_c7 : (Jvm.Cond.code ({ cls := "com/example/xylograph/xylograph/MaxSizeSizeOfPinLaw", name := "part", desc := "([CIII)J" } : Jvm.MethodName) method_3_code (4 : Nat) (Option.some Jvm.ClassFile.FieldType.long)).before args0 about1 = true := code_word (m := ⟨1, 2⟩) (meth := k1m2) (c := k1c2) (by decide +kernel) rfl rfl rfl (by decide +kernel)
set_option maxRecDepth 65536 in
theorem w_c8 : (Jvm.Cond.code ({ cls := "com/example/xylograph/xylograph/MaxSizeSizeOfPinLaw", name := "w", desc := "(C)J" } : Jvm.MethodName) method_2_code (1 : Nat) (Option.some Jvm.ClassFile.FieldType.long)).before args0 about1 = true := code_word (m := ⟨1, 1⟩) (meth := k1m1) (c := k1c1) (by decide +kernel) rfl rfl rfl (by decide +kernel)
set_option maxRecDepth 65536 in
theorem w_c9 : (Jvm.Cond.code ({ cls := "java/lang/Character", name := "isSurrogate", desc := "(C)Z" } : Jvm.MethodName) jdk_89_method_16_code (1 : Nat) (Option.some Jvm.ClassFile.FieldType.boolean)).before args0 about1 = true := code_word (m := ⟨8, 0⟩) (meth := k8m0) (c := k8c0) (by decide +kernel) rfl rfl rfl (by decide +kernel)
def codes1 : List Jvm.Cond := [Jvm.Cond.code x code maxLocals ret, Jvm.Cond.code ({ cls := "java/lang/Math", name := "min", desc := "(II)I" } : Jvm.MethodName) jdk_29_method_69_code (2 : Nat) (Option.some Jvm.ClassFile.FieldType.int), Jvm.Cond.code ({ cls := "java/lang/Math", name := "max", desc := "(II)I" } : Jvm.MethodName) jdk_29_method_65_code (2 : Nat) (Option.some Jvm.ClassFile.FieldType.int), Jvm.Cond.code ({ cls := "com/example/xylograph/xylograph/MaxSize", name := "<init>", desc := "(JZ)V" } : Jvm.MethodName) prog_29_method_1_code (4 : Nat) (Option.none : Option Jvm.ClassFile.FieldType), Jvm.Cond.code ({ cls := "java/lang/Record", name := "<init>", desc := "()V" } : Jvm.MethodName) jdk_30_method_1_code (1 : Nat) (Option.none : Option Jvm.ClassFile.FieldType), Jvm.Cond.code ({ cls := "java/lang/Object", name := "<init>", desc := "()V" } : Jvm.MethodName) object_method_1_code (1 : Nat) (Option.none : Option Jvm.ClassFile.FieldType), Jvm.Cond.code ({ cls := "com/example/xylograph/xylograph/MaxSize", name := "sizeOf", desc := "([CII)J" } : Jvm.MethodName) prog_29_method_2_code (8 : Nat) (Option.some Jvm.ClassFile.FieldType.long), Jvm.Cond.code ({ cls := "com/example/xylograph/xylograph/MaxSizeSizeOfPinLaw", name := "part", desc := "([CIII)J" } : Jvm.MethodName) method_3_code (4 : Nat) (Option.some Jvm.ClassFile.FieldType.long), Jvm.Cond.code ({ cls := "com/example/xylograph/xylograph/MaxSizeSizeOfPinLaw", name := "w", desc := "(C)J" } : Jvm.MethodName) method_2_code (1 : Nat) (Option.some Jvm.ClassFile.FieldType.long), Jvm.Cond.code ({ cls := "java/lang/Character", name := "isSurrogate", desc := "(C)Z" } : Jvm.MethodName) jdk_89_method_16_code (1 : Nat) (Option.some Jvm.ClassFile.FieldType.boolean)]
set_option maxRecDepth 65536 in
theorem codes_eq : words1.filter isCode = codes1 := rfl
theorem w_codes : ∀ c ∈ words1.filter isCode, c.before args0 about1 = true := by
  rw [codes_eq]
  intro c hc
  simp only [codes1, List.mem_cons, List.not_mem_nil, or_false] at hc
  rcases hc with rfl | rfl | rfl | rfl | rfl | rfl | rfl | rfl | rfl | rfl
  · exact w_c0
  · exact w_c1
  · exact w_c2
  · exact w_c3
  · exact w_c4
  · exact w_c5
  · exact w_c6
  · exact w_c7
  · exact w_c8
  · exact w_c9
set_option maxRecDepth 65536 in
theorem w_t1 : (words1.take 24).all (fun c => isCode c || c.before args0 about1) = true := by decide +kernel
set_option maxRecDepth 65536 in
theorem w_t2 : ((words1.drop 24).take 24).all (fun c => isCode c || c.before args0 about1) = true := by decide +kernel
set_option maxRecDepth 65536 in
theorem w_t3 : ((words1.drop 24).drop 24).all (fun c => isCode c || c.before args0 about1) = true := by decide +kernel
theorem w_tables : (allAtoms (Jvm.Cond.code x code maxLocals ret :: tables_1)).before args0 about1 = true := by
  rw [allAtoms_all]
  show words1.all (fun c => c.before args0 about1) = true
  refine all_split ?_ w_codes
  rw [← List.take_append_drop 24 words1, List.all_append, w_t1, ← List.take_append_drop 24 (words1.drop 24), List.all_append, w_t2, w_t3]
  rfl
set_option maxRecDepth 65536 in
theorem w_case : (Jvm.Cond.and given_1 narrow_1).before args0 about1 = true := by decide +kernel
theorem w_applies : (headSpec (Jvm.Cond.code x code maxLocals ret :: tables_1) room_1).applies x e0.platform about1 = true :=
  (Spec.applies_iff w_frames).mpr ⟨w_running, w_runnable, w_alone, w_named, w_hears, w_ripe, w_room, w_tables⟩
theorem atStart : AtStart classFile x code maxLocals ret World_1 tables_1 room_1 Calls_1 rest_1 Pre_1 launch0 p0 e0 about1 theMethod args0 below0 :=
  ⟨lists_1, trivial, launch0.admits_env _ _ _, launch0.least_env, fairChoices_fair.cas, fairChoices_fair.clock, w_frames, w_args, w_heap, w_applies, trivial, trivial, w_case⟩
end start1
theorem witness_1 : WitnessClaimed_1 := ⟨start1.p0, start1.e0, start1.about1, start1.theMethod, start1.args0, start1.below0, start1.atStart⟩
end Jvm.Pilot.@@N@@
