import JvmDerived
import JvmDerived.Pilot.@@N@@Statement
import JvmDerived.Pilot.@@N@@Code
set_option linter.unusedVariables false
set_option linter.unusedSimpArgs false
@@BLOCK:NumsL.lean.txt@@
namespace Jvm.RoadKit
open Sem ClassFile Op Lib Jvm.Stand Jvm.Free Jvm.LawKit
section New
variable {p : Program} {l : Launch} {e : Env} {R : Room} {s : State} {m : MethodId} {args : Array Value} {below : List Frame} {meth : Method} {c : Code} {T : State} {locs : List Loc} {cells slots : Nat}
theorem retI (X : Stand p l e R s m args below meth c T locs cells slots) (hx : p.tables.exec = Jvm.exec) {pc : Nat} {Ls : Array Slot} {z : Int32} {rest : List Value} (hret : meth.sig.returnType = some .int) (hd : decode c.code pc = .ok (.ireturn, 1)) {fs : List Frame}
    (hl : ∀ (f : JFrame) (acts : List Action), f.method = m → f.locked = none → f.entered = [] → (doReturn e (T.setTop f) acts (some (.int z))).1 = T.setFrames fs) : Steps p.tables e below (T.setTop (mkF m pc Ls (.int z :: rest))) (T.setFrames fs) :=
  retOut X hx (w := .int z) (t := .int) (i := .ireturn) hret rfl (Or.inl ⟨rfl, Or.inl rfl, z, rfl⟩) hd hl
theorem retJ (X : Stand p l e R s m args below meth c T locs cells slots) (hx : p.tables.exec = Jvm.exec) {pc : Nat} {Ls : Array Slot} {z : Int64} {rest : List Value} (hret : meth.sig.returnType = some .long) (hd : decode c.code pc = .ok (.lreturn, 1)) {fs : List Frame}
    (hl : ∀ (f : JFrame) (acts : List Action), f.method = m → f.locked = none → f.entered = [] → (doReturn e (T.setTop f) acts (some (.long z))).1 = T.setFrames fs) : Steps p.tables e below (T.setTop (mkF m pc Ls (.long z :: rest))) (T.setFrames fs) :=
  retOut X hx (w := .long z) (t := .long) (i := .lreturn) hret rfl (Or.inr (Or.inl ⟨rfl, rfl, z, rfl⟩)) hd hl
theorem retA (X : Stand p l e R s m args below meth c T locs cells slots) (hx : p.tables.exec = Jvm.exec) {pc : Nat} {Ls : Array Slot} {w : Value} {t : FieldType} {rest : List Value} (hret : meth.sig.returnType = some t) (ht : t.isReference = true) (hw : w.isRef = true) (hn : narrow t w = w) (hd : decode c.code pc = .ok (.areturn, 1)) {fs : List Frame}
    (hl : ∀ (f : JFrame) (acts : List Action), f.method = m → f.locked = none → f.entered = [] → (doReturn e (T.setTop f) acts (some w)).1 = T.setFrames fs) : Steps p.tables e below (T.setTop (mkF m pc Ls (w :: rest))) (T.setFrames fs) :=
  retOut X hx (w := w) (t := t) (i := .areturn) hret hn (Or.inr (Or.inr (Or.inr (Or.inr ⟨rfl, ht, hw⟩)))) hd hl
end New
end Jvm.RoadKit
namespace Jvm.Pilot.@@N@@
open Jvm Jvm.ClassFile Sem Op Lib Jvm.Free Jvm.Stand Jvm.LawKit Jvm.RoadKit Bundle Jvm.Pilot.@@N@@.Jvm.D
/-- from S every run comes to T -/
abbrev Go (p : Program) (e : Env) (below : List Frame) (S T : State) : Prop := ∀ t, Steps p.tables e below T t → Steps p.tables e below S t

theorem own_ofNat {c : Int32} {n : Nat} (h : c.toInt = n) : c = Int32.ofNat n := by
  apply Int32.toInt_inj.mp
  have h2 := c.toInt_lt
  rw [Int32.toInt_ofNat', show Int32.size = 4294967296 from rfl, Int.bmod_eq_of_le (by omega) (by omega), h]
theorem own_char (x : Int32) : (x.toUInt32.toUInt16.toUInt32.toInt32).toInt = x.toInt % 65536 := by
  have h : (x.toUInt32.toUInt16.toUInt32.toInt32).toBitVec = (x.toBitVec.setWidth 16).setWidth 32 := rfl
  have h1 : (x.toUInt32.toUInt16.toUInt32.toInt32).toInt = ((x.toBitVec.setWidth 16).setWidth 32).toInt := by rw [← h]; rfl
  rw [h1, BitVec.toInt_eq_toNat_cond]
  have h3 : x.toInt = x.toBitVec.toInt := rfl
  rw [h3, BitVec.toInt_eq_toNat_cond]
  simp only [BitVec.toNat_setWidth]
  have := x.toBitVec.isLt
  split <;> split <;> omega


theorem own_m31 (x : Int32) : 0 ≤ (x &&& 2147483647).toInt := by
  have := Jvm.Kit.i32_mask x 2147483647 (k := 31) (by decide) (by decide); omega
theorem own_rem (x n : Int32) (hn : 0 < n.toInt) : 0 ≤ ((x &&& 2147483647) % n).toInt ∧ ((x &&& 2147483647) % n).toInt < n.toInt := by
  rw [Jvm.Kit.i32_rem_nonneg (own_m31 x)]
  exact ⟨Int.emod_nonneg _ (by omega), Int.emod_lt_of_pos _ hn⟩
theorem own_remeq (x y : Int32) : x - (x / y) * y = x % y := by
  apply Int32.toInt_inj.mp
  have a := (x % y).toInt_lt; have b := (x % y).le_toInt
  rw [Int32.toInt_mod] at a b ⊢
  rw [Int32.toInt_sub, Int32.toInt_mul, Int32.toInt_div, Int.bmod_mul_bmod, Int.sub_bmod_bmod, Int.mul_comm, ← Int.tmod_def]
  exact Jvm.Kit.bmod32 b a
theorem own_irem {tb : Tables} [Ours tb] {e : Env} {below : List Frame} {T target : State} {m : MethodId} {c : Code} {g : JFrame} (h : At T m c below) (hx : tb.exec = Jvm.exec) (hg : g.method = m) {x y : Int32} {rest : List Value} (hd : decode c.code g.pc = .ok (.irem, 1)) (hs : g.stack = .int y :: .int x :: rest) (hy : y ≠ 0)
    (hr : Steps tb e below (T.setTop { g with pc := g.pc + 1, stack := .int (x % y) :: rest }) target) : Steps tb e below (T.setTop g) target := XS.irem h hx hg hd hs hy (by rw [own_remeq]; exact hr)

theorem ef_1 (m : MethodId) (p0 : Int64) (p1 : Int64) : entryFrame m #[(.long p0), (.long p1)] 4 = mkF m 0 #[.val (.long p0), .second, .val (.long p1), .second] [] := by first | (simp [entryFrame, mkF, argsToLocals, Value.category]; done) | rfl
theorem d1_0 : decode jdk_29_method_70_code 0 = .ok (.lload_n 0, 1) := by decide +kernel
theorem d1_1 : decode jdk_29_method_70_code 1 = .ok (.lload_n 2, 1) := by decide +kernel
theorem d1_2 : decode jdk_29_method_70_code 2 = .ok (.lcmp, 1) := by decide +kernel
theorem d1_3 : decode jdk_29_method_70_code 3 = .ok (.ifCond .gt 7, 3) := by decide +kernel
theorem d1_10 : decode jdk_29_method_70_code 10 = .ok (.lload_n 2, 1) := by decide +kernel
theorem d1_11 : decode jdk_29_method_70_code 11 = .ok (.lreturn, 1) := by decide +kernel
theorem d1_6 : decode jdk_29_method_70_code 6 = .ok (.lload_n 0, 1) := by decide +kernel
theorem d1_7 : decode jdk_29_method_70_code 7 = .ok (.goto 4, 3) := by decide +kernel
def f1 (p0 : Int64) (p1 : Int64) : Int64 := (if p1 < p0 then p1 else p0)
def Q1 (Z : State) (p0 : Int64) (p1 : Int64) (h0 : Heap) (n0 : Nat) (v : Option Value) (h : Heap) (L : List Loc) : Prop := v = some (.long (f1 p0 p1)) ∧ Fr n0 L ∧ h = h0
set_option maxRecDepth 65536 in
set_option maxHeartbeats 40000000 in
theorem rm1 (l : Launch) (Z : State) (a0 : Array Value) (hw : ∀ d ∈ tables_1, d.before a0 Z = true) (ws : List Jvm.Cond) (p0 : Int64) (p1 : Int64) (h0 : Heap) (n0 : Nat) (Z0 : n0 ≤ h0.size) :
    MetFree l (⟨"java/lang/Math", "min", "(JJ)J"⟩ : MethodName) (head1 (Jvm.Cond.code (⟨"java/lang/Math", "min", "(JJ)J"⟩ : MethodName) jdk_29_method_70_code 4 (some .long) :: ws) ({ frames := 0, cells := 0, slots := 0, locals := 0 } : Room)) (fun a U => a = #[(.long p0), (.long p1)] ∧ Z.Warmed39 U.vm ∧ U.heap = h0) (fun _ _ _ _ _ => True) (fun _ U o U' => ∃ v L, o = .returned v ∧ Q1 Z p0 p1 h0 n0 v U'.heap L ∧ FrameEnd U o U' L ({ frames := 0, cells := 0, slots := 0, locals := 0 } : Room).cells ({ frames := 0, cells := 0, slots := 0, locals := 0 } : Room).slots) := by
  refine MetFree.of_bodySF (Jvm.Free.JP.mathPlain rfl (by decide +kernel)) hisR ?_
  intro p e s m args below meth c s₁ Bd hml0 hP hK
  obtain ⟨rfl, hZ, hh⟩ := hP
  have hx := Bd.exec
  have hby := Bd.bytes
  have hml : c.maxLocals = 4 := hml0
  have hown : s.vm.findClass "java/lang/Math" = some m.cls := findClass_of_methodNamed Bd.named
  have hnm := (name_of_methodNamed Bd.named Bd.method).1
  have hlk : meth.locks = false := BodyLoose.notSynchronized Bd
  have X0 : Stand p l e ({ frames := 0, cells := 0, slots := 0, locals := 0 } : Room) s m #[(.long p0), (.long p1)] below meth c s₁ [] 0 0 := Stand.of_body Bd
  have e0 : s₁.heap = h0 := by rw [← hh, Bd.state]; rfl
  have N0 := Fr.nil n0
  have pre0 : Go p e below (s₁.setTop (entryFrame m #[(.long p0), (.long p1)] 4)) (s₁.setTop (mkF m 0 #[.val (.long p0), .second, .val (.long p1), .second] [])) := fun t k => castTop (ef_1 m p0 p1) k
  have pre1 : Go p e below (s₁.setTop (entryFrame m #[(.long p0), (.long p1)] 4)) (s₁.setTop (mkF m 3 #[.val (.long p0), .second, .val (.long p1), .second] [(.int (XT.cmpL p0 p1))])) := by
    intro t k
    refine pre0 t ?_
    show Steps p.tables e below (s₁.setTop (mkF m 0 #[.val (.long p0), .second, .val (.long p1), .second] [])) _
    refine XT.lloadN X0.here hx rfl (hb hby d1_0) rfl ?_
    show Steps p.tables e below (s₁.setTop (mkF m 1 #[.val (.long p0), .second, .val (.long p1), .second] [(.long p0)])) _
    refine XT.lloadN X0.here hx rfl (hb hby d1_1) rfl ?_
    show Steps p.tables e below (s₁.setTop (mkF m 2 #[.val (.long p0), .second, .val (.long p1), .second] [(.long p1), (.long p0)])) _
    refine XT.lcmp X0.here hx rfl (hb hby d1_2) rfl ?_
    show Steps p.tables e below (s₁.setTop (mkF m 3 #[.val (.long p0), .second, .val (.long p1), .second] [(.int (XT.cmpL p0 p1))])) _
    exact k
  by_cases hc3_2 : p1 < p0
  · skip
    have pre3 : Go p e below (s₁.setTop (entryFrame m #[(.long p0), (.long p1)] 4)) (s₁.setTop (mkF m 11 #[.val (.long p0), .second, .val (.long p1), .second] [(.long p1)])) := by
      intro t k
      refine pre1 t ?_
      show Steps p.tables e below (s₁.setTop (mkF m 3 #[.val (.long p0), .second, .val (.long p1), .second] [(.int (XT.cmpL p0 p1))])) _
      refine XS.ifYes X0.here hx rfl (pc0 := 3) (pc' := 10) rfl (hb hby d1_3) rfl (XT.ll_gt_t hc3_2) (by decide) (by decide) ?_
      show Steps p.tables e below (s₁.setTop (mkF m 10 #[.val (.long p0), .second, .val (.long p1), .second] [])) _
      refine XT.lloadN X0.here hx rfl (hb hby d1_10) rfl ?_
      show Steps p.tables e below (s₁.setTop (mkF m 11 #[.val (.long p0), .second, .val (.long p1), .second] [(.long p1)])) _
      exact k
    obtain ⟨fs, hr, hrun, hended, hW, hsame⟩ := X0.leave (hlocks := hlk) (v := some (.long p1)) (fun h => by rw [Bd.returns] at h; cases h)
    refine ⟨_, _, pre3 _ (retJ X0 hx Bd.returns (hb hby d1_11) hr), hrun, hended, _, _, rfl, ?_, ⟨_, rfl⟩, hW, hsame.mono (by decide) (by decide)⟩
    show Q1 Z p0 p1 h0 n0 _ s₁.heap _
    rw [e0]
    exact ⟨congrArg some (congrArg Value.long (show p1 = f1 p0 p1 from by rw [f1, if_pos hc3_2])), N0, rfl⟩
  · skip
    have pre4 : Go p e below (s₁.setTop (entryFrame m #[(.long p0), (.long p1)] 4)) (s₁.setTop (mkF m 11 #[.val (.long p0), .second, .val (.long p1), .second] [(.long p0)])) := by
      intro t k
      refine pre1 t ?_
      show Steps p.tables e below (s₁.setTop (mkF m 3 #[.val (.long p0), .second, .val (.long p1), .second] [(.int (XT.cmpL p0 p1))])) _
      refine XS.ifNo X0.here hx rfl (hb hby d1_3) rfl (XT.ll_gt_f hc3_2) ?_
      show Steps p.tables e below (s₁.setTop (mkF m 6 #[.val (.long p0), .second, .val (.long p1), .second] [])) _
      refine XT.lloadN X0.here hx rfl (hb hby d1_6) rfl ?_
      show Steps p.tables e below (s₁.setTop (mkF m 7 #[.val (.long p0), .second, .val (.long p1), .second] [(.long p0)])) _
      refine XS.goto X0.here hx rfl (pc0 := 7) (pc' := 11) rfl (hb hby d1_7) (by decide) (by decide) ?_
      show Steps p.tables e below (s₁.setTop (mkF m 11 #[.val (.long p0), .second, .val (.long p1), .second] [(.long p0)])) _
      exact k
    obtain ⟨fs, hr, hrun, hended, hW, hsame⟩ := X0.leave (hlocks := hlk) (v := some (.long p0)) (fun h => by rw [Bd.returns] at h; cases h)
    refine ⟨_, _, pre4 _ (retJ X0 hx Bd.returns (hb hby d1_11) hr), hrun, hended, _, _, rfl, ?_, ⟨_, rfl⟩, hW, hsame.mono (by decide) (by decide)⟩
    show Q1 Z p0 p1 h0 n0 _ s₁.heap _
    rw [e0]
    exact ⟨congrArg some (congrArg Value.long (show p0 = f1 p0 p1 from by rw [f1, if_neg hc3_2])), N0, rfl⟩
theorem ef_2 (m : MethodId) (p0 : Int64) (p1 : Int64) : entryFrame m #[(.long p0), (.long p1)] 4 = mkF m 0 #[.val (.long p0), .second, .val (.long p1), .second] [] := by first | (simp [entryFrame, mkF, argsToLocals, Value.category]; done) | rfl
theorem d2_0 : decode jdk_29_method_66_code 0 = .ok (.lload_n 0, 1) := by decide +kernel
theorem d2_1 : decode jdk_29_method_66_code 1 = .ok (.lload_n 2, 1) := by decide +kernel
theorem d2_2 : decode jdk_29_method_66_code 2 = .ok (.lcmp, 1) := by decide +kernel
theorem d2_3 : decode jdk_29_method_66_code 3 = .ok (.ifCond .lt 7, 3) := by decide +kernel
theorem d2_10 : decode jdk_29_method_66_code 10 = .ok (.lload_n 2, 1) := by decide +kernel
theorem d2_11 : decode jdk_29_method_66_code 11 = .ok (.lreturn, 1) := by decide +kernel
theorem d2_6 : decode jdk_29_method_66_code 6 = .ok (.lload_n 0, 1) := by decide +kernel
theorem d2_7 : decode jdk_29_method_66_code 7 = .ok (.goto 4, 3) := by decide +kernel
def f2 (p0 : Int64) (p1 : Int64) : Int64 := (if p0 < p1 then p1 else p0)
def Q2 (Z : State) (p0 : Int64) (p1 : Int64) (h0 : Heap) (n0 : Nat) (v : Option Value) (h : Heap) (L : List Loc) : Prop := v = some (.long (f2 p0 p1)) ∧ Fr n0 L ∧ h = h0
set_option maxRecDepth 65536 in
set_option maxHeartbeats 40000000 in
theorem rm2 (l : Launch) (Z : State) (a0 : Array Value) (hw : ∀ d ∈ tables_1, d.before a0 Z = true) (ws : List Jvm.Cond) (p0 : Int64) (p1 : Int64) (h0 : Heap) (n0 : Nat) (Z0 : n0 ≤ h0.size) :
    MetFree l (⟨"java/lang/Math", "max", "(JJ)J"⟩ : MethodName) (head1 (Jvm.Cond.code (⟨"java/lang/Math", "max", "(JJ)J"⟩ : MethodName) jdk_29_method_66_code 4 (some .long) :: ws) ({ frames := 0, cells := 0, slots := 0, locals := 0 } : Room)) (fun a U => a = #[(.long p0), (.long p1)] ∧ Z.Warmed39 U.vm ∧ U.heap = h0) (fun _ _ _ _ _ => True) (fun _ U o U' => ∃ v L, o = .returned v ∧ Q2 Z p0 p1 h0 n0 v U'.heap L ∧ FrameEnd U o U' L ({ frames := 0, cells := 0, slots := 0, locals := 0 } : Room).cells ({ frames := 0, cells := 0, slots := 0, locals := 0 } : Room).slots) := by
  refine MetFree.of_bodySF (Jvm.Free.JP.mathPlain rfl (by decide +kernel)) hisR ?_
  intro p e s m args below meth c s₁ Bd hml0 hP hK
  obtain ⟨rfl, hZ, hh⟩ := hP
  have hx := Bd.exec
  have hby := Bd.bytes
  have hml : c.maxLocals = 4 := hml0
  have hown : s.vm.findClass "java/lang/Math" = some m.cls := findClass_of_methodNamed Bd.named
  have hnm := (name_of_methodNamed Bd.named Bd.method).1
  have hlk : meth.locks = false := BodyLoose.notSynchronized Bd
  have X0 : Stand p l e ({ frames := 0, cells := 0, slots := 0, locals := 0 } : Room) s m #[(.long p0), (.long p1)] below meth c s₁ [] 0 0 := Stand.of_body Bd
  have e0 : s₁.heap = h0 := by rw [← hh, Bd.state]; rfl
  have N0 := Fr.nil n0
  have pre0 : Go p e below (s₁.setTop (entryFrame m #[(.long p0), (.long p1)] 4)) (s₁.setTop (mkF m 0 #[.val (.long p0), .second, .val (.long p1), .second] [])) := fun t k => castTop (ef_2 m p0 p1) k
  have pre1 : Go p e below (s₁.setTop (entryFrame m #[(.long p0), (.long p1)] 4)) (s₁.setTop (mkF m 3 #[.val (.long p0), .second, .val (.long p1), .second] [(.int (XT.cmpL p0 p1))])) := by
    intro t k
    refine pre0 t ?_
    show Steps p.tables e below (s₁.setTop (mkF m 0 #[.val (.long p0), .second, .val (.long p1), .second] [])) _
    refine XT.lloadN X0.here hx rfl (hb hby d2_0) rfl ?_
    show Steps p.tables e below (s₁.setTop (mkF m 1 #[.val (.long p0), .second, .val (.long p1), .second] [(.long p0)])) _
    refine XT.lloadN X0.here hx rfl (hb hby d2_1) rfl ?_
    show Steps p.tables e below (s₁.setTop (mkF m 2 #[.val (.long p0), .second, .val (.long p1), .second] [(.long p1), (.long p0)])) _
    refine XT.lcmp X0.here hx rfl (hb hby d2_2) rfl ?_
    show Steps p.tables e below (s₁.setTop (mkF m 3 #[.val (.long p0), .second, .val (.long p1), .second] [(.int (XT.cmpL p0 p1))])) _
    exact k
  by_cases hc3_2 : p0 < p1
  · skip
    have pre3 : Go p e below (s₁.setTop (entryFrame m #[(.long p0), (.long p1)] 4)) (s₁.setTop (mkF m 11 #[.val (.long p0), .second, .val (.long p1), .second] [(.long p1)])) := by
      intro t k
      refine pre1 t ?_
      show Steps p.tables e below (s₁.setTop (mkF m 3 #[.val (.long p0), .second, .val (.long p1), .second] [(.int (XT.cmpL p0 p1))])) _
      refine XS.ifYes X0.here hx rfl (pc0 := 3) (pc' := 10) rfl (hb hby d2_3) rfl (XT.ll_lt_t hc3_2) (by decide) (by decide) ?_
      show Steps p.tables e below (s₁.setTop (mkF m 10 #[.val (.long p0), .second, .val (.long p1), .second] [])) _
      refine XT.lloadN X0.here hx rfl (hb hby d2_10) rfl ?_
      show Steps p.tables e below (s₁.setTop (mkF m 11 #[.val (.long p0), .second, .val (.long p1), .second] [(.long p1)])) _
      exact k
    obtain ⟨fs, hr, hrun, hended, hW, hsame⟩ := X0.leave (hlocks := hlk) (v := some (.long p1)) (fun h => by rw [Bd.returns] at h; cases h)
    refine ⟨_, _, pre3 _ (retJ X0 hx Bd.returns (hb hby d2_11) hr), hrun, hended, _, _, rfl, ?_, ⟨_, rfl⟩, hW, hsame.mono (by decide) (by decide)⟩
    show Q2 Z p0 p1 h0 n0 _ s₁.heap _
    rw [e0]
    exact ⟨congrArg some (congrArg Value.long (show p1 = f2 p0 p1 from by rw [f2, if_pos hc3_2])), N0, rfl⟩
  · skip
    have pre4 : Go p e below (s₁.setTop (entryFrame m #[(.long p0), (.long p1)] 4)) (s₁.setTop (mkF m 11 #[.val (.long p0), .second, .val (.long p1), .second] [(.long p0)])) := by
      intro t k
      refine pre1 t ?_
      show Steps p.tables e below (s₁.setTop (mkF m 3 #[.val (.long p0), .second, .val (.long p1), .second] [(.int (XT.cmpL p0 p1))])) _
      refine XS.ifNo X0.here hx rfl (hb hby d2_3) rfl (XT.ll_lt_f hc3_2) ?_
      show Steps p.tables e below (s₁.setTop (mkF m 6 #[.val (.long p0), .second, .val (.long p1), .second] [])) _
      refine XT.lloadN X0.here hx rfl (hb hby d2_6) rfl ?_
      show Steps p.tables e below (s₁.setTop (mkF m 7 #[.val (.long p0), .second, .val (.long p1), .second] [(.long p0)])) _
      refine XS.goto X0.here hx rfl (pc0 := 7) (pc' := 11) rfl (hb hby d2_7) (by decide) (by decide) ?_
      show Steps p.tables e below (s₁.setTop (mkF m 11 #[.val (.long p0), .second, .val (.long p1), .second] [(.long p0)])) _
      exact k
    obtain ⟨fs, hr, hrun, hended, hW, hsame⟩ := X0.leave (hlocks := hlk) (v := some (.long p0)) (fun h => by rw [Bd.returns] at h; cases h)
    refine ⟨_, _, pre4 _ (retJ X0 hx Bd.returns (hb hby d2_11) hr), hrun, hended, _, _, rfl, ?_, ⟨_, rfl⟩, hW, hsame.mono (by decide) (by decide)⟩
    show Q2 Z p0 p1 h0 n0 _ s₁.heap _
    rw [e0]
    exact ⟨congrArg some (congrArg Value.long (show p0 = f2 p0 p1 from by rw [f2, if_neg hc3_2])), N0, rfl⟩
theorem ef_3 (m : MethodId) (p0 : Int64) (p1 : Int64) : entryFrame m #[(.long p0), (.long p1)] 8 = mkF m 0 #[.val (.long p0), .second, .val (.long p1), .second, .unset, .unset, .unset, .unset] [] := by first | (simp [entryFrame, mkF, argsToLocals, Value.category]; done) | rfl
theorem d3_0 : decode prog_8_method_3_code 0 = .ok (.lload_n 2, 1) := by decide +kernel
theorem d3_1 : decode prog_8_method_3_code 1 = .ok (.ldc2_w 11, 3) := by decide +kernel
theorem d3_4 : decode prog_8_method_3_code 4 = .ok (.ladd, 1) := by decide +kernel
theorem d3_5 : decode prog_8_method_3_code 5 = .ok (.lstore 4, 2) := by decide +kernel
theorem d3_7 : decode prog_8_method_3_code 7 = .ok (.lload_n 0, 1) := by decide +kernel
theorem d3_8 : decode prog_8_method_3_code 8 = .ok (.ldc2_w 13, 3) := by decide +kernel
theorem d3_11 : decode prog_8_method_3_code 11 = .ok (.ladd, 1) := by decide +kernel
theorem d3_12 : decode prog_8_method_3_code 12 = .ok (.lstore 6, 2) := by decide +kernel
theorem d3_14 : decode prog_8_method_3_code 14 = .ok (.lload 4, 2) := by decide +kernel
theorem d3_16 : decode prog_8_method_3_code 16 = .ok (.lload 6, 2) := by decide +kernel
theorem d3_18 : decode prog_8_method_3_code 18 = .ok (.ldc2_w 15, 3) := by decide +kernel
theorem d3_21 : decode prog_8_method_3_code 21 = .ok (.land, 1) := by decide +kernel
theorem d3_22 : decode prog_8_method_3_code 22 = .ok (.lcmp, 1) := by decide +kernel
theorem d3_23 : decode prog_8_method_3_code 23 = .ok (.ifCond .ge 14, 3) := by decide +kernel
theorem d3_26 : decode prog_8_method_3_code 26 = .ok (.lload 6, 2) := by decide +kernel
theorem d3_28 : decode prog_8_method_3_code 28 = .ok (.ldc2_w 17, 3) := by decide +kernel
theorem d3_31 : decode prog_8_method_3_code 31 = .ok (.land, 1) := by decide +kernel
theorem d3_32 : decode prog_8_method_3_code 32 = .ok (.lload 4, 2) := by decide +kernel
theorem d3_34 : decode prog_8_method_3_code 34 = .ok (.lor, 1) := by decide +kernel
theorem d3_35 : decode prog_8_method_3_code 35 = .ok (.lstore 6, 2) := by decide +kernel
theorem d3_37 : decode prog_8_method_3_code 37 = .ok (.lload 4, 2) := by decide +kernel
theorem d3_39 : decode prog_8_method_3_code 39 = .ok (.lload 6, 2) := by decide +kernel
theorem d3_41 : decode prog_8_method_3_code 41 = .ok (.bipush 11, 2) := by decide +kernel
theorem d3_43 : decode prog_8_method_3_code 43 = .ok (.lushr, 1) := by decide +kernel
theorem d3_44 : decode prog_8_method_3_code 44 = .ok (.ldc2_w 15, 3) := by decide +kernel
theorem d3_47 : decode prog_8_method_3_code 47 = .ok (.land, 1) := by decide +kernel
theorem d3_48 : decode prog_8_method_3_code 48 = .ok (.lcmp, 1) := by decide +kernel
theorem d3_49 : decode prog_8_method_3_code 49 = .ok (.ifCond .le 17, 3) := by decide +kernel
theorem d3_52 : decode prog_8_method_3_code 52 = .ok (.lload 6, 2) := by decide +kernel
theorem d3_54 : decode prog_8_method_3_code 54 = .ok (.ldc2_w 19, 3) := by decide +kernel
theorem d3_57 : decode prog_8_method_3_code 57 = .ok (.land, 1) := by decide +kernel
theorem d3_58 : decode prog_8_method_3_code 58 = .ok (.lload 4, 2) := by decide +kernel
theorem d3_60 : decode prog_8_method_3_code 60 = .ok (.bipush 11, 2) := by decide +kernel
theorem d3_62 : decode prog_8_method_3_code 62 = .ok (.lshl, 1) := by decide +kernel
theorem d3_63 : decode prog_8_method_3_code 63 = .ok (.lor, 1) := by decide +kernel
theorem d3_64 : decode prog_8_method_3_code 64 = .ok (.lstore 6, 2) := by decide +kernel
theorem d3_66 : decode prog_8_method_3_code 66 = .ok (.lload 6, 2) := by decide +kernel
theorem d3_68 : decode prog_8_method_3_code 68 = .ok (.lreturn, 1) := by decide +kernel
def f3 (p0 : Int64) (p1 : Int64) : Int64 := (if (p1 + (1024 : Int64)) < ((p0 + (4194304 : Int64)) &&& (2047 : Int64)) then (if (((((((p0 + (4194304 : Int64)) &&& (-2048 : Int64)) ||| (p1 + (1024 : Int64)))).toUInt64 >>> (((11 : Int32)) &&& 0x3f).toInt64.toUInt64).toInt64) &&& (2047 : Int64)) < (p1 + (1024 : Int64)) then (((((p0 + (4194304 : Int64)) &&& (-2048 : Int64)) ||| (p1 + (1024 : Int64))) &&& (-4192257 : Int64)) ||| (((p1 + (1024 : Int64)) <<< (((11 : Int32)) &&& 0x3f).toInt64))) else (((p0 + (4194304 : Int64)) &&& (-2048 : Int64)) ||| (p1 + (1024 : Int64)))) else (if (((((p0 + (4194304 : Int64))).toUInt64 >>> (((11 : Int32)) &&& 0x3f).toInt64.toUInt64).toInt64) &&& (2047 : Int64)) < (p1 + (1024 : Int64)) then (((p0 + (4194304 : Int64)) &&& (-4192257 : Int64)) ||| (((p1 + (1024 : Int64)) <<< (((11 : Int32)) &&& 0x3f).toInt64))) else (p0 + (4194304 : Int64))))
def Q3 (Z : State) (p0 : Int64) (p1 : Int64) (h0 : Heap) (n0 : Nat) (v : Option Value) (h : Heap) (L : List Loc) : Prop := v = some (.long (f3 p0 p1)) ∧ Fr n0 L ∧ h = h0
set_option maxRecDepth 65536 in
set_option maxHeartbeats 40000000 in
theorem pn_com_example_lanescan_lanescan_Readings : plainName "com/example/lanescan/lanescan/Readings" = true := by first | (simp [plainName, overriddenIn]; done) | decide +kernel
theorem rm3 (l : Launch) (Z : State) (a0 : Array Value) (hw : ∀ d ∈ tables_1, d.before a0 Z = true) (ws : List Jvm.Cond) (p0 : Int64) (p1 : Int64) (h0 : Heap) (n0 : Nat) (Z0 : n0 ≤ h0.size) :
    MetFree l (⟨"com/example/lanescan/lanescan/Readings", "add", "(JJ)J"⟩ : MethodName) (head1 (Jvm.Cond.code (⟨"com/example/lanescan/lanescan/Readings", "add", "(JJ)J"⟩ : MethodName) prog_8_method_3_code 8 (some .long) :: ws) ({ frames := 0, cells := 0, slots := 0, locals := 0 } : Room)) (fun a U => a = #[(.long p0), (.long p1)] ∧ Z.Warmed39 U.vm ∧ U.heap = h0) (fun _ _ _ _ _ => True) (fun _ U o U' => ∃ v L, o = .returned v ∧ Q3 Z p0 p1 h0 n0 v U'.heap L ∧ FrameEnd U o U' L ({ frames := 0, cells := 0, slots := 0, locals := 0 } : Room).cells ({ frames := 0, cells := 0, slots := 0, locals := 0 } : Room).slots) := by
  refine MetFree.of_bodySF (plainFor_of_name pn_com_example_lanescan_lanescan_Readings) hisR ?_
  intro p e s m args below meth c s₁ Bd hml0 hP hK
  obtain ⟨rfl, hZ, hh⟩ := hP
  have hx := Bd.exec
  have hby := Bd.bytes
  have hml : c.maxLocals = 8 := hml0
  have hown : s.vm.findClass "com/example/lanescan/lanescan/Readings" = some m.cls := findClass_of_methodNamed Bd.named
  have hnm := (name_of_methodNamed Bd.named Bd.method).1
  have hlk : meth.locks = false := BodyLoose.notSynchronized Bd
  have X0 : Stand p l e ({ frames := 0, cells := 0, slots := 0, locals := 0 } : Room) s m #[(.long p0), (.long p1)] below meth c s₁ [] 0 0 := Stand.of_body Bd
  have e0 : s₁.heap = h0 := by rw [← hh, Bd.state]; rfl
  have N0 := Fr.nil n0
  have pre0 : Go p e below (s₁.setTop (entryFrame m #[(.long p0), (.long p1)] 8)) (s₁.setTop (mkF m 0 #[.val (.long p0), .second, .val (.long p1), .second, .unset, .unset, .unset, .unset] [])) := fun t k => castTop (ef_3 m p0 p1) k
  have pre1 : Go p e below (s₁.setTop (entryFrame m #[(.long p0), (.long p1)] 8)) (s₁.setTop (mkF m 23 #[.val (.long p0), .second, .val (.long p1), .second, .val (.long (p1 + (1024 : Int64))), .second, .val (.long (p0 + (4194304 : Int64))), .second] [(.int (XT.cmpL (p1 + (1024 : Int64)) ((p0 + (4194304 : Int64)) &&& (2047 : Int64))))])) := by
    intro t k
    refine pre0 t ?_
    show Steps p.tables e below (s₁.setTop (mkF m 0 #[.val (.long p0), .second, .val (.long p1), .second, .unset, .unset, .unset, .unset] [])) _
    refine XT.lloadN X0.here hx rfl (hb hby d3_0) rfl ?_
    show Steps p.tables e below (s₁.setTop (mkF m 1 #[.val (.long p0), .second, .val (.long p1), .second, .unset, .unset, .unset, .unset] [(.long p1)])) _
    refine X0.ldc2J hx hown (mvT hZ (hw _ (List.mem_of_getElem? (i := 15) rfl))) (g := (mkF m 1 #[.val (.long p0), .second, .val (.long p1), .second, .unset, .unset, .unset, .unset] [(.long p1)])) rfl (hb hby d3_1) ?_
    show Steps p.tables e below (s₁.setTop (mkF m 4 #[.val (.long p0), .second, .val (.long p1), .second, .unset, .unset, .unset, .unset] [(.long (1024 : Int64)), (.long p1)])) _
    refine XS.ladd X0.here hx rfl (hb hby d3_4) rfl ?_
    show Steps p.tables e below (s₁.setTop (mkF m 5 #[.val (.long p0), .second, .val (.long p1), .second, .unset, .unset, .unset, .unset] [(.long (p1 + (1024 : Int64)))])) _
    refine XT.lstore X0.here hx rfl (hb hby d3_5) rfl (l' := #[.val (.long p0), .second, .val (.long p1), .second, .val (.long (p1 + (1024 : Int64))), .second, .unset, .unset]) rfl ?_
    show Steps p.tables e below (s₁.setTop (mkF m 7 #[.val (.long p0), .second, .val (.long p1), .second, .val (.long (p1 + (1024 : Int64))), .second, .unset, .unset] [])) _
    refine XT.lloadN X0.here hx rfl (hb hby d3_7) rfl ?_
    show Steps p.tables e below (s₁.setTop (mkF m 8 #[.val (.long p0), .second, .val (.long p1), .second, .val (.long (p1 + (1024 : Int64))), .second, .unset, .unset] [(.long p0)])) _
    refine X0.ldc2J hx hown (mvT hZ (hw _ (List.mem_of_getElem? (i := 16) rfl))) (g := (mkF m 8 #[.val (.long p0), .second, .val (.long p1), .second, .val (.long (p1 + (1024 : Int64))), .second, .unset, .unset] [(.long p0)])) rfl (hb hby d3_8) ?_
    show Steps p.tables e below (s₁.setTop (mkF m 11 #[.val (.long p0), .second, .val (.long p1), .second, .val (.long (p1 + (1024 : Int64))), .second, .unset, .unset] [(.long (4194304 : Int64)), (.long p0)])) _
    refine XS.ladd X0.here hx rfl (hb hby d3_11) rfl ?_
    show Steps p.tables e below (s₁.setTop (mkF m 12 #[.val (.long p0), .second, .val (.long p1), .second, .val (.long (p1 + (1024 : Int64))), .second, .unset, .unset] [(.long (p0 + (4194304 : Int64)))])) _
    refine XT.lstore X0.here hx rfl (hb hby d3_12) rfl (l' := #[.val (.long p0), .second, .val (.long p1), .second, .val (.long (p1 + (1024 : Int64))), .second, .val (.long (p0 + (4194304 : Int64))), .second]) rfl ?_
    show Steps p.tables e below (s₁.setTop (mkF m 14 #[.val (.long p0), .second, .val (.long p1), .second, .val (.long (p1 + (1024 : Int64))), .second, .val (.long (p0 + (4194304 : Int64))), .second] [])) _
    refine XT.lload X0.here hx rfl (hb hby d3_14) rfl ?_
    show Steps p.tables e below (s₁.setTop (mkF m 16 #[.val (.long p0), .second, .val (.long p1), .second, .val (.long (p1 + (1024 : Int64))), .second, .val (.long (p0 + (4194304 : Int64))), .second] [(.long (p1 + (1024 : Int64)))])) _
    refine XT.lload X0.here hx rfl (hb hby d3_16) rfl ?_
    show Steps p.tables e below (s₁.setTop (mkF m 18 #[.val (.long p0), .second, .val (.long p1), .second, .val (.long (p1 + (1024 : Int64))), .second, .val (.long (p0 + (4194304 : Int64))), .second] [(.long (p0 + (4194304 : Int64))), (.long (p1 + (1024 : Int64)))])) _
    refine X0.ldc2J hx hown (mvT hZ (hw _ (List.mem_of_getElem? (i := 17) rfl))) (g := (mkF m 18 #[.val (.long p0), .second, .val (.long p1), .second, .val (.long (p1 + (1024 : Int64))), .second, .val (.long (p0 + (4194304 : Int64))), .second] [(.long (p0 + (4194304 : Int64))), (.long (p1 + (1024 : Int64)))])) rfl (hb hby d3_18) ?_
    show Steps p.tables e below (s₁.setTop (mkF m 21 #[.val (.long p0), .second, .val (.long p1), .second, .val (.long (p1 + (1024 : Int64))), .second, .val (.long (p0 + (4194304 : Int64))), .second] [(.long (2047 : Int64)), (.long (p0 + (4194304 : Int64))), (.long (p1 + (1024 : Int64)))])) _
    refine XS.land X0.here hx rfl (hb hby d3_21) rfl ?_
    show Steps p.tables e below (s₁.setTop (mkF m 22 #[.val (.long p0), .second, .val (.long p1), .second, .val (.long (p1 + (1024 : Int64))), .second, .val (.long (p0 + (4194304 : Int64))), .second] [(.long ((p0 + (4194304 : Int64)) &&& (2047 : Int64))), (.long (p1 + (1024 : Int64)))])) _
    refine XT.lcmp X0.here hx rfl (hb hby d3_22) rfl ?_
    show Steps p.tables e below (s₁.setTop (mkF m 23 #[.val (.long p0), .second, .val (.long p1), .second, .val (.long (p1 + (1024 : Int64))), .second, .val (.long (p0 + (4194304 : Int64))), .second] [(.int (XT.cmpL (p1 + (1024 : Int64)) ((p0 + (4194304 : Int64)) &&& (2047 : Int64))))])) _
    exact k
  by_cases hc23_2 : (p1 + (1024 : Int64)) < ((p0 + (4194304 : Int64)) &&& (2047 : Int64))
  · skip
    have pre3 : Go p e below (s₁.setTop (entryFrame m #[(.long p0), (.long p1)] 8)) (s₁.setTop (mkF m 49 #[.val (.long p0), .second, .val (.long p1), .second, .val (.long (p1 + (1024 : Int64))), .second, .val (.long (((p0 + (4194304 : Int64)) &&& (-2048 : Int64)) ||| (p1 + (1024 : Int64)))), .second] [(.int (XT.cmpL (p1 + (1024 : Int64)) (((((((p0 + (4194304 : Int64)) &&& (-2048 : Int64)) ||| (p1 + (1024 : Int64)))).toUInt64 >>> (((11 : Int32)) &&& 0x3f).toInt64.toUInt64).toInt64) &&& (2047 : Int64))))])) := by
      intro t k
      refine pre1 t ?_
      show Steps p.tables e below (s₁.setTop (mkF m 23 #[.val (.long p0), .second, .val (.long p1), .second, .val (.long (p1 + (1024 : Int64))), .second, .val (.long (p0 + (4194304 : Int64))), .second] [(.int (XT.cmpL (p1 + (1024 : Int64)) ((p0 + (4194304 : Int64)) &&& (2047 : Int64))))])) _
      refine XS.ifNo X0.here hx rfl (hb hby d3_23) rfl (XT.ll_ge_f hc23_2) ?_
      show Steps p.tables e below (s₁.setTop (mkF m 26 #[.val (.long p0), .second, .val (.long p1), .second, .val (.long (p1 + (1024 : Int64))), .second, .val (.long (p0 + (4194304 : Int64))), .second] [])) _
      refine XT.lload X0.here hx rfl (hb hby d3_26) rfl ?_
      show Steps p.tables e below (s₁.setTop (mkF m 28 #[.val (.long p0), .second, .val (.long p1), .second, .val (.long (p1 + (1024 : Int64))), .second, .val (.long (p0 + (4194304 : Int64))), .second] [(.long (p0 + (4194304 : Int64)))])) _
      refine X0.ldc2J hx hown (mvT hZ (hw _ (List.mem_of_getElem? (i := 19) rfl))) (g := (mkF m 28 #[.val (.long p0), .second, .val (.long p1), .second, .val (.long (p1 + (1024 : Int64))), .second, .val (.long (p0 + (4194304 : Int64))), .second] [(.long (p0 + (4194304 : Int64)))])) rfl (hb hby d3_28) ?_
      show Steps p.tables e below (s₁.setTop (mkF m 31 #[.val (.long p0), .second, .val (.long p1), .second, .val (.long (p1 + (1024 : Int64))), .second, .val (.long (p0 + (4194304 : Int64))), .second] [(.long (-2048 : Int64)), (.long (p0 + (4194304 : Int64)))])) _
      refine XS.land X0.here hx rfl (hb hby d3_31) rfl ?_
      show Steps p.tables e below (s₁.setTop (mkF m 32 #[.val (.long p0), .second, .val (.long p1), .second, .val (.long (p1 + (1024 : Int64))), .second, .val (.long (p0 + (4194304 : Int64))), .second] [(.long ((p0 + (4194304 : Int64)) &&& (-2048 : Int64)))])) _
      refine XT.lload X0.here hx rfl (hb hby d3_32) rfl ?_
      show Steps p.tables e below (s₁.setTop (mkF m 34 #[.val (.long p0), .second, .val (.long p1), .second, .val (.long (p1 + (1024 : Int64))), .second, .val (.long (p0 + (4194304 : Int64))), .second] [(.long (p1 + (1024 : Int64))), (.long ((p0 + (4194304 : Int64)) &&& (-2048 : Int64)))])) _
      refine XS.lor X0.here hx rfl (hb hby d3_34) rfl ?_
      show Steps p.tables e below (s₁.setTop (mkF m 35 #[.val (.long p0), .second, .val (.long p1), .second, .val (.long (p1 + (1024 : Int64))), .second, .val (.long (p0 + (4194304 : Int64))), .second] [(.long (((p0 + (4194304 : Int64)) &&& (-2048 : Int64)) ||| (p1 + (1024 : Int64))))])) _
      refine XT.lstore X0.here hx rfl (hb hby d3_35) rfl (l' := #[.val (.long p0), .second, .val (.long p1), .second, .val (.long (p1 + (1024 : Int64))), .second, .val (.long (((p0 + (4194304 : Int64)) &&& (-2048 : Int64)) ||| (p1 + (1024 : Int64)))), .second]) rfl ?_
      show Steps p.tables e below (s₁.setTop (mkF m 37 #[.val (.long p0), .second, .val (.long p1), .second, .val (.long (p1 + (1024 : Int64))), .second, .val (.long (((p0 + (4194304 : Int64)) &&& (-2048 : Int64)) ||| (p1 + (1024 : Int64)))), .second] [])) _
      refine XT.lload X0.here hx rfl (hb hby d3_37) rfl ?_
      show Steps p.tables e below (s₁.setTop (mkF m 39 #[.val (.long p0), .second, .val (.long p1), .second, .val (.long (p1 + (1024 : Int64))), .second, .val (.long (((p0 + (4194304 : Int64)) &&& (-2048 : Int64)) ||| (p1 + (1024 : Int64)))), .second] [(.long (p1 + (1024 : Int64)))])) _
      refine XT.lload X0.here hx rfl (hb hby d3_39) rfl ?_
      show Steps p.tables e below (s₁.setTop (mkF m 41 #[.val (.long p0), .second, .val (.long p1), .second, .val (.long (p1 + (1024 : Int64))), .second, .val (.long (((p0 + (4194304 : Int64)) &&& (-2048 : Int64)) ||| (p1 + (1024 : Int64)))), .second] [(.long (((p0 + (4194304 : Int64)) &&& (-2048 : Int64)) ||| (p1 + (1024 : Int64)))), (.long (p1 + (1024 : Int64)))])) _
      refine XS.bipush X0.here hx rfl (hb hby d3_41) ?_
      show Steps p.tables e below (s₁.setTop (mkF m 43 #[.val (.long p0), .second, .val (.long p1), .second, .val (.long (p1 + (1024 : Int64))), .second, .val (.long (((p0 + (4194304 : Int64)) &&& (-2048 : Int64)) ||| (p1 + (1024 : Int64)))), .second] [(.int (11 : Int32)), (.long (((p0 + (4194304 : Int64)) &&& (-2048 : Int64)) ||| (p1 + (1024 : Int64)))), (.long (p1 + (1024 : Int64)))])) _
      refine XS.lushr X0.here hx rfl (hb hby d3_43) rfl ?_
      show Steps p.tables e below (s₁.setTop (mkF m 44 #[.val (.long p0), .second, .val (.long p1), .second, .val (.long (p1 + (1024 : Int64))), .second, .val (.long (((p0 + (4194304 : Int64)) &&& (-2048 : Int64)) ||| (p1 + (1024 : Int64)))), .second] [(.long ((((((p0 + (4194304 : Int64)) &&& (-2048 : Int64)) ||| (p1 + (1024 : Int64)))).toUInt64 >>> (((11 : Int32)) &&& 0x3f).toInt64.toUInt64).toInt64)), (.long (p1 + (1024 : Int64)))])) _
      refine X0.ldc2J hx hown (mvT hZ (hw _ (List.mem_of_getElem? (i := 17) rfl))) (g := (mkF m 44 #[.val (.long p0), .second, .val (.long p1), .second, .val (.long (p1 + (1024 : Int64))), .second, .val (.long (((p0 + (4194304 : Int64)) &&& (-2048 : Int64)) ||| (p1 + (1024 : Int64)))), .second] [(.long ((((((p0 + (4194304 : Int64)) &&& (-2048 : Int64)) ||| (p1 + (1024 : Int64)))).toUInt64 >>> (((11 : Int32)) &&& 0x3f).toInt64.toUInt64).toInt64)), (.long (p1 + (1024 : Int64)))])) rfl (hb hby d3_44) ?_
      show Steps p.tables e below (s₁.setTop (mkF m 47 #[.val (.long p0), .second, .val (.long p1), .second, .val (.long (p1 + (1024 : Int64))), .second, .val (.long (((p0 + (4194304 : Int64)) &&& (-2048 : Int64)) ||| (p1 + (1024 : Int64)))), .second] [(.long (2047 : Int64)), (.long ((((((p0 + (4194304 : Int64)) &&& (-2048 : Int64)) ||| (p1 + (1024 : Int64)))).toUInt64 >>> (((11 : Int32)) &&& 0x3f).toInt64.toUInt64).toInt64)), (.long (p1 + (1024 : Int64)))])) _
      refine XS.land X0.here hx rfl (hb hby d3_47) rfl ?_
      show Steps p.tables e below (s₁.setTop (mkF m 48 #[.val (.long p0), .second, .val (.long p1), .second, .val (.long (p1 + (1024 : Int64))), .second, .val (.long (((p0 + (4194304 : Int64)) &&& (-2048 : Int64)) ||| (p1 + (1024 : Int64)))), .second] [(.long (((((((p0 + (4194304 : Int64)) &&& (-2048 : Int64)) ||| (p1 + (1024 : Int64)))).toUInt64 >>> (((11 : Int32)) &&& 0x3f).toInt64.toUInt64).toInt64) &&& (2047 : Int64))), (.long (p1 + (1024 : Int64)))])) _
      refine XT.lcmp X0.here hx rfl (hb hby d3_48) rfl ?_
      show Steps p.tables e below (s₁.setTop (mkF m 49 #[.val (.long p0), .second, .val (.long p1), .second, .val (.long (p1 + (1024 : Int64))), .second, .val (.long (((p0 + (4194304 : Int64)) &&& (-2048 : Int64)) ||| (p1 + (1024 : Int64)))), .second] [(.int (XT.cmpL (p1 + (1024 : Int64)) (((((((p0 + (4194304 : Int64)) &&& (-2048 : Int64)) ||| (p1 + (1024 : Int64)))).toUInt64 >>> (((11 : Int32)) &&& 0x3f).toInt64.toUInt64).toInt64) &&& (2047 : Int64))))])) _
      exact k
    by_cases hc49_4 : (((((((p0 + (4194304 : Int64)) &&& (-2048 : Int64)) ||| (p1 + (1024 : Int64)))).toUInt64 >>> (((11 : Int32)) &&& 0x3f).toInt64.toUInt64).toInt64) &&& (2047 : Int64)) < (p1 + (1024 : Int64))
    · skip
      have pre5 : Go p e below (s₁.setTop (entryFrame m #[(.long p0), (.long p1)] 8)) (s₁.setTop (mkF m 68 #[.val (.long p0), .second, .val (.long p1), .second, .val (.long (p1 + (1024 : Int64))), .second, .val (.long (((((p0 + (4194304 : Int64)) &&& (-2048 : Int64)) ||| (p1 + (1024 : Int64))) &&& (-4192257 : Int64)) ||| (((p1 + (1024 : Int64)) <<< (((11 : Int32)) &&& 0x3f).toInt64)))), .second] [(.long (((((p0 + (4194304 : Int64)) &&& (-2048 : Int64)) ||| (p1 + (1024 : Int64))) &&& (-4192257 : Int64)) ||| (((p1 + (1024 : Int64)) <<< (((11 : Int32)) &&& 0x3f).toInt64))))])) := by
        intro t k
        refine pre3 t ?_
        show Steps p.tables e below (s₁.setTop (mkF m 49 #[.val (.long p0), .second, .val (.long p1), .second, .val (.long (p1 + (1024 : Int64))), .second, .val (.long (((p0 + (4194304 : Int64)) &&& (-2048 : Int64)) ||| (p1 + (1024 : Int64)))), .second] [(.int (XT.cmpL (p1 + (1024 : Int64)) (((((((p0 + (4194304 : Int64)) &&& (-2048 : Int64)) ||| (p1 + (1024 : Int64)))).toUInt64 >>> (((11 : Int32)) &&& 0x3f).toInt64.toUInt64).toInt64) &&& (2047 : Int64))))])) _
        refine XS.ifNo X0.here hx rfl (hb hby d3_49) rfl (XT.ll_le_f hc49_4) ?_
        show Steps p.tables e below (s₁.setTop (mkF m 52 #[.val (.long p0), .second, .val (.long p1), .second, .val (.long (p1 + (1024 : Int64))), .second, .val (.long (((p0 + (4194304 : Int64)) &&& (-2048 : Int64)) ||| (p1 + (1024 : Int64)))), .second] [])) _
        refine XT.lload X0.here hx rfl (hb hby d3_52) rfl ?_
        show Steps p.tables e below (s₁.setTop (mkF m 54 #[.val (.long p0), .second, .val (.long p1), .second, .val (.long (p1 + (1024 : Int64))), .second, .val (.long (((p0 + (4194304 : Int64)) &&& (-2048 : Int64)) ||| (p1 + (1024 : Int64)))), .second] [(.long (((p0 + (4194304 : Int64)) &&& (-2048 : Int64)) ||| (p1 + (1024 : Int64))))])) _
        refine X0.ldc2J hx hown (mvT hZ (hw _ (List.mem_of_getElem? (i := 18) rfl))) (g := (mkF m 54 #[.val (.long p0), .second, .val (.long p1), .second, .val (.long (p1 + (1024 : Int64))), .second, .val (.long (((p0 + (4194304 : Int64)) &&& (-2048 : Int64)) ||| (p1 + (1024 : Int64)))), .second] [(.long (((p0 + (4194304 : Int64)) &&& (-2048 : Int64)) ||| (p1 + (1024 : Int64))))])) rfl (hb hby d3_54) ?_
        show Steps p.tables e below (s₁.setTop (mkF m 57 #[.val (.long p0), .second, .val (.long p1), .second, .val (.long (p1 + (1024 : Int64))), .second, .val (.long (((p0 + (4194304 : Int64)) &&& (-2048 : Int64)) ||| (p1 + (1024 : Int64)))), .second] [(.long (-4192257 : Int64)), (.long (((p0 + (4194304 : Int64)) &&& (-2048 : Int64)) ||| (p1 + (1024 : Int64))))])) _
        refine XS.land X0.here hx rfl (hb hby d3_57) rfl ?_
        show Steps p.tables e below (s₁.setTop (mkF m 58 #[.val (.long p0), .second, .val (.long p1), .second, .val (.long (p1 + (1024 : Int64))), .second, .val (.long (((p0 + (4194304 : Int64)) &&& (-2048 : Int64)) ||| (p1 + (1024 : Int64)))), .second] [(.long ((((p0 + (4194304 : Int64)) &&& (-2048 : Int64)) ||| (p1 + (1024 : Int64))) &&& (-4192257 : Int64)))])) _
        refine XT.lload X0.here hx rfl (hb hby d3_58) rfl ?_
        show Steps p.tables e below (s₁.setTop (mkF m 60 #[.val (.long p0), .second, .val (.long p1), .second, .val (.long (p1 + (1024 : Int64))), .second, .val (.long (((p0 + (4194304 : Int64)) &&& (-2048 : Int64)) ||| (p1 + (1024 : Int64)))), .second] [(.long (p1 + (1024 : Int64))), (.long ((((p0 + (4194304 : Int64)) &&& (-2048 : Int64)) ||| (p1 + (1024 : Int64))) &&& (-4192257 : Int64)))])) _
        refine XS.bipush X0.here hx rfl (hb hby d3_60) ?_
        show Steps p.tables e below (s₁.setTop (mkF m 62 #[.val (.long p0), .second, .val (.long p1), .second, .val (.long (p1 + (1024 : Int64))), .second, .val (.long (((p0 + (4194304 : Int64)) &&& (-2048 : Int64)) ||| (p1 + (1024 : Int64)))), .second] [(.int (11 : Int32)), (.long (p1 + (1024 : Int64))), (.long ((((p0 + (4194304 : Int64)) &&& (-2048 : Int64)) ||| (p1 + (1024 : Int64))) &&& (-4192257 : Int64)))])) _
        refine XS.lshl X0.here hx rfl (hb hby d3_62) rfl ?_
        show Steps p.tables e below (s₁.setTop (mkF m 63 #[.val (.long p0), .second, .val (.long p1), .second, .val (.long (p1 + (1024 : Int64))), .second, .val (.long (((p0 + (4194304 : Int64)) &&& (-2048 : Int64)) ||| (p1 + (1024 : Int64)))), .second] [(.long (((p1 + (1024 : Int64)) <<< (((11 : Int32)) &&& 0x3f).toInt64))), (.long ((((p0 + (4194304 : Int64)) &&& (-2048 : Int64)) ||| (p1 + (1024 : Int64))) &&& (-4192257 : Int64)))])) _
        refine XS.lor X0.here hx rfl (hb hby d3_63) rfl ?_
        show Steps p.tables e below (s₁.setTop (mkF m 64 #[.val (.long p0), .second, .val (.long p1), .second, .val (.long (p1 + (1024 : Int64))), .second, .val (.long (((p0 + (4194304 : Int64)) &&& (-2048 : Int64)) ||| (p1 + (1024 : Int64)))), .second] [(.long (((((p0 + (4194304 : Int64)) &&& (-2048 : Int64)) ||| (p1 + (1024 : Int64))) &&& (-4192257 : Int64)) ||| (((p1 + (1024 : Int64)) <<< (((11 : Int32)) &&& 0x3f).toInt64))))])) _
        refine XT.lstore X0.here hx rfl (hb hby d3_64) rfl (l' := #[.val (.long p0), .second, .val (.long p1), .second, .val (.long (p1 + (1024 : Int64))), .second, .val (.long (((((p0 + (4194304 : Int64)) &&& (-2048 : Int64)) ||| (p1 + (1024 : Int64))) &&& (-4192257 : Int64)) ||| (((p1 + (1024 : Int64)) <<< (((11 : Int32)) &&& 0x3f).toInt64)))), .second]) rfl ?_
        show Steps p.tables e below (s₁.setTop (mkF m 66 #[.val (.long p0), .second, .val (.long p1), .second, .val (.long (p1 + (1024 : Int64))), .second, .val (.long (((((p0 + (4194304 : Int64)) &&& (-2048 : Int64)) ||| (p1 + (1024 : Int64))) &&& (-4192257 : Int64)) ||| (((p1 + (1024 : Int64)) <<< (((11 : Int32)) &&& 0x3f).toInt64)))), .second] [])) _
        refine XT.lload X0.here hx rfl (hb hby d3_66) rfl ?_
        show Steps p.tables e below (s₁.setTop (mkF m 68 #[.val (.long p0), .second, .val (.long p1), .second, .val (.long (p1 + (1024 : Int64))), .second, .val (.long (((((p0 + (4194304 : Int64)) &&& (-2048 : Int64)) ||| (p1 + (1024 : Int64))) &&& (-4192257 : Int64)) ||| (((p1 + (1024 : Int64)) <<< (((11 : Int32)) &&& 0x3f).toInt64)))), .second] [(.long (((((p0 + (4194304 : Int64)) &&& (-2048 : Int64)) ||| (p1 + (1024 : Int64))) &&& (-4192257 : Int64)) ||| (((p1 + (1024 : Int64)) <<< (((11 : Int32)) &&& 0x3f).toInt64))))])) _
        exact k
      obtain ⟨fs, hr, hrun, hended, hW, hsame⟩ := X0.leave (hlocks := hlk) (v := some (.long (((((p0 + (4194304 : Int64)) &&& (-2048 : Int64)) ||| (p1 + (1024 : Int64))) &&& (-4192257 : Int64)) ||| (((p1 + (1024 : Int64)) <<< (((11 : Int32)) &&& 0x3f).toInt64))))) (fun h => by rw [Bd.returns] at h; cases h)
      refine ⟨_, _, pre5 _ (retJ X0 hx Bd.returns (hb hby d3_68) hr), hrun, hended, _, _, rfl, ?_, ⟨_, rfl⟩, hW, hsame.mono (by decide) (by decide)⟩
      show Q3 Z p0 p1 h0 n0 _ s₁.heap _
      rw [e0]
      exact ⟨congrArg some (congrArg Value.long (show (((((p0 + (4194304 : Int64)) &&& (-2048 : Int64)) ||| (p1 + (1024 : Int64))) &&& (-4192257 : Int64)) ||| (((p1 + (1024 : Int64)) <<< (((11 : Int32)) &&& 0x3f).toInt64))) = f3 p0 p1 from by rw [f3, if_pos hc23_2, if_pos hc49_4])), N0, rfl⟩
    · skip
      have pre6 : Go p e below (s₁.setTop (entryFrame m #[(.long p0), (.long p1)] 8)) (s₁.setTop (mkF m 68 #[.val (.long p0), .second, .val (.long p1), .second, .val (.long (p1 + (1024 : Int64))), .second, .val (.long (((p0 + (4194304 : Int64)) &&& (-2048 : Int64)) ||| (p1 + (1024 : Int64)))), .second] [(.long (((p0 + (4194304 : Int64)) &&& (-2048 : Int64)) ||| (p1 + (1024 : Int64))))])) := by
        intro t k
        refine pre3 t ?_
        show Steps p.tables e below (s₁.setTop (mkF m 49 #[.val (.long p0), .second, .val (.long p1), .second, .val (.long (p1 + (1024 : Int64))), .second, .val (.long (((p0 + (4194304 : Int64)) &&& (-2048 : Int64)) ||| (p1 + (1024 : Int64)))), .second] [(.int (XT.cmpL (p1 + (1024 : Int64)) (((((((p0 + (4194304 : Int64)) &&& (-2048 : Int64)) ||| (p1 + (1024 : Int64)))).toUInt64 >>> (((11 : Int32)) &&& 0x3f).toInt64.toUInt64).toInt64) &&& (2047 : Int64))))])) _
        refine XS.ifYes X0.here hx rfl (pc0 := 49) (pc' := 66) rfl (hb hby d3_49) rfl (XT.ll_le_t hc49_4) (by decide) (by decide) ?_
        show Steps p.tables e below (s₁.setTop (mkF m 66 #[.val (.long p0), .second, .val (.long p1), .second, .val (.long (p1 + (1024 : Int64))), .second, .val (.long (((p0 + (4194304 : Int64)) &&& (-2048 : Int64)) ||| (p1 + (1024 : Int64)))), .second] [])) _
        refine XT.lload X0.here hx rfl (hb hby d3_66) rfl ?_
        show Steps p.tables e below (s₁.setTop (mkF m 68 #[.val (.long p0), .second, .val (.long p1), .second, .val (.long (p1 + (1024 : Int64))), .second, .val (.long (((p0 + (4194304 : Int64)) &&& (-2048 : Int64)) ||| (p1 + (1024 : Int64)))), .second] [(.long (((p0 + (4194304 : Int64)) &&& (-2048 : Int64)) ||| (p1 + (1024 : Int64))))])) _
        exact k
      obtain ⟨fs, hr, hrun, hended, hW, hsame⟩ := X0.leave (hlocks := hlk) (v := some (.long (((p0 + (4194304 : Int64)) &&& (-2048 : Int64)) ||| (p1 + (1024 : Int64))))) (fun h => by rw [Bd.returns] at h; cases h)
      refine ⟨_, _, pre6 _ (retJ X0 hx Bd.returns (hb hby d3_68) hr), hrun, hended, _, _, rfl, ?_, ⟨_, rfl⟩, hW, hsame.mono (by decide) (by decide)⟩
      show Q3 Z p0 p1 h0 n0 _ s₁.heap _
      rw [e0]
      exact ⟨congrArg some (congrArg Value.long (show (((p0 + (4194304 : Int64)) &&& (-2048 : Int64)) ||| (p1 + (1024 : Int64))) = f3 p0 p1 from by rw [f3, if_pos hc23_2, if_neg hc49_4])), N0, rfl⟩
  · skip
    have pre7 : Go p e below (s₁.setTop (entryFrame m #[(.long p0), (.long p1)] 8)) (s₁.setTop (mkF m 49 #[.val (.long p0), .second, .val (.long p1), .second, .val (.long (p1 + (1024 : Int64))), .second, .val (.long (p0 + (4194304 : Int64))), .second] [(.int (XT.cmpL (p1 + (1024 : Int64)) (((((p0 + (4194304 : Int64))).toUInt64 >>> (((11 : Int32)) &&& 0x3f).toInt64.toUInt64).toInt64) &&& (2047 : Int64))))])) := by
      intro t k
      refine pre1 t ?_
      show Steps p.tables e below (s₁.setTop (mkF m 23 #[.val (.long p0), .second, .val (.long p1), .second, .val (.long (p1 + (1024 : Int64))), .second, .val (.long (p0 + (4194304 : Int64))), .second] [(.int (XT.cmpL (p1 + (1024 : Int64)) ((p0 + (4194304 : Int64)) &&& (2047 : Int64))))])) _
      refine XS.ifYes X0.here hx rfl (pc0 := 23) (pc' := 37) rfl (hb hby d3_23) rfl (XT.ll_ge_t hc23_2) (by decide) (by decide) ?_
      show Steps p.tables e below (s₁.setTop (mkF m 37 #[.val (.long p0), .second, .val (.long p1), .second, .val (.long (p1 + (1024 : Int64))), .second, .val (.long (p0 + (4194304 : Int64))), .second] [])) _
      refine XT.lload X0.here hx rfl (hb hby d3_37) rfl ?_
      show Steps p.tables e below (s₁.setTop (mkF m 39 #[.val (.long p0), .second, .val (.long p1), .second, .val (.long (p1 + (1024 : Int64))), .second, .val (.long (p0 + (4194304 : Int64))), .second] [(.long (p1 + (1024 : Int64)))])) _
      refine XT.lload X0.here hx rfl (hb hby d3_39) rfl ?_
      show Steps p.tables e below (s₁.setTop (mkF m 41 #[.val (.long p0), .second, .val (.long p1), .second, .val (.long (p1 + (1024 : Int64))), .second, .val (.long (p0 + (4194304 : Int64))), .second] [(.long (p0 + (4194304 : Int64))), (.long (p1 + (1024 : Int64)))])) _
      refine XS.bipush X0.here hx rfl (hb hby d3_41) ?_
      show Steps p.tables e below (s₁.setTop (mkF m 43 #[.val (.long p0), .second, .val (.long p1), .second, .val (.long (p1 + (1024 : Int64))), .second, .val (.long (p0 + (4194304 : Int64))), .second] [(.int (11 : Int32)), (.long (p0 + (4194304 : Int64))), (.long (p1 + (1024 : Int64)))])) _
      refine XS.lushr X0.here hx rfl (hb hby d3_43) rfl ?_
      show Steps p.tables e below (s₁.setTop (mkF m 44 #[.val (.long p0), .second, .val (.long p1), .second, .val (.long (p1 + (1024 : Int64))), .second, .val (.long (p0 + (4194304 : Int64))), .second] [(.long ((((p0 + (4194304 : Int64))).toUInt64 >>> (((11 : Int32)) &&& 0x3f).toInt64.toUInt64).toInt64)), (.long (p1 + (1024 : Int64)))])) _
      refine X0.ldc2J hx hown (mvT hZ (hw _ (List.mem_of_getElem? (i := 17) rfl))) (g := (mkF m 44 #[.val (.long p0), .second, .val (.long p1), .second, .val (.long (p1 + (1024 : Int64))), .second, .val (.long (p0 + (4194304 : Int64))), .second] [(.long ((((p0 + (4194304 : Int64))).toUInt64 >>> (((11 : Int32)) &&& 0x3f).toInt64.toUInt64).toInt64)), (.long (p1 + (1024 : Int64)))])) rfl (hb hby d3_44) ?_
      show Steps p.tables e below (s₁.setTop (mkF m 47 #[.val (.long p0), .second, .val (.long p1), .second, .val (.long (p1 + (1024 : Int64))), .second, .val (.long (p0 + (4194304 : Int64))), .second] [(.long (2047 : Int64)), (.long ((((p0 + (4194304 : Int64))).toUInt64 >>> (((11 : Int32)) &&& 0x3f).toInt64.toUInt64).toInt64)), (.long (p1 + (1024 : Int64)))])) _
      refine XS.land X0.here hx rfl (hb hby d3_47) rfl ?_
      show Steps p.tables e below (s₁.setTop (mkF m 48 #[.val (.long p0), .second, .val (.long p1), .second, .val (.long (p1 + (1024 : Int64))), .second, .val (.long (p0 + (4194304 : Int64))), .second] [(.long (((((p0 + (4194304 : Int64))).toUInt64 >>> (((11 : Int32)) &&& 0x3f).toInt64.toUInt64).toInt64) &&& (2047 : Int64))), (.long (p1 + (1024 : Int64)))])) _
      refine XT.lcmp X0.here hx rfl (hb hby d3_48) rfl ?_
      show Steps p.tables e below (s₁.setTop (mkF m 49 #[.val (.long p0), .second, .val (.long p1), .second, .val (.long (p1 + (1024 : Int64))), .second, .val (.long (p0 + (4194304 : Int64))), .second] [(.int (XT.cmpL (p1 + (1024 : Int64)) (((((p0 + (4194304 : Int64))).toUInt64 >>> (((11 : Int32)) &&& 0x3f).toInt64.toUInt64).toInt64) &&& (2047 : Int64))))])) _
      exact k
    by_cases hc49_8 : (((((p0 + (4194304 : Int64))).toUInt64 >>> (((11 : Int32)) &&& 0x3f).toInt64.toUInt64).toInt64) &&& (2047 : Int64)) < (p1 + (1024 : Int64))
    · skip
      have pre9 : Go p e below (s₁.setTop (entryFrame m #[(.long p0), (.long p1)] 8)) (s₁.setTop (mkF m 68 #[.val (.long p0), .second, .val (.long p1), .second, .val (.long (p1 + (1024 : Int64))), .second, .val (.long (((p0 + (4194304 : Int64)) &&& (-4192257 : Int64)) ||| (((p1 + (1024 : Int64)) <<< (((11 : Int32)) &&& 0x3f).toInt64)))), .second] [(.long (((p0 + (4194304 : Int64)) &&& (-4192257 : Int64)) ||| (((p1 + (1024 : Int64)) <<< (((11 : Int32)) &&& 0x3f).toInt64))))])) := by
        intro t k
        refine pre7 t ?_
        show Steps p.tables e below (s₁.setTop (mkF m 49 #[.val (.long p0), .second, .val (.long p1), .second, .val (.long (p1 + (1024 : Int64))), .second, .val (.long (p0 + (4194304 : Int64))), .second] [(.int (XT.cmpL (p1 + (1024 : Int64)) (((((p0 + (4194304 : Int64))).toUInt64 >>> (((11 : Int32)) &&& 0x3f).toInt64.toUInt64).toInt64) &&& (2047 : Int64))))])) _
        refine XS.ifNo X0.here hx rfl (hb hby d3_49) rfl (XT.ll_le_f hc49_8) ?_
        show Steps p.tables e below (s₁.setTop (mkF m 52 #[.val (.long p0), .second, .val (.long p1), .second, .val (.long (p1 + (1024 : Int64))), .second, .val (.long (p0 + (4194304 : Int64))), .second] [])) _
        refine XT.lload X0.here hx rfl (hb hby d3_52) rfl ?_
        show Steps p.tables e below (s₁.setTop (mkF m 54 #[.val (.long p0), .second, .val (.long p1), .second, .val (.long (p1 + (1024 : Int64))), .second, .val (.long (p0 + (4194304 : Int64))), .second] [(.long (p0 + (4194304 : Int64)))])) _
        refine X0.ldc2J hx hown (mvT hZ (hw _ (List.mem_of_getElem? (i := 18) rfl))) (g := (mkF m 54 #[.val (.long p0), .second, .val (.long p1), .second, .val (.long (p1 + (1024 : Int64))), .second, .val (.long (p0 + (4194304 : Int64))), .second] [(.long (p0 + (4194304 : Int64)))])) rfl (hb hby d3_54) ?_
        show Steps p.tables e below (s₁.setTop (mkF m 57 #[.val (.long p0), .second, .val (.long p1), .second, .val (.long (p1 + (1024 : Int64))), .second, .val (.long (p0 + (4194304 : Int64))), .second] [(.long (-4192257 : Int64)), (.long (p0 + (4194304 : Int64)))])) _
        refine XS.land X0.here hx rfl (hb hby d3_57) rfl ?_
        show Steps p.tables e below (s₁.setTop (mkF m 58 #[.val (.long p0), .second, .val (.long p1), .second, .val (.long (p1 + (1024 : Int64))), .second, .val (.long (p0 + (4194304 : Int64))), .second] [(.long ((p0 + (4194304 : Int64)) &&& (-4192257 : Int64)))])) _
        refine XT.lload X0.here hx rfl (hb hby d3_58) rfl ?_
        show Steps p.tables e below (s₁.setTop (mkF m 60 #[.val (.long p0), .second, .val (.long p1), .second, .val (.long (p1 + (1024 : Int64))), .second, .val (.long (p0 + (4194304 : Int64))), .second] [(.long (p1 + (1024 : Int64))), (.long ((p0 + (4194304 : Int64)) &&& (-4192257 : Int64)))])) _
        refine XS.bipush X0.here hx rfl (hb hby d3_60) ?_
        show Steps p.tables e below (s₁.setTop (mkF m 62 #[.val (.long p0), .second, .val (.long p1), .second, .val (.long (p1 + (1024 : Int64))), .second, .val (.long (p0 + (4194304 : Int64))), .second] [(.int (11 : Int32)), (.long (p1 + (1024 : Int64))), (.long ((p0 + (4194304 : Int64)) &&& (-4192257 : Int64)))])) _
        refine XS.lshl X0.here hx rfl (hb hby d3_62) rfl ?_
        show Steps p.tables e below (s₁.setTop (mkF m 63 #[.val (.long p0), .second, .val (.long p1), .second, .val (.long (p1 + (1024 : Int64))), .second, .val (.long (p0 + (4194304 : Int64))), .second] [(.long (((p1 + (1024 : Int64)) <<< (((11 : Int32)) &&& 0x3f).toInt64))), (.long ((p0 + (4194304 : Int64)) &&& (-4192257 : Int64)))])) _
        refine XS.lor X0.here hx rfl (hb hby d3_63) rfl ?_
        show Steps p.tables e below (s₁.setTop (mkF m 64 #[.val (.long p0), .second, .val (.long p1), .second, .val (.long (p1 + (1024 : Int64))), .second, .val (.long (p0 + (4194304 : Int64))), .second] [(.long (((p0 + (4194304 : Int64)) &&& (-4192257 : Int64)) ||| (((p1 + (1024 : Int64)) <<< (((11 : Int32)) &&& 0x3f).toInt64))))])) _
        refine XT.lstore X0.here hx rfl (hb hby d3_64) rfl (l' := #[.val (.long p0), .second, .val (.long p1), .second, .val (.long (p1 + (1024 : Int64))), .second, .val (.long (((p0 + (4194304 : Int64)) &&& (-4192257 : Int64)) ||| (((p1 + (1024 : Int64)) <<< (((11 : Int32)) &&& 0x3f).toInt64)))), .second]) rfl ?_
        show Steps p.tables e below (s₁.setTop (mkF m 66 #[.val (.long p0), .second, .val (.long p1), .second, .val (.long (p1 + (1024 : Int64))), .second, .val (.long (((p0 + (4194304 : Int64)) &&& (-4192257 : Int64)) ||| (((p1 + (1024 : Int64)) <<< (((11 : Int32)) &&& 0x3f).toInt64)))), .second] [])) _
        refine XT.lload X0.here hx rfl (hb hby d3_66) rfl ?_
        show Steps p.tables e below (s₁.setTop (mkF m 68 #[.val (.long p0), .second, .val (.long p1), .second, .val (.long (p1 + (1024 : Int64))), .second, .val (.long (((p0 + (4194304 : Int64)) &&& (-4192257 : Int64)) ||| (((p1 + (1024 : Int64)) <<< (((11 : Int32)) &&& 0x3f).toInt64)))), .second] [(.long (((p0 + (4194304 : Int64)) &&& (-4192257 : Int64)) ||| (((p1 + (1024 : Int64)) <<< (((11 : Int32)) &&& 0x3f).toInt64))))])) _
        exact k
      obtain ⟨fs, hr, hrun, hended, hW, hsame⟩ := X0.leave (hlocks := hlk) (v := some (.long (((p0 + (4194304 : Int64)) &&& (-4192257 : Int64)) ||| (((p1 + (1024 : Int64)) <<< (((11 : Int32)) &&& 0x3f).toInt64))))) (fun h => by rw [Bd.returns] at h; cases h)
      refine ⟨_, _, pre9 _ (retJ X0 hx Bd.returns (hb hby d3_68) hr), hrun, hended, _, _, rfl, ?_, ⟨_, rfl⟩, hW, hsame.mono (by decide) (by decide)⟩
      show Q3 Z p0 p1 h0 n0 _ s₁.heap _
      rw [e0]
      exact ⟨congrArg some (congrArg Value.long (show (((p0 + (4194304 : Int64)) &&& (-4192257 : Int64)) ||| (((p1 + (1024 : Int64)) <<< (((11 : Int32)) &&& 0x3f).toInt64))) = f3 p0 p1 from by rw [f3, if_neg hc23_2, if_pos hc49_8])), N0, rfl⟩
    · skip
      have pre10 : Go p e below (s₁.setTop (entryFrame m #[(.long p0), (.long p1)] 8)) (s₁.setTop (mkF m 68 #[.val (.long p0), .second, .val (.long p1), .second, .val (.long (p1 + (1024 : Int64))), .second, .val (.long (p0 + (4194304 : Int64))), .second] [(.long (p0 + (4194304 : Int64)))])) := by
        intro t k
        refine pre7 t ?_
        show Steps p.tables e below (s₁.setTop (mkF m 49 #[.val (.long p0), .second, .val (.long p1), .second, .val (.long (p1 + (1024 : Int64))), .second, .val (.long (p0 + (4194304 : Int64))), .second] [(.int (XT.cmpL (p1 + (1024 : Int64)) (((((p0 + (4194304 : Int64))).toUInt64 >>> (((11 : Int32)) &&& 0x3f).toInt64.toUInt64).toInt64) &&& (2047 : Int64))))])) _
        refine XS.ifYes X0.here hx rfl (pc0 := 49) (pc' := 66) rfl (hb hby d3_49) rfl (XT.ll_le_t hc49_8) (by decide) (by decide) ?_
        show Steps p.tables e below (s₁.setTop (mkF m 66 #[.val (.long p0), .second, .val (.long p1), .second, .val (.long (p1 + (1024 : Int64))), .second, .val (.long (p0 + (4194304 : Int64))), .second] [])) _
        refine XT.lload X0.here hx rfl (hb hby d3_66) rfl ?_
        show Steps p.tables e below (s₁.setTop (mkF m 68 #[.val (.long p0), .second, .val (.long p1), .second, .val (.long (p1 + (1024 : Int64))), .second, .val (.long (p0 + (4194304 : Int64))), .second] [(.long (p0 + (4194304 : Int64)))])) _
        exact k
      obtain ⟨fs, hr, hrun, hended, hW, hsame⟩ := X0.leave (hlocks := hlk) (v := some (.long (p0 + (4194304 : Int64)))) (fun h => by rw [Bd.returns] at h; cases h)
      refine ⟨_, _, pre10 _ (retJ X0 hx Bd.returns (hb hby d3_68) hr), hrun, hended, _, _, rfl, ?_, ⟨_, rfl⟩, hW, hsame.mono (by decide) (by decide)⟩
      show Q3 Z p0 p1 h0 n0 _ s₁.heap _
      rw [e0]
      exact ⟨congrArg some (congrArg Value.long (show (p0 + (4194304 : Int64)) = f3 p0 p1 from by rw [f3, if_neg hc23_2, if_neg hc49_8])), N0, rfl⟩
theorem own_inj {x y : Int64} (h : x.toBitVec.toNat = y.toBitVec.toNat) : x = y := Int64.toBitVec_inj.mp (BitVec.eq_of_toNat_eq h)
theorem own_uint {x : Int64} (h : 0 ≤ x.toInt) : (x.toBitVec.toNat : Int) = x.toInt := by
  have e : x.toInt = x.toBitVec.toInt := rfl
  rw [e, BitVec.toInt_eq_toNat_cond] at h ⊢
  have := x.toBitVec.isLt
  split at h <;> split <;> omega
theorem own_iu {x : Int64} (h : x.toBitVec.toNat < 2 ^ 63) : x.toInt = (x.toBitVec.toNat : Int) := by
  have e : x.toInt = x.toBitVec.toInt := rfl
  rw [e, BitVec.toInt_eq_toNat_cond, if_pos (by omega)]
theorem own_or (x y : Int64) : (x ||| y).toBitVec.toNat = x.toBitVec.toNat ||| y.toBitVec.toNat := by
  rw [Int64.toBitVec_or, BitVec.toNat_or]
theorem own_and (x y : Int64) : (x &&& y).toBitVec.toNat = x.toBitVec.toNat &&& y.toBitVec.toNat := by
  rw [Int64.toBitVec_and, BitVec.toNat_and]
theorem own_add (x y : Int64) : (x + y).toBitVec.toNat = (x.toBitVec.toNat + y.toBitVec.toNat) % 2 ^ 64 := by
  rw [Int64.toBitVec_add, BitVec.toNat_add]
theorem own_shl (x n : Int64) {k : Nat} (hn : (n.toBitVec.smod 64).toNat = k) : (x <<< n).toBitVec.toNat = x.toBitVec.toNat * 2 ^ k % 2 ^ 64 := by
  rw [Int64.toBitVec_shiftLeft, BitVec.shiftLeft_eq', BitVec.toNat_shiftLeft, hn, Nat.shiftLeft_eq]
theorem own_shr (x : Int64) : ((x.toUInt64 >>> (((11 : Int32)) &&& 0x3f).toInt64.toUInt64).toInt64).toBitVec.toNat = x.toBitVec.toNat / 2 ^ 11 := by
  have e : ((x.toUInt64 >>> (((11 : Int32)) &&& 0x3f).toInt64.toUInt64).toInt64).toBitVec.toNat = (x.toUInt64 >>> (11 : UInt64)).toNat := rfl
  rw [e, UInt64.toNat_shiftRight, Nat.shiftRight_eq_div_pow]; rfl
/-- three fields: C above, X in the middle, N below -/
def own_pk (c x n : Nat) : Nat := c * 2 ^ 22 + x * 2 ^ 11 + n
theorem own_split {a b : Nat} (h1 : a % 2 ^ 11 = b % 2 ^ 11) (h2 : a / 2 ^ 11 = b / 2 ^ 11) : a = b := by omega
theorem own_pack {c x n : Nat} (hx : x < 2 ^ 11) (hn : n < 2 ^ 11) : (c * 2 ^ 22 ||| x * 2 ^ 11) ||| n = own_pk c x n := by
  unfold own_pk
  have h1 : c * 2 ^ 22 ||| x * 2 ^ 11 = c * 2 ^ 22 + x * 2 ^ 11 := by
    have := Nat.shiftLeft_add_eq_or_of_lt (b := x * 2 ^ 11) (i := 22) (by omega) c
    rw [Nat.shiftLeft_eq] at this; exact this.symm
  rw [h1]
  have := Nat.shiftLeft_add_eq_or_of_lt (b := n) (i := 11) (by omega) (c * 2 ^ 11 + x)
  rw [Nat.shiftLeft_eq] at this
  have e : (c * 2 ^ 11 + x) * 2 ^ 11 = c * 2 ^ 22 + x * 2 ^ 11 := by rw [Nat.add_mul, Nat.mul_assoc, ← Nat.pow_add]
  rw [e] at this; exact this.symm
theorem own_lowmask (w : Nat) : w &&& 2047 = w % 2 ^ 11 := Nat.and_two_pow_sub_one_eq_mod w 11
/-- the lowest field written anew -/
theorem own_setlow {w b : Nat} (hw : w < 2 ^ 64) (hb : b < 2 ^ 11) : (w &&& 18446744073709549568) ||| b = w / 2 ^ 11 * 2 ^ 11 + b := by
  apply own_split
  · rw [Nat.or_mod_two_pow, Nat.and_mod_two_pow, show 18446744073709549568 % 2 ^ 11 = 0 from by decide, Nat.and_zero, Nat.zero_or]; omega
  · rw [Nat.or_div_two_pow, Nat.and_div_two_pow, show 18446744073709549568 / 2 ^ 11 = 2 ^ 53 - 1 from by decide, Nat.and_two_pow_sub_one_eq_mod, show b / 2 ^ 11 = 0 from by omega, Nat.or_zero]; omega
/-- the middle field written anew -/
theorem own_setmid {w b : Nat} (hw : w < 2 ^ 64) (hb : b < 2 ^ 11) : (w &&& 18446744073705359359) ||| b * 2 ^ 11 = w / 2 ^ 22 * 2 ^ 22 + b * 2 ^ 11 + w % 2 ^ 11 := by
  apply own_split
  · rw [Nat.or_mod_two_pow, Nat.and_mod_two_pow, show 18446744073705359359 % 2 ^ 11 = 2 ^ 11 - 1 from by decide, Nat.and_two_pow_sub_one_eq_mod, show b * 2 ^ 11 % 2 ^ 11 = 0 from by omega, Nat.or_zero]; omega
  · rw [Nat.or_div_two_pow, Nat.and_div_two_pow, show 18446744073705359359 / 2 ^ 11 = 9007199254738944 + 0 from by decide, show b * 2 ^ 11 / 2 ^ 11 = b from by omega]
    have e : (w / 2 ^ 22 * 2 ^ 22 + b * 2 ^ 11 + w % 2 ^ 11) / 2 ^ 11 = w / 2 ^ 22 * 2 ^ 11 + b := by omega
    rw [e]
    apply own_split
    · rw [Nat.or_mod_two_pow, Nat.and_mod_two_pow, show (9007199254738944 + 0) % 2 ^ 11 = 0 from by decide, Nat.and_zero, Nat.zero_or]; omega
    · rw [Nat.or_div_two_pow, Nat.and_div_two_pow, show (9007199254738944 + 0) / 2 ^ 11 = 2 ^ 42 - 1 from by decide, Nat.and_two_pow_sub_one_eq_mod, show b / 2 ^ 11 = 0 from by omega, Nat.or_zero]; omega
theorem own_word {c a i : Int64} {C X N : Nat} (hc : c.toBitVec.toNat = C) (ha : a.toBitVec.toNat = X) (hi : i.toBitVec.toNat = N) (h1 : C < 2 ^ 42) (h2 : X < 2 ^ 11) (h3 : N < 2 ^ 11) :
    (((c <<< (((22 : Int32)) &&& 0x3f).toInt64) ||| (a <<< (((11 : Int32)) &&& 0x3f).toInt64)) ||| i).toBitVec.toNat = own_pk C X N := by
  rw [own_or, own_or, own_shl c _ (k := 22) (by decide), own_shl a _ (k := 11) (by decide), hc, ha, hi, Nat.mod_eq_of_lt (by omega), Nat.mod_eq_of_lt (by omega)]
  exact own_pack h2 h3
theorem own_small {x : Int32} {y : Int64} (h : y = (x &&& (2047 : Int32)).toInt64) : 0 ≤ y.toInt ∧ y.toInt < 2 ^ 11 := by
  have e := Jvm.Kit.i32_mask x 2047 (k := 11) (by decide) (by decide)
  rw [h, Int32.toInt_toInt64, e]; omega
theorem own_law {x0 cs cc mi ma te wo bi nmi nma ex got : Int64} {x1 x2 x3 : Int32} (h_cs : cs = (x0 &&& (4398046511103 : Int64))) (h_cc : cc = (if (4398046511102 : Int64) < cs then (4398046511102 : Int64) else cs))
    (h_mi : mi = (((x1 &&& (2047 : Int32))).toInt64)) (h_ma : ma = (((x2 &&& (2047 : Int32))).toInt64)) (h_te : te = (((((x3 &&& (2147483647 : Int32)) % (1999 : Int32)) - (999 : Int32))).toInt64))
    (h_wo : wo = ((((cc <<< (((22 : Int32)) &&& 0x3f).toInt64)) ||| ((ma <<< (((11 : Int32)) &&& 0x3f).toInt64))) ||| mi)) (h_bi : bi = (te + (1024 : Int64))) (h_nmi : nmi = (f1 mi bi)) (h_nma : nma = (f2 ma bi))
    (h_ex : ex = (((((cc + (1 : Int64)) <<< (((22 : Int32)) &&& 0x3f).toInt64)) ||| ((nma <<< (((11 : Int32)) &&& 0x3f).toInt64))) ||| nmi)) (h_got : got = (f3 wo te)) : got = ex := by
  have hmi := own_small h_mi
  have hma := own_small h_ma
  have hte : -999 ≤ te.toInt ∧ te.toInt ≤ 999 := by
    have h := own_rem x3 1999 (by decide)
    have c1 : (1999 : Int32).toInt = 1999 := rfl
    have c2 : (999 : Int32).toInt = 999 := rfl
    rw [h_te, Int32.toInt_toInt64, Jvm.Kit.i32_sub (by omega) (by omega)]; omega
  have hbi : bi.toInt = te.toInt + 1024 := by
    have c1 : (1024 : Int64).toInt = 1024 := rfl
    rw [h_bi, Jvm.Kit.i64_add (by omega) (by omega), c1]
  have hcs : 0 ≤ cs.toInt ∧ cs.toInt < 2 ^ 42 := by
    have e := Jvm.Kit.i64_mask x0 4398046511103 (k := 42) (by decide) (by decide)
    rw [h_cs, e]; omega
  have hcc : 0 ≤ cc.toInt ∧ cc.toInt ≤ 4398046511102 := by
    have c1 : (4398046511102 : Int64).toInt = 4398046511102 := rfl
    rw [h_cc]; split
    · omega
    · rename_i q; rw [Int64.lt_iff_toInt_lt] at q; omega
  -- as naturals
  obtain ⟨C, hC⟩ : ∃ C, C = cc.toBitVec.toNat := ⟨_, rfl⟩
  obtain ⟨N, hN⟩ : ∃ C, C = mi.toBitVec.toNat := ⟨_, rfl⟩
  obtain ⟨X, hX⟩ : ∃ C, C = ma.toBitVec.toNat := ⟨_, rfl⟩
  obtain ⟨B, hB⟩ : ∃ C, C = bi.toBitVec.toNat := ⟨_, rfl⟩
  have uC := own_uint hcc.1; have uN := own_uint hmi.1; have uX := own_uint hma.1; have uB := own_uint (x := bi) (by omega)
  rw [← hC] at uC; rw [← hN] at uN; rw [← hX] at uX; rw [← hB] at uB
  have hW : wo.toBitVec.toNat = own_pk C X N := by rw [h_wo]; exact own_word hC.symm hX.symm hN.symm (by omega) (by omega) (by omega)
  obtain ⟨w, hw⟩ : ∃ w : Int64, w = wo + (4194304 : Int64) := ⟨_, rfl⟩
  have hW1 : w.toBitVec.toNat = own_pk (C + 1) X N := by
    rw [hw, own_add, hW, show (4194304 : Int64).toBitVec.toNat = 4194304 from rfl]; unfold own_pk; omega
  have hC1 : (cc + (1 : Int64)).toBitVec.toNat = C + 1 := by rw [own_add, ← hC, show (1 : Int64).toBitVec.toNat = 1 from rfl]; omega
  have low : (w &&& (2047 : Int64)).toBitVec.toNat = N := by
    rw [own_and, hW1, show (2047 : Int64).toBitVec.toNat = 2047 from rfl, own_lowmask]; unfold own_pk; omega
  have lowI : (w &&& (2047 : Int64)).toInt = N := by rw [own_iu (by omega), low]
  have midI : ∀ v : Int64, v.toBitVec.toNat / 2 ^ 11 % 2 ^ 11 = X → (((v.toUInt64 >>> (((11 : Int32)) &&& 0x3f).toInt64.toUInt64).toInt64) &&& (2047 : Int64)).toInt = X := fun v h => by
    have e : (((v.toUInt64 >>> (((11 : Int32)) &&& 0x3f).toInt64.toUInt64).toInt64) &&& (2047 : Int64)).toBitVec.toNat = X := by rw [own_and, own_shr, show (2047 : Int64).toBitVec.toNat = 2047 from rfl, own_lowmask, h]
    rw [own_iu (by omega), e]
  have hex : ex.toBitVec.toNat = own_pk (C + 1) (if X < B then B else X) (if B < N then B else N) := by
    have e1 : nmi.toBitVec.toNat = if B < N then B else N := by
      rw [h_nmi]; unfold f1
      by_cases q : bi < mi
      · rw [if_pos q, ← hB, if_pos (by rw [Int64.lt_iff_toInt_lt] at q; omega)]
      · rw [if_neg q, ← hN, if_neg (by rw [Int64.lt_iff_toInt_lt] at q; omega)]
    have e2 : nma.toBitVec.toNat = if X < B then B else X := by
      rw [h_nma]; unfold f2
      by_cases q : ma < bi
      · rw [if_pos q, ← hB, if_pos (by rw [Int64.lt_iff_toInt_lt] at q; omega)]
      · rw [if_neg q, ← hX, if_neg (by rw [Int64.lt_iff_toInt_lt] at q; omega)]
    rw [h_ex]; exact own_word hC1 e2 e1 (by omega) (by split <;> omega) (by split <;> omega)
  apply own_inj
  rw [hex, h_got]; unfold f3
  rw [← hw, ← h_bi]
  have setlow : ((w &&& (-2048 : Int64)) ||| bi).toBitVec.toNat = own_pk (C + 1) X B := by
    rw [own_or, own_and, ← hB, show (-2048 : Int64).toBitVec.toNat = 18446744073709549568 from rfl, own_setlow w.toBitVec.isLt (by omega), hW1]; unfold own_pk; omega
  have setmid : ∀ (v : Int64) (M : Nat), M < 2 ^ 11 → v.toBitVec.toNat = own_pk (C + 1) X M → ((v &&& (-4192257 : Int64)) ||| (bi <<< (((11 : Int32)) &&& 0x3f).toInt64)).toBitVec.toNat = own_pk (C + 1) B M := fun v M hM h => by
    rw [own_or, own_and, own_shl bi _ (k := 11) (by decide), ← hB, show (-4192257 : Int64).toBitVec.toNat = 18446744073705359359 from rfl, Nat.mod_eq_of_lt (by omega), own_setmid v.toBitVec.isLt (by omega), h]; unfold own_pk; omega
  by_cases q1 : bi < (w &&& (2047 : Int64))
  · have q1' : B < N := by rw [Int64.lt_iff_toInt_lt, lowI] at q1; omega
    rw [if_pos q1, if_pos q1']
    have m := midI ((w &&& (-2048 : Int64)) ||| bi) (by rw [setlow]; unfold own_pk; omega)
    by_cases q2 : (((((w &&& (-2048 : Int64)) ||| bi).toUInt64 >>> (((11 : Int32)) &&& 0x3f).toInt64.toUInt64).toInt64) &&& (2047 : Int64)) < bi
    · have q2' : X < B := by rw [Int64.lt_iff_toInt_lt, m] at q2; omega
      rw [if_pos q2, if_pos q2']; exact setmid _ _ (by omega) setlow
    · have q2' : ¬ X < B := by rw [Int64.lt_iff_toInt_lt, m] at q2; omega
      rw [if_neg q2, if_neg q2']; exact setlow
  · have q1' : ¬ B < N := by rw [Int64.lt_iff_toInt_lt, lowI] at q1; omega
    rw [if_neg q1, if_neg q1']
    have m := midI w (by rw [hW1]; unfold own_pk; omega)
    by_cases q2 : (((w.toUInt64 >>> (((11 : Int32)) &&& 0x3f).toInt64.toUInt64).toInt64) &&& (2047 : Int64)) < bi
    · have q2' : X < B := by rw [Int64.lt_iff_toInt_lt, m] at q2; omega
      rw [if_pos q2, if_pos q2']; exact setmid _ _ (by omega) hW1
    · have q2' : ¬ X < B := by rw [Int64.lt_iff_toInt_lt, m] at q2; omega
      rw [if_neg q2, if_neg q2']; exact hW1
theorem ef_0 (m : MethodId) (x0 : Int64) (x1 : Int32) (x2 : Int32) (x3 : Int32) : entryFrame m #[(.long x0), (.int x1), (.int x2), (.int x3)] maxLocals = mkF m 0 #[.val (.long x0), .second, .val (.int x1), .val (.int x2), .val (.int x3), .unset, .unset, .unset, .unset, .unset, .unset, .unset, .unset, .unset, .unset, .unset, .unset, .unset, .unset, .unset, .unset, .unset, .unset, .unset, .unset, .unset, .unset] [] := by first | (simp [entryFrame, mkF, argsToLocals, Value.category, maxLocals]; done) | rfl
theorem pd_3 : parseMethodDescriptor "(JJ)J" = some ⟨[.long, .long], some .long⟩ := by decide +kernel
def Q0 (Z : State) (x0 : Int64) (x1 : Int32) (x2 : Int32) (x3 : Int32) (h0 : Heap) (n0 : Nat) (v : Option Value) (h : Heap) (L : List Loc) : Prop := v = some (.int 1) ∧ Fr n0 L
theorem pn_com_example_lanescan_lanescan_ReadingsAddPinLaw : plainName "com/example/lanescan/lanescan/ReadingsAddPinLaw" = true := by first | (simp [plainName, overriddenIn]; done) | decide +kernel
set_option maxRecDepth 65536 in
set_option maxHeartbeats 40000000 in
theorem rm0 (l : Launch) (Z : State) (a0 : Array Value) (hw : ∀ d ∈ tables_1, d.before a0 Z = true) (ws : List Jvm.Cond) (x0 : Int64) (x1 : Int32) (x2 : Int32) (x3 : Int32) (h0 : Heap) (n0 : Nat) (Z0 : n0 ≤ h0.size) :
    MetFree l x (head1 (Jvm.Cond.code x code maxLocals ret :: ws) room_1) (fun a U => a = #[(.long x0), (.int x1), (.int x2), (.int x3)] ∧ Z.Warmed39 U.vm ∧ U.heap = h0) (fun _ _ _ _ _ => True) (fun _ U o U' => ∃ v L, o = .returned v ∧ Q0 Z x0 x1 x2 x3 h0 n0 v U'.heap L ∧ FrameEnd U o U' L 0 0) := by
  refine MetFree.of_bodySF (plainFor_of_name pn_com_example_lanescan_lanescan_ReadingsAddPinLaw) hisR ?_
  intro p e s m args below meth c s₁ Bd hml0 hP hK
  obtain ⟨rfl, hZ, hh⟩ := hP
  have hx := Bd.exec
  have hby := Bd.bytes
  have hml : c.maxLocals = 27 := hml0
  have hown : s.vm.findClass "com/example/lanescan/lanescan/ReadingsAddPinLaw" = some m.cls := findClass_of_methodNamed Bd.named
  have hnm := (name_of_methodNamed Bd.named Bd.method).1
  have hlk : meth.locks = false := BodyLoose.notSynchronized Bd
  have X0 : Stand p l e room_1 s m #[(.long x0), (.int x1), (.int x2), (.int x3)] below meth c s₁ [] 0 0 := Stand.of_body Bd
  have e0 : s₁.heap = h0 := by rw [← hh, Bd.state]; rfl
  have N0 := Fr.nil n0
  have pre0 : Go p e below (s₁.setTop (entryFrame m #[(.long x0), (.int x1), (.int x2), (.int x3)] maxLocals)) (s₁.setTop (mkF m 0 #[.val (.long x0), .second, .val (.int x1), .val (.int x2), .val (.int x3), .unset, .unset, .unset, .unset, .unset, .unset, .unset, .unset, .unset, .unset, .unset, .unset, .unset, .unset, .unset, .unset, .unset, .unset, .unset, .unset, .unset, .unset] [])) := fun t k => castTop (ef_0 m x0 x1 x2 x3) k
  have pre1 : Go p e below (s₁.setTop (entryFrame m #[(.long x0), (.int x1), (.int x2), (.int x3)] maxLocals)) (s₁.setTop (mkF m 5 #[.val (.long x0), .second, .val (.int x1), .val (.int x2), .val (.int x3), .unset, .unset, .unset, .unset, .unset, .unset, .unset, .unset, .unset, .unset, .unset, .unset, .unset, .unset, .unset, .unset, .unset, .unset, .unset, .unset, .unset, .unset] [(.long (x0 &&& (4398046511103 : Int64)))])) := by
    intro t k
    refine pre0 t ?_
    show Steps p.tables e below (s₁.setTop (mkF m 0 #[.val (.long x0), .second, .val (.int x1), .val (.int x2), .val (.int x3), .unset, .unset, .unset, .unset, .unset, .unset, .unset, .unset, .unset, .unset, .unset, .unset, .unset, .unset, .unset, .unset, .unset, .unset, .unset, .unset, .unset, .unset] [])) _
    refine XT.lloadN X0.here hx rfl (hb hby at_0) rfl ?_
    show Steps p.tables e below (s₁.setTop (mkF m 1 #[.val (.long x0), .second, .val (.int x1), .val (.int x2), .val (.int x3), .unset, .unset, .unset, .unset, .unset, .unset, .unset, .unset, .unset, .unset, .unset, .unset, .unset, .unset, .unset, .unset, .unset, .unset, .unset, .unset, .unset, .unset] [(.long x0)])) _
    refine X0.ldc2J hx hown (mvT hZ (hw _ (List.mem_of_getElem? (i := 0) rfl))) (g := (mkF m 1 #[.val (.long x0), .second, .val (.int x1), .val (.int x2), .val (.int x3), .unset, .unset, .unset, .unset, .unset, .unset, .unset, .unset, .unset, .unset, .unset, .unset, .unset, .unset, .unset, .unset, .unset, .unset, .unset, .unset, .unset, .unset] [(.long x0)])) rfl (hb hby at_1) ?_
    show Steps p.tables e below (s₁.setTop (mkF m 4 #[.val (.long x0), .second, .val (.int x1), .val (.int x2), .val (.int x3), .unset, .unset, .unset, .unset, .unset, .unset, .unset, .unset, .unset, .unset, .unset, .unset, .unset, .unset, .unset, .unset, .unset, .unset, .unset, .unset, .unset, .unset] [(.long (4398046511103 : Int64)), (.long x0)])) _
    refine XS.land X0.here hx rfl (hb hby at_4) rfl ?_
    show Steps p.tables e below (s₁.setTop (mkF m 5 #[.val (.long x0), .second, .val (.int x1), .val (.int x2), .val (.int x3), .unset, .unset, .unset, .unset, .unset, .unset, .unset, .unset, .unset, .unset, .unset, .unset, .unset, .unset, .unset, .unset, .unset, .unset, .unset, .unset, .unset, .unset] [(.long (x0 &&& (4398046511103 : Int64)))])) _
    exact k
  obtain ⟨cs, h_cs⟩ : ∃ z : Int64, z = (x0 &&& (4398046511103 : Int64)) := ⟨_, rfl⟩
  have pre2 : Go p e below (s₁.setTop (entryFrame m #[(.long x0), (.int x1), (.int x2), (.int x3)] maxLocals)) (s₁.setTop (mkF m 5 #[.val (.long x0), .second, .val (.int x1), .val (.int x2), .val (.int x3), .unset, .unset, .unset, .unset, .unset, .unset, .unset, .unset, .unset, .unset, .unset, .unset, .unset, .unset, .unset, .unset, .unset, .unset, .unset, .unset, .unset, .unset] [(.long cs)])) := by rw [h_cs]; exact pre1
  have pre3 : Go p e below (s₁.setTop (entryFrame m #[(.long x0), (.int x1), (.int x2), (.int x3)] maxLocals)) (s₁.setTop (mkF m 17 #[.val (.long x0), .second, .val (.int x1), .val (.int x2), .val (.int x3), .val (.long cs), .second, .val (.long (4398046511102 : Int64)), .second, .unset, .unset, .unset, .unset, .unset, .unset, .unset, .unset, .unset, .unset, .unset, .unset, .unset, .unset, .unset, .unset, .unset, .unset] [(.int (XT.cmpL cs (4398046511102 : Int64)))])) := by
    intro t k
    refine pre2 t ?_
    show Steps p.tables e below (s₁.setTop (mkF m 5 #[.val (.long x0), .second, .val (.int x1), .val (.int x2), .val (.int x3), .unset, .unset, .unset, .unset, .unset, .unset, .unset, .unset, .unset, .unset, .unset, .unset, .unset, .unset, .unset, .unset, .unset, .unset, .unset, .unset, .unset, .unset] [(.long cs)])) _
    refine XT.lstore X0.here hx rfl (hb hby at_5) rfl (l' := #[.val (.long x0), .second, .val (.int x1), .val (.int x2), .val (.int x3), .val (.long cs), .second, .unset, .unset, .unset, .unset, .unset, .unset, .unset, .unset, .unset, .unset, .unset, .unset, .unset, .unset, .unset, .unset, .unset, .unset, .unset, .unset]) rfl ?_
    show Steps p.tables e below (s₁.setTop (mkF m 7 #[.val (.long x0), .second, .val (.int x1), .val (.int x2), .val (.int x3), .val (.long cs), .second, .unset, .unset, .unset, .unset, .unset, .unset, .unset, .unset, .unset, .unset, .unset, .unset, .unset, .unset, .unset, .unset, .unset, .unset, .unset, .unset] [])) _
    refine X0.ldc2J hx hown (mvT hZ (hw _ (List.mem_of_getElem? (i := 1) rfl))) (g := (mkF m 7 #[.val (.long x0), .second, .val (.int x1), .val (.int x2), .val (.int x3), .val (.long cs), .second, .unset, .unset, .unset, .unset, .unset, .unset, .unset, .unset, .unset, .unset, .unset, .unset, .unset, .unset, .unset, .unset, .unset, .unset, .unset, .unset] [])) rfl (hb hby at_7) ?_
    show Steps p.tables e below (s₁.setTop (mkF m 10 #[.val (.long x0), .second, .val (.int x1), .val (.int x2), .val (.int x3), .val (.long cs), .second, .unset, .unset, .unset, .unset, .unset, .unset, .unset, .unset, .unset, .unset, .unset, .unset, .unset, .unset, .unset, .unset, .unset, .unset, .unset, .unset] [(.long (4398046511102 : Int64))])) _
    refine XT.lstore X0.here hx rfl (hb hby at_10) rfl (l' := #[.val (.long x0), .second, .val (.int x1), .val (.int x2), .val (.int x3), .val (.long cs), .second, .val (.long (4398046511102 : Int64)), .second, .unset, .unset, .unset, .unset, .unset, .unset, .unset, .unset, .unset, .unset, .unset, .unset, .unset, .unset, .unset, .unset, .unset, .unset]) rfl ?_
    show Steps p.tables e below (s₁.setTop (mkF m 12 #[.val (.long x0), .second, .val (.int x1), .val (.int x2), .val (.int x3), .val (.long cs), .second, .val (.long (4398046511102 : Int64)), .second, .unset, .unset, .unset, .unset, .unset, .unset, .unset, .unset, .unset, .unset, .unset, .unset, .unset, .unset, .unset, .unset, .unset, .unset] [])) _
    refine XT.lload X0.here hx rfl (hb hby at_12) rfl ?_
    show Steps p.tables e below (s₁.setTop (mkF m 14 #[.val (.long x0), .second, .val (.int x1), .val (.int x2), .val (.int x3), .val (.long cs), .second, .val (.long (4398046511102 : Int64)), .second, .unset, .unset, .unset, .unset, .unset, .unset, .unset, .unset, .unset, .unset, .unset, .unset, .unset, .unset, .unset, .unset, .unset, .unset] [(.long cs)])) _
    refine XT.lload X0.here hx rfl (hb hby at_14) rfl ?_
    show Steps p.tables e below (s₁.setTop (mkF m 16 #[.val (.long x0), .second, .val (.int x1), .val (.int x2), .val (.int x3), .val (.long cs), .second, .val (.long (4398046511102 : Int64)), .second, .unset, .unset, .unset, .unset, .unset, .unset, .unset, .unset, .unset, .unset, .unset, .unset, .unset, .unset, .unset, .unset, .unset, .unset] [(.long (4398046511102 : Int64)), (.long cs)])) _
    refine XT.lcmp X0.here hx rfl (hb hby at_16) rfl ?_
    show Steps p.tables e below (s₁.setTop (mkF m 17 #[.val (.long x0), .second, .val (.int x1), .val (.int x2), .val (.int x3), .val (.long cs), .second, .val (.long (4398046511102 : Int64)), .second, .unset, .unset, .unset, .unset, .unset, .unset, .unset, .unset, .unset, .unset, .unset, .unset, .unset, .unset, .unset, .unset, .unset, .unset] [(.int (XT.cmpL cs (4398046511102 : Int64)))])) _
    exact k
  obtain ⟨cc, h_cc⟩ : ∃ z : Int64, z = (if (4398046511102 : Int64) < cs then (4398046511102 : Int64) else cs) := ⟨_, rfl⟩
  have pre5 : Go p e below (s₁.setTop (entryFrame m #[(.long x0), (.int x1), (.int x2), (.int x3)] maxLocals)) (s₁.setTop (mkF m 24 #[.val (.long x0), .second, .val (.int x1), .val (.int x2), .val (.int x3), .val (.long cc), .second, .val (.long (4398046511102 : Int64)), .second, .unset, .unset, .unset, .unset, .unset, .unset, .unset, .unset, .unset, .unset, .unset, .unset, .unset, .unset, .unset, .unset, .unset, .unset] [])) := by
    intro t k
    refine pre3 t ?_
    show Steps p.tables e below (s₁.setTop (mkF m 17 #[.val (.long x0), .second, .val (.int x1), .val (.int x2), .val (.int x3), .val (.long cs), .second, .val (.long (4398046511102 : Int64)), .second, .unset, .unset, .unset, .unset, .unset, .unset, .unset, .unset, .unset, .unset, .unset, .unset, .unset, .unset, .unset, .unset, .unset, .unset] [(.int (XT.cmpL cs (4398046511102 : Int64)))])) _
    by_cases hc17_4 : (4398046511102 : Int64) < cs
    · skip
      refine XS.ifNo X0.here hx rfl (hb hby at_17) rfl (XT.ll_le_f hc17_4) ?_
      show Steps p.tables e below (s₁.setTop (mkF m 20 #[.val (.long x0), .second, .val (.int x1), .val (.int x2), .val (.int x3), .val (.long cs), .second, .val (.long (4398046511102 : Int64)), .second, .unset, .unset, .unset, .unset, .unset, .unset, .unset, .unset, .unset, .unset, .unset, .unset, .unset, .unset, .unset, .unset, .unset, .unset] [])) _
      refine XT.lload X0.here hx rfl (hb hby at_20) rfl ?_
      show Steps p.tables e below (s₁.setTop (mkF m 22 #[.val (.long x0), .second, .val (.int x1), .val (.int x2), .val (.int x3), .val (.long cs), .second, .val (.long (4398046511102 : Int64)), .second, .unset, .unset, .unset, .unset, .unset, .unset, .unset, .unset, .unset, .unset, .unset, .unset, .unset, .unset, .unset, .unset, .unset, .unset] [(.long (4398046511102 : Int64))])) _
      refine XT.lstore X0.here hx rfl (hb hby at_22) rfl (l' := #[.val (.long x0), .second, .val (.int x1), .val (.int x2), .val (.int x3), .val (.long (4398046511102 : Int64)), .second, .val (.long (4398046511102 : Int64)), .second, .unset, .unset, .unset, .unset, .unset, .unset, .unset, .unset, .unset, .unset, .unset, .unset, .unset, .unset, .unset, .unset, .unset, .unset]) rfl ?_
      show Steps p.tables e below (s₁.setTop (mkF m 24 #[.val (.long x0), .second, .val (.int x1), .val (.int x2), .val (.int x3), .val (.long (4398046511102 : Int64)), .second, .val (.long (4398046511102 : Int64)), .second, .unset, .unset, .unset, .unset, .unset, .unset, .unset, .unset, .unset, .unset, .unset, .unset, .unset, .unset, .unset, .unset, .unset, .unset] [])) _
      rw [show cc = (4398046511102 : Int64) from by rw [h_cc]; rw [if_pos hc17_4]] at k
      exact k
    · skip
      refine XS.ifYes X0.here hx rfl (pc0 := 17) (pc' := 24) rfl (hb hby at_17) rfl (XT.ll_le_t hc17_4) (by decide) (by decide) ?_
      show Steps p.tables e below (s₁.setTop (mkF m 24 #[.val (.long x0), .second, .val (.int x1), .val (.int x2), .val (.int x3), .val (.long cs), .second, .val (.long (4398046511102 : Int64)), .second, .unset, .unset, .unset, .unset, .unset, .unset, .unset, .unset, .unset, .unset, .unset, .unset, .unset, .unset, .unset, .unset, .unset, .unset] [])) _
      rw [show cc = cs from by rw [h_cc]; rw [if_neg hc17_4]] at k
      exact k
  have pre6 : Go p e below (s₁.setTop (entryFrame m #[(.long x0), (.int x1), (.int x2), (.int x3)] maxLocals)) (s₁.setTop (mkF m 30 #[.val (.long x0), .second, .val (.int x1), .val (.int x2), .val (.int x3), .val (.long cc), .second, .val (.long (4398046511102 : Int64)), .second, .unset, .unset, .unset, .unset, .unset, .unset, .unset, .unset, .unset, .unset, .unset, .unset, .unset, .unset, .unset, .unset, .unset, .unset] [(.long (((x1 &&& (2047 : Int32))).toInt64))])) := by
    intro t k
    refine pre5 t ?_
    show Steps p.tables e below (s₁.setTop (mkF m 24 #[.val (.long x0), .second, .val (.int x1), .val (.int x2), .val (.int x3), .val (.long cc), .second, .val (.long (4398046511102 : Int64)), .second, .unset, .unset, .unset, .unset, .unset, .unset, .unset, .unset, .unset, .unset, .unset, .unset, .unset, .unset, .unset, .unset, .unset, .unset] [])) _
    refine XS.iloadN X0.here hx rfl (hb hby at_24) rfl ?_
    show Steps p.tables e below (s₁.setTop (mkF m 25 #[.val (.long x0), .second, .val (.int x1), .val (.int x2), .val (.int x3), .val (.long cc), .second, .val (.long (4398046511102 : Int64)), .second, .unset, .unset, .unset, .unset, .unset, .unset, .unset, .unset, .unset, .unset, .unset, .unset, .unset, .unset, .unset, .unset, .unset, .unset] [(.int x1)])) _
    refine XS.sipush X0.here hx rfl (hb hby at_25) ?_
    show Steps p.tables e below (s₁.setTop (mkF m 28 #[.val (.long x0), .second, .val (.int x1), .val (.int x2), .val (.int x3), .val (.long cc), .second, .val (.long (4398046511102 : Int64)), .second, .unset, .unset, .unset, .unset, .unset, .unset, .unset, .unset, .unset, .unset, .unset, .unset, .unset, .unset, .unset, .unset, .unset, .unset] [(.int (2047 : Int32)), (.int x1)])) _
    refine XS.iand X0.here hx rfl (hb hby at_28) rfl ?_
    show Steps p.tables e below (s₁.setTop (mkF m 29 #[.val (.long x0), .second, .val (.int x1), .val (.int x2), .val (.int x3), .val (.long cc), .second, .val (.long (4398046511102 : Int64)), .second, .unset, .unset, .unset, .unset, .unset, .unset, .unset, .unset, .unset, .unset, .unset, .unset, .unset, .unset, .unset, .unset, .unset, .unset] [(.int (x1 &&& (2047 : Int32)))])) _
    refine XS.i2l X0.here hx rfl (hb hby at_29) rfl ?_
    show Steps p.tables e below (s₁.setTop (mkF m 30 #[.val (.long x0), .second, .val (.int x1), .val (.int x2), .val (.int x3), .val (.long cc), .second, .val (.long (4398046511102 : Int64)), .second, .unset, .unset, .unset, .unset, .unset, .unset, .unset, .unset, .unset, .unset, .unset, .unset, .unset, .unset, .unset, .unset, .unset, .unset] [(.long (((x1 &&& (2047 : Int32))).toInt64))])) _
    exact k
  obtain ⟨mi, h_mi⟩ : ∃ z : Int64, z = (((x1 &&& (2047 : Int32))).toInt64) := ⟨_, rfl⟩
  have pre7 : Go p e below (s₁.setTop (entryFrame m #[(.long x0), (.int x1), (.int x2), (.int x3)] maxLocals)) (s₁.setTop (mkF m 30 #[.val (.long x0), .second, .val (.int x1), .val (.int x2), .val (.int x3), .val (.long cc), .second, .val (.long (4398046511102 : Int64)), .second, .unset, .unset, .unset, .unset, .unset, .unset, .unset, .unset, .unset, .unset, .unset, .unset, .unset, .unset, .unset, .unset, .unset, .unset] [(.long mi)])) := by rw [h_mi]; exact pre6
  have pre8 : Go p e below (s₁.setTop (entryFrame m #[(.long x0), (.int x1), (.int x2), (.int x3)] maxLocals)) (s₁.setTop (mkF m 38 #[.val (.long x0), .second, .val (.int x1), .val (.int x2), .val (.int x3), .val (.long cc), .second, .val (.long (4398046511102 : Int64)), .second, .val (.long mi), .second, .unset, .unset, .unset, .unset, .unset, .unset, .unset, .unset, .unset, .unset, .unset, .unset, .unset, .unset, .unset, .unset] [(.long (((x2 &&& (2047 : Int32))).toInt64))])) := by
    intro t k
    refine pre7 t ?_
    show Steps p.tables e below (s₁.setTop (mkF m 30 #[.val (.long x0), .second, .val (.int x1), .val (.int x2), .val (.int x3), .val (.long cc), .second, .val (.long (4398046511102 : Int64)), .second, .unset, .unset, .unset, .unset, .unset, .unset, .unset, .unset, .unset, .unset, .unset, .unset, .unset, .unset, .unset, .unset, .unset, .unset] [(.long mi)])) _
    refine XT.lstore X0.here hx rfl (hb hby at_30) rfl (l' := #[.val (.long x0), .second, .val (.int x1), .val (.int x2), .val (.int x3), .val (.long cc), .second, .val (.long (4398046511102 : Int64)), .second, .val (.long mi), .second, .unset, .unset, .unset, .unset, .unset, .unset, .unset, .unset, .unset, .unset, .unset, .unset, .unset, .unset, .unset, .unset]) rfl ?_
    show Steps p.tables e below (s₁.setTop (mkF m 32 #[.val (.long x0), .second, .val (.int x1), .val (.int x2), .val (.int x3), .val (.long cc), .second, .val (.long (4398046511102 : Int64)), .second, .val (.long mi), .second, .unset, .unset, .unset, .unset, .unset, .unset, .unset, .unset, .unset, .unset, .unset, .unset, .unset, .unset, .unset, .unset] [])) _
    refine XS.iloadN X0.here hx rfl (hb hby at_32) rfl ?_
    show Steps p.tables e below (s₁.setTop (mkF m 33 #[.val (.long x0), .second, .val (.int x1), .val (.int x2), .val (.int x3), .val (.long cc), .second, .val (.long (4398046511102 : Int64)), .second, .val (.long mi), .second, .unset, .unset, .unset, .unset, .unset, .unset, .unset, .unset, .unset, .unset, .unset, .unset, .unset, .unset, .unset, .unset] [(.int x2)])) _
    refine XS.sipush X0.here hx rfl (hb hby at_33) ?_
    show Steps p.tables e below (s₁.setTop (mkF m 36 #[.val (.long x0), .second, .val (.int x1), .val (.int x2), .val (.int x3), .val (.long cc), .second, .val (.long (4398046511102 : Int64)), .second, .val (.long mi), .second, .unset, .unset, .unset, .unset, .unset, .unset, .unset, .unset, .unset, .unset, .unset, .unset, .unset, .unset, .unset, .unset] [(.int (2047 : Int32)), (.int x2)])) _
    refine XS.iand X0.here hx rfl (hb hby at_36) rfl ?_
    show Steps p.tables e below (s₁.setTop (mkF m 37 #[.val (.long x0), .second, .val (.int x1), .val (.int x2), .val (.int x3), .val (.long cc), .second, .val (.long (4398046511102 : Int64)), .second, .val (.long mi), .second, .unset, .unset, .unset, .unset, .unset, .unset, .unset, .unset, .unset, .unset, .unset, .unset, .unset, .unset, .unset, .unset] [(.int (x2 &&& (2047 : Int32)))])) _
    refine XS.i2l X0.here hx rfl (hb hby at_37) rfl ?_
    show Steps p.tables e below (s₁.setTop (mkF m 38 #[.val (.long x0), .second, .val (.int x1), .val (.int x2), .val (.int x3), .val (.long cc), .second, .val (.long (4398046511102 : Int64)), .second, .val (.long mi), .second, .unset, .unset, .unset, .unset, .unset, .unset, .unset, .unset, .unset, .unset, .unset, .unset, .unset, .unset, .unset, .unset] [(.long (((x2 &&& (2047 : Int32))).toInt64))])) _
    exact k
  obtain ⟨ma, h_ma⟩ : ∃ z : Int64, z = (((x2 &&& (2047 : Int32))).toInt64) := ⟨_, rfl⟩
  have pre9 : Go p e below (s₁.setTop (entryFrame m #[(.long x0), (.int x1), (.int x2), (.int x3)] maxLocals)) (s₁.setTop (mkF m 38 #[.val (.long x0), .second, .val (.int x1), .val (.int x2), .val (.int x3), .val (.long cc), .second, .val (.long (4398046511102 : Int64)), .second, .val (.long mi), .second, .unset, .unset, .unset, .unset, .unset, .unset, .unset, .unset, .unset, .unset, .unset, .unset, .unset, .unset, .unset, .unset] [(.long ma)])) := by rw [h_ma]; exact pre8
  have pre10 : Go p e below (s₁.setTop (entryFrame m #[(.long x0), (.int x1), (.int x2), (.int x3)] maxLocals)) (s₁.setTop (mkF m 54 #[.val (.long x0), .second, .val (.int x1), .val (.int x2), .val (.int x3), .val (.long cc), .second, .val (.long (4398046511102 : Int64)), .second, .val (.long mi), .second, .val (.long ma), .second, .unset, .unset, .unset, .unset, .unset, .unset, .unset, .unset, .unset, .unset, .unset, .unset, .unset, .unset] [(.long (((((x3 &&& (2147483647 : Int32)) % (1999 : Int32)) - (999 : Int32))).toInt64))])) := by
    intro t k
    refine pre9 t ?_
    show Steps p.tables e below (s₁.setTop (mkF m 38 #[.val (.long x0), .second, .val (.int x1), .val (.int x2), .val (.int x3), .val (.long cc), .second, .val (.long (4398046511102 : Int64)), .second, .val (.long mi), .second, .unset, .unset, .unset, .unset, .unset, .unset, .unset, .unset, .unset, .unset, .unset, .unset, .unset, .unset, .unset, .unset] [(.long ma)])) _
    refine XT.lstore X0.here hx rfl (hb hby at_38) rfl (l' := #[.val (.long x0), .second, .val (.int x1), .val (.int x2), .val (.int x3), .val (.long cc), .second, .val (.long (4398046511102 : Int64)), .second, .val (.long mi), .second, .val (.long ma), .second, .unset, .unset, .unset, .unset, .unset, .unset, .unset, .unset, .unset, .unset, .unset, .unset, .unset, .unset]) rfl ?_
    show Steps p.tables e below (s₁.setTop (mkF m 40 #[.val (.long x0), .second, .val (.int x1), .val (.int x2), .val (.int x3), .val (.long cc), .second, .val (.long (4398046511102 : Int64)), .second, .val (.long mi), .second, .val (.long ma), .second, .unset, .unset, .unset, .unset, .unset, .unset, .unset, .unset, .unset, .unset, .unset, .unset, .unset, .unset] [])) _
    refine XS.iload X0.here hx rfl (hb hby at_40) rfl ?_
    show Steps p.tables e below (s₁.setTop (mkF m 42 #[.val (.long x0), .second, .val (.int x1), .val (.int x2), .val (.int x3), .val (.long cc), .second, .val (.long (4398046511102 : Int64)), .second, .val (.long mi), .second, .val (.long ma), .second, .unset, .unset, .unset, .unset, .unset, .unset, .unset, .unset, .unset, .unset, .unset, .unset, .unset, .unset] [(.int x3)])) _
    refine X0.ldcI hx hown (mvT hZ (hw _ (List.mem_of_getElem? (i := 2) rfl))) (g := (mkF m 42 #[.val (.long x0), .second, .val (.int x1), .val (.int x2), .val (.int x3), .val (.long cc), .second, .val (.long (4398046511102 : Int64)), .second, .val (.long mi), .second, .val (.long ma), .second, .unset, .unset, .unset, .unset, .unset, .unset, .unset, .unset, .unset, .unset, .unset, .unset, .unset, .unset] [(.int x3)])) rfl (hb hby at_42) ?_
    show Steps p.tables e below (s₁.setTop (mkF m 44 #[.val (.long x0), .second, .val (.int x1), .val (.int x2), .val (.int x3), .val (.long cc), .second, .val (.long (4398046511102 : Int64)), .second, .val (.long mi), .second, .val (.long ma), .second, .unset, .unset, .unset, .unset, .unset, .unset, .unset, .unset, .unset, .unset, .unset, .unset, .unset, .unset] [(.int (2147483647 : Int32)), (.int x3)])) _
    refine XS.iand X0.here hx rfl (hb hby at_44) rfl ?_
    show Steps p.tables e below (s₁.setTop (mkF m 45 #[.val (.long x0), .second, .val (.int x1), .val (.int x2), .val (.int x3), .val (.long cc), .second, .val (.long (4398046511102 : Int64)), .second, .val (.long mi), .second, .val (.long ma), .second, .unset, .unset, .unset, .unset, .unset, .unset, .unset, .unset, .unset, .unset, .unset, .unset, .unset, .unset] [(.int (x3 &&& (2147483647 : Int32)))])) _
    refine XS.sipush X0.here hx rfl (hb hby at_45) ?_
    show Steps p.tables e below (s₁.setTop (mkF m 48 #[.val (.long x0), .second, .val (.int x1), .val (.int x2), .val (.int x3), .val (.long cc), .second, .val (.long (4398046511102 : Int64)), .second, .val (.long mi), .second, .val (.long ma), .second, .unset, .unset, .unset, .unset, .unset, .unset, .unset, .unset, .unset, .unset, .unset, .unset, .unset, .unset] [(.int (1999 : Int32)), (.int (x3 &&& (2147483647 : Int32)))])) _
    refine own_irem X0.here hx rfl (hb hby at_48) rfl (by decide) ?_
    show Steps p.tables e below (s₁.setTop (mkF m 49 #[.val (.long x0), .second, .val (.int x1), .val (.int x2), .val (.int x3), .val (.long cc), .second, .val (.long (4398046511102 : Int64)), .second, .val (.long mi), .second, .val (.long ma), .second, .unset, .unset, .unset, .unset, .unset, .unset, .unset, .unset, .unset, .unset, .unset, .unset, .unset, .unset] [(.int ((x3 &&& (2147483647 : Int32)) % (1999 : Int32)))])) _
    refine XS.sipush X0.here hx rfl (hb hby at_49) ?_
    show Steps p.tables e below (s₁.setTop (mkF m 52 #[.val (.long x0), .second, .val (.int x1), .val (.int x2), .val (.int x3), .val (.long cc), .second, .val (.long (4398046511102 : Int64)), .second, .val (.long mi), .second, .val (.long ma), .second, .unset, .unset, .unset, .unset, .unset, .unset, .unset, .unset, .unset, .unset, .unset, .unset, .unset, .unset] [(.int (999 : Int32)), (.int ((x3 &&& (2147483647 : Int32)) % (1999 : Int32)))])) _
    refine XS.isub X0.here hx rfl (hb hby at_52) rfl ?_
    show Steps p.tables e below (s₁.setTop (mkF m 53 #[.val (.long x0), .second, .val (.int x1), .val (.int x2), .val (.int x3), .val (.long cc), .second, .val (.long (4398046511102 : Int64)), .second, .val (.long mi), .second, .val (.long ma), .second, .unset, .unset, .unset, .unset, .unset, .unset, .unset, .unset, .unset, .unset, .unset, .unset, .unset, .unset] [(.int (((x3 &&& (2147483647 : Int32)) % (1999 : Int32)) - (999 : Int32)))])) _
    refine XS.i2l X0.here hx rfl (hb hby at_53) rfl ?_
    show Steps p.tables e below (s₁.setTop (mkF m 54 #[.val (.long x0), .second, .val (.int x1), .val (.int x2), .val (.int x3), .val (.long cc), .second, .val (.long (4398046511102 : Int64)), .second, .val (.long mi), .second, .val (.long ma), .second, .unset, .unset, .unset, .unset, .unset, .unset, .unset, .unset, .unset, .unset, .unset, .unset, .unset, .unset] [(.long (((((x3 &&& (2147483647 : Int32)) % (1999 : Int32)) - (999 : Int32))).toInt64))])) _
    exact k
  obtain ⟨te, h_te⟩ : ∃ z : Int64, z = (((((x3 &&& (2147483647 : Int32)) % (1999 : Int32)) - (999 : Int32))).toInt64) := ⟨_, rfl⟩
  have pre11 : Go p e below (s₁.setTop (entryFrame m #[(.long x0), (.int x1), (.int x2), (.int x3)] maxLocals)) (s₁.setTop (mkF m 54 #[.val (.long x0), .second, .val (.int x1), .val (.int x2), .val (.int x3), .val (.long cc), .second, .val (.long (4398046511102 : Int64)), .second, .val (.long mi), .second, .val (.long ma), .second, .unset, .unset, .unset, .unset, .unset, .unset, .unset, .unset, .unset, .unset, .unset, .unset, .unset, .unset] [(.long te)])) := by rw [h_te]; exact pre10
  have pre12 : Go p e below (s₁.setTop (entryFrame m #[(.long x0), (.int x1), (.int x2), (.int x3)] maxLocals)) (s₁.setTop (mkF m 70 #[.val (.long x0), .second, .val (.int x1), .val (.int x2), .val (.int x3), .val (.long cc), .second, .val (.long (4398046511102 : Int64)), .second, .val (.long mi), .second, .val (.long ma), .second, .val (.long te), .second, .unset, .unset, .unset, .unset, .unset, .unset, .unset, .unset, .unset, .unset, .unset, .unset] [(.long ((((cc <<< (((22 : Int32)) &&& 0x3f).toInt64)) ||| ((ma <<< (((11 : Int32)) &&& 0x3f).toInt64))) ||| mi))])) := by
    intro t k
    refine pre11 t ?_
    show Steps p.tables e below (s₁.setTop (mkF m 54 #[.val (.long x0), .second, .val (.int x1), .val (.int x2), .val (.int x3), .val (.long cc), .second, .val (.long (4398046511102 : Int64)), .second, .val (.long mi), .second, .val (.long ma), .second, .unset, .unset, .unset, .unset, .unset, .unset, .unset, .unset, .unset, .unset, .unset, .unset, .unset, .unset] [(.long te)])) _
    refine XT.lstore X0.here hx rfl (hb hby at_54) rfl (l' := #[.val (.long x0), .second, .val (.int x1), .val (.int x2), .val (.int x3), .val (.long cc), .second, .val (.long (4398046511102 : Int64)), .second, .val (.long mi), .second, .val (.long ma), .second, .val (.long te), .second, .unset, .unset, .unset, .unset, .unset, .unset, .unset, .unset, .unset, .unset, .unset, .unset]) rfl ?_
    show Steps p.tables e below (s₁.setTop (mkF m 56 #[.val (.long x0), .second, .val (.int x1), .val (.int x2), .val (.int x3), .val (.long cc), .second, .val (.long (4398046511102 : Int64)), .second, .val (.long mi), .second, .val (.long ma), .second, .val (.long te), .second, .unset, .unset, .unset, .unset, .unset, .unset, .unset, .unset, .unset, .unset, .unset, .unset] [])) _
    refine XT.lload X0.here hx rfl (hb hby at_56) rfl ?_
    show Steps p.tables e below (s₁.setTop (mkF m 58 #[.val (.long x0), .second, .val (.int x1), .val (.int x2), .val (.int x3), .val (.long cc), .second, .val (.long (4398046511102 : Int64)), .second, .val (.long mi), .second, .val (.long ma), .second, .val (.long te), .second, .unset, .unset, .unset, .unset, .unset, .unset, .unset, .unset, .unset, .unset, .unset, .unset] [(.long cc)])) _
    refine XS.bipush X0.here hx rfl (hb hby at_58) ?_
    show Steps p.tables e below (s₁.setTop (mkF m 60 #[.val (.long x0), .second, .val (.int x1), .val (.int x2), .val (.int x3), .val (.long cc), .second, .val (.long (4398046511102 : Int64)), .second, .val (.long mi), .second, .val (.long ma), .second, .val (.long te), .second, .unset, .unset, .unset, .unset, .unset, .unset, .unset, .unset, .unset, .unset, .unset, .unset] [(.int (22 : Int32)), (.long cc)])) _
    refine XS.lshl X0.here hx rfl (hb hby at_60) rfl ?_
    show Steps p.tables e below (s₁.setTop (mkF m 61 #[.val (.long x0), .second, .val (.int x1), .val (.int x2), .val (.int x3), .val (.long cc), .second, .val (.long (4398046511102 : Int64)), .second, .val (.long mi), .second, .val (.long ma), .second, .val (.long te), .second, .unset, .unset, .unset, .unset, .unset, .unset, .unset, .unset, .unset, .unset, .unset, .unset] [(.long ((cc <<< (((22 : Int32)) &&& 0x3f).toInt64)))])) _
    refine XT.lload X0.here hx rfl (hb hby at_61) rfl ?_
    show Steps p.tables e below (s₁.setTop (mkF m 63 #[.val (.long x0), .second, .val (.int x1), .val (.int x2), .val (.int x3), .val (.long cc), .second, .val (.long (4398046511102 : Int64)), .second, .val (.long mi), .second, .val (.long ma), .second, .val (.long te), .second, .unset, .unset, .unset, .unset, .unset, .unset, .unset, .unset, .unset, .unset, .unset, .unset] [(.long ma), (.long ((cc <<< (((22 : Int32)) &&& 0x3f).toInt64)))])) _
    refine XS.bipush X0.here hx rfl (hb hby at_63) ?_
    show Steps p.tables e below (s₁.setTop (mkF m 65 #[.val (.long x0), .second, .val (.int x1), .val (.int x2), .val (.int x3), .val (.long cc), .second, .val (.long (4398046511102 : Int64)), .second, .val (.long mi), .second, .val (.long ma), .second, .val (.long te), .second, .unset, .unset, .unset, .unset, .unset, .unset, .unset, .unset, .unset, .unset, .unset, .unset] [(.int (11 : Int32)), (.long ma), (.long ((cc <<< (((22 : Int32)) &&& 0x3f).toInt64)))])) _
    refine XS.lshl X0.here hx rfl (hb hby at_65) rfl ?_
    show Steps p.tables e below (s₁.setTop (mkF m 66 #[.val (.long x0), .second, .val (.int x1), .val (.int x2), .val (.int x3), .val (.long cc), .second, .val (.long (4398046511102 : Int64)), .second, .val (.long mi), .second, .val (.long ma), .second, .val (.long te), .second, .unset, .unset, .unset, .unset, .unset, .unset, .unset, .unset, .unset, .unset, .unset, .unset] [(.long ((ma <<< (((11 : Int32)) &&& 0x3f).toInt64))), (.long ((cc <<< (((22 : Int32)) &&& 0x3f).toInt64)))])) _
    refine XS.lor X0.here hx rfl (hb hby at_66) rfl ?_
    show Steps p.tables e below (s₁.setTop (mkF m 67 #[.val (.long x0), .second, .val (.int x1), .val (.int x2), .val (.int x3), .val (.long cc), .second, .val (.long (4398046511102 : Int64)), .second, .val (.long mi), .second, .val (.long ma), .second, .val (.long te), .second, .unset, .unset, .unset, .unset, .unset, .unset, .unset, .unset, .unset, .unset, .unset, .unset] [(.long (((cc <<< (((22 : Int32)) &&& 0x3f).toInt64)) ||| ((ma <<< (((11 : Int32)) &&& 0x3f).toInt64))))])) _
    refine XT.lload X0.here hx rfl (hb hby at_67) rfl ?_
    show Steps p.tables e below (s₁.setTop (mkF m 69 #[.val (.long x0), .second, .val (.int x1), .val (.int x2), .val (.int x3), .val (.long cc), .second, .val (.long (4398046511102 : Int64)), .second, .val (.long mi), .second, .val (.long ma), .second, .val (.long te), .second, .unset, .unset, .unset, .unset, .unset, .unset, .unset, .unset, .unset, .unset, .unset, .unset] [(.long mi), (.long (((cc <<< (((22 : Int32)) &&& 0x3f).toInt64)) ||| ((ma <<< (((11 : Int32)) &&& 0x3f).toInt64))))])) _
    refine XS.lor X0.here hx rfl (hb hby at_69) rfl ?_
    show Steps p.tables e below (s₁.setTop (mkF m 70 #[.val (.long x0), .second, .val (.int x1), .val (.int x2), .val (.int x3), .val (.long cc), .second, .val (.long (4398046511102 : Int64)), .second, .val (.long mi), .second, .val (.long ma), .second, .val (.long te), .second, .unset, .unset, .unset, .unset, .unset, .unset, .unset, .unset, .unset, .unset, .unset, .unset] [(.long ((((cc <<< (((22 : Int32)) &&& 0x3f).toInt64)) ||| ((ma <<< (((11 : Int32)) &&& 0x3f).toInt64))) ||| mi))])) _
    exact k
  obtain ⟨wo, h_wo⟩ : ∃ z : Int64, z = ((((cc <<< (((22 : Int32)) &&& 0x3f).toInt64)) ||| ((ma <<< (((11 : Int32)) &&& 0x3f).toInt64))) ||| mi) := ⟨_, rfl⟩
  have pre13 : Go p e below (s₁.setTop (entryFrame m #[(.long x0), (.int x1), (.int x2), (.int x3)] maxLocals)) (s₁.setTop (mkF m 70 #[.val (.long x0), .second, .val (.int x1), .val (.int x2), .val (.int x3), .val (.long cc), .second, .val (.long (4398046511102 : Int64)), .second, .val (.long mi), .second, .val (.long ma), .second, .val (.long te), .second, .unset, .unset, .unset, .unset, .unset, .unset, .unset, .unset, .unset, .unset, .unset, .unset] [(.long wo)])) := by rw [h_wo]; exact pre12
  have pre14 : Go p e below (s₁.setTop (entryFrame m #[(.long x0), (.int x1), (.int x2), (.int x3)] maxLocals)) (s₁.setTop (mkF m 78 #[.val (.long x0), .second, .val (.int x1), .val (.int x2), .val (.int x3), .val (.long cc), .second, .val (.long (4398046511102 : Int64)), .second, .val (.long mi), .second, .val (.long ma), .second, .val (.long te), .second, .val (.long wo), .second, .unset, .unset, .unset, .unset, .unset, .unset, .unset, .unset, .unset, .unset] [(.long (te + (1024 : Int64)))])) := by
    intro t k
    refine pre13 t ?_
    show Steps p.tables e below (s₁.setTop (mkF m 70 #[.val (.long x0), .second, .val (.int x1), .val (.int x2), .val (.int x3), .val (.long cc), .second, .val (.long (4398046511102 : Int64)), .second, .val (.long mi), .second, .val (.long ma), .second, .val (.long te), .second, .unset, .unset, .unset, .unset, .unset, .unset, .unset, .unset, .unset, .unset, .unset, .unset] [(.long wo)])) _
    refine XT.lstore X0.here hx rfl (hb hby at_70) rfl (l' := #[.val (.long x0), .second, .val (.int x1), .val (.int x2), .val (.int x3), .val (.long cc), .second, .val (.long (4398046511102 : Int64)), .second, .val (.long mi), .second, .val (.long ma), .second, .val (.long te), .second, .val (.long wo), .second, .unset, .unset, .unset, .unset, .unset, .unset, .unset, .unset, .unset, .unset]) rfl ?_
    show Steps p.tables e below (s₁.setTop (mkF m 72 #[.val (.long x0), .second, .val (.int x1), .val (.int x2), .val (.int x3), .val (.long cc), .second, .val (.long (4398046511102 : Int64)), .second, .val (.long mi), .second, .val (.long ma), .second, .val (.long te), .second, .val (.long wo), .second, .unset, .unset, .unset, .unset, .unset, .unset, .unset, .unset, .unset, .unset] [])) _
    refine XT.lload X0.here hx rfl (hb hby at_72) rfl ?_
    show Steps p.tables e below (s₁.setTop (mkF m 74 #[.val (.long x0), .second, .val (.int x1), .val (.int x2), .val (.int x3), .val (.long cc), .second, .val (.long (4398046511102 : Int64)), .second, .val (.long mi), .second, .val (.long ma), .second, .val (.long te), .second, .val (.long wo), .second, .unset, .unset, .unset, .unset, .unset, .unset, .unset, .unset, .unset, .unset] [(.long te)])) _
    refine X0.ldc2J hx hown (mvT hZ (hw _ (List.mem_of_getElem? (i := 3) rfl))) (g := (mkF m 74 #[.val (.long x0), .second, .val (.int x1), .val (.int x2), .val (.int x3), .val (.long cc), .second, .val (.long (4398046511102 : Int64)), .second, .val (.long mi), .second, .val (.long ma), .second, .val (.long te), .second, .val (.long wo), .second, .unset, .unset, .unset, .unset, .unset, .unset, .unset, .unset, .unset, .unset] [(.long te)])) rfl (hb hby at_74) ?_
    show Steps p.tables e below (s₁.setTop (mkF m 77 #[.val (.long x0), .second, .val (.int x1), .val (.int x2), .val (.int x3), .val (.long cc), .second, .val (.long (4398046511102 : Int64)), .second, .val (.long mi), .second, .val (.long ma), .second, .val (.long te), .second, .val (.long wo), .second, .unset, .unset, .unset, .unset, .unset, .unset, .unset, .unset, .unset, .unset] [(.long (1024 : Int64)), (.long te)])) _
    refine XS.ladd X0.here hx rfl (hb hby at_77) rfl ?_
    show Steps p.tables e below (s₁.setTop (mkF m 78 #[.val (.long x0), .second, .val (.int x1), .val (.int x2), .val (.int x3), .val (.long cc), .second, .val (.long (4398046511102 : Int64)), .second, .val (.long mi), .second, .val (.long ma), .second, .val (.long te), .second, .val (.long wo), .second, .unset, .unset, .unset, .unset, .unset, .unset, .unset, .unset, .unset, .unset] [(.long (te + (1024 : Int64)))])) _
    exact k
  obtain ⟨bi, h_bi⟩ : ∃ z : Int64, z = (te + (1024 : Int64)) := ⟨_, rfl⟩
  have pre15 : Go p e below (s₁.setTop (entryFrame m #[(.long x0), (.int x1), (.int x2), (.int x3)] maxLocals)) (s₁.setTop (mkF m 78 #[.val (.long x0), .second, .val (.int x1), .val (.int x2), .val (.int x3), .val (.long cc), .second, .val (.long (4398046511102 : Int64)), .second, .val (.long mi), .second, .val (.long ma), .second, .val (.long te), .second, .val (.long wo), .second, .unset, .unset, .unset, .unset, .unset, .unset, .unset, .unset, .unset, .unset] [(.long bi)])) := by rw [h_bi]; exact pre14
  have pre16 : Go p e below (s₁.setTop (entryFrame m #[(.long x0), (.int x1), (.int x2), (.int x3)] maxLocals)) (s₁.setTop (mkF m 84 #[.val (.long x0), .second, .val (.int x1), .val (.int x2), .val (.int x3), .val (.long cc), .second, .val (.long (4398046511102 : Int64)), .second, .val (.long mi), .second, .val (.long ma), .second, .val (.long te), .second, .val (.long wo), .second, .val (.long bi), .second, .unset, .unset, .unset, .unset, .unset, .unset, .unset, .unset] [(.long bi), (.long mi)])) := by
    intro t k
    refine pre15 t ?_
    show Steps p.tables e below (s₁.setTop (mkF m 78 #[.val (.long x0), .second, .val (.int x1), .val (.int x2), .val (.int x3), .val (.long cc), .second, .val (.long (4398046511102 : Int64)), .second, .val (.long mi), .second, .val (.long ma), .second, .val (.long te), .second, .val (.long wo), .second, .unset, .unset, .unset, .unset, .unset, .unset, .unset, .unset, .unset, .unset] [(.long bi)])) _
    refine XT.lstore X0.here hx rfl (hb hby at_78) rfl (l' := #[.val (.long x0), .second, .val (.int x1), .val (.int x2), .val (.int x3), .val (.long cc), .second, .val (.long (4398046511102 : Int64)), .second, .val (.long mi), .second, .val (.long ma), .second, .val (.long te), .second, .val (.long wo), .second, .val (.long bi), .second, .unset, .unset, .unset, .unset, .unset, .unset, .unset, .unset]) rfl ?_
    show Steps p.tables e below (s₁.setTop (mkF m 80 #[.val (.long x0), .second, .val (.int x1), .val (.int x2), .val (.int x3), .val (.long cc), .second, .val (.long (4398046511102 : Int64)), .second, .val (.long mi), .second, .val (.long ma), .second, .val (.long te), .second, .val (.long wo), .second, .val (.long bi), .second, .unset, .unset, .unset, .unset, .unset, .unset, .unset, .unset] [])) _
    refine XT.lload X0.here hx rfl (hb hby at_80) rfl ?_
    show Steps p.tables e below (s₁.setTop (mkF m 82 #[.val (.long x0), .second, .val (.int x1), .val (.int x2), .val (.int x3), .val (.long cc), .second, .val (.long (4398046511102 : Int64)), .second, .val (.long mi), .second, .val (.long ma), .second, .val (.long te), .second, .val (.long wo), .second, .val (.long bi), .second, .unset, .unset, .unset, .unset, .unset, .unset, .unset, .unset] [(.long mi)])) _
    refine XT.lload X0.here hx rfl (hb hby at_82) rfl ?_
    show Steps p.tables e below (s₁.setTop (mkF m 84 #[.val (.long x0), .second, .val (.int x1), .val (.int x2), .val (.int x3), .val (.long cc), .second, .val (.long (4398046511102 : Int64)), .second, .val (.long mi), .second, .val (.long ma), .second, .val (.long te), .second, .val (.long wo), .second, .val (.long bi), .second, .unset, .unset, .unset, .unset, .unset, .unset, .unset, .unset] [(.long bi), (.long mi)])) _
    exact k
  obtain ⟨_, _, ⟨T17, L17, k17, n17⟩, -, X17, ⟨Lc17, hQ17, l17, y17, z17⟩, st17⟩ := Jvm.LawKit.callS X0 hx (y := (⟨"java/lang/Math", "min", "(JJ)J"⟩ : MethodName)) hown (mvT hZ (hw _ (List.mem_of_getElem? (i := 4) rfl))) (mvT hZ (hw _ (List.mem_of_getElem? (i := 5) rfl))) (mvT hZ (hw _ (List.mem_of_getElem? (i := 6) rfl))) (mvT hZ (hw _ (List.mem_of_getElem? (i := 7) rfl))) (by decide) (backOf (W := 0) (rm1 l Z a0 hw [] mi bi  h0 n0 Z0 ) hZ (hw _ (List.mem_of_getElem? (i := 7) rfl)) (hw _ (List.mem_of_getElem? (i := 6) rfl)) (by decide) (by decide)) (g := (mkF m 84 #[.val (.long x0), .second, .val (.int x1), .val (.int x2), .val (.int x3), .val (.long cc), .second, .val (.long (4398046511102 : Int64)), .second, .val (.long mi), .second, .val (.long ma), .second, .val (.long te), .second, .val (.long wo), .second, .val (.long bi), .second, .unset, .unset, .unset, .unset, .unset, .unset, .unset, .unset] [(.long bi), (.long mi)])) rfl (by rw [hml]; rfl) (argsL := [(.long mi), (.long bi)]) (rest := []) (lenOf pd_3 rfl) rfl (by show 2 * 0 + _ ≤ _; exact Nat.le_of_eq rfl) (hb hby at_84) (fun _ _ => ⟨rfl, e0, (by decide : 0 + 0 ≤ _), (by decide : 0 + 0 ≤ _)⟩)
  dsimp only [Pt.U, Pt.locs, Pt.cells, Pt.slots] at X17 l17 y17 z17 st17 hQ17
  subst l17 y17 z17
  obtain ⟨rfl, N17q, hh17⟩ := hQ17
  have N17 := Fr.app N0 N17q
  have pre18 : Go p e below (s₁.setTop (entryFrame m #[(.long x0), (.int x1), (.int x2), (.int x3)] maxLocals)) (T17.setTop (mkF m 87 #[.val (.long x0), .second, .val (.int x1), .val (.int x2), .val (.int x3), .val (.long cc), .second, .val (.long (4398046511102 : Int64)), .second, .val (.long mi), .second, .val (.long ma), .second, .val (.long te), .second, .val (.long wo), .second, .val (.long bi), .second, .unset, .unset, .unset, .unset, .unset, .unset, .unset, .unset] [(.long (f1 mi bi))])) := fun t k => pre16 t (st17 t k)
  obtain ⟨nmi, h_nmi⟩ : ∃ z : Int64, z = (f1 mi bi) := ⟨_, rfl⟩
  have pre19 : Go p e below (s₁.setTop (entryFrame m #[(.long x0), (.int x1), (.int x2), (.int x3)] maxLocals)) (T17.setTop (mkF m 87 #[.val (.long x0), .second, .val (.int x1), .val (.int x2), .val (.int x3), .val (.long cc), .second, .val (.long (4398046511102 : Int64)), .second, .val (.long mi), .second, .val (.long ma), .second, .val (.long te), .second, .val (.long wo), .second, .val (.long bi), .second, .unset, .unset, .unset, .unset, .unset, .unset, .unset, .unset] [(.long nmi)])) := by rw [h_nmi]; exact pre18
  have pre20 : Go p e below (s₁.setTop (entryFrame m #[(.long x0), (.int x1), (.int x2), (.int x3)] maxLocals)) (T17.setTop (mkF m 93 #[.val (.long x0), .second, .val (.int x1), .val (.int x2), .val (.int x3), .val (.long cc), .second, .val (.long (4398046511102 : Int64)), .second, .val (.long mi), .second, .val (.long ma), .second, .val (.long te), .second, .val (.long wo), .second, .val (.long bi), .second, .val (.long nmi), .second, .unset, .unset, .unset, .unset, .unset, .unset] [(.long bi), (.long ma)])) := by
    intro t k
    refine pre19 t ?_
    show Steps p.tables e below (T17.setTop (mkF m 87 #[.val (.long x0), .second, .val (.int x1), .val (.int x2), .val (.int x3), .val (.long cc), .second, .val (.long (4398046511102 : Int64)), .second, .val (.long mi), .second, .val (.long ma), .second, .val (.long te), .second, .val (.long wo), .second, .val (.long bi), .second, .unset, .unset, .unset, .unset, .unset, .unset, .unset, .unset] [(.long nmi)])) _
    refine XT.lstore X17.here hx rfl (hb hby at_87) rfl (l' := #[.val (.long x0), .second, .val (.int x1), .val (.int x2), .val (.int x3), .val (.long cc), .second, .val (.long (4398046511102 : Int64)), .second, .val (.long mi), .second, .val (.long ma), .second, .val (.long te), .second, .val (.long wo), .second, .val (.long bi), .second, .val (.long nmi), .second, .unset, .unset, .unset, .unset, .unset, .unset]) rfl ?_
    show Steps p.tables e below (T17.setTop (mkF m 89 #[.val (.long x0), .second, .val (.int x1), .val (.int x2), .val (.int x3), .val (.long cc), .second, .val (.long (4398046511102 : Int64)), .second, .val (.long mi), .second, .val (.long ma), .second, .val (.long te), .second, .val (.long wo), .second, .val (.long bi), .second, .val (.long nmi), .second, .unset, .unset, .unset, .unset, .unset, .unset] [])) _
    refine XT.lload X17.here hx rfl (hb hby at_89) rfl ?_
    show Steps p.tables e below (T17.setTop (mkF m 91 #[.val (.long x0), .second, .val (.int x1), .val (.int x2), .val (.int x3), .val (.long cc), .second, .val (.long (4398046511102 : Int64)), .second, .val (.long mi), .second, .val (.long ma), .second, .val (.long te), .second, .val (.long wo), .second, .val (.long bi), .second, .val (.long nmi), .second, .unset, .unset, .unset, .unset, .unset, .unset] [(.long ma)])) _
    refine XT.lload X17.here hx rfl (hb hby at_91) rfl ?_
    show Steps p.tables e below (T17.setTop (mkF m 93 #[.val (.long x0), .second, .val (.int x1), .val (.int x2), .val (.int x3), .val (.long cc), .second, .val (.long (4398046511102 : Int64)), .second, .val (.long mi), .second, .val (.long ma), .second, .val (.long te), .second, .val (.long wo), .second, .val (.long bi), .second, .val (.long nmi), .second, .unset, .unset, .unset, .unset, .unset, .unset] [(.long bi), (.long ma)])) _
    exact k
  obtain ⟨_, _, ⟨T21, L21, k21, n21⟩, -, X21, ⟨Lc21, hQ21, l21, y21, z21⟩, st21⟩ := Jvm.LawKit.callS X17 hx (y := (⟨"java/lang/Math", "max", "(JJ)J"⟩ : MethodName)) hown (mvT hZ (hw _ (List.mem_of_getElem? (i := 8) rfl))) (mvT hZ (hw _ (List.mem_of_getElem? (i := 9) rfl))) (mvT hZ (hw _ (List.mem_of_getElem? (i := 6) rfl))) (mvT hZ (hw _ (List.mem_of_getElem? (i := 10) rfl))) (by decide) (backOf (W := 0) (rm2 l Z a0 hw [] ma bi  h0 n0 Z0 ) hZ (hw _ (List.mem_of_getElem? (i := 10) rfl)) (hw _ (List.mem_of_getElem? (i := 6) rfl)) (by decide) (by decide)) (g := (mkF m 93 #[.val (.long x0), .second, .val (.int x1), .val (.int x2), .val (.int x3), .val (.long cc), .second, .val (.long (4398046511102 : Int64)), .second, .val (.long mi), .second, .val (.long ma), .second, .val (.long te), .second, .val (.long wo), .second, .val (.long bi), .second, .val (.long nmi), .second, .unset, .unset, .unset, .unset, .unset, .unset] [(.long bi), (.long ma)])) rfl (by rw [hml]; rfl) (argsL := [(.long ma), (.long bi)]) (rest := []) (lenOf pd_3 rfl) rfl (by show 2 * 0 + _ ≤ _; exact Nat.le_of_eq rfl) (hb hby at_93) (fun _ _ => ⟨rfl, hh17, (by decide : 0 + 0 ≤ _), (by decide : 0 + 0 ≤ _)⟩)
  dsimp only [Pt.U, Pt.locs, Pt.cells, Pt.slots] at X21 l21 y21 z21 st21 hQ21
  subst l21 y21 z21
  obtain ⟨rfl, N21q, hh21⟩ := hQ21
  have N21 := Fr.app N17 N21q
  have pre22 : Go p e below (s₁.setTop (entryFrame m #[(.long x0), (.int x1), (.int x2), (.int x3)] maxLocals)) (T21.setTop (mkF m 96 #[.val (.long x0), .second, .val (.int x1), .val (.int x2), .val (.int x3), .val (.long cc), .second, .val (.long (4398046511102 : Int64)), .second, .val (.long mi), .second, .val (.long ma), .second, .val (.long te), .second, .val (.long wo), .second, .val (.long bi), .second, .val (.long nmi), .second, .unset, .unset, .unset, .unset, .unset, .unset] [(.long (f2 ma bi))])) := fun t k => pre20 t (st21 t k)
  obtain ⟨nma, h_nma⟩ : ∃ z : Int64, z = (f2 ma bi) := ⟨_, rfl⟩
  have pre23 : Go p e below (s₁.setTop (entryFrame m #[(.long x0), (.int x1), (.int x2), (.int x3)] maxLocals)) (T21.setTop (mkF m 96 #[.val (.long x0), .second, .val (.int x1), .val (.int x2), .val (.int x3), .val (.long cc), .second, .val (.long (4398046511102 : Int64)), .second, .val (.long mi), .second, .val (.long ma), .second, .val (.long te), .second, .val (.long wo), .second, .val (.long bi), .second, .val (.long nmi), .second, .unset, .unset, .unset, .unset, .unset, .unset] [(.long nma)])) := by rw [h_nma]; exact pre22
  have pre24 : Go p e below (s₁.setTop (entryFrame m #[(.long x0), (.int x1), (.int x2), (.int x3)] maxLocals)) (T21.setTop (mkF m 114 #[.val (.long x0), .second, .val (.int x1), .val (.int x2), .val (.int x3), .val (.long cc), .second, .val (.long (4398046511102 : Int64)), .second, .val (.long mi), .second, .val (.long ma), .second, .val (.long te), .second, .val (.long wo), .second, .val (.long bi), .second, .val (.long nmi), .second, .val (.long nma), .second, .unset, .unset, .unset, .unset] [(.long (((((cc + (1 : Int64)) <<< (((22 : Int32)) &&& 0x3f).toInt64)) ||| ((nma <<< (((11 : Int32)) &&& 0x3f).toInt64))) ||| nmi))])) := by
    intro t k
    refine pre23 t ?_
    show Steps p.tables e below (T21.setTop (mkF m 96 #[.val (.long x0), .second, .val (.int x1), .val (.int x2), .val (.int x3), .val (.long cc), .second, .val (.long (4398046511102 : Int64)), .second, .val (.long mi), .second, .val (.long ma), .second, .val (.long te), .second, .val (.long wo), .second, .val (.long bi), .second, .val (.long nmi), .second, .unset, .unset, .unset, .unset, .unset, .unset] [(.long nma)])) _
    refine XT.lstore X21.here hx rfl (hb hby at_96) rfl (l' := #[.val (.long x0), .second, .val (.int x1), .val (.int x2), .val (.int x3), .val (.long cc), .second, .val (.long (4398046511102 : Int64)), .second, .val (.long mi), .second, .val (.long ma), .second, .val (.long te), .second, .val (.long wo), .second, .val (.long bi), .second, .val (.long nmi), .second, .val (.long nma), .second, .unset, .unset, .unset, .unset]) rfl ?_
    show Steps p.tables e below (T21.setTop (mkF m 98 #[.val (.long x0), .second, .val (.int x1), .val (.int x2), .val (.int x3), .val (.long cc), .second, .val (.long (4398046511102 : Int64)), .second, .val (.long mi), .second, .val (.long ma), .second, .val (.long te), .second, .val (.long wo), .second, .val (.long bi), .second, .val (.long nmi), .second, .val (.long nma), .second, .unset, .unset, .unset, .unset] [])) _
    refine XT.lload X21.here hx rfl (hb hby at_98) rfl ?_
    show Steps p.tables e below (T21.setTop (mkF m 100 #[.val (.long x0), .second, .val (.int x1), .val (.int x2), .val (.int x3), .val (.long cc), .second, .val (.long (4398046511102 : Int64)), .second, .val (.long mi), .second, .val (.long ma), .second, .val (.long te), .second, .val (.long wo), .second, .val (.long bi), .second, .val (.long nmi), .second, .val (.long nma), .second, .unset, .unset, .unset, .unset] [(.long cc)])) _
    refine XT.lconstV X21.here hx rfl (1 : Int64) (hb hby at_100) rfl ?_
    show Steps p.tables e below (T21.setTop (mkF m 101 #[.val (.long x0), .second, .val (.int x1), .val (.int x2), .val (.int x3), .val (.long cc), .second, .val (.long (4398046511102 : Int64)), .second, .val (.long mi), .second, .val (.long ma), .second, .val (.long te), .second, .val (.long wo), .second, .val (.long bi), .second, .val (.long nmi), .second, .val (.long nma), .second, .unset, .unset, .unset, .unset] [(.long (1 : Int64)), (.long cc)])) _
    refine XS.ladd X21.here hx rfl (hb hby at_101) rfl ?_
    show Steps p.tables e below (T21.setTop (mkF m 102 #[.val (.long x0), .second, .val (.int x1), .val (.int x2), .val (.int x3), .val (.long cc), .second, .val (.long (4398046511102 : Int64)), .second, .val (.long mi), .second, .val (.long ma), .second, .val (.long te), .second, .val (.long wo), .second, .val (.long bi), .second, .val (.long nmi), .second, .val (.long nma), .second, .unset, .unset, .unset, .unset] [(.long (cc + (1 : Int64)))])) _
    refine XS.bipush X21.here hx rfl (hb hby at_102) ?_
    show Steps p.tables e below (T21.setTop (mkF m 104 #[.val (.long x0), .second, .val (.int x1), .val (.int x2), .val (.int x3), .val (.long cc), .second, .val (.long (4398046511102 : Int64)), .second, .val (.long mi), .second, .val (.long ma), .second, .val (.long te), .second, .val (.long wo), .second, .val (.long bi), .second, .val (.long nmi), .second, .val (.long nma), .second, .unset, .unset, .unset, .unset] [(.int (22 : Int32)), (.long (cc + (1 : Int64)))])) _
    refine XS.lshl X21.here hx rfl (hb hby at_104) rfl ?_
    show Steps p.tables e below (T21.setTop (mkF m 105 #[.val (.long x0), .second, .val (.int x1), .val (.int x2), .val (.int x3), .val (.long cc), .second, .val (.long (4398046511102 : Int64)), .second, .val (.long mi), .second, .val (.long ma), .second, .val (.long te), .second, .val (.long wo), .second, .val (.long bi), .second, .val (.long nmi), .second, .val (.long nma), .second, .unset, .unset, .unset, .unset] [(.long (((cc + (1 : Int64)) <<< (((22 : Int32)) &&& 0x3f).toInt64)))])) _
    refine XT.lload X21.here hx rfl (hb hby at_105) rfl ?_
    show Steps p.tables e below (T21.setTop (mkF m 107 #[.val (.long x0), .second, .val (.int x1), .val (.int x2), .val (.int x3), .val (.long cc), .second, .val (.long (4398046511102 : Int64)), .second, .val (.long mi), .second, .val (.long ma), .second, .val (.long te), .second, .val (.long wo), .second, .val (.long bi), .second, .val (.long nmi), .second, .val (.long nma), .second, .unset, .unset, .unset, .unset] [(.long nma), (.long (((cc + (1 : Int64)) <<< (((22 : Int32)) &&& 0x3f).toInt64)))])) _
    refine XS.bipush X21.here hx rfl (hb hby at_107) ?_
    show Steps p.tables e below (T21.setTop (mkF m 109 #[.val (.long x0), .second, .val (.int x1), .val (.int x2), .val (.int x3), .val (.long cc), .second, .val (.long (4398046511102 : Int64)), .second, .val (.long mi), .second, .val (.long ma), .second, .val (.long te), .second, .val (.long wo), .second, .val (.long bi), .second, .val (.long nmi), .second, .val (.long nma), .second, .unset, .unset, .unset, .unset] [(.int (11 : Int32)), (.long nma), (.long (((cc + (1 : Int64)) <<< (((22 : Int32)) &&& 0x3f).toInt64)))])) _
    refine XS.lshl X21.here hx rfl (hb hby at_109) rfl ?_
    show Steps p.tables e below (T21.setTop (mkF m 110 #[.val (.long x0), .second, .val (.int x1), .val (.int x2), .val (.int x3), .val (.long cc), .second, .val (.long (4398046511102 : Int64)), .second, .val (.long mi), .second, .val (.long ma), .second, .val (.long te), .second, .val (.long wo), .second, .val (.long bi), .second, .val (.long nmi), .second, .val (.long nma), .second, .unset, .unset, .unset, .unset] [(.long ((nma <<< (((11 : Int32)) &&& 0x3f).toInt64))), (.long (((cc + (1 : Int64)) <<< (((22 : Int32)) &&& 0x3f).toInt64)))])) _
    refine XS.lor X21.here hx rfl (hb hby at_110) rfl ?_
    show Steps p.tables e below (T21.setTop (mkF m 111 #[.val (.long x0), .second, .val (.int x1), .val (.int x2), .val (.int x3), .val (.long cc), .second, .val (.long (4398046511102 : Int64)), .second, .val (.long mi), .second, .val (.long ma), .second, .val (.long te), .second, .val (.long wo), .second, .val (.long bi), .second, .val (.long nmi), .second, .val (.long nma), .second, .unset, .unset, .unset, .unset] [(.long ((((cc + (1 : Int64)) <<< (((22 : Int32)) &&& 0x3f).toInt64)) ||| ((nma <<< (((11 : Int32)) &&& 0x3f).toInt64))))])) _
    refine XT.lload X21.here hx rfl (hb hby at_111) rfl ?_
    show Steps p.tables e below (T21.setTop (mkF m 113 #[.val (.long x0), .second, .val (.int x1), .val (.int x2), .val (.int x3), .val (.long cc), .second, .val (.long (4398046511102 : Int64)), .second, .val (.long mi), .second, .val (.long ma), .second, .val (.long te), .second, .val (.long wo), .second, .val (.long bi), .second, .val (.long nmi), .second, .val (.long nma), .second, .unset, .unset, .unset, .unset] [(.long nmi), (.long ((((cc + (1 : Int64)) <<< (((22 : Int32)) &&& 0x3f).toInt64)) ||| ((nma <<< (((11 : Int32)) &&& 0x3f).toInt64))))])) _
    refine XS.lor X21.here hx rfl (hb hby at_113) rfl ?_
    show Steps p.tables e below (T21.setTop (mkF m 114 #[.val (.long x0), .second, .val (.int x1), .val (.int x2), .val (.int x3), .val (.long cc), .second, .val (.long (4398046511102 : Int64)), .second, .val (.long mi), .second, .val (.long ma), .second, .val (.long te), .second, .val (.long wo), .second, .val (.long bi), .second, .val (.long nmi), .second, .val (.long nma), .second, .unset, .unset, .unset, .unset] [(.long (((((cc + (1 : Int64)) <<< (((22 : Int32)) &&& 0x3f).toInt64)) ||| ((nma <<< (((11 : Int32)) &&& 0x3f).toInt64))) ||| nmi))])) _
    exact k
  obtain ⟨ex, h_ex⟩ : ∃ z : Int64, z = (((((cc + (1 : Int64)) <<< (((22 : Int32)) &&& 0x3f).toInt64)) ||| ((nma <<< (((11 : Int32)) &&& 0x3f).toInt64))) ||| nmi) := ⟨_, rfl⟩
  have pre25 : Go p e below (s₁.setTop (entryFrame m #[(.long x0), (.int x1), (.int x2), (.int x3)] maxLocals)) (T21.setTop (mkF m 114 #[.val (.long x0), .second, .val (.int x1), .val (.int x2), .val (.int x3), .val (.long cc), .second, .val (.long (4398046511102 : Int64)), .second, .val (.long mi), .second, .val (.long ma), .second, .val (.long te), .second, .val (.long wo), .second, .val (.long bi), .second, .val (.long nmi), .second, .val (.long nma), .second, .unset, .unset, .unset, .unset] [(.long ex)])) := by rw [h_ex]; exact pre24
  have pre26 : Go p e below (s₁.setTop (entryFrame m #[(.long x0), (.int x1), (.int x2), (.int x3)] maxLocals)) (T21.setTop (mkF m 120 #[.val (.long x0), .second, .val (.int x1), .val (.int x2), .val (.int x3), .val (.long cc), .second, .val (.long (4398046511102 : Int64)), .second, .val (.long mi), .second, .val (.long ma), .second, .val (.long te), .second, .val (.long wo), .second, .val (.long bi), .second, .val (.long nmi), .second, .val (.long nma), .second, .val (.long ex), .second, .unset, .unset] [(.long te), (.long wo)])) := by
    intro t k
    refine pre25 t ?_
    show Steps p.tables e below (T21.setTop (mkF m 114 #[.val (.long x0), .second, .val (.int x1), .val (.int x2), .val (.int x3), .val (.long cc), .second, .val (.long (4398046511102 : Int64)), .second, .val (.long mi), .second, .val (.long ma), .second, .val (.long te), .second, .val (.long wo), .second, .val (.long bi), .second, .val (.long nmi), .second, .val (.long nma), .second, .unset, .unset, .unset, .unset] [(.long ex)])) _
    refine XT.lstore X21.here hx rfl (hb hby at_114) rfl (l' := #[.val (.long x0), .second, .val (.int x1), .val (.int x2), .val (.int x3), .val (.long cc), .second, .val (.long (4398046511102 : Int64)), .second, .val (.long mi), .second, .val (.long ma), .second, .val (.long te), .second, .val (.long wo), .second, .val (.long bi), .second, .val (.long nmi), .second, .val (.long nma), .second, .val (.long ex), .second, .unset, .unset]) rfl ?_
    show Steps p.tables e below (T21.setTop (mkF m 116 #[.val (.long x0), .second, .val (.int x1), .val (.int x2), .val (.int x3), .val (.long cc), .second, .val (.long (4398046511102 : Int64)), .second, .val (.long mi), .second, .val (.long ma), .second, .val (.long te), .second, .val (.long wo), .second, .val (.long bi), .second, .val (.long nmi), .second, .val (.long nma), .second, .val (.long ex), .second, .unset, .unset] [])) _
    refine XT.lload X21.here hx rfl (hb hby at_116) rfl ?_
    show Steps p.tables e below (T21.setTop (mkF m 118 #[.val (.long x0), .second, .val (.int x1), .val (.int x2), .val (.int x3), .val (.long cc), .second, .val (.long (4398046511102 : Int64)), .second, .val (.long mi), .second, .val (.long ma), .second, .val (.long te), .second, .val (.long wo), .second, .val (.long bi), .second, .val (.long nmi), .second, .val (.long nma), .second, .val (.long ex), .second, .unset, .unset] [(.long wo)])) _
    refine XT.lload X21.here hx rfl (hb hby at_118) rfl ?_
    show Steps p.tables e below (T21.setTop (mkF m 120 #[.val (.long x0), .second, .val (.int x1), .val (.int x2), .val (.int x3), .val (.long cc), .second, .val (.long (4398046511102 : Int64)), .second, .val (.long mi), .second, .val (.long ma), .second, .val (.long te), .second, .val (.long wo), .second, .val (.long bi), .second, .val (.long nmi), .second, .val (.long nma), .second, .val (.long ex), .second, .unset, .unset] [(.long te), (.long wo)])) _
    exact k
  obtain ⟨_, _, ⟨T27, L27, k27, n27⟩, -, X27, ⟨Lc27, hQ27, l27, y27, z27⟩, st27⟩ := Jvm.LawKit.callS X21 hx (y := (⟨"com/example/lanescan/lanescan/Readings", "add", "(JJ)J"⟩ : MethodName)) hown (mvT hZ (hw _ (List.mem_of_getElem? (i := 11) rfl))) (mvT hZ (hw _ (List.mem_of_getElem? (i := 12) rfl))) (mvT hZ (hw _ (List.mem_of_getElem? (i := 13) rfl))) (mvT hZ (hw _ (List.mem_of_getElem? (i := 14) rfl))) (by decide) (backOf (W := 0) (rm3 l Z a0 hw [] wo te  h0 n0 Z0 ) hZ (hw _ (List.mem_of_getElem? (i := 14) rfl)) (hw _ (List.mem_of_getElem? (i := 13) rfl)) (by decide) (by decide)) (g := (mkF m 120 #[.val (.long x0), .second, .val (.int x1), .val (.int x2), .val (.int x3), .val (.long cc), .second, .val (.long (4398046511102 : Int64)), .second, .val (.long mi), .second, .val (.long ma), .second, .val (.long te), .second, .val (.long wo), .second, .val (.long bi), .second, .val (.long nmi), .second, .val (.long nma), .second, .val (.long ex), .second, .unset, .unset] [(.long te), (.long wo)])) rfl (by rw [hml]; rfl) (argsL := [(.long wo), (.long te)]) (rest := []) (lenOf pd_3 rfl) rfl (by show 2 * 0 + _ ≤ _; exact Nat.le_of_eq rfl) (hb hby at_120) (fun _ _ => ⟨rfl, hh21, (by decide : 0 + 0 ≤ _), (by decide : 0 + 0 ≤ _)⟩)
  dsimp only [Pt.U, Pt.locs, Pt.cells, Pt.slots] at X27 l27 y27 z27 st27 hQ27
  subst l27 y27 z27
  obtain ⟨rfl, N27q, hh27⟩ := hQ27
  have N27 := Fr.app N21 N27q
  have pre28 : Go p e below (s₁.setTop (entryFrame m #[(.long x0), (.int x1), (.int x2), (.int x3)] maxLocals)) (T27.setTop (mkF m 123 #[.val (.long x0), .second, .val (.int x1), .val (.int x2), .val (.int x3), .val (.long cc), .second, .val (.long (4398046511102 : Int64)), .second, .val (.long mi), .second, .val (.long ma), .second, .val (.long te), .second, .val (.long wo), .second, .val (.long bi), .second, .val (.long nmi), .second, .val (.long nma), .second, .val (.long ex), .second, .unset, .unset] [(.long (f3 wo te))])) := fun t k => pre26 t (st27 t k)
  obtain ⟨got, h_got⟩ : ∃ z : Int64, z = (f3 wo te) := ⟨_, rfl⟩
  have pre29 : Go p e below (s₁.setTop (entryFrame m #[(.long x0), (.int x1), (.int x2), (.int x3)] maxLocals)) (T27.setTop (mkF m 123 #[.val (.long x0), .second, .val (.int x1), .val (.int x2), .val (.int x3), .val (.long cc), .second, .val (.long (4398046511102 : Int64)), .second, .val (.long mi), .second, .val (.long ma), .second, .val (.long te), .second, .val (.long wo), .second, .val (.long bi), .second, .val (.long nmi), .second, .val (.long nma), .second, .val (.long ex), .second, .unset, .unset] [(.long got)])) := by rw [h_got]; exact pre28
  have pre30 : Go p e below (s₁.setTop (entryFrame m #[(.long x0), (.int x1), (.int x2), (.int x3)] maxLocals)) (T27.setTop (mkF m 130 #[.val (.long x0), .second, .val (.int x1), .val (.int x2), .val (.int x3), .val (.long cc), .second, .val (.long (4398046511102 : Int64)), .second, .val (.long mi), .second, .val (.long ma), .second, .val (.long te), .second, .val (.long wo), .second, .val (.long bi), .second, .val (.long nmi), .second, .val (.long nma), .second, .val (.long ex), .second, .val (.long got), .second] [(.int (XT.cmpL got ex))])) := by
    intro t k
    refine pre29 t ?_
    show Steps p.tables e below (T27.setTop (mkF m 123 #[.val (.long x0), .second, .val (.int x1), .val (.int x2), .val (.int x3), .val (.long cc), .second, .val (.long (4398046511102 : Int64)), .second, .val (.long mi), .second, .val (.long ma), .second, .val (.long te), .second, .val (.long wo), .second, .val (.long bi), .second, .val (.long nmi), .second, .val (.long nma), .second, .val (.long ex), .second, .unset, .unset] [(.long got)])) _
    refine XT.lstore X27.here hx rfl (hb hby at_123) rfl (l' := #[.val (.long x0), .second, .val (.int x1), .val (.int x2), .val (.int x3), .val (.long cc), .second, .val (.long (4398046511102 : Int64)), .second, .val (.long mi), .second, .val (.long ma), .second, .val (.long te), .second, .val (.long wo), .second, .val (.long bi), .second, .val (.long nmi), .second, .val (.long nma), .second, .val (.long ex), .second, .val (.long got), .second]) rfl ?_
    show Steps p.tables e below (T27.setTop (mkF m 125 #[.val (.long x0), .second, .val (.int x1), .val (.int x2), .val (.int x3), .val (.long cc), .second, .val (.long (4398046511102 : Int64)), .second, .val (.long mi), .second, .val (.long ma), .second, .val (.long te), .second, .val (.long wo), .second, .val (.long bi), .second, .val (.long nmi), .second, .val (.long nma), .second, .val (.long ex), .second, .val (.long got), .second] [])) _
    refine XT.lload X27.here hx rfl (hb hby at_125) rfl ?_
    show Steps p.tables e below (T27.setTop (mkF m 127 #[.val (.long x0), .second, .val (.int x1), .val (.int x2), .val (.int x3), .val (.long cc), .second, .val (.long (4398046511102 : Int64)), .second, .val (.long mi), .second, .val (.long ma), .second, .val (.long te), .second, .val (.long wo), .second, .val (.long bi), .second, .val (.long nmi), .second, .val (.long nma), .second, .val (.long ex), .second, .val (.long got), .second] [(.long got)])) _
    refine XT.lload X27.here hx rfl (hb hby at_127) rfl ?_
    show Steps p.tables e below (T27.setTop (mkF m 129 #[.val (.long x0), .second, .val (.int x1), .val (.int x2), .val (.int x3), .val (.long cc), .second, .val (.long (4398046511102 : Int64)), .second, .val (.long mi), .second, .val (.long ma), .second, .val (.long te), .second, .val (.long wo), .second, .val (.long bi), .second, .val (.long nmi), .second, .val (.long nma), .second, .val (.long ex), .second, .val (.long got), .second] [(.long ex), (.long got)])) _
    refine XT.lcmp X27.here hx rfl (hb hby at_129) rfl ?_
    show Steps p.tables e below (T27.setTop (mkF m 130 #[.val (.long x0), .second, .val (.int x1), .val (.int x2), .val (.int x3), .val (.long cc), .second, .val (.long (4398046511102 : Int64)), .second, .val (.long mi), .second, .val (.long ma), .second, .val (.long te), .second, .val (.long wo), .second, .val (.long bi), .second, .val (.long nmi), .second, .val (.long nma), .second, .val (.long ex), .second, .val (.long got), .second] [(.int (XT.cmpL got ex))])) _
    exact k
  have hc130_31 : got = ex := by
    exact own_law h_cs h_cc h_mi h_ma h_te h_wo h_bi h_nmi h_nma h_ex h_got
  have pre32 : Go p e below (s₁.setTop (entryFrame m #[(.long x0), (.int x1), (.int x2), (.int x3)] maxLocals)) (T27.setTop (mkF m 138 #[.val (.long x0), .second, .val (.int x1), .val (.int x2), .val (.int x3), .val (.long cc), .second, .val (.long (4398046511102 : Int64)), .second, .val (.long mi), .second, .val (.long ma), .second, .val (.long te), .second, .val (.long wo), .second, .val (.long bi), .second, .val (.long nmi), .second, .val (.long nma), .second, .val (.long ex), .second, .val (.long got), .second] [(.int (1 : Int32))])) := by
    intro t k
    refine pre30 t ?_
    show Steps p.tables e below (T27.setTop (mkF m 130 #[.val (.long x0), .second, .val (.int x1), .val (.int x2), .val (.int x3), .val (.long cc), .second, .val (.long (4398046511102 : Int64)), .second, .val (.long mi), .second, .val (.long ma), .second, .val (.long te), .second, .val (.long wo), .second, .val (.long bi), .second, .val (.long nmi), .second, .val (.long nma), .second, .val (.long ex), .second, .val (.long got), .second] [(.int (XT.cmpL got ex))])) _
    refine XS.ifNo X27.here hx rfl (hb hby at_130) rfl (XT.ll_ne_f hc130_31) ?_
    show Steps p.tables e below (T27.setTop (mkF m 133 #[.val (.long x0), .second, .val (.int x1), .val (.int x2), .val (.int x3), .val (.long cc), .second, .val (.long (4398046511102 : Int64)), .second, .val (.long mi), .second, .val (.long ma), .second, .val (.long te), .second, .val (.long wo), .second, .val (.long bi), .second, .val (.long nmi), .second, .val (.long nma), .second, .val (.long ex), .second, .val (.long got), .second] [])) _
    refine XS.iconst X27.here hx rfl (hb hby at_133) ?_
    show Steps p.tables e below (T27.setTop (mkF m 134 #[.val (.long x0), .second, .val (.int x1), .val (.int x2), .val (.int x3), .val (.long cc), .second, .val (.long (4398046511102 : Int64)), .second, .val (.long mi), .second, .val (.long ma), .second, .val (.long te), .second, .val (.long wo), .second, .val (.long bi), .second, .val (.long nmi), .second, .val (.long nma), .second, .val (.long ex), .second, .val (.long got), .second] [(.int (1 : Int32))])) _
    refine XS.goto X27.here hx rfl (pc0 := 134) (pc' := 138) rfl (hb hby at_134) (by decide) (by decide) ?_
    show Steps p.tables e below (T27.setTop (mkF m 138 #[.val (.long x0), .second, .val (.int x1), .val (.int x2), .val (.int x3), .val (.long cc), .second, .val (.long (4398046511102 : Int64)), .second, .val (.long mi), .second, .val (.long ma), .second, .val (.long te), .second, .val (.long wo), .second, .val (.long bi), .second, .val (.long nmi), .second, .val (.long nma), .second, .val (.long ex), .second, .val (.long got), .second] [(.int (1 : Int32))])) _
    exact k
  obtain ⟨fs, hr, hrun, hended, hW, hsame⟩ := X27.leave (hlocks := hlk) (v := some (.int (1 : Int32))) (fun h => by rw [Bd.returns] at h; cases h)
  refine ⟨_, _, pre32 _ (retN X27 hx (t := .boolean) Bd.returns (by simp) (hb hby at_138) hr), hrun, hended, _, _, rfl, ?_, ⟨_, rfl⟩, hW, hsame.mono (by decide) (by decide)⟩
  show Q0 Z x0 x1 x2 x3 h0 n0 _ T27.heap _
  rw [hh27]
  exact ⟨rfl, N27⟩
set_option maxRecDepth 65536 in
set_option maxHeartbeats 40000000 in
theorem comes_1 {Post : Tables → Env → Array Value → State → Outcome → State → Prop} (hpost : ∀ tb e args s v u, (limb_1_1.after args s (.returned v) u = true ∧ limb_1_2.after args s (.returned v) u = true ∧ True) → FrameEnd s (.returned v) u (Jvm.fieldLocs frame_1_writes args s ++ Jvm.arrayLocs frame_1_arrays args s ++ Jvm.staticLocs frame_1_statics s) 0 0 → Post tb e args s (.returned v) u) :
    ArmFor flags0 classFile x code maxLocals ret World_1 tables_1 room_1 Calls_1 rest_1 Pre_1 Post := by
  intro l hfl _ _ p e ha hc hk s m args below hf hA hF happ hP
  obtain ⟨hcalls, hrest, hpre⟩ := hP
  obtain ⟨-, -, -, hnamed, -, -, -, hat⟩ := (Spec.applies_iff hf).mp happ
  obtain ⟨hg, hn⟩ := and_e (Cond.before_iff.mp (show (Jvm.Cond.and given_1 narrow_1).before args s = true from hpre))
  obtain ⟨u1, u2⟩ := and_e hg
  obtain ⟨u3, u4⟩ := and_e u2
  obtain ⟨u5, u6⟩ := and_e u4
  obtain ⟨u7, u8⟩ := and_e u6
  obtain ⟨w0, w1, w2, w3, rfl⟩ : ∃ w0 w1 w2 w3 : Value, args = #[w0, w1, w2, w3] := by
    have hs : args.size = 4 := by simpa [Cond.value, given_1] using u1
    obtain ⟨L⟩ := args
    match L, hs with
    | [w0, w1, w2, w3], _ => exact ⟨w0, w1, w2, w3, rfl⟩
  have hw := fun d (hd : d ∈ tables_1) => atoms_spec (ws := Jvm.Cond.code x code maxLocals ret :: tables_1) hat d (List.mem_cons_of_mem _ hd)
  obtain ⟨i0, ei0⟩ := isL_v u3
  obtain rfl : w0 = (.long i0) := Option.some.inj ei0
  obtain ⟨i1, ei1⟩ := is_v u5
  obtain rfl : w1 = (.int i1) := Option.some.inj ei1
  obtain ⟨i2, ei2⟩ := is_v u7
  obtain rfl : w2 = (.int i2) := Option.some.inj ei2
  obtain ⟨i3, ei3⟩ := is_v u8
  obtain rfl : w3 = (.int i3) := Option.some.inj ei3
  obtain ⟨n, o, h1, h2, h3, _, L, rfl, ⟨rfl, N⟩, hq⟩ := rm0 l s _ hw tables_1 i0 i1 i2 i3 s.heap s.heap.size (Nat.le_refl _) p e ha hc hk s m _ below hf ((Spec.applies_iff_loose hf).mp happ).1 ⟨rfl, State.Warmed39.refl s, rfl⟩ trivial
  refine ⟨n, _, h1, h2, h3, hpost _ _ _ _ _ _ ⟨Cond.after_iff.mpr rfl, Cond.after_iff.mpr (eq_i res_at (Term.int_eval (1)) rfl), trivial⟩ ⟨hq.1, hq.2.1, (hq.2.2.sift fun y hy => Or.inr (N y hy)).mono (by decide) (by decide)⟩⟩
theorem main_1_1 : Claimed_1_1 := comes_1 fun _ _ _ _ _ _ h hF => ⟨h.1, hF⟩
theorem main_1_2 : Claimed_1_2 := comes_1 fun _ _ _ _ _ _ h hF => ⟨h.2.1, hF⟩
end Jvm.Pilot.@@N@@
namespace Jvm.Pilot.@@N@@
open Jvm Jvm.ClassFile Sem Op Lib Jvm.Free Jvm.Stand Jvm.Pilot.@@N@@.Jvm.D
/-! MADE BY PROGRAM (witnessworld.py) out of the Statement's table words and the real class files: 10 classes; the members and pool entries that the words name. The judged class is class 1, her method 1. -/
namespace start1
open Jvm.ClassFile
def u (s : String) : CpInfo := .utf8 (stringToUtf16 s)
/-- a pool by its gaps: so many unusable entries, then the entry; so many at the end -/
def gap : Nat → List CpInfo → List CpInfo
  | 0, r => r
  | n + 1, r => .unusable :: gap n r
def poolList (es : List (Nat × CpInfo)) (last : Nat) : List CpInfo := es.foldr (fun e r => gap e.1 (e.2 :: r)) (gap last [])
def pool (es : List (Nat × CpInfo)) (last : Nat) : Array CpInfo := ⟨poolList es last⟩
def fileOf (pool : Array CpInfo) (this : Nat) (attrs : Array Attribute := #[]) (ms : Array MethodInfo := #[]) (fl : Nat := 33) (sup : Nat := 0) (ifs : Array Nat := #[]) (fds : Array FieldInfo := #[]) : ClassFile where
  minorVersion := 0
  majorVersion := 65
  constantPool := pool
  accessFlags := fl
  thisClass := this
  superClass := sup
  interfaces := ifs
  fields := fds
  methods := ms
  attributes := attrs
def plain (name : String) (sup : Option ClassId) : Class where
  name := name
  kind := .ordinary
  loader := none
  accessFlags := 33
  super := sup
  interfaces := #[]
  cf := none
  fields := #[]
  methods := #[]
  instanceTypes := #[]
  staticTypes := #[]
  resolved := #[]
  callSites := []
  init := .initialized
  statics := none
  mirror := none

def pool0 : Array CpInfo := pool [(5, u "<init>"), (0, u "()V"), (1, .class_ 10), (1, u "java/lang/Object")] 113

def k0m0 : Method := { name := "<init>", desc := "()V", sig := { parameters := [], returnType := none }, accessFlags := 1, code := none }
/-- java/lang/Object -/
def k0 : Class := { plain "java/lang/Object" none with
  accessFlags := 33
  interfaces := #[]
  cf := some (fileOf pool0 8 #[] #[{ accessFlags := 1, nameIndex := 5, descriptorIndex := 6, attributes := #[] }] 33 0 #[] #[])
  fields := #[]
  methods := #[k0m0]
  instanceTypes := #[]
  staticTypes := #[]
  resolved := Array.replicate 124 none
  statics := none }

def pool1 : Array CpInfo := pool [(2, .class_ 4), (1, u "java/lang/Object"), (0, u "<init>"), (0, u "()V"), (0, .long 4398046511103), (1, .long 4398046511102), (1, .integer 2147483647), (0, .long 1024), (1, .methodref 15 16), (0, .class_ 17), (0, .nameAndType 18 19), (0, u "java/lang/Math"), (0, u "min"), (0, u "(JJ)J"), (0, .methodref 15 21), (0, .nameAndType 22 19), (0, u "max"), (0, .methodref 24 25), (0, .class_ 26), (0, .nameAndType 27 19), (0, u "com/example/lanescan/lanescan/Readings"), (0, u "add"), (0, .class_ 29), (0, u "com/example/lanescan/lanescan/ReadingsAddPinLaw"), (2, u "law"), (0, u "(JIII)Z")] 3

def k1m0 : Method := { name := "<init>", desc := "()V", sig := { parameters := [], returnType := none }, accessFlags := 2, code := none }
def k1c1 : Code := { maxStack := 5, maxLocals := 27, code := code, exceptionTable := #[], attributes := #[] }
def k1m1 : Method := { name := "law", desc := "(JIII)Z", sig := { parameters := [.long, .int, .int, .int], returnType := some .boolean }, accessFlags := 9, code := some k1c1 }
/-- com/example/lanescan/lanescan/ReadingsAddPinLaw -/
def k1 : Class := { plain "com/example/lanescan/lanescan/ReadingsAddPinLaw" (some 0) with
  accessFlags := 49
  interfaces := #[]
  cf := some (fileOf pool1 28 #[] #[{ accessFlags := 2, nameIndex := 5, descriptorIndex := 6, attributes := #[] }, { accessFlags := 9, nameIndex := 32, descriptorIndex := 33, attributes := #[] }] 49 2 #[] #[])
  fields := #[]
  methods := #[k1m0, k1m1]
  instanceTypes := #[]
  staticTypes := #[]
  resolved := Array.replicate 37 none
  statics := none }

def pool2 : Array CpInfo := pool [(1, .class_ 2), (0, u "java/lang/Math"), (1, .class_ 6), (1, u "java/lang/Object"), (0, u "<init>"), (0, u "()V"), (89, .class_ 100), (1, u "java/lang/Math$RandomNumberGeneratorHolder"), (20, u "(JJ)J"), (50, u "negativeZeroFloatBits"), (0, u "J"), (2, u "negativeZeroDoubleBits"), (21, u "max"), (2, u "min"), (43, u "$assertionsDisabled"), (0, u "Z"), (91, u "twoToTheDoubleScaleDown"), (0, u "D"), (4, u "twoToTheDoubleScaleUp"), (9, u "E"), (3, u "PI"), (2, u "TAU"), (2, u "DEGREES_TO_RADIANS"), (0, u "RADIANS_TO_DEGREES")] 94

def k2m0 : Method := { name := "<init>", desc := "()V", sig := { parameters := [], returnType := none }, accessFlags := 2, code := none }
def k2c1 : Code := { maxStack := 4, maxLocals := 4, code := jdk_29_method_66_code, exceptionTable := #[], attributes := #[] }
def k2m1 : Method := { name := "max", desc := "(JJ)J", sig := { parameters := [.long, .long], returnType := some .long }, accessFlags := 9, code := some k2c1 }
def k2c2 : Code := { maxStack := 4, maxLocals := 4, code := jdk_29_method_70_code, exceptionTable := #[], attributes := #[] }
def k2m2 : Method := { name := "min", desc := "(JJ)J", sig := { parameters := [.long, .long], returnType := some .long }, accessFlags := 9, code := some k2c2 }
/-- java/lang/Math -/
def k2 : Class := { plain "java/lang/Math" (some 0) with
  accessFlags := 49
  interfaces := #[]
  cf := some (fileOf pool2 1 #[.nestMembers #[98]] #[{ accessFlags := 2, nameIndex := 7, descriptorIndex := 8, attributes := #[] }, { accessFlags := 9, nameIndex := 198, descriptorIndex := 121, attributes := #[] }, { accessFlags := 9, nameIndex := 201, descriptorIndex := 121, attributes := #[] }] 49 4 #[] #[{ accessFlags := 25, nameIndex := 354, descriptorIndex := 339, attributes := #[] }, { accessFlags := 25, nameIndex := 358, descriptorIndex := 339, attributes := #[] }, { accessFlags := 25, nameIndex := 361, descriptorIndex := 339, attributes := #[] }, { accessFlags := 26, nameIndex := 364, descriptorIndex := 339, attributes := #[] }, { accessFlags := 26, nameIndex := 365, descriptorIndex := 339, attributes := #[] }, { accessFlags := 26, nameIndex := 172, descriptorIndex := 173, attributes := #[] }, { accessFlags := 26, nameIndex := 176, descriptorIndex := 173, attributes := #[] }, { accessFlags := 8, nameIndex := 344, descriptorIndex := 339, attributes := #[] }, { accessFlags := 8, nameIndex := 338, descriptorIndex := 339, attributes := #[] }, { accessFlags := 4120, nameIndex := 245, descriptorIndex := 246, attributes := #[] }])
  fields := #[{ name := "E", type := .double, accessFlags := 25, slot := 0, constantValue := 0 }, { name := "PI", type := .double, accessFlags := 25, slot := 1, constantValue := 0 }, { name := "TAU", type := .double, accessFlags := 25, slot := 2, constantValue := 0 }, { name := "DEGREES_TO_RADIANS", type := .double, accessFlags := 26, slot := 3, constantValue := 0 }, { name := "RADIANS_TO_DEGREES", type := .double, accessFlags := 26, slot := 4, constantValue := 0 }, { name := "negativeZeroFloatBits", type := .long, accessFlags := 26, slot := 5, constantValue := 0 }, { name := "negativeZeroDoubleBits", type := .long, accessFlags := 26, slot := 6, constantValue := 0 }, { name := "twoToTheDoubleScaleUp", type := .double, accessFlags := 8, slot := 7, constantValue := 0 }, { name := "twoToTheDoubleScaleDown", type := .double, accessFlags := 8, slot := 8, constantValue := 0 }, { name := "$assertionsDisabled", type := .boolean, accessFlags := 4120, slot := 9, constantValue := 0 }]
  methods := #[k2m0, k2m1, k2m2]
  instanceTypes := #[]
  staticTypes := #[.double, .double, .double, .double, .double, .long, .long, .double, .double, .boolean]
  resolved := Array.replicate 460 none
  statics := none }

def pool3 : Array CpInfo := pool [(1, .class_ 2), (0, u "com/example/lanescan/lanescan/Readings"), (3, .class_ 8), (1, u "java/lang/Object"), (0, u "<init>"), (0, u "()V"), (0, .long 1024), (1, .long 4194304), (1, .long 2047), (1, .long 18446744073709549568), (1, .long 18446744073705359359), (8, u "(JJ)J"), (7, u "BOUND_BITS"), (0, u "I"), (2, u "BOUND_MASK"), (0, u "J"), (0, u "MAX_SHIFT"), (0, u "COUNT_SHIFT"), (1, u "BIAS"), (0, u "NONE"), (0, u "COUNT_LIMIT"), (5, u "add")] 6

def k3m0 : Method := { name := "<init>", desc := "()V", sig := { parameters := [], returnType := none }, accessFlags := 2, code := none }
def k3c1 : Code := { maxStack := 6, maxLocals := 8, code := prog_8_method_3_code, exceptionTable := #[], attributes := #[] }
def k3m1 : Method := { name := "add", desc := "(JJ)J", sig := { parameters := [.long, .long], returnType := some .long }, accessFlags := 8, code := some k3c1 }
/-- com/example/lanescan/lanescan/Readings -/
def k3 : Class := { plain "com/example/lanescan/lanescan/Readings" (some 0) with
  accessFlags := 48
  interfaces := #[]
  cf := some (fileOf pool3 1 #[] #[{ accessFlags := 2, nameIndex := 9, descriptorIndex := 10, attributes := #[] }, { accessFlags := 8, nameIndex := 53, descriptorIndex := 28, attributes := #[] }] 48 6 #[] #[{ accessFlags := 26, nameIndex := 36, descriptorIndex := 37, attributes := #[] }, { accessFlags := 26, nameIndex := 40, descriptorIndex := 41, attributes := #[] }, { accessFlags := 26, nameIndex := 42, descriptorIndex := 37, attributes := #[] }, { accessFlags := 26, nameIndex := 43, descriptorIndex := 37, attributes := #[] }, { accessFlags := 26, nameIndex := 45, descriptorIndex := 41, attributes := #[] }, { accessFlags := 24, nameIndex := 46, descriptorIndex := 41, attributes := #[] }, { accessFlags := 24, nameIndex := 47, descriptorIndex := 41, attributes := #[] }])
  fields := #[{ name := "BOUND_BITS", type := .int, accessFlags := 26, slot := 0, constantValue := 0 }, { name := "BOUND_MASK", type := .long, accessFlags := 26, slot := 1, constantValue := 0 }, { name := "MAX_SHIFT", type := .int, accessFlags := 26, slot := 2, constantValue := 0 }, { name := "COUNT_SHIFT", type := .int, accessFlags := 26, slot := 3, constantValue := 0 }, { name := "BIAS", type := .long, accessFlags := 26, slot := 4, constantValue := 0 }, { name := "NONE", type := .long, accessFlags := 24, slot := 5, constantValue := 0 }, { name := "COUNT_LIMIT", type := .long, accessFlags := 24, slot := 6, constantValue := 0 }]
  methods := #[k3m0, k3m1]
  instanceTypes := #[]
  staticTypes := #[.int, .long, .int, .int, .long, .long, .long]
  resolved := Array.replicate 60 none
  statics := none }

def pool4 : Array CpInfo := pool [(1, u "java/lang/Cloneable"), (0, .class_ 1), (0, u "java/lang/Object"), (0, .class_ 3)] 3

/-- java/lang/Cloneable -/
def k4 : Class := { plain "java/lang/Cloneable" (some 0) with
  accessFlags := 1537
  interfaces := #[]
  cf := some (fileOf pool4 2 #[] #[] 1537 4 #[] #[])
  fields := #[]
  methods := #[]
  instanceTypes := #[]
  staticTypes := #[]
  resolved := Array.replicate 8 none
  statics := none }

def pool5 : Array CpInfo := pool [(1, u "java/io/Serializable"), (0, .class_ 1), (0, u "java/lang/Object"), (0, .class_ 3)] 3

/-- java/io/Serializable -/
def k5 : Class := { plain "java/io/Serializable" (some 0) with
  accessFlags := 1537
  interfaces := #[]
  cf := some (fileOf pool5 2 #[] #[] 1537 4 #[] #[])
  fields := #[]
  methods := #[]
  instanceTypes := #[]
  staticTypes := #[]
  resolved := Array.replicate 8 none
  statics := none }

/-- the primitive byte -/
def k6 : Class := { plain "byte" none with kind := .primitive 'B', accessFlags := 0x411 }
/-- [B -/
def k7 : Class := { plain "[B" (some 0) with kind := .array 6 .byte, interfaces := #[4, 5], accessFlags := 1041 }

/-- the primitive int -/
def k8 : Class := { plain "int" none with kind := .primitive 'I', accessFlags := 0x411 }
/-- [I -/
def k9 : Class := { plain "[I" (some 0) with kind := .array 8 .int, interfaces := #[4, 5], accessFlags := 1041 }

def heap : Heap := #[]
def classes : Array Class := #[k0, k1, k2, k3, k4, k5, k6, k7, k8, k9]
def interned : List (Array UInt16 × Addr) := []
def slotsUsed : Nat := 0
def theMethod : MethodId := ⟨1, 1⟩
def args0 : Array Value := #[.long 5, .int 7, .int 3, .int 1]
def aboutOver (below : List Frame) : State where
  vm := { classes := classes, interned := interned.toArray }
  heap := heap
  slotsUsed := slotsUsed
  threads := #[{ frames := .invoking theMethod args0 :: below }]
def below0 : List Frame := [.native { method := ⟨0, 0⟩, args := #[] }]
def about1 : State := aboutOver below0
def p0 : Program := .bare "" "" ""
def e0 : Env := launch0.env 0 0 0
theorem w_frames : about1.frames = Frame.invoking theMethod args0 :: below0 := rfl
set_option maxRecDepth 65536 in
theorem w_args : argsFit about1.vm theMethod args0 = true := by decide +kernel
set_option maxRecDepth 65536 in
theorem w_heap : heapFits about1 = true := by decide +kernel
set_option maxRecDepth 65536 in
theorem w_runnable : about1.curStatus? = some .runnable := by decide +kernel
set_option maxRecDepth 65536 in
theorem w_alone : about1.alone = true := by decide +kernel
set_option maxRecDepth 65536 in
theorem w_named : about1.methodNamed? x = some theMethod := by decide +kernel
set_option maxRecDepth 65536 in
theorem w_hears : about1.hears theMethod below0 = true := by decide +kernel
set_option maxRecDepth 65536 in
theorem w_ripe : about1.ripe theMethod args0 below0 = true := by decide +kernel
theorem w_running : about1.status = .running := rfl
set_option maxRecDepth 65536 in
theorem w_room : about1.hasRoom e0.platform room_1 = true :=
  launch0.hasRoom_least _ room_1 (by decide +kernel) (by decide +kernel) (by decide +kernel) (by decide +kernel) (by decide +kernel) (by decide +kernel)
theorem allAtoms_all (ts : List Jvm.Cond) (a : Array Jvm.Value) (st : Jvm.State) : (allAtoms ts).before a st = ts.all (fun c => c.before a st) := by
  induction ts with
  | nil => rfl
  | cons c t ih =>
    show (Jvm.Cond.and c (allAtoms t)).before a st = _
    rw [Jvm.Cond.before_and, ih, List.all_cons]
def words1 : List Jvm.Cond := Jvm.Cond.code x code maxLocals ret :: tables_1
/-- a 'code' word, met by the world's own term for the bytes: nothing is compared byte by byte -/
theorem code_word {y : MethodName} {bytes : ByteArray} {mx : Nat} {rt : Option FieldType} {a : Array Value} {s : State} {m : MethodId} {meth : Method} {c : Code} (h1 : s.methodNamed? y = some m) (h2 : s.vm.method? m = some meth) (h3 : meth.code = some c) (h4 : c.code = bytes)
    (h5 : (c.maxLocals == mx && c.exceptionTable.isEmpty && decide (c.maxStack ≤ mostOperands) && decide (meth.sig.returnType = rt) && !meth.locks && decide (parseMethodDescriptor y.desc = some meth.sig)) = true) : (Jvm.Cond.code y bytes mx rt).before a s = true := by
  simp only [Bool.and_eq_true, beq_iff_eq, Bool.not_eq_true', decide_eq_true_eq] at h5
  obtain ⟨⟨⟨⟨⟨g1, g2⟩, g3⟩, g4⟩, g5⟩, g6⟩ := h5
  simp [Cond.before, Cond.holds, Cond.value, h1, h2, h3, h4, g1, g2, g3, g4, g5, g6]
def isCode : Jvm.Cond → Bool
  | .code _ _ _ _ => true
  | _ => false
theorem all_split {L : List Jvm.Cond} {P : Jvm.Cond → Bool} (h1 : L.all (fun c => isCode c || P c) = true) (h2 : ∀ c ∈ L.filter isCode, P c = true) : L.all P = true := by
  refine List.all_eq_true.mpr fun c hc => ?_
  have h := List.all_eq_true.mp h1 c hc
  rcases Bool.eq_false_or_eq_true (isCode c) with hi | hi
  · exact h2 c (List.mem_filter.mpr ⟨hc, hi⟩)
  · simpa [hi] using h
set_option maxRecDepth 65536 in
theorem w_c0 : (Jvm.Cond.code x code maxLocals ret).before args0 about1 = true := code_word (m := ⟨1, 1⟩) (meth := k1m1) (c := k1c1) (by decide +kernel) rfl rfl rfl (by decide +kernel)
set_option maxRecDepth 65536 in
theorem w_c1 : (Jvm.Cond.code ({ cls := "java/lang/Math", name := "min", desc := "(JJ)J" } : Jvm.MethodName) jdk_29_method_70_code (4 : Nat) (Option.some Jvm.ClassFile.FieldType.long)).before args0 about1 = true := code_word (m := ⟨2, 2⟩) (meth := k2m2) (c := k2c2) (by decide +kernel) rfl rfl rfl (by decide +kernel)
set_option maxRecDepth 65536 in
theorem w_c2 : (Jvm.Cond.code ({ cls := "java/lang/Math", name := "max", desc := "(JJ)J" } : Jvm.MethodName) jdk_29_method_66_code (4 : Nat) (Option.some Jvm.ClassFile.FieldType.long)).before args0 about1 = true := code_word (m := ⟨2, 1⟩) (meth := k2m1) (c := k2c1) (by decide +kernel) rfl rfl rfl (by decide +kernel)
set_option maxRecDepth 65536 in
theorem w_c3 : (Jvm.Cond.code ({ cls := "com/example/lanescan/lanescan/Readings", name := "add", desc := "(JJ)J" } : Jvm.MethodName) prog_8_method_3_code (8 : Nat) (Option.some Jvm.ClassFile.FieldType.long)).before args0 about1 = true := code_word (m := ⟨3, 1⟩) (meth := k3m1) (c := k3c1) (by decide +kernel) rfl rfl rfl (by decide +kernel)
def codes1 : List Jvm.Cond := [Jvm.Cond.code x code maxLocals ret, Jvm.Cond.code ({ cls := "java/lang/Math", name := "min", desc := "(JJ)J" } : Jvm.MethodName) jdk_29_method_70_code (4 : Nat) (Option.some Jvm.ClassFile.FieldType.long), Jvm.Cond.code ({ cls := "java/lang/Math", name := "max", desc := "(JJ)J" } : Jvm.MethodName) jdk_29_method_66_code (4 : Nat) (Option.some Jvm.ClassFile.FieldType.long), Jvm.Cond.code ({ cls := "com/example/lanescan/lanescan/Readings", name := "add", desc := "(JJ)J" } : Jvm.MethodName) prog_8_method_3_code (8 : Nat) (Option.some Jvm.ClassFile.FieldType.long)]
set_option maxRecDepth 65536 in
theorem codes_eq : words1.filter isCode = codes1 := rfl
theorem w_codes : ∀ c ∈ words1.filter isCode, c.before args0 about1 = true := by
  rw [codes_eq]
  intro c hc
  simp only [codes1, List.mem_cons, List.not_mem_nil, or_false] at hc
  rcases hc with rfl | rfl | rfl | rfl
  · exact w_c0
  · exact w_c1
  · exact w_c2
  · exact w_c3
set_option maxRecDepth 65536 in
theorem w_t1 : words1.all (fun c => isCode c || c.before args0 about1) = true := by decide +kernel
theorem w_tables : (allAtoms (Jvm.Cond.code x code maxLocals ret :: tables_1)).before args0 about1 = true := by
  rw [allAtoms_all]
  show words1.all (fun c => c.before args0 about1) = true
  refine all_split ?_ w_codes
  rw [w_t1]
set_option maxRecDepth 65536 in
theorem w_case : (Jvm.Cond.and given_1 narrow_1).before args0 about1 = true := by decide +kernel
theorem w_applies : (headSpec (Jvm.Cond.code x code maxLocals ret :: tables_1) room_1).applies x e0.platform about1 = true :=
  (Spec.applies_iff w_frames).mpr ⟨w_running, w_runnable, w_alone, w_named, w_hears, w_ripe, w_room, w_tables⟩
theorem atStart : AtStart classFile x code maxLocals ret World_1 tables_1 room_1 Calls_1 rest_1 Pre_1 launch0 p0 e0 about1 theMethod args0 below0 :=
  ⟨lists_1, trivial, launch0.admits_env _ _ _, launch0.least_env, fairChoices_fair.cas, fairChoices_fair.clock, w_frames, w_args, w_heap, w_applies, trivial, trivial, w_case⟩
end start1
theorem witness_1 : WitnessClaimed_1 := ⟨start1.p0, start1.e0, start1.about1, start1.theMethod, start1.args0, start1.below0, start1.atStart⟩
end Jvm.Pilot.@@N@@
