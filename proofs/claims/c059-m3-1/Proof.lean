import JvmDerived
import JvmDerived.Pilot.@@N@@Statement
import JvmDerived.Pilot.@@N@@Code
set_option linter.unusedVariables false
set_option linter.unusedSimpArgs false
@@BLOCK:NumsL.lean.txt@@
namespace Jvm.RoadKit
open Sem ClassFile Op Lib Jvm.Stand Jvm.Free Jvm.LawKit
section New
variable {p : Program} {l : Launch} {e : Env} {R : Room} {s : State} {m : MethodId} {args : Array Value} {below : List Frame} {meth : Method} {c : Code} {T : State} {locs : List Loc} {cells slots : Nat}
theorem retI (X : Stand p l e R s m args below meth c T locs cells slots) (hx : p.tables.exec = Jvm.exec) {pc : Nat} {Ls : Array Slot} {z : Int32} {rest : List Value} (hret : meth.sig.returnType = some .int) (hd : decode c.code pc = .ok (.ireturn, 1)) {fs : List Frame}
    (hl : ∀ (f : JFrame) (acts : List Action), f.method = m → f.locked = none → f.entered = [] → (doReturn e (T.setTop f) acts (some (.int z))).1 = T.setFrames fs) : Steps p.tables e below (T.setTop (mkF m pc Ls (.int z :: rest))) (T.setFrames fs) :=
  retOut X hx (w := .int z) (t := .int) (i := .ireturn) hret rfl (Or.inl ⟨rfl, Or.inl rfl, z, rfl⟩) hd hl
theorem retJ (X : Stand p l e R s m args below meth c T locs cells slots) (hx : p.tables.exec = Jvm.exec) {pc : Nat} {Ls : Array Slot} {z : Int64} {rest : List Value} (hret : meth.sig.returnType = some .long) (hd : decode c.code pc = .ok (.lreturn, 1)) {fs : List Frame}
    (hl : ∀ (f : JFrame) (acts : List Action), f.method = m → f.locked = none → f.entered = [] → (doReturn e (T.setTop f) acts (some (.long z))).1 = T.setFrames fs) : Steps p.tables e below (T.setTop (mkF m pc Ls (.long z :: rest))) (T.setFrames fs) :=
  retOut X hx (w := .long z) (t := .long) (i := .lreturn) hret rfl (Or.inr (Or.inl ⟨rfl, rfl, z, rfl⟩)) hd hl
theorem retA (X : Stand p l e R s m args below meth c T locs cells slots) (hx : p.tables.exec = Jvm.exec) {pc : Nat} {Ls : Array Slot} {w : Value} {t : FieldType} {rest : List Value} (hret : meth.sig.returnType = some t) (ht : t.isReference = true) (hw : w.isRef = true) (hn : narrow t w = w) (hd : decode c.code pc = .ok (.areturn, 1)) {fs : List Frame}
    (hl : ∀ (f : JFrame) (acts : List Action), f.method = m → f.locked = none → f.entered = [] → (doReturn e (T.setTop f) acts (some w)).1 = T.setFrames fs) : Steps p.tables e below (T.setTop (mkF m pc Ls (w :: rest))) (T.setFrames fs) :=
  retOut X hx (w := w) (t := t) (i := .areturn) hret hn (Or.inr (Or.inr (Or.inr (Or.inr ⟨rfl, ht, hw⟩)))) hd hl
end New
end Jvm.RoadKit
namespace Jvm.Pilot.@@N@@
open Jvm Jvm.ClassFile Sem Op Lib Jvm.Free Jvm.Stand Jvm.LawKit Jvm.RoadKit Bundle Jvm.Pilot.@@N@@.Jvm.D
/-- from S every run comes to T -/
abbrev Go (p : Program) (e : Env) (below : List Frame) (S T : State) : Prop := ∀ t, Steps p.tables e below T t → Steps p.tables e below S t

theorem own_ofNat {c : Int32} {n : Nat} (h : c.toInt = n) : c = Int32.ofNat n := by
  apply Int32.toInt_inj.mp
  have h2 := c.toInt_lt
  rw [Int32.toInt_ofNat', show Int32.size = 4294967296 from rfl, Int.bmod_eq_of_le (by omega) (by omega), h]
theorem own_char (x : Int32) : (x.toUInt32.toUInt16.toUInt32.toInt32).toInt = x.toInt % 65536 := by
  have h : (x.toUInt32.toUInt16.toUInt32.toInt32).toBitVec = (x.toBitVec.setWidth 16).setWidth 32 := rfl
  have h1 : (x.toUInt32.toUInt16.toUInt32.toInt32).toInt = ((x.toBitVec.setWidth 16).setWidth 32).toInt := by rw [← h]; rfl
  rw [h1, BitVec.toInt_eq_toNat_cond]
  have h3 : x.toInt = x.toBitVec.toInt := rfl
  rw [h3, BitVec.toInt_eq_toNat_cond]
  simp only [BitVec.toNat_setWidth]
  have := x.toBitVec.isLt
  split <;> split <;> omega


theorem own_m31 (x : Int32) : 0 ≤ (x &&& 2147483647).toInt := by
  have := Jvm.Kit.i32_mask x 2147483647 (k := 31) (by decide) (by decide); omega
theorem own_rem (x n : Int32) (hn : 0 < n.toInt) : 0 ≤ ((x &&& 2147483647) % n).toInt ∧ ((x &&& 2147483647) % n).toInt < n.toInt := by
  rw [Jvm.Kit.i32_rem_nonneg (own_m31 x)]
  exact ⟨Int.emod_nonneg _ (by omega), Int.emod_lt_of_pos _ hn⟩
theorem own_remeq (x y : Int32) : x - (x / y) * y = x % y := by
  apply Int32.toInt_inj.mp
  have a := (x % y).toInt_lt; have b := (x % y).le_toInt
  rw [Int32.toInt_mod] at a b ⊢
  rw [Int32.toInt_sub, Int32.toInt_mul, Int32.toInt_div, Int.bmod_mul_bmod, Int.sub_bmod_bmod, Int.mul_comm, ← Int.tmod_def]
  exact Jvm.Kit.bmod32 b a
theorem own_irem {tb : Tables} [Ours tb] {e : Env} {below : List Frame} {T target : State} {m : MethodId} {c : Code} {g : JFrame} (h : At T m c below) (hx : tb.exec = Jvm.exec) (hg : g.method = m) {x y : Int32} {rest : List Value} (hd : decode c.code g.pc = .ok (.irem, 1)) (hs : g.stack = .int y :: .int x :: rest) (hy : y ≠ 0)
    (hr : Steps tb e below (T.setTop { g with pc := g.pc + 1, stack := .int (x % y) :: rest }) target) : Steps tb e below (T.setTop g) target := XS.irem h hx hg hd hs hy (by rw [own_remeq]; exact hr)

theorem own_getD (ws : List Int32) (k : Nat) : (ws.map Value.int).getD k (.int (0 : Int32)) = .int (ws.getD k 0) := by
  induction ws generalizing k with
  | nil => rfl
  | cons a t ih => cases k with
    | zero => rfl
    | succ k => exact ih k
theorem ef_2 (m : MethodId) (p0 : Int32) : entryFrame m #[(.int p0)] 1 = mkF m 0 #[.val (.int p0)] [] := by first | (simp [entryFrame, mkF, argsToLocals, Value.category]; done) | rfl
theorem d2_0 : decode prog_17_method_13_code 0 = .ok (.iload_n 0, 1) := by decide +kernel
theorem d2_1 : decode prog_17_method_13_code 1 = .ok (.bipush 97, 2) := by decide +kernel
theorem d2_3 : decode prog_17_method_13_code 3 = .ok (.if_icmp .lt 9, 3) := by decide +kernel
theorem d2_12 : decode prog_17_method_13_code 12 = .ok (.iload_n 0, 1) := by decide +kernel
theorem d2_13 : decode prog_17_method_13_code 13 = .ok (.bipush 65, 2) := by decide +kernel
theorem d2_15 : decode prog_17_method_13_code 15 = .ok (.if_icmp .lt 13, 3) := by decide +kernel
theorem d2_28 : decode prog_17_method_13_code 28 = .ok (.iconst 0, 1) := by decide +kernel
theorem d2_29 : decode prog_17_method_13_code 29 = .ok (.ireturn, 1) := by decide +kernel
theorem d2_18 : decode prog_17_method_13_code 18 = .ok (.iload_n 0, 1) := by decide +kernel
theorem d2_19 : decode prog_17_method_13_code 19 = .ok (.bipush 90, 2) := by decide +kernel
theorem d2_21 : decode prog_17_method_13_code 21 = .ok (.if_icmp .gt 7, 3) := by decide +kernel
theorem d2_24 : decode prog_17_method_13_code 24 = .ok (.iconst 1, 1) := by decide +kernel
theorem d2_25 : decode prog_17_method_13_code 25 = .ok (.goto 4, 3) := by decide +kernel
theorem d2_6 : decode prog_17_method_13_code 6 = .ok (.iload_n 0, 1) := by decide +kernel
theorem d2_7 : decode prog_17_method_13_code 7 = .ok (.bipush 122, 2) := by decide +kernel
theorem d2_9 : decode prog_17_method_13_code 9 = .ok (.if_icmp .le 15, 3) := by decide +kernel
def f2 (p0 : Int32) : Int32 := (if p0 < (97 : Int32) then (if p0 < (65 : Int32) then (0 : Int32) else (if (90 : Int32) < p0 then (0 : Int32) else (1 : Int32))) else (if (122 : Int32) < p0 then (if p0 < (65 : Int32) then (0 : Int32) else (if (90 : Int32) < p0 then (0 : Int32) else (1 : Int32))) else (1 : Int32)))
def Q2 (Z : State) (p0 : Int32) (h0 : Heap) (n0 : Nat) (v : Option Value) (h : Heap) (L : List Loc) : Prop := v = some (.int (f2 p0)) ∧ Fr n0 L ∧ h = h0
set_option maxRecDepth 65536 in
set_option maxHeartbeats 40000000 in
theorem pn_com_example_kripketools_kripketools_Names : plainName "com/example/kripketools/kripketools/Names" = true := by first | (simp [plainName, overriddenIn]; done) | decide +kernel
theorem rm2 (l : Launch) (Z : State) (a0 : Array Value) (hw : ∀ d ∈ tables_1, d.before a0 Z = true) (ws : List Jvm.Cond) (p0 : Int32) (h0 : Heap) (n0 : Nat) (Z0 : n0 ≤ h0.size) :
    MetFree l (⟨"com/example/kripketools/kripketools/Names", "isAsciiLetter", "(C)Z"⟩ : MethodName) (head1 (Jvm.Cond.code (⟨"com/example/kripketools/kripketools/Names", "isAsciiLetter", "(C)Z"⟩ : MethodName) prog_17_method_13_code 1 (some .boolean) :: ws) ({ frames := 0, cells := 0, slots := 0, locals := 0 } : Room)) (fun a U => a = #[(.int p0)] ∧ Z.Warmed39 U.vm ∧ U.heap = h0) (fun _ _ _ _ _ => True) (fun _ U o U' => ∃ v L, o = .returned v ∧ Q2 Z p0 h0 n0 v U'.heap L ∧ FrameEnd U o U' L ({ frames := 0, cells := 0, slots := 0, locals := 0 } : Room).cells ({ frames := 0, cells := 0, slots := 0, locals := 0 } : Room).slots) := by
  refine MetFree.of_bodySF (plainFor_of_name pn_com_example_kripketools_kripketools_Names) hisR ?_
  intro p e s m args below meth c s₁ Bd hml0 hP hK
  obtain ⟨rfl, hZ, hh⟩ := hP
  have hx := Bd.exec
  have hby := Bd.bytes
  have hml : c.maxLocals = 1 := hml0
  have hown : s.vm.findClass "com/example/kripketools/kripketools/Names" = some m.cls := findClass_of_methodNamed Bd.named
  have hnm := (name_of_methodNamed Bd.named Bd.method).1
  have X0 : Stand p l e ({ frames := 0, cells := 0, slots := 0, locals := 0 } : Room) s m #[(.int p0)] below meth c s₁ [] 0 0 := Stand.of_body Bd
  have e0 : s₁.heap = h0 := by rw [← hh, Bd.state]; rfl
  have N0 := Fr.nil n0
  have pre0 : Go p e below (s₁.setTop (entryFrame m #[(.int p0)] 1)) (s₁.setTop (mkF m 0 #[.val (.int p0)] [])) := fun t k => castTop (ef_2 m p0) k
  have pre1 : Go p e below (s₁.setTop (entryFrame m #[(.int p0)] 1)) (s₁.setTop (mkF m 3 #[.val (.int p0)] [(.int (97 : Int32)), (.int p0)])) := by
    intro t k
    refine pre0 t ?_
    show Steps p.tables e below (s₁.setTop (mkF m 0 #[.val (.int p0)] [])) _
    refine XS.iloadN X0.here hx rfl (hb hby d2_0) rfl ?_
    show Steps p.tables e below (s₁.setTop (mkF m 1 #[.val (.int p0)] [(.int p0)])) _
    refine XS.bipush X0.here hx rfl (hb hby d2_1) ?_
    show Steps p.tables e below (s₁.setTop (mkF m 3 #[.val (.int p0)] [(.int (97 : Int32)), (.int p0)])) _
    exact k
  by_cases hc3_2 : p0 < (97 : Int32)
  · skip
    have pre3 : Go p e below (s₁.setTop (entryFrame m #[(.int p0)] 1)) (s₁.setTop (mkF m 15 #[.val (.int p0)] [(.int (65 : Int32)), (.int p0)])) := by
      intro t k
      refine pre1 t ?_
      show Steps p.tables e below (s₁.setTop (mkF m 3 #[.val (.int p0)] [(.int (97 : Int32)), (.int p0)])) _
      refine XS.icmpYes X0.here hx rfl (pc0 := 3) (pc' := 12) rfl (hb hby d2_3) rfl (XT.ii_lt_t hc3_2) (by decide) (by decide) ?_
      show Steps p.tables e below (s₁.setTop (mkF m 12 #[.val (.int p0)] [])) _
      refine XS.iloadN X0.here hx rfl (hb hby d2_12) rfl ?_
      show Steps p.tables e below (s₁.setTop (mkF m 13 #[.val (.int p0)] [(.int p0)])) _
      refine XS.bipush X0.here hx rfl (hb hby d2_13) ?_
      show Steps p.tables e below (s₁.setTop (mkF m 15 #[.val (.int p0)] [(.int (65 : Int32)), (.int p0)])) _
      exact k
    by_cases hc15_4 : p0 < (65 : Int32)
    · skip
      have pre5 : Go p e below (s₁.setTop (entryFrame m #[(.int p0)] 1)) (s₁.setTop (mkF m 29 #[.val (.int p0)] [(.int (0 : Int32))])) := by
        intro t k
        refine pre3 t ?_
        show Steps p.tables e below (s₁.setTop (mkF m 15 #[.val (.int p0)] [(.int (65 : Int32)), (.int p0)])) _
        refine XS.icmpYes X0.here hx rfl (pc0 := 15) (pc' := 28) rfl (hb hby d2_15) rfl (XT.ii_lt_t hc15_4) (by decide) (by decide) ?_
        show Steps p.tables e below (s₁.setTop (mkF m 28 #[.val (.int p0)] [])) _
        refine XS.iconst X0.here hx rfl (hb hby d2_28) ?_
        show Steps p.tables e below (s₁.setTop (mkF m 29 #[.val (.int p0)] [(.int (0 : Int32))])) _
        exact k
      obtain ⟨fs, hr, hrun, hended, hW, hsame⟩ := X0.leave (v := some (.int (0 : Int32))) (fun h => by rw [Bd.returns] at h; cases h)
      refine ⟨_, _, pre5 _ (retN X0 hx (t := .boolean) Bd.returns (by simp) (hb hby d2_29) hr), hrun, hended, _, _, rfl, ?_, ⟨_, rfl⟩, hW, hsame.mono (by decide) (by decide)⟩
      show Q2 Z p0 h0 n0 _ s₁.heap _
      rw [e0]
      exact ⟨congrArg some (congrArg Value.int (show (0 : Int32) = f2 p0 from by rw [f2, if_pos hc3_2, if_pos hc15_4])), N0, rfl⟩
    · skip
      have pre6 : Go p e below (s₁.setTop (entryFrame m #[(.int p0)] 1)) (s₁.setTop (mkF m 21 #[.val (.int p0)] [(.int (90 : Int32)), (.int p0)])) := by
        intro t k
        refine pre3 t ?_
        show Steps p.tables e below (s₁.setTop (mkF m 15 #[.val (.int p0)] [(.int (65 : Int32)), (.int p0)])) _
        refine XS.icmpNo X0.here hx rfl (hb hby d2_15) rfl (XT.ii_lt_f hc15_4) ?_
        show Steps p.tables e below (s₁.setTop (mkF m 18 #[.val (.int p0)] [])) _
        refine XS.iloadN X0.here hx rfl (hb hby d2_18) rfl ?_
        show Steps p.tables e below (s₁.setTop (mkF m 19 #[.val (.int p0)] [(.int p0)])) _
        refine XS.bipush X0.here hx rfl (hb hby d2_19) ?_
        show Steps p.tables e below (s₁.setTop (mkF m 21 #[.val (.int p0)] [(.int (90 : Int32)), (.int p0)])) _
        exact k
      by_cases hc21_7 : (90 : Int32) < p0
      · skip
        have pre8 : Go p e below (s₁.setTop (entryFrame m #[(.int p0)] 1)) (s₁.setTop (mkF m 29 #[.val (.int p0)] [(.int (0 : Int32))])) := by
          intro t k
          refine pre6 t ?_
          show Steps p.tables e below (s₁.setTop (mkF m 21 #[.val (.int p0)] [(.int (90 : Int32)), (.int p0)])) _
          refine XS.icmpYes X0.here hx rfl (pc0 := 21) (pc' := 28) rfl (hb hby d2_21) rfl (XT.ii_gt_t hc21_7) (by decide) (by decide) ?_
          show Steps p.tables e below (s₁.setTop (mkF m 28 #[.val (.int p0)] [])) _
          refine XS.iconst X0.here hx rfl (hb hby d2_28) ?_
          show Steps p.tables e below (s₁.setTop (mkF m 29 #[.val (.int p0)] [(.int (0 : Int32))])) _
          exact k
        obtain ⟨fs, hr, hrun, hended, hW, hsame⟩ := X0.leave (v := some (.int (0 : Int32))) (fun h => by rw [Bd.returns] at h; cases h)
        refine ⟨_, _, pre8 _ (retN X0 hx (t := .boolean) Bd.returns (by simp) (hb hby d2_29) hr), hrun, hended, _, _, rfl, ?_, ⟨_, rfl⟩, hW, hsame.mono (by decide) (by decide)⟩
        show Q2 Z p0 h0 n0 _ s₁.heap _
        rw [e0]
        exact ⟨congrArg some (congrArg Value.int (show (0 : Int32) = f2 p0 from by rw [f2, if_pos hc3_2, if_neg hc15_4, if_pos hc21_7])), N0, rfl⟩
      · skip
        have pre9 : Go p e below (s₁.setTop (entryFrame m #[(.int p0)] 1)) (s₁.setTop (mkF m 29 #[.val (.int p0)] [(.int (1 : Int32))])) := by
          intro t k
          refine pre6 t ?_
          show Steps p.tables e below (s₁.setTop (mkF m 21 #[.val (.int p0)] [(.int (90 : Int32)), (.int p0)])) _
          refine XS.icmpNo X0.here hx rfl (hb hby d2_21) rfl (XT.ii_gt_f hc21_7) ?_
          show Steps p.tables e below (s₁.setTop (mkF m 24 #[.val (.int p0)] [])) _
          refine XS.iconst X0.here hx rfl (hb hby d2_24) ?_
          show Steps p.tables e below (s₁.setTop (mkF m 25 #[.val (.int p0)] [(.int (1 : Int32))])) _
          refine XS.goto X0.here hx rfl (pc0 := 25) (pc' := 29) rfl (hb hby d2_25) (by decide) (by decide) ?_
          show Steps p.tables e below (s₁.setTop (mkF m 29 #[.val (.int p0)] [(.int (1 : Int32))])) _
          exact k
        obtain ⟨fs, hr, hrun, hended, hW, hsame⟩ := X0.leave (v := some (.int (1 : Int32))) (fun h => by rw [Bd.returns] at h; cases h)
        refine ⟨_, _, pre9 _ (retN X0 hx (t := .boolean) Bd.returns (by simp) (hb hby d2_29) hr), hrun, hended, _, _, rfl, ?_, ⟨_, rfl⟩, hW, hsame.mono (by decide) (by decide)⟩
        show Q2 Z p0 h0 n0 _ s₁.heap _
        rw [e0]
        exact ⟨congrArg some (congrArg Value.int (show (1 : Int32) = f2 p0 from by rw [f2, if_pos hc3_2, if_neg hc15_4, if_neg hc21_7])), N0, rfl⟩
  · skip
    have pre10 : Go p e below (s₁.setTop (entryFrame m #[(.int p0)] 1)) (s₁.setTop (mkF m 9 #[.val (.int p0)] [(.int (122 : Int32)), (.int p0)])) := by
      intro t k
      refine pre1 t ?_
      show Steps p.tables e below (s₁.setTop (mkF m 3 #[.val (.int p0)] [(.int (97 : Int32)), (.int p0)])) _
      refine XS.icmpNo X0.here hx rfl (hb hby d2_3) rfl (XT.ii_lt_f hc3_2) ?_
      show Steps p.tables e below (s₁.setTop (mkF m 6 #[.val (.int p0)] [])) _
      refine XS.iloadN X0.here hx rfl (hb hby d2_6) rfl ?_
      show Steps p.tables e below (s₁.setTop (mkF m 7 #[.val (.int p0)] [(.int p0)])) _
      refine XS.bipush X0.here hx rfl (hb hby d2_7) ?_
      show Steps p.tables e below (s₁.setTop (mkF m 9 #[.val (.int p0)] [(.int (122 : Int32)), (.int p0)])) _
      exact k
    by_cases hc9_11 : (122 : Int32) < p0
    · skip
      have pre12 : Go p e below (s₁.setTop (entryFrame m #[(.int p0)] 1)) (s₁.setTop (mkF m 15 #[.val (.int p0)] [(.int (65 : Int32)), (.int p0)])) := by
        intro t k
        refine pre10 t ?_
        show Steps p.tables e below (s₁.setTop (mkF m 9 #[.val (.int p0)] [(.int (122 : Int32)), (.int p0)])) _
        refine XS.icmpNo X0.here hx rfl (hb hby d2_9) rfl (XT.ii_le_f hc9_11) ?_
        show Steps p.tables e below (s₁.setTop (mkF m 12 #[.val (.int p0)] [])) _
        refine XS.iloadN X0.here hx rfl (hb hby d2_12) rfl ?_
        show Steps p.tables e below (s₁.setTop (mkF m 13 #[.val (.int p0)] [(.int p0)])) _
        refine XS.bipush X0.here hx rfl (hb hby d2_13) ?_
        show Steps p.tables e below (s₁.setTop (mkF m 15 #[.val (.int p0)] [(.int (65 : Int32)), (.int p0)])) _
        exact k
      by_cases hc15_13 : p0 < (65 : Int32)
      · skip
        have pre14 : Go p e below (s₁.setTop (entryFrame m #[(.int p0)] 1)) (s₁.setTop (mkF m 29 #[.val (.int p0)] [(.int (0 : Int32))])) := by
          intro t k
          refine pre12 t ?_
          show Steps p.tables e below (s₁.setTop (mkF m 15 #[.val (.int p0)] [(.int (65 : Int32)), (.int p0)])) _
          refine XS.icmpYes X0.here hx rfl (pc0 := 15) (pc' := 28) rfl (hb hby d2_15) rfl (XT.ii_lt_t hc15_13) (by decide) (by decide) ?_
          show Steps p.tables e below (s₁.setTop (mkF m 28 #[.val (.int p0)] [])) _
          refine XS.iconst X0.here hx rfl (hb hby d2_28) ?_
          show Steps p.tables e below (s₁.setTop (mkF m 29 #[.val (.int p0)] [(.int (0 : Int32))])) _
          exact k
        obtain ⟨fs, hr, hrun, hended, hW, hsame⟩ := X0.leave (v := some (.int (0 : Int32))) (fun h => by rw [Bd.returns] at h; cases h)
        refine ⟨_, _, pre14 _ (retN X0 hx (t := .boolean) Bd.returns (by simp) (hb hby d2_29) hr), hrun, hended, _, _, rfl, ?_, ⟨_, rfl⟩, hW, hsame.mono (by decide) (by decide)⟩
        show Q2 Z p0 h0 n0 _ s₁.heap _
        rw [e0]
        exact ⟨congrArg some (congrArg Value.int (show (0 : Int32) = f2 p0 from by rw [f2, if_neg hc3_2, if_pos hc9_11, if_pos hc15_13])), N0, rfl⟩
      · skip
        have pre15 : Go p e below (s₁.setTop (entryFrame m #[(.int p0)] 1)) (s₁.setTop (mkF m 21 #[.val (.int p0)] [(.int (90 : Int32)), (.int p0)])) := by
          intro t k
          refine pre12 t ?_
          show Steps p.tables e below (s₁.setTop (mkF m 15 #[.val (.int p0)] [(.int (65 : Int32)), (.int p0)])) _
          refine XS.icmpNo X0.here hx rfl (hb hby d2_15) rfl (XT.ii_lt_f hc15_13) ?_
          show Steps p.tables e below (s₁.setTop (mkF m 18 #[.val (.int p0)] [])) _
          refine XS.iloadN X0.here hx rfl (hb hby d2_18) rfl ?_
          show Steps p.tables e below (s₁.setTop (mkF m 19 #[.val (.int p0)] [(.int p0)])) _
          refine XS.bipush X0.here hx rfl (hb hby d2_19) ?_
          show Steps p.tables e below (s₁.setTop (mkF m 21 #[.val (.int p0)] [(.int (90 : Int32)), (.int p0)])) _
          exact k
        by_cases hc21_16 : (90 : Int32) < p0
        · skip
          have pre17 : Go p e below (s₁.setTop (entryFrame m #[(.int p0)] 1)) (s₁.setTop (mkF m 29 #[.val (.int p0)] [(.int (0 : Int32))])) := by
            intro t k
            refine pre15 t ?_
            show Steps p.tables e below (s₁.setTop (mkF m 21 #[.val (.int p0)] [(.int (90 : Int32)), (.int p0)])) _
            refine XS.icmpYes X0.here hx rfl (pc0 := 21) (pc' := 28) rfl (hb hby d2_21) rfl (XT.ii_gt_t hc21_16) (by decide) (by decide) ?_
            show Steps p.tables e below (s₁.setTop (mkF m 28 #[.val (.int p0)] [])) _
            refine XS.iconst X0.here hx rfl (hb hby d2_28) ?_
            show Steps p.tables e below (s₁.setTop (mkF m 29 #[.val (.int p0)] [(.int (0 : Int32))])) _
            exact k
          obtain ⟨fs, hr, hrun, hended, hW, hsame⟩ := X0.leave (v := some (.int (0 : Int32))) (fun h => by rw [Bd.returns] at h; cases h)
          refine ⟨_, _, pre17 _ (retN X0 hx (t := .boolean) Bd.returns (by simp) (hb hby d2_29) hr), hrun, hended, _, _, rfl, ?_, ⟨_, rfl⟩, hW, hsame.mono (by decide) (by decide)⟩
          show Q2 Z p0 h0 n0 _ s₁.heap _
          rw [e0]
          exact ⟨congrArg some (congrArg Value.int (show (0 : Int32) = f2 p0 from by rw [f2, if_neg hc3_2, if_pos hc9_11, if_neg hc15_13, if_pos hc21_16])), N0, rfl⟩
        · skip
          have pre18 : Go p e below (s₁.setTop (entryFrame m #[(.int p0)] 1)) (s₁.setTop (mkF m 29 #[.val (.int p0)] [(.int (1 : Int32))])) := by
            intro t k
            refine pre15 t ?_
            show Steps p.tables e below (s₁.setTop (mkF m 21 #[.val (.int p0)] [(.int (90 : Int32)), (.int p0)])) _
            refine XS.icmpNo X0.here hx rfl (hb hby d2_21) rfl (XT.ii_gt_f hc21_16) ?_
            show Steps p.tables e below (s₁.setTop (mkF m 24 #[.val (.int p0)] [])) _
            refine XS.iconst X0.here hx rfl (hb hby d2_24) ?_
            show Steps p.tables e below (s₁.setTop (mkF m 25 #[.val (.int p0)] [(.int (1 : Int32))])) _
            refine XS.goto X0.here hx rfl (pc0 := 25) (pc' := 29) rfl (hb hby d2_25) (by decide) (by decide) ?_
            show Steps p.tables e below (s₁.setTop (mkF m 29 #[.val (.int p0)] [(.int (1 : Int32))])) _
            exact k
          obtain ⟨fs, hr, hrun, hended, hW, hsame⟩ := X0.leave (v := some (.int (1 : Int32))) (fun h => by rw [Bd.returns] at h; cases h)
          refine ⟨_, _, pre18 _ (retN X0 hx (t := .boolean) Bd.returns (by simp) (hb hby d2_29) hr), hrun, hended, _, _, rfl, ?_, ⟨_, rfl⟩, hW, hsame.mono (by decide) (by decide)⟩
          show Q2 Z p0 h0 n0 _ s₁.heap _
          rw [e0]
          exact ⟨congrArg some (congrArg Value.int (show (1 : Int32) = f2 p0 from by rw [f2, if_neg hc3_2, if_pos hc9_11, if_neg hc15_13, if_neg hc21_16])), N0, rfl⟩
    · skip
      have pre19 : Go p e below (s₁.setTop (entryFrame m #[(.int p0)] 1)) (s₁.setTop (mkF m 29 #[.val (.int p0)] [(.int (1 : Int32))])) := by
        intro t k
        refine pre10 t ?_
        show Steps p.tables e below (s₁.setTop (mkF m 9 #[.val (.int p0)] [(.int (122 : Int32)), (.int p0)])) _
        refine XS.icmpYes X0.here hx rfl (pc0 := 9) (pc' := 24) rfl (hb hby d2_9) rfl (XT.ii_le_t hc9_11) (by decide) (by decide) ?_
        show Steps p.tables e below (s₁.setTop (mkF m 24 #[.val (.int p0)] [])) _
        refine XS.iconst X0.here hx rfl (hb hby d2_24) ?_
        show Steps p.tables e below (s₁.setTop (mkF m 25 #[.val (.int p0)] [(.int (1 : Int32))])) _
        refine XS.goto X0.here hx rfl (pc0 := 25) (pc' := 29) rfl (hb hby d2_25) (by decide) (by decide) ?_
        show Steps p.tables e below (s₁.setTop (mkF m 29 #[.val (.int p0)] [(.int (1 : Int32))])) _
        exact k
      obtain ⟨fs, hr, hrun, hended, hW, hsame⟩ := X0.leave (v := some (.int (1 : Int32))) (fun h => by rw [Bd.returns] at h; cases h)
      refine ⟨_, _, pre19 _ (retN X0 hx (t := .boolean) Bd.returns (by simp) (hb hby d2_29) hr), hrun, hended, _, _, rfl, ?_, ⟨_, rfl⟩, hW, hsame.mono (by decide) (by decide)⟩
      show Q2 Z p0 h0 n0 _ s₁.heap _
      rw [e0]
      exact ⟨congrArg some (congrArg Value.int (show (1 : Int32) = f2 p0 from by rw [f2, if_neg hc3_2, if_neg hc9_11])), N0, rfl⟩
theorem ef_1 (m : MethodId) (p0 : Int32) : entryFrame m #[(.int p0)] 1 = mkF m 0 #[.val (.int p0)] [] := by first | (simp [entryFrame, mkF, argsToLocals, Value.category]; done) | rfl
theorem d1_0 : decode prog_17_method_10_code 0 = .ok (.iload_n 0, 1) := by decide +kernel
theorem d1_1 : decode prog_17_method_10_code 1 = .ok (.invokestatic 67, 3) := by decide +kernel
theorem pd_1 : parseMethodDescriptor "(C)Z" = some ⟨[.char], some .boolean⟩ := by decide +kernel
theorem d1_4 : decode prog_17_method_10_code 4 = .ok (.ifCond .ne 9, 3) := by decide +kernel
theorem d1_7 : decode prog_17_method_10_code 7 = .ok (.iload_n 0, 1) := by decide +kernel
theorem d1_8 : decode prog_17_method_10_code 8 = .ok (.bipush 95, 2) := by decide +kernel
theorem d1_10 : decode prog_17_method_10_code 10 = .ok (.if_icmp .ne 7, 3) := by decide +kernel
theorem d1_13 : decode prog_17_method_10_code 13 = .ok (.iconst 1, 1) := by decide +kernel
theorem d1_14 : decode prog_17_method_10_code 14 = .ok (.goto 4, 3) := by decide +kernel
theorem d1_18 : decode prog_17_method_10_code 18 = .ok (.ireturn, 1) := by decide +kernel
theorem d1_17 : decode prog_17_method_10_code 17 = .ok (.iconst 0, 1) := by decide +kernel
def f1 (p0 : Int32) : Int32 := (if (f2 p0) = (0 : Int32) then (if p0 = (95 : Int32) then (1 : Int32) else (0 : Int32)) else (1 : Int32))
def Q1 (Z : State) (p0 : Int32) (h0 : Heap) (n0 : Nat) (v : Option Value) (h : Heap) (L : List Loc) : Prop := v = some (.int (f1 p0)) ∧ Fr n0 L ∧ h = h0
set_option maxRecDepth 65536 in
set_option maxHeartbeats 40000000 in
theorem rm1 (l : Launch) (Z : State) (a0 : Array Value) (hw : ∀ d ∈ tables_1, d.before a0 Z = true) (ws : List Jvm.Cond) (p0 : Int32) (h0 : Heap) (n0 : Nat) (Z0 : n0 ≤ h0.size) :
    MetFree l (⟨"com/example/kripketools/kripketools/Names", "isAtomStart", "(C)Z"⟩ : MethodName) (head1 (Jvm.Cond.code (⟨"com/example/kripketools/kripketools/Names", "isAtomStart", "(C)Z"⟩ : MethodName) prog_17_method_10_code 1 (some .boolean) :: ws) ({ frames := 1, cells := 0, slots := 0, locals := 12 } : Room)) (fun a U => a = #[(.int p0)] ∧ Z.Warmed39 U.vm ∧ U.heap = h0) (fun _ _ _ _ _ => True) (fun _ U o U' => ∃ v L, o = .returned v ∧ Q1 Z p0 h0 n0 v U'.heap L ∧ FrameEnd U o U' L ({ frames := 1, cells := 0, slots := 0, locals := 12 } : Room).cells ({ frames := 1, cells := 0, slots := 0, locals := 12 } : Room).slots) := by
  refine MetFree.of_bodySF (plainFor_of_name pn_com_example_kripketools_kripketools_Names) hisR ?_
  intro p e s m args below meth c s₁ Bd hml0 hP hK
  obtain ⟨rfl, hZ, hh⟩ := hP
  have hx := Bd.exec
  have hby := Bd.bytes
  have hml : c.maxLocals = 1 := hml0
  have hown : s.vm.findClass "com/example/kripketools/kripketools/Names" = some m.cls := findClass_of_methodNamed Bd.named
  have hnm := (name_of_methodNamed Bd.named Bd.method).1
  have X0 : Stand p l e ({ frames := 1, cells := 0, slots := 0, locals := 12 } : Room) s m #[(.int p0)] below meth c s₁ [] 0 0 := Stand.of_body Bd
  have e0 : s₁.heap = h0 := by rw [← hh, Bd.state]; rfl
  have N0 := Fr.nil n0
  have pre0 : Go p e below (s₁.setTop (entryFrame m #[(.int p0)] 1)) (s₁.setTop (mkF m 0 #[.val (.int p0)] [])) := fun t k => castTop (ef_1 m p0) k
  have pre1 : Go p e below (s₁.setTop (entryFrame m #[(.int p0)] 1)) (s₁.setTop (mkF m 1 #[.val (.int p0)] [(.int p0)])) := by
    intro t k
    refine pre0 t ?_
    show Steps p.tables e below (s₁.setTop (mkF m 0 #[.val (.int p0)] [])) _
    refine XS.iloadN X0.here hx rfl (hb hby d1_0) rfl ?_
    show Steps p.tables e below (s₁.setTop (mkF m 1 #[.val (.int p0)] [(.int p0)])) _
    exact k
  obtain ⟨_, _, ⟨T2, L2, k2, n2⟩, -, X2, ⟨Lc2, hQ2, l2, y2, z2⟩, st2⟩ := Jvm.LawKit.callS X0 hx (y := (⟨"com/example/kripketools/kripketools/Names", "isAsciiLetter", "(C)Z"⟩ : MethodName)) hown (mvT hZ (hw _ (List.mem_of_getElem? (i := 6) rfl))) (mvT hZ (hw _ (List.mem_of_getElem? (i := 7) rfl))) (mvT hZ (hw _ (List.mem_of_getElem? (i := 4) rfl))) (mvT hZ (hw _ (List.mem_of_getElem? (i := 8) rfl))) (by decide) (backOf (W := 0) (rm2 l Z a0 hw [] p0  h0 n0 Z0 ) hZ (hw _ (List.mem_of_getElem? (i := 8) rfl)) (hw _ (List.mem_of_getElem? (i := 4) rfl)) (by decide) (by decide)) (g := (mkF m 1 #[.val (.int p0)] [(.int p0)])) rfl (by rw [hml]; rfl) (argsL := [(.int p0)]) (rest := []) (lenOf pd_1 rfl) rfl (by show 2 * 0 + _ ≤ _; exact Nat.le_of_eq rfl) (hb hby d1_1) (fun _ _ => ⟨rfl, e0, (by decide : 0 + 0 ≤ _), (by decide : 0 + 0 ≤ _)⟩)
  dsimp only [Pt.U, Pt.locs, Pt.cells, Pt.slots] at X2 l2 y2 z2 st2 hQ2
  subst l2 y2 z2
  obtain ⟨rfl, N2q, hh2⟩ := hQ2
  have N2 := Fr.app N0 N2q
  have pre3 : Go p e below (s₁.setTop (entryFrame m #[(.int p0)] 1)) (T2.setTop (mkF m 4 #[.val (.int p0)] [(.int (f2 p0))])) := fun t k => pre1 t (st2 t k)
  by_cases hc4_4 : (f2 p0) = (0 : Int32)
  · skip
    have pre5 : Go p e below (s₁.setTop (entryFrame m #[(.int p0)] 1)) (T2.setTop (mkF m 10 #[.val (.int p0)] [(.int (95 : Int32)), (.int p0)])) := by
      intro t k
      refine pre3 t ?_
      show Steps p.tables e below (T2.setTop (mkF m 4 #[.val (.int p0)] [(.int (f2 p0))])) _
      refine XS.ifNo X2.here hx rfl (hb hby d1_4) rfl (XT.i0_ne_f hc4_4) ?_
      show Steps p.tables e below (T2.setTop (mkF m 7 #[.val (.int p0)] [])) _
      refine XS.iloadN X2.here hx rfl (hb hby d1_7) rfl ?_
      show Steps p.tables e below (T2.setTop (mkF m 8 #[.val (.int p0)] [(.int p0)])) _
      refine XS.bipush X2.here hx rfl (hb hby d1_8) ?_
      show Steps p.tables e below (T2.setTop (mkF m 10 #[.val (.int p0)] [(.int (95 : Int32)), (.int p0)])) _
      exact k
    by_cases hc10_6 : p0 = (95 : Int32)
    · skip
      have pre7 : Go p e below (s₁.setTop (entryFrame m #[(.int p0)] 1)) (T2.setTop (mkF m 18 #[.val (.int p0)] [(.int (1 : Int32))])) := by
        intro t k
        refine pre5 t ?_
        show Steps p.tables e below (T2.setTop (mkF m 10 #[.val (.int p0)] [(.int (95 : Int32)), (.int p0)])) _
        refine XS.icmpNo X2.here hx rfl (hb hby d1_10) rfl (XT.ii_ne_f hc10_6) ?_
        show Steps p.tables e below (T2.setTop (mkF m 13 #[.val (.int p0)] [])) _
        refine XS.iconst X2.here hx rfl (hb hby d1_13) ?_
        show Steps p.tables e below (T2.setTop (mkF m 14 #[.val (.int p0)] [(.int (1 : Int32))])) _
        refine XS.goto X2.here hx rfl (pc0 := 14) (pc' := 18) rfl (hb hby d1_14) (by decide) (by decide) ?_
        show Steps p.tables e below (T2.setTop (mkF m 18 #[.val (.int p0)] [(.int (1 : Int32))])) _
        exact k
      obtain ⟨fs, hr, hrun, hended, hW, hsame⟩ := X2.leave (v := some (.int (1 : Int32))) (fun h => by rw [Bd.returns] at h; cases h)
      refine ⟨_, _, pre7 _ (retN X2 hx (t := .boolean) Bd.returns (by simp) (hb hby d1_18) hr), hrun, hended, _, _, rfl, ?_, ⟨_, rfl⟩, hW, hsame.mono (by decide) (by decide)⟩
      show Q1 Z p0 h0 n0 _ T2.heap _
      rw [hh2]
      exact ⟨congrArg some (congrArg Value.int (show (1 : Int32) = f1 p0 from by rw [f1, if_pos hc4_4, if_pos hc10_6])), N2, rfl⟩
    · skip
      have pre8 : Go p e below (s₁.setTop (entryFrame m #[(.int p0)] 1)) (T2.setTop (mkF m 18 #[.val (.int p0)] [(.int (0 : Int32))])) := by
        intro t k
        refine pre5 t ?_
        show Steps p.tables e below (T2.setTop (mkF m 10 #[.val (.int p0)] [(.int (95 : Int32)), (.int p0)])) _
        refine XS.icmpYes X2.here hx rfl (pc0 := 10) (pc' := 17) rfl (hb hby d1_10) rfl (XT.ii_ne_t hc10_6) (by decide) (by decide) ?_
        show Steps p.tables e below (T2.setTop (mkF m 17 #[.val (.int p0)] [])) _
        refine XS.iconst X2.here hx rfl (hb hby d1_17) ?_
        show Steps p.tables e below (T2.setTop (mkF m 18 #[.val (.int p0)] [(.int (0 : Int32))])) _
        exact k
      obtain ⟨fs, hr, hrun, hended, hW, hsame⟩ := X2.leave (v := some (.int (0 : Int32))) (fun h => by rw [Bd.returns] at h; cases h)
      refine ⟨_, _, pre8 _ (retN X2 hx (t := .boolean) Bd.returns (by simp) (hb hby d1_18) hr), hrun, hended, _, _, rfl, ?_, ⟨_, rfl⟩, hW, hsame.mono (by decide) (by decide)⟩
      show Q1 Z p0 h0 n0 _ T2.heap _
      rw [hh2]
      exact ⟨congrArg some (congrArg Value.int (show (0 : Int32) = f1 p0 from by rw [f1, if_pos hc4_4, if_neg hc10_6])), N2, rfl⟩
  · skip
    have pre9 : Go p e below (s₁.setTop (entryFrame m #[(.int p0)] 1)) (T2.setTop (mkF m 18 #[.val (.int p0)] [(.int (1 : Int32))])) := by
      intro t k
      refine pre3 t ?_
      show Steps p.tables e below (T2.setTop (mkF m 4 #[.val (.int p0)] [(.int (f2 p0))])) _
      refine XS.ifYes X2.here hx rfl (pc0 := 4) (pc' := 13) rfl (hb hby d1_4) rfl (XT.i0_ne_t hc4_4) (by decide) (by decide) ?_
      show Steps p.tables e below (T2.setTop (mkF m 13 #[.val (.int p0)] [])) _
      refine XS.iconst X2.here hx rfl (hb hby d1_13) ?_
      show Steps p.tables e below (T2.setTop (mkF m 14 #[.val (.int p0)] [(.int (1 : Int32))])) _
      refine XS.goto X2.here hx rfl (pc0 := 14) (pc' := 18) rfl (hb hby d1_14) (by decide) (by decide) ?_
      show Steps p.tables e below (T2.setTop (mkF m 18 #[.val (.int p0)] [(.int (1 : Int32))])) _
      exact k
    obtain ⟨fs, hr, hrun, hended, hW, hsame⟩ := X2.leave (v := some (.int (1 : Int32))) (fun h => by rw [Bd.returns] at h; cases h)
    refine ⟨_, _, pre9 _ (retN X2 hx (t := .boolean) Bd.returns (by simp) (hb hby d1_18) hr), hrun, hended, _, _, rfl, ?_, ⟨_, rfl⟩, hW, hsame.mono (by decide) (by decide)⟩
    show Q1 Z p0 h0 n0 _ T2.heap _
    rw [hh2]
    exact ⟨congrArg some (congrArg Value.int (show (1 : Int32) = f1 p0 from by rw [f1, if_neg hc4_4])), N2, rfl⟩
theorem ef_3 (m : MethodId) (p0 : Int32) : entryFrame m #[(.int p0)] 3 = mkF m 0 #[.val (.int p0), .unset, .unset] [] := by first | (simp [entryFrame, mkF, argsToLocals, Value.category]; done) | rfl
theorem d3_0 : decode method_2_code 0 = .ok (.iload_n 0, 1) := by decide +kernel
theorem d3_1 : decode method_2_code 1 = .ok (.bipush 32, 2) := by decide +kernel
theorem d3_3 : decode method_2_code 3 = .ok (.ior, 1) := by decide +kernel
theorem d3_4 : decode method_2_code 4 = .ok (.istore_n 1, 1) := by decide +kernel
theorem d3_5 : decode method_2_code 5 = .ok (.iload_n 1, 1) := by decide +kernel
theorem d3_6 : decode method_2_code 6 = .ok (.bipush 97, 2) := by decide +kernel
theorem d3_8 : decode method_2_code 8 = .ok (.if_icmp .lt 13, 3) := by decide +kernel
theorem d3_21 : decode method_2_code 21 = .ok (.iconst 0, 1) := by decide +kernel
theorem d3_22 : decode method_2_code 22 = .ok (.istore_n 2, 1) := by decide +kernel
theorem d3_23 : decode method_2_code 23 = .ok (.iload_n 2, 1) := by decide +kernel
theorem d3_24 : decode method_2_code 24 = .ok (.ifCond .ne 9, 3) := by decide +kernel
theorem d3_27 : decode method_2_code 27 = .ok (.iload_n 0, 1) := by decide +kernel
theorem d3_28 : decode method_2_code 28 = .ok (.bipush 95, 2) := by decide +kernel
theorem d3_30 : decode method_2_code 30 = .ok (.if_icmp .ne 7, 3) := by decide +kernel
theorem d3_33 : decode method_2_code 33 = .ok (.iconst 1, 1) := by decide +kernel
theorem d3_34 : decode method_2_code 34 = .ok (.goto 4, 3) := by decide +kernel
theorem d3_38 : decode method_2_code 38 = .ok (.ireturn, 1) := by decide +kernel
theorem d3_37 : decode method_2_code 37 = .ok (.iconst 0, 1) := by decide +kernel
theorem d3_11 : decode method_2_code 11 = .ok (.iload_n 1, 1) := by decide +kernel
theorem d3_12 : decode method_2_code 12 = .ok (.bipush 122, 2) := by decide +kernel
theorem d3_14 : decode method_2_code 14 = .ok (.if_icmp .gt 7, 3) := by decide +kernel
theorem d3_17 : decode method_2_code 17 = .ok (.iconst 1, 1) := by decide +kernel
theorem d3_18 : decode method_2_code 18 = .ok (.goto 4, 3) := by decide +kernel
def f3 (p0 : Int32) : Int32 := (if (p0 ||| (32 : Int32)) < (97 : Int32) then (if p0 = (95 : Int32) then (1 : Int32) else (0 : Int32)) else (if (122 : Int32) < (p0 ||| (32 : Int32)) then (if p0 = (95 : Int32) then (1 : Int32) else (0 : Int32)) else (1 : Int32)))
def Q3 (Z : State) (p0 : Int32) (h0 : Heap) (n0 : Nat) (v : Option Value) (h : Heap) (L : List Loc) : Prop := v = some (.int (f3 p0)) ∧ Fr n0 L ∧ h = h0
set_option maxRecDepth 65536 in
set_option maxHeartbeats 40000000 in
theorem pn_com_example_kripketools_kripketools_NamesIsAtomStartPinLaw : plainName "com/example/kripketools/kripketools/NamesIsAtomStartPinLaw" = true := by first | (simp [plainName, overriddenIn]; done) | decide +kernel
theorem rm3 (l : Launch) (Z : State) (a0 : Array Value) (hw : ∀ d ∈ tables_1, d.before a0 Z = true) (ws : List Jvm.Cond) (p0 : Int32) (h0 : Heap) (n0 : Nat) (Z0 : n0 ≤ h0.size) :
    MetFree l (⟨"com/example/kripketools/kripketools/NamesIsAtomStartPinLaw", "ref", "(C)Z"⟩ : MethodName) (head1 (Jvm.Cond.code (⟨"com/example/kripketools/kripketools/NamesIsAtomStartPinLaw", "ref", "(C)Z"⟩ : MethodName) method_2_code 3 (some .boolean) :: ws) ({ frames := 0, cells := 0, slots := 0, locals := 0 } : Room)) (fun a U => a = #[(.int p0)] ∧ Z.Warmed39 U.vm ∧ U.heap = h0) (fun _ _ _ _ _ => True) (fun _ U o U' => ∃ v L, o = .returned v ∧ Q3 Z p0 h0 n0 v U'.heap L ∧ FrameEnd U o U' L ({ frames := 0, cells := 0, slots := 0, locals := 0 } : Room).cells ({ frames := 0, cells := 0, slots := 0, locals := 0 } : Room).slots) := by
  refine MetFree.of_bodySF (plainFor_of_name pn_com_example_kripketools_kripketools_NamesIsAtomStartPinLaw) hisR ?_
  intro p e s m args below meth c s₁ Bd hml0 hP hK
  obtain ⟨rfl, hZ, hh⟩ := hP
  have hx := Bd.exec
  have hby := Bd.bytes
  have hml : c.maxLocals = 3 := hml0
  have hown : s.vm.findClass "com/example/kripketools/kripketools/NamesIsAtomStartPinLaw" = some m.cls := findClass_of_methodNamed Bd.named
  have hnm := (name_of_methodNamed Bd.named Bd.method).1
  have X0 : Stand p l e ({ frames := 0, cells := 0, slots := 0, locals := 0 } : Room) s m #[(.int p0)] below meth c s₁ [] 0 0 := Stand.of_body Bd
  have e0 : s₁.heap = h0 := by rw [← hh, Bd.state]; rfl
  have N0 := Fr.nil n0
  have pre0 : Go p e below (s₁.setTop (entryFrame m #[(.int p0)] 3)) (s₁.setTop (mkF m 0 #[.val (.int p0), .unset, .unset] [])) := fun t k => castTop (ef_3 m p0) k
  have pre1 : Go p e below (s₁.setTop (entryFrame m #[(.int p0)] 3)) (s₁.setTop (mkF m 8 #[.val (.int p0), .val (.int (p0 ||| (32 : Int32))), .unset] [(.int (97 : Int32)), (.int (p0 ||| (32 : Int32)))])) := by
    intro t k
    refine pre0 t ?_
    show Steps p.tables e below (s₁.setTop (mkF m 0 #[.val (.int p0), .unset, .unset] [])) _
    refine XS.iloadN X0.here hx rfl (hb hby d3_0) rfl ?_
    show Steps p.tables e below (s₁.setTop (mkF m 1 #[.val (.int p0), .unset, .unset] [(.int p0)])) _
    refine XS.bipush X0.here hx rfl (hb hby d3_1) ?_
    show Steps p.tables e below (s₁.setTop (mkF m 3 #[.val (.int p0), .unset, .unset] [(.int (32 : Int32)), (.int p0)])) _
    refine XS.ior X0.here hx rfl (hb hby d3_3) rfl ?_
    show Steps p.tables e below (s₁.setTop (mkF m 4 #[.val (.int p0), .unset, .unset] [(.int (p0 ||| (32 : Int32)))])) _
    refine XS.istoreN X0.here hx rfl (hb hby d3_4) rfl (l' := #[.val (.int p0), .val (.int (p0 ||| (32 : Int32))), .unset]) rfl ?_
    show Steps p.tables e below (s₁.setTop (mkF m 5 #[.val (.int p0), .val (.int (p0 ||| (32 : Int32))), .unset] [])) _
    refine XS.iloadN X0.here hx rfl (hb hby d3_5) rfl ?_
    show Steps p.tables e below (s₁.setTop (mkF m 6 #[.val (.int p0), .val (.int (p0 ||| (32 : Int32))), .unset] [(.int (p0 ||| (32 : Int32)))])) _
    refine XS.bipush X0.here hx rfl (hb hby d3_6) ?_
    show Steps p.tables e below (s₁.setTop (mkF m 8 #[.val (.int p0), .val (.int (p0 ||| (32 : Int32))), .unset] [(.int (97 : Int32)), (.int (p0 ||| (32 : Int32)))])) _
    exact k
  by_cases hc8_2 : (p0 ||| (32 : Int32)) < (97 : Int32)
  · skip
    have pre3 : Go p e below (s₁.setTop (entryFrame m #[(.int p0)] 3)) (s₁.setTop (mkF m 24 #[.val (.int p0), .val (.int (p0 ||| (32 : Int32))), .val (.int (0 : Int32))] [(.int (0 : Int32))])) := by
      intro t k
      refine pre1 t ?_
      show Steps p.tables e below (s₁.setTop (mkF m 8 #[.val (.int p0), .val (.int (p0 ||| (32 : Int32))), .unset] [(.int (97 : Int32)), (.int (p0 ||| (32 : Int32)))])) _
      refine XS.icmpYes X0.here hx rfl (pc0 := 8) (pc' := 21) rfl (hb hby d3_8) rfl (XT.ii_lt_t hc8_2) (by decide) (by decide) ?_
      show Steps p.tables e below (s₁.setTop (mkF m 21 #[.val (.int p0), .val (.int (p0 ||| (32 : Int32))), .unset] [])) _
      refine XS.iconst X0.here hx rfl (hb hby d3_21) ?_
      show Steps p.tables e below (s₁.setTop (mkF m 22 #[.val (.int p0), .val (.int (p0 ||| (32 : Int32))), .unset] [(.int (0 : Int32))])) _
      refine XS.istoreN X0.here hx rfl (hb hby d3_22) rfl (l' := #[.val (.int p0), .val (.int (p0 ||| (32 : Int32))), .val (.int (0 : Int32))]) rfl ?_
      show Steps p.tables e below (s₁.setTop (mkF m 23 #[.val (.int p0), .val (.int (p0 ||| (32 : Int32))), .val (.int (0 : Int32))] [])) _
      refine XS.iloadN X0.here hx rfl (hb hby d3_23) rfl ?_
      show Steps p.tables e below (s₁.setTop (mkF m 24 #[.val (.int p0), .val (.int (p0 ||| (32 : Int32))), .val (.int (0 : Int32))] [(.int (0 : Int32))])) _
      exact k
    have pre4 : Go p e below (s₁.setTop (entryFrame m #[(.int p0)] 3)) (s₁.setTop (mkF m 30 #[.val (.int p0), .val (.int (p0 ||| (32 : Int32))), .val (.int (0 : Int32))] [(.int (95 : Int32)), (.int p0)])) := by
      intro t k
      refine pre3 t ?_
      show Steps p.tables e below (s₁.setTop (mkF m 24 #[.val (.int p0), .val (.int (p0 ||| (32 : Int32))), .val (.int (0 : Int32))] [(.int (0 : Int32))])) _
      refine XS.ifNo X0.here hx rfl (hb hby d3_24) rfl (XT.i0_ne_f (by decide : (0 : Int32) = (0 : Int32))) ?_
      show Steps p.tables e below (s₁.setTop (mkF m 27 #[.val (.int p0), .val (.int (p0 ||| (32 : Int32))), .val (.int (0 : Int32))] [])) _
      refine XS.iloadN X0.here hx rfl (hb hby d3_27) rfl ?_
      show Steps p.tables e below (s₁.setTop (mkF m 28 #[.val (.int p0), .val (.int (p0 ||| (32 : Int32))), .val (.int (0 : Int32))] [(.int p0)])) _
      refine XS.bipush X0.here hx rfl (hb hby d3_28) ?_
      show Steps p.tables e below (s₁.setTop (mkF m 30 #[.val (.int p0), .val (.int (p0 ||| (32 : Int32))), .val (.int (0 : Int32))] [(.int (95 : Int32)), (.int p0)])) _
      exact k
    by_cases hc30_5 : p0 = (95 : Int32)
    · skip
      have pre6 : Go p e below (s₁.setTop (entryFrame m #[(.int p0)] 3)) (s₁.setTop (mkF m 38 #[.val (.int p0), .val (.int (p0 ||| (32 : Int32))), .val (.int (0 : Int32))] [(.int (1 : Int32))])) := by
        intro t k
        refine pre4 t ?_
        show Steps p.tables e below (s₁.setTop (mkF m 30 #[.val (.int p0), .val (.int (p0 ||| (32 : Int32))), .val (.int (0 : Int32))] [(.int (95 : Int32)), (.int p0)])) _
        refine XS.icmpNo X0.here hx rfl (hb hby d3_30) rfl (XT.ii_ne_f hc30_5) ?_
        show Steps p.tables e below (s₁.setTop (mkF m 33 #[.val (.int p0), .val (.int (p0 ||| (32 : Int32))), .val (.int (0 : Int32))] [])) _
        refine XS.iconst X0.here hx rfl (hb hby d3_33) ?_
        show Steps p.tables e below (s₁.setTop (mkF m 34 #[.val (.int p0), .val (.int (p0 ||| (32 : Int32))), .val (.int (0 : Int32))] [(.int (1 : Int32))])) _
        refine XS.goto X0.here hx rfl (pc0 := 34) (pc' := 38) rfl (hb hby d3_34) (by decide) (by decide) ?_
        show Steps p.tables e below (s₁.setTop (mkF m 38 #[.val (.int p0), .val (.int (p0 ||| (32 : Int32))), .val (.int (0 : Int32))] [(.int (1 : Int32))])) _
        exact k
      obtain ⟨fs, hr, hrun, hended, hW, hsame⟩ := X0.leave (v := some (.int (1 : Int32))) (fun h => by rw [Bd.returns] at h; cases h)
      refine ⟨_, _, pre6 _ (retN X0 hx (t := .boolean) Bd.returns (by simp) (hb hby d3_38) hr), hrun, hended, _, _, rfl, ?_, ⟨_, rfl⟩, hW, hsame.mono (by decide) (by decide)⟩
      show Q3 Z p0 h0 n0 _ s₁.heap _
      rw [e0]
      exact ⟨congrArg some (congrArg Value.int (show (1 : Int32) = f3 p0 from by rw [f3, if_pos hc8_2, if_pos hc30_5])), N0, rfl⟩
    · skip
      have pre7 : Go p e below (s₁.setTop (entryFrame m #[(.int p0)] 3)) (s₁.setTop (mkF m 38 #[.val (.int p0), .val (.int (p0 ||| (32 : Int32))), .val (.int (0 : Int32))] [(.int (0 : Int32))])) := by
        intro t k
        refine pre4 t ?_
        show Steps p.tables e below (s₁.setTop (mkF m 30 #[.val (.int p0), .val (.int (p0 ||| (32 : Int32))), .val (.int (0 : Int32))] [(.int (95 : Int32)), (.int p0)])) _
        refine XS.icmpYes X0.here hx rfl (pc0 := 30) (pc' := 37) rfl (hb hby d3_30) rfl (XT.ii_ne_t hc30_5) (by decide) (by decide) ?_
        show Steps p.tables e below (s₁.setTop (mkF m 37 #[.val (.int p0), .val (.int (p0 ||| (32 : Int32))), .val (.int (0 : Int32))] [])) _
        refine XS.iconst X0.here hx rfl (hb hby d3_37) ?_
        show Steps p.tables e below (s₁.setTop (mkF m 38 #[.val (.int p0), .val (.int (p0 ||| (32 : Int32))), .val (.int (0 : Int32))] [(.int (0 : Int32))])) _
        exact k
      obtain ⟨fs, hr, hrun, hended, hW, hsame⟩ := X0.leave (v := some (.int (0 : Int32))) (fun h => by rw [Bd.returns] at h; cases h)
      refine ⟨_, _, pre7 _ (retN X0 hx (t := .boolean) Bd.returns (by simp) (hb hby d3_38) hr), hrun, hended, _, _, rfl, ?_, ⟨_, rfl⟩, hW, hsame.mono (by decide) (by decide)⟩
      show Q3 Z p0 h0 n0 _ s₁.heap _
      rw [e0]
      exact ⟨congrArg some (congrArg Value.int (show (0 : Int32) = f3 p0 from by rw [f3, if_pos hc8_2, if_neg hc30_5])), N0, rfl⟩
  · skip
    have pre8 : Go p e below (s₁.setTop (entryFrame m #[(.int p0)] 3)) (s₁.setTop (mkF m 14 #[.val (.int p0), .val (.int (p0 ||| (32 : Int32))), .unset] [(.int (122 : Int32)), (.int (p0 ||| (32 : Int32)))])) := by
      intro t k
      refine pre1 t ?_
      show Steps p.tables e below (s₁.setTop (mkF m 8 #[.val (.int p0), .val (.int (p0 ||| (32 : Int32))), .unset] [(.int (97 : Int32)), (.int (p0 ||| (32 : Int32)))])) _
      refine XS.icmpNo X0.here hx rfl (hb hby d3_8) rfl (XT.ii_lt_f hc8_2) ?_
      show Steps p.tables e below (s₁.setTop (mkF m 11 #[.val (.int p0), .val (.int (p0 ||| (32 : Int32))), .unset] [])) _
      refine XS.iloadN X0.here hx rfl (hb hby d3_11) rfl ?_
      show Steps p.tables e below (s₁.setTop (mkF m 12 #[.val (.int p0), .val (.int (p0 ||| (32 : Int32))), .unset] [(.int (p0 ||| (32 : Int32)))])) _
      refine XS.bipush X0.here hx rfl (hb hby d3_12) ?_
      show Steps p.tables e below (s₁.setTop (mkF m 14 #[.val (.int p0), .val (.int (p0 ||| (32 : Int32))), .unset] [(.int (122 : Int32)), (.int (p0 ||| (32 : Int32)))])) _
      exact k
    by_cases hc14_9 : (122 : Int32) < (p0 ||| (32 : Int32))
    · skip
      have pre10 : Go p e below (s₁.setTop (entryFrame m #[(.int p0)] 3)) (s₁.setTop (mkF m 24 #[.val (.int p0), .val (.int (p0 ||| (32 : Int32))), .val (.int (0 : Int32))] [(.int (0 : Int32))])) := by
        intro t k
        refine pre8 t ?_
        show Steps p.tables e below (s₁.setTop (mkF m 14 #[.val (.int p0), .val (.int (p0 ||| (32 : Int32))), .unset] [(.int (122 : Int32)), (.int (p0 ||| (32 : Int32)))])) _
        refine XS.icmpYes X0.here hx rfl (pc0 := 14) (pc' := 21) rfl (hb hby d3_14) rfl (XT.ii_gt_t hc14_9) (by decide) (by decide) ?_
        show Steps p.tables e below (s₁.setTop (mkF m 21 #[.val (.int p0), .val (.int (p0 ||| (32 : Int32))), .unset] [])) _
        refine XS.iconst X0.here hx rfl (hb hby d3_21) ?_
        show Steps p.tables e below (s₁.setTop (mkF m 22 #[.val (.int p0), .val (.int (p0 ||| (32 : Int32))), .unset] [(.int (0 : Int32))])) _
        refine XS.istoreN X0.here hx rfl (hb hby d3_22) rfl (l' := #[.val (.int p0), .val (.int (p0 ||| (32 : Int32))), .val (.int (0 : Int32))]) rfl ?_
        show Steps p.tables e below (s₁.setTop (mkF m 23 #[.val (.int p0), .val (.int (p0 ||| (32 : Int32))), .val (.int (0 : Int32))] [])) _
        refine XS.iloadN X0.here hx rfl (hb hby d3_23) rfl ?_
        show Steps p.tables e below (s₁.setTop (mkF m 24 #[.val (.int p0), .val (.int (p0 ||| (32 : Int32))), .val (.int (0 : Int32))] [(.int (0 : Int32))])) _
        exact k
      have pre11 : Go p e below (s₁.setTop (entryFrame m #[(.int p0)] 3)) (s₁.setTop (mkF m 30 #[.val (.int p0), .val (.int (p0 ||| (32 : Int32))), .val (.int (0 : Int32))] [(.int (95 : Int32)), (.int p0)])) := by
        intro t k
        refine pre10 t ?_
        show Steps p.tables e below (s₁.setTop (mkF m 24 #[.val (.int p0), .val (.int (p0 ||| (32 : Int32))), .val (.int (0 : Int32))] [(.int (0 : Int32))])) _
        refine XS.ifNo X0.here hx rfl (hb hby d3_24) rfl (XT.i0_ne_f (by decide : (0 : Int32) = (0 : Int32))) ?_
        show Steps p.tables e below (s₁.setTop (mkF m 27 #[.val (.int p0), .val (.int (p0 ||| (32 : Int32))), .val (.int (0 : Int32))] [])) _
        refine XS.iloadN X0.here hx rfl (hb hby d3_27) rfl ?_
        show Steps p.tables e below (s₁.setTop (mkF m 28 #[.val (.int p0), .val (.int (p0 ||| (32 : Int32))), .val (.int (0 : Int32))] [(.int p0)])) _
        refine XS.bipush X0.here hx rfl (hb hby d3_28) ?_
        show Steps p.tables e below (s₁.setTop (mkF m 30 #[.val (.int p0), .val (.int (p0 ||| (32 : Int32))), .val (.int (0 : Int32))] [(.int (95 : Int32)), (.int p0)])) _
        exact k
      by_cases hc30_12 : p0 = (95 : Int32)
      · skip
        have pre13 : Go p e below (s₁.setTop (entryFrame m #[(.int p0)] 3)) (s₁.setTop (mkF m 38 #[.val (.int p0), .val (.int (p0 ||| (32 : Int32))), .val (.int (0 : Int32))] [(.int (1 : Int32))])) := by
          intro t k
          refine pre11 t ?_
          show Steps p.tables e below (s₁.setTop (mkF m 30 #[.val (.int p0), .val (.int (p0 ||| (32 : Int32))), .val (.int (0 : Int32))] [(.int (95 : Int32)), (.int p0)])) _
          refine XS.icmpNo X0.here hx rfl (hb hby d3_30) rfl (XT.ii_ne_f hc30_12) ?_
          show Steps p.tables e below (s₁.setTop (mkF m 33 #[.val (.int p0), .val (.int (p0 ||| (32 : Int32))), .val (.int (0 : Int32))] [])) _
          refine XS.iconst X0.here hx rfl (hb hby d3_33) ?_
          show Steps p.tables e below (s₁.setTop (mkF m 34 #[.val (.int p0), .val (.int (p0 ||| (32 : Int32))), .val (.int (0 : Int32))] [(.int (1 : Int32))])) _
          refine XS.goto X0.here hx rfl (pc0 := 34) (pc' := 38) rfl (hb hby d3_34) (by decide) (by decide) ?_
          show Steps p.tables e below (s₁.setTop (mkF m 38 #[.val (.int p0), .val (.int (p0 ||| (32 : Int32))), .val (.int (0 : Int32))] [(.int (1 : Int32))])) _
          exact k
        obtain ⟨fs, hr, hrun, hended, hW, hsame⟩ := X0.leave (v := some (.int (1 : Int32))) (fun h => by rw [Bd.returns] at h; cases h)
        refine ⟨_, _, pre13 _ (retN X0 hx (t := .boolean) Bd.returns (by simp) (hb hby d3_38) hr), hrun, hended, _, _, rfl, ?_, ⟨_, rfl⟩, hW, hsame.mono (by decide) (by decide)⟩
        show Q3 Z p0 h0 n0 _ s₁.heap _
        rw [e0]
        exact ⟨congrArg some (congrArg Value.int (show (1 : Int32) = f3 p0 from by rw [f3, if_neg hc8_2, if_pos hc14_9, if_pos hc30_12])), N0, rfl⟩
      · skip
        have pre14 : Go p e below (s₁.setTop (entryFrame m #[(.int p0)] 3)) (s₁.setTop (mkF m 38 #[.val (.int p0), .val (.int (p0 ||| (32 : Int32))), .val (.int (0 : Int32))] [(.int (0 : Int32))])) := by
          intro t k
          refine pre11 t ?_
          show Steps p.tables e below (s₁.setTop (mkF m 30 #[.val (.int p0), .val (.int (p0 ||| (32 : Int32))), .val (.int (0 : Int32))] [(.int (95 : Int32)), (.int p0)])) _
          refine XS.icmpYes X0.here hx rfl (pc0 := 30) (pc' := 37) rfl (hb hby d3_30) rfl (XT.ii_ne_t hc30_12) (by decide) (by decide) ?_
          show Steps p.tables e below (s₁.setTop (mkF m 37 #[.val (.int p0), .val (.int (p0 ||| (32 : Int32))), .val (.int (0 : Int32))] [])) _
          refine XS.iconst X0.here hx rfl (hb hby d3_37) ?_
          show Steps p.tables e below (s₁.setTop (mkF m 38 #[.val (.int p0), .val (.int (p0 ||| (32 : Int32))), .val (.int (0 : Int32))] [(.int (0 : Int32))])) _
          exact k
        obtain ⟨fs, hr, hrun, hended, hW, hsame⟩ := X0.leave (v := some (.int (0 : Int32))) (fun h => by rw [Bd.returns] at h; cases h)
        refine ⟨_, _, pre14 _ (retN X0 hx (t := .boolean) Bd.returns (by simp) (hb hby d3_38) hr), hrun, hended, _, _, rfl, ?_, ⟨_, rfl⟩, hW, hsame.mono (by decide) (by decide)⟩
        show Q3 Z p0 h0 n0 _ s₁.heap _
        rw [e0]
        exact ⟨congrArg some (congrArg Value.int (show (0 : Int32) = f3 p0 from by rw [f3, if_neg hc8_2, if_pos hc14_9, if_neg hc30_12])), N0, rfl⟩
    · skip
      have pre15 : Go p e below (s₁.setTop (entryFrame m #[(.int p0)] 3)) (s₁.setTop (mkF m 24 #[.val (.int p0), .val (.int (p0 ||| (32 : Int32))), .val (.int (1 : Int32))] [(.int (1 : Int32))])) := by
        intro t k
        refine pre8 t ?_
        show Steps p.tables e below (s₁.setTop (mkF m 14 #[.val (.int p0), .val (.int (p0 ||| (32 : Int32))), .unset] [(.int (122 : Int32)), (.int (p0 ||| (32 : Int32)))])) _
        refine XS.icmpNo X0.here hx rfl (hb hby d3_14) rfl (XT.ii_gt_f hc14_9) ?_
        show Steps p.tables e below (s₁.setTop (mkF m 17 #[.val (.int p0), .val (.int (p0 ||| (32 : Int32))), .unset] [])) _
        refine XS.iconst X0.here hx rfl (hb hby d3_17) ?_
        show Steps p.tables e below (s₁.setTop (mkF m 18 #[.val (.int p0), .val (.int (p0 ||| (32 : Int32))), .unset] [(.int (1 : Int32))])) _
        refine XS.goto X0.here hx rfl (pc0 := 18) (pc' := 22) rfl (hb hby d3_18) (by decide) (by decide) ?_
        show Steps p.tables e below (s₁.setTop (mkF m 22 #[.val (.int p0), .val (.int (p0 ||| (32 : Int32))), .unset] [(.int (1 : Int32))])) _
        refine XS.istoreN X0.here hx rfl (hb hby d3_22) rfl (l' := #[.val (.int p0), .val (.int (p0 ||| (32 : Int32))), .val (.int (1 : Int32))]) rfl ?_
        show Steps p.tables e below (s₁.setTop (mkF m 23 #[.val (.int p0), .val (.int (p0 ||| (32 : Int32))), .val (.int (1 : Int32))] [])) _
        refine XS.iloadN X0.here hx rfl (hb hby d3_23) rfl ?_
        show Steps p.tables e below (s₁.setTop (mkF m 24 #[.val (.int p0), .val (.int (p0 ||| (32 : Int32))), .val (.int (1 : Int32))] [(.int (1 : Int32))])) _
        exact k
      have pre16 : Go p e below (s₁.setTop (entryFrame m #[(.int p0)] 3)) (s₁.setTop (mkF m 38 #[.val (.int p0), .val (.int (p0 ||| (32 : Int32))), .val (.int (1 : Int32))] [(.int (1 : Int32))])) := by
        intro t k
        refine pre15 t ?_
        show Steps p.tables e below (s₁.setTop (mkF m 24 #[.val (.int p0), .val (.int (p0 ||| (32 : Int32))), .val (.int (1 : Int32))] [(.int (1 : Int32))])) _
        refine XS.ifYes X0.here hx rfl (pc0 := 24) (pc' := 33) rfl (hb hby d3_24) rfl (XT.i0_ne_t (by decide : ¬ ((1 : Int32) = (0 : Int32)))) (by decide) (by decide) ?_
        show Steps p.tables e below (s₁.setTop (mkF m 33 #[.val (.int p0), .val (.int (p0 ||| (32 : Int32))), .val (.int (1 : Int32))] [])) _
        refine XS.iconst X0.here hx rfl (hb hby d3_33) ?_
        show Steps p.tables e below (s₁.setTop (mkF m 34 #[.val (.int p0), .val (.int (p0 ||| (32 : Int32))), .val (.int (1 : Int32))] [(.int (1 : Int32))])) _
        refine XS.goto X0.here hx rfl (pc0 := 34) (pc' := 38) rfl (hb hby d3_34) (by decide) (by decide) ?_
        show Steps p.tables e below (s₁.setTop (mkF m 38 #[.val (.int p0), .val (.int (p0 ||| (32 : Int32))), .val (.int (1 : Int32))] [(.int (1 : Int32))])) _
        exact k
      obtain ⟨fs, hr, hrun, hended, hW, hsame⟩ := X0.leave (v := some (.int (1 : Int32))) (fun h => by rw [Bd.returns] at h; cases h)
      refine ⟨_, _, pre16 _ (retN X0 hx (t := .boolean) Bd.returns (by simp) (hb hby d3_38) hr), hrun, hended, _, _, rfl, ?_, ⟨_, rfl⟩, hW, hsame.mono (by decide) (by decide)⟩
      show Q3 Z p0 h0 n0 _ s₁.heap _
      rw [e0]
      exact ⟨congrArg some (congrArg Value.int (show (1 : Int32) = f3 p0 from by rw [f3, if_neg hc8_2, if_neg hc14_9])), N0, rfl⟩
def own_tab : List Int32 := [64, 65, 90, 91, 96, 97, 122, 123, 95, 94, 48, 57, 0, 65535, 192, 233]
theorem own_128 : ∀ n : Fin 128, f1 (Int32.ofNat n.val) = f3 (Int32.ofNat n.val) := by decide +kernel
theorem own_orle {c : Int32} (h0 : 0 ≤ c.toInt) (h1 : c.toInt < 65536) : c.toInt ≤ (c ||| (32 : Int32)).toInt := by
  have e : c.toInt = c.toBitVec.toInt := rfl
  have e2 : (c ||| (32 : Int32)).toInt = (c.toBitVec ||| 32#32).toInt := rfl
  rw [e] at h0 h1 ⊢; rw [e2]
  rw [BitVec.toInt_eq_toNat_cond] at h0 h1 ⊢
  rw [BitVec.toInt_eq_toNat_cond, BitVec.toNat_or]
  have hl := c.toBitVec.isLt
  have h3 : c.toBitVec.toNat < 2 ^ 16 := by split at h1 <;> omega
  have h4 : c.toBitVec.toNat ||| (32#32).toNat < 2 ^ 16 := Nat.or_lt_two_pow h3 (by decide)
  have h5 : c.toBitVec.toNat ≤ c.toBitVec.toNat ||| (32#32).toNat := Nat.left_le_or
  rw [if_pos (by omega), if_pos (by omega)]; omega
theorem own_big {c : Int32} (h0 : 128 ≤ c.toInt) (h1 : c.toInt < 65536) : f1 c = f3 c := by
  have h2 := own_orle (c := c) (by omega) h1
  have c1 : (97 : Int32).toInt = 97 := rfl
  have c2 : (122 : Int32).toInt = 122 := rfl
  have c3 : (65 : Int32).toInt = 65 := rfl
  have c4 : (90 : Int32).toInt = 90 := rfl
  have n95 : ¬ c = (95 : Int32) := fun e => by rw [e] at h0; exact absurd h0 (by decide)
  have a1 : f2 c = 0 := by
    unfold f2
    simp only [Int32.lt_iff_toInt_lt, c1, c2, c3, c4]
    repeat' split
    all_goals first | rfl | omega
  have a2 : f1 c = 0 := by unfold f1; rw [if_pos a1, if_neg n95]
  rw [a2]; unfold f3
  simp only [Int32.lt_iff_toInt_lt, c1, c2, n95, if_false]
  repeat' split
  all_goals first | rfl | omega | (rename_i q; exact absurd q (by decide))
theorem own_eq {c : Int32} (h0 : 0 ≤ c.toInt) (h1 : c.toInt < 65536) : f1 c = f3 c := by
  by_cases h : c.toInt < 128
  · have e := own_ofNat (c := c) (n := c.toInt.toNat) (by omega)
    have q := own_128 ⟨c.toInt.toNat, by omega⟩
    rw [← e] at q; exact q
  · exact own_big (by omega) h1
theorem own_16 : ∀ n : Fin 16, (0 ≤ (own_tab.getD (Int32.ofNat n.val).toNatClampNeg 0).toInt ∧ (own_tab.getD (Int32.ofNat n.val).toNatClampNeg 0).toInt < 65536) ∧ ¬ (Int32.ofNat n.val) < 0 ∧ (Int32.ofNat n.val) < 16 := by decide +kernel
theorem own_y (y : Int32) : (0 ≤ (own_tab.getD (y &&& (15 : Int32)).toNatClampNeg 0).toInt ∧ (own_tab.getD (y &&& (15 : Int32)).toNatClampNeg 0).toInt < 65536) ∧ ¬ (y &&& (15 : Int32)) < 0 ∧ (y &&& (15 : Int32)) < 16 := by
  have e := Jvm.Kit.i32_mask y 15 (k := 4) (by decide) (by decide)
  have hu := own_ofNat (c := (y &&& (15 : Int32))) (n := (y &&& (15 : Int32)).toInt.toNat) (by omega)
  have q := own_16 ⟨(y &&& (15 : Int32)).toInt.toNat, by omega⟩
  rw [← hu] at q; exact q
theorem ef_0 (m : MethodId) (x0 : Int32) (x1 : Int32) : entryFrame m #[(.int x0), (.int x1)] maxLocals = mkF m 0 #[.val (.int x0), .val (.int x1), .unset, .unset, .unset, .unset, .unset] [] := by first | (simp [entryFrame, mkF, argsToLocals, Value.category, maxLocals]; done) | rfl
def Q0 (Z : State) (x0 : Int32) (x1 : Int32) (h0 : Heap) (n0 : Nat) (v : Option Value) (h : Heap) (L : List Loc) : Prop := v = some (.int 1) ∧ Fr n0 L
set_option maxRecDepth 65536 in
set_option maxHeartbeats 40000000 in
theorem rm0 (l : Launch) (Z : State) (a0 : Array Value) (hw : ∀ d ∈ tables_1, d.before a0 Z = true) (ws : List Jvm.Cond) (x0 : Int32) (x1 : Int32) (h0 : Heap) (n0 : Nat) (Z0 : n0 ≤ h0.size) :
    MetFree l x (head1 (Jvm.Cond.code x code maxLocals ret :: ws) room_1) (fun a U => a = #[(.int x0), (.int x1)] ∧ Z.Warmed39 U.vm ∧ U.heap = h0) (fun _ _ _ _ _ => True) (fun _ U o U' => ∃ v L, o = .returned v ∧ Q0 Z x0 x1 h0 n0 v U'.heap L ∧ FrameEnd U o U' L 16 128) := by
  refine MetFree.of_bodySF (plainFor_of_name pn_com_example_kripketools_kripketools_NamesIsAtomStartPinLaw) hisR ?_
  intro p e s m args below meth c s₁ Bd hml0 hP hK
  obtain ⟨rfl, hZ, hh⟩ := hP
  have hx := Bd.exec
  have hby := Bd.bytes
  have hml : c.maxLocals = 7 := hml0
  have hown : s.vm.findClass "com/example/kripketools/kripketools/NamesIsAtomStartPinLaw" = some m.cls := findClass_of_methodNamed Bd.named
  have hnm := (name_of_methodNamed Bd.named Bd.method).1
  have X0 : Stand p l e room_1 s m #[(.int x0), (.int x1)] below meth c s₁ [] 0 0 := Stand.of_body Bd
  have e0 : s₁.heap = h0 := by rw [← hh, Bd.state]; rfl
  have N0 := Fr.nil n0
  have pre0 : Go p e below (s₁.setTop (entryFrame m #[(.int x0), (.int x1)] maxLocals)) (s₁.setTop (mkF m 0 #[.val (.int x0), .val (.int x1), .unset, .unset, .unset, .unset, .unset] [])) := fun t k => castTop (ef_0 m x0 x1) k
  have pre1 : Go p e below (s₁.setTop (entryFrame m #[(.int x0), (.int x1)] maxLocals)) (s₁.setTop (mkF m 5 #[.val (.int x0), .val (.int x1), .unset, .unset, .unset, .unset, .unset] [(.int (((x0 &&& (65535 : Int32))).toUInt32.toUInt16.toUInt32.toInt32))])) := by
    intro t k
    refine pre0 t ?_
    show Steps p.tables e below (s₁.setTop (mkF m 0 #[.val (.int x0), .val (.int x1), .unset, .unset, .unset, .unset, .unset] [])) _
    refine XS.iloadN X0.here hx rfl (hb hby at_0) rfl ?_
    show Steps p.tables e below (s₁.setTop (mkF m 1 #[.val (.int x0), .val (.int x1), .unset, .unset, .unset, .unset, .unset] [(.int x0)])) _
    refine X0.ldcI hx hown (mvT hZ (hw _ (List.mem_of_getElem? (i := 0) rfl))) (g := (mkF m 1 #[.val (.int x0), .val (.int x1), .unset, .unset, .unset, .unset, .unset] [(.int x0)])) rfl (hb hby at_1) ?_
    show Steps p.tables e below (s₁.setTop (mkF m 3 #[.val (.int x0), .val (.int x1), .unset, .unset, .unset, .unset, .unset] [(.int (65535 : Int32)), (.int x0)])) _
    refine XS.iand X0.here hx rfl (hb hby at_3) rfl ?_
    show Steps p.tables e below (s₁.setTop (mkF m 4 #[.val (.int x0), .val (.int x1), .unset, .unset, .unset, .unset, .unset] [(.int (x0 &&& (65535 : Int32)))])) _
    refine XS.i2c X0.here hx rfl (hb hby at_4) rfl ?_
    show Steps p.tables e below (s₁.setTop (mkF m 5 #[.val (.int x0), .val (.int x1), .unset, .unset, .unset, .unset, .unset] [(.int (((x0 &&& (65535 : Int32))).toUInt32.toUInt16.toUInt32.toInt32))])) _
    exact k
  obtain ⟨cc, h_cc⟩ : ∃ z : Int32, z = (((x0 &&& (65535 : Int32))).toUInt32.toUInt16.toUInt32.toInt32) := ⟨_, rfl⟩
  have pre2 : Go p e below (s₁.setTop (entryFrame m #[(.int x0), (.int x1)] maxLocals)) (s₁.setTop (mkF m 5 #[.val (.int x0), .val (.int x1), .unset, .unset, .unset, .unset, .unset] [(.int cc)])) := by rw [h_cc]; exact pre1
  have hcc := own_char (x0 &&& (65535 : Int32))
  rw [← h_cc] at hcc
  have pre3 : Go p e below (s₁.setTop (entryFrame m #[(.int x0), (.int x1)] maxLocals)) (s₁.setTop (mkF m 8 #[.val (.int x0), .val (.int x1), .val (.int cc), .unset, .unset, .unset, .unset] [(.int (16 : Int32))])) := by
    intro t k
    refine pre2 t ?_
    show Steps p.tables e below (s₁.setTop (mkF m 5 #[.val (.int x0), .val (.int x1), .unset, .unset, .unset, .unset, .unset] [(.int cc)])) _
    refine XS.istoreN X0.here hx rfl (hb hby at_5) rfl (l' := #[.val (.int x0), .val (.int x1), .val (.int cc), .unset, .unset, .unset, .unset]) rfl ?_
    show Steps p.tables e below (s₁.setTop (mkF m 6 #[.val (.int x0), .val (.int x1), .val (.int cc), .unset, .unset, .unset, .unset] [])) _
    refine XS.bipush X0.here hx rfl (hb hby at_6) ?_
    show Steps p.tables e below (s₁.setTop (mkF m 8 #[.val (.int x0), .val (.int x1), .val (.int cc), .unset, .unset, .unset, .unset] [(.int (16 : Int32))])) _
    exact k
  obtain ⟨T4, h4, k4, X4, e4, E4, A4, st4⟩ := newP X0 hx hZ (hw _ (List.mem_of_getElem? (i := 1) rfl)) e0 (g := (mkF m 8 #[.val (.int x0), .val (.int x1), .val (.int cc), .unset, .unset, .unset, .unset] [(.int (16 : Int32))])) rfl (hb hby at_8) rfl (by decide) (cap := 16) (by decide) (by decide) (by decide) (by decide)
  obtain ⟨b0, g4⟩ : ∃ z, z = h0.size := ⟨_, rfl⟩
  rw [← g4] at A4 st4
  have zz5 := (Nat.le_trans Z0 E4.1)
  have V_b0 : Arv Z h4 b0 k4 .char (16 : Int32) [(.int (0 : Int32)), (.int (0 : Int32)), (.int (0 : Int32)), (.int (0 : Int32)), (.int (0 : Int32)), (.int (0 : Int32)), (.int (0 : Int32)), (.int (0 : Int32)), (.int (0 : Int32)), (.int (0 : Int32)), (.int (0 : Int32)), (.int (0 : Int32)), (.int (0 : Int32)), (.int (0 : Int32)), (.int (0 : Int32)), (.int (0 : Int32))] (.int (0 : Int32)) := (Arv.new A4 (by decide)).pad (pad_rep [] (.int (0 : Int32)) 16)
  have g_b0 : n0 ≤ b0 := Nat.le_trans Z0 (Nat.le_of_eq g4.symm)
  have pre6 : Go p e below (s₁.setTop (entryFrame m #[(.int x0), (.int x1)] maxLocals)) (T4.setTop (mkF m 10 #[.val (.int x0), .val (.int x1), .val (.int cc), .unset, .unset, .unset, .unset] [(.ref b0)])) := fun t k => pre3 t (st4 t k)
  have pre7 : Go p e below (s₁.setTop (entryFrame m #[(.int x0), (.int x1)] maxLocals)) (T4.setTop (mkF m 14 #[.val (.int x0), .val (.int x1), .val (.int cc), .unset, .unset, .unset, .unset] [(.int (64 : Int32)), (.int (0 : Int32)), (.ref b0), (.ref b0)])) := by
    intro t k
    refine pre6 t ?_
    show Steps p.tables e below (T4.setTop (mkF m 10 #[.val (.int x0), .val (.int x1), .val (.int cc), .unset, .unset, .unset, .unset] [(.ref b0)])) _
    refine XS.dup X4.here hx rfl (hb hby at_10) rfl rfl ?_
    show Steps p.tables e below (T4.setTop (mkF m 11 #[.val (.int x0), .val (.int x1), .val (.int cc), .unset, .unset, .unset, .unset] [(.ref b0), (.ref b0)])) _
    refine XS.iconst X4.here hx rfl (hb hby at_11) ?_
    show Steps p.tables e below (T4.setTop (mkF m 12 #[.val (.int x0), .val (.int x1), .val (.int cc), .unset, .unset, .unset, .unset] [(.int (0 : Int32)), (.ref b0), (.ref b0)])) _
    refine XS.bipush X4.here hx rfl (hb hby at_12) ?_
    show Steps p.tables e below (T4.setTop (mkF m 14 #[.val (.int x0), .val (.int x1), .val (.int cc), .unset, .unset, .unset, .unset] [(.int (64 : Int32)), (.int (0 : Int32)), (.ref b0), (.ref b0)])) _
    exact k
  obtain ⟨cl8, Ar8, qq8, SS8, NN8, HH8, GG8⟩ := V_b0
  have hin8 : ¬ ((0 : Int32) < 0 ∨ cl8.slots.size ≤ ((0 : Int32)).toNatClampNeg) := inb_of SS8 ⟨by decide, by decide⟩
  obtain ⟨T8, h8, X8, e8, W8, st8⟩ := stC X4 hx hZ e4 Ar8 (j := (0 : Int32)) hin8 (g := (mkF m 14 #[.val (.int x0), .val (.int x1), .val (.int cc), .unset, .unset, .unset, .unset] [(.int (64 : Int32)), (.int (0 : Int32)), (.ref b0), (.ref b0)])) rfl rfl (hb hby at_14)
  have V8 : Arv Z h8 b0 k4 .char (16 : Int32) [(.int (64 : Int32)), (.int (0 : Int32)), (.int (0 : Int32)), (.int (0 : Int32)), (.int (0 : Int32)), (.int (0 : Int32)), (.int (0 : Int32)), (.int (0 : Int32)), (.int (0 : Int32)), (.int (0 : Int32)), (.int (0 : Int32)), (.int (0 : Int32)), (.int (0 : Int32)), (.int (0 : Int32)), (.int (0 : Int32)), (.int (0 : Int32))] (.int (0 : Int32)) := Arv.set Ar8 qq8 SS8 NN8 HH8 GG8 (fits_nar_char _) W8 0 rfl (Nat.le_of_ble_eq_true rfl)
  have zz9 := (Nat.le_trans zz5 (Keep.of_wr W8).1)
  have N8 := Fr.snoc X8 N0 g_b0
  have pre10 : Go p e below (s₁.setTop (entryFrame m #[(.int x0), (.int x1)] maxLocals)) (T8.setTop (mkF m 15 #[.val (.int x0), .val (.int x1), .val (.int cc), .unset, .unset, .unset, .unset] [(.ref b0)])) := fun t k => pre7 t (st8 t k)
  have pre11 : Go p e below (s₁.setTop (entryFrame m #[(.int x0), (.int x1)] maxLocals)) (T8.setTop (mkF m 19 #[.val (.int x0), .val (.int x1), .val (.int cc), .unset, .unset, .unset, .unset] [(.int (65 : Int32)), (.int (1 : Int32)), (.ref b0), (.ref b0)])) := by
    intro t k
    refine pre10 t ?_
    show Steps p.tables e below (T8.setTop (mkF m 15 #[.val (.int x0), .val (.int x1), .val (.int cc), .unset, .unset, .unset, .unset] [(.ref b0)])) _
    refine XS.dup X8.here hx rfl (hb hby at_15) rfl rfl ?_
    show Steps p.tables e below (T8.setTop (mkF m 16 #[.val (.int x0), .val (.int x1), .val (.int cc), .unset, .unset, .unset, .unset] [(.ref b0), (.ref b0)])) _
    refine XS.iconst X8.here hx rfl (hb hby at_16) ?_
    show Steps p.tables e below (T8.setTop (mkF m 17 #[.val (.int x0), .val (.int x1), .val (.int cc), .unset, .unset, .unset, .unset] [(.int (1 : Int32)), (.ref b0), (.ref b0)])) _
    refine XS.bipush X8.here hx rfl (hb hby at_17) ?_
    show Steps p.tables e below (T8.setTop (mkF m 19 #[.val (.int x0), .val (.int x1), .val (.int cc), .unset, .unset, .unset, .unset] [(.int (65 : Int32)), (.int (1 : Int32)), (.ref b0), (.ref b0)])) _
    exact k
  obtain ⟨cl12, Ar12, qq12, SS12, NN12, HH12, GG12⟩ := V8
  have hin12 : ¬ ((1 : Int32) < 0 ∨ cl12.slots.size ≤ ((1 : Int32)).toNatClampNeg) := inb_of SS12 ⟨by decide, by decide⟩
  obtain ⟨T12, h12, X12, e12, W12, st12⟩ := stC X8 hx hZ e8 Ar12 (j := (1 : Int32)) hin12 (g := (mkF m 19 #[.val (.int x0), .val (.int x1), .val (.int cc), .unset, .unset, .unset, .unset] [(.int (65 : Int32)), (.int (1 : Int32)), (.ref b0), (.ref b0)])) rfl rfl (hb hby at_19)
  have V12 : Arv Z h12 b0 k4 .char (16 : Int32) [(.int (64 : Int32)), (.int (65 : Int32)), (.int (0 : Int32)), (.int (0 : Int32)), (.int (0 : Int32)), (.int (0 : Int32)), (.int (0 : Int32)), (.int (0 : Int32)), (.int (0 : Int32)), (.int (0 : Int32)), (.int (0 : Int32)), (.int (0 : Int32)), (.int (0 : Int32)), (.int (0 : Int32)), (.int (0 : Int32)), (.int (0 : Int32))] (.int (0 : Int32)) := Arv.set Ar12 qq12 SS12 NN12 HH12 GG12 (fits_nar_char _) W12 1 rfl (Nat.le_of_ble_eq_true rfl)
  have zz13 := (Nat.le_trans zz9 (Keep.of_wr W12).1)
  have N12 := Fr.snoc X12 N8 g_b0
  have pre14 : Go p e below (s₁.setTop (entryFrame m #[(.int x0), (.int x1)] maxLocals)) (T12.setTop (mkF m 20 #[.val (.int x0), .val (.int x1), .val (.int cc), .unset, .unset, .unset, .unset] [(.ref b0)])) := fun t k => pre11 t (st12 t k)
  have pre15 : Go p e below (s₁.setTop (entryFrame m #[(.int x0), (.int x1)] maxLocals)) (T12.setTop (mkF m 24 #[.val (.int x0), .val (.int x1), .val (.int cc), .unset, .unset, .unset, .unset] [(.int (90 : Int32)), (.int (2 : Int32)), (.ref b0), (.ref b0)])) := by
    intro t k
    refine pre14 t ?_
    show Steps p.tables e below (T12.setTop (mkF m 20 #[.val (.int x0), .val (.int x1), .val (.int cc), .unset, .unset, .unset, .unset] [(.ref b0)])) _
    refine XS.dup X12.here hx rfl (hb hby at_20) rfl rfl ?_
    show Steps p.tables e below (T12.setTop (mkF m 21 #[.val (.int x0), .val (.int x1), .val (.int cc), .unset, .unset, .unset, .unset] [(.ref b0), (.ref b0)])) _
    refine XS.iconst X12.here hx rfl (hb hby at_21) ?_
    show Steps p.tables e below (T12.setTop (mkF m 22 #[.val (.int x0), .val (.int x1), .val (.int cc), .unset, .unset, .unset, .unset] [(.int (2 : Int32)), (.ref b0), (.ref b0)])) _
    refine XS.bipush X12.here hx rfl (hb hby at_22) ?_
    show Steps p.tables e below (T12.setTop (mkF m 24 #[.val (.int x0), .val (.int x1), .val (.int cc), .unset, .unset, .unset, .unset] [(.int (90 : Int32)), (.int (2 : Int32)), (.ref b0), (.ref b0)])) _
    exact k
  obtain ⟨cl16, Ar16, qq16, SS16, NN16, HH16, GG16⟩ := V12
  have hin16 : ¬ ((2 : Int32) < 0 ∨ cl16.slots.size ≤ ((2 : Int32)).toNatClampNeg) := inb_of SS16 ⟨by decide, by decide⟩
  obtain ⟨T16, h16, X16, e16, W16, st16⟩ := stC X12 hx hZ e12 Ar16 (j := (2 : Int32)) hin16 (g := (mkF m 24 #[.val (.int x0), .val (.int x1), .val (.int cc), .unset, .unset, .unset, .unset] [(.int (90 : Int32)), (.int (2 : Int32)), (.ref b0), (.ref b0)])) rfl rfl (hb hby at_24)
  have V16 : Arv Z h16 b0 k4 .char (16 : Int32) [(.int (64 : Int32)), (.int (65 : Int32)), (.int (90 : Int32)), (.int (0 : Int32)), (.int (0 : Int32)), (.int (0 : Int32)), (.int (0 : Int32)), (.int (0 : Int32)), (.int (0 : Int32)), (.int (0 : Int32)), (.int (0 : Int32)), (.int (0 : Int32)), (.int (0 : Int32)), (.int (0 : Int32)), (.int (0 : Int32)), (.int (0 : Int32))] (.int (0 : Int32)) := Arv.set Ar16 qq16 SS16 NN16 HH16 GG16 (fits_nar_char _) W16 2 rfl (Nat.le_of_ble_eq_true rfl)
  have zz17 := (Nat.le_trans zz13 (Keep.of_wr W16).1)
  have N16 := Fr.snoc X16 N12 g_b0
  have pre18 : Go p e below (s₁.setTop (entryFrame m #[(.int x0), (.int x1)] maxLocals)) (T16.setTop (mkF m 25 #[.val (.int x0), .val (.int x1), .val (.int cc), .unset, .unset, .unset, .unset] [(.ref b0)])) := fun t k => pre15 t (st16 t k)
  have pre19 : Go p e below (s₁.setTop (entryFrame m #[(.int x0), (.int x1)] maxLocals)) (T16.setTop (mkF m 29 #[.val (.int x0), .val (.int x1), .val (.int cc), .unset, .unset, .unset, .unset] [(.int (91 : Int32)), (.int (3 : Int32)), (.ref b0), (.ref b0)])) := by
    intro t k
    refine pre18 t ?_
    show Steps p.tables e below (T16.setTop (mkF m 25 #[.val (.int x0), .val (.int x1), .val (.int cc), .unset, .unset, .unset, .unset] [(.ref b0)])) _
    refine XS.dup X16.here hx rfl (hb hby at_25) rfl rfl ?_
    show Steps p.tables e below (T16.setTop (mkF m 26 #[.val (.int x0), .val (.int x1), .val (.int cc), .unset, .unset, .unset, .unset] [(.ref b0), (.ref b0)])) _
    refine XS.iconst X16.here hx rfl (hb hby at_26) ?_
    show Steps p.tables e below (T16.setTop (mkF m 27 #[.val (.int x0), .val (.int x1), .val (.int cc), .unset, .unset, .unset, .unset] [(.int (3 : Int32)), (.ref b0), (.ref b0)])) _
    refine XS.bipush X16.here hx rfl (hb hby at_27) ?_
    show Steps p.tables e below (T16.setTop (mkF m 29 #[.val (.int x0), .val (.int x1), .val (.int cc), .unset, .unset, .unset, .unset] [(.int (91 : Int32)), (.int (3 : Int32)), (.ref b0), (.ref b0)])) _
    exact k
  obtain ⟨cl20, Ar20, qq20, SS20, NN20, HH20, GG20⟩ := V16
  have hin20 : ¬ ((3 : Int32) < 0 ∨ cl20.slots.size ≤ ((3 : Int32)).toNatClampNeg) := inb_of SS20 ⟨by decide, by decide⟩
  obtain ⟨T20, h20, X20, e20, W20, st20⟩ := stC X16 hx hZ e16 Ar20 (j := (3 : Int32)) hin20 (g := (mkF m 29 #[.val (.int x0), .val (.int x1), .val (.int cc), .unset, .unset, .unset, .unset] [(.int (91 : Int32)), (.int (3 : Int32)), (.ref b0), (.ref b0)])) rfl rfl (hb hby at_29)
  have V20 : Arv Z h20 b0 k4 .char (16 : Int32) [(.int (64 : Int32)), (.int (65 : Int32)), (.int (90 : Int32)), (.int (91 : Int32)), (.int (0 : Int32)), (.int (0 : Int32)), (.int (0 : Int32)), (.int (0 : Int32)), (.int (0 : Int32)), (.int (0 : Int32)), (.int (0 : Int32)), (.int (0 : Int32)), (.int (0 : Int32)), (.int (0 : Int32)), (.int (0 : Int32)), (.int (0 : Int32))] (.int (0 : Int32)) := Arv.set Ar20 qq20 SS20 NN20 HH20 GG20 (fits_nar_char _) W20 3 rfl (Nat.le_of_ble_eq_true rfl)
  have zz21 := (Nat.le_trans zz17 (Keep.of_wr W20).1)
  have N20 := Fr.snoc X20 N16 g_b0
  have pre22 : Go p e below (s₁.setTop (entryFrame m #[(.int x0), (.int x1)] maxLocals)) (T20.setTop (mkF m 30 #[.val (.int x0), .val (.int x1), .val (.int cc), .unset, .unset, .unset, .unset] [(.ref b0)])) := fun t k => pre19 t (st20 t k)
  have pre23 : Go p e below (s₁.setTop (entryFrame m #[(.int x0), (.int x1)] maxLocals)) (T20.setTop (mkF m 34 #[.val (.int x0), .val (.int x1), .val (.int cc), .unset, .unset, .unset, .unset] [(.int (96 : Int32)), (.int (4 : Int32)), (.ref b0), (.ref b0)])) := by
    intro t k
    refine pre22 t ?_
    show Steps p.tables e below (T20.setTop (mkF m 30 #[.val (.int x0), .val (.int x1), .val (.int cc), .unset, .unset, .unset, .unset] [(.ref b0)])) _
    refine XS.dup X20.here hx rfl (hb hby at_30) rfl rfl ?_
    show Steps p.tables e below (T20.setTop (mkF m 31 #[.val (.int x0), .val (.int x1), .val (.int cc), .unset, .unset, .unset, .unset] [(.ref b0), (.ref b0)])) _
    refine XS.iconst X20.here hx rfl (hb hby at_31) ?_
    show Steps p.tables e below (T20.setTop (mkF m 32 #[.val (.int x0), .val (.int x1), .val (.int cc), .unset, .unset, .unset, .unset] [(.int (4 : Int32)), (.ref b0), (.ref b0)])) _
    refine XS.bipush X20.here hx rfl (hb hby at_32) ?_
    show Steps p.tables e below (T20.setTop (mkF m 34 #[.val (.int x0), .val (.int x1), .val (.int cc), .unset, .unset, .unset, .unset] [(.int (96 : Int32)), (.int (4 : Int32)), (.ref b0), (.ref b0)])) _
    exact k
  obtain ⟨cl24, Ar24, qq24, SS24, NN24, HH24, GG24⟩ := V20
  have hin24 : ¬ ((4 : Int32) < 0 ∨ cl24.slots.size ≤ ((4 : Int32)).toNatClampNeg) := inb_of SS24 ⟨by decide, by decide⟩
  obtain ⟨T24, h24, X24, e24, W24, st24⟩ := stC X20 hx hZ e20 Ar24 (j := (4 : Int32)) hin24 (g := (mkF m 34 #[.val (.int x0), .val (.int x1), .val (.int cc), .unset, .unset, .unset, .unset] [(.int (96 : Int32)), (.int (4 : Int32)), (.ref b0), (.ref b0)])) rfl rfl (hb hby at_34)
  have V24 : Arv Z h24 b0 k4 .char (16 : Int32) [(.int (64 : Int32)), (.int (65 : Int32)), (.int (90 : Int32)), (.int (91 : Int32)), (.int (96 : Int32)), (.int (0 : Int32)), (.int (0 : Int32)), (.int (0 : Int32)), (.int (0 : Int32)), (.int (0 : Int32)), (.int (0 : Int32)), (.int (0 : Int32)), (.int (0 : Int32)), (.int (0 : Int32)), (.int (0 : Int32)), (.int (0 : Int32))] (.int (0 : Int32)) := Arv.set Ar24 qq24 SS24 NN24 HH24 GG24 (fits_nar_char _) W24 4 rfl (Nat.le_of_ble_eq_true rfl)
  have zz25 := (Nat.le_trans zz21 (Keep.of_wr W24).1)
  have N24 := Fr.snoc X24 N20 g_b0
  have pre26 : Go p e below (s₁.setTop (entryFrame m #[(.int x0), (.int x1)] maxLocals)) (T24.setTop (mkF m 35 #[.val (.int x0), .val (.int x1), .val (.int cc), .unset, .unset, .unset, .unset] [(.ref b0)])) := fun t k => pre23 t (st24 t k)
  have pre27 : Go p e below (s₁.setTop (entryFrame m #[(.int x0), (.int x1)] maxLocals)) (T24.setTop (mkF m 39 #[.val (.int x0), .val (.int x1), .val (.int cc), .unset, .unset, .unset, .unset] [(.int (97 : Int32)), (.int (5 : Int32)), (.ref b0), (.ref b0)])) := by
    intro t k
    refine pre26 t ?_
    show Steps p.tables e below (T24.setTop (mkF m 35 #[.val (.int x0), .val (.int x1), .val (.int cc), .unset, .unset, .unset, .unset] [(.ref b0)])) _
    refine XS.dup X24.here hx rfl (hb hby at_35) rfl rfl ?_
    show Steps p.tables e below (T24.setTop (mkF m 36 #[.val (.int x0), .val (.int x1), .val (.int cc), .unset, .unset, .unset, .unset] [(.ref b0), (.ref b0)])) _
    refine XS.iconst X24.here hx rfl (hb hby at_36) ?_
    show Steps p.tables e below (T24.setTop (mkF m 37 #[.val (.int x0), .val (.int x1), .val (.int cc), .unset, .unset, .unset, .unset] [(.int (5 : Int32)), (.ref b0), (.ref b0)])) _
    refine XS.bipush X24.here hx rfl (hb hby at_37) ?_
    show Steps p.tables e below (T24.setTop (mkF m 39 #[.val (.int x0), .val (.int x1), .val (.int cc), .unset, .unset, .unset, .unset] [(.int (97 : Int32)), (.int (5 : Int32)), (.ref b0), (.ref b0)])) _
    exact k
  obtain ⟨cl28, Ar28, qq28, SS28, NN28, HH28, GG28⟩ := V24
  have hin28 : ¬ ((5 : Int32) < 0 ∨ cl28.slots.size ≤ ((5 : Int32)).toNatClampNeg) := inb_of SS28 ⟨by decide, by decide⟩
  obtain ⟨T28, h28, X28, e28, W28, st28⟩ := stC X24 hx hZ e24 Ar28 (j := (5 : Int32)) hin28 (g := (mkF m 39 #[.val (.int x0), .val (.int x1), .val (.int cc), .unset, .unset, .unset, .unset] [(.int (97 : Int32)), (.int (5 : Int32)), (.ref b0), (.ref b0)])) rfl rfl (hb hby at_39)
  have V28 : Arv Z h28 b0 k4 .char (16 : Int32) [(.int (64 : Int32)), (.int (65 : Int32)), (.int (90 : Int32)), (.int (91 : Int32)), (.int (96 : Int32)), (.int (97 : Int32)), (.int (0 : Int32)), (.int (0 : Int32)), (.int (0 : Int32)), (.int (0 : Int32)), (.int (0 : Int32)), (.int (0 : Int32)), (.int (0 : Int32)), (.int (0 : Int32)), (.int (0 : Int32)), (.int (0 : Int32))] (.int (0 : Int32)) := Arv.set Ar28 qq28 SS28 NN28 HH28 GG28 (fits_nar_char _) W28 5 rfl (Nat.le_of_ble_eq_true rfl)
  have zz29 := (Nat.le_trans zz25 (Keep.of_wr W28).1)
  have N28 := Fr.snoc X28 N24 g_b0
  have pre30 : Go p e below (s₁.setTop (entryFrame m #[(.int x0), (.int x1)] maxLocals)) (T28.setTop (mkF m 40 #[.val (.int x0), .val (.int x1), .val (.int cc), .unset, .unset, .unset, .unset] [(.ref b0)])) := fun t k => pre27 t (st28 t k)
  have pre31 : Go p e below (s₁.setTop (entryFrame m #[(.int x0), (.int x1)] maxLocals)) (T28.setTop (mkF m 45 #[.val (.int x0), .val (.int x1), .val (.int cc), .unset, .unset, .unset, .unset] [(.int (122 : Int32)), (.int (6 : Int32)), (.ref b0), (.ref b0)])) := by
    intro t k
    refine pre30 t ?_
    show Steps p.tables e below (T28.setTop (mkF m 40 #[.val (.int x0), .val (.int x1), .val (.int cc), .unset, .unset, .unset, .unset] [(.ref b0)])) _
    refine XS.dup X28.here hx rfl (hb hby at_40) rfl rfl ?_
    show Steps p.tables e below (T28.setTop (mkF m 41 #[.val (.int x0), .val (.int x1), .val (.int cc), .unset, .unset, .unset, .unset] [(.ref b0), (.ref b0)])) _
    refine XS.bipush X28.here hx rfl (hb hby at_41) ?_
    show Steps p.tables e below (T28.setTop (mkF m 43 #[.val (.int x0), .val (.int x1), .val (.int cc), .unset, .unset, .unset, .unset] [(.int (6 : Int32)), (.ref b0), (.ref b0)])) _
    refine XS.bipush X28.here hx rfl (hb hby at_43) ?_
    show Steps p.tables e below (T28.setTop (mkF m 45 #[.val (.int x0), .val (.int x1), .val (.int cc), .unset, .unset, .unset, .unset] [(.int (122 : Int32)), (.int (6 : Int32)), (.ref b0), (.ref b0)])) _
    exact k
  obtain ⟨cl32, Ar32, qq32, SS32, NN32, HH32, GG32⟩ := V28
  have hin32 : ¬ ((6 : Int32) < 0 ∨ cl32.slots.size ≤ ((6 : Int32)).toNatClampNeg) := inb_of SS32 ⟨by decide, by decide⟩
  obtain ⟨T32, h32, X32, e32, W32, st32⟩ := stC X28 hx hZ e28 Ar32 (j := (6 : Int32)) hin32 (g := (mkF m 45 #[.val (.int x0), .val (.int x1), .val (.int cc), .unset, .unset, .unset, .unset] [(.int (122 : Int32)), (.int (6 : Int32)), (.ref b0), (.ref b0)])) rfl rfl (hb hby at_45)
  have V32 : Arv Z h32 b0 k4 .char (16 : Int32) [(.int (64 : Int32)), (.int (65 : Int32)), (.int (90 : Int32)), (.int (91 : Int32)), (.int (96 : Int32)), (.int (97 : Int32)), (.int (122 : Int32)), (.int (0 : Int32)), (.int (0 : Int32)), (.int (0 : Int32)), (.int (0 : Int32)), (.int (0 : Int32)), (.int (0 : Int32)), (.int (0 : Int32)), (.int (0 : Int32)), (.int (0 : Int32))] (.int (0 : Int32)) := Arv.set Ar32 qq32 SS32 NN32 HH32 GG32 (fits_nar_char _) W32 6 rfl (Nat.le_of_ble_eq_true rfl)
  have zz33 := (Nat.le_trans zz29 (Keep.of_wr W32).1)
  have N32 := Fr.snoc X32 N28 g_b0
  have pre34 : Go p e below (s₁.setTop (entryFrame m #[(.int x0), (.int x1)] maxLocals)) (T32.setTop (mkF m 46 #[.val (.int x0), .val (.int x1), .val (.int cc), .unset, .unset, .unset, .unset] [(.ref b0)])) := fun t k => pre31 t (st32 t k)
  have pre35 : Go p e below (s₁.setTop (entryFrame m #[(.int x0), (.int x1)] maxLocals)) (T32.setTop (mkF m 51 #[.val (.int x0), .val (.int x1), .val (.int cc), .unset, .unset, .unset, .unset] [(.int (123 : Int32)), (.int (7 : Int32)), (.ref b0), (.ref b0)])) := by
    intro t k
    refine pre34 t ?_
    show Steps p.tables e below (T32.setTop (mkF m 46 #[.val (.int x0), .val (.int x1), .val (.int cc), .unset, .unset, .unset, .unset] [(.ref b0)])) _
    refine XS.dup X32.here hx rfl (hb hby at_46) rfl rfl ?_
    show Steps p.tables e below (T32.setTop (mkF m 47 #[.val (.int x0), .val (.int x1), .val (.int cc), .unset, .unset, .unset, .unset] [(.ref b0), (.ref b0)])) _
    refine XS.bipush X32.here hx rfl (hb hby at_47) ?_
    show Steps p.tables e below (T32.setTop (mkF m 49 #[.val (.int x0), .val (.int x1), .val (.int cc), .unset, .unset, .unset, .unset] [(.int (7 : Int32)), (.ref b0), (.ref b0)])) _
    refine XS.bipush X32.here hx rfl (hb hby at_49) ?_
    show Steps p.tables e below (T32.setTop (mkF m 51 #[.val (.int x0), .val (.int x1), .val (.int cc), .unset, .unset, .unset, .unset] [(.int (123 : Int32)), (.int (7 : Int32)), (.ref b0), (.ref b0)])) _
    exact k
  obtain ⟨cl36, Ar36, qq36, SS36, NN36, HH36, GG36⟩ := V32
  have hin36 : ¬ ((7 : Int32) < 0 ∨ cl36.slots.size ≤ ((7 : Int32)).toNatClampNeg) := inb_of SS36 ⟨by decide, by decide⟩
  obtain ⟨T36, h36, X36, e36, W36, st36⟩ := stC X32 hx hZ e32 Ar36 (j := (7 : Int32)) hin36 (g := (mkF m 51 #[.val (.int x0), .val (.int x1), .val (.int cc), .unset, .unset, .unset, .unset] [(.int (123 : Int32)), (.int (7 : Int32)), (.ref b0), (.ref b0)])) rfl rfl (hb hby at_51)
  have V36 : Arv Z h36 b0 k4 .char (16 : Int32) [(.int (64 : Int32)), (.int (65 : Int32)), (.int (90 : Int32)), (.int (91 : Int32)), (.int (96 : Int32)), (.int (97 : Int32)), (.int (122 : Int32)), (.int (123 : Int32)), (.int (0 : Int32)), (.int (0 : Int32)), (.int (0 : Int32)), (.int (0 : Int32)), (.int (0 : Int32)), (.int (0 : Int32)), (.int (0 : Int32)), (.int (0 : Int32))] (.int (0 : Int32)) := Arv.set Ar36 qq36 SS36 NN36 HH36 GG36 (fits_nar_char _) W36 7 rfl (Nat.le_of_ble_eq_true rfl)
  have zz37 := (Nat.le_trans zz33 (Keep.of_wr W36).1)
  have N36 := Fr.snoc X36 N32 g_b0
  have pre38 : Go p e below (s₁.setTop (entryFrame m #[(.int x0), (.int x1)] maxLocals)) (T36.setTop (mkF m 52 #[.val (.int x0), .val (.int x1), .val (.int cc), .unset, .unset, .unset, .unset] [(.ref b0)])) := fun t k => pre35 t (st36 t k)
  have pre39 : Go p e below (s₁.setTop (entryFrame m #[(.int x0), (.int x1)] maxLocals)) (T36.setTop (mkF m 57 #[.val (.int x0), .val (.int x1), .val (.int cc), .unset, .unset, .unset, .unset] [(.int (95 : Int32)), (.int (8 : Int32)), (.ref b0), (.ref b0)])) := by
    intro t k
    refine pre38 t ?_
    show Steps p.tables e below (T36.setTop (mkF m 52 #[.val (.int x0), .val (.int x1), .val (.int cc), .unset, .unset, .unset, .unset] [(.ref b0)])) _
    refine XS.dup X36.here hx rfl (hb hby at_52) rfl rfl ?_
    show Steps p.tables e below (T36.setTop (mkF m 53 #[.val (.int x0), .val (.int x1), .val (.int cc), .unset, .unset, .unset, .unset] [(.ref b0), (.ref b0)])) _
    refine XS.bipush X36.here hx rfl (hb hby at_53) ?_
    show Steps p.tables e below (T36.setTop (mkF m 55 #[.val (.int x0), .val (.int x1), .val (.int cc), .unset, .unset, .unset, .unset] [(.int (8 : Int32)), (.ref b0), (.ref b0)])) _
    refine XS.bipush X36.here hx rfl (hb hby at_55) ?_
    show Steps p.tables e below (T36.setTop (mkF m 57 #[.val (.int x0), .val (.int x1), .val (.int cc), .unset, .unset, .unset, .unset] [(.int (95 : Int32)), (.int (8 : Int32)), (.ref b0), (.ref b0)])) _
    exact k
  obtain ⟨cl40, Ar40, qq40, SS40, NN40, HH40, GG40⟩ := V36
  have hin40 : ¬ ((8 : Int32) < 0 ∨ cl40.slots.size ≤ ((8 : Int32)).toNatClampNeg) := inb_of SS40 ⟨by decide, by decide⟩
  obtain ⟨T40, h40, X40, e40, W40, st40⟩ := stC X36 hx hZ e36 Ar40 (j := (8 : Int32)) hin40 (g := (mkF m 57 #[.val (.int x0), .val (.int x1), .val (.int cc), .unset, .unset, .unset, .unset] [(.int (95 : Int32)), (.int (8 : Int32)), (.ref b0), (.ref b0)])) rfl rfl (hb hby at_57)
  have V40 : Arv Z h40 b0 k4 .char (16 : Int32) [(.int (64 : Int32)), (.int (65 : Int32)), (.int (90 : Int32)), (.int (91 : Int32)), (.int (96 : Int32)), (.int (97 : Int32)), (.int (122 : Int32)), (.int (123 : Int32)), (.int (95 : Int32)), (.int (0 : Int32)), (.int (0 : Int32)), (.int (0 : Int32)), (.int (0 : Int32)), (.int (0 : Int32)), (.int (0 : Int32)), (.int (0 : Int32))] (.int (0 : Int32)) := Arv.set Ar40 qq40 SS40 NN40 HH40 GG40 (fits_nar_char _) W40 8 rfl (Nat.le_of_ble_eq_true rfl)
  have zz41 := (Nat.le_trans zz37 (Keep.of_wr W40).1)
  have N40 := Fr.snoc X40 N36 g_b0
  have pre42 : Go p e below (s₁.setTop (entryFrame m #[(.int x0), (.int x1)] maxLocals)) (T40.setTop (mkF m 58 #[.val (.int x0), .val (.int x1), .val (.int cc), .unset, .unset, .unset, .unset] [(.ref b0)])) := fun t k => pre39 t (st40 t k)
  have pre43 : Go p e below (s₁.setTop (entryFrame m #[(.int x0), (.int x1)] maxLocals)) (T40.setTop (mkF m 63 #[.val (.int x0), .val (.int x1), .val (.int cc), .unset, .unset, .unset, .unset] [(.int (94 : Int32)), (.int (9 : Int32)), (.ref b0), (.ref b0)])) := by
    intro t k
    refine pre42 t ?_
    show Steps p.tables e below (T40.setTop (mkF m 58 #[.val (.int x0), .val (.int x1), .val (.int cc), .unset, .unset, .unset, .unset] [(.ref b0)])) _
    refine XS.dup X40.here hx rfl (hb hby at_58) rfl rfl ?_
    show Steps p.tables e below (T40.setTop (mkF m 59 #[.val (.int x0), .val (.int x1), .val (.int cc), .unset, .unset, .unset, .unset] [(.ref b0), (.ref b0)])) _
    refine XS.bipush X40.here hx rfl (hb hby at_59) ?_
    show Steps p.tables e below (T40.setTop (mkF m 61 #[.val (.int x0), .val (.int x1), .val (.int cc), .unset, .unset, .unset, .unset] [(.int (9 : Int32)), (.ref b0), (.ref b0)])) _
    refine XS.bipush X40.here hx rfl (hb hby at_61) ?_
    show Steps p.tables e below (T40.setTop (mkF m 63 #[.val (.int x0), .val (.int x1), .val (.int cc), .unset, .unset, .unset, .unset] [(.int (94 : Int32)), (.int (9 : Int32)), (.ref b0), (.ref b0)])) _
    exact k
  obtain ⟨cl44, Ar44, qq44, SS44, NN44, HH44, GG44⟩ := V40
  have hin44 : ¬ ((9 : Int32) < 0 ∨ cl44.slots.size ≤ ((9 : Int32)).toNatClampNeg) := inb_of SS44 ⟨by decide, by decide⟩
  obtain ⟨T44, h44, X44, e44, W44, st44⟩ := stC X40 hx hZ e40 Ar44 (j := (9 : Int32)) hin44 (g := (mkF m 63 #[.val (.int x0), .val (.int x1), .val (.int cc), .unset, .unset, .unset, .unset] [(.int (94 : Int32)), (.int (9 : Int32)), (.ref b0), (.ref b0)])) rfl rfl (hb hby at_63)
  have V44 : Arv Z h44 b0 k4 .char (16 : Int32) [(.int (64 : Int32)), (.int (65 : Int32)), (.int (90 : Int32)), (.int (91 : Int32)), (.int (96 : Int32)), (.int (97 : Int32)), (.int (122 : Int32)), (.int (123 : Int32)), (.int (95 : Int32)), (.int (94 : Int32)), (.int (0 : Int32)), (.int (0 : Int32)), (.int (0 : Int32)), (.int (0 : Int32)), (.int (0 : Int32)), (.int (0 : Int32))] (.int (0 : Int32)) := Arv.set Ar44 qq44 SS44 NN44 HH44 GG44 (fits_nar_char _) W44 9 rfl (Nat.le_of_ble_eq_true rfl)
  have zz45 := (Nat.le_trans zz41 (Keep.of_wr W44).1)
  have N44 := Fr.snoc X44 N40 g_b0
  have pre46 : Go p e below (s₁.setTop (entryFrame m #[(.int x0), (.int x1)] maxLocals)) (T44.setTop (mkF m 64 #[.val (.int x0), .val (.int x1), .val (.int cc), .unset, .unset, .unset, .unset] [(.ref b0)])) := fun t k => pre43 t (st44 t k)
  have pre47 : Go p e below (s₁.setTop (entryFrame m #[(.int x0), (.int x1)] maxLocals)) (T44.setTop (mkF m 69 #[.val (.int x0), .val (.int x1), .val (.int cc), .unset, .unset, .unset, .unset] [(.int (48 : Int32)), (.int (10 : Int32)), (.ref b0), (.ref b0)])) := by
    intro t k
    refine pre46 t ?_
    show Steps p.tables e below (T44.setTop (mkF m 64 #[.val (.int x0), .val (.int x1), .val (.int cc), .unset, .unset, .unset, .unset] [(.ref b0)])) _
    refine XS.dup X44.here hx rfl (hb hby at_64) rfl rfl ?_
    show Steps p.tables e below (T44.setTop (mkF m 65 #[.val (.int x0), .val (.int x1), .val (.int cc), .unset, .unset, .unset, .unset] [(.ref b0), (.ref b0)])) _
    refine XS.bipush X44.here hx rfl (hb hby at_65) ?_
    show Steps p.tables e below (T44.setTop (mkF m 67 #[.val (.int x0), .val (.int x1), .val (.int cc), .unset, .unset, .unset, .unset] [(.int (10 : Int32)), (.ref b0), (.ref b0)])) _
    refine XS.bipush X44.here hx rfl (hb hby at_67) ?_
    show Steps p.tables e below (T44.setTop (mkF m 69 #[.val (.int x0), .val (.int x1), .val (.int cc), .unset, .unset, .unset, .unset] [(.int (48 : Int32)), (.int (10 : Int32)), (.ref b0), (.ref b0)])) _
    exact k
  obtain ⟨cl48, Ar48, qq48, SS48, NN48, HH48, GG48⟩ := V44
  have hin48 : ¬ ((10 : Int32) < 0 ∨ cl48.slots.size ≤ ((10 : Int32)).toNatClampNeg) := inb_of SS48 ⟨by decide, by decide⟩
  obtain ⟨T48, h48, X48, e48, W48, st48⟩ := stC X44 hx hZ e44 Ar48 (j := (10 : Int32)) hin48 (g := (mkF m 69 #[.val (.int x0), .val (.int x1), .val (.int cc), .unset, .unset, .unset, .unset] [(.int (48 : Int32)), (.int (10 : Int32)), (.ref b0), (.ref b0)])) rfl rfl (hb hby at_69)
  have V48 : Arv Z h48 b0 k4 .char (16 : Int32) [(.int (64 : Int32)), (.int (65 : Int32)), (.int (90 : Int32)), (.int (91 : Int32)), (.int (96 : Int32)), (.int (97 : Int32)), (.int (122 : Int32)), (.int (123 : Int32)), (.int (95 : Int32)), (.int (94 : Int32)), (.int (48 : Int32)), (.int (0 : Int32)), (.int (0 : Int32)), (.int (0 : Int32)), (.int (0 : Int32)), (.int (0 : Int32))] (.int (0 : Int32)) := Arv.set Ar48 qq48 SS48 NN48 HH48 GG48 (fits_nar_char _) W48 10 rfl (Nat.le_of_ble_eq_true rfl)
  have zz49 := (Nat.le_trans zz45 (Keep.of_wr W48).1)
  have N48 := Fr.snoc X48 N44 g_b0
  have pre50 : Go p e below (s₁.setTop (entryFrame m #[(.int x0), (.int x1)] maxLocals)) (T48.setTop (mkF m 70 #[.val (.int x0), .val (.int x1), .val (.int cc), .unset, .unset, .unset, .unset] [(.ref b0)])) := fun t k => pre47 t (st48 t k)
  have pre51 : Go p e below (s₁.setTop (entryFrame m #[(.int x0), (.int x1)] maxLocals)) (T48.setTop (mkF m 75 #[.val (.int x0), .val (.int x1), .val (.int cc), .unset, .unset, .unset, .unset] [(.int (57 : Int32)), (.int (11 : Int32)), (.ref b0), (.ref b0)])) := by
    intro t k
    refine pre50 t ?_
    show Steps p.tables e below (T48.setTop (mkF m 70 #[.val (.int x0), .val (.int x1), .val (.int cc), .unset, .unset, .unset, .unset] [(.ref b0)])) _
    refine XS.dup X48.here hx rfl (hb hby at_70) rfl rfl ?_
    show Steps p.tables e below (T48.setTop (mkF m 71 #[.val (.int x0), .val (.int x1), .val (.int cc), .unset, .unset, .unset, .unset] [(.ref b0), (.ref b0)])) _
    refine XS.bipush X48.here hx rfl (hb hby at_71) ?_
    show Steps p.tables e below (T48.setTop (mkF m 73 #[.val (.int x0), .val (.int x1), .val (.int cc), .unset, .unset, .unset, .unset] [(.int (11 : Int32)), (.ref b0), (.ref b0)])) _
    refine XS.bipush X48.here hx rfl (hb hby at_73) ?_
    show Steps p.tables e below (T48.setTop (mkF m 75 #[.val (.int x0), .val (.int x1), .val (.int cc), .unset, .unset, .unset, .unset] [(.int (57 : Int32)), (.int (11 : Int32)), (.ref b0), (.ref b0)])) _
    exact k
  obtain ⟨cl52, Ar52, qq52, SS52, NN52, HH52, GG52⟩ := V48
  have hin52 : ¬ ((11 : Int32) < 0 ∨ cl52.slots.size ≤ ((11 : Int32)).toNatClampNeg) := inb_of SS52 ⟨by decide, by decide⟩
  obtain ⟨T52, h52, X52, e52, W52, st52⟩ := stC X48 hx hZ e48 Ar52 (j := (11 : Int32)) hin52 (g := (mkF m 75 #[.val (.int x0), .val (.int x1), .val (.int cc), .unset, .unset, .unset, .unset] [(.int (57 : Int32)), (.int (11 : Int32)), (.ref b0), (.ref b0)])) rfl rfl (hb hby at_75)
  have V52 : Arv Z h52 b0 k4 .char (16 : Int32) [(.int (64 : Int32)), (.int (65 : Int32)), (.int (90 : Int32)), (.int (91 : Int32)), (.int (96 : Int32)), (.int (97 : Int32)), (.int (122 : Int32)), (.int (123 : Int32)), (.int (95 : Int32)), (.int (94 : Int32)), (.int (48 : Int32)), (.int (57 : Int32)), (.int (0 : Int32)), (.int (0 : Int32)), (.int (0 : Int32)), (.int (0 : Int32))] (.int (0 : Int32)) := Arv.set Ar52 qq52 SS52 NN52 HH52 GG52 (fits_nar_char _) W52 11 rfl (Nat.le_of_ble_eq_true rfl)
  have zz53 := (Nat.le_trans zz49 (Keep.of_wr W52).1)
  have N52 := Fr.snoc X52 N48 g_b0
  have pre54 : Go p e below (s₁.setTop (entryFrame m #[(.int x0), (.int x1)] maxLocals)) (T52.setTop (mkF m 76 #[.val (.int x0), .val (.int x1), .val (.int cc), .unset, .unset, .unset, .unset] [(.ref b0)])) := fun t k => pre51 t (st52 t k)
  have pre55 : Go p e below (s₁.setTop (entryFrame m #[(.int x0), (.int x1)] maxLocals)) (T52.setTop (mkF m 80 #[.val (.int x0), .val (.int x1), .val (.int cc), .unset, .unset, .unset, .unset] [(.int (0 : Int32)), (.int (12 : Int32)), (.ref b0), (.ref b0)])) := by
    intro t k
    refine pre54 t ?_
    show Steps p.tables e below (T52.setTop (mkF m 76 #[.val (.int x0), .val (.int x1), .val (.int cc), .unset, .unset, .unset, .unset] [(.ref b0)])) _
    refine XS.dup X52.here hx rfl (hb hby at_76) rfl rfl ?_
    show Steps p.tables e below (T52.setTop (mkF m 77 #[.val (.int x0), .val (.int x1), .val (.int cc), .unset, .unset, .unset, .unset] [(.ref b0), (.ref b0)])) _
    refine XS.bipush X52.here hx rfl (hb hby at_77) ?_
    show Steps p.tables e below (T52.setTop (mkF m 79 #[.val (.int x0), .val (.int x1), .val (.int cc), .unset, .unset, .unset, .unset] [(.int (12 : Int32)), (.ref b0), (.ref b0)])) _
    refine XS.iconst X52.here hx rfl (hb hby at_79) ?_
    show Steps p.tables e below (T52.setTop (mkF m 80 #[.val (.int x0), .val (.int x1), .val (.int cc), .unset, .unset, .unset, .unset] [(.int (0 : Int32)), (.int (12 : Int32)), (.ref b0), (.ref b0)])) _
    exact k
  obtain ⟨cl56, Ar56, qq56, SS56, NN56, HH56, GG56⟩ := V52
  have hin56 : ¬ ((12 : Int32) < 0 ∨ cl56.slots.size ≤ ((12 : Int32)).toNatClampNeg) := inb_of SS56 ⟨by decide, by decide⟩
  obtain ⟨T56, h56, X56, e56, W56, st56⟩ := stC X52 hx hZ e52 Ar56 (j := (12 : Int32)) hin56 (g := (mkF m 80 #[.val (.int x0), .val (.int x1), .val (.int cc), .unset, .unset, .unset, .unset] [(.int (0 : Int32)), (.int (12 : Int32)), (.ref b0), (.ref b0)])) rfl rfl (hb hby at_80)
  have V56 : Arv Z h56 b0 k4 .char (16 : Int32) [(.int (64 : Int32)), (.int (65 : Int32)), (.int (90 : Int32)), (.int (91 : Int32)), (.int (96 : Int32)), (.int (97 : Int32)), (.int (122 : Int32)), (.int (123 : Int32)), (.int (95 : Int32)), (.int (94 : Int32)), (.int (48 : Int32)), (.int (57 : Int32)), (.int (0 : Int32)), (.int (0 : Int32)), (.int (0 : Int32)), (.int (0 : Int32))] (.int (0 : Int32)) := Arv.set Ar56 qq56 SS56 NN56 HH56 GG56 (fits_nar_char _) W56 12 rfl (Nat.le_of_ble_eq_true rfl)
  have zz57 := (Nat.le_trans zz53 (Keep.of_wr W56).1)
  have N56 := Fr.snoc X56 N52 g_b0
  have pre58 : Go p e below (s₁.setTop (entryFrame m #[(.int x0), (.int x1)] maxLocals)) (T56.setTop (mkF m 81 #[.val (.int x0), .val (.int x1), .val (.int cc), .unset, .unset, .unset, .unset] [(.ref b0)])) := fun t k => pre55 t (st56 t k)
  have pre59 : Go p e below (s₁.setTop (entryFrame m #[(.int x0), (.int x1)] maxLocals)) (T56.setTop (mkF m 86 #[.val (.int x0), .val (.int x1), .val (.int cc), .unset, .unset, .unset, .unset] [(.int (65535 : Int32)), (.int (13 : Int32)), (.ref b0), (.ref b0)])) := by
    intro t k
    refine pre58 t ?_
    show Steps p.tables e below (T56.setTop (mkF m 81 #[.val (.int x0), .val (.int x1), .val (.int cc), .unset, .unset, .unset, .unset] [(.ref b0)])) _
    refine XS.dup X56.here hx rfl (hb hby at_81) rfl rfl ?_
    show Steps p.tables e below (T56.setTop (mkF m 82 #[.val (.int x0), .val (.int x1), .val (.int cc), .unset, .unset, .unset, .unset] [(.ref b0), (.ref b0)])) _
    refine XS.bipush X56.here hx rfl (hb hby at_82) ?_
    show Steps p.tables e below (T56.setTop (mkF m 84 #[.val (.int x0), .val (.int x1), .val (.int cc), .unset, .unset, .unset, .unset] [(.int (13 : Int32)), (.ref b0), (.ref b0)])) _
    refine X56.ldcI hx hown (mvT hZ (hw _ (List.mem_of_getElem? (i := 0) rfl))) (g := (mkF m 84 #[.val (.int x0), .val (.int x1), .val (.int cc), .unset, .unset, .unset, .unset] [(.int (13 : Int32)), (.ref b0), (.ref b0)])) rfl (hb hby at_84) ?_
    show Steps p.tables e below (T56.setTop (mkF m 86 #[.val (.int x0), .val (.int x1), .val (.int cc), .unset, .unset, .unset, .unset] [(.int (65535 : Int32)), (.int (13 : Int32)), (.ref b0), (.ref b0)])) _
    exact k
  obtain ⟨cl60, Ar60, qq60, SS60, NN60, HH60, GG60⟩ := V56
  have hin60 : ¬ ((13 : Int32) < 0 ∨ cl60.slots.size ≤ ((13 : Int32)).toNatClampNeg) := inb_of SS60 ⟨by decide, by decide⟩
  obtain ⟨T60, h60, X60, e60, W60, st60⟩ := stC X56 hx hZ e56 Ar60 (j := (13 : Int32)) hin60 (g := (mkF m 86 #[.val (.int x0), .val (.int x1), .val (.int cc), .unset, .unset, .unset, .unset] [(.int (65535 : Int32)), (.int (13 : Int32)), (.ref b0), (.ref b0)])) rfl rfl (hb hby at_86)
  have V60 : Arv Z h60 b0 k4 .char (16 : Int32) [(.int (64 : Int32)), (.int (65 : Int32)), (.int (90 : Int32)), (.int (91 : Int32)), (.int (96 : Int32)), (.int (97 : Int32)), (.int (122 : Int32)), (.int (123 : Int32)), (.int (95 : Int32)), (.int (94 : Int32)), (.int (48 : Int32)), (.int (57 : Int32)), (.int (0 : Int32)), (.int (65535 : Int32)), (.int (0 : Int32)), (.int (0 : Int32))] (.int (0 : Int32)) := Arv.set Ar60 qq60 SS60 NN60 HH60 GG60 (fits_nar_char _) W60 13 rfl (Nat.le_of_ble_eq_true rfl)
  have zz61 := (Nat.le_trans zz57 (Keep.of_wr W60).1)
  have N60 := Fr.snoc X60 N56 g_b0
  have pre62 : Go p e below (s₁.setTop (entryFrame m #[(.int x0), (.int x1)] maxLocals)) (T60.setTop (mkF m 87 #[.val (.int x0), .val (.int x1), .val (.int cc), .unset, .unset, .unset, .unset] [(.ref b0)])) := fun t k => pre59 t (st60 t k)
  have pre63 : Go p e below (s₁.setTop (entryFrame m #[(.int x0), (.int x1)] maxLocals)) (T60.setTop (mkF m 93 #[.val (.int x0), .val (.int x1), .val (.int cc), .unset, .unset, .unset, .unset] [(.int (192 : Int32)), (.int (14 : Int32)), (.ref b0), (.ref b0)])) := by
    intro t k
    refine pre62 t ?_
    show Steps p.tables e below (T60.setTop (mkF m 87 #[.val (.int x0), .val (.int x1), .val (.int cc), .unset, .unset, .unset, .unset] [(.ref b0)])) _
    refine XS.dup X60.here hx rfl (hb hby at_87) rfl rfl ?_
    show Steps p.tables e below (T60.setTop (mkF m 88 #[.val (.int x0), .val (.int x1), .val (.int cc), .unset, .unset, .unset, .unset] [(.ref b0), (.ref b0)])) _
    refine XS.bipush X60.here hx rfl (hb hby at_88) ?_
    show Steps p.tables e below (T60.setTop (mkF m 90 #[.val (.int x0), .val (.int x1), .val (.int cc), .unset, .unset, .unset, .unset] [(.int (14 : Int32)), (.ref b0), (.ref b0)])) _
    refine XS.sipush X60.here hx rfl (hb hby at_90) ?_
    show Steps p.tables e below (T60.setTop (mkF m 93 #[.val (.int x0), .val (.int x1), .val (.int cc), .unset, .unset, .unset, .unset] [(.int (192 : Int32)), (.int (14 : Int32)), (.ref b0), (.ref b0)])) _
    exact k
  obtain ⟨cl64, Ar64, qq64, SS64, NN64, HH64, GG64⟩ := V60
  have hin64 : ¬ ((14 : Int32) < 0 ∨ cl64.slots.size ≤ ((14 : Int32)).toNatClampNeg) := inb_of SS64 ⟨by decide, by decide⟩
  obtain ⟨T64, h64, X64, e64, W64, st64⟩ := stC X60 hx hZ e60 Ar64 (j := (14 : Int32)) hin64 (g := (mkF m 93 #[.val (.int x0), .val (.int x1), .val (.int cc), .unset, .unset, .unset, .unset] [(.int (192 : Int32)), (.int (14 : Int32)), (.ref b0), (.ref b0)])) rfl rfl (hb hby at_93)
  have V64 : Arv Z h64 b0 k4 .char (16 : Int32) [(.int (64 : Int32)), (.int (65 : Int32)), (.int (90 : Int32)), (.int (91 : Int32)), (.int (96 : Int32)), (.int (97 : Int32)), (.int (122 : Int32)), (.int (123 : Int32)), (.int (95 : Int32)), (.int (94 : Int32)), (.int (48 : Int32)), (.int (57 : Int32)), (.int (0 : Int32)), (.int (65535 : Int32)), (.int (192 : Int32)), (.int (0 : Int32))] (.int (0 : Int32)) := Arv.set Ar64 qq64 SS64 NN64 HH64 GG64 (fits_nar_char _) W64 14 rfl (Nat.le_of_ble_eq_true rfl)
  have zz65 := (Nat.le_trans zz61 (Keep.of_wr W64).1)
  have N64 := Fr.snoc X64 N60 g_b0
  have pre66 : Go p e below (s₁.setTop (entryFrame m #[(.int x0), (.int x1)] maxLocals)) (T64.setTop (mkF m 94 #[.val (.int x0), .val (.int x1), .val (.int cc), .unset, .unset, .unset, .unset] [(.ref b0)])) := fun t k => pre63 t (st64 t k)
  have pre67 : Go p e below (s₁.setTop (entryFrame m #[(.int x0), (.int x1)] maxLocals)) (T64.setTop (mkF m 100 #[.val (.int x0), .val (.int x1), .val (.int cc), .unset, .unset, .unset, .unset] [(.int (233 : Int32)), (.int (15 : Int32)), (.ref b0), (.ref b0)])) := by
    intro t k
    refine pre66 t ?_
    show Steps p.tables e below (T64.setTop (mkF m 94 #[.val (.int x0), .val (.int x1), .val (.int cc), .unset, .unset, .unset, .unset] [(.ref b0)])) _
    refine XS.dup X64.here hx rfl (hb hby at_94) rfl rfl ?_
    show Steps p.tables e below (T64.setTop (mkF m 95 #[.val (.int x0), .val (.int x1), .val (.int cc), .unset, .unset, .unset, .unset] [(.ref b0), (.ref b0)])) _
    refine XS.bipush X64.here hx rfl (hb hby at_95) ?_
    show Steps p.tables e below (T64.setTop (mkF m 97 #[.val (.int x0), .val (.int x1), .val (.int cc), .unset, .unset, .unset, .unset] [(.int (15 : Int32)), (.ref b0), (.ref b0)])) _
    refine XS.sipush X64.here hx rfl (hb hby at_97) ?_
    show Steps p.tables e below (T64.setTop (mkF m 100 #[.val (.int x0), .val (.int x1), .val (.int cc), .unset, .unset, .unset, .unset] [(.int (233 : Int32)), (.int (15 : Int32)), (.ref b0), (.ref b0)])) _
    exact k
  obtain ⟨cl68, Ar68, qq68, SS68, NN68, HH68, GG68⟩ := V64
  have hin68 : ¬ ((15 : Int32) < 0 ∨ cl68.slots.size ≤ ((15 : Int32)).toNatClampNeg) := inb_of SS68 ⟨by decide, by decide⟩
  obtain ⟨T68, h68, X68, e68, W68, st68⟩ := stC X64 hx hZ e64 Ar68 (j := (15 : Int32)) hin68 (g := (mkF m 100 #[.val (.int x0), .val (.int x1), .val (.int cc), .unset, .unset, .unset, .unset] [(.int (233 : Int32)), (.int (15 : Int32)), (.ref b0), (.ref b0)])) rfl rfl (hb hby at_100)
  have V68 : Arv Z h68 b0 k4 .char (16 : Int32) [(.int (64 : Int32)), (.int (65 : Int32)), (.int (90 : Int32)), (.int (91 : Int32)), (.int (96 : Int32)), (.int (97 : Int32)), (.int (122 : Int32)), (.int (123 : Int32)), (.int (95 : Int32)), (.int (94 : Int32)), (.int (48 : Int32)), (.int (57 : Int32)), (.int (0 : Int32)), (.int (65535 : Int32)), (.int (192 : Int32)), (.int (233 : Int32))] (.int (0 : Int32)) := Arv.set Ar68 qq68 SS68 NN68 HH68 GG68 (fits_nar_char _) W68 15 rfl (Nat.le_of_ble_eq_true rfl)
  have zz69 := (Nat.le_trans zz65 (Keep.of_wr W68).1)
  have N68 := Fr.snoc X68 N64 g_b0
  have pre70 : Go p e below (s₁.setTop (entryFrame m #[(.int x0), (.int x1)] maxLocals)) (T68.setTop (mkF m 101 #[.val (.int x0), .val (.int x1), .val (.int cc), .unset, .unset, .unset, .unset] [(.ref b0)])) := fun t k => pre67 t (st68 t k)
  obtain ⟨clP, ArP, -, SSP, NNP, HHP, -⟩ := (show Arv Z h68 b0 k4 .char (16 : Int32) (own_tab.map Value.int) (.int (0 : Int32)) from V68)
  have pre71 : Go p e below (s₁.setTop (entryFrame m #[(.int x0), (.int x1)] maxLocals)) (T68.setTop (mkF m 108 #[.val (.int x0), .val (.int x1), .val (.int cc), .val (.ref b0), .unset, .unset, .unset] [(.int (own_tab.getD (x1 &&& (15 : Int32)).toNatClampNeg 0))])) := by
    intro t k
    refine pre70 t ?_
    show Steps p.tables e below (T68.setTop (mkF m 101 #[.val (.int x0), .val (.int x1), .val (.int cc), .unset, .unset, .unset, .unset] [(.ref b0)])) _
    refine XS.astoreN X68.here hx rfl (hb hby at_101) rfl rfl (l' := #[.val (.int x0), .val (.int x1), .val (.int cc), .val (.ref b0), .unset, .unset, .unset]) rfl ?_
    show Steps p.tables e below (T68.setTop (mkF m 102 #[.val (.int x0), .val (.int x1), .val (.int cc), .val (.ref b0), .unset, .unset, .unset] [])) _
    refine XS.aloadN X68.here hx rfl (hb hby at_102) rfl rfl ?_
    show Steps p.tables e below (T68.setTop (mkF m 103 #[.val (.int x0), .val (.int x1), .val (.int cc), .val (.ref b0), .unset, .unset, .unset] [(.ref b0)])) _
    refine XS.iloadN X68.here hx rfl (hb hby at_103) rfl ?_
    show Steps p.tables e below (T68.setTop (mkF m 104 #[.val (.int x0), .val (.int x1), .val (.int cc), .val (.ref b0), .unset, .unset, .unset] [(.int x1), (.ref b0)])) _
    refine XS.bipush X68.here hx rfl (hb hby at_104) ?_
    show Steps p.tables e below (T68.setTop (mkF m 106 #[.val (.int x0), .val (.int x1), .val (.int cc), .val (.ref b0), .unset, .unset, .unset] [(.int (15 : Int32)), (.int x1), (.ref b0)])) _
    refine XS.iand X68.here hx rfl (hb hby at_106) rfl ?_
    show Steps p.tables e below (T68.setTop (mkF m 107 #[.val (.int x0), .val (.int x1), .val (.int cc), .val (.ref b0), .unset, .unset, .unset] [(.int (x1 &&& (15 : Int32))), (.ref b0)])) _
    refine X68.caload hx (j := (x1 &&& (15 : Int32))) (v := (.int (own_tab.getD (x1 &&& (15 : Int32)).toNatClampNeg 0))) (by rw [e68]; exact ArP.1) (State.isArrayOf_alike hZ.alike ArP.2.1) ArP.2.2 (inb_of SSP (own_y x1).2) (HHP.at (inb_of SSP (own_y x1).2) (own_getD _ _)) (g := (mkF m 107 #[.val (.int x0), .val (.int x1), .val (.int cc), .val (.ref b0), .unset, .unset, .unset] [(.int (x1 &&& (15 : Int32))), (.ref b0)])) rfl rfl (hb hby at_107) _ ?_
    show Steps p.tables e below (T68.setTop (mkF m 108 #[.val (.int x0), .val (.int x1), .val (.int cc), .val (.ref b0), .unset, .unset, .unset] [(.int (own_tab.getD (x1 &&& (15 : Int32)).toNatClampNeg 0))])) _
    exact k
  obtain ⟨dd, h_dd⟩ : ∃ z : Int32, z = (own_tab.getD (x1 &&& (15 : Int32)).toNatClampNeg 0) := ⟨_, rfl⟩
  have pre72 : Go p e below (s₁.setTop (entryFrame m #[(.int x0), (.int x1)] maxLocals)) (T68.setTop (mkF m 108 #[.val (.int x0), .val (.int x1), .val (.int cc), .val (.ref b0), .unset, .unset, .unset] [(.int dd)])) := by rw [h_dd]; exact pre71
  have hdd := (own_y x1).1
  rw [← h_dd] at hdd
  have pre73 : Go p e below (s₁.setTop (entryFrame m #[(.int x0), (.int x1)] maxLocals)) (T68.setTop (mkF m 111 #[.val (.int x0), .val (.int x1), .val (.int cc), .val (.ref b0), .val (.int dd), .unset, .unset] [(.int cc)])) := by
    intro t k
    refine pre72 t ?_
    show Steps p.tables e below (T68.setTop (mkF m 108 #[.val (.int x0), .val (.int x1), .val (.int cc), .val (.ref b0), .unset, .unset, .unset] [(.int dd)])) _
    refine XS.istore X68.here hx rfl (hb hby at_108) rfl (l' := #[.val (.int x0), .val (.int x1), .val (.int cc), .val (.ref b0), .val (.int dd), .unset, .unset]) rfl ?_
    show Steps p.tables e below (T68.setTop (mkF m 110 #[.val (.int x0), .val (.int x1), .val (.int cc), .val (.ref b0), .val (.int dd), .unset, .unset] [])) _
    refine XS.iloadN X68.here hx rfl (hb hby at_110) rfl ?_
    show Steps p.tables e below (T68.setTop (mkF m 111 #[.val (.int x0), .val (.int x1), .val (.int cc), .val (.ref b0), .val (.int dd), .unset, .unset] [(.int cc)])) _
    exact k
  obtain ⟨_, _, ⟨T74, L74, k74, n74⟩, -, X74, ⟨Lc74, hQ74, l74, y74, z74⟩, st74⟩ := Jvm.LawKit.callS X68 hx (y := (⟨"com/example/kripketools/kripketools/Names", "isAtomStart", "(C)Z"⟩ : MethodName)) hown (mvT hZ (hw _ (List.mem_of_getElem? (i := 2) rfl))) (mvT hZ (hw _ (List.mem_of_getElem? (i := 3) rfl))) (mvT hZ (hw _ (List.mem_of_getElem? (i := 4) rfl))) (mvT hZ (hw _ (List.mem_of_getElem? (i := 5) rfl))) (by decide) (backOf (W := 0) (rm1 l Z a0 hw [] cc  h68 n0 zz69 ) hZ (hw _ (List.mem_of_getElem? (i := 5) rfl)) (hw _ (List.mem_of_getElem? (i := 4) rfl)) (by decide) (by decide)) (g := (mkF m 111 #[.val (.int x0), .val (.int x1), .val (.int cc), .val (.ref b0), .val (.int dd), .unset, .unset] [(.int cc)])) rfl (by rw [hml]; rfl) (argsL := [(.int cc)]) (rest := []) (lenOf pd_1 rfl) rfl (by show 2 * 0 + _ ≤ _; exact Nat.le_of_eq rfl) (hb hby at_111) (fun _ _ => ⟨rfl, e68, (by decide : 1 + 0 ≤ _), (by decide : 16 + 0 ≤ _)⟩)
  dsimp only [Pt.U, Pt.locs, Pt.cells, Pt.slots] at X74 l74 y74 z74 st74 hQ74
  subst l74 y74 z74
  obtain ⟨rfl, N74q, hh74⟩ := hQ74
  have N74 := Fr.app N68 N74q
  have pre75 : Go p e below (s₁.setTop (entryFrame m #[(.int x0), (.int x1)] maxLocals)) (T74.setTop (mkF m 114 #[.val (.int x0), .val (.int x1), .val (.int cc), .val (.ref b0), .val (.int dd), .unset, .unset] [(.int (f1 cc))])) := fun t k => pre73 t (st74 t k)
  have pre76 : Go p e below (s₁.setTop (entryFrame m #[(.int x0), (.int x1)] maxLocals)) (T74.setTop (mkF m 115 #[.val (.int x0), .val (.int x1), .val (.int cc), .val (.ref b0), .val (.int dd), .unset, .unset] [(.int cc), (.int (f1 cc))])) := by
    intro t k
    refine pre75 t ?_
    show Steps p.tables e below (T74.setTop (mkF m 114 #[.val (.int x0), .val (.int x1), .val (.int cc), .val (.ref b0), .val (.int dd), .unset, .unset] [(.int (f1 cc))])) _
    refine XS.iloadN X74.here hx rfl (hb hby at_114) rfl ?_
    show Steps p.tables e below (T74.setTop (mkF m 115 #[.val (.int x0), .val (.int x1), .val (.int cc), .val (.ref b0), .val (.int dd), .unset, .unset] [(.int cc), (.int (f1 cc))])) _
    exact k
  obtain ⟨_, _, ⟨T77, L77, k77, n77⟩, -, X77, ⟨Lc77, hQ77, l77, y77, z77⟩, st77⟩ := Jvm.LawKit.callS X74 hx (y := (⟨"com/example/kripketools/kripketools/NamesIsAtomStartPinLaw", "ref", "(C)Z"⟩ : MethodName)) hown (mvT hZ (hw _ (List.mem_of_getElem? (i := 9) rfl))) (mvT hZ (hw _ (List.mem_of_getElem? (i := 10) rfl))) (mvT hZ (hw _ (List.mem_of_getElem? (i := 11) rfl))) (mvT hZ (hw _ (List.mem_of_getElem? (i := 12) rfl))) (by decide) (backOf (W := 1) (rm3 l Z a0 hw [] cc  h68 n0 zz69 ) hZ (hw _ (List.mem_of_getElem? (i := 12) rfl)) (hw _ (List.mem_of_getElem? (i := 11) rfl)) (by decide) (by decide)) (g := (mkF m 115 #[.val (.int x0), .val (.int x1), .val (.int cc), .val (.ref b0), .val (.int dd), .unset, .unset] [(.int cc), (.int (f1 cc))])) rfl (by rw [hml]; rfl) (argsL := [(.int cc)]) (rest := [(.int (f1 cc))]) (lenOf pd_1 rfl) rfl (by show 2 * 0 + _ ≤ _; exact Nat.le_of_eq rfl) (hb hby at_115) (fun _ _ => ⟨rfl, hh74, (by decide : 1 + 0 ≤ _), (by decide : 16 + 0 ≤ _)⟩)
  dsimp only [Pt.U, Pt.locs, Pt.cells, Pt.slots] at X77 l77 y77 z77 st77 hQ77
  subst l77 y77 z77
  obtain ⟨rfl, N77q, hh77⟩ := hQ77
  have N77 := Fr.app N74 N77q
  have pre78 : Go p e below (s₁.setTop (entryFrame m #[(.int x0), (.int x1)] maxLocals)) (T77.setTop (mkF m 118 #[.val (.int x0), .val (.int x1), .val (.int cc), .val (.ref b0), .val (.int dd), .unset, .unset] [(.int (f3 cc)), (.int (f1 cc))])) := fun t k => pre76 t (st77 t k)
  have hc118_79 : (f1 cc) = (f3 cc) := by
    exact own_eq (by omega) (by omega)
  have pre80 : Go p e below (s₁.setTop (entryFrame m #[(.int x0), (.int x1)] maxLocals)) (T77.setTop (mkF m 130 #[.val (.int x0), .val (.int x1), .val (.int cc), .val (.ref b0), .val (.int dd), .val (.int (1 : Int32)), .unset] [(.int dd)])) := by
    intro t k
    refine pre78 t ?_
    show Steps p.tables e below (T77.setTop (mkF m 118 #[.val (.int x0), .val (.int x1), .val (.int cc), .val (.ref b0), .val (.int dd), .unset, .unset] [(.int (f3 cc)), (.int (f1 cc))])) _
    refine XS.icmpNo X77.here hx rfl (hb hby at_118) rfl (XT.ii_ne_f hc118_79) ?_
    show Steps p.tables e below (T77.setTop (mkF m 121 #[.val (.int x0), .val (.int x1), .val (.int cc), .val (.ref b0), .val (.int dd), .unset, .unset] [])) _
    refine XS.iconst X77.here hx rfl (hb hby at_121) ?_
    show Steps p.tables e below (T77.setTop (mkF m 122 #[.val (.int x0), .val (.int x1), .val (.int cc), .val (.ref b0), .val (.int dd), .unset, .unset] [(.int (1 : Int32))])) _
    refine XS.goto X77.here hx rfl (pc0 := 122) (pc' := 126) rfl (hb hby at_122) (by decide) (by decide) ?_
    show Steps p.tables e below (T77.setTop (mkF m 126 #[.val (.int x0), .val (.int x1), .val (.int cc), .val (.ref b0), .val (.int dd), .unset, .unset] [(.int (1 : Int32))])) _
    refine XS.istore X77.here hx rfl (hb hby at_126) rfl (l' := #[.val (.int x0), .val (.int x1), .val (.int cc), .val (.ref b0), .val (.int dd), .val (.int (1 : Int32)), .unset]) rfl ?_
    show Steps p.tables e below (T77.setTop (mkF m 128 #[.val (.int x0), .val (.int x1), .val (.int cc), .val (.ref b0), .val (.int dd), .val (.int (1 : Int32)), .unset] [])) _
    refine XS.iload X77.here hx rfl (hb hby at_128) rfl ?_
    show Steps p.tables e below (T77.setTop (mkF m 130 #[.val (.int x0), .val (.int x1), .val (.int cc), .val (.ref b0), .val (.int dd), .val (.int (1 : Int32)), .unset] [(.int dd)])) _
    exact k
  obtain ⟨_, _, ⟨T81, L81, k81, n81⟩, -, X81, ⟨Lc81, hQ81, l81, y81, z81⟩, st81⟩ := Jvm.LawKit.callS X77 hx (y := (⟨"com/example/kripketools/kripketools/Names", "isAtomStart", "(C)Z"⟩ : MethodName)) hown (mvT hZ (hw _ (List.mem_of_getElem? (i := 2) rfl))) (mvT hZ (hw _ (List.mem_of_getElem? (i := 3) rfl))) (mvT hZ (hw _ (List.mem_of_getElem? (i := 4) rfl))) (mvT hZ (hw _ (List.mem_of_getElem? (i := 5) rfl))) (by decide) (backOf (W := 0) (rm1 l Z a0 hw [] dd  h68 n0 zz69 ) hZ (hw _ (List.mem_of_getElem? (i := 5) rfl)) (hw _ (List.mem_of_getElem? (i := 4) rfl)) (by decide) (by decide)) (g := (mkF m 130 #[.val (.int x0), .val (.int x1), .val (.int cc), .val (.ref b0), .val (.int dd), .val (.int (1 : Int32)), .unset] [(.int dd)])) rfl (by rw [hml]; rfl) (argsL := [(.int dd)]) (rest := []) (lenOf pd_1 rfl) rfl (by show 2 * 0 + _ ≤ _; exact Nat.le_of_eq rfl) (hb hby at_130) (fun _ _ => ⟨rfl, hh77, (by decide : 1 + 0 ≤ _), (by decide : 16 + 0 ≤ _)⟩)
  dsimp only [Pt.U, Pt.locs, Pt.cells, Pt.slots] at X81 l81 y81 z81 st81 hQ81
  subst l81 y81 z81
  obtain ⟨rfl, N81q, hh81⟩ := hQ81
  have N81 := Fr.app N77 N81q
  have pre82 : Go p e below (s₁.setTop (entryFrame m #[(.int x0), (.int x1)] maxLocals)) (T81.setTop (mkF m 133 #[.val (.int x0), .val (.int x1), .val (.int cc), .val (.ref b0), .val (.int dd), .val (.int (1 : Int32)), .unset] [(.int (f1 dd))])) := fun t k => pre80 t (st81 t k)
  have pre83 : Go p e below (s₁.setTop (entryFrame m #[(.int x0), (.int x1)] maxLocals)) (T81.setTop (mkF m 135 #[.val (.int x0), .val (.int x1), .val (.int cc), .val (.ref b0), .val (.int dd), .val (.int (1 : Int32)), .unset] [(.int dd), (.int (f1 dd))])) := by
    intro t k
    refine pre82 t ?_
    show Steps p.tables e below (T81.setTop (mkF m 133 #[.val (.int x0), .val (.int x1), .val (.int cc), .val (.ref b0), .val (.int dd), .val (.int (1 : Int32)), .unset] [(.int (f1 dd))])) _
    refine XS.iload X81.here hx rfl (hb hby at_133) rfl ?_
    show Steps p.tables e below (T81.setTop (mkF m 135 #[.val (.int x0), .val (.int x1), .val (.int cc), .val (.ref b0), .val (.int dd), .val (.int (1 : Int32)), .unset] [(.int dd), (.int (f1 dd))])) _
    exact k
  obtain ⟨_, _, ⟨T84, L84, k84, n84⟩, -, X84, ⟨Lc84, hQ84, l84, y84, z84⟩, st84⟩ := Jvm.LawKit.callS X81 hx (y := (⟨"com/example/kripketools/kripketools/NamesIsAtomStartPinLaw", "ref", "(C)Z"⟩ : MethodName)) hown (mvT hZ (hw _ (List.mem_of_getElem? (i := 9) rfl))) (mvT hZ (hw _ (List.mem_of_getElem? (i := 10) rfl))) (mvT hZ (hw _ (List.mem_of_getElem? (i := 11) rfl))) (mvT hZ (hw _ (List.mem_of_getElem? (i := 12) rfl))) (by decide) (backOf (W := 1) (rm3 l Z a0 hw [] dd  h68 n0 zz69 ) hZ (hw _ (List.mem_of_getElem? (i := 12) rfl)) (hw _ (List.mem_of_getElem? (i := 11) rfl)) (by decide) (by decide)) (g := (mkF m 135 #[.val (.int x0), .val (.int x1), .val (.int cc), .val (.ref b0), .val (.int dd), .val (.int (1 : Int32)), .unset] [(.int dd), (.int (f1 dd))])) rfl (by rw [hml]; rfl) (argsL := [(.int dd)]) (rest := [(.int (f1 dd))]) (lenOf pd_1 rfl) rfl (by show 2 * 0 + _ ≤ _; exact Nat.le_of_eq rfl) (hb hby at_135) (fun _ _ => ⟨rfl, hh81, (by decide : 1 + 0 ≤ _), (by decide : 16 + 0 ≤ _)⟩)
  dsimp only [Pt.U, Pt.locs, Pt.cells, Pt.slots] at X84 l84 y84 z84 st84 hQ84
  subst l84 y84 z84
  obtain ⟨rfl, N84q, hh84⟩ := hQ84
  have N84 := Fr.app N81 N84q
  have pre85 : Go p e below (s₁.setTop (entryFrame m #[(.int x0), (.int x1)] maxLocals)) (T84.setTop (mkF m 138 #[.val (.int x0), .val (.int x1), .val (.int cc), .val (.ref b0), .val (.int dd), .val (.int (1 : Int32)), .unset] [(.int (f3 dd)), (.int (f1 dd))])) := fun t k => pre83 t (st84 t k)
  have hc138_86 : (f1 dd) = (f3 dd) := by
    exact own_eq hdd.1 hdd.2
  have pre87 : Go p e below (s₁.setTop (entryFrame m #[(.int x0), (.int x1)] maxLocals)) (T84.setTop (mkF m 150 #[.val (.int x0), .val (.int x1), .val (.int cc), .val (.ref b0), .val (.int dd), .val (.int (1 : Int32)), .val (.int (1 : Int32))] [(.int (1 : Int32))])) := by
    intro t k
    refine pre85 t ?_
    show Steps p.tables e below (T84.setTop (mkF m 138 #[.val (.int x0), .val (.int x1), .val (.int cc), .val (.ref b0), .val (.int dd), .val (.int (1 : Int32)), .unset] [(.int (f3 dd)), (.int (f1 dd))])) _
    refine XS.icmpNo X84.here hx rfl (hb hby at_138) rfl (XT.ii_ne_f hc138_86) ?_
    show Steps p.tables e below (T84.setTop (mkF m 141 #[.val (.int x0), .val (.int x1), .val (.int cc), .val (.ref b0), .val (.int dd), .val (.int (1 : Int32)), .unset] [])) _
    refine XS.iconst X84.here hx rfl (hb hby at_141) ?_
    show Steps p.tables e below (T84.setTop (mkF m 142 #[.val (.int x0), .val (.int x1), .val (.int cc), .val (.ref b0), .val (.int dd), .val (.int (1 : Int32)), .unset] [(.int (1 : Int32))])) _
    refine XS.goto X84.here hx rfl (pc0 := 142) (pc' := 146) rfl (hb hby at_142) (by decide) (by decide) ?_
    show Steps p.tables e below (T84.setTop (mkF m 146 #[.val (.int x0), .val (.int x1), .val (.int cc), .val (.ref b0), .val (.int dd), .val (.int (1 : Int32)), .unset] [(.int (1 : Int32))])) _
    refine XS.istore X84.here hx rfl (hb hby at_146) rfl (l' := #[.val (.int x0), .val (.int x1), .val (.int cc), .val (.ref b0), .val (.int dd), .val (.int (1 : Int32)), .val (.int (1 : Int32))]) rfl ?_
    show Steps p.tables e below (T84.setTop (mkF m 148 #[.val (.int x0), .val (.int x1), .val (.int cc), .val (.ref b0), .val (.int dd), .val (.int (1 : Int32)), .val (.int (1 : Int32))] [])) _
    refine XS.iload X84.here hx rfl (hb hby at_148) rfl ?_
    show Steps p.tables e below (T84.setTop (mkF m 150 #[.val (.int x0), .val (.int x1), .val (.int cc), .val (.ref b0), .val (.int dd), .val (.int (1 : Int32)), .val (.int (1 : Int32))] [(.int (1 : Int32))])) _
    exact k
  have hc150_88 : ¬ ((1 : Int32) = (0 : Int32)) := by
    decide
  have pre89 : Go p e below (s₁.setTop (entryFrame m #[(.int x0), (.int x1)] maxLocals)) (T84.setTop (mkF m 155 #[.val (.int x0), .val (.int x1), .val (.int cc), .val (.ref b0), .val (.int dd), .val (.int (1 : Int32)), .val (.int (1 : Int32))] [(.int (1 : Int32))])) := by
    intro t k
    refine pre87 t ?_
    show Steps p.tables e below (T84.setTop (mkF m 150 #[.val (.int x0), .val (.int x1), .val (.int cc), .val (.ref b0), .val (.int dd), .val (.int (1 : Int32)), .val (.int (1 : Int32))] [(.int (1 : Int32))])) _
    refine XS.ifNo X84.here hx rfl (hb hby at_150) rfl (XT.i0_eq_f hc150_88) ?_
    show Steps p.tables e below (T84.setTop (mkF m 153 #[.val (.int x0), .val (.int x1), .val (.int cc), .val (.ref b0), .val (.int dd), .val (.int (1 : Int32)), .val (.int (1 : Int32))] [])) _
    refine XS.iload X84.here hx rfl (hb hby at_153) rfl ?_
    show Steps p.tables e below (T84.setTop (mkF m 155 #[.val (.int x0), .val (.int x1), .val (.int cc), .val (.ref b0), .val (.int dd), .val (.int (1 : Int32)), .val (.int (1 : Int32))] [(.int (1 : Int32))])) _
    exact k
  have hc155_90 : ¬ ((1 : Int32) = (0 : Int32)) := by
    decide
  have pre91 : Go p e below (s₁.setTop (entryFrame m #[(.int x0), (.int x1)] maxLocals)) (T84.setTop (mkF m 163 #[.val (.int x0), .val (.int x1), .val (.int cc), .val (.ref b0), .val (.int dd), .val (.int (1 : Int32)), .val (.int (1 : Int32))] [(.int (1 : Int32))])) := by
    intro t k
    refine pre89 t ?_
    show Steps p.tables e below (T84.setTop (mkF m 155 #[.val (.int x0), .val (.int x1), .val (.int cc), .val (.ref b0), .val (.int dd), .val (.int (1 : Int32)), .val (.int (1 : Int32))] [(.int (1 : Int32))])) _
    refine XS.ifNo X84.here hx rfl (hb hby at_155) rfl (XT.i0_eq_f hc155_90) ?_
    show Steps p.tables e below (T84.setTop (mkF m 158 #[.val (.int x0), .val (.int x1), .val (.int cc), .val (.ref b0), .val (.int dd), .val (.int (1 : Int32)), .val (.int (1 : Int32))] [])) _
    refine XS.iconst X84.here hx rfl (hb hby at_158) ?_
    show Steps p.tables e below (T84.setTop (mkF m 159 #[.val (.int x0), .val (.int x1), .val (.int cc), .val (.ref b0), .val (.int dd), .val (.int (1 : Int32)), .val (.int (1 : Int32))] [(.int (1 : Int32))])) _
    refine XS.goto X84.here hx rfl (pc0 := 159) (pc' := 163) rfl (hb hby at_159) (by decide) (by decide) ?_
    show Steps p.tables e below (T84.setTop (mkF m 163 #[.val (.int x0), .val (.int x1), .val (.int cc), .val (.ref b0), .val (.int dd), .val (.int (1 : Int32)), .val (.int (1 : Int32))] [(.int (1 : Int32))])) _
    exact k
  obtain ⟨fs, hr, hrun, hended, hW, hsame⟩ := X84.leave (v := some (.int (1 : Int32))) (fun h => by rw [Bd.returns] at h; cases h)
  refine ⟨_, _, pre91 _ (retN X84 hx (t := .boolean) Bd.returns (by simp) (hb hby at_163) hr), hrun, hended, _, _, rfl, ?_, ⟨_, rfl⟩, hW, hsame.mono (by decide) (by decide)⟩
  show Q0 Z x0 x1 h0 n0 _ T84.heap _
  rw [hh84]
  exact ⟨rfl, N84⟩
set_option maxRecDepth 65536 in
set_option maxHeartbeats 40000000 in
theorem comes_1 {Post : Tables → Env → Array Value → State → Outcome → State → Prop} (hpost : ∀ tb e args s v u, (limb_1_1.after args s (.returned v) u = true ∧ limb_1_2.after args s (.returned v) u = true ∧ True) → FrameEnd s (.returned v) u (Jvm.fieldLocs frame_1_writes args s ++ Jvm.arrayLocs frame_1_arrays args s ++ Jvm.staticLocs frame_1_statics s) 16 128 → Post tb e args s (.returned v) u) :
    ArmFor flags0 classFile x code maxLocals ret World_1 tables_1 room_1 Calls_1 rest_1 Pre_1 Post := by
  intro l hfl _ _ p e ha hc hk s m args below hf hA hF happ hP
  obtain ⟨hcalls, hrest, hpre⟩ := hP
  obtain ⟨-, -, -, hnamed, -, -, -, hat⟩ := (Spec.applies_iff hf).mp happ
  obtain ⟨hg, hn⟩ := and_e (Cond.before_iff.mp (show (Jvm.Cond.and given_1 narrow_1).before args s = true from hpre))
  obtain ⟨u1, u2⟩ := and_e hg
  obtain ⟨u3, u4⟩ := and_e u2
  obtain ⟨w0, w1, rfl⟩ : ∃ w0 w1 : Value, args = #[w0, w1] := by
    have hs : args.size = 2 := by simpa [Cond.value, given_1] using u1
    obtain ⟨L⟩ := args
    match L, hs with
    | [w0, w1], _ => exact ⟨w0, w1, rfl⟩
  have hw := fun d (hd : d ∈ tables_1) => atoms_spec (ws := Jvm.Cond.code x code maxLocals ret :: tables_1) hat d (List.mem_cons_of_mem _ hd)
  obtain ⟨i0, ei0⟩ := is_v u3
  obtain rfl : w0 = (.int i0) := Option.some.inj ei0
  obtain ⟨i1, ei1⟩ := is_v u4
  obtain rfl : w1 = (.int i1) := Option.some.inj ei1
  obtain ⟨n, o, h1, h2, h3, _, L, rfl, ⟨rfl, N⟩, hq⟩ := rm0 l s _ hw tables_1 i0 i1 s.heap s.heap.size (Nat.le_refl _) p e ha hc hk s m _ below hf ((Spec.applies_iff_loose hf).mp happ).1 ⟨rfl, State.Warmed39.refl s, rfl⟩ trivial
  refine ⟨n, _, h1, h2, h3, hpost _ _ _ _ _ _ ⟨Cond.after_iff.mpr rfl, Cond.after_iff.mpr (eq_i res_at (Term.int_eval (1)) rfl), trivial⟩ ⟨hq.1, hq.2.1, (hq.2.2.sift fun y hy => Or.inr (N y hy)).mono (by decide) (by decide)⟩⟩
theorem main_1_1 : Claimed_1_1 := comes_1 fun _ _ _ _ _ _ h hF => ⟨h.1, hF⟩
theorem main_1_2 : Claimed_1_2 := comes_1 fun _ _ _ _ _ _ h hF => ⟨h.2.1, hF⟩
end Jvm.Pilot.@@N@@
namespace Jvm.Pilot.@@N@@
open Jvm Jvm.ClassFile Sem Op Lib Jvm.Free Jvm.Stand Jvm.Pilot.@@N@@.Jvm.D
/-! MADE BY PROGRAM (witnessworld.py) out of the Statement's table words and the real class files: 11 classes; the members and pool entries that the words name. The judged class is class 1, her method 2. -/
namespace start1
open Jvm.ClassFile
def u (s : String) : CpInfo := .utf8 (stringToUtf16 s)
/-- a pool by its gaps: so many unusable entries, then the entry; so many at the end -/
def gap : Nat → List CpInfo → List CpInfo
  | 0, r => r
  | n + 1, r => .unusable :: gap n r
def poolList (es : List (Nat × CpInfo)) (last : Nat) : List CpInfo := es.foldr (fun e r => gap e.1 (e.2 :: r)) (gap last [])
def pool (es : List (Nat × CpInfo)) (last : Nat) : Array CpInfo := ⟨poolList es last⟩
def fileOf (pool : Array CpInfo) (this : Nat) (attrs : Array Attribute := #[]) (ms : Array MethodInfo := #[]) (fl : Nat := 33) (sup : Nat := 0) (ifs : Array Nat := #[]) (fds : Array FieldInfo := #[]) : ClassFile where
  minorVersion := 0
  majorVersion := 65
  constantPool := pool
  accessFlags := fl
  thisClass := this
  superClass := sup
  interfaces := ifs
  fields := fds
  methods := ms
  attributes := attrs
def plain (name : String) (sup : Option ClassId) : Class where
  name := name
  kind := .ordinary
  loader := none
  accessFlags := 33
  super := sup
  interfaces := #[]
  cf := none
  fields := #[]
  methods := #[]
  instanceTypes := #[]
  staticTypes := #[]
  resolved := #[]
  callSites := []
  init := .initialized
  statics := none
  mirror := none

def pool0 : Array CpInfo := pool [(5, u "<init>"), (0, u "()V"), (1, .class_ 10), (1, u "java/lang/Object")] 113

def k0m0 : Method := { name := "<init>", desc := "()V", sig := { parameters := [], returnType := none }, accessFlags := 1, code := none }
/-- java/lang/Object -/
def k0 : Class := { plain "java/lang/Object" none with
  accessFlags := 33
  interfaces := #[]
  cf := some (fileOf pool0 8 #[] #[{ accessFlags := 1, nameIndex := 5, descriptorIndex := 6, attributes := #[] }] 33 0 #[] #[])
  fields := #[]
  methods := #[k0m0]
  instanceTypes := #[]
  staticTypes := #[]
  resolved := Array.replicate 124 none
  statics := none }

def pool1 : Array CpInfo := pool [(2, .class_ 4), (1, u "java/lang/Object"), (0, u "<init>"), (0, u "()V"), (0, .integer 65535), (0, .methodref 9 10), (0, .class_ 11), (0, .nameAndType 12 13), (0, u "com/example/kripketools/kripketools/Names"), (0, u "isAtomStart"), (0, u "(C)Z"), (0, .methodref 15 16), (0, .class_ 17), (0, .nameAndType 18 13), (0, u "com/example/kripketools/kripketools/NamesIsAtomStartPinLaw"), (0, u "ref"), (3, u "law"), (0, u "(II)Z")] 4

def k1m0 : Method := { name := "<init>", desc := "()V", sig := { parameters := [], returnType := none }, accessFlags := 2, code := none }
def k1c1 : Code := { maxStack := 2, maxLocals := 3, code := method_2_code, exceptionTable := #[], attributes := #[] }
def k1m1 : Method := { name := "ref", desc := "(C)Z", sig := { parameters := [.char], returnType := some .boolean }, accessFlags := 10, code := some k1c1 }
def k1c2 : Code := { maxStack := 4, maxLocals := 7, code := code, exceptionTable := #[], attributes := #[] }
def k1m2 : Method := { name := "law", desc := "(II)Z", sig := { parameters := [.int, .int], returnType := some .boolean }, accessFlags := 9, code := some k1c2 }
/-- com/example/kripketools/kripketools/NamesIsAtomStartPinLaw -/
def k1 : Class := { plain "com/example/kripketools/kripketools/NamesIsAtomStartPinLaw" (some 0) with
  accessFlags := 49
  interfaces := #[]
  cf := some (fileOf pool1 15 #[] #[{ accessFlags := 2, nameIndex := 5, descriptorIndex := 6, attributes := #[] }, { accessFlags := 10, nameIndex := 18, descriptorIndex := 13, attributes := #[] }, { accessFlags := 9, nameIndex := 22, descriptorIndex := 23, attributes := #[] }] 49 2 #[] #[])
  fields := #[]
  methods := #[k1m0, k1m1, k1m2]
  instanceTypes := #[]
  staticTypes := #[]
  resolved := Array.replicate 28 none
  statics := none }

def pool2 : Array CpInfo := pool [(2, .class_ 4), (1, u "java/lang/Object"), (0, u "<init>"), (0, u "()V"), (10, .class_ 18), (0, u "com/example/kripketools/kripketools/Names"), (7, u "(C)Z"), (18, u "isAtomStart"), (13, u "RESERVED_WORDS"), (0, u "Ljava/util/Set;"), (6, .methodref 17 68), (0, .nameAndType 69 26), (0, u "isAsciiLetter"), (54, u "MAX_STATE_ID_LENGTH"), (0, u "I")] 40

def k2m0 : Method := { name := "<init>", desc := "()V", sig := { parameters := [], returnType := none }, accessFlags := 2, code := none }
def k2c1 : Code := { maxStack := 2, maxLocals := 1, code := prog_17_method_10_code, exceptionTable := #[], attributes := #[] }
def k2m1 : Method := { name := "isAtomStart", desc := "(C)Z", sig := { parameters := [.char], returnType := some .boolean }, accessFlags := 8, code := some k2c1 }
def k2c2 : Code := { maxStack := 2, maxLocals := 1, code := prog_17_method_13_code, exceptionTable := #[], attributes := #[] }
def k2m2 : Method := { name := "isAsciiLetter", desc := "(C)Z", sig := { parameters := [.char], returnType := some .boolean }, accessFlags := 10, code := some k2c2 }
/-- com/example/kripketools/kripketools/Names -/
def k2 : Class := { plain "com/example/kripketools/kripketools/Names" (some 0) with
  accessFlags := 32
  interfaces := #[]
  cf := some (fileOf pool2 17 #[] #[{ accessFlags := 2, nameIndex := 5, descriptorIndex := 6, attributes := #[] }, { accessFlags := 8, nameIndex := 45, descriptorIndex := 26, attributes := #[] }, { accessFlags := 10, nameIndex := 69, descriptorIndex := 26, attributes := #[] }] 32 2 #[] #[{ accessFlags := 24, nameIndex := 124, descriptorIndex := 125, attributes := #[] }, { accessFlags := 26, nameIndex := 59, descriptorIndex := 60, attributes := #[] }])
  fields := #[{ name := "MAX_STATE_ID_LENGTH", type := .int, accessFlags := 24, slot := 0, constantValue := 0 }, { name := "RESERVED_WORDS", type := (.object "java/util/Set"), accessFlags := 26, slot := 1, constantValue := 0 }]
  methods := #[k2m0, k2m1, k2m2]
  instanceTypes := #[]
  staticTypes := #[.int, (.object "java/util/Set")]
  resolved := Array.replicate 166 none
  statics := none }

def pool3 : Array CpInfo := pool [(1, u "java/lang/Cloneable"), (0, .class_ 1), (0, u "java/lang/Object"), (0, .class_ 3)] 3

/-- java/lang/Cloneable -/
def k3 : Class := { plain "java/lang/Cloneable" (some 0) with
  accessFlags := 1537
  interfaces := #[]
  cf := some (fileOf pool3 2 #[] #[] 1537 4 #[] #[])
  fields := #[]
  methods := #[]
  instanceTypes := #[]
  staticTypes := #[]
  resolved := Array.replicate 8 none
  statics := none }

def pool4 : Array CpInfo := pool [(1, u "java/io/Serializable"), (0, .class_ 1), (0, u "java/lang/Object"), (0, .class_ 3)] 3

/-- java/io/Serializable -/
def k4 : Class := { plain "java/io/Serializable" (some 0) with
  accessFlags := 1537
  interfaces := #[]
  cf := some (fileOf pool4 2 #[] #[] 1537 4 #[] #[])
  fields := #[]
  methods := #[]
  instanceTypes := #[]
  staticTypes := #[]
  resolved := Array.replicate 8 none
  statics := none }

/-- the primitive byte -/
def k5 : Class := { plain "byte" none with kind := .primitive 'B', accessFlags := 0x411 }
/-- [B -/
def k6 : Class := { plain "[B" (some 0) with kind := .array 5 .byte, interfaces := #[3, 4], accessFlags := 1041 }

/-- the primitive char -/
def k7 : Class := { plain "char" none with kind := .primitive 'C', accessFlags := 0x411 }
/-- [C -/
def k8 : Class := { plain "[C" (some 0) with kind := .array 7 .char, interfaces := #[3, 4], accessFlags := 1041 }

/-- the primitive int -/
def k9 : Class := { plain "int" none with kind := .primitive 'I', accessFlags := 0x411 }
/-- [I -/
def k10 : Class := { plain "[I" (some 0) with kind := .array 9 .int, interfaces := #[3, 4], accessFlags := 1041 }

def heap : Heap := #[]
def classes : Array Class := #[k0, k1, k2, k3, k4, k5, k6, k7, k8, k9, k10]
def interned : List (Array UInt16 × Addr) := []
def slotsUsed : Nat := 0
def theMethod : MethodId := ⟨1, 2⟩
def args0 : Array Value := #[.int 5, .int 7]
def aboutOver (below : List Frame) : State where
  vm := { classes := classes, interned := interned.toArray }
  heap := heap
  slotsUsed := slotsUsed
  threads := #[{ frames := .invoking theMethod args0 :: below }]
def below0 : List Frame := [.native { method := ⟨0, 0⟩, args := #[] }]
def about1 : State := aboutOver below0
def p0 : Program := .bare "" "" ""
def e0 : Env := launch0.env 0 0 0
theorem w_frames : about1.frames = Frame.invoking theMethod args0 :: below0 := rfl
set_option maxRecDepth 65536 in
theorem w_args : argsFit about1.vm theMethod args0 = true := by decide +kernel
set_option maxRecDepth 65536 in
theorem w_heap : heapFits about1 = true := by decide +kernel
set_option maxRecDepth 65536 in
theorem w_runnable : about1.curStatus? = some .runnable := by decide +kernel
set_option maxRecDepth 65536 in
theorem w_alone : about1.alone = true := by decide +kernel
set_option maxRecDepth 65536 in
theorem w_named : about1.methodNamed? x = some theMethod := by decide +kernel
set_option maxRecDepth 65536 in
theorem w_hears : about1.hears theMethod below0 = true := by decide +kernel
set_option maxRecDepth 65536 in
theorem w_ripe : about1.ripe theMethod args0 below0 = true := by decide +kernel
theorem w_running : about1.status = .running := rfl
set_option maxRecDepth 65536 in
theorem w_room : about1.hasRoom e0.platform room_1 = true :=
  launch0.hasRoom_least _ room_1 (by decide +kernel) (by decide +kernel) (by decide +kernel) (by decide +kernel) (by decide +kernel) (by decide +kernel)
theorem allAtoms_all (ts : List Jvm.Cond) (a : Array Jvm.Value) (st : Jvm.State) : (allAtoms ts).before a st = ts.all (fun c => c.before a st) := by
  induction ts with
  | nil => rfl
  | cons c t ih =>
    show (Jvm.Cond.and c (allAtoms t)).before a st = _
    rw [Jvm.Cond.before_and, ih, List.all_cons]
def words1 : List Jvm.Cond := Jvm.Cond.code x code maxLocals ret :: tables_1
/-- a 'code' word, met by the world's own term for the bytes: nothing is compared byte by byte -/
theorem code_word {y : MethodName} {bytes : ByteArray} {mx : Nat} {rt : Option FieldType} {a : Array Value} {s : State} {m : MethodId} {meth : Method} {c : Code} (h1 : s.methodNamed? y = some m) (h2 : s.vm.method? m = some meth) (h3 : meth.code = some c) (h4 : c.code = bytes)
    (h5 : (c.maxLocals == mx && c.exceptionTable.isEmpty && decide (c.maxStack ≤ mostOperands) && decide (meth.sig.returnType = rt) && !meth.locks && decide (parseMethodDescriptor y.desc = some meth.sig)) = true) : (Jvm.Cond.code y bytes mx rt).before a s = true := by
  simp only [Bool.and_eq_true, beq_iff_eq, Bool.not_eq_true', decide_eq_true_eq] at h5
  obtain ⟨⟨⟨⟨⟨g1, g2⟩, g3⟩, g4⟩, g5⟩, g6⟩ := h5
  simp [Cond.before, Cond.holds, Cond.value, h1, h2, h3, h4, g1, g2, g3, g4, g5, g6]
def isCode : Jvm.Cond → Bool
  | .code _ _ _ _ => true
  | _ => false
theorem all_split {L : List Jvm.Cond} {P : Jvm.Cond → Bool} (h1 : L.all (fun c => isCode c || P c) = true) (h2 : ∀ c ∈ L.filter isCode, P c = true) : L.all P = true := by
  refine List.all_eq_true.mpr fun c hc => ?_
  have h := List.all_eq_true.mp h1 c hc
  rcases Bool.eq_false_or_eq_true (isCode c) with hi | hi
  · exact h2 c (List.mem_filter.mpr ⟨hc, hi⟩)
  · simpa [hi] using h
set_option maxRecDepth 65536 in
theorem w_c0 : (Jvm.Cond.code x code maxLocals ret).before args0 about1 = true := code_word (m := ⟨1, 2⟩) (meth := k1m2) (c := k1c2) (by decide +kernel) rfl rfl rfl (by decide +kernel)
set_option maxRecDepth 65536 in
theorem w_c1 : (Jvm.Cond.code ({ cls := "com/example/kripketools/kripketools/Names", name := "isAtomStart", desc := "(C)Z" } : Jvm.MethodName) prog_17_method_10_code (1 : Nat) (Option.some Jvm.ClassFile.FieldType.boolean)).before args0 about1 = true := code_word (m := ⟨2, 1⟩) (meth := k2m1) (c := k2c1) (by decide +kernel) rfl rfl rfl (by decide +kernel)
set_option maxRecDepth 65536 in
theorem w_c2 : (Jvm.Cond.code ({ cls := "com/example/kripketools/kripketools/Names", name := "isAsciiLetter", desc := "(C)Z" } : Jvm.MethodName) prog_17_method_13_code (1 : Nat) (Option.some Jvm.ClassFile.FieldType.boolean)).before args0 about1 = true := code_word (m := ⟨2, 2⟩) (meth := k2m2) (c := k2c2) (by decide +kernel) rfl rfl rfl (by decide +kernel)
set_option maxRecDepth 65536 in
theorem w_c3 : (Jvm.Cond.code ({ cls := "com/example/kripketools/kripketools/NamesIsAtomStartPinLaw", name := "ref", desc := "(C)Z" } : Jvm.MethodName) method_2_code (3 : Nat) (Option.some Jvm.ClassFile.FieldType.boolean)).before args0 about1 = true := code_word (m := ⟨1, 1⟩) (meth := k1m1) (c := k1c1) (by decide +kernel) rfl rfl rfl (by decide +kernel)
def codes1 : List Jvm.Cond := [Jvm.Cond.code x code maxLocals ret, Jvm.Cond.code ({ cls := "com/example/kripketools/kripketools/Names", name := "isAtomStart", desc := "(C)Z" } : Jvm.MethodName) prog_17_method_10_code (1 : Nat) (Option.some Jvm.ClassFile.FieldType.boolean), Jvm.Cond.code ({ cls := "com/example/kripketools/kripketools/Names", name := "isAsciiLetter", desc := "(C)Z" } : Jvm.MethodName) prog_17_method_13_code (1 : Nat) (Option.some Jvm.ClassFile.FieldType.boolean), Jvm.Cond.code ({ cls := "com/example/kripketools/kripketools/NamesIsAtomStartPinLaw", name := "ref", desc := "(C)Z" } : Jvm.MethodName) method_2_code (3 : Nat) (Option.some Jvm.ClassFile.FieldType.boolean)]
set_option maxRecDepth 65536 in
theorem codes_eq : words1.filter isCode = codes1 := rfl
theorem w_codes : ∀ c ∈ words1.filter isCode, c.before args0 about1 = true := by
  rw [codes_eq]
  intro c hc
  simp only [codes1, List.mem_cons, List.not_mem_nil, or_false] at hc
  rcases hc with rfl | rfl | rfl | rfl
  · exact w_c0
  · exact w_c1
  · exact w_c2
  · exact w_c3
set_option maxRecDepth 65536 in
theorem w_t1 : words1.all (fun c => isCode c || c.before args0 about1) = true := by decide +kernel
theorem w_tables : (allAtoms (Jvm.Cond.code x code maxLocals ret :: tables_1)).before args0 about1 = true := by
  rw [allAtoms_all]
  show words1.all (fun c => c.before args0 about1) = true
  refine all_split ?_ w_codes
  rw [w_t1]
set_option maxRecDepth 65536 in
theorem w_case : (Jvm.Cond.and given_1 narrow_1).before args0 about1 = true := by decide +kernel
theorem w_applies : (headSpec (Jvm.Cond.code x code maxLocals ret :: tables_1) room_1).applies x e0.platform about1 = true :=
  (Spec.applies_iff w_frames).mpr ⟨w_running, w_runnable, w_alone, w_named, w_hears, w_ripe, w_room, w_tables⟩
theorem atStart : AtStart classFile x code maxLocals ret World_1 tables_1 room_1 Calls_1 rest_1 Pre_1 launch0 p0 e0 about1 theMethod args0 below0 :=
  ⟨lists_1, trivial, launch0.admits_env _ _ _, launch0.least_env, fairChoices_fair.cas, fairChoices_fair.clock, w_frames, w_args, w_heap, w_applies, trivial, trivial, w_case⟩
end start1
theorem witness_1 : WitnessClaimed_1 := ⟨start1.p0, start1.e0, start1.about1, start1.theMethod, start1.args0, start1.below0, start1.atStart⟩
end Jvm.Pilot.@@N@@
