import JvmDerived
import JvmDerived.Pilot.@@N@@Statement
import JvmDerived.Pilot.@@N@@Code
set_option linter.unusedVariables false
set_option linter.unusedSimpArgs false
@@BLOCK:NumsL.lean.txt@@
namespace Jvm.RoadKit
open Sem ClassFile Op Lib Jvm.Stand Jvm.Free Jvm.LawKit
section New
variable {p : Program} {l : Launch} {e : Env} {R : Room} {s : State} {m : MethodId} {args : Array Value} {below : List Frame} {meth : Method} {c : Code} {T : State} {locs : List Loc} {cells slots : Nat}
theorem retI (X : Stand p l e R s m args below meth c T locs cells slots) (hx : p.tables.exec = Jvm.exec) {pc : Nat} {Ls : Array Slot} {z : Int32} {rest : List Value} (hret : meth.sig.returnType = some .int) (hd : decode c.code pc = .ok (.ireturn, 1)) {fs : List Frame}
    (hl : ∀ (f : JFrame) (acts : List Action), f.method = m → f.locked = none → f.entered = [] → (doReturn e (T.setTop f) acts (some (.int z))).1 = T.setFrames fs) : Steps p.tables e below (T.setTop (mkF m pc Ls (.int z :: rest))) (T.setFrames fs) :=
  retOut X hx (w := .int z) (t := .int) (i := .ireturn) hret rfl (Or.inl ⟨rfl, Or.inl rfl, z, rfl⟩) hd hl
theorem retJ (X : Stand p l e R s m args below meth c T locs cells slots) (hx : p.tables.exec = Jvm.exec) {pc : Nat} {Ls : Array Slot} {z : Int64} {rest : List Value} (hret : meth.sig.returnType = some .long) (hd : decode c.code pc = .ok (.lreturn, 1)) {fs : List Frame}
    (hl : ∀ (f : JFrame) (acts : List Action), f.method = m → f.locked = none → f.entered = [] → (doReturn e (T.setTop f) acts (some (.long z))).1 = T.setFrames fs) : Steps p.tables e below (T.setTop (mkF m pc Ls (.long z :: rest))) (T.setFrames fs) :=
  retOut X hx (w := .long z) (t := .long) (i := .lreturn) hret rfl (Or.inr (Or.inl ⟨rfl, rfl, z, rfl⟩)) hd hl
theorem retA (X : Stand p l e R s m args below meth c T locs cells slots) (hx : p.tables.exec = Jvm.exec) {pc : Nat} {Ls : Array Slot} {w : Value} {t : FieldType} {rest : List Value} (hret : meth.sig.returnType = some t) (ht : t.isReference = true) (hw : w.isRef = true) (hn : narrow t w = w) (hd : decode c.code pc = .ok (.areturn, 1)) {fs : List Frame}
    (hl : ∀ (f : JFrame) (acts : List Action), f.method = m → f.locked = none → f.entered = [] → (doReturn e (T.setTop f) acts (some w)).1 = T.setFrames fs) : Steps p.tables e below (T.setTop (mkF m pc Ls (w :: rest))) (T.setFrames fs) :=
  retOut X hx (w := w) (t := t) (i := .areturn) hret hn (Or.inr (Or.inr (Or.inr (Or.inr ⟨rfl, ht, hw⟩)))) hd hl
end New
end Jvm.RoadKit
namespace Jvm.Pilot.@@N@@
open Jvm Jvm.ClassFile Sem Op Lib Jvm.Free Jvm.Stand Jvm.LawKit Jvm.RoadKit Bundle Jvm.Pilot.@@N@@.Jvm.D
/-- from S every run comes to T -/
abbrev Go (p : Program) (e : Env) (below : List Frame) (S T : State) : Prop := ∀ t, Steps p.tables e below T t → Steps p.tables e below S t

theorem own_ofNat {c : Int32} {n : Nat} (h : c.toInt = n) : c = Int32.ofNat n := by
  apply Int32.toInt_inj.mp
  have h2 := c.toInt_lt
  rw [Int32.toInt_ofNat', show Int32.size = 4294967296 from rfl, Int.bmod_eq_of_le (by omega) (by omega), h]
theorem own_char (x : Int32) : (x.toUInt32.toUInt16.toUInt32.toInt32).toInt = x.toInt % 65536 := by
  have h : (x.toUInt32.toUInt16.toUInt32.toInt32).toBitVec = (x.toBitVec.setWidth 16).setWidth 32 := rfl
  have h1 : (x.toUInt32.toUInt16.toUInt32.toInt32).toInt = ((x.toBitVec.setWidth 16).setWidth 32).toInt := by rw [← h]; rfl
  rw [h1, BitVec.toInt_eq_toNat_cond]
  have h3 : x.toInt = x.toBitVec.toInt := rfl
  rw [h3, BitVec.toInt_eq_toNat_cond]
  simp only [BitVec.toNat_setWidth]
  have := x.toBitVec.isLt
  split <;> split <;> omega


theorem own_m31 (x : Int32) : 0 ≤ (x &&& 2147483647).toInt := by
  have := Jvm.Kit.i32_mask x 2147483647 (k := 31) (by decide) (by decide); omega
theorem own_rem (x n : Int32) (hn : 0 < n.toInt) : 0 ≤ ((x &&& 2147483647) % n).toInt ∧ ((x &&& 2147483647) % n).toInt < n.toInt := by
  rw [Jvm.Kit.i32_rem_nonneg (own_m31 x)]
  exact ⟨Int.emod_nonneg _ (by omega), Int.emod_lt_of_pos _ hn⟩
theorem own_remeq (x y : Int32) : x - (x / y) * y = x % y := by
  apply Int32.toInt_inj.mp
  have a := (x % y).toInt_lt; have b := (x % y).le_toInt
  rw [Int32.toInt_mod] at a b ⊢
  rw [Int32.toInt_sub, Int32.toInt_mul, Int32.toInt_div, Int.bmod_mul_bmod, Int.sub_bmod_bmod, Int.mul_comm, ← Int.tmod_def]
  exact Jvm.Kit.bmod32 b a
theorem own_irem {tb : Tables} [Ours tb] {e : Env} {below : List Frame} {T target : State} {m : MethodId} {c : Code} {g : JFrame} (h : At T m c below) (hx : tb.exec = Jvm.exec) (hg : g.method = m) {x y : Int32} {rest : List Value} (hd : decode c.code g.pc = .ok (.irem, 1)) (hs : g.stack = .int y :: .int x :: rest) (hy : y ≠ 0)
    (hr : Steps tb e below (T.setTop { g with pc := g.pc + 1, stack := .int (x % y) :: rest }) target) : Steps tb e below (T.setTop g) target := XS.irem h hx hg hd hs hy (by rw [own_remeq]; exact hr)

theorem ef_1 (m : MethodId) (p0 : Int32) (p1 : Int32) (p2 : Int32) (p3 : Int32) : entryFrame m #[(.int p0), (.int p1), (.int p2), (.int p3)] 4 = mkF m 0 #[.val (.int p0), .val (.int p1), .val (.int p2), .val (.int p3)] [] := by first | (simp [entryFrame, mkF, argsToLocals, Value.category]; done) | rfl
theorem d1_0 : decode prog_19_method_2_code 0 = .ok (.iload_n 3, 1) := by decide +kernel
theorem d1_1 : decode prog_19_method_2_code 1 = .ok (.ifCond .eq 18, 3) := by decide +kernel
theorem d1_19 : decode prog_19_method_2_code 19 = .ok (.iload_n 0, 1) := by decide +kernel
theorem d1_20 : decode prog_19_method_2_code 20 = .ok (.ifCond .eq 10, 3) := by decide +kernel
theorem d1_30 : decode prog_19_method_2_code 30 = .ok (.iconst 1, 1) := by decide +kernel
theorem d1_31 : decode prog_19_method_2_code 31 = .ok (.goto 4, 3) := by decide +kernel
theorem d1_35 : decode prog_19_method_2_code 35 = .ok (.ireturn, 1) := by decide +kernel
theorem d1_23 : decode prog_19_method_2_code 23 = .ok (.iload_n 0, 1) := by decide +kernel
theorem d1_24 : decode prog_19_method_2_code 24 = .ok (.iload_n 1, 1) := by decide +kernel
theorem d1_25 : decode prog_19_method_2_code 25 = .ok (.iload_n 2, 1) := by decide +kernel
theorem d1_26 : decode prog_19_method_2_code 26 = .ok (.isub, 1) := by decide +kernel
theorem d1_27 : decode prog_19_method_2_code 27 = .ok (.if_icmp .le 7, 3) := by decide +kernel
theorem d1_34 : decode prog_19_method_2_code 34 = .ok (.iconst 0, 1) := by decide +kernel
theorem d1_4 : decode prog_19_method_2_code 4 = .ok (.iload_n 0, 1) := by decide +kernel
theorem d1_5 : decode prog_19_method_2_code 5 = .ok (.iload_n 1, 1) := by decide +kernel
theorem d1_6 : decode prog_19_method_2_code 6 = .ok (.iload_n 2, 1) := by decide +kernel
theorem d1_7 : decode prog_19_method_2_code 7 = .ok (.isub, 1) := by decide +kernel
theorem d1_8 : decode prog_19_method_2_code 8 = .ok (.if_icmp .lt 7, 3) := by decide +kernel
theorem d1_15 : decode prog_19_method_2_code 15 = .ok (.iconst 0, 1) := by decide +kernel
theorem d1_16 : decode prog_19_method_2_code 16 = .ok (.goto 19, 3) := by decide +kernel
theorem d1_11 : decode prog_19_method_2_code 11 = .ok (.iconst 1, 1) := by decide +kernel
theorem d1_12 : decode prog_19_method_2_code 12 = .ok (.goto 23, 3) := by decide +kernel
def f1 (p0 : Int32) (p1 : Int32) (p2 : Int32) (p3 : Int32) : Int32 := (if p3 = (0 : Int32) then (if p0 = (0 : Int32) then (1 : Int32) else (if (p1 - p2) < p0 then (1 : Int32) else (0 : Int32))) else (if p0 < (p1 - p2) then (0 : Int32) else (1 : Int32)))
def Q1 (Z : State) (p0 : Int32) (p1 : Int32) (p2 : Int32) (p3 : Int32) (h0 : Heap) (n0 : Nat) (v : Option Value) (h : Heap) (L : List Loc) : Prop := v = some (.int (f1 p0 p1 p2 p3)) ∧ Fr n0 L ∧ h = h0
set_option maxRecDepth 65536 in
set_option maxHeartbeats 40000000 in
theorem pn_lightbin_BroadcastFaults : plainName "lightbin/BroadcastFaults" = true := by first | (simp [plainName, overriddenIn]; done) | decide +kernel
theorem rm1 (l : Launch) (Z : State) (a0 : Array Value) (hw : ∀ d ∈ tables_1, d.before a0 Z = true) (ws : List Jvm.Cond) (p0 : Int32) (p1 : Int32) (p2 : Int32) (p3 : Int32) (h0 : Heap) (n0 : Nat) (Z0 : n0 ≤ h0.size) :
    MetFree l (⟨"lightbin/BroadcastFaults", "isFaulty", "(IIIZ)Z"⟩ : MethodName) (head1 (Jvm.Cond.code (⟨"lightbin/BroadcastFaults", "isFaulty", "(IIIZ)Z"⟩ : MethodName) prog_19_method_2_code 4 (some .boolean) :: ws) ({ frames := 0, cells := 0, slots := 0, locals := 0 } : Room)) (fun a U => a = #[(.int p0), (.int p1), (.int p2), (.int p3)] ∧ Z.Warmed39 U.vm ∧ U.heap = h0) (fun _ _ _ _ _ => True) (fun _ U o U' => ∃ v L, o = .returned v ∧ Q1 Z p0 p1 p2 p3 h0 n0 v U'.heap L ∧ FrameEnd U o U' L ({ frames := 0, cells := 0, slots := 0, locals := 0 } : Room).cells ({ frames := 0, cells := 0, slots := 0, locals := 0 } : Room).slots) := by
  refine MetFree.of_bodySF (plainFor_of_name pn_lightbin_BroadcastFaults) hisR ?_
  intro p e s m args below meth c s₁ Bd hml0 hP hK
  obtain ⟨rfl, hZ, hh⟩ := hP
  have hx := Bd.exec
  have hby := Bd.bytes
  have hml : c.maxLocals = 4 := hml0
  have hown : s.vm.findClass "lightbin/BroadcastFaults" = some m.cls := findClass_of_methodNamed Bd.named
  have hnm := (name_of_methodNamed Bd.named Bd.method).1
  have X0 : Stand p l e ({ frames := 0, cells := 0, slots := 0, locals := 0 } : Room) s m #[(.int p0), (.int p1), (.int p2), (.int p3)] below meth c s₁ [] 0 0 := Stand.of_body Bd
  have e0 : s₁.heap = h0 := by rw [← hh, Bd.state]; rfl
  have N0 := Fr.nil n0
  have pre0 : Go p e below (s₁.setTop (entryFrame m #[(.int p0), (.int p1), (.int p2), (.int p3)] 4)) (s₁.setTop (mkF m 0 #[.val (.int p0), .val (.int p1), .val (.int p2), .val (.int p3)] [])) := fun t k => castTop (ef_1 m p0 p1 p2 p3) k
  have pre1 : Go p e below (s₁.setTop (entryFrame m #[(.int p0), (.int p1), (.int p2), (.int p3)] 4)) (s₁.setTop (mkF m 1 #[.val (.int p0), .val (.int p1), .val (.int p2), .val (.int p3)] [(.int p3)])) := by
    intro t k
    refine pre0 t ?_
    show Steps p.tables e below (s₁.setTop (mkF m 0 #[.val (.int p0), .val (.int p1), .val (.int p2), .val (.int p3)] [])) _
    refine XS.iloadN X0.here hx rfl (hb hby d1_0) rfl ?_
    show Steps p.tables e below (s₁.setTop (mkF m 1 #[.val (.int p0), .val (.int p1), .val (.int p2), .val (.int p3)] [(.int p3)])) _
    exact k
  by_cases hc1_2 : p3 = (0 : Int32)
  · skip
    have pre3 : Go p e below (s₁.setTop (entryFrame m #[(.int p0), (.int p1), (.int p2), (.int p3)] 4)) (s₁.setTop (mkF m 20 #[.val (.int p0), .val (.int p1), .val (.int p2), .val (.int p3)] [(.int p0)])) := by
      intro t k
      refine pre1 t ?_
      show Steps p.tables e below (s₁.setTop (mkF m 1 #[.val (.int p0), .val (.int p1), .val (.int p2), .val (.int p3)] [(.int p3)])) _
      refine XS.ifYes X0.here hx rfl (pc0 := 1) (pc' := 19) rfl (hb hby d1_1) rfl (XT.i0_eq_t hc1_2) (by decide) (by decide) ?_
      show Steps p.tables e below (s₁.setTop (mkF m 19 #[.val (.int p0), .val (.int p1), .val (.int p2), .val (.int p3)] [])) _
      refine XS.iloadN X0.here hx rfl (hb hby d1_19) rfl ?_
      show Steps p.tables e below (s₁.setTop (mkF m 20 #[.val (.int p0), .val (.int p1), .val (.int p2), .val (.int p3)] [(.int p0)])) _
      exact k
    by_cases hc20_4 : p0 = (0 : Int32)
    · skip
      have pre5 : Go p e below (s₁.setTop (entryFrame m #[(.int p0), (.int p1), (.int p2), (.int p3)] 4)) (s₁.setTop (mkF m 35 #[.val (.int p0), .val (.int p1), .val (.int p2), .val (.int p3)] [(.int (1 : Int32))])) := by
        intro t k
        refine pre3 t ?_
        show Steps p.tables e below (s₁.setTop (mkF m 20 #[.val (.int p0), .val (.int p1), .val (.int p2), .val (.int p3)] [(.int p0)])) _
        refine XS.ifYes X0.here hx rfl (pc0 := 20) (pc' := 30) rfl (hb hby d1_20) rfl (XT.i0_eq_t hc20_4) (by decide) (by decide) ?_
        show Steps p.tables e below (s₁.setTop (mkF m 30 #[.val (.int p0), .val (.int p1), .val (.int p2), .val (.int p3)] [])) _
        refine XS.iconst X0.here hx rfl (hb hby d1_30) ?_
        show Steps p.tables e below (s₁.setTop (mkF m 31 #[.val (.int p0), .val (.int p1), .val (.int p2), .val (.int p3)] [(.int (1 : Int32))])) _
        refine XS.goto X0.here hx rfl (pc0 := 31) (pc' := 35) rfl (hb hby d1_31) (by decide) (by decide) ?_
        show Steps p.tables e below (s₁.setTop (mkF m 35 #[.val (.int p0), .val (.int p1), .val (.int p2), .val (.int p3)] [(.int (1 : Int32))])) _
        exact k
      obtain ⟨fs, hr, hrun, hended, hW, hsame⟩ := X0.leave (v := some (.int (1 : Int32))) (fun h => by rw [Bd.returns] at h; cases h)
      refine ⟨_, _, pre5 _ (retN X0 hx (t := .boolean) Bd.returns (by simp) (hb hby d1_35) hr), hrun, hended, _, _, rfl, ?_, ⟨_, rfl⟩, hW, hsame.mono (by decide) (by decide)⟩
      show Q1 Z p0 p1 p2 p3 h0 n0 _ s₁.heap _
      rw [e0]
      exact ⟨congrArg some (congrArg Value.int (show (1 : Int32) = f1 p0 p1 p2 p3 from by rw [f1, if_pos hc1_2, if_pos hc20_4])), N0, rfl⟩
    · skip
      have pre6 : Go p e below (s₁.setTop (entryFrame m #[(.int p0), (.int p1), (.int p2), (.int p3)] 4)) (s₁.setTop (mkF m 27 #[.val (.int p0), .val (.int p1), .val (.int p2), .val (.int p3)] [(.int (p1 - p2)), (.int p0)])) := by
        intro t k
        refine pre3 t ?_
        show Steps p.tables e below (s₁.setTop (mkF m 20 #[.val (.int p0), .val (.int p1), .val (.int p2), .val (.int p3)] [(.int p0)])) _
        refine XS.ifNo X0.here hx rfl (hb hby d1_20) rfl (XT.i0_eq_f hc20_4) ?_
        show Steps p.tables e below (s₁.setTop (mkF m 23 #[.val (.int p0), .val (.int p1), .val (.int p2), .val (.int p3)] [])) _
        refine XS.iloadN X0.here hx rfl (hb hby d1_23) rfl ?_
        show Steps p.tables e below (s₁.setTop (mkF m 24 #[.val (.int p0), .val (.int p1), .val (.int p2), .val (.int p3)] [(.int p0)])) _
        refine XS.iloadN X0.here hx rfl (hb hby d1_24) rfl ?_
        show Steps p.tables e below (s₁.setTop (mkF m 25 #[.val (.int p0), .val (.int p1), .val (.int p2), .val (.int p3)] [(.int p1), (.int p0)])) _
        refine XS.iloadN X0.here hx rfl (hb hby d1_25) rfl ?_
        show Steps p.tables e below (s₁.setTop (mkF m 26 #[.val (.int p0), .val (.int p1), .val (.int p2), .val (.int p3)] [(.int p2), (.int p1), (.int p0)])) _
        refine XS.isub X0.here hx rfl (hb hby d1_26) rfl ?_
        show Steps p.tables e below (s₁.setTop (mkF m 27 #[.val (.int p0), .val (.int p1), .val (.int p2), .val (.int p3)] [(.int (p1 - p2)), (.int p0)])) _
        exact k
      by_cases hc27_7 : (p1 - p2) < p0
      · skip
        have pre8 : Go p e below (s₁.setTop (entryFrame m #[(.int p0), (.int p1), (.int p2), (.int p3)] 4)) (s₁.setTop (mkF m 35 #[.val (.int p0), .val (.int p1), .val (.int p2), .val (.int p3)] [(.int (1 : Int32))])) := by
          intro t k
          refine pre6 t ?_
          show Steps p.tables e below (s₁.setTop (mkF m 27 #[.val (.int p0), .val (.int p1), .val (.int p2), .val (.int p3)] [(.int (p1 - p2)), (.int p0)])) _
          refine XS.icmpNo X0.here hx rfl (hb hby d1_27) rfl (XT.ii_le_f hc27_7) ?_
          show Steps p.tables e below (s₁.setTop (mkF m 30 #[.val (.int p0), .val (.int p1), .val (.int p2), .val (.int p3)] [])) _
          refine XS.iconst X0.here hx rfl (hb hby d1_30) ?_
          show Steps p.tables e below (s₁.setTop (mkF m 31 #[.val (.int p0), .val (.int p1), .val (.int p2), .val (.int p3)] [(.int (1 : Int32))])) _
          refine XS.goto X0.here hx rfl (pc0 := 31) (pc' := 35) rfl (hb hby d1_31) (by decide) (by decide) ?_
          show Steps p.tables e below (s₁.setTop (mkF m 35 #[.val (.int p0), .val (.int p1), .val (.int p2), .val (.int p3)] [(.int (1 : Int32))])) _
          exact k
        obtain ⟨fs, hr, hrun, hended, hW, hsame⟩ := X0.leave (v := some (.int (1 : Int32))) (fun h => by rw [Bd.returns] at h; cases h)
        refine ⟨_, _, pre8 _ (retN X0 hx (t := .boolean) Bd.returns (by simp) (hb hby d1_35) hr), hrun, hended, _, _, rfl, ?_, ⟨_, rfl⟩, hW, hsame.mono (by decide) (by decide)⟩
        show Q1 Z p0 p1 p2 p3 h0 n0 _ s₁.heap _
        rw [e0]
        exact ⟨congrArg some (congrArg Value.int (show (1 : Int32) = f1 p0 p1 p2 p3 from by rw [f1, if_pos hc1_2, if_neg hc20_4, if_pos hc27_7])), N0, rfl⟩
      · skip
        have pre9 : Go p e below (s₁.setTop (entryFrame m #[(.int p0), (.int p1), (.int p2), (.int p3)] 4)) (s₁.setTop (mkF m 35 #[.val (.int p0), .val (.int p1), .val (.int p2), .val (.int p3)] [(.int (0 : Int32))])) := by
          intro t k
          refine pre6 t ?_
          show Steps p.tables e below (s₁.setTop (mkF m 27 #[.val (.int p0), .val (.int p1), .val (.int p2), .val (.int p3)] [(.int (p1 - p2)), (.int p0)])) _
          refine XS.icmpYes X0.here hx rfl (pc0 := 27) (pc' := 34) rfl (hb hby d1_27) rfl (XT.ii_le_t hc27_7) (by decide) (by decide) ?_
          show Steps p.tables e below (s₁.setTop (mkF m 34 #[.val (.int p0), .val (.int p1), .val (.int p2), .val (.int p3)] [])) _
          refine XS.iconst X0.here hx rfl (hb hby d1_34) ?_
          show Steps p.tables e below (s₁.setTop (mkF m 35 #[.val (.int p0), .val (.int p1), .val (.int p2), .val (.int p3)] [(.int (0 : Int32))])) _
          exact k
        obtain ⟨fs, hr, hrun, hended, hW, hsame⟩ := X0.leave (v := some (.int (0 : Int32))) (fun h => by rw [Bd.returns] at h; cases h)
        refine ⟨_, _, pre9 _ (retN X0 hx (t := .boolean) Bd.returns (by simp) (hb hby d1_35) hr), hrun, hended, _, _, rfl, ?_, ⟨_, rfl⟩, hW, hsame.mono (by decide) (by decide)⟩
        show Q1 Z p0 p1 p2 p3 h0 n0 _ s₁.heap _
        rw [e0]
        exact ⟨congrArg some (congrArg Value.int (show (0 : Int32) = f1 p0 p1 p2 p3 from by rw [f1, if_pos hc1_2, if_neg hc20_4, if_neg hc27_7])), N0, rfl⟩
  · skip
    have pre10 : Go p e below (s₁.setTop (entryFrame m #[(.int p0), (.int p1), (.int p2), (.int p3)] 4)) (s₁.setTop (mkF m 8 #[.val (.int p0), .val (.int p1), .val (.int p2), .val (.int p3)] [(.int (p1 - p2)), (.int p0)])) := by
      intro t k
      refine pre1 t ?_
      show Steps p.tables e below (s₁.setTop (mkF m 1 #[.val (.int p0), .val (.int p1), .val (.int p2), .val (.int p3)] [(.int p3)])) _
      refine XS.ifNo X0.here hx rfl (hb hby d1_1) rfl (XT.i0_eq_f hc1_2) ?_
      show Steps p.tables e below (s₁.setTop (mkF m 4 #[.val (.int p0), .val (.int p1), .val (.int p2), .val (.int p3)] [])) _
      refine XS.iloadN X0.here hx rfl (hb hby d1_4) rfl ?_
      show Steps p.tables e below (s₁.setTop (mkF m 5 #[.val (.int p0), .val (.int p1), .val (.int p2), .val (.int p3)] [(.int p0)])) _
      refine XS.iloadN X0.here hx rfl (hb hby d1_5) rfl ?_
      show Steps p.tables e below (s₁.setTop (mkF m 6 #[.val (.int p0), .val (.int p1), .val (.int p2), .val (.int p3)] [(.int p1), (.int p0)])) _
      refine XS.iloadN X0.here hx rfl (hb hby d1_6) rfl ?_
      show Steps p.tables e below (s₁.setTop (mkF m 7 #[.val (.int p0), .val (.int p1), .val (.int p2), .val (.int p3)] [(.int p2), (.int p1), (.int p0)])) _
      refine XS.isub X0.here hx rfl (hb hby d1_7) rfl ?_
      show Steps p.tables e below (s₁.setTop (mkF m 8 #[.val (.int p0), .val (.int p1), .val (.int p2), .val (.int p3)] [(.int (p1 - p2)), (.int p0)])) _
      exact k
    by_cases hc8_11 : p0 < (p1 - p2)
    · skip
      have pre12 : Go p e below (s₁.setTop (entryFrame m #[(.int p0), (.int p1), (.int p2), (.int p3)] 4)) (s₁.setTop (mkF m 35 #[.val (.int p0), .val (.int p1), .val (.int p2), .val (.int p3)] [(.int (0 : Int32))])) := by
        intro t k
        refine pre10 t ?_
        show Steps p.tables e below (s₁.setTop (mkF m 8 #[.val (.int p0), .val (.int p1), .val (.int p2), .val (.int p3)] [(.int (p1 - p2)), (.int p0)])) _
        refine XS.icmpYes X0.here hx rfl (pc0 := 8) (pc' := 15) rfl (hb hby d1_8) rfl (XT.ii_lt_t hc8_11) (by decide) (by decide) ?_
        show Steps p.tables e below (s₁.setTop (mkF m 15 #[.val (.int p0), .val (.int p1), .val (.int p2), .val (.int p3)] [])) _
        refine XS.iconst X0.here hx rfl (hb hby d1_15) ?_
        show Steps p.tables e below (s₁.setTop (mkF m 16 #[.val (.int p0), .val (.int p1), .val (.int p2), .val (.int p3)] [(.int (0 : Int32))])) _
        refine XS.goto X0.here hx rfl (pc0 := 16) (pc' := 35) rfl (hb hby d1_16) (by decide) (by decide) ?_
        show Steps p.tables e below (s₁.setTop (mkF m 35 #[.val (.int p0), .val (.int p1), .val (.int p2), .val (.int p3)] [(.int (0 : Int32))])) _
        exact k
      obtain ⟨fs, hr, hrun, hended, hW, hsame⟩ := X0.leave (v := some (.int (0 : Int32))) (fun h => by rw [Bd.returns] at h; cases h)
      refine ⟨_, _, pre12 _ (retN X0 hx (t := .boolean) Bd.returns (by simp) (hb hby d1_35) hr), hrun, hended, _, _, rfl, ?_, ⟨_, rfl⟩, hW, hsame.mono (by decide) (by decide)⟩
      show Q1 Z p0 p1 p2 p3 h0 n0 _ s₁.heap _
      rw [e0]
      exact ⟨congrArg some (congrArg Value.int (show (0 : Int32) = f1 p0 p1 p2 p3 from by rw [f1, if_neg hc1_2, if_pos hc8_11])), N0, rfl⟩
    · skip
      have pre13 : Go p e below (s₁.setTop (entryFrame m #[(.int p0), (.int p1), (.int p2), (.int p3)] 4)) (s₁.setTop (mkF m 35 #[.val (.int p0), .val (.int p1), .val (.int p2), .val (.int p3)] [(.int (1 : Int32))])) := by
        intro t k
        refine pre10 t ?_
        show Steps p.tables e below (s₁.setTop (mkF m 8 #[.val (.int p0), .val (.int p1), .val (.int p2), .val (.int p3)] [(.int (p1 - p2)), (.int p0)])) _
        refine XS.icmpNo X0.here hx rfl (hb hby d1_8) rfl (XT.ii_lt_f hc8_11) ?_
        show Steps p.tables e below (s₁.setTop (mkF m 11 #[.val (.int p0), .val (.int p1), .val (.int p2), .val (.int p3)] [])) _
        refine XS.iconst X0.here hx rfl (hb hby d1_11) ?_
        show Steps p.tables e below (s₁.setTop (mkF m 12 #[.val (.int p0), .val (.int p1), .val (.int p2), .val (.int p3)] [(.int (1 : Int32))])) _
        refine XS.goto X0.here hx rfl (pc0 := 12) (pc' := 35) rfl (hb hby d1_12) (by decide) (by decide) ?_
        show Steps p.tables e below (s₁.setTop (mkF m 35 #[.val (.int p0), .val (.int p1), .val (.int p2), .val (.int p3)] [(.int (1 : Int32))])) _
        exact k
      obtain ⟨fs, hr, hrun, hended, hW, hsame⟩ := X0.leave (v := some (.int (1 : Int32))) (fun h => by rw [Bd.returns] at h; cases h)
      refine ⟨_, _, pre13 _ (retN X0 hx (t := .boolean) Bd.returns (by simp) (hb hby d1_35) hr), hrun, hended, _, _, rfl, ?_, ⟨_, rfl⟩, hW, hsame.mono (by decide) (by decide)⟩
      show Q1 Z p0 p1 p2 p3 h0 n0 _ s₁.heap _
      rw [e0]
      exact ⟨congrArg some (congrArg Value.int (show (1 : Int32) = f1 p0 p1 p2 p3 from by rw [f1, if_neg hc1_2, if_neg hc8_11])), N0, rfl⟩
theorem own_nodes {x nm nodes : Int32} (hm : nm = x &&& (2147483647 : Int32)) (h : nodes = if nm = (0 : Int32) then (1 : Int32) else nm) : 1 ≤ nodes.toInt := by
  have h0 := own_m31 x; rw [← hm] at h0
  rw [h]; split
  · decide
  · rename_i q
    have : nm.toInt ≠ 0 := fun e => q (Int32.toInt_inj.mp (by rw [e]; rfl))
    omega
theorem own_nz {n : Int32} (h : 1 ≤ n.toInt) : n ≠ 0 := fun e => by rw [e] at h; exact absurd h (by decide)
theorem own_nzL {n : Int32} (h : 1 ≤ n.toInt) : n.toInt64 + (1 : Int64) ≠ 0 := fun e => by
  have e1 := Int32.toInt_toInt64 n
  have h2 := n.toInt_lt
  have c1 : (1 : Int64).toInt = 1 := rfl
  have e2 : (n.toInt64 + (1 : Int64)).toInt = n.toInt + 1 := by rw [Jvm.Kit.i64_add (by omega) (by omega), e1, c1]
  rw [e] at e2
  have c0 : (0 : Int64).toInt = 0 := rfl
  omega
theorem own_faH {f n : Int32} (h : 1 ≤ n.toInt) : 0 ≤ (((f.toInt64 &&& (2147483647 : Int64)) - ((f.toInt64 &&& (2147483647 : Int64)) / (n.toInt64 + (1 : Int64))) * (n.toInt64 + (1 : Int64))).toInt32).toInt ∧ (((f.toInt64 &&& (2147483647 : Int64)) - ((f.toInt64 &&& (2147483647 : Int64)) / (n.toInt64 + (1 : Int64))) * (n.toInt64 + (1 : Int64))).toInt32).toInt ≤ n.toInt := by
  have e1 := Int32.toInt_toInt64 n
  have h2 := n.toInt_lt
  have c1 : (1 : Int64).toInt = 1 := rfl
  have e2 : (n.toInt64 + (1 : Int64)).toInt = n.toInt + 1 := by rw [Jvm.Kit.i64_add (by omega) (by omega), e1, c1]
  have e3 := Jvm.Kit.i64_mask f.toInt64 2147483647 (k := 31) (by decide) (by decide)
  have e4 := Jvm.Kit.i64_rem_nonneg (x := f.toInt64 &&& (2147483647 : Int64)) (y := n.toInt64 + (1 : Int64)) (by omega)
  rw [e2] at e4
  have h3 := Int.emod_nonneg (f.toInt64 &&& (2147483647 : Int64)).toInt (b := n.toInt + 1) (by omega)
  have h4 := Int.emod_lt_of_pos (f.toInt64 &&& (2147483647 : Int64)).toInt (b := n.toInt + 1) (by omega)
  rw [← e4] at h3 h4
  rw [Jvm.Kit.i32_of_i64 (by omega) (by omega)]
  omega
theorem own_faN {f n : Int32} (h : 1 ≤ n.toInt) : 1 ≤ ((1 : Int32) + ((f &&& (2147483647 : Int32)) % n)).toInt ∧ ((1 : Int32) + ((f &&& (2147483647 : Int32)) % n)).toInt ≤ n.toInt := by
  have h1 := own_rem f n (by omega)
  have h2 := n.toInt_lt
  have c1 : (1 : Int32).toInt = 1 := rfl
  rw [Jvm.Kit.i32_add (by omega) (by omega)]; omega
theorem own_law {hon nodes f i fa id ft ex : Int32} (hn : 1 ≤ nodes.toInt)
    (hfa : fa = if hon = (0 : Int32) then ((1 : Int32) + ((f &&& (2147483647 : Int32)) % nodes)) else (((f.toInt64 &&& (2147483647 : Int64)) - ((f.toInt64 &&& (2147483647 : Int64)) / (nodes.toInt64 + (1 : Int64))) * (nodes.toInt64 + (1 : Int64))).toInt32))
    (hid : id = (i &&& (2147483647 : Int32)) % nodes) (hft : ft = (nodes - (1 : Int32)) - id)
    (hex : ex = if hon = (0 : Int32) then (if id = (0 : Int32) then (1 : Int32) else (if ft < (fa - (1 : Int32)) then (1 : Int32) else (0 : Int32))) else (if ft < fa then (1 : Int32) else (0 : Int32))) :
    f1 id nodes fa hon = ex := by
  have h1 := own_rem i nodes (by omega); rw [← hid] at h1
  have h2 := nodes.toInt_lt
  have c1 : (1 : Int32).toInt = 1 := rfl
  have e1 : (nodes - (1 : Int32)).toInt = nodes.toInt - 1 := by rw [Jvm.Kit.i32_sub (by omega) (by omega), c1]
  have e2 : ft.toInt = nodes.toInt - 1 - id.toInt := by rw [hft, Jvm.Kit.i32_sub (by omega) (by omega), e1]
  rw [hex]; unfold f1
  by_cases hh : hon = 0
  · rw [if_pos hh] at hfa; rw [if_pos hh, if_pos hh]
    have h3 := own_faN (f := f) hn; rw [← hfa] at h3
    have e3 : (fa - (1 : Int32)).toInt = fa.toInt - 1 := by rw [Jvm.Kit.i32_sub (by omega) (by omega), c1]
    have e4 : (nodes - fa).toInt = nodes.toInt - fa.toInt := by rw [Jvm.Kit.i32_sub (by omega) (by omega)]
    simp only [Int32.lt_iff_toInt_lt, e2, e3, e4]
    repeat' split
    all_goals first | rfl | omega
  · rw [if_neg hh] at hfa; rw [if_neg hh, if_neg hh]
    have h3 := own_faH (f := f) hn; rw [← hfa] at h3
    have e4 : (nodes - fa).toInt = nodes.toInt - fa.toInt := by rw [Jvm.Kit.i32_sub (by omega) (by omega)]
    simp only [Int32.lt_iff_toInt_lt, e2, e4]
    repeat' split
    all_goals first | rfl | omega
theorem ef_0 (m : MethodId) (x0 : Int32) (x1 : Int32) (x2 : Int32) (x3 : Int32) : entryFrame m #[(.int x0), (.int x1), (.int x2), (.int x3)] maxLocals = mkF m 0 #[.val (.int x0), .val (.int x1), .val (.int x2), .val (.int x3), .unset, .unset, .unset, .unset, .unset, .unset] [] := by first | (simp [entryFrame, mkF, argsToLocals, Value.category, maxLocals]; done) | rfl
theorem pd_1 : parseMethodDescriptor "(IIIZ)Z" = some ⟨[.int, .int, .int, .boolean], some .boolean⟩ := by decide +kernel
def Q0 (Z : State) (x0 : Int32) (x1 : Int32) (x2 : Int32) (x3 : Int32) (h0 : Heap) (n0 : Nat) (v : Option Value) (h : Heap) (L : List Loc) : Prop := v = some (.int 1) ∧ Fr n0 L
theorem pn_lightbin_BroadcastFaultsIsFaultyPinLaw : plainName "lightbin/BroadcastFaultsIsFaultyPinLaw" = true := by first | (simp [plainName, overriddenIn]; done) | decide +kernel
set_option maxRecDepth 65536 in
set_option maxHeartbeats 40000000 in
theorem rm0 (l : Launch) (Z : State) (a0 : Array Value) (hw : ∀ d ∈ tables_1, d.before a0 Z = true) (ws : List Jvm.Cond) (x0 : Int32) (x1 : Int32) (x2 : Int32) (x3 : Int32) (h0 : Heap) (n0 : Nat) (Z0 : n0 ≤ h0.size) :
    MetFree l x (head1 (Jvm.Cond.code x code maxLocals ret :: ws) room_1) (fun a U => a = #[(.int x0), (.int x1), (.int x2), (.int x3)] ∧ Z.Warmed39 U.vm ∧ U.heap = h0) (fun _ _ _ _ _ => True) (fun _ U o U' => ∃ v L, o = .returned v ∧ Q0 Z x0 x1 x2 x3 h0 n0 v U'.heap L ∧ FrameEnd U o U' L 0 0) := by
  refine MetFree.of_bodySF (plainFor_of_name pn_lightbin_BroadcastFaultsIsFaultyPinLaw) hisR ?_
  intro p e s m args below meth c s₁ Bd hml0 hP hK
  obtain ⟨rfl, hZ, hh⟩ := hP
  have hx := Bd.exec
  have hby := Bd.bytes
  have hml : c.maxLocals = 10 := hml0
  have hown : s.vm.findClass "lightbin/BroadcastFaultsIsFaultyPinLaw" = some m.cls := findClass_of_methodNamed Bd.named
  have hnm := (name_of_methodNamed Bd.named Bd.method).1
  have X0 : Stand p l e room_1 s m #[(.int x0), (.int x1), (.int x2), (.int x3)] below meth c s₁ [] 0 0 := Stand.of_body Bd
  have e0 : s₁.heap = h0 := by rw [← hh, Bd.state]; rfl
  have N0 := Fr.nil n0
  have pre0 : Go p e below (s₁.setTop (entryFrame m #[(.int x0), (.int x1), (.int x2), (.int x3)] maxLocals)) (s₁.setTop (mkF m 0 #[.val (.int x0), .val (.int x1), .val (.int x2), .val (.int x3), .unset, .unset, .unset, .unset, .unset, .unset] [])) := fun t k => castTop (ef_0 m x0 x1 x2 x3) k
  have pre1 : Go p e below (s₁.setTop (entryFrame m #[(.int x0), (.int x1), (.int x2), (.int x3)] maxLocals)) (s₁.setTop (mkF m 3 #[.val (.int x0), .val (.int x1), .val (.int x2), .val (.int x3), .unset, .unset, .unset, .unset, .unset, .unset] [(.int (x3 &&& (1 : Int32)))])) := by
    intro t k
    refine pre0 t ?_
    show Steps p.tables e below (s₁.setTop (mkF m 0 #[.val (.int x0), .val (.int x1), .val (.int x2), .val (.int x3), .unset, .unset, .unset, .unset, .unset, .unset] [])) _
    refine XS.iloadN X0.here hx rfl (hb hby at_0) rfl ?_
    show Steps p.tables e below (s₁.setTop (mkF m 1 #[.val (.int x0), .val (.int x1), .val (.int x2), .val (.int x3), .unset, .unset, .unset, .unset, .unset, .unset] [(.int x3)])) _
    refine XS.iconst X0.here hx rfl (hb hby at_1) ?_
    show Steps p.tables e below (s₁.setTop (mkF m 2 #[.val (.int x0), .val (.int x1), .val (.int x2), .val (.int x3), .unset, .unset, .unset, .unset, .unset, .unset] [(.int (1 : Int32)), (.int x3)])) _
    refine XS.iand X0.here hx rfl (hb hby at_2) rfl ?_
    show Steps p.tables e below (s₁.setTop (mkF m 3 #[.val (.int x0), .val (.int x1), .val (.int x2), .val (.int x3), .unset, .unset, .unset, .unset, .unset, .unset] [(.int (x3 &&& (1 : Int32)))])) _
    exact k
  obtain ⟨hon, h_hon⟩ : ∃ z : Int32, z = (if (x3 &&& (1 : Int32)) = (0 : Int32) then (0 : Int32) else (1 : Int32)) := ⟨_, rfl⟩
  have pre3 : Go p e below (s₁.setTop (entryFrame m #[(.int x0), (.int x1), (.int x2), (.int x3)] maxLocals)) (s₁.setTop (mkF m 11 #[.val (.int x0), .val (.int x1), .val (.int x2), .val (.int x3), .unset, .unset, .unset, .unset, .unset, .unset] [(.int hon)])) := by
    intro t k
    refine pre1 t ?_
    show Steps p.tables e below (s₁.setTop (mkF m 3 #[.val (.int x0), .val (.int x1), .val (.int x2), .val (.int x3), .unset, .unset, .unset, .unset, .unset, .unset] [(.int (x3 &&& (1 : Int32)))])) _
    by_cases hc3_2 : (x3 &&& (1 : Int32)) = (0 : Int32)
    · skip
      refine XS.ifYes X0.here hx rfl (pc0 := 3) (pc' := 10) rfl (hb hby at_3) rfl (XT.i0_eq_t hc3_2) (by decide) (by decide) ?_
      show Steps p.tables e below (s₁.setTop (mkF m 10 #[.val (.int x0), .val (.int x1), .val (.int x2), .val (.int x3), .unset, .unset, .unset, .unset, .unset, .unset] [])) _
      refine XS.iconst X0.here hx rfl (hb hby at_10) ?_
      show Steps p.tables e below (s₁.setTop (mkF m 11 #[.val (.int x0), .val (.int x1), .val (.int x2), .val (.int x3), .unset, .unset, .unset, .unset, .unset, .unset] [(.int (0 : Int32))])) _
      rw [show hon = (0 : Int32) from by rw [h_hon]; rw [if_pos hc3_2]] at k
      exact k
    · skip
      refine XS.ifNo X0.here hx rfl (hb hby at_3) rfl (XT.i0_eq_f hc3_2) ?_
      show Steps p.tables e below (s₁.setTop (mkF m 6 #[.val (.int x0), .val (.int x1), .val (.int x2), .val (.int x3), .unset, .unset, .unset, .unset, .unset, .unset] [])) _
      refine XS.iconst X0.here hx rfl (hb hby at_6) ?_
      show Steps p.tables e below (s₁.setTop (mkF m 7 #[.val (.int x0), .val (.int x1), .val (.int x2), .val (.int x3), .unset, .unset, .unset, .unset, .unset, .unset] [(.int (1 : Int32))])) _
      refine XS.goto X0.here hx rfl (pc0 := 7) (pc' := 11) rfl (hb hby at_7) (by decide) (by decide) ?_
      show Steps p.tables e below (s₁.setTop (mkF m 11 #[.val (.int x0), .val (.int x1), .val (.int x2), .val (.int x3), .unset, .unset, .unset, .unset, .unset, .unset] [(.int (1 : Int32))])) _
      rw [show hon = (1 : Int32) from by rw [h_hon]; rw [if_neg hc3_2]] at k
      exact k
  have pre4 : Go p e below (s₁.setTop (entryFrame m #[(.int x0), (.int x1), (.int x2), (.int x3)] maxLocals)) (s₁.setTop (mkF m 17 #[.val (.int x0), .val (.int x1), .val (.int x2), .val (.int x3), .val (.int hon), .unset, .unset, .unset, .unset, .unset] [(.int (x1 &&& (2147483647 : Int32)))])) := by
    intro t k
    refine pre3 t ?_
    show Steps p.tables e below (s₁.setTop (mkF m 11 #[.val (.int x0), .val (.int x1), .val (.int x2), .val (.int x3), .unset, .unset, .unset, .unset, .unset, .unset] [(.int hon)])) _
    refine XS.istore X0.here hx rfl (hb hby at_11) rfl (l' := #[.val (.int x0), .val (.int x1), .val (.int x2), .val (.int x3), .val (.int hon), .unset, .unset, .unset, .unset, .unset]) rfl ?_
    show Steps p.tables e below (s₁.setTop (mkF m 13 #[.val (.int x0), .val (.int x1), .val (.int x2), .val (.int x3), .val (.int hon), .unset, .unset, .unset, .unset, .unset] [])) _
    refine XS.iloadN X0.here hx rfl (hb hby at_13) rfl ?_
    show Steps p.tables e below (s₁.setTop (mkF m 14 #[.val (.int x0), .val (.int x1), .val (.int x2), .val (.int x3), .val (.int hon), .unset, .unset, .unset, .unset, .unset] [(.int x1)])) _
    refine X0.ldcI hx hown (mvT hZ (hw _ (List.mem_of_getElem? (i := 0) rfl))) (g := (mkF m 14 #[.val (.int x0), .val (.int x1), .val (.int x2), .val (.int x3), .val (.int hon), .unset, .unset, .unset, .unset, .unset] [(.int x1)])) rfl (hb hby at_14) ?_
    show Steps p.tables e below (s₁.setTop (mkF m 16 #[.val (.int x0), .val (.int x1), .val (.int x2), .val (.int x3), .val (.int hon), .unset, .unset, .unset, .unset, .unset] [(.int (2147483647 : Int32)), (.int x1)])) _
    refine XS.iand X0.here hx rfl (hb hby at_16) rfl ?_
    show Steps p.tables e below (s₁.setTop (mkF m 17 #[.val (.int x0), .val (.int x1), .val (.int x2), .val (.int x3), .val (.int hon), .unset, .unset, .unset, .unset, .unset] [(.int (x1 &&& (2147483647 : Int32)))])) _
    exact k
  obtain ⟨nm, h_nm⟩ : ∃ z : Int32, z = (x1 &&& (2147483647 : Int32)) := ⟨_, rfl⟩
  have pre5 : Go p e below (s₁.setTop (entryFrame m #[(.int x0), (.int x1), (.int x2), (.int x3)] maxLocals)) (s₁.setTop (mkF m 17 #[.val (.int x0), .val (.int x1), .val (.int x2), .val (.int x3), .val (.int hon), .unset, .unset, .unset, .unset, .unset] [(.int nm)])) := by rw [h_nm]; exact pre4
  have pre6 : Go p e below (s₁.setTop (entryFrame m #[(.int x0), (.int x1), (.int x2), (.int x3)] maxLocals)) (s₁.setTop (mkF m 21 #[.val (.int x0), .val (.int x1), .val (.int x2), .val (.int x3), .val (.int hon), .val (.int nm), .unset, .unset, .unset, .unset] [(.int nm)])) := by
    intro t k
    refine pre5 t ?_
    show Steps p.tables e below (s₁.setTop (mkF m 17 #[.val (.int x0), .val (.int x1), .val (.int x2), .val (.int x3), .val (.int hon), .unset, .unset, .unset, .unset, .unset] [(.int nm)])) _
    refine XS.istore X0.here hx rfl (hb hby at_17) rfl (l' := #[.val (.int x0), .val (.int x1), .val (.int x2), .val (.int x3), .val (.int hon), .val (.int nm), .unset, .unset, .unset, .unset]) rfl ?_
    show Steps p.tables e below (s₁.setTop (mkF m 19 #[.val (.int x0), .val (.int x1), .val (.int x2), .val (.int x3), .val (.int hon), .val (.int nm), .unset, .unset, .unset, .unset] [])) _
    refine XS.iload X0.here hx rfl (hb hby at_19) rfl ?_
    show Steps p.tables e below (s₁.setTop (mkF m 21 #[.val (.int x0), .val (.int x1), .val (.int x2), .val (.int x3), .val (.int hon), .val (.int nm), .unset, .unset, .unset, .unset] [(.int nm)])) _
    exact k
  obtain ⟨nodes, h_nodes⟩ : ∃ z : Int32, z = (if nm = (0 : Int32) then (1 : Int32) else nm) := ⟨_, rfl⟩
  have pre8 : Go p e below (s₁.setTop (entryFrame m #[(.int x0), (.int x1), (.int x2), (.int x3)] maxLocals)) (s₁.setTop (mkF m 27 #[.val (.int x0), .val (.int x1), .val (.int x2), .val (.int x3), .val (.int hon), .val (.int nodes), .unset, .unset, .unset, .unset] [])) := by
    intro t k
    refine pre6 t ?_
    show Steps p.tables e below (s₁.setTop (mkF m 21 #[.val (.int x0), .val (.int x1), .val (.int x2), .val (.int x3), .val (.int hon), .val (.int nm), .unset, .unset, .unset, .unset] [(.int nm)])) _
    by_cases hc21_7 : nm = (0 : Int32)
    · skip
      refine XS.ifNo X0.here hx rfl (hb hby at_21) rfl (XT.i0_ne_f hc21_7) ?_
      show Steps p.tables e below (s₁.setTop (mkF m 24 #[.val (.int x0), .val (.int x1), .val (.int x2), .val (.int x3), .val (.int hon), .val (.int nm), .unset, .unset, .unset, .unset] [])) _
      refine XS.iconst X0.here hx rfl (hb hby at_24) ?_
      show Steps p.tables e below (s₁.setTop (mkF m 25 #[.val (.int x0), .val (.int x1), .val (.int x2), .val (.int x3), .val (.int hon), .val (.int nm), .unset, .unset, .unset, .unset] [(.int (1 : Int32))])) _
      refine XS.istore X0.here hx rfl (hb hby at_25) rfl (l' := #[.val (.int x0), .val (.int x1), .val (.int x2), .val (.int x3), .val (.int hon), .val (.int (1 : Int32)), .unset, .unset, .unset, .unset]) rfl ?_
      show Steps p.tables e below (s₁.setTop (mkF m 27 #[.val (.int x0), .val (.int x1), .val (.int x2), .val (.int x3), .val (.int hon), .val (.int (1 : Int32)), .unset, .unset, .unset, .unset] [])) _
      rw [show nodes = (1 : Int32) from by rw [h_nodes]; rw [if_pos hc21_7]] at k
      exact k
    · skip
      refine XS.ifYes X0.here hx rfl (pc0 := 21) (pc' := 27) rfl (hb hby at_21) rfl (XT.i0_ne_t hc21_7) (by decide) (by decide) ?_
      show Steps p.tables e below (s₁.setTop (mkF m 27 #[.val (.int x0), .val (.int x1), .val (.int x2), .val (.int x3), .val (.int hon), .val (.int nm), .unset, .unset, .unset, .unset] [])) _
      rw [show nodes = nm from by rw [h_nodes]; rw [if_neg hc21_7]] at k
      exact k
  have hnod := own_nodes h_nm h_nodes
  have pre9 : Go p e below (s₁.setTop (entryFrame m #[(.int x0), (.int x1), (.int x2), (.int x3)] maxLocals)) (s₁.setTop (mkF m 29 #[.val (.int x0), .val (.int x1), .val (.int x2), .val (.int x3), .val (.int hon), .val (.int nodes), .unset, .unset, .unset, .unset] [(.int hon)])) := by
    intro t k
    refine pre8 t ?_
    show Steps p.tables e below (s₁.setTop (mkF m 27 #[.val (.int x0), .val (.int x1), .val (.int x2), .val (.int x3), .val (.int hon), .val (.int nodes), .unset, .unset, .unset, .unset] [])) _
    refine XS.iload X0.here hx rfl (hb hby at_27) rfl ?_
    show Steps p.tables e below (s₁.setTop (mkF m 29 #[.val (.int x0), .val (.int x1), .val (.int x2), .val (.int x3), .val (.int hon), .val (.int nodes), .unset, .unset, .unset, .unset] [(.int hon)])) _
    exact k
  obtain ⟨fa, h_fa⟩ : ∃ z : Int32, z = (if hon = (0 : Int32) then ((1 : Int32) + ((x2 &&& (2147483647 : Int32)) % nodes)) else ((((((x2).toInt64) &&& (2147483647 : Int64)) - ((((x2).toInt64) &&& (2147483647 : Int64)) / (((nodes).toInt64) + (1 : Int64))) * (((nodes).toInt64) + (1 : Int64)))).toInt32)) := ⟨_, rfl⟩
  have pre11 : Go p e below (s₁.setTop (entryFrame m #[(.int x0), (.int x1), (.int x2), (.int x3)] maxLocals)) (s₁.setTop (mkF m 61 #[.val (.int x0), .val (.int x1), .val (.int x2), .val (.int x3), .val (.int hon), .val (.int nodes), .val (.int fa), .unset, .unset, .unset] [])) := by
    intro t k
    refine pre9 t ?_
    show Steps p.tables e below (s₁.setTop (mkF m 29 #[.val (.int x0), .val (.int x1), .val (.int x2), .val (.int x3), .val (.int hon), .val (.int nodes), .unset, .unset, .unset, .unset] [(.int hon)])) _
    by_cases hc29_10 : hon = (0 : Int32)
    · skip
      refine XS.ifYes X0.here hx rfl (pc0 := 29) (pc' := 50) rfl (hb hby at_29) rfl (XT.i0_eq_t hc29_10) (by decide) (by decide) ?_
      show Steps p.tables e below (s₁.setTop (mkF m 50 #[.val (.int x0), .val (.int x1), .val (.int x2), .val (.int x3), .val (.int hon), .val (.int nodes), .unset, .unset, .unset, .unset] [])) _
      refine XS.iconst X0.here hx rfl (hb hby at_50) ?_
      show Steps p.tables e below (s₁.setTop (mkF m 51 #[.val (.int x0), .val (.int x1), .val (.int x2), .val (.int x3), .val (.int hon), .val (.int nodes), .unset, .unset, .unset, .unset] [(.int (1 : Int32))])) _
      refine XS.iloadN X0.here hx rfl (hb hby at_51) rfl ?_
      show Steps p.tables e below (s₁.setTop (mkF m 52 #[.val (.int x0), .val (.int x1), .val (.int x2), .val (.int x3), .val (.int hon), .val (.int nodes), .unset, .unset, .unset, .unset] [(.int x2), (.int (1 : Int32))])) _
      refine X0.ldcI hx hown (mvT hZ (hw _ (List.mem_of_getElem? (i := 0) rfl))) (g := (mkF m 52 #[.val (.int x0), .val (.int x1), .val (.int x2), .val (.int x3), .val (.int hon), .val (.int nodes), .unset, .unset, .unset, .unset] [(.int x2), (.int (1 : Int32))])) rfl (hb hby at_52) ?_
      show Steps p.tables e below (s₁.setTop (mkF m 54 #[.val (.int x0), .val (.int x1), .val (.int x2), .val (.int x3), .val (.int hon), .val (.int nodes), .unset, .unset, .unset, .unset] [(.int (2147483647 : Int32)), (.int x2), (.int (1 : Int32))])) _
      refine XS.iand X0.here hx rfl (hb hby at_54) rfl ?_
      show Steps p.tables e below (s₁.setTop (mkF m 55 #[.val (.int x0), .val (.int x1), .val (.int x2), .val (.int x3), .val (.int hon), .val (.int nodes), .unset, .unset, .unset, .unset] [(.int (x2 &&& (2147483647 : Int32))), (.int (1 : Int32))])) _
      refine XS.iload X0.here hx rfl (hb hby at_55) rfl ?_
      show Steps p.tables e below (s₁.setTop (mkF m 57 #[.val (.int x0), .val (.int x1), .val (.int x2), .val (.int x3), .val (.int hon), .val (.int nodes), .unset, .unset, .unset, .unset] [(.int nodes), (.int (x2 &&& (2147483647 : Int32))), (.int (1 : Int32))])) _
      refine own_irem X0.here hx rfl (hb hby at_57) rfl (own_nz hnod) ?_
      show Steps p.tables e below (s₁.setTop (mkF m 58 #[.val (.int x0), .val (.int x1), .val (.int x2), .val (.int x3), .val (.int hon), .val (.int nodes), .unset, .unset, .unset, .unset] [(.int ((x2 &&& (2147483647 : Int32)) % nodes)), (.int (1 : Int32))])) _
      refine XS.iadd X0.here hx rfl (hb hby at_58) rfl ?_
      show Steps p.tables e below (s₁.setTop (mkF m 59 #[.val (.int x0), .val (.int x1), .val (.int x2), .val (.int x3), .val (.int hon), .val (.int nodes), .unset, .unset, .unset, .unset] [(.int ((1 : Int32) + ((x2 &&& (2147483647 : Int32)) % nodes)))])) _
      refine XS.istore X0.here hx rfl (hb hby at_59) rfl (l' := #[.val (.int x0), .val (.int x1), .val (.int x2), .val (.int x3), .val (.int hon), .val (.int nodes), .val (.int ((1 : Int32) + ((x2 &&& (2147483647 : Int32)) % nodes))), .unset, .unset, .unset]) rfl ?_
      show Steps p.tables e below (s₁.setTop (mkF m 61 #[.val (.int x0), .val (.int x1), .val (.int x2), .val (.int x3), .val (.int hon), .val (.int nodes), .val (.int ((1 : Int32) + ((x2 &&& (2147483647 : Int32)) % nodes))), .unset, .unset, .unset] [])) _
      rw [show fa = ((1 : Int32) + ((x2 &&& (2147483647 : Int32)) % nodes)) from by rw [h_fa]; rw [if_pos hc29_10]] at k
      exact k
    · skip
      refine XS.ifNo X0.here hx rfl (hb hby at_29) rfl (XT.i0_eq_f hc29_10) ?_
      show Steps p.tables e below (s₁.setTop (mkF m 32 #[.val (.int x0), .val (.int x1), .val (.int x2), .val (.int x3), .val (.int hon), .val (.int nodes), .unset, .unset, .unset, .unset] [])) _
      refine XS.iloadN X0.here hx rfl (hb hby at_32) rfl ?_
      show Steps p.tables e below (s₁.setTop (mkF m 33 #[.val (.int x0), .val (.int x1), .val (.int x2), .val (.int x3), .val (.int hon), .val (.int nodes), .unset, .unset, .unset, .unset] [(.int x2)])) _
      refine XS.i2l X0.here hx rfl (hb hby at_33) rfl ?_
      show Steps p.tables e below (s₁.setTop (mkF m 34 #[.val (.int x0), .val (.int x1), .val (.int x2), .val (.int x3), .val (.int hon), .val (.int nodes), .unset, .unset, .unset, .unset] [(.long ((x2).toInt64))])) _
      refine X0.ldc2J hx hown (mvT hZ (hw _ (List.mem_of_getElem? (i := 1) rfl))) (g := (mkF m 34 #[.val (.int x0), .val (.int x1), .val (.int x2), .val (.int x3), .val (.int hon), .val (.int nodes), .unset, .unset, .unset, .unset] [(.long ((x2).toInt64))])) rfl (hb hby at_34) ?_
      show Steps p.tables e below (s₁.setTop (mkF m 37 #[.val (.int x0), .val (.int x1), .val (.int x2), .val (.int x3), .val (.int hon), .val (.int nodes), .unset, .unset, .unset, .unset] [(.long (2147483647 : Int64)), (.long ((x2).toInt64))])) _
      refine XS.land X0.here hx rfl (hb hby at_37) rfl ?_
      show Steps p.tables e below (s₁.setTop (mkF m 38 #[.val (.int x0), .val (.int x1), .val (.int x2), .val (.int x3), .val (.int hon), .val (.int nodes), .unset, .unset, .unset, .unset] [(.long (((x2).toInt64) &&& (2147483647 : Int64)))])) _
      refine XS.iload X0.here hx rfl (hb hby at_38) rfl ?_
      show Steps p.tables e below (s₁.setTop (mkF m 40 #[.val (.int x0), .val (.int x1), .val (.int x2), .val (.int x3), .val (.int hon), .val (.int nodes), .unset, .unset, .unset, .unset] [(.int nodes), (.long (((x2).toInt64) &&& (2147483647 : Int64)))])) _
      refine XS.i2l X0.here hx rfl (hb hby at_40) rfl ?_
      show Steps p.tables e below (s₁.setTop (mkF m 41 #[.val (.int x0), .val (.int x1), .val (.int x2), .val (.int x3), .val (.int hon), .val (.int nodes), .unset, .unset, .unset, .unset] [(.long ((nodes).toInt64)), (.long (((x2).toInt64) &&& (2147483647 : Int64)))])) _
      refine XT.lconstV X0.here hx rfl (1 : Int64) (hb hby at_41) rfl ?_
      show Steps p.tables e below (s₁.setTop (mkF m 42 #[.val (.int x0), .val (.int x1), .val (.int x2), .val (.int x3), .val (.int hon), .val (.int nodes), .unset, .unset, .unset, .unset] [(.long (1 : Int64)), (.long ((nodes).toInt64)), (.long (((x2).toInt64) &&& (2147483647 : Int64)))])) _
      refine XS.ladd X0.here hx rfl (hb hby at_42) rfl ?_
      show Steps p.tables e below (s₁.setTop (mkF m 43 #[.val (.int x0), .val (.int x1), .val (.int x2), .val (.int x3), .val (.int hon), .val (.int nodes), .unset, .unset, .unset, .unset] [(.long (((nodes).toInt64) + (1 : Int64))), (.long (((x2).toInt64) &&& (2147483647 : Int64)))])) _
      refine XT.lrem X0.here hx rfl (hb hby at_43) rfl (own_nzL hnod) ?_
      show Steps p.tables e below (s₁.setTop (mkF m 44 #[.val (.int x0), .val (.int x1), .val (.int x2), .val (.int x3), .val (.int hon), .val (.int nodes), .unset, .unset, .unset, .unset] [(.long ((((x2).toInt64) &&& (2147483647 : Int64)) - ((((x2).toInt64) &&& (2147483647 : Int64)) / (((nodes).toInt64) + (1 : Int64))) * (((nodes).toInt64) + (1 : Int64))))])) _
      refine XS.l2i X0.here hx rfl (hb hby at_44) rfl ?_
      show Steps p.tables e below (s₁.setTop (mkF m 45 #[.val (.int x0), .val (.int x1), .val (.int x2), .val (.int x3), .val (.int hon), .val (.int nodes), .unset, .unset, .unset, .unset] [(.int ((((((x2).toInt64) &&& (2147483647 : Int64)) - ((((x2).toInt64) &&& (2147483647 : Int64)) / (((nodes).toInt64) + (1 : Int64))) * (((nodes).toInt64) + (1 : Int64)))).toInt32))])) _
      refine XS.istore X0.here hx rfl (hb hby at_45) rfl (l' := #[.val (.int x0), .val (.int x1), .val (.int x2), .val (.int x3), .val (.int hon), .val (.int nodes), .val (.int ((((((x2).toInt64) &&& (2147483647 : Int64)) - ((((x2).toInt64) &&& (2147483647 : Int64)) / (((nodes).toInt64) + (1 : Int64))) * (((nodes).toInt64) + (1 : Int64)))).toInt32)), .unset, .unset, .unset]) rfl ?_
      show Steps p.tables e below (s₁.setTop (mkF m 47 #[.val (.int x0), .val (.int x1), .val (.int x2), .val (.int x3), .val (.int hon), .val (.int nodes), .val (.int ((((((x2).toInt64) &&& (2147483647 : Int64)) - ((((x2).toInt64) &&& (2147483647 : Int64)) / (((nodes).toInt64) + (1 : Int64))) * (((nodes).toInt64) + (1 : Int64)))).toInt32)), .unset, .unset, .unset] [])) _
      refine XS.goto X0.here hx rfl (pc0 := 47) (pc' := 61) rfl (hb hby at_47) (by decide) (by decide) ?_
      show Steps p.tables e below (s₁.setTop (mkF m 61 #[.val (.int x0), .val (.int x1), .val (.int x2), .val (.int x3), .val (.int hon), .val (.int nodes), .val (.int ((((((x2).toInt64) &&& (2147483647 : Int64)) - ((((x2).toInt64) &&& (2147483647 : Int64)) / (((nodes).toInt64) + (1 : Int64))) * (((nodes).toInt64) + (1 : Int64)))).toInt32)), .unset, .unset, .unset] [])) _
      rw [show fa = ((((((x2).toInt64) &&& (2147483647 : Int64)) - ((((x2).toInt64) &&& (2147483647 : Int64)) / (((nodes).toInt64) + (1 : Int64))) * (((nodes).toInt64) + (1 : Int64)))).toInt32) from by rw [h_fa]; rw [if_neg hc29_10]] at k
      exact k
  have pre12 : Go p e below (s₁.setTop (entryFrame m #[(.int x0), (.int x1), (.int x2), (.int x3)] maxLocals)) (s₁.setTop (mkF m 68 #[.val (.int x0), .val (.int x1), .val (.int x2), .val (.int x3), .val (.int hon), .val (.int nodes), .val (.int fa), .unset, .unset, .unset] [(.int ((x0 &&& (2147483647 : Int32)) % nodes))])) := by
    intro t k
    refine pre11 t ?_
    show Steps p.tables e below (s₁.setTop (mkF m 61 #[.val (.int x0), .val (.int x1), .val (.int x2), .val (.int x3), .val (.int hon), .val (.int nodes), .val (.int fa), .unset, .unset, .unset] [])) _
    refine XS.iloadN X0.here hx rfl (hb hby at_61) rfl ?_
    show Steps p.tables e below (s₁.setTop (mkF m 62 #[.val (.int x0), .val (.int x1), .val (.int x2), .val (.int x3), .val (.int hon), .val (.int nodes), .val (.int fa), .unset, .unset, .unset] [(.int x0)])) _
    refine X0.ldcI hx hown (mvT hZ (hw _ (List.mem_of_getElem? (i := 0) rfl))) (g := (mkF m 62 #[.val (.int x0), .val (.int x1), .val (.int x2), .val (.int x3), .val (.int hon), .val (.int nodes), .val (.int fa), .unset, .unset, .unset] [(.int x0)])) rfl (hb hby at_62) ?_
    show Steps p.tables e below (s₁.setTop (mkF m 64 #[.val (.int x0), .val (.int x1), .val (.int x2), .val (.int x3), .val (.int hon), .val (.int nodes), .val (.int fa), .unset, .unset, .unset] [(.int (2147483647 : Int32)), (.int x0)])) _
    refine XS.iand X0.here hx rfl (hb hby at_64) rfl ?_
    show Steps p.tables e below (s₁.setTop (mkF m 65 #[.val (.int x0), .val (.int x1), .val (.int x2), .val (.int x3), .val (.int hon), .val (.int nodes), .val (.int fa), .unset, .unset, .unset] [(.int (x0 &&& (2147483647 : Int32)))])) _
    refine XS.iload X0.here hx rfl (hb hby at_65) rfl ?_
    show Steps p.tables e below (s₁.setTop (mkF m 67 #[.val (.int x0), .val (.int x1), .val (.int x2), .val (.int x3), .val (.int hon), .val (.int nodes), .val (.int fa), .unset, .unset, .unset] [(.int nodes), (.int (x0 &&& (2147483647 : Int32)))])) _
    refine own_irem X0.here hx rfl (hb hby at_67) rfl (own_nz hnod) ?_
    show Steps p.tables e below (s₁.setTop (mkF m 68 #[.val (.int x0), .val (.int x1), .val (.int x2), .val (.int x3), .val (.int hon), .val (.int nodes), .val (.int fa), .unset, .unset, .unset] [(.int ((x0 &&& (2147483647 : Int32)) % nodes))])) _
    exact k
  obtain ⟨idn, h_idn⟩ : ∃ z : Int32, z = ((x0 &&& (2147483647 : Int32)) % nodes) := ⟨_, rfl⟩
  have pre13 : Go p e below (s₁.setTop (entryFrame m #[(.int x0), (.int x1), (.int x2), (.int x3)] maxLocals)) (s₁.setTop (mkF m 68 #[.val (.int x0), .val (.int x1), .val (.int x2), .val (.int x3), .val (.int hon), .val (.int nodes), .val (.int fa), .unset, .unset, .unset] [(.int idn)])) := by rw [h_idn]; exact pre12
  have pre14 : Go p e below (s₁.setTop (entryFrame m #[(.int x0), (.int x1), (.int x2), (.int x3)] maxLocals)) (s₁.setTop (mkF m 77 #[.val (.int x0), .val (.int x1), .val (.int x2), .val (.int x3), .val (.int hon), .val (.int nodes), .val (.int fa), .val (.int idn), .unset, .unset] [(.int ((nodes - (1 : Int32)) - idn))])) := by
    intro t k
    refine pre13 t ?_
    show Steps p.tables e below (s₁.setTop (mkF m 68 #[.val (.int x0), .val (.int x1), .val (.int x2), .val (.int x3), .val (.int hon), .val (.int nodes), .val (.int fa), .unset, .unset, .unset] [(.int idn)])) _
    refine XS.istore X0.here hx rfl (hb hby at_68) rfl (l' := #[.val (.int x0), .val (.int x1), .val (.int x2), .val (.int x3), .val (.int hon), .val (.int nodes), .val (.int fa), .val (.int idn), .unset, .unset]) rfl ?_
    show Steps p.tables e below (s₁.setTop (mkF m 70 #[.val (.int x0), .val (.int x1), .val (.int x2), .val (.int x3), .val (.int hon), .val (.int nodes), .val (.int fa), .val (.int idn), .unset, .unset] [])) _
    refine XS.iload X0.here hx rfl (hb hby at_70) rfl ?_
    show Steps p.tables e below (s₁.setTop (mkF m 72 #[.val (.int x0), .val (.int x1), .val (.int x2), .val (.int x3), .val (.int hon), .val (.int nodes), .val (.int fa), .val (.int idn), .unset, .unset] [(.int nodes)])) _
    refine XS.iconst X0.here hx rfl (hb hby at_72) ?_
    show Steps p.tables e below (s₁.setTop (mkF m 73 #[.val (.int x0), .val (.int x1), .val (.int x2), .val (.int x3), .val (.int hon), .val (.int nodes), .val (.int fa), .val (.int idn), .unset, .unset] [(.int (1 : Int32)), (.int nodes)])) _
    refine XS.isub X0.here hx rfl (hb hby at_73) rfl ?_
    show Steps p.tables e below (s₁.setTop (mkF m 74 #[.val (.int x0), .val (.int x1), .val (.int x2), .val (.int x3), .val (.int hon), .val (.int nodes), .val (.int fa), .val (.int idn), .unset, .unset] [(.int (nodes - (1 : Int32)))])) _
    refine XS.iload X0.here hx rfl (hb hby at_74) rfl ?_
    show Steps p.tables e below (s₁.setTop (mkF m 76 #[.val (.int x0), .val (.int x1), .val (.int x2), .val (.int x3), .val (.int hon), .val (.int nodes), .val (.int fa), .val (.int idn), .unset, .unset] [(.int idn), (.int (nodes - (1 : Int32)))])) _
    refine XS.isub X0.here hx rfl (hb hby at_76) rfl ?_
    show Steps p.tables e below (s₁.setTop (mkF m 77 #[.val (.int x0), .val (.int x1), .val (.int x2), .val (.int x3), .val (.int hon), .val (.int nodes), .val (.int fa), .val (.int idn), .unset, .unset] [(.int ((nodes - (1 : Int32)) - idn))])) _
    exact k
  obtain ⟨ft, h_ft⟩ : ∃ z : Int32, z = ((nodes - (1 : Int32)) - idn) := ⟨_, rfl⟩
  have pre15 : Go p e below (s₁.setTop (entryFrame m #[(.int x0), (.int x1), (.int x2), (.int x3)] maxLocals)) (s₁.setTop (mkF m 77 #[.val (.int x0), .val (.int x1), .val (.int x2), .val (.int x3), .val (.int hon), .val (.int nodes), .val (.int fa), .val (.int idn), .unset, .unset] [(.int ft)])) := by rw [h_ft]; exact pre14
  have pre16 : Go p e below (s₁.setTop (entryFrame m #[(.int x0), (.int x1), (.int x2), (.int x3)] maxLocals)) (s₁.setTop (mkF m 81 #[.val (.int x0), .val (.int x1), .val (.int x2), .val (.int x3), .val (.int hon), .val (.int nodes), .val (.int fa), .val (.int idn), .val (.int ft), .unset] [(.int hon)])) := by
    intro t k
    refine pre15 t ?_
    show Steps p.tables e below (s₁.setTop (mkF m 77 #[.val (.int x0), .val (.int x1), .val (.int x2), .val (.int x3), .val (.int hon), .val (.int nodes), .val (.int fa), .val (.int idn), .unset, .unset] [(.int ft)])) _
    refine XS.istore X0.here hx rfl (hb hby at_77) rfl (l' := #[.val (.int x0), .val (.int x1), .val (.int x2), .val (.int x3), .val (.int hon), .val (.int nodes), .val (.int fa), .val (.int idn), .val (.int ft), .unset]) rfl ?_
    show Steps p.tables e below (s₁.setTop (mkF m 79 #[.val (.int x0), .val (.int x1), .val (.int x2), .val (.int x3), .val (.int hon), .val (.int nodes), .val (.int fa), .val (.int idn), .val (.int ft), .unset] [])) _
    refine XS.iload X0.here hx rfl (hb hby at_79) rfl ?_
    show Steps p.tables e below (s₁.setTop (mkF m 81 #[.val (.int x0), .val (.int x1), .val (.int x2), .val (.int x3), .val (.int hon), .val (.int nodes), .val (.int fa), .val (.int idn), .val (.int ft), .unset] [(.int hon)])) _
    exact k
  obtain ⟨ex, h_ex⟩ : ∃ z : Int32, z = (if hon = (0 : Int32) then (if idn = (0 : Int32) then (1 : Int32) else (if ft < (fa - (1 : Int32)) then (1 : Int32) else (0 : Int32))) else (if ft < fa then (1 : Int32) else (0 : Int32))) := ⟨_, rfl⟩
  have pre21 : Go p e below (s₁.setTop (entryFrame m #[(.int x0), (.int x1), (.int x2), (.int x3)] maxLocals)) (s₁.setTop (mkF m 128 #[.val (.int x0), .val (.int x1), .val (.int x2), .val (.int x3), .val (.int hon), .val (.int nodes), .val (.int fa), .val (.int idn), .val (.int ft), .val (.int ex)] [])) := by
    intro t k
    refine pre16 t ?_
    show Steps p.tables e below (s₁.setTop (mkF m 81 #[.val (.int x0), .val (.int x1), .val (.int x2), .val (.int x3), .val (.int hon), .val (.int nodes), .val (.int fa), .val (.int idn), .val (.int ft), .unset] [(.int hon)])) _
    by_cases hc81_17 : hon = (0 : Int32)
    · skip
      refine XS.ifYes X0.here hx rfl (pc0 := 81) (pc' := 101) rfl (hb hby at_81) rfl (XT.i0_eq_t hc81_17) (by decide) (by decide) ?_
      show Steps p.tables e below (s₁.setTop (mkF m 101 #[.val (.int x0), .val (.int x1), .val (.int x2), .val (.int x3), .val (.int hon), .val (.int nodes), .val (.int fa), .val (.int idn), .val (.int ft), .unset] [])) _
      refine XS.iload X0.here hx rfl (hb hby at_101) rfl ?_
      show Steps p.tables e below (s₁.setTop (mkF m 103 #[.val (.int x0), .val (.int x1), .val (.int x2), .val (.int x3), .val (.int hon), .val (.int nodes), .val (.int fa), .val (.int idn), .val (.int ft), .unset] [(.int idn)])) _
      by_cases hc103_18 : idn = (0 : Int32)
      · skip
        refine XS.ifNo X0.here hx rfl (hb hby at_103) rfl (XT.i0_ne_f hc103_18) ?_
        show Steps p.tables e below (s₁.setTop (mkF m 106 #[.val (.int x0), .val (.int x1), .val (.int x2), .val (.int x3), .val (.int hon), .val (.int nodes), .val (.int fa), .val (.int idn), .val (.int ft), .unset] [])) _
        refine XS.iconst X0.here hx rfl (hb hby at_106) ?_
        show Steps p.tables e below (s₁.setTop (mkF m 107 #[.val (.int x0), .val (.int x1), .val (.int x2), .val (.int x3), .val (.int hon), .val (.int nodes), .val (.int fa), .val (.int idn), .val (.int ft), .unset] [(.int (1 : Int32))])) _
        refine XS.istore X0.here hx rfl (hb hby at_107) rfl (l' := #[.val (.int x0), .val (.int x1), .val (.int x2), .val (.int x3), .val (.int hon), .val (.int nodes), .val (.int fa), .val (.int idn), .val (.int ft), .val (.int (1 : Int32))]) rfl ?_
        show Steps p.tables e below (s₁.setTop (mkF m 109 #[.val (.int x0), .val (.int x1), .val (.int x2), .val (.int x3), .val (.int hon), .val (.int nodes), .val (.int fa), .val (.int idn), .val (.int ft), .val (.int (1 : Int32))] [])) _
        refine XS.goto X0.here hx rfl (pc0 := 109) (pc' := 128) rfl (hb hby at_109) (by decide) (by decide) ?_
        show Steps p.tables e below (s₁.setTop (mkF m 128 #[.val (.int x0), .val (.int x1), .val (.int x2), .val (.int x3), .val (.int hon), .val (.int nodes), .val (.int fa), .val (.int idn), .val (.int ft), .val (.int (1 : Int32))] [])) _
        rw [show ex = (1 : Int32) from by rw [h_ex]; rw [if_pos hc81_17, if_pos hc103_18]] at k
        exact k
      · skip
        refine XS.ifYes X0.here hx rfl (pc0 := 103) (pc' := 112) rfl (hb hby at_103) rfl (XT.i0_ne_t hc103_18) (by decide) (by decide) ?_
        show Steps p.tables e below (s₁.setTop (mkF m 112 #[.val (.int x0), .val (.int x1), .val (.int x2), .val (.int x3), .val (.int hon), .val (.int nodes), .val (.int fa), .val (.int idn), .val (.int ft), .unset] [])) _
        refine XS.iload X0.here hx rfl (hb hby at_112) rfl ?_
        show Steps p.tables e below (s₁.setTop (mkF m 114 #[.val (.int x0), .val (.int x1), .val (.int x2), .val (.int x3), .val (.int hon), .val (.int nodes), .val (.int fa), .val (.int idn), .val (.int ft), .unset] [(.int ft)])) _
        refine XS.iload X0.here hx rfl (hb hby at_114) rfl ?_
        show Steps p.tables e below (s₁.setTop (mkF m 116 #[.val (.int x0), .val (.int x1), .val (.int x2), .val (.int x3), .val (.int hon), .val (.int nodes), .val (.int fa), .val (.int idn), .val (.int ft), .unset] [(.int fa), (.int ft)])) _
        refine XS.iconst X0.here hx rfl (hb hby at_116) ?_
        show Steps p.tables e below (s₁.setTop (mkF m 117 #[.val (.int x0), .val (.int x1), .val (.int x2), .val (.int x3), .val (.int hon), .val (.int nodes), .val (.int fa), .val (.int idn), .val (.int ft), .unset] [(.int (1 : Int32)), (.int fa), (.int ft)])) _
        refine XS.isub X0.here hx rfl (hb hby at_117) rfl ?_
        show Steps p.tables e below (s₁.setTop (mkF m 118 #[.val (.int x0), .val (.int x1), .val (.int x2), .val (.int x3), .val (.int hon), .val (.int nodes), .val (.int fa), .val (.int idn), .val (.int ft), .unset] [(.int (fa - (1 : Int32))), (.int ft)])) _
        by_cases hc118_19 : ft < (fa - (1 : Int32))
        · skip
          refine XS.icmpNo X0.here hx rfl (hb hby at_118) rfl (XT.ii_ge_f hc118_19) ?_
          show Steps p.tables e below (s₁.setTop (mkF m 121 #[.val (.int x0), .val (.int x1), .val (.int x2), .val (.int x3), .val (.int hon), .val (.int nodes), .val (.int fa), .val (.int idn), .val (.int ft), .unset] [])) _
          refine XS.iconst X0.here hx rfl (hb hby at_121) ?_
          show Steps p.tables e below (s₁.setTop (mkF m 122 #[.val (.int x0), .val (.int x1), .val (.int x2), .val (.int x3), .val (.int hon), .val (.int nodes), .val (.int fa), .val (.int idn), .val (.int ft), .unset] [(.int (1 : Int32))])) _
          refine XS.goto X0.here hx rfl (pc0 := 122) (pc' := 126) rfl (hb hby at_122) (by decide) (by decide) ?_
          show Steps p.tables e below (s₁.setTop (mkF m 126 #[.val (.int x0), .val (.int x1), .val (.int x2), .val (.int x3), .val (.int hon), .val (.int nodes), .val (.int fa), .val (.int idn), .val (.int ft), .unset] [(.int (1 : Int32))])) _
          refine XS.istore X0.here hx rfl (hb hby at_126) rfl (l' := #[.val (.int x0), .val (.int x1), .val (.int x2), .val (.int x3), .val (.int hon), .val (.int nodes), .val (.int fa), .val (.int idn), .val (.int ft), .val (.int (1 : Int32))]) rfl ?_
          show Steps p.tables e below (s₁.setTop (mkF m 128 #[.val (.int x0), .val (.int x1), .val (.int x2), .val (.int x3), .val (.int hon), .val (.int nodes), .val (.int fa), .val (.int idn), .val (.int ft), .val (.int (1 : Int32))] [])) _
          rw [show ex = (1 : Int32) from by rw [h_ex]; rw [if_pos hc81_17, if_neg hc103_18, if_pos hc118_19]] at k
          exact k
        · skip
          refine XS.icmpYes X0.here hx rfl (pc0 := 118) (pc' := 125) rfl (hb hby at_118) rfl (XT.ii_ge_t hc118_19) (by decide) (by decide) ?_
          show Steps p.tables e below (s₁.setTop (mkF m 125 #[.val (.int x0), .val (.int x1), .val (.int x2), .val (.int x3), .val (.int hon), .val (.int nodes), .val (.int fa), .val (.int idn), .val (.int ft), .unset] [])) _
          refine XS.iconst X0.here hx rfl (hb hby at_125) ?_
          show Steps p.tables e below (s₁.setTop (mkF m 126 #[.val (.int x0), .val (.int x1), .val (.int x2), .val (.int x3), .val (.int hon), .val (.int nodes), .val (.int fa), .val (.int idn), .val (.int ft), .unset] [(.int (0 : Int32))])) _
          refine XS.istore X0.here hx rfl (hb hby at_126) rfl (l' := #[.val (.int x0), .val (.int x1), .val (.int x2), .val (.int x3), .val (.int hon), .val (.int nodes), .val (.int fa), .val (.int idn), .val (.int ft), .val (.int (0 : Int32))]) rfl ?_
          show Steps p.tables e below (s₁.setTop (mkF m 128 #[.val (.int x0), .val (.int x1), .val (.int x2), .val (.int x3), .val (.int hon), .val (.int nodes), .val (.int fa), .val (.int idn), .val (.int ft), .val (.int (0 : Int32))] [])) _
          rw [show ex = (0 : Int32) from by rw [h_ex]; rw [if_pos hc81_17, if_neg hc103_18, if_neg hc118_19]] at k
          exact k
    · skip
      refine XS.ifNo X0.here hx rfl (hb hby at_81) rfl (XT.i0_eq_f hc81_17) ?_
      show Steps p.tables e below (s₁.setTop (mkF m 84 #[.val (.int x0), .val (.int x1), .val (.int x2), .val (.int x3), .val (.int hon), .val (.int nodes), .val (.int fa), .val (.int idn), .val (.int ft), .unset] [])) _
      refine XS.iload X0.here hx rfl (hb hby at_84) rfl ?_
      show Steps p.tables e below (s₁.setTop (mkF m 86 #[.val (.int x0), .val (.int x1), .val (.int x2), .val (.int x3), .val (.int hon), .val (.int nodes), .val (.int fa), .val (.int idn), .val (.int ft), .unset] [(.int ft)])) _
      refine XS.iload X0.here hx rfl (hb hby at_86) rfl ?_
      show Steps p.tables e below (s₁.setTop (mkF m 88 #[.val (.int x0), .val (.int x1), .val (.int x2), .val (.int x3), .val (.int hon), .val (.int nodes), .val (.int fa), .val (.int idn), .val (.int ft), .unset] [(.int fa), (.int ft)])) _
      by_cases hc88_20 : ft < fa
      · skip
        refine XS.icmpNo X0.here hx rfl (hb hby at_88) rfl (XT.ii_ge_f hc88_20) ?_
        show Steps p.tables e below (s₁.setTop (mkF m 91 #[.val (.int x0), .val (.int x1), .val (.int x2), .val (.int x3), .val (.int hon), .val (.int nodes), .val (.int fa), .val (.int idn), .val (.int ft), .unset] [])) _
        refine XS.iconst X0.here hx rfl (hb hby at_91) ?_
        show Steps p.tables e below (s₁.setTop (mkF m 92 #[.val (.int x0), .val (.int x1), .val (.int x2), .val (.int x3), .val (.int hon), .val (.int nodes), .val (.int fa), .val (.int idn), .val (.int ft), .unset] [(.int (1 : Int32))])) _
        refine XS.goto X0.here hx rfl (pc0 := 92) (pc' := 96) rfl (hb hby at_92) (by decide) (by decide) ?_
        show Steps p.tables e below (s₁.setTop (mkF m 96 #[.val (.int x0), .val (.int x1), .val (.int x2), .val (.int x3), .val (.int hon), .val (.int nodes), .val (.int fa), .val (.int idn), .val (.int ft), .unset] [(.int (1 : Int32))])) _
        refine XS.istore X0.here hx rfl (hb hby at_96) rfl (l' := #[.val (.int x0), .val (.int x1), .val (.int x2), .val (.int x3), .val (.int hon), .val (.int nodes), .val (.int fa), .val (.int idn), .val (.int ft), .val (.int (1 : Int32))]) rfl ?_
        show Steps p.tables e below (s₁.setTop (mkF m 98 #[.val (.int x0), .val (.int x1), .val (.int x2), .val (.int x3), .val (.int hon), .val (.int nodes), .val (.int fa), .val (.int idn), .val (.int ft), .val (.int (1 : Int32))] [])) _
        refine XS.goto X0.here hx rfl (pc0 := 98) (pc' := 128) rfl (hb hby at_98) (by decide) (by decide) ?_
        show Steps p.tables e below (s₁.setTop (mkF m 128 #[.val (.int x0), .val (.int x1), .val (.int x2), .val (.int x3), .val (.int hon), .val (.int nodes), .val (.int fa), .val (.int idn), .val (.int ft), .val (.int (1 : Int32))] [])) _
        rw [show ex = (1 : Int32) from by rw [h_ex]; rw [if_neg hc81_17, if_pos hc88_20]] at k
        exact k
      · skip
        refine XS.icmpYes X0.here hx rfl (pc0 := 88) (pc' := 95) rfl (hb hby at_88) rfl (XT.ii_ge_t hc88_20) (by decide) (by decide) ?_
        show Steps p.tables e below (s₁.setTop (mkF m 95 #[.val (.int x0), .val (.int x1), .val (.int x2), .val (.int x3), .val (.int hon), .val (.int nodes), .val (.int fa), .val (.int idn), .val (.int ft), .unset] [])) _
        refine XS.iconst X0.here hx rfl (hb hby at_95) ?_
        show Steps p.tables e below (s₁.setTop (mkF m 96 #[.val (.int x0), .val (.int x1), .val (.int x2), .val (.int x3), .val (.int hon), .val (.int nodes), .val (.int fa), .val (.int idn), .val (.int ft), .unset] [(.int (0 : Int32))])) _
        refine XS.istore X0.here hx rfl (hb hby at_96) rfl (l' := #[.val (.int x0), .val (.int x1), .val (.int x2), .val (.int x3), .val (.int hon), .val (.int nodes), .val (.int fa), .val (.int idn), .val (.int ft), .val (.int (0 : Int32))]) rfl ?_
        show Steps p.tables e below (s₁.setTop (mkF m 98 #[.val (.int x0), .val (.int x1), .val (.int x2), .val (.int x3), .val (.int hon), .val (.int nodes), .val (.int fa), .val (.int idn), .val (.int ft), .val (.int (0 : Int32))] [])) _
        refine XS.goto X0.here hx rfl (pc0 := 98) (pc' := 128) rfl (hb hby at_98) (by decide) (by decide) ?_
        show Steps p.tables e below (s₁.setTop (mkF m 128 #[.val (.int x0), .val (.int x1), .val (.int x2), .val (.int x3), .val (.int hon), .val (.int nodes), .val (.int fa), .val (.int idn), .val (.int ft), .val (.int (0 : Int32))] [])) _
        rw [show ex = (0 : Int32) from by rw [h_ex]; rw [if_neg hc81_17, if_neg hc88_20]] at k
        exact k
  have pre22 : Go p e below (s₁.setTop (entryFrame m #[(.int x0), (.int x1), (.int x2), (.int x3)] maxLocals)) (s₁.setTop (mkF m 136 #[.val (.int x0), .val (.int x1), .val (.int x2), .val (.int x3), .val (.int hon), .val (.int nodes), .val (.int fa), .val (.int idn), .val (.int ft), .val (.int ex)] [(.int hon), (.int fa), (.int nodes), (.int idn)])) := by
    intro t k
    refine pre21 t ?_
    show Steps p.tables e below (s₁.setTop (mkF m 128 #[.val (.int x0), .val (.int x1), .val (.int x2), .val (.int x3), .val (.int hon), .val (.int nodes), .val (.int fa), .val (.int idn), .val (.int ft), .val (.int ex)] [])) _
    refine XS.iload X0.here hx rfl (hb hby at_128) rfl ?_
    show Steps p.tables e below (s₁.setTop (mkF m 130 #[.val (.int x0), .val (.int x1), .val (.int x2), .val (.int x3), .val (.int hon), .val (.int nodes), .val (.int fa), .val (.int idn), .val (.int ft), .val (.int ex)] [(.int idn)])) _
    refine XS.iload X0.here hx rfl (hb hby at_130) rfl ?_
    show Steps p.tables e below (s₁.setTop (mkF m 132 #[.val (.int x0), .val (.int x1), .val (.int x2), .val (.int x3), .val (.int hon), .val (.int nodes), .val (.int fa), .val (.int idn), .val (.int ft), .val (.int ex)] [(.int nodes), (.int idn)])) _
    refine XS.iload X0.here hx rfl (hb hby at_132) rfl ?_
    show Steps p.tables e below (s₁.setTop (mkF m 134 #[.val (.int x0), .val (.int x1), .val (.int x2), .val (.int x3), .val (.int hon), .val (.int nodes), .val (.int fa), .val (.int idn), .val (.int ft), .val (.int ex)] [(.int fa), (.int nodes), (.int idn)])) _
    refine XS.iload X0.here hx rfl (hb hby at_134) rfl ?_
    show Steps p.tables e below (s₁.setTop (mkF m 136 #[.val (.int x0), .val (.int x1), .val (.int x2), .val (.int x3), .val (.int hon), .val (.int nodes), .val (.int fa), .val (.int idn), .val (.int ft), .val (.int ex)] [(.int hon), (.int fa), (.int nodes), (.int idn)])) _
    exact k
  obtain ⟨_, _, ⟨T23, L23, k23, n23⟩, -, X23, ⟨Lc23, hQ23, l23, y23, z23⟩, st23⟩ := Jvm.LawKit.callS X0 hx (y := (⟨"lightbin/BroadcastFaults", "isFaulty", "(IIIZ)Z"⟩ : MethodName)) hown (mvT hZ (hw _ (List.mem_of_getElem? (i := 2) rfl))) (mvT hZ (hw _ (List.mem_of_getElem? (i := 3) rfl))) (mvT hZ (hw _ (List.mem_of_getElem? (i := 4) rfl))) (mvT hZ (hw _ (List.mem_of_getElem? (i := 5) rfl))) (by decide) (backOf (W := 0) (rm1 l Z a0 hw [] idn nodes fa hon  h0 n0 Z0 ) hZ (hw _ (List.mem_of_getElem? (i := 5) rfl)) (hw _ (List.mem_of_getElem? (i := 4) rfl)) (by decide) (by decide)) (g := (mkF m 136 #[.val (.int x0), .val (.int x1), .val (.int x2), .val (.int x3), .val (.int hon), .val (.int nodes), .val (.int fa), .val (.int idn), .val (.int ft), .val (.int ex)] [(.int hon), (.int fa), (.int nodes), (.int idn)])) rfl (by rw [hml]; rfl) (argsL := [(.int idn), (.int nodes), (.int fa), (.int hon)]) (rest := []) (lenOf pd_1 rfl) rfl (by show 2 * 0 + _ ≤ _; exact Nat.le_of_eq rfl) (hb hby at_136) (fun _ _ => ⟨rfl, e0, (by decide : 0 + 0 ≤ _), (by decide : 0 + 0 ≤ _)⟩)
  dsimp only [Pt.U, Pt.locs, Pt.cells, Pt.slots] at X23 l23 y23 z23 st23 hQ23
  subst l23 y23 z23
  obtain ⟨rfl, N23q, hh23⟩ := hQ23
  have N23 := Fr.app N0 N23q
  have pre24 : Go p e below (s₁.setTop (entryFrame m #[(.int x0), (.int x1), (.int x2), (.int x3)] maxLocals)) (T23.setTop (mkF m 139 #[.val (.int x0), .val (.int x1), .val (.int x2), .val (.int x3), .val (.int hon), .val (.int nodes), .val (.int fa), .val (.int idn), .val (.int ft), .val (.int ex)] [(.int (f1 idn nodes fa hon))])) := fun t k => pre22 t (st23 t k)
  have pre25 : Go p e below (s₁.setTop (entryFrame m #[(.int x0), (.int x1), (.int x2), (.int x3)] maxLocals)) (T23.setTop (mkF m 141 #[.val (.int x0), .val (.int x1), .val (.int x2), .val (.int x3), .val (.int hon), .val (.int nodes), .val (.int fa), .val (.int idn), .val (.int ft), .val (.int ex)] [(.int ex), (.int (f1 idn nodes fa hon))])) := by
    intro t k
    refine pre24 t ?_
    show Steps p.tables e below (T23.setTop (mkF m 139 #[.val (.int x0), .val (.int x1), .val (.int x2), .val (.int x3), .val (.int hon), .val (.int nodes), .val (.int fa), .val (.int idn), .val (.int ft), .val (.int ex)] [(.int (f1 idn nodes fa hon))])) _
    refine XS.iload X23.here hx rfl (hb hby at_139) rfl ?_
    show Steps p.tables e below (T23.setTop (mkF m 141 #[.val (.int x0), .val (.int x1), .val (.int x2), .val (.int x3), .val (.int hon), .val (.int nodes), .val (.int fa), .val (.int idn), .val (.int ft), .val (.int ex)] [(.int ex), (.int (f1 idn nodes fa hon))])) _
    exact k
  have hc141_26 : (f1 idn nodes fa hon) = ex := by
    exact own_law hnod h_fa h_idn h_ft h_ex
  have pre27 : Go p e below (s₁.setTop (entryFrame m #[(.int x0), (.int x1), (.int x2), (.int x3)] maxLocals)) (T23.setTop (mkF m 149 #[.val (.int x0), .val (.int x1), .val (.int x2), .val (.int x3), .val (.int hon), .val (.int nodes), .val (.int fa), .val (.int idn), .val (.int ft), .val (.int ex)] [(.int (1 : Int32))])) := by
    intro t k
    refine pre25 t ?_
    show Steps p.tables e below (T23.setTop (mkF m 141 #[.val (.int x0), .val (.int x1), .val (.int x2), .val (.int x3), .val (.int hon), .val (.int nodes), .val (.int fa), .val (.int idn), .val (.int ft), .val (.int ex)] [(.int ex), (.int (f1 idn nodes fa hon))])) _
    refine XS.icmpNo X23.here hx rfl (hb hby at_141) rfl (XT.ii_ne_f hc141_26) ?_
    show Steps p.tables e below (T23.setTop (mkF m 144 #[.val (.int x0), .val (.int x1), .val (.int x2), .val (.int x3), .val (.int hon), .val (.int nodes), .val (.int fa), .val (.int idn), .val (.int ft), .val (.int ex)] [])) _
    refine XS.iconst X23.here hx rfl (hb hby at_144) ?_
    show Steps p.tables e below (T23.setTop (mkF m 145 #[.val (.int x0), .val (.int x1), .val (.int x2), .val (.int x3), .val (.int hon), .val (.int nodes), .val (.int fa), .val (.int idn), .val (.int ft), .val (.int ex)] [(.int (1 : Int32))])) _
    refine XS.goto X23.here hx rfl (pc0 := 145) (pc' := 149) rfl (hb hby at_145) (by decide) (by decide) ?_
    show Steps p.tables e below (T23.setTop (mkF m 149 #[.val (.int x0), .val (.int x1), .val (.int x2), .val (.int x3), .val (.int hon), .val (.int nodes), .val (.int fa), .val (.int idn), .val (.int ft), .val (.int ex)] [(.int (1 : Int32))])) _
    exact k
  obtain ⟨fs, hr, hrun, hended, hW, hsame⟩ := X23.leave (v := some (.int (1 : Int32))) (fun h => by rw [Bd.returns] at h; cases h)
  refine ⟨_, _, pre27 _ (retN X23 hx (t := .boolean) Bd.returns (by simp) (hb hby at_149) hr), hrun, hended, _, _, rfl, ?_, ⟨_, rfl⟩, hW, hsame.mono (by decide) (by decide)⟩
  show Q0 Z x0 x1 x2 x3 h0 n0 _ T23.heap _
  rw [hh23]
  exact ⟨rfl, N23⟩
set_option maxRecDepth 65536 in
set_option maxHeartbeats 40000000 in
theorem comes_1 {Post : Tables → Env → Array Value → State → Outcome → State → Prop} (hpost : ∀ tb e args s v u, (limb_1_1.after args s (.returned v) u = true ∧ limb_1_2.after args s (.returned v) u = true ∧ True) → FrameEnd s (.returned v) u (Jvm.fieldLocs frame_1_writes args s ++ Jvm.arrayLocs frame_1_arrays args s ++ Jvm.staticLocs frame_1_statics s) 0 0 → Post tb e args s (.returned v) u) :
    ArmFor flags0 classFile x code maxLocals ret World_1 tables_1 room_1 Calls_1 rest_1 Pre_1 Post := by
  intro l hfl _ _ p e ha hc hk s m args below hf hA hF happ hP
  obtain ⟨hcalls, hrest, hpre⟩ := hP
  obtain ⟨-, -, -, hnamed, -, -, -, hat⟩ := (Spec.applies_iff hf).mp happ
  obtain ⟨hg, hn⟩ := and_e (Cond.before_iff.mp (show (Jvm.Cond.and given_1 narrow_1).before args s = true from hpre))
  obtain ⟨u1, u2⟩ := and_e hg
  obtain ⟨u3, u4⟩ := and_e u2
  obtain ⟨u5, u6⟩ := and_e u4
  obtain ⟨u7, u8⟩ := and_e u6
  obtain ⟨w0, w1, w2, w3, rfl⟩ : ∃ w0 w1 w2 w3 : Value, args = #[w0, w1, w2, w3] := by
    have hs : args.size = 4 := by simpa [Cond.value, given_1] using u1
    obtain ⟨L⟩ := args
    match L, hs with
    | [w0, w1, w2, w3], _ => exact ⟨w0, w1, w2, w3, rfl⟩
  have hw := fun d (hd : d ∈ tables_1) => atoms_spec (ws := Jvm.Cond.code x code maxLocals ret :: tables_1) hat d (List.mem_cons_of_mem _ hd)
  obtain ⟨i0, ei0⟩ := is_v u3
  obtain rfl : w0 = (.int i0) := Option.some.inj ei0
  obtain ⟨i1, ei1⟩ := is_v u5
  obtain rfl : w1 = (.int i1) := Option.some.inj ei1
  obtain ⟨i2, ei2⟩ := is_v u7
  obtain rfl : w2 = (.int i2) := Option.some.inj ei2
  obtain ⟨i3, ei3⟩ := is_v u8
  obtain rfl : w3 = (.int i3) := Option.some.inj ei3
  obtain ⟨n, o, h1, h2, h3, _, L, rfl, ⟨rfl, N⟩, hq⟩ := rm0 l s _ hw tables_1 i0 i1 i2 i3 s.heap s.heap.size (Nat.le_refl _) p e ha hc hk s m _ below hf ((Spec.applies_iff_loose hf).mp happ).1 ⟨rfl, State.Warmed39.refl s, rfl⟩ trivial
  refine ⟨n, _, h1, h2, h3, hpost _ _ _ _ _ _ ⟨Cond.after_iff.mpr rfl, Cond.after_iff.mpr (eq_i res_at (Term.int_eval (1)) rfl), trivial⟩ ⟨hq.1, hq.2.1, (hq.2.2.sift fun y hy => Or.inr (N y hy)).mono (by decide) (by decide)⟩⟩
theorem main_1_1 : Claimed_1_1 := comes_1 fun _ _ _ _ _ _ h hF => ⟨h.1, hF⟩
theorem main_1_2 : Claimed_1_2 := comes_1 fun _ _ _ _ _ _ h hF => ⟨h.2.1, hF⟩
end Jvm.Pilot.@@N@@
namespace Jvm.Pilot.@@N@@
open Jvm Jvm.ClassFile Sem Op Lib Jvm.Free Jvm.Stand Jvm.Pilot.@@N@@.Jvm.D
/-! MADE BY PROGRAM (witnessworld.py) out of the Statement's table words and the real class files: 9 classes; the members and pool entries that the words name. The judged class is class 1, her method 1. -/
namespace start1
open Jvm.ClassFile
def u (s : String) : CpInfo := .utf8 (stringToUtf16 s)
/-- a pool by its gaps: so many unusable entries, then the entry; so many at the end -/
def gap : Nat → List CpInfo → List CpInfo
  | 0, r => r
  | n + 1, r => .unusable :: gap n r
def poolList (es : List (Nat × CpInfo)) (last : Nat) : List CpInfo := es.foldr (fun e r => gap e.1 (e.2 :: r)) (gap last [])
def pool (es : List (Nat × CpInfo)) (last : Nat) : Array CpInfo := ⟨poolList es last⟩
def fileOf (pool : Array CpInfo) (this : Nat) (attrs : Array Attribute := #[]) (ms : Array MethodInfo := #[]) (fl : Nat := 33) (sup : Nat := 0) (ifs : Array Nat := #[]) (fds : Array FieldInfo := #[]) : ClassFile where
  minorVersion := 0
  majorVersion := 65
  constantPool := pool
  accessFlags := fl
  thisClass := this
  superClass := sup
  interfaces := ifs
  fields := fds
  methods := ms
  attributes := attrs
def plain (name : String) (sup : Option ClassId) : Class where
  name := name
  kind := .ordinary
  loader := none
  accessFlags := 33
  super := sup
  interfaces := #[]
  cf := none
  fields := #[]
  methods := #[]
  instanceTypes := #[]
  staticTypes := #[]
  resolved := #[]
  callSites := []
  init := .initialized
  statics := none
  mirror := none

def pool0 : Array CpInfo := pool [(5, u "<init>"), (0, u "()V"), (1, .class_ 10), (1, u "java/lang/Object")] 113

def k0m0 : Method := { name := "<init>", desc := "()V", sig := { parameters := [], returnType := none }, accessFlags := 1, code := none }
/-- java/lang/Object -/
def k0 : Class := { plain "java/lang/Object" none with
  accessFlags := 33
  interfaces := #[]
  cf := some (fileOf pool0 8 #[] #[{ accessFlags := 1, nameIndex := 5, descriptorIndex := 6, attributes := #[] }] 33 0 #[] #[])
  fields := #[]
  methods := #[k0m0]
  instanceTypes := #[]
  staticTypes := #[]
  resolved := Array.replicate 124 none
  statics := none }

def pool1 : Array CpInfo := pool [(2, .class_ 4), (1, u "java/lang/Object"), (0, u "<init>"), (0, u "()V"), (0, .integer 2147483647), (0, .long 2147483647), (1, .methodref 11 12), (0, .class_ 13), (0, .nameAndType 14 15), (0, u "lightbin/BroadcastFaults"), (0, u "isFaulty"), (0, u "(IIIZ)Z"), (0, .class_ 17), (0, u "lightbin/BroadcastFaultsIsFaultyPinLaw"), (2, u "law"), (0, u "(IIII)Z")] 3

def k1m0 : Method := { name := "<init>", desc := "()V", sig := { parameters := [], returnType := none }, accessFlags := 2, code := none }
def k1c1 : Code := { maxStack := 6, maxLocals := 10, code := code, exceptionTable := #[], attributes := #[] }
def k1m1 : Method := { name := "law", desc := "(IIII)Z", sig := { parameters := [.int, .int, .int, .int], returnType := some .boolean }, accessFlags := 9, code := some k1c1 }
/-- lightbin/BroadcastFaultsIsFaultyPinLaw -/
def k1 : Class := { plain "lightbin/BroadcastFaultsIsFaultyPinLaw" (some 0) with
  accessFlags := 49
  interfaces := #[]
  cf := some (fileOf pool1 16 #[] #[{ accessFlags := 2, nameIndex := 5, descriptorIndex := 6, attributes := #[] }, { accessFlags := 9, nameIndex := 20, descriptorIndex := 21, attributes := #[] }] 49 2 #[] #[])
  fields := #[]
  methods := #[k1m0, k1m1]
  instanceTypes := #[]
  staticTypes := #[]
  resolved := Array.replicate 25 none
  statics := none }

def pool2 : Array CpInfo := pool [(4, .class_ 6), (1, u "java/lang/Object"), (0, u "<init>"), (0, u "()V"), (15, .class_ 25), (0, u "lightbin/BroadcastFaults"), (0, u "SENDER"), (0, u "I"), (2, u "MAX_VALUE"), (0, u "J"), (4, u "isFaulty"), (0, u "(IIIZ)Z")] 22

def k2m0 : Method := { name := "<init>", desc := "()V", sig := { parameters := [], returnType := none }, accessFlags := 2, code := none }
def k2c1 : Code := { maxStack := 3, maxLocals := 4, code := prog_19_method_2_code, exceptionTable := #[], attributes := #[] }
def k2m1 : Method := { name := "isFaulty", desc := "(IIIZ)Z", sig := { parameters := [.int, .int, .int, .boolean], returnType := some .boolean }, accessFlags := 8, code := some k2c1 }
/-- lightbin/BroadcastFaults -/
def k2 : Class := { plain "lightbin/BroadcastFaults" (some 0) with
  accessFlags := 48
  interfaces := #[]
  cf := some (fileOf pool2 24 #[] #[{ accessFlags := 2, nameIndex := 7, descriptorIndex := 8, attributes := #[] }, { accessFlags := 8, nameIndex := 36, descriptorIndex := 37, attributes := #[] }] 48 4 #[] #[{ accessFlags := 24, nameIndex := 26, descriptorIndex := 27, attributes := #[] }, { accessFlags := 24, nameIndex := 30, descriptorIndex := 31, attributes := #[] }])
  fields := #[{ name := "SENDER", type := .int, accessFlags := 24, slot := 0, constantValue := 0 }, { name := "MAX_VALUE", type := .long, accessFlags := 24, slot := 1, constantValue := 0 }]
  methods := #[k2m0, k2m1]
  instanceTypes := #[]
  staticTypes := #[.int, .long]
  resolved := Array.replicate 60 none
  statics := none }

def pool3 : Array CpInfo := pool [(1, u "java/lang/Cloneable"), (0, .class_ 1), (0, u "java/lang/Object"), (0, .class_ 3)] 3

/-- java/lang/Cloneable -/
def k3 : Class := { plain "java/lang/Cloneable" (some 0) with
  accessFlags := 1537
  interfaces := #[]
  cf := some (fileOf pool3 2 #[] #[] 1537 4 #[] #[])
  fields := #[]
  methods := #[]
  instanceTypes := #[]
  staticTypes := #[]
  resolved := Array.replicate 8 none
  statics := none }

def pool4 : Array CpInfo := pool [(1, u "java/io/Serializable"), (0, .class_ 1), (0, u "java/lang/Object"), (0, .class_ 3)] 3

/-- java/io/Serializable -/
def k4 : Class := { plain "java/io/Serializable" (some 0) with
  accessFlags := 1537
  interfaces := #[]
  cf := some (fileOf pool4 2 #[] #[] 1537 4 #[] #[])
  fields := #[]
  methods := #[]
  instanceTypes := #[]
  staticTypes := #[]
  resolved := Array.replicate 8 none
  statics := none }

/-- the primitive byte -/
def k5 : Class := { plain "byte" none with kind := .primitive 'B', accessFlags := 0x411 }
/-- [B -/
def k6 : Class := { plain "[B" (some 0) with kind := .array 5 .byte, interfaces := #[3, 4], accessFlags := 1041 }

/-- the primitive int -/
def k7 : Class := { plain "int" none with kind := .primitive 'I', accessFlags := 0x411 }
/-- [I -/
def k8 : Class := { plain "[I" (some 0) with kind := .array 7 .int, interfaces := #[3, 4], accessFlags := 1041 }

def heap : Heap := #[]
def classes : Array Class := #[k0, k1, k2, k3, k4, k5, k6, k7, k8]
def interned : List (Array UInt16 × Addr) := []
def slotsUsed : Nat := 0
def theMethod : MethodId := ⟨1, 1⟩
def args0 : Array Value := #[.int 5, .int 7, .int 3, .int 1]
def aboutOver (below : List Frame) : State where
  vm := { classes := classes, interned := interned.toArray }
  heap := heap
  slotsUsed := slotsUsed
  threads := #[{ frames := .invoking theMethod args0 :: below }]
def below0 : List Frame := [.native { method := ⟨0, 0⟩, args := #[] }]
def about1 : State := aboutOver below0
def p0 : Program := .bare "" "" ""
def e0 : Env := launch0.env 0 0 0
theorem w_frames : about1.frames = Frame.invoking theMethod args0 :: below0 := rfl
set_option maxRecDepth 65536 in
theorem w_args : argsFit about1.vm theMethod args0 = true := by decide +kernel
set_option maxRecDepth 65536 in
theorem w_heap : heapFits about1 = true := by decide +kernel
set_option maxRecDepth 65536 in
theorem w_runnable : about1.curStatus? = some .runnable := by decide +kernel
set_option maxRecDepth 65536 in
theorem w_alone : about1.alone = true := by decide +kernel
set_option maxRecDepth 65536 in
theorem w_named : about1.methodNamed? x = some theMethod := by decide +kernel
set_option maxRecDepth 65536 in
theorem w_hears : about1.hears theMethod below0 = true := by decide +kernel
set_option maxRecDepth 65536 in
theorem w_ripe : about1.ripe theMethod args0 below0 = true := by decide +kernel
theorem w_running : about1.status = .running := rfl
set_option maxRecDepth 65536 in
theorem w_room : about1.hasRoom e0.platform room_1 = true :=
  launch0.hasRoom_least _ room_1 (by decide +kernel) (by decide +kernel) (by decide +kernel) (by decide +kernel) (by decide +kernel) (by decide +kernel)
theorem allAtoms_all (ts : List Jvm.Cond) (a : Array Jvm.Value) (st : Jvm.State) : (allAtoms ts).before a st = ts.all (fun c => c.before a st) := by
  induction ts with
  | nil => rfl
  | cons c t ih =>
    show (Jvm.Cond.and c (allAtoms t)).before a st = _
    rw [Jvm.Cond.before_and, ih, List.all_cons]
def words1 : List Jvm.Cond := Jvm.Cond.code x code maxLocals ret :: tables_1
/-- a 'code' word, met by the world's own term for the bytes: nothing is compared byte by byte -/
theorem code_word {y : MethodName} {bytes : ByteArray} {mx : Nat} {rt : Option FieldType} {a : Array Value} {s : State} {m : MethodId} {meth : Method} {c : Code} (h1 : s.methodNamed? y = some m) (h2 : s.vm.method? m = some meth) (h3 : meth.code = some c) (h4 : c.code = bytes)
    (h5 : (c.maxLocals == mx && c.exceptionTable.isEmpty && decide (c.maxStack ≤ mostOperands) && decide (meth.sig.returnType = rt) && !meth.locks && decide (parseMethodDescriptor y.desc = some meth.sig)) = true) : (Jvm.Cond.code y bytes mx rt).before a s = true := by
  simp only [Bool.and_eq_true, beq_iff_eq, Bool.not_eq_true', decide_eq_true_eq] at h5
  obtain ⟨⟨⟨⟨⟨g1, g2⟩, g3⟩, g4⟩, g5⟩, g6⟩ := h5
  simp [Cond.before, Cond.holds, Cond.value, h1, h2, h3, h4, g1, g2, g3, g4, g5, g6]
def isCode : Jvm.Cond → Bool
  | .code _ _ _ _ => true
  | _ => false
theorem all_split {L : List Jvm.Cond} {P : Jvm.Cond → Bool} (h1 : L.all (fun c => isCode c || P c) = true) (h2 : ∀ c ∈ L.filter isCode, P c = true) : L.all P = true := by
  refine List.all_eq_true.mpr fun c hc => ?_
  have h := List.all_eq_true.mp h1 c hc
  rcases Bool.eq_false_or_eq_true (isCode c) with hi | hi
  · exact h2 c (List.mem_filter.mpr ⟨hc, hi⟩)
  · simpa [hi] using h
set_option maxRecDepth 65536 in
theorem w_c0 : (Jvm.Cond.code x code maxLocals ret).before args0 about1 = true := code_word (m := ⟨1, 1⟩) (meth := k1m1) (c := k1c1) (by decide +kernel) rfl rfl rfl (by decide +kernel)
set_option maxRecDepth 65536 in
theorem w_c1 : (Jvm.Cond.code ({ cls := "lightbin/BroadcastFaults", name := "isFaulty", desc := "(IIIZ)Z" } : Jvm.MethodName) prog_19_method_2_code (4 : Nat) (Option.some Jvm.ClassFile.FieldType.boolean)).before args0 about1 = true := code_word (m := ⟨2, 1⟩) (meth := k2m1) (c := k2c1) (by decide +kernel) rfl rfl rfl (by decide +kernel)
def codes1 : List Jvm.Cond := [Jvm.Cond.code x code maxLocals ret, Jvm.Cond.code ({ cls := "lightbin/BroadcastFaults", name := "isFaulty", desc := "(IIIZ)Z" } : Jvm.MethodName) prog_19_method_2_code (4 : Nat) (Option.some Jvm.ClassFile.FieldType.boolean)]
set_option maxRecDepth 65536 in
theorem codes_eq : words1.filter isCode = codes1 := rfl
theorem w_codes : ∀ c ∈ words1.filter isCode, c.before args0 about1 = true := by
  rw [codes_eq]
  intro c hc
  simp only [codes1, List.mem_cons, List.not_mem_nil, or_false] at hc
  rcases hc with rfl | rfl
  · exact w_c0
  · exact w_c1
set_option maxRecDepth 65536 in
theorem w_t1 : words1.all (fun c => isCode c || c.before args0 about1) = true := by decide +kernel
theorem w_tables : (allAtoms (Jvm.Cond.code x code maxLocals ret :: tables_1)).before args0 about1 = true := by
  rw [allAtoms_all]
  show words1.all (fun c => c.before args0 about1) = true
  refine all_split ?_ w_codes
  rw [w_t1]
set_option maxRecDepth 65536 in
theorem w_case : (Jvm.Cond.and given_1 narrow_1).before args0 about1 = true := by decide +kernel
theorem w_applies : (headSpec (Jvm.Cond.code x code maxLocals ret :: tables_1) room_1).applies x e0.platform about1 = true :=
  (Spec.applies_iff w_frames).mpr ⟨w_running, w_runnable, w_alone, w_named, w_hears, w_ripe, w_room, w_tables⟩
theorem atStart : AtStart classFile x code maxLocals ret World_1 tables_1 room_1 Calls_1 rest_1 Pre_1 launch0 p0 e0 about1 theMethod args0 below0 :=
  ⟨lists_1, trivial, launch0.admits_env _ _ _, launch0.least_env, fairChoices_fair.cas, fairChoices_fair.clock, w_frames, w_args, w_heap, w_applies, trivial, trivial, w_case⟩
end start1
theorem witness_1 : WitnessClaimed_1 := ⟨start1.p0, start1.e0, start1.about1, start1.theMethod, start1.args0, start1.below0, start1.atStart⟩
end Jvm.Pilot.@@N@@
