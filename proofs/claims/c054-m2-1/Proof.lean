import JvmDerived
import JvmDerived.Pilot.@@N@@Statement
import JvmDerived.Pilot.@@N@@Code
set_option linter.unusedVariables false
set_option linter.unusedSimpArgs false
@@BLOCK:NumsL.lean.txt@@
namespace Jvm.RoadKit
open Sem ClassFile Op Lib Jvm.Stand Jvm.Free Jvm.LawKit
section New
variable {p : Program} {l : Launch} {e : Env} {R : Room} {s : State} {m : MethodId} {args : Array Value} {below : List Frame} {meth : Method} {c : Code} {T : State} {locs : List Loc} {cells slots : Nat}
theorem retI (X : Stand p l e R s m args below meth c T locs cells slots) (hx : p.tables.exec = Jvm.exec) {pc : Nat} {Ls : Array Slot} {z : Int32} {rest : List Value} (hret : meth.sig.returnType = some .int) (hd : decode c.code pc = .ok (.ireturn, 1)) {fs : List Frame}
    (hl : ∀ (f : JFrame) (acts : List Action), f.method = m → f.locked = none → f.entered = [] → (doReturn e (T.setTop f) acts (some (.int z))).1 = T.setFrames fs) : Steps p.tables e below (T.setTop (mkF m pc Ls (.int z :: rest))) (T.setFrames fs) :=
  retOut X hx (w := .int z) (t := .int) (i := .ireturn) hret rfl (Or.inl ⟨rfl, Or.inl rfl, z, rfl⟩) hd hl
theorem retJ (X : Stand p l e R s m args below meth c T locs cells slots) (hx : p.tables.exec = Jvm.exec) {pc : Nat} {Ls : Array Slot} {z : Int64} {rest : List Value} (hret : meth.sig.returnType = some .long) (hd : decode c.code pc = .ok (.lreturn, 1)) {fs : List Frame}
    (hl : ∀ (f : JFrame) (acts : List Action), f.method = m → f.locked = none → f.entered = [] → (doReturn e (T.setTop f) acts (some (.long z))).1 = T.setFrames fs) : Steps p.tables e below (T.setTop (mkF m pc Ls (.long z :: rest))) (T.setFrames fs) :=
  retOut X hx (w := .long z) (t := .long) (i := .lreturn) hret rfl (Or.inr (Or.inl ⟨rfl, rfl, z, rfl⟩)) hd hl
theorem retA (X : Stand p l e R s m args below meth c T locs cells slots) (hx : p.tables.exec = Jvm.exec) {pc : Nat} {Ls : Array Slot} {w : Value} {t : FieldType} {rest : List Value} (hret : meth.sig.returnType = some t) (ht : t.isReference = true) (hw : w.isRef = true) (hn : narrow t w = w) (hd : decode c.code pc = .ok (.areturn, 1)) {fs : List Frame}
    (hl : ∀ (f : JFrame) (acts : List Action), f.method = m → f.locked = none → f.entered = [] → (doReturn e (T.setTop f) acts (some w)).1 = T.setFrames fs) : Steps p.tables e below (T.setTop (mkF m pc Ls (w :: rest))) (T.setFrames fs) :=
  retOut X hx (w := w) (t := t) (i := .areturn) hret hn (Or.inr (Or.inr (Or.inr (Or.inr ⟨rfl, ht, hw⟩)))) hd hl
end New
end Jvm.RoadKit
namespace Jvm.Pilot.@@N@@
open Jvm Jvm.ClassFile Sem Op Lib Jvm.Free Jvm.Stand Jvm.LawKit Jvm.RoadKit Bundle Jvm.Pilot.@@N@@.Jvm.D
/-- from S every run comes to T -/
abbrev Go (p : Program) (e : Env) (below : List Frame) (S T : State) : Prop := ∀ t, Steps p.tables e below T t → Steps p.tables e below S t

theorem own_ofNat {c : Int32} {n : Nat} (h : c.toInt = n) : c = Int32.ofNat n := by
  apply Int32.toInt_inj.mp
  have h2 := c.toInt_lt
  rw [Int32.toInt_ofNat', show Int32.size = 4294967296 from rfl, Int.bmod_eq_of_le (by omega) (by omega), h]
theorem own_char (x : Int32) : (x.toUInt32.toUInt16.toUInt32.toInt32).toInt = x.toInt % 65536 := by
  have h : (x.toUInt32.toUInt16.toUInt32.toInt32).toBitVec = (x.toBitVec.setWidth 16).setWidth 32 := rfl
  have h1 : (x.toUInt32.toUInt16.toUInt32.toInt32).toInt = ((x.toBitVec.setWidth 16).setWidth 32).toInt := by rw [← h]; rfl
  rw [h1, BitVec.toInt_eq_toNat_cond]
  have h3 : x.toInt = x.toBitVec.toInt := rfl
  rw [h3, BitVec.toInt_eq_toNat_cond]
  simp only [BitVec.toNat_setWidth]
  have := x.toBitVec.isLt
  split <;> split <;> omega


theorem own_m31 (x : Int32) : 0 ≤ (x &&& 2147483647).toInt := by
  have := Jvm.Kit.i32_mask x 2147483647 (k := 31) (by decide) (by decide); omega
theorem own_rem (x n : Int32) (hn : 0 < n.toInt) : 0 ≤ ((x &&& 2147483647) % n).toInt ∧ ((x &&& 2147483647) % n).toInt < n.toInt := by
  rw [Jvm.Kit.i32_rem_nonneg (own_m31 x)]
  exact ⟨Int.emod_nonneg _ (by omega), Int.emod_lt_of_pos _ hn⟩
theorem own_remeq (x y : Int32) : x - (x / y) * y = x % y := by
  apply Int32.toInt_inj.mp
  have a := (x % y).toInt_lt; have b := (x % y).le_toInt
  rw [Int32.toInt_mod] at a b ⊢
  rw [Int32.toInt_sub, Int32.toInt_mul, Int32.toInt_div, Int.bmod_mul_bmod, Int.sub_bmod_bmod, Int.mul_comm, ← Int.tmod_def]
  exact Jvm.Kit.bmod32 b a
theorem own_irem {tb : Tables} [Ours tb] {e : Env} {below : List Frame} {T target : State} {m : MethodId} {c : Code} {g : JFrame} (h : At T m c below) (hx : tb.exec = Jvm.exec) (hg : g.method = m) {x y : Int32} {rest : List Value} (hd : decode c.code g.pc = .ok (.irem, 1)) (hs : g.stack = .int y :: .int x :: rest) (hy : y ≠ 0)
    (hr : Steps tb e below (T.setTop { g with pc := g.pc + 1, stack := .int (x % y) :: rest }) target) : Steps tb e below (T.setTop g) target := XS.irem h hx hg hd hs hy (by rw [own_remeq]; exact hr)

theorem own_getD (ws : List Int32) (k : Nat) : (ws.map Value.int).getD k (.int (0 : Int32)) = .int (ws.getD k 0) := by
  induction ws generalizing k with
  | nil => rfl
  | cons a t ih => cases k with
    | zero => rfl
    | succ k => exact ih k
theorem ef_1 (m : MethodId) (p0 : Int32) : entryFrame m #[(.int p0)] 1 = mkF m 0 #[.val (.int p0)] [] := by first | (simp [entryFrame, mkF, argsToLocals, Value.category]; done) | rfl
theorem d1_0 : decode prog_94_method_6_code 0 = .ok (.iload_n 0, 1) := by decide +kernel
theorem d1_1 : decode prog_94_method_6_code 1 = .ok (.bipush 32, 2) := by decide +kernel
theorem d1_3 : decode prog_94_method_6_code 3 = .ok (.if_icmp .eq 9, 3) := by decide +kernel
theorem d1_12 : decode prog_94_method_6_code 12 = .ok (.iconst 1, 1) := by decide +kernel
theorem d1_13 : decode prog_94_method_6_code 13 = .ok (.goto 4, 3) := by decide +kernel
theorem d1_17 : decode prog_94_method_6_code 17 = .ok (.ireturn, 1) := by decide +kernel
theorem d1_6 : decode prog_94_method_6_code 6 = .ok (.iload_n 0, 1) := by decide +kernel
theorem d1_7 : decode prog_94_method_6_code 7 = .ok (.bipush 9, 2) := by decide +kernel
theorem d1_9 : decode prog_94_method_6_code 9 = .ok (.if_icmp .ne 7, 3) := by decide +kernel
theorem d1_16 : decode prog_94_method_6_code 16 = .ok (.iconst 0, 1) := by decide +kernel
def f1 (p0 : Int32) : Int32 := (if p0 = (32 : Int32) then (1 : Int32) else (if p0 = (9 : Int32) then (1 : Int32) else (0 : Int32)))
def Q1 (Z : State) (p0 : Int32) (h0 : Heap) (n0 : Nat) (v : Option Value) (h : Heap) (L : List Loc) : Prop := v = some (.int (f1 p0)) ∧ Fr n0 L ∧ h = h0
set_option maxRecDepth 65536 in
set_option maxHeartbeats 40000000 in
theorem pn_com_example_tallygate_tallygate_web_HttpSyntax : plainName "com/example/tallygate/tallygate/web/HttpSyntax" = true := by first | (simp [plainName, overriddenIn]; done) | decide +kernel
theorem rm1 (l : Launch) (Z : State) (a0 : Array Value) (hw : ∀ d ∈ tables_1, d.before a0 Z = true) (ws : List Jvm.Cond) (p0 : Int32) (h0 : Heap) (n0 : Nat) (Z0 : n0 ≤ h0.size) :
    MetFree l (⟨"com/example/tallygate/tallygate/web/HttpSyntax", "isBlank", "(C)Z"⟩ : MethodName) (head1 (Jvm.Cond.code (⟨"com/example/tallygate/tallygate/web/HttpSyntax", "isBlank", "(C)Z"⟩ : MethodName) prog_94_method_6_code 1 (some .boolean) :: ws) ({ frames := 0, cells := 0, slots := 0, locals := 0 } : Room)) (fun a U => a = #[(.int p0)] ∧ Z.Warmed39 U.vm ∧ U.heap = h0) (fun _ _ _ _ _ => True) (fun _ U o U' => ∃ v L, o = .returned v ∧ Q1 Z p0 h0 n0 v U'.heap L ∧ FrameEnd U o U' L ({ frames := 0, cells := 0, slots := 0, locals := 0 } : Room).cells ({ frames := 0, cells := 0, slots := 0, locals := 0 } : Room).slots) := by
  refine MetFree.of_bodySF (plainFor_of_name pn_com_example_tallygate_tallygate_web_HttpSyntax) hisR ?_
  intro p e s m args below meth c s₁ Bd hml0 hP hK
  obtain ⟨rfl, hZ, hh⟩ := hP
  have hx := Bd.exec
  have hby := Bd.bytes
  have hml : c.maxLocals = 1 := hml0
  have hown : s.vm.findClass "com/example/tallygate/tallygate/web/HttpSyntax" = some m.cls := findClass_of_methodNamed Bd.named
  have hnm := (name_of_methodNamed Bd.named Bd.method).1
  have X0 : Stand p l e ({ frames := 0, cells := 0, slots := 0, locals := 0 } : Room) s m #[(.int p0)] below meth c s₁ [] 0 0 := Stand.of_body Bd
  have e0 : s₁.heap = h0 := by rw [← hh, Bd.state]; rfl
  have N0 := Fr.nil n0
  have pre0 : Go p e below (s₁.setTop (entryFrame m #[(.int p0)] 1)) (s₁.setTop (mkF m 0 #[.val (.int p0)] [])) := fun t k => castTop (ef_1 m p0) k
  have pre1 : Go p e below (s₁.setTop (entryFrame m #[(.int p0)] 1)) (s₁.setTop (mkF m 3 #[.val (.int p0)] [(.int (32 : Int32)), (.int p0)])) := by
    intro t k
    refine pre0 t ?_
    show Steps p.tables e below (s₁.setTop (mkF m 0 #[.val (.int p0)] [])) _
    refine XS.iloadN X0.here hx rfl (hb hby d1_0) rfl ?_
    show Steps p.tables e below (s₁.setTop (mkF m 1 #[.val (.int p0)] [(.int p0)])) _
    refine XS.bipush X0.here hx rfl (hb hby d1_1) ?_
    show Steps p.tables e below (s₁.setTop (mkF m 3 #[.val (.int p0)] [(.int (32 : Int32)), (.int p0)])) _
    exact k
  by_cases hc3_2 : p0 = (32 : Int32)
  · skip
    have pre3 : Go p e below (s₁.setTop (entryFrame m #[(.int p0)] 1)) (s₁.setTop (mkF m 17 #[.val (.int p0)] [(.int (1 : Int32))])) := by
      intro t k
      refine pre1 t ?_
      show Steps p.tables e below (s₁.setTop (mkF m 3 #[.val (.int p0)] [(.int (32 : Int32)), (.int p0)])) _
      refine XS.icmpYes X0.here hx rfl (pc0 := 3) (pc' := 12) rfl (hb hby d1_3) rfl (XT.ii_eq_t hc3_2) (by decide) (by decide) ?_
      show Steps p.tables e below (s₁.setTop (mkF m 12 #[.val (.int p0)] [])) _
      refine XS.iconst X0.here hx rfl (hb hby d1_12) ?_
      show Steps p.tables e below (s₁.setTop (mkF m 13 #[.val (.int p0)] [(.int (1 : Int32))])) _
      refine XS.goto X0.here hx rfl (pc0 := 13) (pc' := 17) rfl (hb hby d1_13) (by decide) (by decide) ?_
      show Steps p.tables e below (s₁.setTop (mkF m 17 #[.val (.int p0)] [(.int (1 : Int32))])) _
      exact k
    obtain ⟨fs, hr, hrun, hended, hW, hsame⟩ := X0.leave (v := some (.int (1 : Int32))) (fun h => by rw [Bd.returns] at h; cases h)
    refine ⟨_, _, pre3 _ (retN X0 hx (t := .boolean) Bd.returns (by simp) (hb hby d1_17) hr), hrun, hended, _, _, rfl, ?_, ⟨_, rfl⟩, hW, hsame.mono (by decide) (by decide)⟩
    show Q1 Z p0 h0 n0 _ s₁.heap _
    rw [e0]
    exact ⟨congrArg some (congrArg Value.int (show (1 : Int32) = f1 p0 from by rw [f1, if_pos hc3_2])), N0, rfl⟩
  · skip
    have pre4 : Go p e below (s₁.setTop (entryFrame m #[(.int p0)] 1)) (s₁.setTop (mkF m 9 #[.val (.int p0)] [(.int (9 : Int32)), (.int p0)])) := by
      intro t k
      refine pre1 t ?_
      show Steps p.tables e below (s₁.setTop (mkF m 3 #[.val (.int p0)] [(.int (32 : Int32)), (.int p0)])) _
      refine XS.icmpNo X0.here hx rfl (hb hby d1_3) rfl (XT.ii_eq_f hc3_2) ?_
      show Steps p.tables e below (s₁.setTop (mkF m 6 #[.val (.int p0)] [])) _
      refine XS.iloadN X0.here hx rfl (hb hby d1_6) rfl ?_
      show Steps p.tables e below (s₁.setTop (mkF m 7 #[.val (.int p0)] [(.int p0)])) _
      refine XS.bipush X0.here hx rfl (hb hby d1_7) ?_
      show Steps p.tables e below (s₁.setTop (mkF m 9 #[.val (.int p0)] [(.int (9 : Int32)), (.int p0)])) _
      exact k
    by_cases hc9_5 : p0 = (9 : Int32)
    · skip
      have pre6 : Go p e below (s₁.setTop (entryFrame m #[(.int p0)] 1)) (s₁.setTop (mkF m 17 #[.val (.int p0)] [(.int (1 : Int32))])) := by
        intro t k
        refine pre4 t ?_
        show Steps p.tables e below (s₁.setTop (mkF m 9 #[.val (.int p0)] [(.int (9 : Int32)), (.int p0)])) _
        refine XS.icmpNo X0.here hx rfl (hb hby d1_9) rfl (XT.ii_ne_f hc9_5) ?_
        show Steps p.tables e below (s₁.setTop (mkF m 12 #[.val (.int p0)] [])) _
        refine XS.iconst X0.here hx rfl (hb hby d1_12) ?_
        show Steps p.tables e below (s₁.setTop (mkF m 13 #[.val (.int p0)] [(.int (1 : Int32))])) _
        refine XS.goto X0.here hx rfl (pc0 := 13) (pc' := 17) rfl (hb hby d1_13) (by decide) (by decide) ?_
        show Steps p.tables e below (s₁.setTop (mkF m 17 #[.val (.int p0)] [(.int (1 : Int32))])) _
        exact k
      obtain ⟨fs, hr, hrun, hended, hW, hsame⟩ := X0.leave (v := some (.int (1 : Int32))) (fun h => by rw [Bd.returns] at h; cases h)
      refine ⟨_, _, pre6 _ (retN X0 hx (t := .boolean) Bd.returns (by simp) (hb hby d1_17) hr), hrun, hended, _, _, rfl, ?_, ⟨_, rfl⟩, hW, hsame.mono (by decide) (by decide)⟩
      show Q1 Z p0 h0 n0 _ s₁.heap _
      rw [e0]
      exact ⟨congrArg some (congrArg Value.int (show (1 : Int32) = f1 p0 from by rw [f1, if_neg hc3_2, if_pos hc9_5])), N0, rfl⟩
    · skip
      have pre7 : Go p e below (s₁.setTop (entryFrame m #[(.int p0)] 1)) (s₁.setTop (mkF m 17 #[.val (.int p0)] [(.int (0 : Int32))])) := by
        intro t k
        refine pre4 t ?_
        show Steps p.tables e below (s₁.setTop (mkF m 9 #[.val (.int p0)] [(.int (9 : Int32)), (.int p0)])) _
        refine XS.icmpYes X0.here hx rfl (pc0 := 9) (pc' := 16) rfl (hb hby d1_9) rfl (XT.ii_ne_t hc9_5) (by decide) (by decide) ?_
        show Steps p.tables e below (s₁.setTop (mkF m 16 #[.val (.int p0)] [])) _
        refine XS.iconst X0.here hx rfl (hb hby d1_16) ?_
        show Steps p.tables e below (s₁.setTop (mkF m 17 #[.val (.int p0)] [(.int (0 : Int32))])) _
        exact k
      obtain ⟨fs, hr, hrun, hended, hW, hsame⟩ := X0.leave (v := some (.int (0 : Int32))) (fun h => by rw [Bd.returns] at h; cases h)
      refine ⟨_, _, pre7 _ (retN X0 hx (t := .boolean) Bd.returns (by simp) (hb hby d1_17) hr), hrun, hended, _, _, rfl, ?_, ⟨_, rfl⟩, hW, hsame.mono (by decide) (by decide)⟩
      show Q1 Z p0 h0 n0 _ s₁.heap _
      rw [e0]
      exact ⟨congrArg some (congrArg Value.int (show (0 : Int32) = f1 p0 from by rw [f1, if_neg hc3_2, if_neg hc9_5])), N0, rfl⟩
def own_tab : List Int32 := [9, 32, 10, 11, 12, 13, 0, 160, 8201, 12288, 65279, 8, 31, 33, 265, 288, 65535]
theorem own_in (x : Int32) : ¬ ((x &&& (2147483647 : Int32)) % (17 : Int32)) < 0 ∧ ((x &&& (2147483647 : Int32)) % (17 : Int32)) < 17 := by
  have h := own_rem x 17 (by decide)
  rw [Int32.lt_iff_toInt_lt, Int32.lt_iff_toInt_lt]
  have c1 : (17 : Int32).toInt = 17 := rfl
  have c0 : (0 : Int32).toInt = 0 := rfl
  omega
theorem ef_0 (m : MethodId) (x0 : Int32) (x1 : Int32) : entryFrame m #[(.int x0), (.int x1)] maxLocals = mkF m 0 #[.val (.int x0), .val (.int x1), .unset, .unset, .unset, .unset, .unset] [] := by first | (simp [entryFrame, mkF, argsToLocals, Value.category, maxLocals]; done) | rfl
theorem pd_1 : parseMethodDescriptor "(C)Z" = some ⟨[.char], some .boolean⟩ := by decide +kernel
def Q0 (Z : State) (x0 : Int32) (x1 : Int32) (h0 : Heap) (n0 : Nat) (v : Option Value) (h : Heap) (L : List Loc) : Prop := v = some (.int 1) ∧ Fr n0 L
theorem pn_com_example_tallygate_tallygate_web_HttpSyntaxIsBlankPinLaw : plainName "com/example/tallygate/tallygate/web/HttpSyntaxIsBlankPinLaw" = true := by first | (simp [plainName, overriddenIn]; done) | decide +kernel
set_option maxRecDepth 65536 in
set_option maxHeartbeats 40000000 in
theorem rm0 (l : Launch) (Z : State) (a0 : Array Value) (hw : ∀ d ∈ tables_1, d.before a0 Z = true) (ws : List Jvm.Cond) (x0 : Int32) (x1 : Int32) (h0 : Heap) (n0 : Nat) (Z0 : n0 ≤ h0.size) :
    MetFree l x (head1 (Jvm.Cond.code x code maxLocals ret :: ws) room_1) (fun a U => a = #[(.int x0), (.int x1)] ∧ Z.Warmed39 U.vm ∧ U.heap = h0) (fun _ _ _ _ _ => True) (fun _ U o U' => ∃ v L, o = .returned v ∧ Q0 Z x0 x1 h0 n0 v U'.heap L ∧ FrameEnd U o U' L 16 128) := by
  refine MetFree.of_bodySF (plainFor_of_name pn_com_example_tallygate_tallygate_web_HttpSyntaxIsBlankPinLaw) hisR ?_
  intro p e s m args below meth c s₁ Bd hml0 hP hK
  obtain ⟨rfl, hZ, hh⟩ := hP
  have hx := Bd.exec
  have hby := Bd.bytes
  have hml : c.maxLocals = 7 := hml0
  have hown : s.vm.findClass "com/example/tallygate/tallygate/web/HttpSyntaxIsBlankPinLaw" = some m.cls := findClass_of_methodNamed Bd.named
  have hnm := (name_of_methodNamed Bd.named Bd.method).1
  have X0 : Stand p l e room_1 s m #[(.int x0), (.int x1)] below meth c s₁ [] 0 0 := Stand.of_body Bd
  have e0 : s₁.heap = h0 := by rw [← hh, Bd.state]; rfl
  have N0 := Fr.nil n0
  have pre0 : Go p e below (s₁.setTop (entryFrame m #[(.int x0), (.int x1)] maxLocals)) (s₁.setTop (mkF m 0 #[.val (.int x0), .val (.int x1), .unset, .unset, .unset, .unset, .unset] [])) := fun t k => castTop (ef_0 m x0 x1) k
  have pre1 : Go p e below (s₁.setTop (entryFrame m #[(.int x0), (.int x1)] maxLocals)) (s₁.setTop (mkF m 2 #[.val (.int x0), .val (.int x1), .unset, .unset, .unset, .unset, .unset] [(.int (17 : Int32))])) := by
    intro t k
    refine pre0 t ?_
    show Steps p.tables e below (s₁.setTop (mkF m 0 #[.val (.int x0), .val (.int x1), .unset, .unset, .unset, .unset, .unset] [])) _
    refine XS.bipush X0.here hx rfl (hb hby at_0) ?_
    show Steps p.tables e below (s₁.setTop (mkF m 2 #[.val (.int x0), .val (.int x1), .unset, .unset, .unset, .unset, .unset] [(.int (17 : Int32))])) _
    exact k
  obtain ⟨T2, h2, k2, X2, e2, E2, A2, st2⟩ := newP X0 hx hZ (hw _ (List.mem_of_getElem? (i := 0) rfl)) e0 (g := (mkF m 2 #[.val (.int x0), .val (.int x1), .unset, .unset, .unset, .unset, .unset] [(.int (17 : Int32))])) rfl (hb hby at_2) rfl (by decide) (cap := 17) (by decide) (by decide) (by decide) (by decide)
  obtain ⟨b0, g2⟩ : ∃ z, z = h0.size := ⟨_, rfl⟩
  rw [← g2] at A2 st2
  have zz3 := (Nat.le_trans Z0 E2.1)
  have V_b0 : Arv Z h2 b0 k2 .char (17 : Int32) [(.int (0 : Int32)), (.int (0 : Int32)), (.int (0 : Int32)), (.int (0 : Int32)), (.int (0 : Int32)), (.int (0 : Int32)), (.int (0 : Int32)), (.int (0 : Int32)), (.int (0 : Int32)), (.int (0 : Int32)), (.int (0 : Int32)), (.int (0 : Int32)), (.int (0 : Int32)), (.int (0 : Int32)), (.int (0 : Int32)), (.int (0 : Int32)), (.int (0 : Int32))] (.int (0 : Int32)) := (Arv.new A2 (by decide)).pad (pad_rep [] (.int (0 : Int32)) 17)
  have g_b0 : n0 ≤ b0 := Nat.le_trans Z0 (Nat.le_of_eq g2.symm)
  have pre4 : Go p e below (s₁.setTop (entryFrame m #[(.int x0), (.int x1)] maxLocals)) (T2.setTop (mkF m 4 #[.val (.int x0), .val (.int x1), .unset, .unset, .unset, .unset, .unset] [(.ref b0)])) := fun t k => pre1 t (st2 t k)
  have pre5 : Go p e below (s₁.setTop (entryFrame m #[(.int x0), (.int x1)] maxLocals)) (T2.setTop (mkF m 8 #[.val (.int x0), .val (.int x1), .unset, .unset, .unset, .unset, .unset] [(.int (9 : Int32)), (.int (0 : Int32)), (.ref b0), (.ref b0)])) := by
    intro t k
    refine pre4 t ?_
    show Steps p.tables e below (T2.setTop (mkF m 4 #[.val (.int x0), .val (.int x1), .unset, .unset, .unset, .unset, .unset] [(.ref b0)])) _
    refine XS.dup X2.here hx rfl (hb hby at_4) rfl rfl ?_
    show Steps p.tables e below (T2.setTop (mkF m 5 #[.val (.int x0), .val (.int x1), .unset, .unset, .unset, .unset, .unset] [(.ref b0), (.ref b0)])) _
    refine XS.iconst X2.here hx rfl (hb hby at_5) ?_
    show Steps p.tables e below (T2.setTop (mkF m 6 #[.val (.int x0), .val (.int x1), .unset, .unset, .unset, .unset, .unset] [(.int (0 : Int32)), (.ref b0), (.ref b0)])) _
    refine XS.bipush X2.here hx rfl (hb hby at_6) ?_
    show Steps p.tables e below (T2.setTop (mkF m 8 #[.val (.int x0), .val (.int x1), .unset, .unset, .unset, .unset, .unset] [(.int (9 : Int32)), (.int (0 : Int32)), (.ref b0), (.ref b0)])) _
    exact k
  obtain ⟨cl6, Ar6, qq6, SS6, NN6, HH6, GG6⟩ := V_b0
  have hin6 : ¬ ((0 : Int32) < 0 ∨ cl6.slots.size ≤ ((0 : Int32)).toNatClampNeg) := inb_of SS6 ⟨by decide, by decide⟩
  obtain ⟨T6, h6, X6, e6, W6, st6⟩ := stC X2 hx hZ e2 Ar6 (j := (0 : Int32)) hin6 (g := (mkF m 8 #[.val (.int x0), .val (.int x1), .unset, .unset, .unset, .unset, .unset] [(.int (9 : Int32)), (.int (0 : Int32)), (.ref b0), (.ref b0)])) rfl rfl (hb hby at_8)
  have V6 : Arv Z h6 b0 k2 .char (17 : Int32) [(.int (9 : Int32)), (.int (0 : Int32)), (.int (0 : Int32)), (.int (0 : Int32)), (.int (0 : Int32)), (.int (0 : Int32)), (.int (0 : Int32)), (.int (0 : Int32)), (.int (0 : Int32)), (.int (0 : Int32)), (.int (0 : Int32)), (.int (0 : Int32)), (.int (0 : Int32)), (.int (0 : Int32)), (.int (0 : Int32)), (.int (0 : Int32)), (.int (0 : Int32))] (.int (0 : Int32)) := Arv.set Ar6 qq6 SS6 NN6 HH6 GG6 (fits_nar_char _) W6 0 rfl (Nat.le_of_ble_eq_true rfl)
  have zz7 := (Nat.le_trans zz3 (Keep.of_wr W6).1)
  have N6 := Fr.snoc X6 N0 g_b0
  have pre8 : Go p e below (s₁.setTop (entryFrame m #[(.int x0), (.int x1)] maxLocals)) (T6.setTop (mkF m 9 #[.val (.int x0), .val (.int x1), .unset, .unset, .unset, .unset, .unset] [(.ref b0)])) := fun t k => pre5 t (st6 t k)
  have pre9 : Go p e below (s₁.setTop (entryFrame m #[(.int x0), (.int x1)] maxLocals)) (T6.setTop (mkF m 13 #[.val (.int x0), .val (.int x1), .unset, .unset, .unset, .unset, .unset] [(.int (32 : Int32)), (.int (1 : Int32)), (.ref b0), (.ref b0)])) := by
    intro t k
    refine pre8 t ?_
    show Steps p.tables e below (T6.setTop (mkF m 9 #[.val (.int x0), .val (.int x1), .unset, .unset, .unset, .unset, .unset] [(.ref b0)])) _
    refine XS.dup X6.here hx rfl (hb hby at_9) rfl rfl ?_
    show Steps p.tables e below (T6.setTop (mkF m 10 #[.val (.int x0), .val (.int x1), .unset, .unset, .unset, .unset, .unset] [(.ref b0), (.ref b0)])) _
    refine XS.iconst X6.here hx rfl (hb hby at_10) ?_
    show Steps p.tables e below (T6.setTop (mkF m 11 #[.val (.int x0), .val (.int x1), .unset, .unset, .unset, .unset, .unset] [(.int (1 : Int32)), (.ref b0), (.ref b0)])) _
    refine XS.bipush X6.here hx rfl (hb hby at_11) ?_
    show Steps p.tables e below (T6.setTop (mkF m 13 #[.val (.int x0), .val (.int x1), .unset, .unset, .unset, .unset, .unset] [(.int (32 : Int32)), (.int (1 : Int32)), (.ref b0), (.ref b0)])) _
    exact k
  obtain ⟨cl10, Ar10, qq10, SS10, NN10, HH10, GG10⟩ := V6
  have hin10 : ¬ ((1 : Int32) < 0 ∨ cl10.slots.size ≤ ((1 : Int32)).toNatClampNeg) := inb_of SS10 ⟨by decide, by decide⟩
  obtain ⟨T10, h10, X10, e10, W10, st10⟩ := stC X6 hx hZ e6 Ar10 (j := (1 : Int32)) hin10 (g := (mkF m 13 #[.val (.int x0), .val (.int x1), .unset, .unset, .unset, .unset, .unset] [(.int (32 : Int32)), (.int (1 : Int32)), (.ref b0), (.ref b0)])) rfl rfl (hb hby at_13)
  have V10 : Arv Z h10 b0 k2 .char (17 : Int32) [(.int (9 : Int32)), (.int (32 : Int32)), (.int (0 : Int32)), (.int (0 : Int32)), (.int (0 : Int32)), (.int (0 : Int32)), (.int (0 : Int32)), (.int (0 : Int32)), (.int (0 : Int32)), (.int (0 : Int32)), (.int (0 : Int32)), (.int (0 : Int32)), (.int (0 : Int32)), (.int (0 : Int32)), (.int (0 : Int32)), (.int (0 : Int32)), (.int (0 : Int32))] (.int (0 : Int32)) := Arv.set Ar10 qq10 SS10 NN10 HH10 GG10 (fits_nar_char _) W10 1 rfl (Nat.le_of_ble_eq_true rfl)
  have zz11 := (Nat.le_trans zz7 (Keep.of_wr W10).1)
  have N10 := Fr.snoc X10 N6 g_b0
  have pre12 : Go p e below (s₁.setTop (entryFrame m #[(.int x0), (.int x1)] maxLocals)) (T10.setTop (mkF m 14 #[.val (.int x0), .val (.int x1), .unset, .unset, .unset, .unset, .unset] [(.ref b0)])) := fun t k => pre9 t (st10 t k)
  have pre13 : Go p e below (s₁.setTop (entryFrame m #[(.int x0), (.int x1)] maxLocals)) (T10.setTop (mkF m 18 #[.val (.int x0), .val (.int x1), .unset, .unset, .unset, .unset, .unset] [(.int (10 : Int32)), (.int (2 : Int32)), (.ref b0), (.ref b0)])) := by
    intro t k
    refine pre12 t ?_
    show Steps p.tables e below (T10.setTop (mkF m 14 #[.val (.int x0), .val (.int x1), .unset, .unset, .unset, .unset, .unset] [(.ref b0)])) _
    refine XS.dup X10.here hx rfl (hb hby at_14) rfl rfl ?_
    show Steps p.tables e below (T10.setTop (mkF m 15 #[.val (.int x0), .val (.int x1), .unset, .unset, .unset, .unset, .unset] [(.ref b0), (.ref b0)])) _
    refine XS.iconst X10.here hx rfl (hb hby at_15) ?_
    show Steps p.tables e below (T10.setTop (mkF m 16 #[.val (.int x0), .val (.int x1), .unset, .unset, .unset, .unset, .unset] [(.int (2 : Int32)), (.ref b0), (.ref b0)])) _
    refine XS.bipush X10.here hx rfl (hb hby at_16) ?_
    show Steps p.tables e below (T10.setTop (mkF m 18 #[.val (.int x0), .val (.int x1), .unset, .unset, .unset, .unset, .unset] [(.int (10 : Int32)), (.int (2 : Int32)), (.ref b0), (.ref b0)])) _
    exact k
  obtain ⟨cl14, Ar14, qq14, SS14, NN14, HH14, GG14⟩ := V10
  have hin14 : ¬ ((2 : Int32) < 0 ∨ cl14.slots.size ≤ ((2 : Int32)).toNatClampNeg) := inb_of SS14 ⟨by decide, by decide⟩
  obtain ⟨T14, h14, X14, e14, W14, st14⟩ := stC X10 hx hZ e10 Ar14 (j := (2 : Int32)) hin14 (g := (mkF m 18 #[.val (.int x0), .val (.int x1), .unset, .unset, .unset, .unset, .unset] [(.int (10 : Int32)), (.int (2 : Int32)), (.ref b0), (.ref b0)])) rfl rfl (hb hby at_18)
  have V14 : Arv Z h14 b0 k2 .char (17 : Int32) [(.int (9 : Int32)), (.int (32 : Int32)), (.int (10 : Int32)), (.int (0 : Int32)), (.int (0 : Int32)), (.int (0 : Int32)), (.int (0 : Int32)), (.int (0 : Int32)), (.int (0 : Int32)), (.int (0 : Int32)), (.int (0 : Int32)), (.int (0 : Int32)), (.int (0 : Int32)), (.int (0 : Int32)), (.int (0 : Int32)), (.int (0 : Int32)), (.int (0 : Int32))] (.int (0 : Int32)) := Arv.set Ar14 qq14 SS14 NN14 HH14 GG14 (fits_nar_char _) W14 2 rfl (Nat.le_of_ble_eq_true rfl)
  have zz15 := (Nat.le_trans zz11 (Keep.of_wr W14).1)
  have N14 := Fr.snoc X14 N10 g_b0
  have pre16 : Go p e below (s₁.setTop (entryFrame m #[(.int x0), (.int x1)] maxLocals)) (T14.setTop (mkF m 19 #[.val (.int x0), .val (.int x1), .unset, .unset, .unset, .unset, .unset] [(.ref b0)])) := fun t k => pre13 t (st14 t k)
  have pre17 : Go p e below (s₁.setTop (entryFrame m #[(.int x0), (.int x1)] maxLocals)) (T14.setTop (mkF m 23 #[.val (.int x0), .val (.int x1), .unset, .unset, .unset, .unset, .unset] [(.int (11 : Int32)), (.int (3 : Int32)), (.ref b0), (.ref b0)])) := by
    intro t k
    refine pre16 t ?_
    show Steps p.tables e below (T14.setTop (mkF m 19 #[.val (.int x0), .val (.int x1), .unset, .unset, .unset, .unset, .unset] [(.ref b0)])) _
    refine XS.dup X14.here hx rfl (hb hby at_19) rfl rfl ?_
    show Steps p.tables e below (T14.setTop (mkF m 20 #[.val (.int x0), .val (.int x1), .unset, .unset, .unset, .unset, .unset] [(.ref b0), (.ref b0)])) _
    refine XS.iconst X14.here hx rfl (hb hby at_20) ?_
    show Steps p.tables e below (T14.setTop (mkF m 21 #[.val (.int x0), .val (.int x1), .unset, .unset, .unset, .unset, .unset] [(.int (3 : Int32)), (.ref b0), (.ref b0)])) _
    refine XS.bipush X14.here hx rfl (hb hby at_21) ?_
    show Steps p.tables e below (T14.setTop (mkF m 23 #[.val (.int x0), .val (.int x1), .unset, .unset, .unset, .unset, .unset] [(.int (11 : Int32)), (.int (3 : Int32)), (.ref b0), (.ref b0)])) _
    exact k
  obtain ⟨cl18, Ar18, qq18, SS18, NN18, HH18, GG18⟩ := V14
  have hin18 : ¬ ((3 : Int32) < 0 ∨ cl18.slots.size ≤ ((3 : Int32)).toNatClampNeg) := inb_of SS18 ⟨by decide, by decide⟩
  obtain ⟨T18, h18, X18, e18, W18, st18⟩ := stC X14 hx hZ e14 Ar18 (j := (3 : Int32)) hin18 (g := (mkF m 23 #[.val (.int x0), .val (.int x1), .unset, .unset, .unset, .unset, .unset] [(.int (11 : Int32)), (.int (3 : Int32)), (.ref b0), (.ref b0)])) rfl rfl (hb hby at_23)
  have V18 : Arv Z h18 b0 k2 .char (17 : Int32) [(.int (9 : Int32)), (.int (32 : Int32)), (.int (10 : Int32)), (.int (11 : Int32)), (.int (0 : Int32)), (.int (0 : Int32)), (.int (0 : Int32)), (.int (0 : Int32)), (.int (0 : Int32)), (.int (0 : Int32)), (.int (0 : Int32)), (.int (0 : Int32)), (.int (0 : Int32)), (.int (0 : Int32)), (.int (0 : Int32)), (.int (0 : Int32)), (.int (0 : Int32))] (.int (0 : Int32)) := Arv.set Ar18 qq18 SS18 NN18 HH18 GG18 (fits_nar_char _) W18 3 rfl (Nat.le_of_ble_eq_true rfl)
  have zz19 := (Nat.le_trans zz15 (Keep.of_wr W18).1)
  have N18 := Fr.snoc X18 N14 g_b0
  have pre20 : Go p e below (s₁.setTop (entryFrame m #[(.int x0), (.int x1)] maxLocals)) (T18.setTop (mkF m 24 #[.val (.int x0), .val (.int x1), .unset, .unset, .unset, .unset, .unset] [(.ref b0)])) := fun t k => pre17 t (st18 t k)
  have pre21 : Go p e below (s₁.setTop (entryFrame m #[(.int x0), (.int x1)] maxLocals)) (T18.setTop (mkF m 28 #[.val (.int x0), .val (.int x1), .unset, .unset, .unset, .unset, .unset] [(.int (12 : Int32)), (.int (4 : Int32)), (.ref b0), (.ref b0)])) := by
    intro t k
    refine pre20 t ?_
    show Steps p.tables e below (T18.setTop (mkF m 24 #[.val (.int x0), .val (.int x1), .unset, .unset, .unset, .unset, .unset] [(.ref b0)])) _
    refine XS.dup X18.here hx rfl (hb hby at_24) rfl rfl ?_
    show Steps p.tables e below (T18.setTop (mkF m 25 #[.val (.int x0), .val (.int x1), .unset, .unset, .unset, .unset, .unset] [(.ref b0), (.ref b0)])) _
    refine XS.iconst X18.here hx rfl (hb hby at_25) ?_
    show Steps p.tables e below (T18.setTop (mkF m 26 #[.val (.int x0), .val (.int x1), .unset, .unset, .unset, .unset, .unset] [(.int (4 : Int32)), (.ref b0), (.ref b0)])) _
    refine XS.bipush X18.here hx rfl (hb hby at_26) ?_
    show Steps p.tables e below (T18.setTop (mkF m 28 #[.val (.int x0), .val (.int x1), .unset, .unset, .unset, .unset, .unset] [(.int (12 : Int32)), (.int (4 : Int32)), (.ref b0), (.ref b0)])) _
    exact k
  obtain ⟨cl22, Ar22, qq22, SS22, NN22, HH22, GG22⟩ := V18
  have hin22 : ¬ ((4 : Int32) < 0 ∨ cl22.slots.size ≤ ((4 : Int32)).toNatClampNeg) := inb_of SS22 ⟨by decide, by decide⟩
  obtain ⟨T22, h22, X22, e22, W22, st22⟩ := stC X18 hx hZ e18 Ar22 (j := (4 : Int32)) hin22 (g := (mkF m 28 #[.val (.int x0), .val (.int x1), .unset, .unset, .unset, .unset, .unset] [(.int (12 : Int32)), (.int (4 : Int32)), (.ref b0), (.ref b0)])) rfl rfl (hb hby at_28)
  have V22 : Arv Z h22 b0 k2 .char (17 : Int32) [(.int (9 : Int32)), (.int (32 : Int32)), (.int (10 : Int32)), (.int (11 : Int32)), (.int (12 : Int32)), (.int (0 : Int32)), (.int (0 : Int32)), (.int (0 : Int32)), (.int (0 : Int32)), (.int (0 : Int32)), (.int (0 : Int32)), (.int (0 : Int32)), (.int (0 : Int32)), (.int (0 : Int32)), (.int (0 : Int32)), (.int (0 : Int32)), (.int (0 : Int32))] (.int (0 : Int32)) := Arv.set Ar22 qq22 SS22 NN22 HH22 GG22 (fits_nar_char _) W22 4 rfl (Nat.le_of_ble_eq_true rfl)
  have zz23 := (Nat.le_trans zz19 (Keep.of_wr W22).1)
  have N22 := Fr.snoc X22 N18 g_b0
  have pre24 : Go p e below (s₁.setTop (entryFrame m #[(.int x0), (.int x1)] maxLocals)) (T22.setTop (mkF m 29 #[.val (.int x0), .val (.int x1), .unset, .unset, .unset, .unset, .unset] [(.ref b0)])) := fun t k => pre21 t (st22 t k)
  have pre25 : Go p e below (s₁.setTop (entryFrame m #[(.int x0), (.int x1)] maxLocals)) (T22.setTop (mkF m 33 #[.val (.int x0), .val (.int x1), .unset, .unset, .unset, .unset, .unset] [(.int (13 : Int32)), (.int (5 : Int32)), (.ref b0), (.ref b0)])) := by
    intro t k
    refine pre24 t ?_
    show Steps p.tables e below (T22.setTop (mkF m 29 #[.val (.int x0), .val (.int x1), .unset, .unset, .unset, .unset, .unset] [(.ref b0)])) _
    refine XS.dup X22.here hx rfl (hb hby at_29) rfl rfl ?_
    show Steps p.tables e below (T22.setTop (mkF m 30 #[.val (.int x0), .val (.int x1), .unset, .unset, .unset, .unset, .unset] [(.ref b0), (.ref b0)])) _
    refine XS.iconst X22.here hx rfl (hb hby at_30) ?_
    show Steps p.tables e below (T22.setTop (mkF m 31 #[.val (.int x0), .val (.int x1), .unset, .unset, .unset, .unset, .unset] [(.int (5 : Int32)), (.ref b0), (.ref b0)])) _
    refine XS.bipush X22.here hx rfl (hb hby at_31) ?_
    show Steps p.tables e below (T22.setTop (mkF m 33 #[.val (.int x0), .val (.int x1), .unset, .unset, .unset, .unset, .unset] [(.int (13 : Int32)), (.int (5 : Int32)), (.ref b0), (.ref b0)])) _
    exact k
  obtain ⟨cl26, Ar26, qq26, SS26, NN26, HH26, GG26⟩ := V22
  have hin26 : ¬ ((5 : Int32) < 0 ∨ cl26.slots.size ≤ ((5 : Int32)).toNatClampNeg) := inb_of SS26 ⟨by decide, by decide⟩
  obtain ⟨T26, h26, X26, e26, W26, st26⟩ := stC X22 hx hZ e22 Ar26 (j := (5 : Int32)) hin26 (g := (mkF m 33 #[.val (.int x0), .val (.int x1), .unset, .unset, .unset, .unset, .unset] [(.int (13 : Int32)), (.int (5 : Int32)), (.ref b0), (.ref b0)])) rfl rfl (hb hby at_33)
  have V26 : Arv Z h26 b0 k2 .char (17 : Int32) [(.int (9 : Int32)), (.int (32 : Int32)), (.int (10 : Int32)), (.int (11 : Int32)), (.int (12 : Int32)), (.int (13 : Int32)), (.int (0 : Int32)), (.int (0 : Int32)), (.int (0 : Int32)), (.int (0 : Int32)), (.int (0 : Int32)), (.int (0 : Int32)), (.int (0 : Int32)), (.int (0 : Int32)), (.int (0 : Int32)), (.int (0 : Int32)), (.int (0 : Int32))] (.int (0 : Int32)) := Arv.set Ar26 qq26 SS26 NN26 HH26 GG26 (fits_nar_char _) W26 5 rfl (Nat.le_of_ble_eq_true rfl)
  have zz27 := (Nat.le_trans zz23 (Keep.of_wr W26).1)
  have N26 := Fr.snoc X26 N22 g_b0
  have pre28 : Go p e below (s₁.setTop (entryFrame m #[(.int x0), (.int x1)] maxLocals)) (T26.setTop (mkF m 34 #[.val (.int x0), .val (.int x1), .unset, .unset, .unset, .unset, .unset] [(.ref b0)])) := fun t k => pre25 t (st26 t k)
  have pre29 : Go p e below (s₁.setTop (entryFrame m #[(.int x0), (.int x1)] maxLocals)) (T26.setTop (mkF m 38 #[.val (.int x0), .val (.int x1), .unset, .unset, .unset, .unset, .unset] [(.int (0 : Int32)), (.int (6 : Int32)), (.ref b0), (.ref b0)])) := by
    intro t k
    refine pre28 t ?_
    show Steps p.tables e below (T26.setTop (mkF m 34 #[.val (.int x0), .val (.int x1), .unset, .unset, .unset, .unset, .unset] [(.ref b0)])) _
    refine XS.dup X26.here hx rfl (hb hby at_34) rfl rfl ?_
    show Steps p.tables e below (T26.setTop (mkF m 35 #[.val (.int x0), .val (.int x1), .unset, .unset, .unset, .unset, .unset] [(.ref b0), (.ref b0)])) _
    refine XS.bipush X26.here hx rfl (hb hby at_35) ?_
    show Steps p.tables e below (T26.setTop (mkF m 37 #[.val (.int x0), .val (.int x1), .unset, .unset, .unset, .unset, .unset] [(.int (6 : Int32)), (.ref b0), (.ref b0)])) _
    refine XS.iconst X26.here hx rfl (hb hby at_37) ?_
    show Steps p.tables e below (T26.setTop (mkF m 38 #[.val (.int x0), .val (.int x1), .unset, .unset, .unset, .unset, .unset] [(.int (0 : Int32)), (.int (6 : Int32)), (.ref b0), (.ref b0)])) _
    exact k
  obtain ⟨cl30, Ar30, qq30, SS30, NN30, HH30, GG30⟩ := V26
  have hin30 : ¬ ((6 : Int32) < 0 ∨ cl30.slots.size ≤ ((6 : Int32)).toNatClampNeg) := inb_of SS30 ⟨by decide, by decide⟩
  obtain ⟨T30, h30, X30, e30, W30, st30⟩ := stC X26 hx hZ e26 Ar30 (j := (6 : Int32)) hin30 (g := (mkF m 38 #[.val (.int x0), .val (.int x1), .unset, .unset, .unset, .unset, .unset] [(.int (0 : Int32)), (.int (6 : Int32)), (.ref b0), (.ref b0)])) rfl rfl (hb hby at_38)
  have V30 : Arv Z h30 b0 k2 .char (17 : Int32) [(.int (9 : Int32)), (.int (32 : Int32)), (.int (10 : Int32)), (.int (11 : Int32)), (.int (12 : Int32)), (.int (13 : Int32)), (.int (0 : Int32)), (.int (0 : Int32)), (.int (0 : Int32)), (.int (0 : Int32)), (.int (0 : Int32)), (.int (0 : Int32)), (.int (0 : Int32)), (.int (0 : Int32)), (.int (0 : Int32)), (.int (0 : Int32)), (.int (0 : Int32))] (.int (0 : Int32)) := Arv.set Ar30 qq30 SS30 NN30 HH30 GG30 (fits_nar_char _) W30 6 rfl (Nat.le_of_ble_eq_true rfl)
  have zz31 := (Nat.le_trans zz27 (Keep.of_wr W30).1)
  have N30 := Fr.snoc X30 N26 g_b0
  have pre32 : Go p e below (s₁.setTop (entryFrame m #[(.int x0), (.int x1)] maxLocals)) (T30.setTop (mkF m 39 #[.val (.int x0), .val (.int x1), .unset, .unset, .unset, .unset, .unset] [(.ref b0)])) := fun t k => pre29 t (st30 t k)
  have pre33 : Go p e below (s₁.setTop (entryFrame m #[(.int x0), (.int x1)] maxLocals)) (T30.setTop (mkF m 45 #[.val (.int x0), .val (.int x1), .unset, .unset, .unset, .unset, .unset] [(.int (160 : Int32)), (.int (7 : Int32)), (.ref b0), (.ref b0)])) := by
    intro t k
    refine pre32 t ?_
    show Steps p.tables e below (T30.setTop (mkF m 39 #[.val (.int x0), .val (.int x1), .unset, .unset, .unset, .unset, .unset] [(.ref b0)])) _
    refine XS.dup X30.here hx rfl (hb hby at_39) rfl rfl ?_
    show Steps p.tables e below (T30.setTop (mkF m 40 #[.val (.int x0), .val (.int x1), .unset, .unset, .unset, .unset, .unset] [(.ref b0), (.ref b0)])) _
    refine XS.bipush X30.here hx rfl (hb hby at_40) ?_
    show Steps p.tables e below (T30.setTop (mkF m 42 #[.val (.int x0), .val (.int x1), .unset, .unset, .unset, .unset, .unset] [(.int (7 : Int32)), (.ref b0), (.ref b0)])) _
    refine XS.sipush X30.here hx rfl (hb hby at_42) ?_
    show Steps p.tables e below (T30.setTop (mkF m 45 #[.val (.int x0), .val (.int x1), .unset, .unset, .unset, .unset, .unset] [(.int (160 : Int32)), (.int (7 : Int32)), (.ref b0), (.ref b0)])) _
    exact k
  obtain ⟨cl34, Ar34, qq34, SS34, NN34, HH34, GG34⟩ := V30
  have hin34 : ¬ ((7 : Int32) < 0 ∨ cl34.slots.size ≤ ((7 : Int32)).toNatClampNeg) := inb_of SS34 ⟨by decide, by decide⟩
  obtain ⟨T34, h34, X34, e34, W34, st34⟩ := stC X30 hx hZ e30 Ar34 (j := (7 : Int32)) hin34 (g := (mkF m 45 #[.val (.int x0), .val (.int x1), .unset, .unset, .unset, .unset, .unset] [(.int (160 : Int32)), (.int (7 : Int32)), (.ref b0), (.ref b0)])) rfl rfl (hb hby at_45)
  have V34 : Arv Z h34 b0 k2 .char (17 : Int32) [(.int (9 : Int32)), (.int (32 : Int32)), (.int (10 : Int32)), (.int (11 : Int32)), (.int (12 : Int32)), (.int (13 : Int32)), (.int (0 : Int32)), (.int (160 : Int32)), (.int (0 : Int32)), (.int (0 : Int32)), (.int (0 : Int32)), (.int (0 : Int32)), (.int (0 : Int32)), (.int (0 : Int32)), (.int (0 : Int32)), (.int (0 : Int32)), (.int (0 : Int32))] (.int (0 : Int32)) := Arv.set Ar34 qq34 SS34 NN34 HH34 GG34 (fits_nar_char _) W34 7 rfl (Nat.le_of_ble_eq_true rfl)
  have zz35 := (Nat.le_trans zz31 (Keep.of_wr W34).1)
  have N34 := Fr.snoc X34 N30 g_b0
  have pre36 : Go p e below (s₁.setTop (entryFrame m #[(.int x0), (.int x1)] maxLocals)) (T34.setTop (mkF m 46 #[.val (.int x0), .val (.int x1), .unset, .unset, .unset, .unset, .unset] [(.ref b0)])) := fun t k => pre33 t (st34 t k)
  have pre37 : Go p e below (s₁.setTop (entryFrame m #[(.int x0), (.int x1)] maxLocals)) (T34.setTop (mkF m 52 #[.val (.int x0), .val (.int x1), .unset, .unset, .unset, .unset, .unset] [(.int (8201 : Int32)), (.int (8 : Int32)), (.ref b0), (.ref b0)])) := by
    intro t k
    refine pre36 t ?_
    show Steps p.tables e below (T34.setTop (mkF m 46 #[.val (.int x0), .val (.int x1), .unset, .unset, .unset, .unset, .unset] [(.ref b0)])) _
    refine XS.dup X34.here hx rfl (hb hby at_46) rfl rfl ?_
    show Steps p.tables e below (T34.setTop (mkF m 47 #[.val (.int x0), .val (.int x1), .unset, .unset, .unset, .unset, .unset] [(.ref b0), (.ref b0)])) _
    refine XS.bipush X34.here hx rfl (hb hby at_47) ?_
    show Steps p.tables e below (T34.setTop (mkF m 49 #[.val (.int x0), .val (.int x1), .unset, .unset, .unset, .unset, .unset] [(.int (8 : Int32)), (.ref b0), (.ref b0)])) _
    refine XS.sipush X34.here hx rfl (hb hby at_49) ?_
    show Steps p.tables e below (T34.setTop (mkF m 52 #[.val (.int x0), .val (.int x1), .unset, .unset, .unset, .unset, .unset] [(.int (8201 : Int32)), (.int (8 : Int32)), (.ref b0), (.ref b0)])) _
    exact k
  obtain ⟨cl38, Ar38, qq38, SS38, NN38, HH38, GG38⟩ := V34
  have hin38 : ¬ ((8 : Int32) < 0 ∨ cl38.slots.size ≤ ((8 : Int32)).toNatClampNeg) := inb_of SS38 ⟨by decide, by decide⟩
  obtain ⟨T38, h38, X38, e38, W38, st38⟩ := stC X34 hx hZ e34 Ar38 (j := (8 : Int32)) hin38 (g := (mkF m 52 #[.val (.int x0), .val (.int x1), .unset, .unset, .unset, .unset, .unset] [(.int (8201 : Int32)), (.int (8 : Int32)), (.ref b0), (.ref b0)])) rfl rfl (hb hby at_52)
  have V38 : Arv Z h38 b0 k2 .char (17 : Int32) [(.int (9 : Int32)), (.int (32 : Int32)), (.int (10 : Int32)), (.int (11 : Int32)), (.int (12 : Int32)), (.int (13 : Int32)), (.int (0 : Int32)), (.int (160 : Int32)), (.int (8201 : Int32)), (.int (0 : Int32)), (.int (0 : Int32)), (.int (0 : Int32)), (.int (0 : Int32)), (.int (0 : Int32)), (.int (0 : Int32)), (.int (0 : Int32)), (.int (0 : Int32))] (.int (0 : Int32)) := Arv.set Ar38 qq38 SS38 NN38 HH38 GG38 (fits_nar_char _) W38 8 rfl (Nat.le_of_ble_eq_true rfl)
  have zz39 := (Nat.le_trans zz35 (Keep.of_wr W38).1)
  have N38 := Fr.snoc X38 N34 g_b0
  have pre40 : Go p e below (s₁.setTop (entryFrame m #[(.int x0), (.int x1)] maxLocals)) (T38.setTop (mkF m 53 #[.val (.int x0), .val (.int x1), .unset, .unset, .unset, .unset, .unset] [(.ref b0)])) := fun t k => pre37 t (st38 t k)
  have pre41 : Go p e below (s₁.setTop (entryFrame m #[(.int x0), (.int x1)] maxLocals)) (T38.setTop (mkF m 59 #[.val (.int x0), .val (.int x1), .unset, .unset, .unset, .unset, .unset] [(.int (12288 : Int32)), (.int (9 : Int32)), (.ref b0), (.ref b0)])) := by
    intro t k
    refine pre40 t ?_
    show Steps p.tables e below (T38.setTop (mkF m 53 #[.val (.int x0), .val (.int x1), .unset, .unset, .unset, .unset, .unset] [(.ref b0)])) _
    refine XS.dup X38.here hx rfl (hb hby at_53) rfl rfl ?_
    show Steps p.tables e below (T38.setTop (mkF m 54 #[.val (.int x0), .val (.int x1), .unset, .unset, .unset, .unset, .unset] [(.ref b0), (.ref b0)])) _
    refine XS.bipush X38.here hx rfl (hb hby at_54) ?_
    show Steps p.tables e below (T38.setTop (mkF m 56 #[.val (.int x0), .val (.int x1), .unset, .unset, .unset, .unset, .unset] [(.int (9 : Int32)), (.ref b0), (.ref b0)])) _
    refine XS.sipush X38.here hx rfl (hb hby at_56) ?_
    show Steps p.tables e below (T38.setTop (mkF m 59 #[.val (.int x0), .val (.int x1), .unset, .unset, .unset, .unset, .unset] [(.int (12288 : Int32)), (.int (9 : Int32)), (.ref b0), (.ref b0)])) _
    exact k
  obtain ⟨cl42, Ar42, qq42, SS42, NN42, HH42, GG42⟩ := V38
  have hin42 : ¬ ((9 : Int32) < 0 ∨ cl42.slots.size ≤ ((9 : Int32)).toNatClampNeg) := inb_of SS42 ⟨by decide, by decide⟩
  obtain ⟨T42, h42, X42, e42, W42, st42⟩ := stC X38 hx hZ e38 Ar42 (j := (9 : Int32)) hin42 (g := (mkF m 59 #[.val (.int x0), .val (.int x1), .unset, .unset, .unset, .unset, .unset] [(.int (12288 : Int32)), (.int (9 : Int32)), (.ref b0), (.ref b0)])) rfl rfl (hb hby at_59)
  have V42 : Arv Z h42 b0 k2 .char (17 : Int32) [(.int (9 : Int32)), (.int (32 : Int32)), (.int (10 : Int32)), (.int (11 : Int32)), (.int (12 : Int32)), (.int (13 : Int32)), (.int (0 : Int32)), (.int (160 : Int32)), (.int (8201 : Int32)), (.int (12288 : Int32)), (.int (0 : Int32)), (.int (0 : Int32)), (.int (0 : Int32)), (.int (0 : Int32)), (.int (0 : Int32)), (.int (0 : Int32)), (.int (0 : Int32))] (.int (0 : Int32)) := Arv.set Ar42 qq42 SS42 NN42 HH42 GG42 (fits_nar_char _) W42 9 rfl (Nat.le_of_ble_eq_true rfl)
  have zz43 := (Nat.le_trans zz39 (Keep.of_wr W42).1)
  have N42 := Fr.snoc X42 N38 g_b0
  have pre44 : Go p e below (s₁.setTop (entryFrame m #[(.int x0), (.int x1)] maxLocals)) (T42.setTop (mkF m 60 #[.val (.int x0), .val (.int x1), .unset, .unset, .unset, .unset, .unset] [(.ref b0)])) := fun t k => pre41 t (st42 t k)
  have pre45 : Go p e below (s₁.setTop (entryFrame m #[(.int x0), (.int x1)] maxLocals)) (T42.setTop (mkF m 65 #[.val (.int x0), .val (.int x1), .unset, .unset, .unset, .unset, .unset] [(.int (65279 : Int32)), (.int (10 : Int32)), (.ref b0), (.ref b0)])) := by
    intro t k
    refine pre44 t ?_
    show Steps p.tables e below (T42.setTop (mkF m 60 #[.val (.int x0), .val (.int x1), .unset, .unset, .unset, .unset, .unset] [(.ref b0)])) _
    refine XS.dup X42.here hx rfl (hb hby at_60) rfl rfl ?_
    show Steps p.tables e below (T42.setTop (mkF m 61 #[.val (.int x0), .val (.int x1), .unset, .unset, .unset, .unset, .unset] [(.ref b0), (.ref b0)])) _
    refine XS.bipush X42.here hx rfl (hb hby at_61) ?_
    show Steps p.tables e below (T42.setTop (mkF m 63 #[.val (.int x0), .val (.int x1), .unset, .unset, .unset, .unset, .unset] [(.int (10 : Int32)), (.ref b0), (.ref b0)])) _
    refine X42.ldcI hx hown (mvT hZ (hw _ (List.mem_of_getElem? (i := 1) rfl))) (g := (mkF m 63 #[.val (.int x0), .val (.int x1), .unset, .unset, .unset, .unset, .unset] [(.int (10 : Int32)), (.ref b0), (.ref b0)])) rfl (hb hby at_63) ?_
    show Steps p.tables e below (T42.setTop (mkF m 65 #[.val (.int x0), .val (.int x1), .unset, .unset, .unset, .unset, .unset] [(.int (65279 : Int32)), (.int (10 : Int32)), (.ref b0), (.ref b0)])) _
    exact k
  obtain ⟨cl46, Ar46, qq46, SS46, NN46, HH46, GG46⟩ := V42
  have hin46 : ¬ ((10 : Int32) < 0 ∨ cl46.slots.size ≤ ((10 : Int32)).toNatClampNeg) := inb_of SS46 ⟨by decide, by decide⟩
  obtain ⟨T46, h46, X46, e46, W46, st46⟩ := stC X42 hx hZ e42 Ar46 (j := (10 : Int32)) hin46 (g := (mkF m 65 #[.val (.int x0), .val (.int x1), .unset, .unset, .unset, .unset, .unset] [(.int (65279 : Int32)), (.int (10 : Int32)), (.ref b0), (.ref b0)])) rfl rfl (hb hby at_65)
  have V46 : Arv Z h46 b0 k2 .char (17 : Int32) [(.int (9 : Int32)), (.int (32 : Int32)), (.int (10 : Int32)), (.int (11 : Int32)), (.int (12 : Int32)), (.int (13 : Int32)), (.int (0 : Int32)), (.int (160 : Int32)), (.int (8201 : Int32)), (.int (12288 : Int32)), (.int (65279 : Int32)), (.int (0 : Int32)), (.int (0 : Int32)), (.int (0 : Int32)), (.int (0 : Int32)), (.int (0 : Int32)), (.int (0 : Int32))] (.int (0 : Int32)) := Arv.set Ar46 qq46 SS46 NN46 HH46 GG46 (fits_nar_char _) W46 10 rfl (Nat.le_of_ble_eq_true rfl)
  have zz47 := (Nat.le_trans zz43 (Keep.of_wr W46).1)
  have N46 := Fr.snoc X46 N42 g_b0
  have pre48 : Go p e below (s₁.setTop (entryFrame m #[(.int x0), (.int x1)] maxLocals)) (T46.setTop (mkF m 66 #[.val (.int x0), .val (.int x1), .unset, .unset, .unset, .unset, .unset] [(.ref b0)])) := fun t k => pre45 t (st46 t k)
  have pre49 : Go p e below (s₁.setTop (entryFrame m #[(.int x0), (.int x1)] maxLocals)) (T46.setTop (mkF m 71 #[.val (.int x0), .val (.int x1), .unset, .unset, .unset, .unset, .unset] [(.int (8 : Int32)), (.int (11 : Int32)), (.ref b0), (.ref b0)])) := by
    intro t k
    refine pre48 t ?_
    show Steps p.tables e below (T46.setTop (mkF m 66 #[.val (.int x0), .val (.int x1), .unset, .unset, .unset, .unset, .unset] [(.ref b0)])) _
    refine XS.dup X46.here hx rfl (hb hby at_66) rfl rfl ?_
    show Steps p.tables e below (T46.setTop (mkF m 67 #[.val (.int x0), .val (.int x1), .unset, .unset, .unset, .unset, .unset] [(.ref b0), (.ref b0)])) _
    refine XS.bipush X46.here hx rfl (hb hby at_67) ?_
    show Steps p.tables e below (T46.setTop (mkF m 69 #[.val (.int x0), .val (.int x1), .unset, .unset, .unset, .unset, .unset] [(.int (11 : Int32)), (.ref b0), (.ref b0)])) _
    refine XS.bipush X46.here hx rfl (hb hby at_69) ?_
    show Steps p.tables e below (T46.setTop (mkF m 71 #[.val (.int x0), .val (.int x1), .unset, .unset, .unset, .unset, .unset] [(.int (8 : Int32)), (.int (11 : Int32)), (.ref b0), (.ref b0)])) _
    exact k
  obtain ⟨cl50, Ar50, qq50, SS50, NN50, HH50, GG50⟩ := V46
  have hin50 : ¬ ((11 : Int32) < 0 ∨ cl50.slots.size ≤ ((11 : Int32)).toNatClampNeg) := inb_of SS50 ⟨by decide, by decide⟩
  obtain ⟨T50, h50, X50, e50, W50, st50⟩ := stC X46 hx hZ e46 Ar50 (j := (11 : Int32)) hin50 (g := (mkF m 71 #[.val (.int x0), .val (.int x1), .unset, .unset, .unset, .unset, .unset] [(.int (8 : Int32)), (.int (11 : Int32)), (.ref b0), (.ref b0)])) rfl rfl (hb hby at_71)
  have V50 : Arv Z h50 b0 k2 .char (17 : Int32) [(.int (9 : Int32)), (.int (32 : Int32)), (.int (10 : Int32)), (.int (11 : Int32)), (.int (12 : Int32)), (.int (13 : Int32)), (.int (0 : Int32)), (.int (160 : Int32)), (.int (8201 : Int32)), (.int (12288 : Int32)), (.int (65279 : Int32)), (.int (8 : Int32)), (.int (0 : Int32)), (.int (0 : Int32)), (.int (0 : Int32)), (.int (0 : Int32)), (.int (0 : Int32))] (.int (0 : Int32)) := Arv.set Ar50 qq50 SS50 NN50 HH50 GG50 (fits_nar_char _) W50 11 rfl (Nat.le_of_ble_eq_true rfl)
  have zz51 := (Nat.le_trans zz47 (Keep.of_wr W50).1)
  have N50 := Fr.snoc X50 N46 g_b0
  have pre52 : Go p e below (s₁.setTop (entryFrame m #[(.int x0), (.int x1)] maxLocals)) (T50.setTop (mkF m 72 #[.val (.int x0), .val (.int x1), .unset, .unset, .unset, .unset, .unset] [(.ref b0)])) := fun t k => pre49 t (st50 t k)
  have pre53 : Go p e below (s₁.setTop (entryFrame m #[(.int x0), (.int x1)] maxLocals)) (T50.setTop (mkF m 77 #[.val (.int x0), .val (.int x1), .unset, .unset, .unset, .unset, .unset] [(.int (31 : Int32)), (.int (12 : Int32)), (.ref b0), (.ref b0)])) := by
    intro t k
    refine pre52 t ?_
    show Steps p.tables e below (T50.setTop (mkF m 72 #[.val (.int x0), .val (.int x1), .unset, .unset, .unset, .unset, .unset] [(.ref b0)])) _
    refine XS.dup X50.here hx rfl (hb hby at_72) rfl rfl ?_
    show Steps p.tables e below (T50.setTop (mkF m 73 #[.val (.int x0), .val (.int x1), .unset, .unset, .unset, .unset, .unset] [(.ref b0), (.ref b0)])) _
    refine XS.bipush X50.here hx rfl (hb hby at_73) ?_
    show Steps p.tables e below (T50.setTop (mkF m 75 #[.val (.int x0), .val (.int x1), .unset, .unset, .unset, .unset, .unset] [(.int (12 : Int32)), (.ref b0), (.ref b0)])) _
    refine XS.bipush X50.here hx rfl (hb hby at_75) ?_
    show Steps p.tables e below (T50.setTop (mkF m 77 #[.val (.int x0), .val (.int x1), .unset, .unset, .unset, .unset, .unset] [(.int (31 : Int32)), (.int (12 : Int32)), (.ref b0), (.ref b0)])) _
    exact k
  obtain ⟨cl54, Ar54, qq54, SS54, NN54, HH54, GG54⟩ := V50
  have hin54 : ¬ ((12 : Int32) < 0 ∨ cl54.slots.size ≤ ((12 : Int32)).toNatClampNeg) := inb_of SS54 ⟨by decide, by decide⟩
  obtain ⟨T54, h54, X54, e54, W54, st54⟩ := stC X50 hx hZ e50 Ar54 (j := (12 : Int32)) hin54 (g := (mkF m 77 #[.val (.int x0), .val (.int x1), .unset, .unset, .unset, .unset, .unset] [(.int (31 : Int32)), (.int (12 : Int32)), (.ref b0), (.ref b0)])) rfl rfl (hb hby at_77)
  have V54 : Arv Z h54 b0 k2 .char (17 : Int32) [(.int (9 : Int32)), (.int (32 : Int32)), (.int (10 : Int32)), (.int (11 : Int32)), (.int (12 : Int32)), (.int (13 : Int32)), (.int (0 : Int32)), (.int (160 : Int32)), (.int (8201 : Int32)), (.int (12288 : Int32)), (.int (65279 : Int32)), (.int (8 : Int32)), (.int (31 : Int32)), (.int (0 : Int32)), (.int (0 : Int32)), (.int (0 : Int32)), (.int (0 : Int32))] (.int (0 : Int32)) := Arv.set Ar54 qq54 SS54 NN54 HH54 GG54 (fits_nar_char _) W54 12 rfl (Nat.le_of_ble_eq_true rfl)
  have zz55 := (Nat.le_trans zz51 (Keep.of_wr W54).1)
  have N54 := Fr.snoc X54 N50 g_b0
  have pre56 : Go p e below (s₁.setTop (entryFrame m #[(.int x0), (.int x1)] maxLocals)) (T54.setTop (mkF m 78 #[.val (.int x0), .val (.int x1), .unset, .unset, .unset, .unset, .unset] [(.ref b0)])) := fun t k => pre53 t (st54 t k)
  have pre57 : Go p e below (s₁.setTop (entryFrame m #[(.int x0), (.int x1)] maxLocals)) (T54.setTop (mkF m 83 #[.val (.int x0), .val (.int x1), .unset, .unset, .unset, .unset, .unset] [(.int (33 : Int32)), (.int (13 : Int32)), (.ref b0), (.ref b0)])) := by
    intro t k
    refine pre56 t ?_
    show Steps p.tables e below (T54.setTop (mkF m 78 #[.val (.int x0), .val (.int x1), .unset, .unset, .unset, .unset, .unset] [(.ref b0)])) _
    refine XS.dup X54.here hx rfl (hb hby at_78) rfl rfl ?_
    show Steps p.tables e below (T54.setTop (mkF m 79 #[.val (.int x0), .val (.int x1), .unset, .unset, .unset, .unset, .unset] [(.ref b0), (.ref b0)])) _
    refine XS.bipush X54.here hx rfl (hb hby at_79) ?_
    show Steps p.tables e below (T54.setTop (mkF m 81 #[.val (.int x0), .val (.int x1), .unset, .unset, .unset, .unset, .unset] [(.int (13 : Int32)), (.ref b0), (.ref b0)])) _
    refine XS.bipush X54.here hx rfl (hb hby at_81) ?_
    show Steps p.tables e below (T54.setTop (mkF m 83 #[.val (.int x0), .val (.int x1), .unset, .unset, .unset, .unset, .unset] [(.int (33 : Int32)), (.int (13 : Int32)), (.ref b0), (.ref b0)])) _
    exact k
  obtain ⟨cl58, Ar58, qq58, SS58, NN58, HH58, GG58⟩ := V54
  have hin58 : ¬ ((13 : Int32) < 0 ∨ cl58.slots.size ≤ ((13 : Int32)).toNatClampNeg) := inb_of SS58 ⟨by decide, by decide⟩
  obtain ⟨T58, h58, X58, e58, W58, st58⟩ := stC X54 hx hZ e54 Ar58 (j := (13 : Int32)) hin58 (g := (mkF m 83 #[.val (.int x0), .val (.int x1), .unset, .unset, .unset, .unset, .unset] [(.int (33 : Int32)), (.int (13 : Int32)), (.ref b0), (.ref b0)])) rfl rfl (hb hby at_83)
  have V58 : Arv Z h58 b0 k2 .char (17 : Int32) [(.int (9 : Int32)), (.int (32 : Int32)), (.int (10 : Int32)), (.int (11 : Int32)), (.int (12 : Int32)), (.int (13 : Int32)), (.int (0 : Int32)), (.int (160 : Int32)), (.int (8201 : Int32)), (.int (12288 : Int32)), (.int (65279 : Int32)), (.int (8 : Int32)), (.int (31 : Int32)), (.int (33 : Int32)), (.int (0 : Int32)), (.int (0 : Int32)), (.int (0 : Int32))] (.int (0 : Int32)) := Arv.set Ar58 qq58 SS58 NN58 HH58 GG58 (fits_nar_char _) W58 13 rfl (Nat.le_of_ble_eq_true rfl)
  have zz59 := (Nat.le_trans zz55 (Keep.of_wr W58).1)
  have N58 := Fr.snoc X58 N54 g_b0
  have pre60 : Go p e below (s₁.setTop (entryFrame m #[(.int x0), (.int x1)] maxLocals)) (T58.setTop (mkF m 84 #[.val (.int x0), .val (.int x1), .unset, .unset, .unset, .unset, .unset] [(.ref b0)])) := fun t k => pre57 t (st58 t k)
  have pre61 : Go p e below (s₁.setTop (entryFrame m #[(.int x0), (.int x1)] maxLocals)) (T58.setTop (mkF m 90 #[.val (.int x0), .val (.int x1), .unset, .unset, .unset, .unset, .unset] [(.int (265 : Int32)), (.int (14 : Int32)), (.ref b0), (.ref b0)])) := by
    intro t k
    refine pre60 t ?_
    show Steps p.tables e below (T58.setTop (mkF m 84 #[.val (.int x0), .val (.int x1), .unset, .unset, .unset, .unset, .unset] [(.ref b0)])) _
    refine XS.dup X58.here hx rfl (hb hby at_84) rfl rfl ?_
    show Steps p.tables e below (T58.setTop (mkF m 85 #[.val (.int x0), .val (.int x1), .unset, .unset, .unset, .unset, .unset] [(.ref b0), (.ref b0)])) _
    refine XS.bipush X58.here hx rfl (hb hby at_85) ?_
    show Steps p.tables e below (T58.setTop (mkF m 87 #[.val (.int x0), .val (.int x1), .unset, .unset, .unset, .unset, .unset] [(.int (14 : Int32)), (.ref b0), (.ref b0)])) _
    refine XS.sipush X58.here hx rfl (hb hby at_87) ?_
    show Steps p.tables e below (T58.setTop (mkF m 90 #[.val (.int x0), .val (.int x1), .unset, .unset, .unset, .unset, .unset] [(.int (265 : Int32)), (.int (14 : Int32)), (.ref b0), (.ref b0)])) _
    exact k
  obtain ⟨cl62, Ar62, qq62, SS62, NN62, HH62, GG62⟩ := V58
  have hin62 : ¬ ((14 : Int32) < 0 ∨ cl62.slots.size ≤ ((14 : Int32)).toNatClampNeg) := inb_of SS62 ⟨by decide, by decide⟩
  obtain ⟨T62, h62, X62, e62, W62, st62⟩ := stC X58 hx hZ e58 Ar62 (j := (14 : Int32)) hin62 (g := (mkF m 90 #[.val (.int x0), .val (.int x1), .unset, .unset, .unset, .unset, .unset] [(.int (265 : Int32)), (.int (14 : Int32)), (.ref b0), (.ref b0)])) rfl rfl (hb hby at_90)
  have V62 : Arv Z h62 b0 k2 .char (17 : Int32) [(.int (9 : Int32)), (.int (32 : Int32)), (.int (10 : Int32)), (.int (11 : Int32)), (.int (12 : Int32)), (.int (13 : Int32)), (.int (0 : Int32)), (.int (160 : Int32)), (.int (8201 : Int32)), (.int (12288 : Int32)), (.int (65279 : Int32)), (.int (8 : Int32)), (.int (31 : Int32)), (.int (33 : Int32)), (.int (265 : Int32)), (.int (0 : Int32)), (.int (0 : Int32))] (.int (0 : Int32)) := Arv.set Ar62 qq62 SS62 NN62 HH62 GG62 (fits_nar_char _) W62 14 rfl (Nat.le_of_ble_eq_true rfl)
  have zz63 := (Nat.le_trans zz59 (Keep.of_wr W62).1)
  have N62 := Fr.snoc X62 N58 g_b0
  have pre64 : Go p e below (s₁.setTop (entryFrame m #[(.int x0), (.int x1)] maxLocals)) (T62.setTop (mkF m 91 #[.val (.int x0), .val (.int x1), .unset, .unset, .unset, .unset, .unset] [(.ref b0)])) := fun t k => pre61 t (st62 t k)
  have pre65 : Go p e below (s₁.setTop (entryFrame m #[(.int x0), (.int x1)] maxLocals)) (T62.setTop (mkF m 97 #[.val (.int x0), .val (.int x1), .unset, .unset, .unset, .unset, .unset] [(.int (288 : Int32)), (.int (15 : Int32)), (.ref b0), (.ref b0)])) := by
    intro t k
    refine pre64 t ?_
    show Steps p.tables e below (T62.setTop (mkF m 91 #[.val (.int x0), .val (.int x1), .unset, .unset, .unset, .unset, .unset] [(.ref b0)])) _
    refine XS.dup X62.here hx rfl (hb hby at_91) rfl rfl ?_
    show Steps p.tables e below (T62.setTop (mkF m 92 #[.val (.int x0), .val (.int x1), .unset, .unset, .unset, .unset, .unset] [(.ref b0), (.ref b0)])) _
    refine XS.bipush X62.here hx rfl (hb hby at_92) ?_
    show Steps p.tables e below (T62.setTop (mkF m 94 #[.val (.int x0), .val (.int x1), .unset, .unset, .unset, .unset, .unset] [(.int (15 : Int32)), (.ref b0), (.ref b0)])) _
    refine XS.sipush X62.here hx rfl (hb hby at_94) ?_
    show Steps p.tables e below (T62.setTop (mkF m 97 #[.val (.int x0), .val (.int x1), .unset, .unset, .unset, .unset, .unset] [(.int (288 : Int32)), (.int (15 : Int32)), (.ref b0), (.ref b0)])) _
    exact k
  obtain ⟨cl66, Ar66, qq66, SS66, NN66, HH66, GG66⟩ := V62
  have hin66 : ¬ ((15 : Int32) < 0 ∨ cl66.slots.size ≤ ((15 : Int32)).toNatClampNeg) := inb_of SS66 ⟨by decide, by decide⟩
  obtain ⟨T66, h66, X66, e66, W66, st66⟩ := stC X62 hx hZ e62 Ar66 (j := (15 : Int32)) hin66 (g := (mkF m 97 #[.val (.int x0), .val (.int x1), .unset, .unset, .unset, .unset, .unset] [(.int (288 : Int32)), (.int (15 : Int32)), (.ref b0), (.ref b0)])) rfl rfl (hb hby at_97)
  have V66 : Arv Z h66 b0 k2 .char (17 : Int32) [(.int (9 : Int32)), (.int (32 : Int32)), (.int (10 : Int32)), (.int (11 : Int32)), (.int (12 : Int32)), (.int (13 : Int32)), (.int (0 : Int32)), (.int (160 : Int32)), (.int (8201 : Int32)), (.int (12288 : Int32)), (.int (65279 : Int32)), (.int (8 : Int32)), (.int (31 : Int32)), (.int (33 : Int32)), (.int (265 : Int32)), (.int (288 : Int32)), (.int (0 : Int32))] (.int (0 : Int32)) := Arv.set Ar66 qq66 SS66 NN66 HH66 GG66 (fits_nar_char _) W66 15 rfl (Nat.le_of_ble_eq_true rfl)
  have zz67 := (Nat.le_trans zz63 (Keep.of_wr W66).1)
  have N66 := Fr.snoc X66 N62 g_b0
  have pre68 : Go p e below (s₁.setTop (entryFrame m #[(.int x0), (.int x1)] maxLocals)) (T66.setTop (mkF m 98 #[.val (.int x0), .val (.int x1), .unset, .unset, .unset, .unset, .unset] [(.ref b0)])) := fun t k => pre65 t (st66 t k)
  have pre69 : Go p e below (s₁.setTop (entryFrame m #[(.int x0), (.int x1)] maxLocals)) (T66.setTop (mkF m 103 #[.val (.int x0), .val (.int x1), .unset, .unset, .unset, .unset, .unset] [(.int (65535 : Int32)), (.int (16 : Int32)), (.ref b0), (.ref b0)])) := by
    intro t k
    refine pre68 t ?_
    show Steps p.tables e below (T66.setTop (mkF m 98 #[.val (.int x0), .val (.int x1), .unset, .unset, .unset, .unset, .unset] [(.ref b0)])) _
    refine XS.dup X66.here hx rfl (hb hby at_98) rfl rfl ?_
    show Steps p.tables e below (T66.setTop (mkF m 99 #[.val (.int x0), .val (.int x1), .unset, .unset, .unset, .unset, .unset] [(.ref b0), (.ref b0)])) _
    refine XS.bipush X66.here hx rfl (hb hby at_99) ?_
    show Steps p.tables e below (T66.setTop (mkF m 101 #[.val (.int x0), .val (.int x1), .unset, .unset, .unset, .unset, .unset] [(.int (16 : Int32)), (.ref b0), (.ref b0)])) _
    refine X66.ldcI hx hown (mvT hZ (hw _ (List.mem_of_getElem? (i := 2) rfl))) (g := (mkF m 101 #[.val (.int x0), .val (.int x1), .unset, .unset, .unset, .unset, .unset] [(.int (16 : Int32)), (.ref b0), (.ref b0)])) rfl (hb hby at_101) ?_
    show Steps p.tables e below (T66.setTop (mkF m 103 #[.val (.int x0), .val (.int x1), .unset, .unset, .unset, .unset, .unset] [(.int (65535 : Int32)), (.int (16 : Int32)), (.ref b0), (.ref b0)])) _
    exact k
  obtain ⟨cl70, Ar70, qq70, SS70, NN70, HH70, GG70⟩ := V66
  have hin70 : ¬ ((16 : Int32) < 0 ∨ cl70.slots.size ≤ ((16 : Int32)).toNatClampNeg) := inb_of SS70 ⟨by decide, by decide⟩
  obtain ⟨T70, h70, X70, e70, W70, st70⟩ := stC X66 hx hZ e66 Ar70 (j := (16 : Int32)) hin70 (g := (mkF m 103 #[.val (.int x0), .val (.int x1), .unset, .unset, .unset, .unset, .unset] [(.int (65535 : Int32)), (.int (16 : Int32)), (.ref b0), (.ref b0)])) rfl rfl (hb hby at_103)
  have V70 : Arv Z h70 b0 k2 .char (17 : Int32) [(.int (9 : Int32)), (.int (32 : Int32)), (.int (10 : Int32)), (.int (11 : Int32)), (.int (12 : Int32)), (.int (13 : Int32)), (.int (0 : Int32)), (.int (160 : Int32)), (.int (8201 : Int32)), (.int (12288 : Int32)), (.int (65279 : Int32)), (.int (8 : Int32)), (.int (31 : Int32)), (.int (33 : Int32)), (.int (265 : Int32)), (.int (288 : Int32)), (.int (65535 : Int32))] (.int (0 : Int32)) := Arv.set Ar70 qq70 SS70 NN70 HH70 GG70 (fits_nar_char _) W70 16 rfl (Nat.le_of_ble_eq_true rfl)
  have zz71 := (Nat.le_trans zz67 (Keep.of_wr W70).1)
  have N70 := Fr.snoc X70 N66 g_b0
  have pre72 : Go p e below (s₁.setTop (entryFrame m #[(.int x0), (.int x1)] maxLocals)) (T70.setTop (mkF m 104 #[.val (.int x0), .val (.int x1), .unset, .unset, .unset, .unset, .unset] [(.ref b0)])) := fun t k => pre69 t (st70 t k)
  obtain ⟨clP, ArP, -, SSP, NNP, HHP, -⟩ := (show Arv Z h70 b0 k2 .char (17 : Int32) (own_tab.map Value.int) (.int (0 : Int32)) from V70)
  have pre73 : Go p e below (s₁.setTop (entryFrame m #[(.int x0), (.int x1)] maxLocals)) (T70.setTop (mkF m 108 #[.val (.int x0), .val (.int x1), .val (.ref b0), .unset, .unset, .unset, .unset] [(.int (x1 &&& (1 : Int32)))])) := by
    intro t k
    refine pre72 t ?_
    show Steps p.tables e below (T70.setTop (mkF m 104 #[.val (.int x0), .val (.int x1), .unset, .unset, .unset, .unset, .unset] [(.ref b0)])) _
    refine XS.astoreN X70.here hx rfl (hb hby at_104) rfl rfl (l' := #[.val (.int x0), .val (.int x1), .val (.ref b0), .unset, .unset, .unset, .unset]) rfl ?_
    show Steps p.tables e below (T70.setTop (mkF m 105 #[.val (.int x0), .val (.int x1), .val (.ref b0), .unset, .unset, .unset, .unset] [])) _
    refine XS.iloadN X70.here hx rfl (hb hby at_105) rfl ?_
    show Steps p.tables e below (T70.setTop (mkF m 106 #[.val (.int x0), .val (.int x1), .val (.ref b0), .unset, .unset, .unset, .unset] [(.int x1)])) _
    refine XS.iconst X70.here hx rfl (hb hby at_106) ?_
    show Steps p.tables e below (T70.setTop (mkF m 107 #[.val (.int x0), .val (.int x1), .val (.ref b0), .unset, .unset, .unset, .unset] [(.int (1 : Int32)), (.int x1)])) _
    refine XS.iand X70.here hx rfl (hb hby at_107) rfl ?_
    show Steps p.tables e below (T70.setTop (mkF m 108 #[.val (.int x0), .val (.int x1), .val (.ref b0), .unset, .unset, .unset, .unset] [(.int (x1 &&& (1 : Int32)))])) _
    exact k
  obtain ⟨up, h_up⟩ : ∃ z : Int32, z = (if (x1 &&& (1 : Int32)) = (0 : Int32) then (0 : Int32) else (1 : Int32)) := ⟨_, rfl⟩
  have pre75 : Go p e below (s₁.setTop (entryFrame m #[(.int x0), (.int x1)] maxLocals)) (T70.setTop (mkF m 116 #[.val (.int x0), .val (.int x1), .val (.ref b0), .unset, .unset, .unset, .unset] [(.int up)])) := by
    intro t k
    refine pre73 t ?_
    show Steps p.tables e below (T70.setTop (mkF m 108 #[.val (.int x0), .val (.int x1), .val (.ref b0), .unset, .unset, .unset, .unset] [(.int (x1 &&& (1 : Int32)))])) _
    by_cases hc108_74 : (x1 &&& (1 : Int32)) = (0 : Int32)
    · skip
      refine XS.ifYes X70.here hx rfl (pc0 := 108) (pc' := 115) rfl (hb hby at_108) rfl (XT.i0_eq_t hc108_74) (by decide) (by decide) ?_
      show Steps p.tables e below (T70.setTop (mkF m 115 #[.val (.int x0), .val (.int x1), .val (.ref b0), .unset, .unset, .unset, .unset] [])) _
      refine XS.iconst X70.here hx rfl (hb hby at_115) ?_
      show Steps p.tables e below (T70.setTop (mkF m 116 #[.val (.int x0), .val (.int x1), .val (.ref b0), .unset, .unset, .unset, .unset] [(.int (0 : Int32))])) _
      rw [show up = (0 : Int32) from by rw [h_up]; rw [if_pos hc108_74]] at k
      exact k
    · skip
      refine XS.ifNo X70.here hx rfl (hb hby at_108) rfl (XT.i0_eq_f hc108_74) ?_
      show Steps p.tables e below (T70.setTop (mkF m 111 #[.val (.int x0), .val (.int x1), .val (.ref b0), .unset, .unset, .unset, .unset] [])) _
      refine XS.iconst X70.here hx rfl (hb hby at_111) ?_
      show Steps p.tables e below (T70.setTop (mkF m 112 #[.val (.int x0), .val (.int x1), .val (.ref b0), .unset, .unset, .unset, .unset] [(.int (1 : Int32))])) _
      refine XS.goto X70.here hx rfl (pc0 := 112) (pc' := 116) rfl (hb hby at_112) (by decide) (by decide) ?_
      show Steps p.tables e below (T70.setTop (mkF m 116 #[.val (.int x0), .val (.int x1), .val (.ref b0), .unset, .unset, .unset, .unset] [(.int (1 : Int32))])) _
      rw [show up = (1 : Int32) from by rw [h_up]; rw [if_neg hc108_74]] at k
      exact k
  have pre76 : Go p e below (s₁.setTop (entryFrame m #[(.int x0), (.int x1)] maxLocals)) (T70.setTop (mkF m 118 #[.val (.int x0), .val (.int x1), .val (.ref b0), .val (.int up), .unset, .unset, .unset] [(.int up)])) := by
    intro t k
    refine pre75 t ?_
    show Steps p.tables e below (T70.setTop (mkF m 116 #[.val (.int x0), .val (.int x1), .val (.ref b0), .unset, .unset, .unset, .unset] [(.int up)])) _
    refine XS.istoreN X70.here hx rfl (hb hby at_116) rfl (l' := #[.val (.int x0), .val (.int x1), .val (.ref b0), .val (.int up), .unset, .unset, .unset]) rfl ?_
    show Steps p.tables e below (T70.setTop (mkF m 117 #[.val (.int x0), .val (.int x1), .val (.ref b0), .val (.int up), .unset, .unset, .unset] [])) _
    refine XS.iloadN X70.here hx rfl (hb hby at_117) rfl ?_
    show Steps p.tables e below (T70.setTop (mkF m 118 #[.val (.int x0), .val (.int x1), .val (.ref b0), .val (.int up), .unset, .unset, .unset] [(.int up)])) _
    exact k
  obtain ⟨cc, h_cc⟩ : ∃ z : Int32, z = (if up = (0 : Int32) then ((x0).toUInt32.toUInt16.toUInt32.toInt32) else (own_tab.getD ((x0 &&& (2147483647 : Int32)) % (17 : Int32)).toNatClampNeg 0)) := ⟨_, rfl⟩
  have pre78 : Go p e below (s₁.setTop (entryFrame m #[(.int x0), (.int x1)] maxLocals)) (T70.setTop (mkF m 135 #[.val (.int x0), .val (.int x1), .val (.ref b0), .val (.int up), .unset, .unset, .unset] [(.int cc)])) := by
    intro t k
    refine pre76 t ?_
    show Steps p.tables e below (T70.setTop (mkF m 118 #[.val (.int x0), .val (.int x1), .val (.ref b0), .val (.int up), .unset, .unset, .unset] [(.int up)])) _
    by_cases hc118_77 : up = (0 : Int32)
    · skip
      refine XS.ifYes X70.here hx rfl (pc0 := 118) (pc' := 133) rfl (hb hby at_118) rfl (XT.i0_eq_t hc118_77) (by decide) (by decide) ?_
      show Steps p.tables e below (T70.setTop (mkF m 133 #[.val (.int x0), .val (.int x1), .val (.ref b0), .val (.int up), .unset, .unset, .unset] [])) _
      refine XS.iloadN X70.here hx rfl (hb hby at_133) rfl ?_
      show Steps p.tables e below (T70.setTop (mkF m 134 #[.val (.int x0), .val (.int x1), .val (.ref b0), .val (.int up), .unset, .unset, .unset] [(.int x0)])) _
      refine XS.i2c X70.here hx rfl (hb hby at_134) rfl ?_
      show Steps p.tables e below (T70.setTop (mkF m 135 #[.val (.int x0), .val (.int x1), .val (.ref b0), .val (.int up), .unset, .unset, .unset] [(.int ((x0).toUInt32.toUInt16.toUInt32.toInt32))])) _
      rw [show cc = ((x0).toUInt32.toUInt16.toUInt32.toInt32) from by rw [h_cc]; rw [if_pos hc118_77]] at k
      exact k
    · skip
      refine XS.ifNo X70.here hx rfl (hb hby at_118) rfl (XT.i0_eq_f hc118_77) ?_
      show Steps p.tables e below (T70.setTop (mkF m 121 #[.val (.int x0), .val (.int x1), .val (.ref b0), .val (.int up), .unset, .unset, .unset] [])) _
      refine XS.aloadN X70.here hx rfl (hb hby at_121) rfl rfl ?_
      show Steps p.tables e below (T70.setTop (mkF m 122 #[.val (.int x0), .val (.int x1), .val (.ref b0), .val (.int up), .unset, .unset, .unset] [(.ref b0)])) _
      refine XS.iloadN X70.here hx rfl (hb hby at_122) rfl ?_
      show Steps p.tables e below (T70.setTop (mkF m 123 #[.val (.int x0), .val (.int x1), .val (.ref b0), .val (.int up), .unset, .unset, .unset] [(.int x0), (.ref b0)])) _
      refine X70.ldcI hx hown (mvT hZ (hw _ (List.mem_of_getElem? (i := 3) rfl))) (g := (mkF m 123 #[.val (.int x0), .val (.int x1), .val (.ref b0), .val (.int up), .unset, .unset, .unset] [(.int x0), (.ref b0)])) rfl (hb hby at_123) ?_
      show Steps p.tables e below (T70.setTop (mkF m 125 #[.val (.int x0), .val (.int x1), .val (.ref b0), .val (.int up), .unset, .unset, .unset] [(.int (2147483647 : Int32)), (.int x0), (.ref b0)])) _
      refine XS.iand X70.here hx rfl (hb hby at_125) rfl ?_
      show Steps p.tables e below (T70.setTop (mkF m 126 #[.val (.int x0), .val (.int x1), .val (.ref b0), .val (.int up), .unset, .unset, .unset] [(.int (x0 &&& (2147483647 : Int32))), (.ref b0)])) _
      refine XS.aloadN X70.here hx rfl (hb hby at_126) rfl rfl ?_
      show Steps p.tables e below (T70.setTop (mkF m 127 #[.val (.int x0), .val (.int x1), .val (.ref b0), .val (.int up), .unset, .unset, .unset] [(.ref b0), (.int (x0 &&& (2147483647 : Int32))), (.ref b0)])) _
      refine X70.arraylength hx (by rw [e70]; exact ArP.1) (State.isArrayOf_alike hZ.alike ArP.2.1) (g := (mkF m 127 #[.val (.int x0), .val (.int x1), .val (.ref b0), .val (.int up), .unset, .unset, .unset] [(.ref b0), (.int (x0 &&& (2147483647 : Int32))), (.ref b0)])) rfl rfl (hb hby at_127) _ ?_
      rw [len_of SSP NNP]
      show Steps p.tables e below (T70.setTop (mkF m 128 #[.val (.int x0), .val (.int x1), .val (.ref b0), .val (.int up), .unset, .unset, .unset] [(.int (17 : Int32)), (.int (x0 &&& (2147483647 : Int32))), (.ref b0)])) _
      refine own_irem X70.here hx rfl (hb hby at_128) rfl (by decide) ?_
      show Steps p.tables e below (T70.setTop (mkF m 129 #[.val (.int x0), .val (.int x1), .val (.ref b0), .val (.int up), .unset, .unset, .unset] [(.int ((x0 &&& (2147483647 : Int32)) % (17 : Int32))), (.ref b0)])) _
      refine X70.caload hx (j := ((x0 &&& (2147483647 : Int32)) % (17 : Int32))) (v := (.int (own_tab.getD ((x0 &&& (2147483647 : Int32)) % (17 : Int32)).toNatClampNeg 0))) (by rw [e70]; exact ArP.1) (State.isArrayOf_alike hZ.alike ArP.2.1) ArP.2.2 (inb_of SSP (own_in x0)) (HHP.at (inb_of SSP (own_in x0)) (own_getD _ _)) (g := (mkF m 129 #[.val (.int x0), .val (.int x1), .val (.ref b0), .val (.int up), .unset, .unset, .unset] [(.int ((x0 &&& (2147483647 : Int32)) % (17 : Int32))), (.ref b0)])) rfl rfl (hb hby at_129) _ ?_
      show Steps p.tables e below (T70.setTop (mkF m 130 #[.val (.int x0), .val (.int x1), .val (.ref b0), .val (.int up), .unset, .unset, .unset] [(.int (own_tab.getD ((x0 &&& (2147483647 : Int32)) % (17 : Int32)).toNatClampNeg 0))])) _
      refine XS.goto X70.here hx rfl (pc0 := 130) (pc' := 135) rfl (hb hby at_130) (by decide) (by decide) ?_
      show Steps p.tables e below (T70.setTop (mkF m 135 #[.val (.int x0), .val (.int x1), .val (.ref b0), .val (.int up), .unset, .unset, .unset] [(.int (own_tab.getD ((x0 &&& (2147483647 : Int32)) % (17 : Int32)).toNatClampNeg 0))])) _
      rw [show cc = (own_tab.getD ((x0 &&& (2147483647 : Int32)) % (17 : Int32)).toNatClampNeg 0) from by rw [h_cc]; rw [if_neg hc118_77]] at k
      exact k
  have pre79 : Go p e below (s₁.setTop (entryFrame m #[(.int x0), (.int x1)] maxLocals)) (T70.setTop (mkF m 145 #[.val (.int x0), .val (.int x1), .val (.ref b0), .val (.int up), .val (.int cc), .val (.int cc), .unset] [(.int (32 : Int32)), (.int cc)])) := by
    intro t k
    refine pre78 t ?_
    show Steps p.tables e below (T70.setTop (mkF m 135 #[.val (.int x0), .val (.int x1), .val (.ref b0), .val (.int up), .unset, .unset, .unset] [(.int cc)])) _
    refine XS.istore X70.here hx rfl (hb hby at_135) rfl (l' := #[.val (.int x0), .val (.int x1), .val (.ref b0), .val (.int up), .val (.int cc), .unset, .unset]) rfl ?_
    show Steps p.tables e below (T70.setTop (mkF m 137 #[.val (.int x0), .val (.int x1), .val (.ref b0), .val (.int up), .val (.int cc), .unset, .unset] [])) _
    refine XS.iload X70.here hx rfl (hb hby at_137) rfl ?_
    show Steps p.tables e below (T70.setTop (mkF m 139 #[.val (.int x0), .val (.int x1), .val (.ref b0), .val (.int up), .val (.int cc), .unset, .unset] [(.int cc)])) _
    refine XS.istore X70.here hx rfl (hb hby at_139) rfl (l' := #[.val (.int x0), .val (.int x1), .val (.ref b0), .val (.int up), .val (.int cc), .val (.int cc), .unset]) rfl ?_
    show Steps p.tables e below (T70.setTop (mkF m 141 #[.val (.int x0), .val (.int x1), .val (.ref b0), .val (.int up), .val (.int cc), .val (.int cc), .unset] [])) _
    refine XS.iload X70.here hx rfl (hb hby at_141) rfl ?_
    show Steps p.tables e below (T70.setTop (mkF m 143 #[.val (.int x0), .val (.int x1), .val (.ref b0), .val (.int up), .val (.int cc), .val (.int cc), .unset] [(.int cc)])) _
    refine XS.bipush X70.here hx rfl (hb hby at_143) ?_
    show Steps p.tables e below (T70.setTop (mkF m 145 #[.val (.int x0), .val (.int x1), .val (.ref b0), .val (.int up), .val (.int cc), .val (.int cc), .unset] [(.int (32 : Int32)), (.int cc)])) _
    exact k
  obtain ⟨ex, h_ex⟩ : ∃ z : Int32, z = (if cc = (32 : Int32) then (1 : Int32) else (if cc = (9 : Int32) then (1 : Int32) else (0 : Int32))) := ⟨_, rfl⟩
  have pre82 : Go p e below (s₁.setTop (entryFrame m #[(.int x0), (.int x1)] maxLocals)) (T70.setTop (mkF m 160 #[.val (.int x0), .val (.int x1), .val (.ref b0), .val (.int up), .val (.int cc), .val (.int cc), .unset] [(.int ex)])) := by
    intro t k
    refine pre79 t ?_
    show Steps p.tables e below (T70.setTop (mkF m 145 #[.val (.int x0), .val (.int x1), .val (.ref b0), .val (.int up), .val (.int cc), .val (.int cc), .unset] [(.int (32 : Int32)), (.int cc)])) _
    by_cases hc145_80 : cc = (32 : Int32)
    · skip
      refine XS.icmpYes X70.here hx rfl (pc0 := 145) (pc' := 155) rfl (hb hby at_145) rfl (XT.ii_eq_t hc145_80) (by decide) (by decide) ?_
      show Steps p.tables e below (T70.setTop (mkF m 155 #[.val (.int x0), .val (.int x1), .val (.ref b0), .val (.int up), .val (.int cc), .val (.int cc), .unset] [])) _
      refine XS.iconst X70.here hx rfl (hb hby at_155) ?_
      show Steps p.tables e below (T70.setTop (mkF m 156 #[.val (.int x0), .val (.int x1), .val (.ref b0), .val (.int up), .val (.int cc), .val (.int cc), .unset] [(.int (1 : Int32))])) _
      refine XS.goto X70.here hx rfl (pc0 := 156) (pc' := 160) rfl (hb hby at_156) (by decide) (by decide) ?_
      show Steps p.tables e below (T70.setTop (mkF m 160 #[.val (.int x0), .val (.int x1), .val (.ref b0), .val (.int up), .val (.int cc), .val (.int cc), .unset] [(.int (1 : Int32))])) _
      rw [show ex = (1 : Int32) from by rw [h_ex]; rw [if_pos hc145_80]] at k
      exact k
    · skip
      refine XS.icmpNo X70.here hx rfl (hb hby at_145) rfl (XT.ii_eq_f hc145_80) ?_
      show Steps p.tables e below (T70.setTop (mkF m 148 #[.val (.int x0), .val (.int x1), .val (.ref b0), .val (.int up), .val (.int cc), .val (.int cc), .unset] [])) _
      refine XS.iload X70.here hx rfl (hb hby at_148) rfl ?_
      show Steps p.tables e below (T70.setTop (mkF m 150 #[.val (.int x0), .val (.int x1), .val (.ref b0), .val (.int up), .val (.int cc), .val (.int cc), .unset] [(.int cc)])) _
      refine XS.bipush X70.here hx rfl (hb hby at_150) ?_
      show Steps p.tables e below (T70.setTop (mkF m 152 #[.val (.int x0), .val (.int x1), .val (.ref b0), .val (.int up), .val (.int cc), .val (.int cc), .unset] [(.int (9 : Int32)), (.int cc)])) _
      by_cases hc152_81 : cc = (9 : Int32)
      · skip
        refine XS.icmpNo X70.here hx rfl (hb hby at_152) rfl (XT.ii_ne_f hc152_81) ?_
        show Steps p.tables e below (T70.setTop (mkF m 155 #[.val (.int x0), .val (.int x1), .val (.ref b0), .val (.int up), .val (.int cc), .val (.int cc), .unset] [])) _
        refine XS.iconst X70.here hx rfl (hb hby at_155) ?_
        show Steps p.tables e below (T70.setTop (mkF m 156 #[.val (.int x0), .val (.int x1), .val (.ref b0), .val (.int up), .val (.int cc), .val (.int cc), .unset] [(.int (1 : Int32))])) _
        refine XS.goto X70.here hx rfl (pc0 := 156) (pc' := 160) rfl (hb hby at_156) (by decide) (by decide) ?_
        show Steps p.tables e below (T70.setTop (mkF m 160 #[.val (.int x0), .val (.int x1), .val (.ref b0), .val (.int up), .val (.int cc), .val (.int cc), .unset] [(.int (1 : Int32))])) _
        rw [show ex = (1 : Int32) from by rw [h_ex]; rw [if_neg hc145_80, if_pos hc152_81]] at k
        exact k
      · skip
        refine XS.icmpYes X70.here hx rfl (pc0 := 152) (pc' := 159) rfl (hb hby at_152) rfl (XT.ii_ne_t hc152_81) (by decide) (by decide) ?_
        show Steps p.tables e below (T70.setTop (mkF m 159 #[.val (.int x0), .val (.int x1), .val (.ref b0), .val (.int up), .val (.int cc), .val (.int cc), .unset] [])) _
        refine XS.iconst X70.here hx rfl (hb hby at_159) ?_
        show Steps p.tables e below (T70.setTop (mkF m 160 #[.val (.int x0), .val (.int x1), .val (.ref b0), .val (.int up), .val (.int cc), .val (.int cc), .unset] [(.int (0 : Int32))])) _
        rw [show ex = (0 : Int32) from by rw [h_ex]; rw [if_neg hc145_80, if_neg hc152_81]] at k
        exact k
  have pre83 : Go p e below (s₁.setTop (entryFrame m #[(.int x0), (.int x1)] maxLocals)) (T70.setTop (mkF m 164 #[.val (.int x0), .val (.int x1), .val (.ref b0), .val (.int up), .val (.int cc), .val (.int cc), .val (.int ex)] [(.int cc)])) := by
    intro t k
    refine pre82 t ?_
    show Steps p.tables e below (T70.setTop (mkF m 160 #[.val (.int x0), .val (.int x1), .val (.ref b0), .val (.int up), .val (.int cc), .val (.int cc), .unset] [(.int ex)])) _
    refine XS.istore X70.here hx rfl (hb hby at_160) rfl (l' := #[.val (.int x0), .val (.int x1), .val (.ref b0), .val (.int up), .val (.int cc), .val (.int cc), .val (.int ex)]) rfl ?_
    show Steps p.tables e below (T70.setTop (mkF m 162 #[.val (.int x0), .val (.int x1), .val (.ref b0), .val (.int up), .val (.int cc), .val (.int cc), .val (.int ex)] [])) _
    refine XS.iload X70.here hx rfl (hb hby at_162) rfl ?_
    show Steps p.tables e below (T70.setTop (mkF m 164 #[.val (.int x0), .val (.int x1), .val (.ref b0), .val (.int up), .val (.int cc), .val (.int cc), .val (.int ex)] [(.int cc)])) _
    exact k
  obtain ⟨_, _, ⟨T84, L84, k84, n84⟩, -, X84, ⟨Lc84, hQ84, l84, y84, z84⟩, st84⟩ := Jvm.LawKit.callS X70 hx (y := (⟨"com/example/tallygate/tallygate/web/HttpSyntax", "isBlank", "(C)Z"⟩ : MethodName)) hown (mvT hZ (hw _ (List.mem_of_getElem? (i := 4) rfl))) (mvT hZ (hw _ (List.mem_of_getElem? (i := 5) rfl))) (mvT hZ (hw _ (List.mem_of_getElem? (i := 6) rfl))) (mvT hZ (hw _ (List.mem_of_getElem? (i := 7) rfl))) (by decide) (backOf (W := 0) (rm1 l Z a0 hw [] cc  h70 n0 zz71 ) hZ (hw _ (List.mem_of_getElem? (i := 7) rfl)) (hw _ (List.mem_of_getElem? (i := 6) rfl)) (by decide) (by decide)) (g := (mkF m 164 #[.val (.int x0), .val (.int x1), .val (.ref b0), .val (.int up), .val (.int cc), .val (.int cc), .val (.int ex)] [(.int cc)])) rfl (by rw [hml]; rfl) (argsL := [(.int cc)]) (rest := []) (lenOf pd_1 rfl) rfl (by show 2 * 0 + _ ≤ _; exact Nat.le_of_eq rfl) (hb hby at_164) (fun _ _ => ⟨rfl, e70, (by decide : 1 + 0 ≤ _), (by decide : 17 + 0 ≤ _)⟩)
  dsimp only [Pt.U, Pt.locs, Pt.cells, Pt.slots] at X84 l84 y84 z84 st84 hQ84
  subst l84 y84 z84
  obtain ⟨rfl, N84q, hh84⟩ := hQ84
  have N84 := Fr.app N70 N84q
  have pre85 : Go p e below (s₁.setTop (entryFrame m #[(.int x0), (.int x1)] maxLocals)) (T84.setTop (mkF m 167 #[.val (.int x0), .val (.int x1), .val (.ref b0), .val (.int up), .val (.int cc), .val (.int cc), .val (.int ex)] [(.int (f1 cc))])) := fun t k => pre83 t (st84 t k)
  have pre86 : Go p e below (s₁.setTop (entryFrame m #[(.int x0), (.int x1)] maxLocals)) (T84.setTop (mkF m 169 #[.val (.int x0), .val (.int x1), .val (.ref b0), .val (.int up), .val (.int cc), .val (.int cc), .val (.int ex)] [(.int ex), (.int (f1 cc))])) := by
    intro t k
    refine pre85 t ?_
    show Steps p.tables e below (T84.setTop (mkF m 167 #[.val (.int x0), .val (.int x1), .val (.ref b0), .val (.int up), .val (.int cc), .val (.int cc), .val (.int ex)] [(.int (f1 cc))])) _
    refine XS.iload X84.here hx rfl (hb hby at_167) rfl ?_
    show Steps p.tables e below (T84.setTop (mkF m 169 #[.val (.int x0), .val (.int x1), .val (.ref b0), .val (.int up), .val (.int cc), .val (.int cc), .val (.int ex)] [(.int ex), (.int (f1 cc))])) _
    exact k
  have hc169_87 : (f1 cc) = ex := by
    rw [h_ex]; rfl
  have pre88 : Go p e below (s₁.setTop (entryFrame m #[(.int x0), (.int x1)] maxLocals)) (T84.setTop (mkF m 177 #[.val (.int x0), .val (.int x1), .val (.ref b0), .val (.int up), .val (.int cc), .val (.int cc), .val (.int ex)] [(.int (1 : Int32))])) := by
    intro t k
    refine pre86 t ?_
    show Steps p.tables e below (T84.setTop (mkF m 169 #[.val (.int x0), .val (.int x1), .val (.ref b0), .val (.int up), .val (.int cc), .val (.int cc), .val (.int ex)] [(.int ex), (.int (f1 cc))])) _
    refine XS.icmpNo X84.here hx rfl (hb hby at_169) rfl (XT.ii_ne_f hc169_87) ?_
    show Steps p.tables e below (T84.setTop (mkF m 172 #[.val (.int x0), .val (.int x1), .val (.ref b0), .val (.int up), .val (.int cc), .val (.int cc), .val (.int ex)] [])) _
    refine XS.iconst X84.here hx rfl (hb hby at_172) ?_
    show Steps p.tables e below (T84.setTop (mkF m 173 #[.val (.int x0), .val (.int x1), .val (.ref b0), .val (.int up), .val (.int cc), .val (.int cc), .val (.int ex)] [(.int (1 : Int32))])) _
    refine XS.goto X84.here hx rfl (pc0 := 173) (pc' := 177) rfl (hb hby at_173) (by decide) (by decide) ?_
    show Steps p.tables e below (T84.setTop (mkF m 177 #[.val (.int x0), .val (.int x1), .val (.ref b0), .val (.int up), .val (.int cc), .val (.int cc), .val (.int ex)] [(.int (1 : Int32))])) _
    exact k
  obtain ⟨fs, hr, hrun, hended, hW, hsame⟩ := X84.leave (v := some (.int (1 : Int32))) (fun h => by rw [Bd.returns] at h; cases h)
  refine ⟨_, _, pre88 _ (retN X84 hx (t := .boolean) Bd.returns (by simp) (hb hby at_177) hr), hrun, hended, _, _, rfl, ?_, ⟨_, rfl⟩, hW, hsame.mono (by decide) (by decide)⟩
  show Q0 Z x0 x1 h0 n0 _ T84.heap _
  rw [hh84]
  exact ⟨rfl, N84⟩
set_option maxRecDepth 65536 in
set_option maxHeartbeats 40000000 in
theorem comes_1 {Post : Tables → Env → Array Value → State → Outcome → State → Prop} (hpost : ∀ tb e args s v u, (limb_1_1.after args s (.returned v) u = true ∧ limb_1_2.after args s (.returned v) u = true ∧ True) → FrameEnd s (.returned v) u (Jvm.fieldLocs frame_1_writes args s ++ Jvm.arrayLocs frame_1_arrays args s ++ Jvm.staticLocs frame_1_statics s) 16 128 → Post tb e args s (.returned v) u) :
    ArmFor flags0 classFile x code maxLocals ret World_1 tables_1 room_1 Calls_1 rest_1 Pre_1 Post := by
  intro l hfl _ _ p e ha hc hk s m args below hf hA hF happ hP
  obtain ⟨hcalls, hrest, hpre⟩ := hP
  obtain ⟨-, -, -, hnamed, -, -, -, hat⟩ := (Spec.applies_iff hf).mp happ
  obtain ⟨hg, hn⟩ := and_e (Cond.before_iff.mp (show (Jvm.Cond.and given_1 narrow_1).before args s = true from hpre))
  obtain ⟨u1, u2⟩ := and_e hg
  obtain ⟨u3, u4⟩ := and_e u2
  obtain ⟨w0, w1, rfl⟩ : ∃ w0 w1 : Value, args = #[w0, w1] := by
    have hs : args.size = 2 := by simpa [Cond.value, given_1] using u1
    obtain ⟨L⟩ := args
    match L, hs with
    | [w0, w1], _ => exact ⟨w0, w1, rfl⟩
  have hw := fun d (hd : d ∈ tables_1) => atoms_spec (ws := Jvm.Cond.code x code maxLocals ret :: tables_1) hat d (List.mem_cons_of_mem _ hd)
  obtain ⟨i0, ei0⟩ := is_v u3
  obtain rfl : w0 = (.int i0) := Option.some.inj ei0
  obtain ⟨i1, ei1⟩ := is_v u4
  obtain rfl : w1 = (.int i1) := Option.some.inj ei1
  obtain ⟨n, o, h1, h2, h3, _, L, rfl, ⟨rfl, N⟩, hq⟩ := rm0 l s _ hw tables_1 i0 i1 s.heap s.heap.size (Nat.le_refl _) p e ha hc hk s m _ below hf ((Spec.applies_iff_loose hf).mp happ).1 ⟨rfl, State.Warmed39.refl s, rfl⟩ trivial
  refine ⟨n, _, h1, h2, h3, hpost _ _ _ _ _ _ ⟨Cond.after_iff.mpr rfl, Cond.after_iff.mpr (eq_i res_at (Term.int_eval (1)) rfl), trivial⟩ ⟨hq.1, hq.2.1, (hq.2.2.sift fun y hy => Or.inr (N y hy)).mono (by decide) (by decide)⟩⟩
theorem main_1_1 : Claimed_1_1 := comes_1 fun _ _ _ _ _ _ h hF => ⟨h.1, hF⟩
theorem main_1_2 : Claimed_1_2 := comes_1 fun _ _ _ _ _ _ h hF => ⟨h.2.1, hF⟩
end Jvm.Pilot.@@N@@
namespace Jvm.Pilot.@@N@@
open Jvm Jvm.ClassFile Sem Op Lib Jvm.Free Jvm.Stand Jvm.Pilot.@@N@@.Jvm.D
/-! MADE BY PROGRAM (witnessworld.py) out of the Statement's table words and the real class files: 11 classes; the members and pool entries that the words name. The judged class is class 1, her method 1. -/
namespace start1
open Jvm.ClassFile
def u (s : String) : CpInfo := .utf8 (stringToUtf16 s)
/-- a pool by its gaps: so many unusable entries, then the entry; so many at the end -/
def gap : Nat → List CpInfo → List CpInfo
  | 0, r => r
  | n + 1, r => .unusable :: gap n r
def poolList (es : List (Nat × CpInfo)) (last : Nat) : List CpInfo := es.foldr (fun e r => gap e.1 (e.2 :: r)) (gap last [])
def pool (es : List (Nat × CpInfo)) (last : Nat) : Array CpInfo := ⟨poolList es last⟩
def fileOf (pool : Array CpInfo) (this : Nat) (attrs : Array Attribute := #[]) (ms : Array MethodInfo := #[]) (fl : Nat := 33) (sup : Nat := 0) (ifs : Array Nat := #[]) (fds : Array FieldInfo := #[]) : ClassFile where
  minorVersion := 0
  majorVersion := 65
  constantPool := pool
  accessFlags := fl
  thisClass := this
  superClass := sup
  interfaces := ifs
  fields := fds
  methods := ms
  attributes := attrs
def plain (name : String) (sup : Option ClassId) : Class where
  name := name
  kind := .ordinary
  loader := none
  accessFlags := 33
  super := sup
  interfaces := #[]
  cf := none
  fields := #[]
  methods := #[]
  instanceTypes := #[]
  staticTypes := #[]
  resolved := #[]
  callSites := []
  init := .initialized
  statics := none
  mirror := none

def pool0 : Array CpInfo := pool [(5, u "<init>"), (0, u "()V"), (1, .class_ 10), (1, u "java/lang/Object")] 113

def k0m0 : Method := { name := "<init>", desc := "()V", sig := { parameters := [], returnType := none }, accessFlags := 1, code := none }
/-- java/lang/Object -/
def k0 : Class := { plain "java/lang/Object" none with
  accessFlags := 33
  interfaces := #[]
  cf := some (fileOf pool0 8 #[] #[{ accessFlags := 1, nameIndex := 5, descriptorIndex := 6, attributes := #[] }] 33 0 #[] #[])
  fields := #[]
  methods := #[k0m0]
  instanceTypes := #[]
  staticTypes := #[]
  resolved := Array.replicate 124 none
  statics := none }

def pool1 : Array CpInfo := pool [(2, .class_ 4), (1, u "java/lang/Object"), (0, u "<init>"), (0, u "()V"), (0, .integer 65279), (0, .integer 65535), (0, .integer 2147483647), (0, .methodref 11 12), (0, .class_ 13), (0, .nameAndType 14 15), (0, u "com/example/tallygate/tallygate/web/HttpSyntax"), (0, u "isBlank"), (0, u "(C)Z"), (0, .class_ 17), (0, u "com/example/tallygate/tallygate/web/HttpSyntaxIsBlankPinLaw"), (2, u "law"), (0, u "(II)Z")] 5

def k1m0 : Method := { name := "<init>", desc := "()V", sig := { parameters := [], returnType := none }, accessFlags := 1, code := none }
def k1c1 : Code := { maxStack := 4, maxLocals := 7, code := code, exceptionTable := #[], attributes := #[] }
def k1m1 : Method := { name := "law", desc := "(II)Z", sig := { parameters := [.int, .int], returnType := some .boolean }, accessFlags := 9, code := some k1c1 }
/-- com/example/tallygate/tallygate/web/HttpSyntaxIsBlankPinLaw -/
def k1 : Class := { plain "com/example/tallygate/tallygate/web/HttpSyntaxIsBlankPinLaw" (some 0) with
  accessFlags := 49
  interfaces := #[]
  cf := some (fileOf pool1 16 #[] #[{ accessFlags := 1, nameIndex := 5, descriptorIndex := 6, attributes := #[] }, { accessFlags := 9, nameIndex := 20, descriptorIndex := 21, attributes := #[] }] 49 2 #[] #[])
  fields := #[]
  methods := #[k1m0, k1m1]
  instanceTypes := #[]
  staticTypes := #[]
  resolved := Array.replicate 27 none
  statics := none }

def pool2 : Array CpInfo := pool [(2, .class_ 4), (1, u "java/lang/Object"), (0, u "<init>"), (0, u "()V"), (15, .class_ 24), (1, u "com/example/tallygate/tallygate/web/HttpSyntax"), (1, u "(C)Z"), (13, u "TOKEN_MARKS"), (0, u "Ljava/lang/String;"), (6, u "isBlank"), (3, .class_ 53), (0, u "com/example/tallygate/tallygate/web/HttpSyntax$Scan")] 2

def k2m0 : Method := { name := "<init>", desc := "()V", sig := { parameters := [], returnType := none }, accessFlags := 2, code := none }
def k2c1 : Code := { maxStack := 2, maxLocals := 1, code := prog_94_method_6_code, exceptionTable := #[], attributes := #[] }
def k2m1 : Method := { name := "isBlank", desc := "(C)Z", sig := { parameters := [.char], returnType := some .boolean }, accessFlags := 8, code := some k2c1 }
/-- com/example/tallygate/tallygate/web/HttpSyntax -/
def k2 : Class := { plain "com/example/tallygate/tallygate/web/HttpSyntax" (some 0) with
  accessFlags := 48
  interfaces := #[]
  cf := some (fileOf pool2 22 #[.nestMembers #[52]] #[{ accessFlags := 2, nameIndex := 5, descriptorIndex := 6, attributes := #[] }, { accessFlags := 8, nameIndex := 48, descriptorIndex := 26, attributes := #[] }] 48 2 #[] #[{ accessFlags := 26, nameIndex := 40, descriptorIndex := 41, attributes := #[] }])
  fields := #[{ name := "TOKEN_MARKS", type := (.object "java/lang/String"), accessFlags := 26, slot := 0, constantValue := 0 }]
  methods := #[k2m0, k2m1]
  instanceTypes := #[]
  staticTypes := #[(.object "java/lang/String")]
  resolved := Array.replicate 56 none
  statics := none }

def pool3 : Array CpInfo := pool [(1, u "java/lang/Cloneable"), (0, .class_ 1), (0, u "java/lang/Object"), (0, .class_ 3)] 3

/-- java/lang/Cloneable -/
def k3 : Class := { plain "java/lang/Cloneable" (some 0) with
  accessFlags := 1537
  interfaces := #[]
  cf := some (fileOf pool3 2 #[] #[] 1537 4 #[] #[])
  fields := #[]
  methods := #[]
  instanceTypes := #[]
  staticTypes := #[]
  resolved := Array.replicate 8 none
  statics := none }

def pool4 : Array CpInfo := pool [(1, u "java/io/Serializable"), (0, .class_ 1), (0, u "java/lang/Object"), (0, .class_ 3)] 3

/-- java/io/Serializable -/
def k4 : Class := { plain "java/io/Serializable" (some 0) with
  accessFlags := 1537
  interfaces := #[]
  cf := some (fileOf pool4 2 #[] #[] 1537 4 #[] #[])
  fields := #[]
  methods := #[]
  instanceTypes := #[]
  staticTypes := #[]
  resolved := Array.replicate 8 none
  statics := none }

/-- the primitive byte -/
def k5 : Class := { plain "byte" none with kind := .primitive 'B', accessFlags := 0x411 }
/-- [B -/
def k6 : Class := { plain "[B" (some 0) with kind := .array 5 .byte, interfaces := #[3, 4], accessFlags := 1041 }

/-- the primitive char -/
def k7 : Class := { plain "char" none with kind := .primitive 'C', accessFlags := 0x411 }
/-- [C -/
def k8 : Class := { plain "[C" (some 0) with kind := .array 7 .char, interfaces := #[3, 4], accessFlags := 1041 }

/-- the primitive int -/
def k9 : Class := { plain "int" none with kind := .primitive 'I', accessFlags := 0x411 }
/-- [I -/
def k10 : Class := { plain "[I" (some 0) with kind := .array 9 .int, interfaces := #[3, 4], accessFlags := 1041 }

def heap : Heap := #[]
def classes : Array Class := #[k0, k1, k2, k3, k4, k5, k6, k7, k8, k9, k10]
def interned : List (Array UInt16 × Addr) := []
def slotsUsed : Nat := 0
def theMethod : MethodId := ⟨1, 1⟩
def args0 : Array Value := #[.int 5, .int 7]
def aboutOver (below : List Frame) : State where
  vm := { classes := classes, interned := interned.toArray }
  heap := heap
  slotsUsed := slotsUsed
  threads := #[{ frames := .invoking theMethod args0 :: below }]
def below0 : List Frame := [.native { method := ⟨0, 0⟩, args := #[] }]
def about1 : State := aboutOver below0
def p0 : Program := .bare "" "" ""
def e0 : Env := launch0.env 0 0 0
theorem w_frames : about1.frames = Frame.invoking theMethod args0 :: below0 := rfl
set_option maxRecDepth 65536 in
theorem w_args : argsFit about1.vm theMethod args0 = true := by decide +kernel
set_option maxRecDepth 65536 in
theorem w_heap : heapFits about1 = true := by decide +kernel
set_option maxRecDepth 65536 in
theorem w_runnable : about1.curStatus? = some .runnable := by decide +kernel
set_option maxRecDepth 65536 in
theorem w_alone : about1.alone = true := by decide +kernel
set_option maxRecDepth 65536 in
theorem w_named : about1.methodNamed? x = some theMethod := by decide +kernel
set_option maxRecDepth 65536 in
theorem w_hears : about1.hears theMethod below0 = true := by decide +kernel
set_option maxRecDepth 65536 in
theorem w_ripe : about1.ripe theMethod args0 below0 = true := by decide +kernel
theorem w_running : about1.status = .running := rfl
set_option maxRecDepth 65536 in
theorem w_room : about1.hasRoom e0.platform room_1 = true :=
  launch0.hasRoom_least _ room_1 (by decide +kernel) (by decide +kernel) (by decide +kernel) (by decide +kernel) (by decide +kernel) (by decide +kernel)
theorem allAtoms_all (ts : List Jvm.Cond) (a : Array Jvm.Value) (st : Jvm.State) : (allAtoms ts).before a st = ts.all (fun c => c.before a st) := by
  induction ts with
  | nil => rfl
  | cons c t ih =>
    show (Jvm.Cond.and c (allAtoms t)).before a st = _
    rw [Jvm.Cond.before_and, ih, List.all_cons]
def words1 : List Jvm.Cond := Jvm.Cond.code x code maxLocals ret :: tables_1
/-- a 'code' word, met by the world's own term for the bytes: nothing is compared byte by byte -/
theorem code_word {y : MethodName} {bytes : ByteArray} {mx : Nat} {rt : Option FieldType} {a : Array Value} {s : State} {m : MethodId} {meth : Method} {c : Code} (h1 : s.methodNamed? y = some m) (h2 : s.vm.method? m = some meth) (h3 : meth.code = some c) (h4 : c.code = bytes)
    (h5 : (c.maxLocals == mx && c.exceptionTable.isEmpty && decide (c.maxStack ≤ mostOperands) && decide (meth.sig.returnType = rt) && !meth.locks && decide (parseMethodDescriptor y.desc = some meth.sig)) = true) : (Jvm.Cond.code y bytes mx rt).before a s = true := by
  simp only [Bool.and_eq_true, beq_iff_eq, Bool.not_eq_true', decide_eq_true_eq] at h5
  obtain ⟨⟨⟨⟨⟨g1, g2⟩, g3⟩, g4⟩, g5⟩, g6⟩ := h5
  simp [Cond.before, Cond.holds, Cond.value, h1, h2, h3, h4, g1, g2, g3, g4, g5, g6]
def isCode : Jvm.Cond → Bool
  | .code _ _ _ _ => true
  | _ => false
theorem all_split {L : List Jvm.Cond} {P : Jvm.Cond → Bool} (h1 : L.all (fun c => isCode c || P c) = true) (h2 : ∀ c ∈ L.filter isCode, P c = true) : L.all P = true := by
  refine List.all_eq_true.mpr fun c hc => ?_
  have h := List.all_eq_true.mp h1 c hc
  rcases Bool.eq_false_or_eq_true (isCode c) with hi | hi
  · exact h2 c (List.mem_filter.mpr ⟨hc, hi⟩)
  · simpa [hi] using h
set_option maxRecDepth 65536 in
theorem w_c0 : (Jvm.Cond.code x code maxLocals ret).before args0 about1 = true := code_word (m := ⟨1, 1⟩) (meth := k1m1) (c := k1c1) (by decide +kernel) rfl rfl rfl (by decide +kernel)
set_option maxRecDepth 65536 in
theorem w_c1 : (Jvm.Cond.code ({ cls := "com/example/tallygate/tallygate/web/HttpSyntax", name := "isBlank", desc := "(C)Z" } : Jvm.MethodName) prog_94_method_6_code (1 : Nat) (Option.some Jvm.ClassFile.FieldType.boolean)).before args0 about1 = true := code_word (m := ⟨2, 1⟩) (meth := k2m1) (c := k2c1) (by decide +kernel) rfl rfl rfl (by decide +kernel)
def codes1 : List Jvm.Cond := [Jvm.Cond.code x code maxLocals ret, Jvm.Cond.code ({ cls := "com/example/tallygate/tallygate/web/HttpSyntax", name := "isBlank", desc := "(C)Z" } : Jvm.MethodName) prog_94_method_6_code (1 : Nat) (Option.some Jvm.ClassFile.FieldType.boolean)]
set_option maxRecDepth 65536 in
theorem codes_eq : words1.filter isCode = codes1 := rfl
theorem w_codes : ∀ c ∈ words1.filter isCode, c.before args0 about1 = true := by
  rw [codes_eq]
  intro c hc
  simp only [codes1, List.mem_cons, List.not_mem_nil, or_false] at hc
  rcases hc with rfl | rfl
  · exact w_c0
  · exact w_c1
set_option maxRecDepth 65536 in
theorem w_t1 : words1.all (fun c => isCode c || c.before args0 about1) = true := by decide +kernel
theorem w_tables : (allAtoms (Jvm.Cond.code x code maxLocals ret :: tables_1)).before args0 about1 = true := by
  rw [allAtoms_all]
  show words1.all (fun c => c.before args0 about1) = true
  refine all_split ?_ w_codes
  rw [w_t1]
set_option maxRecDepth 65536 in
theorem w_case : (Jvm.Cond.and given_1 narrow_1).before args0 about1 = true := by decide +kernel
theorem w_applies : (headSpec (Jvm.Cond.code x code maxLocals ret :: tables_1) room_1).applies x e0.platform about1 = true :=
  (Spec.applies_iff w_frames).mpr ⟨w_running, w_runnable, w_alone, w_named, w_hears, w_ripe, w_room, w_tables⟩
theorem atStart : AtStart classFile x code maxLocals ret World_1 tables_1 room_1 Calls_1 rest_1 Pre_1 launch0 p0 e0 about1 theMethod args0 below0 :=
  ⟨lists_1, trivial, launch0.admits_env _ _ _, launch0.least_env, fairChoices_fair.cas, fairChoices_fair.clock, w_frames, w_args, w_heap, w_applies, trivial, trivial, w_case⟩
end start1
theorem witness_1 : WitnessClaimed_1 := ⟨start1.p0, start1.e0, start1.about1, start1.theMethod, start1.args0, start1.below0, start1.atStart⟩
end Jvm.Pilot.@@N@@
