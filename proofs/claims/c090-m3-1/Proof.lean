import JvmDerived
import JvmDerived.Pilot.@@N@@Statement
import JvmDerived.Pilot.@@N@@Code
set_option linter.unusedVariables false
set_option linter.unusedSimpArgs false
@@BLOCK:NumsL.lean.txt@@
namespace Jvm.RoadKit
open Sem ClassFile Op Lib Jvm.Stand Jvm.Free Jvm.LawKit
section New
variable {p : Program} {l : Launch} {e : Env} {R : Room} {s : State} {m : MethodId} {args : Array Value} {below : List Frame} {meth : Method} {c : Code} {T : State} {locs : List Loc} {cells slots : Nat}
theorem retI (X : Stand p l e R s m args below meth c T locs cells slots) (hx : p.tables.exec = Jvm.exec) {pc : Nat} {Ls : Array Slot} {z : Int32} {rest : List Value} (hret : meth.sig.returnType = some .int) (hd : decode c.code pc = .ok (.ireturn, 1)) {fs : List Frame}
    (hl : ∀ (f : JFrame) (acts : List Action), f.method = m → f.locked = none → f.entered = [] → (doReturn e (T.setTop f) acts (some (.int z))).1 = T.setFrames fs) : Steps p.tables e below (T.setTop (mkF m pc Ls (.int z :: rest))) (T.setFrames fs) :=
  retOut X hx (w := .int z) (t := .int) (i := .ireturn) hret rfl (Or.inl ⟨rfl, Or.inl rfl, z, rfl⟩) hd hl
theorem retJ (X : Stand p l e R s m args below meth c T locs cells slots) (hx : p.tables.exec = Jvm.exec) {pc : Nat} {Ls : Array Slot} {z : Int64} {rest : List Value} (hret : meth.sig.returnType = some .long) (hd : decode c.code pc = .ok (.lreturn, 1)) {fs : List Frame}
    (hl : ∀ (f : JFrame) (acts : List Action), f.method = m → f.locked = none → f.entered = [] → (doReturn e (T.setTop f) acts (some (.long z))).1 = T.setFrames fs) : Steps p.tables e below (T.setTop (mkF m pc Ls (.long z :: rest))) (T.setFrames fs) :=
  retOut X hx (w := .long z) (t := .long) (i := .lreturn) hret rfl (Or.inr (Or.inl ⟨rfl, rfl, z, rfl⟩)) hd hl
theorem retA (X : Stand p l e R s m args below meth c T locs cells slots) (hx : p.tables.exec = Jvm.exec) {pc : Nat} {Ls : Array Slot} {w : Value} {t : FieldType} {rest : List Value} (hret : meth.sig.returnType = some t) (ht : t.isReference = true) (hw : w.isRef = true) (hn : narrow t w = w) (hd : decode c.code pc = .ok (.areturn, 1)) {fs : List Frame}
    (hl : ∀ (f : JFrame) (acts : List Action), f.method = m → f.locked = none → f.entered = [] → (doReturn e (T.setTop f) acts (some w)).1 = T.setFrames fs) : Steps p.tables e below (T.setTop (mkF m pc Ls (w :: rest))) (T.setFrames fs) :=
  retOut X hx (w := w) (t := t) (i := .areturn) hret hn (Or.inr (Or.inr (Or.inr (Or.inr ⟨rfl, ht, hw⟩)))) hd hl
end New
end Jvm.RoadKit
namespace Jvm.Pilot.@@N@@
open Jvm Jvm.ClassFile Sem Op Lib Jvm.Free Jvm.Stand Jvm.LawKit Jvm.RoadKit Bundle Jvm.Pilot.@@N@@.Jvm.D
/-- from S every run comes to T -/
abbrev Go (p : Program) (e : Env) (below : List Frame) (S T : State) : Prop := ∀ t, Steps p.tables e below T t → Steps p.tables e below S t

theorem own_ofNat {c : Int32} {n : Nat} (h : c.toInt = n) : c = Int32.ofNat n := by
  apply Int32.toInt_inj.mp
  have h2 := c.toInt_lt
  rw [Int32.toInt_ofNat', show Int32.size = 4294967296 from rfl, Int.bmod_eq_of_le (by omega) (by omega), h]
theorem own_char (x : Int32) : (x.toUInt32.toUInt16.toUInt32.toInt32).toInt = x.toInt % 65536 := by
  have h : (x.toUInt32.toUInt16.toUInt32.toInt32).toBitVec = (x.toBitVec.setWidth 16).setWidth 32 := rfl
  have h1 : (x.toUInt32.toUInt16.toUInt32.toInt32).toInt = ((x.toBitVec.setWidth 16).setWidth 32).toInt := by rw [← h]; rfl
  rw [h1, BitVec.toInt_eq_toNat_cond]
  have h3 : x.toInt = x.toBitVec.toInt := rfl
  rw [h3, BitVec.toInt_eq_toNat_cond]
  simp only [BitVec.toNat_setWidth]
  have := x.toBitVec.isLt
  split <;> split <;> omega


theorem own_m31 (x : Int32) : 0 ≤ (x &&& 2147483647).toInt := by
  have := Jvm.Kit.i32_mask x 2147483647 (k := 31) (by decide) (by decide); omega
theorem own_rem (x n : Int32) (hn : 0 < n.toInt) : 0 ≤ ((x &&& 2147483647) % n).toInt ∧ ((x &&& 2147483647) % n).toInt < n.toInt := by
  rw [Jvm.Kit.i32_rem_nonneg (own_m31 x)]
  exact ⟨Int.emod_nonneg _ (by omega), Int.emod_lt_of_pos _ hn⟩
theorem own_remeq (x y : Int32) : x - (x / y) * y = x % y := by
  apply Int32.toInt_inj.mp
  have a := (x % y).toInt_lt; have b := (x % y).le_toInt
  rw [Int32.toInt_mod] at a b ⊢
  rw [Int32.toInt_sub, Int32.toInt_mul, Int32.toInt_div, Int.bmod_mul_bmod, Int.sub_bmod_bmod, Int.mul_comm, ← Int.tmod_def]
  exact Jvm.Kit.bmod32 b a
theorem own_irem {tb : Tables} [Ours tb] {e : Env} {below : List Frame} {T target : State} {m : MethodId} {c : Code} {g : JFrame} (h : At T m c below) (hx : tb.exec = Jvm.exec) (hg : g.method = m) {x y : Int32} {rest : List Value} (hd : decode c.code g.pc = .ok (.irem, 1)) (hs : g.stack = .int y :: .int x :: rest) (hy : y ≠ 0)
    (hr : Steps tb e below (T.setTop { g with pc := g.pc + 1, stack := .int (x % y) :: rest }) target) : Steps tb e below (T.setTop g) target := XS.irem h hx hg hd hs hy (by rw [own_remeq]; exact hr)

theorem ef_1 (m : MethodId) (p0 : Int32) : entryFrame m #[(.int p0)] 1 = mkF m 0 #[.val (.int p0)] [] := by first | (simp [entryFrame, mkF, argsToLocals, Value.category]; done) | rfl
theorem d1_0 : decode method_2_code 0 = .ok (.iload_n 0, 1) := by decide +kernel
theorem d1_1 : decode method_2_code 1 = .ok (.iconst 1, 1) := by decide +kernel
theorem d1_2 : decode method_2_code 2 = .ok (.iushr, 1) := by decide +kernel
theorem d1_3 : decode method_2_code 3 = .ok (.iconst 3, 1) := by decide +kernel
theorem d1_4 : decode method_2_code 4 = .ok (.irem, 1) := by decide +kernel
theorem d1_5 : decode method_2_code 5 = .ok (.iconst 1, 1) := by decide +kernel
theorem d1_6 : decode method_2_code 6 = .ok (.isub, 1) := by decide +kernel
theorem d1_7 : decode method_2_code 7 = .ok (.ireturn, 1) := by decide +kernel
def fout (p0 : Int32) : Int32 := (((((p0).toUInt32 >>> (((1 : Int32)) &&& 31).toUInt32).toInt32) % (3 : Int32)) - (1 : Int32))
def Q1 (Z : State) (p0 : Int32) (h0 : Heap) (n0 : Nat) (v : Option Value) (h : Heap) (L : List Loc) : Prop := v = some (.int (fout p0)) ∧ Fr n0 L ∧ h = h0
set_option maxRecDepth 65536 in
set_option maxHeartbeats 40000000 in
theorem pn_lightbin_RunValidityPinLaw : plainName "lightbin/RunValidityPinLaw" = true := by first | (simp [plainName, overriddenIn]; done) | decide +kernel
theorem rm1 (l : Launch) (Z : State) (a0 : Array Value) (hw : ∀ d ∈ tables_1, d.before a0 Z = true) (ws : List Jvm.Cond) (p0 : Int32) (h0 : Heap) (n0 : Nat) (Z0 : n0 ≤ h0.size) :
    MetFree l (⟨"lightbin/RunValidityPinLaw", "out", "(I)I"⟩ : MethodName) (head1 (Jvm.Cond.code (⟨"lightbin/RunValidityPinLaw", "out", "(I)I"⟩ : MethodName) method_2_code 1 (some .int) :: ws) ({ frames := 0, cells := 0, slots := 0, locals := 0 } : Room)) (fun a U => a = #[(.int p0)] ∧ Z.Warmed39 U.vm ∧ U.heap = h0) (fun _ _ _ _ _ => True) (fun _ U o U' => ∃ v L, o = .returned v ∧ Q1 Z p0 h0 n0 v U'.heap L ∧ FrameEnd U o U' L ({ frames := 0, cells := 0, slots := 0, locals := 0 } : Room).cells ({ frames := 0, cells := 0, slots := 0, locals := 0 } : Room).slots) := by
  refine MetFree.of_bodySF (plainFor_of_name pn_lightbin_RunValidityPinLaw) hisR ?_
  intro p e s m args below meth c s₁ Bd hml0 hP hK
  obtain ⟨rfl, hZ, hh⟩ := hP
  have hx := Bd.exec
  have hby := Bd.bytes
  have hml : c.maxLocals = 1 := hml0
  have hown : s.vm.findClass "lightbin/RunValidityPinLaw" = some m.cls := findClass_of_methodNamed Bd.named
  have hnm := (name_of_methodNamed Bd.named Bd.method).1
  have hlk : meth.locks = false := BodyLoose.notSynchronized Bd
  have X0 : Stand p l e ({ frames := 0, cells := 0, slots := 0, locals := 0 } : Room) s m #[(.int p0)] below meth c s₁ [] 0 0 := Stand.of_body Bd
  have e0 : s₁.heap = h0 := by rw [← hh, Bd.state]; rfl
  have N0 := Fr.nil n0
  have pre0 : Go p e below (s₁.setTop (entryFrame m #[(.int p0)] 1)) (s₁.setTop (mkF m 0 #[.val (.int p0)] [])) := fun t k => castTop (ef_1 m p0) k
  have pre1 : Go p e below (s₁.setTop (entryFrame m #[(.int p0)] 1)) (s₁.setTop (mkF m 7 #[.val (.int p0)] [(.int (((((p0).toUInt32 >>> (((1 : Int32)) &&& 31).toUInt32).toInt32) % (3 : Int32)) - (1 : Int32)))])) := by
    intro t k
    refine pre0 t ?_
    show Steps p.tables e below (s₁.setTop (mkF m 0 #[.val (.int p0)] [])) _
    refine XS.iloadN X0.here hx rfl (hb hby d1_0) rfl ?_
    show Steps p.tables e below (s₁.setTop (mkF m 1 #[.val (.int p0)] [(.int p0)])) _
    refine XS.iconst X0.here hx rfl (hb hby d1_1) ?_
    show Steps p.tables e below (s₁.setTop (mkF m 2 #[.val (.int p0)] [(.int (1 : Int32)), (.int p0)])) _
    refine XS.iushr X0.here hx rfl (hb hby d1_2) rfl ?_
    show Steps p.tables e below (s₁.setTop (mkF m 3 #[.val (.int p0)] [(.int (((p0).toUInt32 >>> (((1 : Int32)) &&& 31).toUInt32).toInt32))])) _
    refine XS.iconst X0.here hx rfl (hb hby d1_3) ?_
    show Steps p.tables e below (s₁.setTop (mkF m 4 #[.val (.int p0)] [(.int (3 : Int32)), (.int (((p0).toUInt32 >>> (((1 : Int32)) &&& 31).toUInt32).toInt32))])) _
    refine own_irem X0.here hx rfl (hb hby d1_4) rfl (by decide) ?_
    show Steps p.tables e below (s₁.setTop (mkF m 5 #[.val (.int p0)] [(.int ((((p0).toUInt32 >>> (((1 : Int32)) &&& 31).toUInt32).toInt32) % (3 : Int32)))])) _
    refine XS.iconst X0.here hx rfl (hb hby d1_5) ?_
    show Steps p.tables e below (s₁.setTop (mkF m 6 #[.val (.int p0)] [(.int (1 : Int32)), (.int ((((p0).toUInt32 >>> (((1 : Int32)) &&& 31).toUInt32).toInt32) % (3 : Int32)))])) _
    refine XS.isub X0.here hx rfl (hb hby d1_6) rfl ?_
    show Steps p.tables e below (s₁.setTop (mkF m 7 #[.val (.int p0)] [(.int (((((p0).toUInt32 >>> (((1 : Int32)) &&& 31).toUInt32).toInt32) % (3 : Int32)) - (1 : Int32)))])) _
    exact k
  obtain ⟨fs, hr, hrun, hended, hW, hsame⟩ := X0.leave (hlocks := hlk) (v := some (.int (((((p0).toUInt32 >>> (((1 : Int32)) &&& 31).toUInt32).toInt32) % (3 : Int32)) - (1 : Int32)))) (fun h => by rw [Bd.returns] at h; cases h)
  refine ⟨_, _, pre1 _ (retI X0 hx Bd.returns (hb hby d1_7) hr), hrun, hended, _, _, rfl, ?_, ⟨_, rfl⟩, hW, hsame.mono (by decide) (by decide)⟩
  show Q1 Z p0 h0 n0 _ s₁.heap _
  rw [e0]
  exact ⟨congrArg some (congrArg Value.int (show (((((p0).toUInt32 >>> (((1 : Int32)) &&& 31).toUInt32).toInt32) % (3 : Int32)) - (1 : Int32)) = fout p0 from by rw [fout])), N0, rfl⟩
theorem ef_6 (m : MethodId) (p0 : Int32) (p1 : Int32) : entryFrame m #[(.int p0), (.int p1)] 2 = mkF m 0 #[.val (.int p0), .val (.int p1)] [] := by first | (simp [entryFrame, mkF, argsToLocals, Value.category]; done) | rfl
theorem d6_0 : decode jdk_29_method_65_code 0 = .ok (.iload_n 0, 1) := by decide +kernel
theorem d6_1 : decode jdk_29_method_65_code 1 = .ok (.iload_n 1, 1) := by decide +kernel
theorem d6_2 : decode jdk_29_method_65_code 2 = .ok (.if_icmp .lt 7, 3) := by decide +kernel
theorem d6_9 : decode jdk_29_method_65_code 9 = .ok (.iload_n 1, 1) := by decide +kernel
theorem d6_10 : decode jdk_29_method_65_code 10 = .ok (.ireturn, 1) := by decide +kernel
theorem d6_5 : decode jdk_29_method_65_code 5 = .ok (.iload_n 0, 1) := by decide +kernel
theorem d6_6 : decode jdk_29_method_65_code 6 = .ok (.goto 4, 3) := by decide +kernel
def fmax (p0 : Int32) (p1 : Int32) : Int32 := (if p0 < p1 then p1 else p0)
def Q6 (Z : State) (p0 : Int32) (p1 : Int32) (h0 : Heap) (n0 : Nat) (v : Option Value) (h : Heap) (L : List Loc) : Prop := v = some (.int (fmax p0 p1)) ∧ Fr n0 L ∧ h = h0
set_option maxRecDepth 65536 in
set_option maxHeartbeats 40000000 in
theorem rm6 (l : Launch) (Z : State) (a0 : Array Value) (hw : ∀ d ∈ tables_1, d.before a0 Z = true) (ws : List Jvm.Cond) (p0 : Int32) (p1 : Int32) (h0 : Heap) (n0 : Nat) (Z0 : n0 ≤ h0.size) :
    MetFree l (⟨"java/lang/Math", "max", "(II)I"⟩ : MethodName) (head1 (Jvm.Cond.code (⟨"java/lang/Math", "max", "(II)I"⟩ : MethodName) jdk_29_method_65_code 2 (some .int) :: ws) ({ frames := 0, cells := 0, slots := 0, locals := 0 } : Room)) (fun a U => a = #[(.int p0), (.int p1)] ∧ Z.Warmed39 U.vm ∧ U.heap = h0) (fun _ _ _ _ _ => True) (fun _ U o U' => ∃ v L, o = .returned v ∧ Q6 Z p0 p1 h0 n0 v U'.heap L ∧ FrameEnd U o U' L ({ frames := 0, cells := 0, slots := 0, locals := 0 } : Room).cells ({ frames := 0, cells := 0, slots := 0, locals := 0 } : Room).slots) := by
  refine MetFree.of_bodySF (Jvm.Free.JP.mathPlain rfl (by decide +kernel)) hisR ?_
  intro p e s m args below meth c s₁ Bd hml0 hP hK
  obtain ⟨rfl, hZ, hh⟩ := hP
  have hx := Bd.exec
  have hby := Bd.bytes
  have hml : c.maxLocals = 2 := hml0
  have hown : s.vm.findClass "java/lang/Math" = some m.cls := findClass_of_methodNamed Bd.named
  have hnm := (name_of_methodNamed Bd.named Bd.method).1
  have hlk : meth.locks = false := BodyLoose.notSynchronized Bd
  have X0 : Stand p l e ({ frames := 0, cells := 0, slots := 0, locals := 0 } : Room) s m #[(.int p0), (.int p1)] below meth c s₁ [] 0 0 := Stand.of_body Bd
  have e0 : s₁.heap = h0 := by rw [← hh, Bd.state]; rfl
  have N0 := Fr.nil n0
  have pre0 : Go p e below (s₁.setTop (entryFrame m #[(.int p0), (.int p1)] 2)) (s₁.setTop (mkF m 0 #[.val (.int p0), .val (.int p1)] [])) := fun t k => castTop (ef_6 m p0 p1) k
  have pre1 : Go p e below (s₁.setTop (entryFrame m #[(.int p0), (.int p1)] 2)) (s₁.setTop (mkF m 2 #[.val (.int p0), .val (.int p1)] [(.int p1), (.int p0)])) := by
    intro t k
    refine pre0 t ?_
    show Steps p.tables e below (s₁.setTop (mkF m 0 #[.val (.int p0), .val (.int p1)] [])) _
    refine XS.iloadN X0.here hx rfl (hb hby d6_0) rfl ?_
    show Steps p.tables e below (s₁.setTop (mkF m 1 #[.val (.int p0), .val (.int p1)] [(.int p0)])) _
    refine XS.iloadN X0.here hx rfl (hb hby d6_1) rfl ?_
    show Steps p.tables e below (s₁.setTop (mkF m 2 #[.val (.int p0), .val (.int p1)] [(.int p1), (.int p0)])) _
    exact k
  by_cases hc2_2 : p0 < p1
  · skip
    have pre3 : Go p e below (s₁.setTop (entryFrame m #[(.int p0), (.int p1)] 2)) (s₁.setTop (mkF m 10 #[.val (.int p0), .val (.int p1)] [(.int p1)])) := by
      intro t k
      refine pre1 t ?_
      show Steps p.tables e below (s₁.setTop (mkF m 2 #[.val (.int p0), .val (.int p1)] [(.int p1), (.int p0)])) _
      refine XS.icmpYes X0.here hx rfl (pc0 := 2) (pc' := 9) rfl (hb hby d6_2) rfl (XT.ii_lt_t hc2_2) (by decide) (by decide) ?_
      show Steps p.tables e below (s₁.setTop (mkF m 9 #[.val (.int p0), .val (.int p1)] [])) _
      refine XS.iloadN X0.here hx rfl (hb hby d6_9) rfl ?_
      show Steps p.tables e below (s₁.setTop (mkF m 10 #[.val (.int p0), .val (.int p1)] [(.int p1)])) _
      exact k
    obtain ⟨fs, hr, hrun, hended, hW, hsame⟩ := X0.leave (hlocks := hlk) (v := some (.int p1)) (fun h => by rw [Bd.returns] at h; cases h)
    refine ⟨_, _, pre3 _ (retI X0 hx Bd.returns (hb hby d6_10) hr), hrun, hended, _, _, rfl, ?_, ⟨_, rfl⟩, hW, hsame.mono (by decide) (by decide)⟩
    show Q6 Z p0 p1 h0 n0 _ s₁.heap _
    rw [e0]
    exact ⟨congrArg some (congrArg Value.int (show p1 = fmax p0 p1 from by rw [fmax, if_pos hc2_2])), N0, rfl⟩
  · skip
    have pre4 : Go p e below (s₁.setTop (entryFrame m #[(.int p0), (.int p1)] 2)) (s₁.setTop (mkF m 10 #[.val (.int p0), .val (.int p1)] [(.int p0)])) := by
      intro t k
      refine pre1 t ?_
      show Steps p.tables e below (s₁.setTop (mkF m 2 #[.val (.int p0), .val (.int p1)] [(.int p1), (.int p0)])) _
      refine XS.icmpNo X0.here hx rfl (hb hby d6_2) rfl (XT.ii_lt_f hc2_2) ?_
      show Steps p.tables e below (s₁.setTop (mkF m 5 #[.val (.int p0), .val (.int p1)] [])) _
      refine XS.iloadN X0.here hx rfl (hb hby d6_5) rfl ?_
      show Steps p.tables e below (s₁.setTop (mkF m 6 #[.val (.int p0), .val (.int p1)] [(.int p0)])) _
      refine XS.goto X0.here hx rfl (pc0 := 6) (pc' := 10) rfl (hb hby d6_6) (by decide) (by decide) ?_
      show Steps p.tables e below (s₁.setTop (mkF m 10 #[.val (.int p0), .val (.int p1)] [(.int p0)])) _
      exact k
    obtain ⟨fs, hr, hrun, hended, hW, hsame⟩ := X0.leave (hlocks := hlk) (v := some (.int p0)) (fun h => by rw [Bd.returns] at h; cases h)
    refine ⟨_, _, pre4 _ (retI X0 hx Bd.returns (hb hby d6_10) hr), hrun, hended, _, _, rfl, ?_, ⟨_, rfl⟩, hW, hsame.mono (by decide) (by decide)⟩
    show Q6 Z p0 p1 h0 n0 _ s₁.heap _
    rw [e0]
    exact ⟨congrArg some (congrArg Value.int (show p0 = fmax p0 p1 from by rw [fmax, if_neg hc2_2])), N0, rfl⟩
def own_Run (Z : State) (h : Heap) (a : Addr) (fi ie nd on ze dr : Int32) : Prop := Exa Z h a "lightbin/AgreementResult$Run" ∧ Fld Z h a "lightbin/AgreementResult$Run" "firstInput" "I" (.int fi) ∧ Fld Z h a "lightbin/AgreementResult$Run" "inputsEqual" "Z" (.int ie) ∧ Fld Z h a "lightbin/AgreementResult$Run" "nodes" "I" (.int nd) ∧ Fld Z h a "lightbin/AgreementResult$Run" "ones" "I" (.int on) ∧ Fld Z h a "lightbin/AgreementResult$Run" "zeros" "I" (.int ze) ∧ Fld Z h a "lightbin/AgreementResult$Run" "decisionRound" "I" (.int dr)
def own_fi (nd i fi : Int32) : Int32 := if nd = (0 : Int32) then i else fi
def own_ie (ie i f : Int32) : Int32 := nar .boolean (ie &&& (if i = f then (1 : Int32) else (0 : Int32)))
def own_on (o n : Int32) : Int32 := if o < (0 : Int32) then n else (if o = (1 : Int32) then n + (1 : Int32) else n)
def own_ze (o n : Int32) : Int32 := if o < (0 : Int32) then n else (if o = (1 : Int32) then n else n + (1 : Int32))
theorem ef_2 (m : MethodId) (a1 : Addr) : entryFrame m #[(.ref a1)] 1 = mkF m 0 #[.val (.ref a1)] [] := by first | (simp [entryFrame, mkF, argsToLocals, Value.category]; done) | rfl
theorem d2_0 : decode prog_5_method_1_code 0 = .ok (.aload_n 0, 1) := by decide +kernel
theorem d2_1 : decode prog_5_method_1_code 1 = .ok (.invokespecial 1, 3) := by decide +kernel
theorem d2_4 : decode prog_5_method_1_code 4 = .ok (.aload_n 0, 1) := by decide +kernel
theorem d2_5 : decode prog_5_method_1_code 5 = .ok (.iconst (-1), 1) := by decide +kernel
theorem d2_6 : decode prog_5_method_1_code 6 = .ok (.putfield 7, 3) := by decide +kernel
theorem d2_9 : decode prog_5_method_1_code 9 = .ok (.aload_n 0, 1) := by decide +kernel
theorem d2_10 : decode prog_5_method_1_code 10 = .ok (.iconst 1, 1) := by decide +kernel
theorem d2_11 : decode prog_5_method_1_code 11 = .ok (.putfield 13, 3) := by decide +kernel
theorem d2_14 : decode prog_5_method_1_code 14 = .ok (.return_, 1) := by decide +kernel
def Q2 (Z : State) (a1 : Addr) (h0 : Heap) (n0 : Nat) (v : Option Value) (h : Heap) (L : List Loc) : Prop := v = none ∧ Fr n0 L ∧ Keep h0 h [a1] ∧ own_Run Z h a1 (-1 : Int32) (nar .boolean (1 : Int32)) (0 : Int32) (0 : Int32) (0 : Int32) (0 : Int32)
set_option maxRecDepth 65536 in
set_option maxHeartbeats 40000000 in
theorem pn_lightbin_AgreementResult_Run : plainName "lightbin/AgreementResult$Run" = true := by first | (simp [plainName, overriddenIn]; done) | decide +kernel
theorem rm2 (l : Launch) (Z : State) (a0 : Array Value) (hw : ∀ d ∈ tables_1, d.before a0 Z = true) (ws : List Jvm.Cond) (a1 : Addr) (h0 : Heap) (n0 : Nat) (Z0 : n0 ≤ h0.size) (E1 : Exa Z h0 a1 "lightbin/AgreementResult$Run") (F0 : Fld Z h0 a1 "lightbin/AgreementResult$Run" "firstInput" "I" (.int (0 : Int32))) (F1 : Fld Z h0 a1 "lightbin/AgreementResult$Run" "inputsEqual" "Z" (.int (0 : Int32))) (F2 : Fld Z h0 a1 "lightbin/AgreementResult$Run" "nodes" "I" (.int (0 : Int32))) (F3 : Fld Z h0 a1 "lightbin/AgreementResult$Run" "ones" "I" (.int (0 : Int32))) (F4 : Fld Z h0 a1 "lightbin/AgreementResult$Run" "zeros" "I" (.int (0 : Int32))) (F5 : Fld Z h0 a1 "lightbin/AgreementResult$Run" "decisionRound" "I" (.int (0 : Int32))) (g_a1 : n0 ≤ a1) :
    MetFree l (⟨"lightbin/AgreementResult$Run", "<init>", "()V"⟩ : MethodName) (head1 (Jvm.Cond.code (⟨"lightbin/AgreementResult$Run", "<init>", "()V"⟩ : MethodName) prog_5_method_1_code 1 none :: ws) ({ frames := 1, cells := 0, slots := 0, locals := 12 } : Room)) (fun a U => a = #[(.ref a1)] ∧ Z.Warmed39 U.vm ∧ U.heap = h0) (fun _ _ _ _ _ => True) (fun _ U o U' => ∃ v L, o = .returned v ∧ Q2 Z a1 h0 n0 v U'.heap L ∧ FrameEnd U o U' L ({ frames := 1, cells := 0, slots := 0, locals := 12 } : Room).cells ({ frames := 1, cells := 0, slots := 0, locals := 12 } : Room).slots) := by
  refine MetFree.of_bodySF (plainFor_of_name pn_lightbin_AgreementResult_Run) hisR ?_
  intro p e s m args below meth c s₁ Bd hml0 hP hK
  obtain ⟨rfl, hZ, hh⟩ := hP
  have hx := Bd.exec
  have hby := Bd.bytes
  have hml : c.maxLocals = 1 := hml0
  have hown : s.vm.findClass "lightbin/AgreementResult$Run" = some m.cls := findClass_of_methodNamed Bd.named
  have hnm := (name_of_methodNamed Bd.named Bd.method).1
  have hlk : meth.locks = false := BodyLoose.notSynchronized Bd
  have X0 : Stand p l e ({ frames := 1, cells := 0, slots := 0, locals := 12 } : Room) s m #[(.ref a1)] below meth c s₁ [] 0 0 := Stand.of_body Bd
  have e0 : s₁.heap = h0 := by rw [← hh, Bd.state]; rfl
  have N0 := Fr.nil n0
  have pre0 : Go p e below (s₁.setTop (entryFrame m #[(.ref a1)] 1)) (s₁.setTop (mkF m 0 #[.val (.ref a1)] [])) := fun t k => castTop (ef_2 m a1) k
  have pre1 : Go p e below (s₁.setTop (entryFrame m #[(.ref a1)] 1)) (s₁.setTop (mkF m 1 #[.val (.ref a1)] [(.ref a1)])) := by
    intro t k
    refine pre0 t ?_
    show Steps p.tables e below (s₁.setTop (mkF m 0 #[.val (.ref a1)] [])) _
    refine XS.aloadN X0.here hx rfl (hb hby d2_0) rfl rfl ?_
    show Steps p.tables e below (s₁.setTop (mkF m 1 #[.val (.ref a1)] [(.ref a1)])) _
    exact k
  obtain ⟨T2, X2, e2, st2⟩ := initO X0 hx hZ hown (hw _ (List.mem_of_getElem? (i := 10) rfl)) (hw _ (List.mem_of_getElem? (i := 11) rfl)) (hw _ (List.mem_of_getElem? (i := 12) rfl)) e0 (g := (mkF m 1 #[.val (.ref a1)] [(.ref a1)])) rfl (by rw [hml]; rfl) rfl (hb hby d2_1) (by decide) (W := 0) (by show 2 * 0 + _ ≤ _; exact Nat.le_of_eq rfl) (by decide)
  have pre3 : Go p e below (s₁.setTop (entryFrame m #[(.ref a1)] 1)) (T2.setTop (mkF m 4 #[.val (.ref a1)] [])) := fun t k => pre1 t (st2 t k)
  have pre4 : Go p e below (s₁.setTop (entryFrame m #[(.ref a1)] 1)) (T2.setTop (mkF m 6 #[.val (.ref a1)] [(.int (-1 : Int32)), (.ref a1)])) := by
    intro t k
    refine pre3 t ?_
    show Steps p.tables e below (T2.setTop (mkF m 4 #[.val (.ref a1)] [])) _
    refine XS.aloadN X2.here hx rfl (hb hby d2_4) rfl rfl ?_
    show Steps p.tables e below (T2.setTop (mkF m 5 #[.val (.ref a1)] [(.ref a1)])) _
    refine XS.iconst X2.here hx rfl (hb hby d2_5) ?_
    show Steps p.tables e below (T2.setTop (mkF m 6 #[.val (.ref a1)] [(.int (-1 : Int32)), (.ref a1)])) _
    exact k
  obtain ⟨T5, h5, X5, e5, W5, st5⟩ := putF X2 hx hZ hown (host := "") (Or.inl (hw _ (List.mem_of_getElem? (i := 13) rfl))) Via.refl e2 F0 E1 (Or.inl (hw _ (List.mem_of_getElem? (i := 14) rfl))) (hw _ (List.mem_of_getElem? (i := 5) rfl)) (ty := .int) (by decide) rfl rfl (g := (mkF m 6 #[.val (.ref a1)] [(.int (-1 : Int32)), (.ref a1)])) rfl rfl (hb hby d2_6)
  have Fw5 := F0.same W5
  have c6_5 := E1.wr W5
  have c7_5 := F1.other W5 (Or.inr (slot_ne (Or.inl (hw _ (List.mem_of_getElem? (i := 16) rfl))) (Or.inl (hw _ (List.mem_of_getElem? (i := 14) rfl))) (by decide) (t := .boolean) (t' := .int) (by decide) (by decide)))
  have c8_5 := F2.other W5 (Or.inr (slot_ne (Or.inl (hw _ (List.mem_of_getElem? (i := 30) rfl))) (Or.inl (hw _ (List.mem_of_getElem? (i := 14) rfl))) (by decide) (t := .int) (t' := .int) (by decide) (by decide)))
  have c9_5 := F3.other W5 (Or.inr (slot_ne (Or.inl (hw _ (List.mem_of_getElem? (i := 23) rfl))) (Or.inl (hw _ (List.mem_of_getElem? (i := 14) rfl))) (by decide) (t := .int) (t' := .int) (by decide) (by decide)))
  have c10_5 := F4.other W5 (Or.inr (slot_ne (Or.inl (hw _ (List.mem_of_getElem? (i := 38) rfl))) (Or.inl (hw _ (List.mem_of_getElem? (i := 14) rfl))) (by decide) (t := .int) (t' := .int) (by decide) (by decide)))
  have c11_5 := F5.other W5 (Or.inr (slot_ne (Or.inl (hw _ (List.mem_of_getElem? (i := 32) rfl))) (Or.inl (hw _ (List.mem_of_getElem? (i := 14) rfl))) (by decide) (t := .int) (t' := .int) (by decide) (by decide)))
  have zz12 := (Nat.le_trans Z0 (Keep.of_wr W5).1)
  have K13 := (Keep.refl h0 [a1]).wr W5 (Or.inl (List.mem_singleton.mpr rfl))
  have N5 := Fr.snoc X5 N0 g_a1
  have pre14 : Go p e below (s₁.setTop (entryFrame m #[(.ref a1)] 1)) (T5.setTop (mkF m 9 #[.val (.ref a1)] [])) := fun t k => pre4 t (st5 t k)
  have pre15 : Go p e below (s₁.setTop (entryFrame m #[(.ref a1)] 1)) (T5.setTop (mkF m 11 #[.val (.ref a1)] [(.int (1 : Int32)), (.ref a1)])) := by
    intro t k
    refine pre14 t ?_
    show Steps p.tables e below (T5.setTop (mkF m 9 #[.val (.ref a1)] [])) _
    refine XS.aloadN X5.here hx rfl (hb hby d2_9) rfl rfl ?_
    show Steps p.tables e below (T5.setTop (mkF m 10 #[.val (.ref a1)] [(.ref a1)])) _
    refine XS.iconst X5.here hx rfl (hb hby d2_10) ?_
    show Steps p.tables e below (T5.setTop (mkF m 11 #[.val (.ref a1)] [(.int (1 : Int32)), (.ref a1)])) _
    exact k
  obtain ⟨T16, h16, X16, e16, W16, st16⟩ := putFN X5 hx hZ hown (hw _ (List.mem_of_getElem? (i := 15) rfl)) Via.refl e5 c7_5 c6_5 (Or.inl (hw _ (List.mem_of_getElem? (i := 16) rfl))) (hw _ (List.mem_of_getElem? (i := 5) rfl)) (ty := .boolean) (v' := (.int (nar .boolean (1 : Int32)))) (by decide) rfl (fits_nar_bool _) (g := (mkF m 11 #[.val (.ref a1)] [(.int (1 : Int32)), (.ref a1)])) rfl rfl (hb hby d2_11)
  have Fw16 := c7_5.same W16
  have c17_16 := c6_5.wr W16
  have c18_16 := Fw5.other W16 (Or.inr (slot_ne (Or.inl (hw _ (List.mem_of_getElem? (i := 14) rfl))) (Or.inl (hw _ (List.mem_of_getElem? (i := 16) rfl))) (by decide) (t := .int) (t' := .boolean) (by decide) (by decide)))
  have c19_16 := c8_5.other W16 (Or.inr (slot_ne (Or.inl (hw _ (List.mem_of_getElem? (i := 30) rfl))) (Or.inl (hw _ (List.mem_of_getElem? (i := 16) rfl))) (by decide) (t := .int) (t' := .boolean) (by decide) (by decide)))
  have c20_16 := c9_5.other W16 (Or.inr (slot_ne (Or.inl (hw _ (List.mem_of_getElem? (i := 23) rfl))) (Or.inl (hw _ (List.mem_of_getElem? (i := 16) rfl))) (by decide) (t := .int) (t' := .boolean) (by decide) (by decide)))
  have c21_16 := c10_5.other W16 (Or.inr (slot_ne (Or.inl (hw _ (List.mem_of_getElem? (i := 38) rfl))) (Or.inl (hw _ (List.mem_of_getElem? (i := 16) rfl))) (by decide) (t := .int) (t' := .boolean) (by decide) (by decide)))
  have c22_16 := c11_5.other W16 (Or.inr (slot_ne (Or.inl (hw _ (List.mem_of_getElem? (i := 32) rfl))) (Or.inl (hw _ (List.mem_of_getElem? (i := 16) rfl))) (by decide) (t := .int) (t' := .boolean) (by decide) (by decide)))
  have zz23 := (Nat.le_trans zz12 (Keep.of_wr W16).1)
  have K24 := K13.wr W16 (Or.inl (List.mem_singleton.mpr rfl))
  have N16 := Fr.snoc X16 N5 g_a1
  have pre25 : Go p e below (s₁.setTop (entryFrame m #[(.ref a1)] 1)) (T16.setTop (mkF m 14 #[.val (.ref a1)] [])) := fun t k => pre15 t (st16 t k)
  obtain ⟨fs, hr, hrun, hended, hW, hsame⟩ := X16.leave (hlocks := hlk) (v := none) (fun _ => rfl)
  refine ⟨_, _, pre25 _ (X16.returnOut hx Bd.returns (hb hby d2_14) hr), hrun, hended, _, _, rfl, ?_, ⟨_, rfl⟩, hW, hsame.mono (by decide) (by decide)⟩
  show Q2 Z a1 h0 n0 _ T16.heap _
  rw [e16]
  exact ⟨rfl, N16, K24, c17_16, c18_16, Fw16, c19_16, c20_16, c21_16, c22_16⟩
theorem ef_5 (m : MethodId) (a1 : Addr) (p1 : Int32) (p2 : Int32) (p3 : Int32) : entryFrame m #[(.ref a1), (.int p1), (.int p2), (.int p3)] 4 = mkF m 0 #[.val (.ref a1), .val (.int p1), .val (.int p2), .val (.int p3)] [] := by first | (simp [entryFrame, mkF, argsToLocals, Value.category]; done) | rfl
theorem d5_0 : decode prog_5_method_2_code 0 = .ok (.aload_n 0, 1) := by decide +kernel
theorem d5_1 : decode prog_5_method_2_code 1 = .ok (.dup, 1) := by decide +kernel
theorem d5_2 : decode prog_5_method_2_code 2 = .ok (.getfield 17, 3) := by decide +kernel
theorem d5_5 : decode prog_5_method_2_code 5 = .ok (.dup_x1, 1) := by decide +kernel
theorem d5_6 : decode prog_5_method_2_code 6 = .ok (.iconst 1, 1) := by decide +kernel
theorem d5_7 : decode prog_5_method_2_code 7 = .ok (.iadd, 1) := by decide +kernel
theorem d5_8 : decode prog_5_method_2_code 8 = .ok (.putfield 17, 3) := by decide +kernel
theorem d5_11 : decode prog_5_method_2_code 11 = .ok (.ifCond .ne 8, 3) := by decide +kernel
theorem d5_14 : decode prog_5_method_2_code 14 = .ok (.aload_n 0, 1) := by decide +kernel
theorem d5_15 : decode prog_5_method_2_code 15 = .ok (.iload_n 1, 1) := by decide +kernel
theorem d5_16 : decode prog_5_method_2_code 16 = .ok (.putfield 7, 3) := by decide +kernel
theorem d5_19 : decode prog_5_method_2_code 19 = .ok (.aload_n 0, 1) := by decide +kernel
theorem d5_20 : decode prog_5_method_2_code 20 = .ok (.dup, 1) := by decide +kernel
theorem d5_21 : decode prog_5_method_2_code 21 = .ok (.getfield 13, 3) := by decide +kernel
theorem d5_24 : decode prog_5_method_2_code 24 = .ok (.iload_n 1, 1) := by decide +kernel
theorem d5_25 : decode prog_5_method_2_code 25 = .ok (.aload_n 0, 1) := by decide +kernel
theorem d5_26 : decode prog_5_method_2_code 26 = .ok (.getfield 7, 3) := by decide +kernel
theorem d5_29 : decode prog_5_method_2_code 29 = .ok (.if_icmp .ne 7, 3) := by decide +kernel
theorem d5_32 : decode prog_5_method_2_code 32 = .ok (.iconst 1, 1) := by decide +kernel
theorem d5_33 : decode prog_5_method_2_code 33 = .ok (.goto 4, 3) := by decide +kernel
theorem d5_36 : decode prog_5_method_2_code 36 = .ok (.iconst 0, 1) := by decide +kernel
theorem d5_37 : decode prog_5_method_2_code 37 = .ok (.iand, 1) := by decide +kernel
theorem d5_38 : decode prog_5_method_2_code 38 = .ok (.putfield 13, 3) := by decide +kernel
theorem d5_41 : decode prog_5_method_2_code 41 = .ok (.iload_n 2, 1) := by decide +kernel
theorem d5_42 : decode prog_5_method_2_code 42 = .ok (.ifCond .ge 4, 3) := by decide +kernel
theorem d5_45 : decode prog_5_method_2_code 45 = .ok (.return_, 1) := by decide +kernel
theorem d5_46 : decode prog_5_method_2_code 46 = .ok (.iload_n 2, 1) := by decide +kernel
theorem d5_47 : decode prog_5_method_2_code 47 = .ok (.iconst 1, 1) := by decide +kernel
theorem d5_48 : decode prog_5_method_2_code 48 = .ok (.if_icmp .ne 16, 3) := by decide +kernel
theorem d5_51 : decode prog_5_method_2_code 51 = .ok (.aload_n 0, 1) := by decide +kernel
theorem d5_52 : decode prog_5_method_2_code 52 = .ok (.dup, 1) := by decide +kernel
theorem d5_53 : decode prog_5_method_2_code 53 = .ok (.getfield 20, 3) := by decide +kernel
theorem d5_56 : decode prog_5_method_2_code 56 = .ok (.iconst 1, 1) := by decide +kernel
theorem d5_57 : decode prog_5_method_2_code 57 = .ok (.iadd, 1) := by decide +kernel
theorem d5_58 : decode prog_5_method_2_code 58 = .ok (.putfield 20, 3) := by decide +kernel
theorem d5_61 : decode prog_5_method_2_code 61 = .ok (.goto 13, 3) := by decide +kernel
theorem d5_74 : decode prog_5_method_2_code 74 = .ok (.aload_n 0, 1) := by decide +kernel
theorem d5_75 : decode prog_5_method_2_code 75 = .ok (.aload_n 0, 1) := by decide +kernel
theorem d5_76 : decode prog_5_method_2_code 76 = .ok (.getfield 26, 3) := by decide +kernel
theorem d5_79 : decode prog_5_method_2_code 79 = .ok (.iload_n 3, 1) := by decide +kernel
theorem d5_80 : decode prog_5_method_2_code 80 = .ok (.invokestatic 29, 3) := by decide +kernel
theorem pd_3 : parseMethodDescriptor "(II)I" = some ⟨[.int, .int], some .int⟩ := by decide +kernel
theorem d5_83 : decode prog_5_method_2_code 83 = .ok (.putfield 26, 3) := by decide +kernel
theorem d5_86 : decode prog_5_method_2_code 86 = .ok (.return_, 1) := by decide +kernel
theorem d5_64 : decode prog_5_method_2_code 64 = .ok (.aload_n 0, 1) := by decide +kernel
theorem d5_65 : decode prog_5_method_2_code 65 = .ok (.dup, 1) := by decide +kernel
theorem d5_66 : decode prog_5_method_2_code 66 = .ok (.getfield 23, 3) := by decide +kernel
theorem d5_69 : decode prog_5_method_2_code 69 = .ok (.iconst 1, 1) := by decide +kernel
theorem d5_70 : decode prog_5_method_2_code 70 = .ok (.iadd, 1) := by decide +kernel
theorem d5_71 : decode prog_5_method_2_code 71 = .ok (.putfield 23, 3) := by decide +kernel
def Q5 (Z : State) (a1 : Addr) (p1 : Int32) (p2 : Int32) (p3 : Int32) (fi : Int32) (ie : Int32) (nd : Int32) (on : Int32) (ze : Int32) (dr : Int32) (h0 : Heap) (n0 : Nat) (v : Option Value) (h : Heap) (L : List Loc) : Prop := v = none ∧ Fr n0 L ∧ Keep h0 h [a1] ∧ ∃ dr', own_Run Z h a1 (own_fi nd p1 fi) (own_ie ie p1 (own_fi nd p1 fi)) (nd + (1 : Int32)) (own_on p2 on) (own_ze p2 ze) dr'
set_option maxRecDepth 65536 in
set_option maxHeartbeats 40000000 in
theorem rm5 (l : Launch) (Z : State) (a0 : Array Value) (hw : ∀ d ∈ tables_1, d.before a0 Z = true) (ws : List Jvm.Cond) (a1 : Addr) (p1 : Int32) (p2 : Int32) (p3 : Int32) (fi : Int32) (ie : Int32) (nd : Int32) (on : Int32) (ze : Int32) (dr : Int32) (h0 : Heap) (n0 : Nat) (Z0 : n0 ≤ h0.size) (R1 : own_Run Z h0 a1 fi ie nd on ze dr) (g_a1 : n0 ≤ a1) :
    MetFree l (⟨"lightbin/AgreementResult$Run", "addHonest", "(III)V"⟩ : MethodName) (head1 (Jvm.Cond.code (⟨"lightbin/AgreementResult$Run", "addHonest", "(III)V"⟩ : MethodName) prog_5_method_2_code 4 none :: ws) ({ frames := 1, cells := 0, slots := 0, locals := 14 } : Room)) (fun a U => a = #[(.ref a1), (.int p1), (.int p2), (.int p3)] ∧ Z.Warmed39 U.vm ∧ U.heap = h0) (fun _ _ _ _ _ => True) (fun _ U o U' => ∃ v L, o = .returned v ∧ Q5 Z a1 p1 p2 p3 fi ie nd on ze dr h0 n0 v U'.heap L ∧ FrameEnd U o U' L ({ frames := 1, cells := 0, slots := 0, locals := 14 } : Room).cells ({ frames := 1, cells := 0, slots := 0, locals := 14 } : Room).slots) := by
  refine MetFree.of_bodySF (plainFor_of_name pn_lightbin_AgreementResult_Run) hisR ?_
  intro p e s m args below meth c s₁ Bd hml0 hP hK
  obtain ⟨rfl, hZ, hh⟩ := hP
  have hx := Bd.exec
  have hby := Bd.bytes
  have hml : c.maxLocals = 4 := hml0
  have hown : s.vm.findClass "lightbin/AgreementResult$Run" = some m.cls := findClass_of_methodNamed Bd.named
  have hnm := (name_of_methodNamed Bd.named Bd.method).1
  have hlk : meth.locks = false := BodyLoose.notSynchronized Bd
  have X0 : Stand p l e ({ frames := 1, cells := 0, slots := 0, locals := 14 } : Room) s m #[(.ref a1), (.int p1), (.int p2), (.int p3)] below meth c s₁ [] 0 0 := Stand.of_body Bd
  have e0 : s₁.heap = h0 := by rw [← hh, Bd.state]; rfl
  have N0 := Fr.nil n0
  have pre0 : Go p e below (s₁.setTop (entryFrame m #[(.ref a1), (.int p1), (.int p2), (.int p3)] 4)) (s₁.setTop (mkF m 0 #[.val (.ref a1), .val (.int p1), .val (.int p2), .val (.int p3)] [])) := fun t k => castTop (ef_5 m a1 p1 p2 p3) k
  obtain ⟨E1, F_firstInput, F_inputsEqual, F_nodes, F_ones, F_zeros, F_decisionRound⟩ := R1
  have pre1 : Go p e below (s₁.setTop (entryFrame m #[(.ref a1), (.int p1), (.int p2), (.int p3)] 4)) (s₁.setTop (mkF m 2 #[.val (.ref a1), .val (.int p1), .val (.int p2), .val (.int p3)] [(.ref a1), (.ref a1)])) := by
    intro t k
    refine pre0 t ?_
    show Steps p.tables e below (s₁.setTop (mkF m 0 #[.val (.ref a1), .val (.int p1), .val (.int p2), .val (.int p3)] [])) _
    refine XS.aloadN X0.here hx rfl (hb hby d5_0) rfl rfl ?_
    show Steps p.tables e below (s₁.setTop (mkF m 1 #[.val (.ref a1), .val (.int p1), .val (.int p2), .val (.int p3)] [(.ref a1)])) _
    refine XS.dup X0.here hx rfl (hb hby d5_1) rfl rfl ?_
    show Steps p.tables e below (s₁.setTop (mkF m 2 #[.val (.ref a1), .val (.int p1), .val (.int p2), .val (.int p3)] [(.ref a1), (.ref a1)])) _
    exact k
  obtain ⟨T2, X2, e2, st2⟩ := getF X0 hx hZ hown (host := "") (Or.inl (hw _ (List.mem_of_getElem? (i := 29) rfl))) Via.refl e0 F_nodes (g := (mkF m 2 #[.val (.ref a1), .val (.int p1), .val (.int p2), .val (.int p3)] [(.ref a1), (.ref a1)])) rfl rfl (hb hby d5_2)
  have pre3 : Go p e below (s₁.setTop (entryFrame m #[(.ref a1), (.int p1), (.int p2), (.int p3)] 4)) (T2.setTop (mkF m 5 #[.val (.ref a1), .val (.int p1), .val (.int p2), .val (.int p3)] [(.int nd), (.ref a1)])) := fun t k => pre1 t (st2 t k)
  have pre4 : Go p e below (s₁.setTop (entryFrame m #[(.ref a1), (.int p1), (.int p2), (.int p3)] 4)) (T2.setTop (mkF m 8 #[.val (.ref a1), .val (.int p1), .val (.int p2), .val (.int p3)] [(.int (nd + (1 : Int32))), (.ref a1), (.int nd)])) := by
    intro t k
    refine pre3 t ?_
    show Steps p.tables e below (T2.setTop (mkF m 5 #[.val (.ref a1), .val (.int p1), .val (.int p2), .val (.int p3)] [(.int nd), (.ref a1)])) _
    refine XS.dupX1 X2.here hx rfl (hb hby d5_5) rfl rfl rfl ?_
    show Steps p.tables e below (T2.setTop (mkF m 6 #[.val (.ref a1), .val (.int p1), .val (.int p2), .val (.int p3)] [(.int nd), (.ref a1), (.int nd)])) _
    refine XS.iconst X2.here hx rfl (hb hby d5_6) ?_
    show Steps p.tables e below (T2.setTop (mkF m 7 #[.val (.ref a1), .val (.int p1), .val (.int p2), .val (.int p3)] [(.int (1 : Int32)), (.int nd), (.ref a1), (.int nd)])) _
    refine XS.iadd X2.here hx rfl (hb hby d5_7) rfl ?_
    show Steps p.tables e below (T2.setTop (mkF m 8 #[.val (.ref a1), .val (.int p1), .val (.int p2), .val (.int p3)] [(.int (nd + (1 : Int32))), (.ref a1), (.int nd)])) _
    exact k
  obtain ⟨T5, h5, X5, e5, W5, st5⟩ := putF X2 hx hZ hown (host := "") (Or.inl (hw _ (List.mem_of_getElem? (i := 29) rfl))) Via.refl e2 F_nodes E1 (Or.inl (hw _ (List.mem_of_getElem? (i := 30) rfl))) (hw _ (List.mem_of_getElem? (i := 5) rfl)) (ty := .int) (by decide) rfl rfl (g := (mkF m 8 #[.val (.ref a1), .val (.int p1), .val (.int p2), .val (.int p3)] [(.int (nd + (1 : Int32))), (.ref a1), (.int nd)])) rfl rfl (hb hby d5_8)
  have Fw5 := F_nodes.same W5
  have c6_5 := E1.wr W5
  have c7_5 := F_firstInput.other W5 (Or.inr (slot_ne (Or.inl (hw _ (List.mem_of_getElem? (i := 14) rfl))) (Or.inl (hw _ (List.mem_of_getElem? (i := 30) rfl))) (by decide) (t := .int) (t' := .int) (by decide) (by decide)))
  have c8_5 := F_inputsEqual.other W5 (Or.inr (slot_ne (Or.inl (hw _ (List.mem_of_getElem? (i := 16) rfl))) (Or.inl (hw _ (List.mem_of_getElem? (i := 30) rfl))) (by decide) (t := .boolean) (t' := .int) (by decide) (by decide)))
  have c9_5 := F_ones.other W5 (Or.inr (slot_ne (Or.inl (hw _ (List.mem_of_getElem? (i := 23) rfl))) (Or.inl (hw _ (List.mem_of_getElem? (i := 30) rfl))) (by decide) (t := .int) (t' := .int) (by decide) (by decide)))
  have c10_5 := F_zeros.other W5 (Or.inr (slot_ne (Or.inl (hw _ (List.mem_of_getElem? (i := 38) rfl))) (Or.inl (hw _ (List.mem_of_getElem? (i := 30) rfl))) (by decide) (t := .int) (t' := .int) (by decide) (by decide)))
  have c11_5 := F_decisionRound.other W5 (Or.inr (slot_ne (Or.inl (hw _ (List.mem_of_getElem? (i := 32) rfl))) (Or.inl (hw _ (List.mem_of_getElem? (i := 30) rfl))) (by decide) (t := .int) (t' := .int) (by decide) (by decide)))
  have zz12 := (Nat.le_trans Z0 (Keep.of_wr W5).1)
  have K13 := (Keep.refl h0 [a1]).wr W5 (Or.inl (List.mem_singleton.mpr rfl))
  have N5 := Fr.snoc X5 N0 g_a1
  have pre14 : Go p e below (s₁.setTop (entryFrame m #[(.ref a1), (.int p1), (.int p2), (.int p3)] 4)) (T5.setTop (mkF m 11 #[.val (.ref a1), .val (.int p1), .val (.int p2), .val (.int p3)] [(.int nd)])) := fun t k => pre4 t (st5 t k)
  by_cases hc11_15 : nd = (0 : Int32)
  · skip
    have pre16 : Go p e below (s₁.setTop (entryFrame m #[(.ref a1), (.int p1), (.int p2), (.int p3)] 4)) (T5.setTop (mkF m 16 #[.val (.ref a1), .val (.int p1), .val (.int p2), .val (.int p3)] [(.int p1), (.ref a1)])) := by
      intro t k
      refine pre14 t ?_
      show Steps p.tables e below (T5.setTop (mkF m 11 #[.val (.ref a1), .val (.int p1), .val (.int p2), .val (.int p3)] [(.int nd)])) _
      refine XS.ifNo X5.here hx rfl (hb hby d5_11) rfl (XT.i0_ne_f hc11_15) ?_
      show Steps p.tables e below (T5.setTop (mkF m 14 #[.val (.ref a1), .val (.int p1), .val (.int p2), .val (.int p3)] [])) _
      refine XS.aloadN X5.here hx rfl (hb hby d5_14) rfl rfl ?_
      show Steps p.tables e below (T5.setTop (mkF m 15 #[.val (.ref a1), .val (.int p1), .val (.int p2), .val (.int p3)] [(.ref a1)])) _
      refine XS.iloadN X5.here hx rfl (hb hby d5_15) rfl ?_
      show Steps p.tables e below (T5.setTop (mkF m 16 #[.val (.ref a1), .val (.int p1), .val (.int p2), .val (.int p3)] [(.int p1), (.ref a1)])) _
      exact k
    obtain ⟨T17, h17, X17, e17, W17, st17⟩ := putF X5 hx hZ hown (host := "") (Or.inl (hw _ (List.mem_of_getElem? (i := 13) rfl))) Via.refl e5 c7_5 c6_5 (Or.inl (hw _ (List.mem_of_getElem? (i := 14) rfl))) (hw _ (List.mem_of_getElem? (i := 5) rfl)) (ty := .int) (by decide) rfl rfl (g := (mkF m 16 #[.val (.ref a1), .val (.int p1), .val (.int p2), .val (.int p3)] [(.int p1), (.ref a1)])) rfl rfl (hb hby d5_16)
    have Fw17 := c7_5.same W17
    have c18_17 := c6_5.wr W17
    have c19_17 := c8_5.other W17 (Or.inr (slot_ne (Or.inl (hw _ (List.mem_of_getElem? (i := 16) rfl))) (Or.inl (hw _ (List.mem_of_getElem? (i := 14) rfl))) (by decide) (t := .boolean) (t' := .int) (by decide) (by decide)))
    have c20_17 := Fw5.other W17 (Or.inr (slot_ne (Or.inl (hw _ (List.mem_of_getElem? (i := 30) rfl))) (Or.inl (hw _ (List.mem_of_getElem? (i := 14) rfl))) (by decide) (t := .int) (t' := .int) (by decide) (by decide)))
    have c21_17 := c9_5.other W17 (Or.inr (slot_ne (Or.inl (hw _ (List.mem_of_getElem? (i := 23) rfl))) (Or.inl (hw _ (List.mem_of_getElem? (i := 14) rfl))) (by decide) (t := .int) (t' := .int) (by decide) (by decide)))
    have c22_17 := c10_5.other W17 (Or.inr (slot_ne (Or.inl (hw _ (List.mem_of_getElem? (i := 38) rfl))) (Or.inl (hw _ (List.mem_of_getElem? (i := 14) rfl))) (by decide) (t := .int) (t' := .int) (by decide) (by decide)))
    have c23_17 := c11_5.other W17 (Or.inr (slot_ne (Or.inl (hw _ (List.mem_of_getElem? (i := 32) rfl))) (Or.inl (hw _ (List.mem_of_getElem? (i := 14) rfl))) (by decide) (t := .int) (t' := .int) (by decide) (by decide)))
    have zz24 := (Nat.le_trans zz12 (Keep.of_wr W17).1)
    have K25 := K13.wr W17 (Or.inl (List.mem_singleton.mpr rfl))
    have N17 := Fr.snoc X17 N5 g_a1
    have pre26 : Go p e below (s₁.setTop (entryFrame m #[(.ref a1), (.int p1), (.int p2), (.int p3)] 4)) (T17.setTop (mkF m 19 #[.val (.ref a1), .val (.int p1), .val (.int p2), .val (.int p3)] [])) := fun t k => pre16 t (st17 t k)
    have pre27 : Go p e below (s₁.setTop (entryFrame m #[(.ref a1), (.int p1), (.int p2), (.int p3)] 4)) (T17.setTop (mkF m 21 #[.val (.ref a1), .val (.int p1), .val (.int p2), .val (.int p3)] [(.ref a1), (.ref a1)])) := by
      intro t k
      refine pre26 t ?_
      show Steps p.tables e below (T17.setTop (mkF m 19 #[.val (.ref a1), .val (.int p1), .val (.int p2), .val (.int p3)] [])) _
      refine XS.aloadN X17.here hx rfl (hb hby d5_19) rfl rfl ?_
      show Steps p.tables e below (T17.setTop (mkF m 20 #[.val (.ref a1), .val (.int p1), .val (.int p2), .val (.int p3)] [(.ref a1)])) _
      refine XS.dup X17.here hx rfl (hb hby d5_20) rfl rfl ?_
      show Steps p.tables e below (T17.setTop (mkF m 21 #[.val (.ref a1), .val (.int p1), .val (.int p2), .val (.int p3)] [(.ref a1), (.ref a1)])) _
      exact k
    obtain ⟨T28, X28, e28, st28⟩ := getF X17 hx hZ hown (host := "") (Or.inl (hw _ (List.mem_of_getElem? (i := 15) rfl))) Via.refl e17 c19_17 (g := (mkF m 21 #[.val (.ref a1), .val (.int p1), .val (.int p2), .val (.int p3)] [(.ref a1), (.ref a1)])) rfl rfl (hb hby d5_21)
    have pre29 : Go p e below (s₁.setTop (entryFrame m #[(.ref a1), (.int p1), (.int p2), (.int p3)] 4)) (T28.setTop (mkF m 24 #[.val (.ref a1), .val (.int p1), .val (.int p2), .val (.int p3)] [(.int ie), (.ref a1)])) := fun t k => pre27 t (st28 t k)
    have pre30 : Go p e below (s₁.setTop (entryFrame m #[(.ref a1), (.int p1), (.int p2), (.int p3)] 4)) (T28.setTop (mkF m 26 #[.val (.ref a1), .val (.int p1), .val (.int p2), .val (.int p3)] [(.ref a1), (.int p1), (.int ie), (.ref a1)])) := by
      intro t k
      refine pre29 t ?_
      show Steps p.tables e below (T28.setTop (mkF m 24 #[.val (.ref a1), .val (.int p1), .val (.int p2), .val (.int p3)] [(.int ie), (.ref a1)])) _
      refine XS.iloadN X28.here hx rfl (hb hby d5_24) rfl ?_
      show Steps p.tables e below (T28.setTop (mkF m 25 #[.val (.ref a1), .val (.int p1), .val (.int p2), .val (.int p3)] [(.int p1), (.int ie), (.ref a1)])) _
      refine XS.aloadN X28.here hx rfl (hb hby d5_25) rfl rfl ?_
      show Steps p.tables e below (T28.setTop (mkF m 26 #[.val (.ref a1), .val (.int p1), .val (.int p2), .val (.int p3)] [(.ref a1), (.int p1), (.int ie), (.ref a1)])) _
      exact k
    obtain ⟨T31, X31, e31, st31⟩ := getF X28 hx hZ hown (host := "") (Or.inl (hw _ (List.mem_of_getElem? (i := 13) rfl))) Via.refl e28 Fw17 (g := (mkF m 26 #[.val (.ref a1), .val (.int p1), .val (.int p2), .val (.int p3)] [(.ref a1), (.int p1), (.int ie), (.ref a1)])) rfl rfl (hb hby d5_26)
    have pre32 : Go p e below (s₁.setTop (entryFrame m #[(.ref a1), (.int p1), (.int p2), (.int p3)] 4)) (T31.setTop (mkF m 29 #[.val (.ref a1), .val (.int p1), .val (.int p2), .val (.int p3)] [(.int p1), (.int p1), (.int ie), (.ref a1)])) := fun t k => pre30 t (st31 t k)
    obtain ⟨jj, h_jj⟩ : ∃ z : Int32, z = (if p1 = p1 then (1 : Int32) else (0 : Int32)) := ⟨_, rfl⟩
    have pre34 : Go p e below (s₁.setTop (entryFrame m #[(.ref a1), (.int p1), (.int p2), (.int p3)] 4)) (T31.setTop (mkF m 37 #[.val (.ref a1), .val (.int p1), .val (.int p2), .val (.int p3)] [(.int jj), (.int ie), (.ref a1)])) := by
      intro t k
      refine pre32 t ?_
      show Steps p.tables e below (T31.setTop (mkF m 29 #[.val (.ref a1), .val (.int p1), .val (.int p2), .val (.int p3)] [(.int p1), (.int p1), (.int ie), (.ref a1)])) _
      by_cases hc29_33 : p1 = p1
      · skip
        refine XS.icmpNo X31.here hx rfl (hb hby d5_29) rfl (XT.ii_ne_f hc29_33) ?_
        show Steps p.tables e below (T31.setTop (mkF m 32 #[.val (.ref a1), .val (.int p1), .val (.int p2), .val (.int p3)] [(.int ie), (.ref a1)])) _
        refine XS.iconst X31.here hx rfl (hb hby d5_32) ?_
        show Steps p.tables e below (T31.setTop (mkF m 33 #[.val (.ref a1), .val (.int p1), .val (.int p2), .val (.int p3)] [(.int (1 : Int32)), (.int ie), (.ref a1)])) _
        refine XS.goto X31.here hx rfl (pc0 := 33) (pc' := 37) rfl (hb hby d5_33) (by decide) (by decide) ?_
        show Steps p.tables e below (T31.setTop (mkF m 37 #[.val (.ref a1), .val (.int p1), .val (.int p2), .val (.int p3)] [(.int (1 : Int32)), (.int ie), (.ref a1)])) _
        rw [show jj = (1 : Int32) from by rw [h_jj]; rw [if_pos hc29_33]] at k
        exact k
      · skip
        refine XS.icmpYes X31.here hx rfl (pc0 := 29) (pc' := 36) rfl (hb hby d5_29) rfl (XT.ii_ne_t hc29_33) (by decide) (by decide) ?_
        show Steps p.tables e below (T31.setTop (mkF m 36 #[.val (.ref a1), .val (.int p1), .val (.int p2), .val (.int p3)] [(.int ie), (.ref a1)])) _
        refine XS.iconst X31.here hx rfl (hb hby d5_36) ?_
        show Steps p.tables e below (T31.setTop (mkF m 37 #[.val (.ref a1), .val (.int p1), .val (.int p2), .val (.int p3)] [(.int (0 : Int32)), (.int ie), (.ref a1)])) _
        rw [show jj = (0 : Int32) from by rw [h_jj]; rw [if_neg hc29_33]] at k
        exact k
    have pre35 : Go p e below (s₁.setTop (entryFrame m #[(.ref a1), (.int p1), (.int p2), (.int p3)] 4)) (T31.setTop (mkF m 38 #[.val (.ref a1), .val (.int p1), .val (.int p2), .val (.int p3)] [(.int (ie &&& jj)), (.ref a1)])) := by
      intro t k
      refine pre34 t ?_
      show Steps p.tables e below (T31.setTop (mkF m 37 #[.val (.ref a1), .val (.int p1), .val (.int p2), .val (.int p3)] [(.int jj), (.int ie), (.ref a1)])) _
      refine XS.iand X31.here hx rfl (hb hby d5_37) rfl ?_
      show Steps p.tables e below (T31.setTop (mkF m 38 #[.val (.ref a1), .val (.int p1), .val (.int p2), .val (.int p3)] [(.int (ie &&& jj)), (.ref a1)])) _
      exact k
    obtain ⟨T36, h36, X36, e36, W36, st36⟩ := putFN X31 hx hZ hown (hw _ (List.mem_of_getElem? (i := 15) rfl)) Via.refl e31 c19_17 c18_17 (Or.inl (hw _ (List.mem_of_getElem? (i := 16) rfl))) (hw _ (List.mem_of_getElem? (i := 5) rfl)) (ty := .boolean) (v' := (.int (nar .boolean (ie &&& jj)))) (by decide) rfl (fits_nar_bool _) (g := (mkF m 38 #[.val (.ref a1), .val (.int p1), .val (.int p2), .val (.int p3)] [(.int (ie &&& jj)), (.ref a1)])) rfl rfl (hb hby d5_38)
    have Fw36 := c19_17.same W36
    have c37_36 := c18_17.wr W36
    have c38_36 := Fw17.other W36 (Or.inr (slot_ne (Or.inl (hw _ (List.mem_of_getElem? (i := 14) rfl))) (Or.inl (hw _ (List.mem_of_getElem? (i := 16) rfl))) (by decide) (t := .int) (t' := .boolean) (by decide) (by decide)))
    have c39_36 := c20_17.other W36 (Or.inr (slot_ne (Or.inl (hw _ (List.mem_of_getElem? (i := 30) rfl))) (Or.inl (hw _ (List.mem_of_getElem? (i := 16) rfl))) (by decide) (t := .int) (t' := .boolean) (by decide) (by decide)))
    have c40_36 := c21_17.other W36 (Or.inr (slot_ne (Or.inl (hw _ (List.mem_of_getElem? (i := 23) rfl))) (Or.inl (hw _ (List.mem_of_getElem? (i := 16) rfl))) (by decide) (t := .int) (t' := .boolean) (by decide) (by decide)))
    have c41_36 := c22_17.other W36 (Or.inr (slot_ne (Or.inl (hw _ (List.mem_of_getElem? (i := 38) rfl))) (Or.inl (hw _ (List.mem_of_getElem? (i := 16) rfl))) (by decide) (t := .int) (t' := .boolean) (by decide) (by decide)))
    have c42_36 := c23_17.other W36 (Or.inr (slot_ne (Or.inl (hw _ (List.mem_of_getElem? (i := 32) rfl))) (Or.inl (hw _ (List.mem_of_getElem? (i := 16) rfl))) (by decide) (t := .int) (t' := .boolean) (by decide) (by decide)))
    have zz43 := (Nat.le_trans zz24 (Keep.of_wr W36).1)
    have K44 := K25.wr W36 (Or.inl (List.mem_singleton.mpr rfl))
    have N36 := Fr.snoc X36 N17 g_a1
    have pre45 : Go p e below (s₁.setTop (entryFrame m #[(.ref a1), (.int p1), (.int p2), (.int p3)] 4)) (T36.setTop (mkF m 41 #[.val (.ref a1), .val (.int p1), .val (.int p2), .val (.int p3)] [])) := fun t k => pre35 t (st36 t k)
    have pre46 : Go p e below (s₁.setTop (entryFrame m #[(.ref a1), (.int p1), (.int p2), (.int p3)] 4)) (T36.setTop (mkF m 42 #[.val (.ref a1), .val (.int p1), .val (.int p2), .val (.int p3)] [(.int p2)])) := by
      intro t k
      refine pre45 t ?_
      show Steps p.tables e below (T36.setTop (mkF m 41 #[.val (.ref a1), .val (.int p1), .val (.int p2), .val (.int p3)] [])) _
      refine XS.iloadN X36.here hx rfl (hb hby d5_41) rfl ?_
      show Steps p.tables e below (T36.setTop (mkF m 42 #[.val (.ref a1), .val (.int p1), .val (.int p2), .val (.int p3)] [(.int p2)])) _
      exact k
    by_cases hc42_47 : p2 < (0 : Int32)
    · skip
      have pre48 : Go p e below (s₁.setTop (entryFrame m #[(.ref a1), (.int p1), (.int p2), (.int p3)] 4)) (T36.setTop (mkF m 45 #[.val (.ref a1), .val (.int p1), .val (.int p2), .val (.int p3)] [])) := by
        intro t k
        refine pre46 t ?_
        show Steps p.tables e below (T36.setTop (mkF m 42 #[.val (.ref a1), .val (.int p1), .val (.int p2), .val (.int p3)] [(.int p2)])) _
        refine XS.ifNo X36.here hx rfl (hb hby d5_42) rfl (XT.i0_ge_f hc42_47) ?_
        show Steps p.tables e below (T36.setTop (mkF m 45 #[.val (.ref a1), .val (.int p1), .val (.int p2), .val (.int p3)] [])) _
        exact k
      obtain ⟨fs, hr, hrun, hended, hW, hsame⟩ := X36.leave (hlocks := hlk) (v := none) (fun _ => rfl)
      refine ⟨_, _, pre48 _ (X36.returnOut hx Bd.returns (hb hby d5_45) hr), hrun, hended, _, _, rfl, ?_, ⟨_, rfl⟩, hW, hsame.mono (by decide) (by decide)⟩
      show Q5 Z a1 p1 p2 p3 fi ie nd on ze dr h0 n0 _ T36.heap _
      rw [e36]
      exact ⟨rfl, N36, K44, _, c37_36, (show Fld Z _ a1 "lightbin/AgreementResult$Run" "firstInput" "I" (.int (own_fi nd p1 fi)) from by rw [own_fi, if_pos hc11_15]; exact c38_36), (show Fld Z _ a1 "lightbin/AgreementResult$Run" "inputsEqual" "Z" (.int (own_ie ie p1 (own_fi nd p1 fi))) from by rw [own_ie, own_fi, if_pos hc11_15, ← h_jj]; exact Fw36), (show Fld Z _ a1 "lightbin/AgreementResult$Run" "nodes" "I" (.int (nd + (1 : Int32))) from by skip; exact c39_36), (show Fld Z _ a1 "lightbin/AgreementResult$Run" "ones" "I" (.int (own_on p2 on)) from by rw [own_on, if_pos hc42_47]; exact c40_36), (show Fld Z _ a1 "lightbin/AgreementResult$Run" "zeros" "I" (.int (own_ze p2 ze)) from by rw [own_ze, if_pos hc42_47]; exact c41_36), c42_36⟩
    · skip
      have pre49 : Go p e below (s₁.setTop (entryFrame m #[(.ref a1), (.int p1), (.int p2), (.int p3)] 4)) (T36.setTop (mkF m 48 #[.val (.ref a1), .val (.int p1), .val (.int p2), .val (.int p3)] [(.int (1 : Int32)), (.int p2)])) := by
        intro t k
        refine pre46 t ?_
        show Steps p.tables e below (T36.setTop (mkF m 42 #[.val (.ref a1), .val (.int p1), .val (.int p2), .val (.int p3)] [(.int p2)])) _
        refine XS.ifYes X36.here hx rfl (pc0 := 42) (pc' := 46) rfl (hb hby d5_42) rfl (XT.i0_ge_t hc42_47) (by decide) (by decide) ?_
        show Steps p.tables e below (T36.setTop (mkF m 46 #[.val (.ref a1), .val (.int p1), .val (.int p2), .val (.int p3)] [])) _
        refine XS.iloadN X36.here hx rfl (hb hby d5_46) rfl ?_
        show Steps p.tables e below (T36.setTop (mkF m 47 #[.val (.ref a1), .val (.int p1), .val (.int p2), .val (.int p3)] [(.int p2)])) _
        refine XS.iconst X36.here hx rfl (hb hby d5_47) ?_
        show Steps p.tables e below (T36.setTop (mkF m 48 #[.val (.ref a1), .val (.int p1), .val (.int p2), .val (.int p3)] [(.int (1 : Int32)), (.int p2)])) _
        exact k
      by_cases hc48_50 : p2 = (1 : Int32)
      · skip
        have pre51 : Go p e below (s₁.setTop (entryFrame m #[(.ref a1), (.int p1), (.int p2), (.int p3)] 4)) (T36.setTop (mkF m 53 #[.val (.ref a1), .val (.int p1), .val (.int p2), .val (.int p3)] [(.ref a1), (.ref a1)])) := by
          intro t k
          refine pre49 t ?_
          show Steps p.tables e below (T36.setTop (mkF m 48 #[.val (.ref a1), .val (.int p1), .val (.int p2), .val (.int p3)] [(.int (1 : Int32)), (.int p2)])) _
          refine XS.icmpNo X36.here hx rfl (hb hby d5_48) rfl (XT.ii_ne_f hc48_50) ?_
          show Steps p.tables e below (T36.setTop (mkF m 51 #[.val (.ref a1), .val (.int p1), .val (.int p2), .val (.int p3)] [])) _
          refine XS.aloadN X36.here hx rfl (hb hby d5_51) rfl rfl ?_
          show Steps p.tables e below (T36.setTop (mkF m 52 #[.val (.ref a1), .val (.int p1), .val (.int p2), .val (.int p3)] [(.ref a1)])) _
          refine XS.dup X36.here hx rfl (hb hby d5_52) rfl rfl ?_
          show Steps p.tables e below (T36.setTop (mkF m 53 #[.val (.ref a1), .val (.int p1), .val (.int p2), .val (.int p3)] [(.ref a1), (.ref a1)])) _
          exact k
        obtain ⟨T52, X52, e52, st52⟩ := getF X36 hx hZ hown (host := "") (Or.inl (hw _ (List.mem_of_getElem? (i := 22) rfl))) Via.refl e36 c40_36 (g := (mkF m 53 #[.val (.ref a1), .val (.int p1), .val (.int p2), .val (.int p3)] [(.ref a1), (.ref a1)])) rfl rfl (hb hby d5_53)
        have pre53 : Go p e below (s₁.setTop (entryFrame m #[(.ref a1), (.int p1), (.int p2), (.int p3)] 4)) (T52.setTop (mkF m 56 #[.val (.ref a1), .val (.int p1), .val (.int p2), .val (.int p3)] [(.int on), (.ref a1)])) := fun t k => pre51 t (st52 t k)
        have pre54 : Go p e below (s₁.setTop (entryFrame m #[(.ref a1), (.int p1), (.int p2), (.int p3)] 4)) (T52.setTop (mkF m 58 #[.val (.ref a1), .val (.int p1), .val (.int p2), .val (.int p3)] [(.int (on + (1 : Int32))), (.ref a1)])) := by
          intro t k
          refine pre53 t ?_
          show Steps p.tables e below (T52.setTop (mkF m 56 #[.val (.ref a1), .val (.int p1), .val (.int p2), .val (.int p3)] [(.int on), (.ref a1)])) _
          refine XS.iconst X52.here hx rfl (hb hby d5_56) ?_
          show Steps p.tables e below (T52.setTop (mkF m 57 #[.val (.ref a1), .val (.int p1), .val (.int p2), .val (.int p3)] [(.int (1 : Int32)), (.int on), (.ref a1)])) _
          refine XS.iadd X52.here hx rfl (hb hby d5_57) rfl ?_
          show Steps p.tables e below (T52.setTop (mkF m 58 #[.val (.ref a1), .val (.int p1), .val (.int p2), .val (.int p3)] [(.int (on + (1 : Int32))), (.ref a1)])) _
          exact k
        obtain ⟨T55, h55, X55, e55, W55, st55⟩ := putF X52 hx hZ hown (host := "") (Or.inl (hw _ (List.mem_of_getElem? (i := 22) rfl))) Via.refl e52 c40_36 c37_36 (Or.inl (hw _ (List.mem_of_getElem? (i := 23) rfl))) (hw _ (List.mem_of_getElem? (i := 5) rfl)) (ty := .int) (by decide) rfl rfl (g := (mkF m 58 #[.val (.ref a1), .val (.int p1), .val (.int p2), .val (.int p3)] [(.int (on + (1 : Int32))), (.ref a1)])) rfl rfl (hb hby d5_58)
        have Fw55 := c40_36.same W55
        have c56_55 := c37_36.wr W55
        have c57_55 := c38_36.other W55 (Or.inr (slot_ne (Or.inl (hw _ (List.mem_of_getElem? (i := 14) rfl))) (Or.inl (hw _ (List.mem_of_getElem? (i := 23) rfl))) (by decide) (t := .int) (t' := .int) (by decide) (by decide)))
        have c58_55 := Fw36.other W55 (Or.inr (slot_ne (Or.inl (hw _ (List.mem_of_getElem? (i := 16) rfl))) (Or.inl (hw _ (List.mem_of_getElem? (i := 23) rfl))) (by decide) (t := .boolean) (t' := .int) (by decide) (by decide)))
        have c59_55 := c39_36.other W55 (Or.inr (slot_ne (Or.inl (hw _ (List.mem_of_getElem? (i := 30) rfl))) (Or.inl (hw _ (List.mem_of_getElem? (i := 23) rfl))) (by decide) (t := .int) (t' := .int) (by decide) (by decide)))
        have c60_55 := c41_36.other W55 (Or.inr (slot_ne (Or.inl (hw _ (List.mem_of_getElem? (i := 38) rfl))) (Or.inl (hw _ (List.mem_of_getElem? (i := 23) rfl))) (by decide) (t := .int) (t' := .int) (by decide) (by decide)))
        have c61_55 := c42_36.other W55 (Or.inr (slot_ne (Or.inl (hw _ (List.mem_of_getElem? (i := 32) rfl))) (Or.inl (hw _ (List.mem_of_getElem? (i := 23) rfl))) (by decide) (t := .int) (t' := .int) (by decide) (by decide)))
        have zz62 := (Nat.le_trans zz43 (Keep.of_wr W55).1)
        have K63 := K44.wr W55 (Or.inl (List.mem_singleton.mpr rfl))
        have N55 := Fr.snoc X55 N36 g_a1
        have pre64 : Go p e below (s₁.setTop (entryFrame m #[(.ref a1), (.int p1), (.int p2), (.int p3)] 4)) (T55.setTop (mkF m 61 #[.val (.ref a1), .val (.int p1), .val (.int p2), .val (.int p3)] [])) := fun t k => pre54 t (st55 t k)
        have pre65 : Go p e below (s₁.setTop (entryFrame m #[(.ref a1), (.int p1), (.int p2), (.int p3)] 4)) (T55.setTop (mkF m 76 #[.val (.ref a1), .val (.int p1), .val (.int p2), .val (.int p3)] [(.ref a1), (.ref a1)])) := by
          intro t k
          refine pre64 t ?_
          show Steps p.tables e below (T55.setTop (mkF m 61 #[.val (.ref a1), .val (.int p1), .val (.int p2), .val (.int p3)] [])) _
          refine XS.goto X55.here hx rfl (pc0 := 61) (pc' := 74) rfl (hb hby d5_61) (by decide) (by decide) ?_
          show Steps p.tables e below (T55.setTop (mkF m 74 #[.val (.ref a1), .val (.int p1), .val (.int p2), .val (.int p3)] [])) _
          refine XS.aloadN X55.here hx rfl (hb hby d5_74) rfl rfl ?_
          show Steps p.tables e below (T55.setTop (mkF m 75 #[.val (.ref a1), .val (.int p1), .val (.int p2), .val (.int p3)] [(.ref a1)])) _
          refine XS.aloadN X55.here hx rfl (hb hby d5_75) rfl rfl ?_
          show Steps p.tables e below (T55.setTop (mkF m 76 #[.val (.ref a1), .val (.int p1), .val (.int p2), .val (.int p3)] [(.ref a1), (.ref a1)])) _
          exact k
        obtain ⟨T66, X66, e66, st66⟩ := getF X55 hx hZ hown (host := "") (Or.inl (hw _ (List.mem_of_getElem? (i := 31) rfl))) Via.refl e55 c61_55 (g := (mkF m 76 #[.val (.ref a1), .val (.int p1), .val (.int p2), .val (.int p3)] [(.ref a1), (.ref a1)])) rfl rfl (hb hby d5_76)
        have pre67 : Go p e below (s₁.setTop (entryFrame m #[(.ref a1), (.int p1), (.int p2), (.int p3)] 4)) (T66.setTop (mkF m 79 #[.val (.ref a1), .val (.int p1), .val (.int p2), .val (.int p3)] [(.int dr), (.ref a1)])) := fun t k => pre65 t (st66 t k)
        have pre68 : Go p e below (s₁.setTop (entryFrame m #[(.ref a1), (.int p1), (.int p2), (.int p3)] 4)) (T66.setTop (mkF m 80 #[.val (.ref a1), .val (.int p1), .val (.int p2), .val (.int p3)] [(.int p3), (.int dr), (.ref a1)])) := by
          intro t k
          refine pre67 t ?_
          show Steps p.tables e below (T66.setTop (mkF m 79 #[.val (.ref a1), .val (.int p1), .val (.int p2), .val (.int p3)] [(.int dr), (.ref a1)])) _
          refine XS.iloadN X66.here hx rfl (hb hby d5_79) rfl ?_
          show Steps p.tables e below (T66.setTop (mkF m 80 #[.val (.ref a1), .val (.int p1), .val (.int p2), .val (.int p3)] [(.int p3), (.int dr), (.ref a1)])) _
          exact k
        obtain ⟨_, _, ⟨T69, L69, k69, n69⟩, -, X69, ⟨Lc69, hQ69, l69, y69, z69⟩, st69⟩ := Jvm.LawKit.callS X66 hx (y := (⟨"java/lang/Math", "max", "(II)I"⟩ : MethodName)) hown (mvT hZ (hw _ (List.mem_of_getElem? (i := 33) rfl))) (mvT hZ (hw _ (List.mem_of_getElem? (i := 34) rfl))) (mvT hZ (hw _ (List.mem_of_getElem? (i := 35) rfl))) (mvT hZ (hw _ (List.mem_of_getElem? (i := 36) rfl))) (by decide) (backOf (W := 1) (rm6 l Z a0 hw [] dr p3  h55 n0 zz62 ) hZ (hw _ (List.mem_of_getElem? (i := 36) rfl)) (hw _ (List.mem_of_getElem? (i := 35) rfl)) (by decide) (by decide)) (g := (mkF m 80 #[.val (.ref a1), .val (.int p1), .val (.int p2), .val (.int p3)] [(.int p3), (.int dr), (.ref a1)])) rfl (by rw [hml]; rfl) (argsL := [(.int dr), (.int p3)]) (rest := [(.ref a1)]) (lenOf pd_3 rfl) rfl (by show 2 * 0 + _ ≤ _; exact Nat.le_of_eq rfl) (hb hby d5_80) (fun _ _ => ⟨rfl, e66, (by decide : 0 + 0 ≤ _), (by decide : 0 + 0 ≤ _)⟩)
        dsimp only [Pt.U, Pt.locs, Pt.cells, Pt.slots] at X69 l69 y69 z69 st69 hQ69
        subst l69 y69 z69
        obtain ⟨rfl, N69q, hh69⟩ := hQ69
        have N69 := Fr.app N55 N69q
        have pre70 : Go p e below (s₁.setTop (entryFrame m #[(.ref a1), (.int p1), (.int p2), (.int p3)] 4)) (T69.setTop (mkF m 83 #[.val (.ref a1), .val (.int p1), .val (.int p2), .val (.int p3)] [(.int (fmax dr p3)), (.ref a1)])) := fun t k => pre68 t (st69 t k)
        obtain ⟨T71, h71, X71, e71, W71, st71⟩ := putF X69 hx hZ hown (host := "") (Or.inl (hw _ (List.mem_of_getElem? (i := 31) rfl))) Via.refl hh69 c61_55 c56_55 (Or.inl (hw _ (List.mem_of_getElem? (i := 32) rfl))) (hw _ (List.mem_of_getElem? (i := 5) rfl)) (ty := .int) (by decide) rfl rfl (g := (mkF m 83 #[.val (.ref a1), .val (.int p1), .val (.int p2), .val (.int p3)] [(.int (fmax dr p3)), (.ref a1)])) rfl rfl (hb hby d5_83)
        have Fw71 := c61_55.same W71
        have c72_71 := c56_55.wr W71
        have c73_71 := c57_55.other W71 (Or.inr (slot_ne (Or.inl (hw _ (List.mem_of_getElem? (i := 14) rfl))) (Or.inl (hw _ (List.mem_of_getElem? (i := 32) rfl))) (by decide) (t := .int) (t' := .int) (by decide) (by decide)))
        have c74_71 := c58_55.other W71 (Or.inr (slot_ne (Or.inl (hw _ (List.mem_of_getElem? (i := 16) rfl))) (Or.inl (hw _ (List.mem_of_getElem? (i := 32) rfl))) (by decide) (t := .boolean) (t' := .int) (by decide) (by decide)))
        have c75_71 := c59_55.other W71 (Or.inr (slot_ne (Or.inl (hw _ (List.mem_of_getElem? (i := 30) rfl))) (Or.inl (hw _ (List.mem_of_getElem? (i := 32) rfl))) (by decide) (t := .int) (t' := .int) (by decide) (by decide)))
        have c76_71 := Fw55.other W71 (Or.inr (slot_ne (Or.inl (hw _ (List.mem_of_getElem? (i := 23) rfl))) (Or.inl (hw _ (List.mem_of_getElem? (i := 32) rfl))) (by decide) (t := .int) (t' := .int) (by decide) (by decide)))
        have c77_71 := c60_55.other W71 (Or.inr (slot_ne (Or.inl (hw _ (List.mem_of_getElem? (i := 38) rfl))) (Or.inl (hw _ (List.mem_of_getElem? (i := 32) rfl))) (by decide) (t := .int) (t' := .int) (by decide) (by decide)))
        have zz78 := (Nat.le_trans zz62 (Keep.of_wr W71).1)
        have K79 := K63.wr W71 (Or.inl (List.mem_singleton.mpr rfl))
        have N71 := Fr.snoc X71 N69 g_a1
        have pre80 : Go p e below (s₁.setTop (entryFrame m #[(.ref a1), (.int p1), (.int p2), (.int p3)] 4)) (T71.setTop (mkF m 86 #[.val (.ref a1), .val (.int p1), .val (.int p2), .val (.int p3)] [])) := fun t k => pre70 t (st71 t k)
        obtain ⟨fs, hr, hrun, hended, hW, hsame⟩ := X71.leave (hlocks := hlk) (v := none) (fun _ => rfl)
        refine ⟨_, _, pre80 _ (X71.returnOut hx Bd.returns (hb hby d5_86) hr), hrun, hended, _, _, rfl, ?_, ⟨_, rfl⟩, hW, hsame.mono (by decide) (by decide)⟩
        show Q5 Z a1 p1 p2 p3 fi ie nd on ze dr h0 n0 _ T71.heap _
        rw [e71]
        exact ⟨rfl, N71, K79, _, c72_71, (show Fld Z _ a1 "lightbin/AgreementResult$Run" "firstInput" "I" (.int (own_fi nd p1 fi)) from by rw [own_fi, if_pos hc11_15]; exact c73_71), (show Fld Z _ a1 "lightbin/AgreementResult$Run" "inputsEqual" "Z" (.int (own_ie ie p1 (own_fi nd p1 fi))) from by rw [own_ie, own_fi, if_pos hc11_15, ← h_jj]; exact c74_71), (show Fld Z _ a1 "lightbin/AgreementResult$Run" "nodes" "I" (.int (nd + (1 : Int32))) from by skip; exact c75_71), (show Fld Z _ a1 "lightbin/AgreementResult$Run" "ones" "I" (.int (own_on p2 on)) from by rw [own_on, if_neg hc42_47, if_pos hc48_50]; exact c76_71), (show Fld Z _ a1 "lightbin/AgreementResult$Run" "zeros" "I" (.int (own_ze p2 ze)) from by rw [own_ze, if_neg hc42_47, if_pos hc48_50]; exact c77_71), Fw71⟩
      · skip
        have pre81 : Go p e below (s₁.setTop (entryFrame m #[(.ref a1), (.int p1), (.int p2), (.int p3)] 4)) (T36.setTop (mkF m 66 #[.val (.ref a1), .val (.int p1), .val (.int p2), .val (.int p3)] [(.ref a1), (.ref a1)])) := by
          intro t k
          refine pre49 t ?_
          show Steps p.tables e below (T36.setTop (mkF m 48 #[.val (.ref a1), .val (.int p1), .val (.int p2), .val (.int p3)] [(.int (1 : Int32)), (.int p2)])) _
          refine XS.icmpYes X36.here hx rfl (pc0 := 48) (pc' := 64) rfl (hb hby d5_48) rfl (XT.ii_ne_t hc48_50) (by decide) (by decide) ?_
          show Steps p.tables e below (T36.setTop (mkF m 64 #[.val (.ref a1), .val (.int p1), .val (.int p2), .val (.int p3)] [])) _
          refine XS.aloadN X36.here hx rfl (hb hby d5_64) rfl rfl ?_
          show Steps p.tables e below (T36.setTop (mkF m 65 #[.val (.ref a1), .val (.int p1), .val (.int p2), .val (.int p3)] [(.ref a1)])) _
          refine XS.dup X36.here hx rfl (hb hby d5_65) rfl rfl ?_
          show Steps p.tables e below (T36.setTop (mkF m 66 #[.val (.ref a1), .val (.int p1), .val (.int p2), .val (.int p3)] [(.ref a1), (.ref a1)])) _
          exact k
        obtain ⟨T82, X82, e82, st82⟩ := getF X36 hx hZ hown (host := "") (Or.inl (hw _ (List.mem_of_getElem? (i := 37) rfl))) Via.refl e36 c41_36 (g := (mkF m 66 #[.val (.ref a1), .val (.int p1), .val (.int p2), .val (.int p3)] [(.ref a1), (.ref a1)])) rfl rfl (hb hby d5_66)
        have pre83 : Go p e below (s₁.setTop (entryFrame m #[(.ref a1), (.int p1), (.int p2), (.int p3)] 4)) (T82.setTop (mkF m 69 #[.val (.ref a1), .val (.int p1), .val (.int p2), .val (.int p3)] [(.int ze), (.ref a1)])) := fun t k => pre81 t (st82 t k)
        have pre84 : Go p e below (s₁.setTop (entryFrame m #[(.ref a1), (.int p1), (.int p2), (.int p3)] 4)) (T82.setTop (mkF m 71 #[.val (.ref a1), .val (.int p1), .val (.int p2), .val (.int p3)] [(.int (ze + (1 : Int32))), (.ref a1)])) := by
          intro t k
          refine pre83 t ?_
          show Steps p.tables e below (T82.setTop (mkF m 69 #[.val (.ref a1), .val (.int p1), .val (.int p2), .val (.int p3)] [(.int ze), (.ref a1)])) _
          refine XS.iconst X82.here hx rfl (hb hby d5_69) ?_
          show Steps p.tables e below (T82.setTop (mkF m 70 #[.val (.ref a1), .val (.int p1), .val (.int p2), .val (.int p3)] [(.int (1 : Int32)), (.int ze), (.ref a1)])) _
          refine XS.iadd X82.here hx rfl (hb hby d5_70) rfl ?_
          show Steps p.tables e below (T82.setTop (mkF m 71 #[.val (.ref a1), .val (.int p1), .val (.int p2), .val (.int p3)] [(.int (ze + (1 : Int32))), (.ref a1)])) _
          exact k
        obtain ⟨T85, h85, X85, e85, W85, st85⟩ := putF X82 hx hZ hown (host := "") (Or.inl (hw _ (List.mem_of_getElem? (i := 37) rfl))) Via.refl e82 c41_36 c37_36 (Or.inl (hw _ (List.mem_of_getElem? (i := 38) rfl))) (hw _ (List.mem_of_getElem? (i := 5) rfl)) (ty := .int) (by decide) rfl rfl (g := (mkF m 71 #[.val (.ref a1), .val (.int p1), .val (.int p2), .val (.int p3)] [(.int (ze + (1 : Int32))), (.ref a1)])) rfl rfl (hb hby d5_71)
        have Fw85 := c41_36.same W85
        have c86_85 := c37_36.wr W85
        have c87_85 := c38_36.other W85 (Or.inr (slot_ne (Or.inl (hw _ (List.mem_of_getElem? (i := 14) rfl))) (Or.inl (hw _ (List.mem_of_getElem? (i := 38) rfl))) (by decide) (t := .int) (t' := .int) (by decide) (by decide)))
        have c88_85 := Fw36.other W85 (Or.inr (slot_ne (Or.inl (hw _ (List.mem_of_getElem? (i := 16) rfl))) (Or.inl (hw _ (List.mem_of_getElem? (i := 38) rfl))) (by decide) (t := .boolean) (t' := .int) (by decide) (by decide)))
        have c89_85 := c39_36.other W85 (Or.inr (slot_ne (Or.inl (hw _ (List.mem_of_getElem? (i := 30) rfl))) (Or.inl (hw _ (List.mem_of_getElem? (i := 38) rfl))) (by decide) (t := .int) (t' := .int) (by decide) (by decide)))
        have c90_85 := c40_36.other W85 (Or.inr (slot_ne (Or.inl (hw _ (List.mem_of_getElem? (i := 23) rfl))) (Or.inl (hw _ (List.mem_of_getElem? (i := 38) rfl))) (by decide) (t := .int) (t' := .int) (by decide) (by decide)))
        have c91_85 := c42_36.other W85 (Or.inr (slot_ne (Or.inl (hw _ (List.mem_of_getElem? (i := 32) rfl))) (Or.inl (hw _ (List.mem_of_getElem? (i := 38) rfl))) (by decide) (t := .int) (t' := .int) (by decide) (by decide)))
        have zz92 := (Nat.le_trans zz43 (Keep.of_wr W85).1)
        have K93 := K44.wr W85 (Or.inl (List.mem_singleton.mpr rfl))
        have N85 := Fr.snoc X85 N36 g_a1
        have pre94 : Go p e below (s₁.setTop (entryFrame m #[(.ref a1), (.int p1), (.int p2), (.int p3)] 4)) (T85.setTop (mkF m 74 #[.val (.ref a1), .val (.int p1), .val (.int p2), .val (.int p3)] [])) := fun t k => pre84 t (st85 t k)
        have pre95 : Go p e below (s₁.setTop (entryFrame m #[(.ref a1), (.int p1), (.int p2), (.int p3)] 4)) (T85.setTop (mkF m 76 #[.val (.ref a1), .val (.int p1), .val (.int p2), .val (.int p3)] [(.ref a1), (.ref a1)])) := by
          intro t k
          refine pre94 t ?_
          show Steps p.tables e below (T85.setTop (mkF m 74 #[.val (.ref a1), .val (.int p1), .val (.int p2), .val (.int p3)] [])) _
          refine XS.aloadN X85.here hx rfl (hb hby d5_74) rfl rfl ?_
          show Steps p.tables e below (T85.setTop (mkF m 75 #[.val (.ref a1), .val (.int p1), .val (.int p2), .val (.int p3)] [(.ref a1)])) _
          refine XS.aloadN X85.here hx rfl (hb hby d5_75) rfl rfl ?_
          show Steps p.tables e below (T85.setTop (mkF m 76 #[.val (.ref a1), .val (.int p1), .val (.int p2), .val (.int p3)] [(.ref a1), (.ref a1)])) _
          exact k
        obtain ⟨T96, X96, e96, st96⟩ := getF X85 hx hZ hown (host := "") (Or.inl (hw _ (List.mem_of_getElem? (i := 31) rfl))) Via.refl e85 c91_85 (g := (mkF m 76 #[.val (.ref a1), .val (.int p1), .val (.int p2), .val (.int p3)] [(.ref a1), (.ref a1)])) rfl rfl (hb hby d5_76)
        have pre97 : Go p e below (s₁.setTop (entryFrame m #[(.ref a1), (.int p1), (.int p2), (.int p3)] 4)) (T96.setTop (mkF m 79 #[.val (.ref a1), .val (.int p1), .val (.int p2), .val (.int p3)] [(.int dr), (.ref a1)])) := fun t k => pre95 t (st96 t k)
        have pre98 : Go p e below (s₁.setTop (entryFrame m #[(.ref a1), (.int p1), (.int p2), (.int p3)] 4)) (T96.setTop (mkF m 80 #[.val (.ref a1), .val (.int p1), .val (.int p2), .val (.int p3)] [(.int p3), (.int dr), (.ref a1)])) := by
          intro t k
          refine pre97 t ?_
          show Steps p.tables e below (T96.setTop (mkF m 79 #[.val (.ref a1), .val (.int p1), .val (.int p2), .val (.int p3)] [(.int dr), (.ref a1)])) _
          refine XS.iloadN X96.here hx rfl (hb hby d5_79) rfl ?_
          show Steps p.tables e below (T96.setTop (mkF m 80 #[.val (.ref a1), .val (.int p1), .val (.int p2), .val (.int p3)] [(.int p3), (.int dr), (.ref a1)])) _
          exact k
        obtain ⟨_, _, ⟨T99, L99, k99, n99⟩, -, X99, ⟨Lc99, hQ99, l99, y99, z99⟩, st99⟩ := Jvm.LawKit.callS X96 hx (y := (⟨"java/lang/Math", "max", "(II)I"⟩ : MethodName)) hown (mvT hZ (hw _ (List.mem_of_getElem? (i := 33) rfl))) (mvT hZ (hw _ (List.mem_of_getElem? (i := 34) rfl))) (mvT hZ (hw _ (List.mem_of_getElem? (i := 35) rfl))) (mvT hZ (hw _ (List.mem_of_getElem? (i := 36) rfl))) (by decide) (backOf (W := 1) (rm6 l Z a0 hw [] dr p3  h85 n0 zz92 ) hZ (hw _ (List.mem_of_getElem? (i := 36) rfl)) (hw _ (List.mem_of_getElem? (i := 35) rfl)) (by decide) (by decide)) (g := (mkF m 80 #[.val (.ref a1), .val (.int p1), .val (.int p2), .val (.int p3)] [(.int p3), (.int dr), (.ref a1)])) rfl (by rw [hml]; rfl) (argsL := [(.int dr), (.int p3)]) (rest := [(.ref a1)]) (lenOf pd_3 rfl) rfl (by show 2 * 0 + _ ≤ _; exact Nat.le_of_eq rfl) (hb hby d5_80) (fun _ _ => ⟨rfl, e96, (by decide : 0 + 0 ≤ _), (by decide : 0 + 0 ≤ _)⟩)
        dsimp only [Pt.U, Pt.locs, Pt.cells, Pt.slots] at X99 l99 y99 z99 st99 hQ99
        subst l99 y99 z99
        obtain ⟨rfl, N99q, hh99⟩ := hQ99
        have N99 := Fr.app N85 N99q
        have pre100 : Go p e below (s₁.setTop (entryFrame m #[(.ref a1), (.int p1), (.int p2), (.int p3)] 4)) (T99.setTop (mkF m 83 #[.val (.ref a1), .val (.int p1), .val (.int p2), .val (.int p3)] [(.int (fmax dr p3)), (.ref a1)])) := fun t k => pre98 t (st99 t k)
        obtain ⟨T101, h101, X101, e101, W101, st101⟩ := putF X99 hx hZ hown (host := "") (Or.inl (hw _ (List.mem_of_getElem? (i := 31) rfl))) Via.refl hh99 c91_85 c86_85 (Or.inl (hw _ (List.mem_of_getElem? (i := 32) rfl))) (hw _ (List.mem_of_getElem? (i := 5) rfl)) (ty := .int) (by decide) rfl rfl (g := (mkF m 83 #[.val (.ref a1), .val (.int p1), .val (.int p2), .val (.int p3)] [(.int (fmax dr p3)), (.ref a1)])) rfl rfl (hb hby d5_83)
        have Fw101 := c91_85.same W101
        have c102_101 := c86_85.wr W101
        have c103_101 := c87_85.other W101 (Or.inr (slot_ne (Or.inl (hw _ (List.mem_of_getElem? (i := 14) rfl))) (Or.inl (hw _ (List.mem_of_getElem? (i := 32) rfl))) (by decide) (t := .int) (t' := .int) (by decide) (by decide)))
        have c104_101 := c88_85.other W101 (Or.inr (slot_ne (Or.inl (hw _ (List.mem_of_getElem? (i := 16) rfl))) (Or.inl (hw _ (List.mem_of_getElem? (i := 32) rfl))) (by decide) (t := .boolean) (t' := .int) (by decide) (by decide)))
        have c105_101 := c89_85.other W101 (Or.inr (slot_ne (Or.inl (hw _ (List.mem_of_getElem? (i := 30) rfl))) (Or.inl (hw _ (List.mem_of_getElem? (i := 32) rfl))) (by decide) (t := .int) (t' := .int) (by decide) (by decide)))
        have c106_101 := c90_85.other W101 (Or.inr (slot_ne (Or.inl (hw _ (List.mem_of_getElem? (i := 23) rfl))) (Or.inl (hw _ (List.mem_of_getElem? (i := 32) rfl))) (by decide) (t := .int) (t' := .int) (by decide) (by decide)))
        have c107_101 := Fw85.other W101 (Or.inr (slot_ne (Or.inl (hw _ (List.mem_of_getElem? (i := 38) rfl))) (Or.inl (hw _ (List.mem_of_getElem? (i := 32) rfl))) (by decide) (t := .int) (t' := .int) (by decide) (by decide)))
        have zz108 := (Nat.le_trans zz92 (Keep.of_wr W101).1)
        have K109 := K93.wr W101 (Or.inl (List.mem_singleton.mpr rfl))
        have N101 := Fr.snoc X101 N99 g_a1
        have pre110 : Go p e below (s₁.setTop (entryFrame m #[(.ref a1), (.int p1), (.int p2), (.int p3)] 4)) (T101.setTop (mkF m 86 #[.val (.ref a1), .val (.int p1), .val (.int p2), .val (.int p3)] [])) := fun t k => pre100 t (st101 t k)
        obtain ⟨fs, hr, hrun, hended, hW, hsame⟩ := X101.leave (hlocks := hlk) (v := none) (fun _ => rfl)
        refine ⟨_, _, pre110 _ (X101.returnOut hx Bd.returns (hb hby d5_86) hr), hrun, hended, _, _, rfl, ?_, ⟨_, rfl⟩, hW, hsame.mono (by decide) (by decide)⟩
        show Q5 Z a1 p1 p2 p3 fi ie nd on ze dr h0 n0 _ T101.heap _
        rw [e101]
        exact ⟨rfl, N101, K109, _, c102_101, (show Fld Z _ a1 "lightbin/AgreementResult$Run" "firstInput" "I" (.int (own_fi nd p1 fi)) from by rw [own_fi, if_pos hc11_15]; exact c103_101), (show Fld Z _ a1 "lightbin/AgreementResult$Run" "inputsEqual" "Z" (.int (own_ie ie p1 (own_fi nd p1 fi))) from by rw [own_ie, own_fi, if_pos hc11_15, ← h_jj]; exact c104_101), (show Fld Z _ a1 "lightbin/AgreementResult$Run" "nodes" "I" (.int (nd + (1 : Int32))) from by skip; exact c105_101), (show Fld Z _ a1 "lightbin/AgreementResult$Run" "ones" "I" (.int (own_on p2 on)) from by rw [own_on, if_neg hc42_47, if_neg hc48_50]; exact c106_101), (show Fld Z _ a1 "lightbin/AgreementResult$Run" "zeros" "I" (.int (own_ze p2 ze)) from by rw [own_ze, if_neg hc42_47, if_neg hc48_50]; exact c107_101), Fw101⟩
  · skip
    have pre111 : Go p e below (s₁.setTop (entryFrame m #[(.ref a1), (.int p1), (.int p2), (.int p3)] 4)) (T5.setTop (mkF m 21 #[.val (.ref a1), .val (.int p1), .val (.int p2), .val (.int p3)] [(.ref a1), (.ref a1)])) := by
      intro t k
      refine pre14 t ?_
      show Steps p.tables e below (T5.setTop (mkF m 11 #[.val (.ref a1), .val (.int p1), .val (.int p2), .val (.int p3)] [(.int nd)])) _
      refine XS.ifYes X5.here hx rfl (pc0 := 11) (pc' := 19) rfl (hb hby d5_11) rfl (XT.i0_ne_t hc11_15) (by decide) (by decide) ?_
      show Steps p.tables e below (T5.setTop (mkF m 19 #[.val (.ref a1), .val (.int p1), .val (.int p2), .val (.int p3)] [])) _
      refine XS.aloadN X5.here hx rfl (hb hby d5_19) rfl rfl ?_
      show Steps p.tables e below (T5.setTop (mkF m 20 #[.val (.ref a1), .val (.int p1), .val (.int p2), .val (.int p3)] [(.ref a1)])) _
      refine XS.dup X5.here hx rfl (hb hby d5_20) rfl rfl ?_
      show Steps p.tables e below (T5.setTop (mkF m 21 #[.val (.ref a1), .val (.int p1), .val (.int p2), .val (.int p3)] [(.ref a1), (.ref a1)])) _
      exact k
    obtain ⟨T112, X112, e112, st112⟩ := getF X5 hx hZ hown (host := "") (Or.inl (hw _ (List.mem_of_getElem? (i := 15) rfl))) Via.refl e5 c8_5 (g := (mkF m 21 #[.val (.ref a1), .val (.int p1), .val (.int p2), .val (.int p3)] [(.ref a1), (.ref a1)])) rfl rfl (hb hby d5_21)
    have pre113 : Go p e below (s₁.setTop (entryFrame m #[(.ref a1), (.int p1), (.int p2), (.int p3)] 4)) (T112.setTop (mkF m 24 #[.val (.ref a1), .val (.int p1), .val (.int p2), .val (.int p3)] [(.int ie), (.ref a1)])) := fun t k => pre111 t (st112 t k)
    have pre114 : Go p e below (s₁.setTop (entryFrame m #[(.ref a1), (.int p1), (.int p2), (.int p3)] 4)) (T112.setTop (mkF m 26 #[.val (.ref a1), .val (.int p1), .val (.int p2), .val (.int p3)] [(.ref a1), (.int p1), (.int ie), (.ref a1)])) := by
      intro t k
      refine pre113 t ?_
      show Steps p.tables e below (T112.setTop (mkF m 24 #[.val (.ref a1), .val (.int p1), .val (.int p2), .val (.int p3)] [(.int ie), (.ref a1)])) _
      refine XS.iloadN X112.here hx rfl (hb hby d5_24) rfl ?_
      show Steps p.tables e below (T112.setTop (mkF m 25 #[.val (.ref a1), .val (.int p1), .val (.int p2), .val (.int p3)] [(.int p1), (.int ie), (.ref a1)])) _
      refine XS.aloadN X112.here hx rfl (hb hby d5_25) rfl rfl ?_
      show Steps p.tables e below (T112.setTop (mkF m 26 #[.val (.ref a1), .val (.int p1), .val (.int p2), .val (.int p3)] [(.ref a1), (.int p1), (.int ie), (.ref a1)])) _
      exact k
    obtain ⟨T115, X115, e115, st115⟩ := getF X112 hx hZ hown (host := "") (Or.inl (hw _ (List.mem_of_getElem? (i := 13) rfl))) Via.refl e112 c7_5 (g := (mkF m 26 #[.val (.ref a1), .val (.int p1), .val (.int p2), .val (.int p3)] [(.ref a1), (.int p1), (.int ie), (.ref a1)])) rfl rfl (hb hby d5_26)
    have pre116 : Go p e below (s₁.setTop (entryFrame m #[(.ref a1), (.int p1), (.int p2), (.int p3)] 4)) (T115.setTop (mkF m 29 #[.val (.ref a1), .val (.int p1), .val (.int p2), .val (.int p3)] [(.int fi), (.int p1), (.int ie), (.ref a1)])) := fun t k => pre114 t (st115 t k)
    obtain ⟨jj, h_jj⟩ : ∃ z : Int32, z = (if p1 = fi then (1 : Int32) else (0 : Int32)) := ⟨_, rfl⟩
    have pre118 : Go p e below (s₁.setTop (entryFrame m #[(.ref a1), (.int p1), (.int p2), (.int p3)] 4)) (T115.setTop (mkF m 37 #[.val (.ref a1), .val (.int p1), .val (.int p2), .val (.int p3)] [(.int jj), (.int ie), (.ref a1)])) := by
      intro t k
      refine pre116 t ?_
      show Steps p.tables e below (T115.setTop (mkF m 29 #[.val (.ref a1), .val (.int p1), .val (.int p2), .val (.int p3)] [(.int fi), (.int p1), (.int ie), (.ref a1)])) _
      by_cases hc29_117 : p1 = fi
      · skip
        refine XS.icmpNo X115.here hx rfl (hb hby d5_29) rfl (XT.ii_ne_f hc29_117) ?_
        show Steps p.tables e below (T115.setTop (mkF m 32 #[.val (.ref a1), .val (.int p1), .val (.int p2), .val (.int p3)] [(.int ie), (.ref a1)])) _
        refine XS.iconst X115.here hx rfl (hb hby d5_32) ?_
        show Steps p.tables e below (T115.setTop (mkF m 33 #[.val (.ref a1), .val (.int p1), .val (.int p2), .val (.int p3)] [(.int (1 : Int32)), (.int ie), (.ref a1)])) _
        refine XS.goto X115.here hx rfl (pc0 := 33) (pc' := 37) rfl (hb hby d5_33) (by decide) (by decide) ?_
        show Steps p.tables e below (T115.setTop (mkF m 37 #[.val (.ref a1), .val (.int p1), .val (.int p2), .val (.int p3)] [(.int (1 : Int32)), (.int ie), (.ref a1)])) _
        rw [show jj = (1 : Int32) from by rw [h_jj]; rw [if_pos hc29_117]] at k
        exact k
      · skip
        refine XS.icmpYes X115.here hx rfl (pc0 := 29) (pc' := 36) rfl (hb hby d5_29) rfl (XT.ii_ne_t hc29_117) (by decide) (by decide) ?_
        show Steps p.tables e below (T115.setTop (mkF m 36 #[.val (.ref a1), .val (.int p1), .val (.int p2), .val (.int p3)] [(.int ie), (.ref a1)])) _
        refine XS.iconst X115.here hx rfl (hb hby d5_36) ?_
        show Steps p.tables e below (T115.setTop (mkF m 37 #[.val (.ref a1), .val (.int p1), .val (.int p2), .val (.int p3)] [(.int (0 : Int32)), (.int ie), (.ref a1)])) _
        rw [show jj = (0 : Int32) from by rw [h_jj]; rw [if_neg hc29_117]] at k
        exact k
    have pre119 : Go p e below (s₁.setTop (entryFrame m #[(.ref a1), (.int p1), (.int p2), (.int p3)] 4)) (T115.setTop (mkF m 38 #[.val (.ref a1), .val (.int p1), .val (.int p2), .val (.int p3)] [(.int (ie &&& jj)), (.ref a1)])) := by
      intro t k
      refine pre118 t ?_
      show Steps p.tables e below (T115.setTop (mkF m 37 #[.val (.ref a1), .val (.int p1), .val (.int p2), .val (.int p3)] [(.int jj), (.int ie), (.ref a1)])) _
      refine XS.iand X115.here hx rfl (hb hby d5_37) rfl ?_
      show Steps p.tables e below (T115.setTop (mkF m 38 #[.val (.ref a1), .val (.int p1), .val (.int p2), .val (.int p3)] [(.int (ie &&& jj)), (.ref a1)])) _
      exact k
    obtain ⟨T120, h120, X120, e120, W120, st120⟩ := putFN X115 hx hZ hown (hw _ (List.mem_of_getElem? (i := 15) rfl)) Via.refl e115 c8_5 c6_5 (Or.inl (hw _ (List.mem_of_getElem? (i := 16) rfl))) (hw _ (List.mem_of_getElem? (i := 5) rfl)) (ty := .boolean) (v' := (.int (nar .boolean (ie &&& jj)))) (by decide) rfl (fits_nar_bool _) (g := (mkF m 38 #[.val (.ref a1), .val (.int p1), .val (.int p2), .val (.int p3)] [(.int (ie &&& jj)), (.ref a1)])) rfl rfl (hb hby d5_38)
    have Fw120 := c8_5.same W120
    have c121_120 := c6_5.wr W120
    have c122_120 := c7_5.other W120 (Or.inr (slot_ne (Or.inl (hw _ (List.mem_of_getElem? (i := 14) rfl))) (Or.inl (hw _ (List.mem_of_getElem? (i := 16) rfl))) (by decide) (t := .int) (t' := .boolean) (by decide) (by decide)))
    have c123_120 := Fw5.other W120 (Or.inr (slot_ne (Or.inl (hw _ (List.mem_of_getElem? (i := 30) rfl))) (Or.inl (hw _ (List.mem_of_getElem? (i := 16) rfl))) (by decide) (t := .int) (t' := .boolean) (by decide) (by decide)))
    have c124_120 := c9_5.other W120 (Or.inr (slot_ne (Or.inl (hw _ (List.mem_of_getElem? (i := 23) rfl))) (Or.inl (hw _ (List.mem_of_getElem? (i := 16) rfl))) (by decide) (t := .int) (t' := .boolean) (by decide) (by decide)))
    have c125_120 := c10_5.other W120 (Or.inr (slot_ne (Or.inl (hw _ (List.mem_of_getElem? (i := 38) rfl))) (Or.inl (hw _ (List.mem_of_getElem? (i := 16) rfl))) (by decide) (t := .int) (t' := .boolean) (by decide) (by decide)))
    have c126_120 := c11_5.other W120 (Or.inr (slot_ne (Or.inl (hw _ (List.mem_of_getElem? (i := 32) rfl))) (Or.inl (hw _ (List.mem_of_getElem? (i := 16) rfl))) (by decide) (t := .int) (t' := .boolean) (by decide) (by decide)))
    have zz127 := (Nat.le_trans zz12 (Keep.of_wr W120).1)
    have K128 := K13.wr W120 (Or.inl (List.mem_singleton.mpr rfl))
    have N120 := Fr.snoc X120 N5 g_a1
    have pre129 : Go p e below (s₁.setTop (entryFrame m #[(.ref a1), (.int p1), (.int p2), (.int p3)] 4)) (T120.setTop (mkF m 41 #[.val (.ref a1), .val (.int p1), .val (.int p2), .val (.int p3)] [])) := fun t k => pre119 t (st120 t k)
    have pre130 : Go p e below (s₁.setTop (entryFrame m #[(.ref a1), (.int p1), (.int p2), (.int p3)] 4)) (T120.setTop (mkF m 42 #[.val (.ref a1), .val (.int p1), .val (.int p2), .val (.int p3)] [(.int p2)])) := by
      intro t k
      refine pre129 t ?_
      show Steps p.tables e below (T120.setTop (mkF m 41 #[.val (.ref a1), .val (.int p1), .val (.int p2), .val (.int p3)] [])) _
      refine XS.iloadN X120.here hx rfl (hb hby d5_41) rfl ?_
      show Steps p.tables e below (T120.setTop (mkF m 42 #[.val (.ref a1), .val (.int p1), .val (.int p2), .val (.int p3)] [(.int p2)])) _
      exact k
    by_cases hc42_131 : p2 < (0 : Int32)
    · skip
      have pre132 : Go p e below (s₁.setTop (entryFrame m #[(.ref a1), (.int p1), (.int p2), (.int p3)] 4)) (T120.setTop (mkF m 45 #[.val (.ref a1), .val (.int p1), .val (.int p2), .val (.int p3)] [])) := by
        intro t k
        refine pre130 t ?_
        show Steps p.tables e below (T120.setTop (mkF m 42 #[.val (.ref a1), .val (.int p1), .val (.int p2), .val (.int p3)] [(.int p2)])) _
        refine XS.ifNo X120.here hx rfl (hb hby d5_42) rfl (XT.i0_ge_f hc42_131) ?_
        show Steps p.tables e below (T120.setTop (mkF m 45 #[.val (.ref a1), .val (.int p1), .val (.int p2), .val (.int p3)] [])) _
        exact k
      obtain ⟨fs, hr, hrun, hended, hW, hsame⟩ := X120.leave (hlocks := hlk) (v := none) (fun _ => rfl)
      refine ⟨_, _, pre132 _ (X120.returnOut hx Bd.returns (hb hby d5_45) hr), hrun, hended, _, _, rfl, ?_, ⟨_, rfl⟩, hW, hsame.mono (by decide) (by decide)⟩
      show Q5 Z a1 p1 p2 p3 fi ie nd on ze dr h0 n0 _ T120.heap _
      rw [e120]
      exact ⟨rfl, N120, K128, _, c121_120, (show Fld Z _ a1 "lightbin/AgreementResult$Run" "firstInput" "I" (.int (own_fi nd p1 fi)) from by rw [own_fi, if_neg hc11_15]; exact c122_120), (show Fld Z _ a1 "lightbin/AgreementResult$Run" "inputsEqual" "Z" (.int (own_ie ie p1 (own_fi nd p1 fi))) from by rw [own_ie, own_fi, if_neg hc11_15, ← h_jj]; exact Fw120), (show Fld Z _ a1 "lightbin/AgreementResult$Run" "nodes" "I" (.int (nd + (1 : Int32))) from by skip; exact c123_120), (show Fld Z _ a1 "lightbin/AgreementResult$Run" "ones" "I" (.int (own_on p2 on)) from by rw [own_on, if_pos hc42_131]; exact c124_120), (show Fld Z _ a1 "lightbin/AgreementResult$Run" "zeros" "I" (.int (own_ze p2 ze)) from by rw [own_ze, if_pos hc42_131]; exact c125_120), c126_120⟩
    · skip
      have pre133 : Go p e below (s₁.setTop (entryFrame m #[(.ref a1), (.int p1), (.int p2), (.int p3)] 4)) (T120.setTop (mkF m 48 #[.val (.ref a1), .val (.int p1), .val (.int p2), .val (.int p3)] [(.int (1 : Int32)), (.int p2)])) := by
        intro t k
        refine pre130 t ?_
        show Steps p.tables e below (T120.setTop (mkF m 42 #[.val (.ref a1), .val (.int p1), .val (.int p2), .val (.int p3)] [(.int p2)])) _
        refine XS.ifYes X120.here hx rfl (pc0 := 42) (pc' := 46) rfl (hb hby d5_42) rfl (XT.i0_ge_t hc42_131) (by decide) (by decide) ?_
        show Steps p.tables e below (T120.setTop (mkF m 46 #[.val (.ref a1), .val (.int p1), .val (.int p2), .val (.int p3)] [])) _
        refine XS.iloadN X120.here hx rfl (hb hby d5_46) rfl ?_
        show Steps p.tables e below (T120.setTop (mkF m 47 #[.val (.ref a1), .val (.int p1), .val (.int p2), .val (.int p3)] [(.int p2)])) _
        refine XS.iconst X120.here hx rfl (hb hby d5_47) ?_
        show Steps p.tables e below (T120.setTop (mkF m 48 #[.val (.ref a1), .val (.int p1), .val (.int p2), .val (.int p3)] [(.int (1 : Int32)), (.int p2)])) _
        exact k
      by_cases hc48_134 : p2 = (1 : Int32)
      · skip
        have pre135 : Go p e below (s₁.setTop (entryFrame m #[(.ref a1), (.int p1), (.int p2), (.int p3)] 4)) (T120.setTop (mkF m 53 #[.val (.ref a1), .val (.int p1), .val (.int p2), .val (.int p3)] [(.ref a1), (.ref a1)])) := by
          intro t k
          refine pre133 t ?_
          show Steps p.tables e below (T120.setTop (mkF m 48 #[.val (.ref a1), .val (.int p1), .val (.int p2), .val (.int p3)] [(.int (1 : Int32)), (.int p2)])) _
          refine XS.icmpNo X120.here hx rfl (hb hby d5_48) rfl (XT.ii_ne_f hc48_134) ?_
          show Steps p.tables e below (T120.setTop (mkF m 51 #[.val (.ref a1), .val (.int p1), .val (.int p2), .val (.int p3)] [])) _
          refine XS.aloadN X120.here hx rfl (hb hby d5_51) rfl rfl ?_
          show Steps p.tables e below (T120.setTop (mkF m 52 #[.val (.ref a1), .val (.int p1), .val (.int p2), .val (.int p3)] [(.ref a1)])) _
          refine XS.dup X120.here hx rfl (hb hby d5_52) rfl rfl ?_
          show Steps p.tables e below (T120.setTop (mkF m 53 #[.val (.ref a1), .val (.int p1), .val (.int p2), .val (.int p3)] [(.ref a1), (.ref a1)])) _
          exact k
        obtain ⟨T136, X136, e136, st136⟩ := getF X120 hx hZ hown (host := "") (Or.inl (hw _ (List.mem_of_getElem? (i := 22) rfl))) Via.refl e120 c124_120 (g := (mkF m 53 #[.val (.ref a1), .val (.int p1), .val (.int p2), .val (.int p3)] [(.ref a1), (.ref a1)])) rfl rfl (hb hby d5_53)
        have pre137 : Go p e below (s₁.setTop (entryFrame m #[(.ref a1), (.int p1), (.int p2), (.int p3)] 4)) (T136.setTop (mkF m 56 #[.val (.ref a1), .val (.int p1), .val (.int p2), .val (.int p3)] [(.int on), (.ref a1)])) := fun t k => pre135 t (st136 t k)
        have pre138 : Go p e below (s₁.setTop (entryFrame m #[(.ref a1), (.int p1), (.int p2), (.int p3)] 4)) (T136.setTop (mkF m 58 #[.val (.ref a1), .val (.int p1), .val (.int p2), .val (.int p3)] [(.int (on + (1 : Int32))), (.ref a1)])) := by
          intro t k
          refine pre137 t ?_
          show Steps p.tables e below (T136.setTop (mkF m 56 #[.val (.ref a1), .val (.int p1), .val (.int p2), .val (.int p3)] [(.int on), (.ref a1)])) _
          refine XS.iconst X136.here hx rfl (hb hby d5_56) ?_
          show Steps p.tables e below (T136.setTop (mkF m 57 #[.val (.ref a1), .val (.int p1), .val (.int p2), .val (.int p3)] [(.int (1 : Int32)), (.int on), (.ref a1)])) _
          refine XS.iadd X136.here hx rfl (hb hby d5_57) rfl ?_
          show Steps p.tables e below (T136.setTop (mkF m 58 #[.val (.ref a1), .val (.int p1), .val (.int p2), .val (.int p3)] [(.int (on + (1 : Int32))), (.ref a1)])) _
          exact k
        obtain ⟨T139, h139, X139, e139, W139, st139⟩ := putF X136 hx hZ hown (host := "") (Or.inl (hw _ (List.mem_of_getElem? (i := 22) rfl))) Via.refl e136 c124_120 c121_120 (Or.inl (hw _ (List.mem_of_getElem? (i := 23) rfl))) (hw _ (List.mem_of_getElem? (i := 5) rfl)) (ty := .int) (by decide) rfl rfl (g := (mkF m 58 #[.val (.ref a1), .val (.int p1), .val (.int p2), .val (.int p3)] [(.int (on + (1 : Int32))), (.ref a1)])) rfl rfl (hb hby d5_58)
        have Fw139 := c124_120.same W139
        have c140_139 := c121_120.wr W139
        have c141_139 := c122_120.other W139 (Or.inr (slot_ne (Or.inl (hw _ (List.mem_of_getElem? (i := 14) rfl))) (Or.inl (hw _ (List.mem_of_getElem? (i := 23) rfl))) (by decide) (t := .int) (t' := .int) (by decide) (by decide)))
        have c142_139 := Fw120.other W139 (Or.inr (slot_ne (Or.inl (hw _ (List.mem_of_getElem? (i := 16) rfl))) (Or.inl (hw _ (List.mem_of_getElem? (i := 23) rfl))) (by decide) (t := .boolean) (t' := .int) (by decide) (by decide)))
        have c143_139 := c123_120.other W139 (Or.inr (slot_ne (Or.inl (hw _ (List.mem_of_getElem? (i := 30) rfl))) (Or.inl (hw _ (List.mem_of_getElem? (i := 23) rfl))) (by decide) (t := .int) (t' := .int) (by decide) (by decide)))
        have c144_139 := c125_120.other W139 (Or.inr (slot_ne (Or.inl (hw _ (List.mem_of_getElem? (i := 38) rfl))) (Or.inl (hw _ (List.mem_of_getElem? (i := 23) rfl))) (by decide) (t := .int) (t' := .int) (by decide) (by decide)))
        have c145_139 := c126_120.other W139 (Or.inr (slot_ne (Or.inl (hw _ (List.mem_of_getElem? (i := 32) rfl))) (Or.inl (hw _ (List.mem_of_getElem? (i := 23) rfl))) (by decide) (t := .int) (t' := .int) (by decide) (by decide)))
        have zz146 := (Nat.le_trans zz127 (Keep.of_wr W139).1)
        have K147 := K128.wr W139 (Or.inl (List.mem_singleton.mpr rfl))
        have N139 := Fr.snoc X139 N120 g_a1
        have pre148 : Go p e below (s₁.setTop (entryFrame m #[(.ref a1), (.int p1), (.int p2), (.int p3)] 4)) (T139.setTop (mkF m 61 #[.val (.ref a1), .val (.int p1), .val (.int p2), .val (.int p3)] [])) := fun t k => pre138 t (st139 t k)
        have pre149 : Go p e below (s₁.setTop (entryFrame m #[(.ref a1), (.int p1), (.int p2), (.int p3)] 4)) (T139.setTop (mkF m 76 #[.val (.ref a1), .val (.int p1), .val (.int p2), .val (.int p3)] [(.ref a1), (.ref a1)])) := by
          intro t k
          refine pre148 t ?_
          show Steps p.tables e below (T139.setTop (mkF m 61 #[.val (.ref a1), .val (.int p1), .val (.int p2), .val (.int p3)] [])) _
          refine XS.goto X139.here hx rfl (pc0 := 61) (pc' := 74) rfl (hb hby d5_61) (by decide) (by decide) ?_
          show Steps p.tables e below (T139.setTop (mkF m 74 #[.val (.ref a1), .val (.int p1), .val (.int p2), .val (.int p3)] [])) _
          refine XS.aloadN X139.here hx rfl (hb hby d5_74) rfl rfl ?_
          show Steps p.tables e below (T139.setTop (mkF m 75 #[.val (.ref a1), .val (.int p1), .val (.int p2), .val (.int p3)] [(.ref a1)])) _
          refine XS.aloadN X139.here hx rfl (hb hby d5_75) rfl rfl ?_
          show Steps p.tables e below (T139.setTop (mkF m 76 #[.val (.ref a1), .val (.int p1), .val (.int p2), .val (.int p3)] [(.ref a1), (.ref a1)])) _
          exact k
        obtain ⟨T150, X150, e150, st150⟩ := getF X139 hx hZ hown (host := "") (Or.inl (hw _ (List.mem_of_getElem? (i := 31) rfl))) Via.refl e139 c145_139 (g := (mkF m 76 #[.val (.ref a1), .val (.int p1), .val (.int p2), .val (.int p3)] [(.ref a1), (.ref a1)])) rfl rfl (hb hby d5_76)
        have pre151 : Go p e below (s₁.setTop (entryFrame m #[(.ref a1), (.int p1), (.int p2), (.int p3)] 4)) (T150.setTop (mkF m 79 #[.val (.ref a1), .val (.int p1), .val (.int p2), .val (.int p3)] [(.int dr), (.ref a1)])) := fun t k => pre149 t (st150 t k)
        have pre152 : Go p e below (s₁.setTop (entryFrame m #[(.ref a1), (.int p1), (.int p2), (.int p3)] 4)) (T150.setTop (mkF m 80 #[.val (.ref a1), .val (.int p1), .val (.int p2), .val (.int p3)] [(.int p3), (.int dr), (.ref a1)])) := by
          intro t k
          refine pre151 t ?_
          show Steps p.tables e below (T150.setTop (mkF m 79 #[.val (.ref a1), .val (.int p1), .val (.int p2), .val (.int p3)] [(.int dr), (.ref a1)])) _
          refine XS.iloadN X150.here hx rfl (hb hby d5_79) rfl ?_
          show Steps p.tables e below (T150.setTop (mkF m 80 #[.val (.ref a1), .val (.int p1), .val (.int p2), .val (.int p3)] [(.int p3), (.int dr), (.ref a1)])) _
          exact k
        obtain ⟨_, _, ⟨T153, L153, k153, n153⟩, -, X153, ⟨Lc153, hQ153, l153, y153, z153⟩, st153⟩ := Jvm.LawKit.callS X150 hx (y := (⟨"java/lang/Math", "max", "(II)I"⟩ : MethodName)) hown (mvT hZ (hw _ (List.mem_of_getElem? (i := 33) rfl))) (mvT hZ (hw _ (List.mem_of_getElem? (i := 34) rfl))) (mvT hZ (hw _ (List.mem_of_getElem? (i := 35) rfl))) (mvT hZ (hw _ (List.mem_of_getElem? (i := 36) rfl))) (by decide) (backOf (W := 1) (rm6 l Z a0 hw [] dr p3  h139 n0 zz146 ) hZ (hw _ (List.mem_of_getElem? (i := 36) rfl)) (hw _ (List.mem_of_getElem? (i := 35) rfl)) (by decide) (by decide)) (g := (mkF m 80 #[.val (.ref a1), .val (.int p1), .val (.int p2), .val (.int p3)] [(.int p3), (.int dr), (.ref a1)])) rfl (by rw [hml]; rfl) (argsL := [(.int dr), (.int p3)]) (rest := [(.ref a1)]) (lenOf pd_3 rfl) rfl (by show 2 * 0 + _ ≤ _; exact Nat.le_of_eq rfl) (hb hby d5_80) (fun _ _ => ⟨rfl, e150, (by decide : 0 + 0 ≤ _), (by decide : 0 + 0 ≤ _)⟩)
        dsimp only [Pt.U, Pt.locs, Pt.cells, Pt.slots] at X153 l153 y153 z153 st153 hQ153
        subst l153 y153 z153
        obtain ⟨rfl, N153q, hh153⟩ := hQ153
        have N153 := Fr.app N139 N153q
        have pre154 : Go p e below (s₁.setTop (entryFrame m #[(.ref a1), (.int p1), (.int p2), (.int p3)] 4)) (T153.setTop (mkF m 83 #[.val (.ref a1), .val (.int p1), .val (.int p2), .val (.int p3)] [(.int (fmax dr p3)), (.ref a1)])) := fun t k => pre152 t (st153 t k)
        obtain ⟨T155, h155, X155, e155, W155, st155⟩ := putF X153 hx hZ hown (host := "") (Or.inl (hw _ (List.mem_of_getElem? (i := 31) rfl))) Via.refl hh153 c145_139 c140_139 (Or.inl (hw _ (List.mem_of_getElem? (i := 32) rfl))) (hw _ (List.mem_of_getElem? (i := 5) rfl)) (ty := .int) (by decide) rfl rfl (g := (mkF m 83 #[.val (.ref a1), .val (.int p1), .val (.int p2), .val (.int p3)] [(.int (fmax dr p3)), (.ref a1)])) rfl rfl (hb hby d5_83)
        have Fw155 := c145_139.same W155
        have c156_155 := c140_139.wr W155
        have c157_155 := c141_139.other W155 (Or.inr (slot_ne (Or.inl (hw _ (List.mem_of_getElem? (i := 14) rfl))) (Or.inl (hw _ (List.mem_of_getElem? (i := 32) rfl))) (by decide) (t := .int) (t' := .int) (by decide) (by decide)))
        have c158_155 := c142_139.other W155 (Or.inr (slot_ne (Or.inl (hw _ (List.mem_of_getElem? (i := 16) rfl))) (Or.inl (hw _ (List.mem_of_getElem? (i := 32) rfl))) (by decide) (t := .boolean) (t' := .int) (by decide) (by decide)))
        have c159_155 := c143_139.other W155 (Or.inr (slot_ne (Or.inl (hw _ (List.mem_of_getElem? (i := 30) rfl))) (Or.inl (hw _ (List.mem_of_getElem? (i := 32) rfl))) (by decide) (t := .int) (t' := .int) (by decide) (by decide)))
        have c160_155 := Fw139.other W155 (Or.inr (slot_ne (Or.inl (hw _ (List.mem_of_getElem? (i := 23) rfl))) (Or.inl (hw _ (List.mem_of_getElem? (i := 32) rfl))) (by decide) (t := .int) (t' := .int) (by decide) (by decide)))
        have c161_155 := c144_139.other W155 (Or.inr (slot_ne (Or.inl (hw _ (List.mem_of_getElem? (i := 38) rfl))) (Or.inl (hw _ (List.mem_of_getElem? (i := 32) rfl))) (by decide) (t := .int) (t' := .int) (by decide) (by decide)))
        have zz162 := (Nat.le_trans zz146 (Keep.of_wr W155).1)
        have K163 := K147.wr W155 (Or.inl (List.mem_singleton.mpr rfl))
        have N155 := Fr.snoc X155 N153 g_a1
        have pre164 : Go p e below (s₁.setTop (entryFrame m #[(.ref a1), (.int p1), (.int p2), (.int p3)] 4)) (T155.setTop (mkF m 86 #[.val (.ref a1), .val (.int p1), .val (.int p2), .val (.int p3)] [])) := fun t k => pre154 t (st155 t k)
        obtain ⟨fs, hr, hrun, hended, hW, hsame⟩ := X155.leave (hlocks := hlk) (v := none) (fun _ => rfl)
        refine ⟨_, _, pre164 _ (X155.returnOut hx Bd.returns (hb hby d5_86) hr), hrun, hended, _, _, rfl, ?_, ⟨_, rfl⟩, hW, hsame.mono (by decide) (by decide)⟩
        show Q5 Z a1 p1 p2 p3 fi ie nd on ze dr h0 n0 _ T155.heap _
        rw [e155]
        exact ⟨rfl, N155, K163, _, c156_155, (show Fld Z _ a1 "lightbin/AgreementResult$Run" "firstInput" "I" (.int (own_fi nd p1 fi)) from by rw [own_fi, if_neg hc11_15]; exact c157_155), (show Fld Z _ a1 "lightbin/AgreementResult$Run" "inputsEqual" "Z" (.int (own_ie ie p1 (own_fi nd p1 fi))) from by rw [own_ie, own_fi, if_neg hc11_15, ← h_jj]; exact c158_155), (show Fld Z _ a1 "lightbin/AgreementResult$Run" "nodes" "I" (.int (nd + (1 : Int32))) from by skip; exact c159_155), (show Fld Z _ a1 "lightbin/AgreementResult$Run" "ones" "I" (.int (own_on p2 on)) from by rw [own_on, if_neg hc42_131, if_pos hc48_134]; exact c160_155), (show Fld Z _ a1 "lightbin/AgreementResult$Run" "zeros" "I" (.int (own_ze p2 ze)) from by rw [own_ze, if_neg hc42_131, if_pos hc48_134]; exact c161_155), Fw155⟩
      · skip
        have pre165 : Go p e below (s₁.setTop (entryFrame m #[(.ref a1), (.int p1), (.int p2), (.int p3)] 4)) (T120.setTop (mkF m 66 #[.val (.ref a1), .val (.int p1), .val (.int p2), .val (.int p3)] [(.ref a1), (.ref a1)])) := by
          intro t k
          refine pre133 t ?_
          show Steps p.tables e below (T120.setTop (mkF m 48 #[.val (.ref a1), .val (.int p1), .val (.int p2), .val (.int p3)] [(.int (1 : Int32)), (.int p2)])) _
          refine XS.icmpYes X120.here hx rfl (pc0 := 48) (pc' := 64) rfl (hb hby d5_48) rfl (XT.ii_ne_t hc48_134) (by decide) (by decide) ?_
          show Steps p.tables e below (T120.setTop (mkF m 64 #[.val (.ref a1), .val (.int p1), .val (.int p2), .val (.int p3)] [])) _
          refine XS.aloadN X120.here hx rfl (hb hby d5_64) rfl rfl ?_
          show Steps p.tables e below (T120.setTop (mkF m 65 #[.val (.ref a1), .val (.int p1), .val (.int p2), .val (.int p3)] [(.ref a1)])) _
          refine XS.dup X120.here hx rfl (hb hby d5_65) rfl rfl ?_
          show Steps p.tables e below (T120.setTop (mkF m 66 #[.val (.ref a1), .val (.int p1), .val (.int p2), .val (.int p3)] [(.ref a1), (.ref a1)])) _
          exact k
        obtain ⟨T166, X166, e166, st166⟩ := getF X120 hx hZ hown (host := "") (Or.inl (hw _ (List.mem_of_getElem? (i := 37) rfl))) Via.refl e120 c125_120 (g := (mkF m 66 #[.val (.ref a1), .val (.int p1), .val (.int p2), .val (.int p3)] [(.ref a1), (.ref a1)])) rfl rfl (hb hby d5_66)
        have pre167 : Go p e below (s₁.setTop (entryFrame m #[(.ref a1), (.int p1), (.int p2), (.int p3)] 4)) (T166.setTop (mkF m 69 #[.val (.ref a1), .val (.int p1), .val (.int p2), .val (.int p3)] [(.int ze), (.ref a1)])) := fun t k => pre165 t (st166 t k)
        have pre168 : Go p e below (s₁.setTop (entryFrame m #[(.ref a1), (.int p1), (.int p2), (.int p3)] 4)) (T166.setTop (mkF m 71 #[.val (.ref a1), .val (.int p1), .val (.int p2), .val (.int p3)] [(.int (ze + (1 : Int32))), (.ref a1)])) := by
          intro t k
          refine pre167 t ?_
          show Steps p.tables e below (T166.setTop (mkF m 69 #[.val (.ref a1), .val (.int p1), .val (.int p2), .val (.int p3)] [(.int ze), (.ref a1)])) _
          refine XS.iconst X166.here hx rfl (hb hby d5_69) ?_
          show Steps p.tables e below (T166.setTop (mkF m 70 #[.val (.ref a1), .val (.int p1), .val (.int p2), .val (.int p3)] [(.int (1 : Int32)), (.int ze), (.ref a1)])) _
          refine XS.iadd X166.here hx rfl (hb hby d5_70) rfl ?_
          show Steps p.tables e below (T166.setTop (mkF m 71 #[.val (.ref a1), .val (.int p1), .val (.int p2), .val (.int p3)] [(.int (ze + (1 : Int32))), (.ref a1)])) _
          exact k
        obtain ⟨T169, h169, X169, e169, W169, st169⟩ := putF X166 hx hZ hown (host := "") (Or.inl (hw _ (List.mem_of_getElem? (i := 37) rfl))) Via.refl e166 c125_120 c121_120 (Or.inl (hw _ (List.mem_of_getElem? (i := 38) rfl))) (hw _ (List.mem_of_getElem? (i := 5) rfl)) (ty := .int) (by decide) rfl rfl (g := (mkF m 71 #[.val (.ref a1), .val (.int p1), .val (.int p2), .val (.int p3)] [(.int (ze + (1 : Int32))), (.ref a1)])) rfl rfl (hb hby d5_71)
        have Fw169 := c125_120.same W169
        have c170_169 := c121_120.wr W169
        have c171_169 := c122_120.other W169 (Or.inr (slot_ne (Or.inl (hw _ (List.mem_of_getElem? (i := 14) rfl))) (Or.inl (hw _ (List.mem_of_getElem? (i := 38) rfl))) (by decide) (t := .int) (t' := .int) (by decide) (by decide)))
        have c172_169 := Fw120.other W169 (Or.inr (slot_ne (Or.inl (hw _ (List.mem_of_getElem? (i := 16) rfl))) (Or.inl (hw _ (List.mem_of_getElem? (i := 38) rfl))) (by decide) (t := .boolean) (t' := .int) (by decide) (by decide)))
        have c173_169 := c123_120.other W169 (Or.inr (slot_ne (Or.inl (hw _ (List.mem_of_getElem? (i := 30) rfl))) (Or.inl (hw _ (List.mem_of_getElem? (i := 38) rfl))) (by decide) (t := .int) (t' := .int) (by decide) (by decide)))
        have c174_169 := c124_120.other W169 (Or.inr (slot_ne (Or.inl (hw _ (List.mem_of_getElem? (i := 23) rfl))) (Or.inl (hw _ (List.mem_of_getElem? (i := 38) rfl))) (by decide) (t := .int) (t' := .int) (by decide) (by decide)))
        have c175_169 := c126_120.other W169 (Or.inr (slot_ne (Or.inl (hw _ (List.mem_of_getElem? (i := 32) rfl))) (Or.inl (hw _ (List.mem_of_getElem? (i := 38) rfl))) (by decide) (t := .int) (t' := .int) (by decide) (by decide)))
        have zz176 := (Nat.le_trans zz127 (Keep.of_wr W169).1)
        have K177 := K128.wr W169 (Or.inl (List.mem_singleton.mpr rfl))
        have N169 := Fr.snoc X169 N120 g_a1
        have pre178 : Go p e below (s₁.setTop (entryFrame m #[(.ref a1), (.int p1), (.int p2), (.int p3)] 4)) (T169.setTop (mkF m 74 #[.val (.ref a1), .val (.int p1), .val (.int p2), .val (.int p3)] [])) := fun t k => pre168 t (st169 t k)
        have pre179 : Go p e below (s₁.setTop (entryFrame m #[(.ref a1), (.int p1), (.int p2), (.int p3)] 4)) (T169.setTop (mkF m 76 #[.val (.ref a1), .val (.int p1), .val (.int p2), .val (.int p3)] [(.ref a1), (.ref a1)])) := by
          intro t k
          refine pre178 t ?_
          show Steps p.tables e below (T169.setTop (mkF m 74 #[.val (.ref a1), .val (.int p1), .val (.int p2), .val (.int p3)] [])) _
          refine XS.aloadN X169.here hx rfl (hb hby d5_74) rfl rfl ?_
          show Steps p.tables e below (T169.setTop (mkF m 75 #[.val (.ref a1), .val (.int p1), .val (.int p2), .val (.int p3)] [(.ref a1)])) _
          refine XS.aloadN X169.here hx rfl (hb hby d5_75) rfl rfl ?_
          show Steps p.tables e below (T169.setTop (mkF m 76 #[.val (.ref a1), .val (.int p1), .val (.int p2), .val (.int p3)] [(.ref a1), (.ref a1)])) _
          exact k
        obtain ⟨T180, X180, e180, st180⟩ := getF X169 hx hZ hown (host := "") (Or.inl (hw _ (List.mem_of_getElem? (i := 31) rfl))) Via.refl e169 c175_169 (g := (mkF m 76 #[.val (.ref a1), .val (.int p1), .val (.int p2), .val (.int p3)] [(.ref a1), (.ref a1)])) rfl rfl (hb hby d5_76)
        have pre181 : Go p e below (s₁.setTop (entryFrame m #[(.ref a1), (.int p1), (.int p2), (.int p3)] 4)) (T180.setTop (mkF m 79 #[.val (.ref a1), .val (.int p1), .val (.int p2), .val (.int p3)] [(.int dr), (.ref a1)])) := fun t k => pre179 t (st180 t k)
        have pre182 : Go p e below (s₁.setTop (entryFrame m #[(.ref a1), (.int p1), (.int p2), (.int p3)] 4)) (T180.setTop (mkF m 80 #[.val (.ref a1), .val (.int p1), .val (.int p2), .val (.int p3)] [(.int p3), (.int dr), (.ref a1)])) := by
          intro t k
          refine pre181 t ?_
          show Steps p.tables e below (T180.setTop (mkF m 79 #[.val (.ref a1), .val (.int p1), .val (.int p2), .val (.int p3)] [(.int dr), (.ref a1)])) _
          refine XS.iloadN X180.here hx rfl (hb hby d5_79) rfl ?_
          show Steps p.tables e below (T180.setTop (mkF m 80 #[.val (.ref a1), .val (.int p1), .val (.int p2), .val (.int p3)] [(.int p3), (.int dr), (.ref a1)])) _
          exact k
        obtain ⟨_, _, ⟨T183, L183, k183, n183⟩, -, X183, ⟨Lc183, hQ183, l183, y183, z183⟩, st183⟩ := Jvm.LawKit.callS X180 hx (y := (⟨"java/lang/Math", "max", "(II)I"⟩ : MethodName)) hown (mvT hZ (hw _ (List.mem_of_getElem? (i := 33) rfl))) (mvT hZ (hw _ (List.mem_of_getElem? (i := 34) rfl))) (mvT hZ (hw _ (List.mem_of_getElem? (i := 35) rfl))) (mvT hZ (hw _ (List.mem_of_getElem? (i := 36) rfl))) (by decide) (backOf (W := 1) (rm6 l Z a0 hw [] dr p3  h169 n0 zz176 ) hZ (hw _ (List.mem_of_getElem? (i := 36) rfl)) (hw _ (List.mem_of_getElem? (i := 35) rfl)) (by decide) (by decide)) (g := (mkF m 80 #[.val (.ref a1), .val (.int p1), .val (.int p2), .val (.int p3)] [(.int p3), (.int dr), (.ref a1)])) rfl (by rw [hml]; rfl) (argsL := [(.int dr), (.int p3)]) (rest := [(.ref a1)]) (lenOf pd_3 rfl) rfl (by show 2 * 0 + _ ≤ _; exact Nat.le_of_eq rfl) (hb hby d5_80) (fun _ _ => ⟨rfl, e180, (by decide : 0 + 0 ≤ _), (by decide : 0 + 0 ≤ _)⟩)
        dsimp only [Pt.U, Pt.locs, Pt.cells, Pt.slots] at X183 l183 y183 z183 st183 hQ183
        subst l183 y183 z183
        obtain ⟨rfl, N183q, hh183⟩ := hQ183
        have N183 := Fr.app N169 N183q
        have pre184 : Go p e below (s₁.setTop (entryFrame m #[(.ref a1), (.int p1), (.int p2), (.int p3)] 4)) (T183.setTop (mkF m 83 #[.val (.ref a1), .val (.int p1), .val (.int p2), .val (.int p3)] [(.int (fmax dr p3)), (.ref a1)])) := fun t k => pre182 t (st183 t k)
        obtain ⟨T185, h185, X185, e185, W185, st185⟩ := putF X183 hx hZ hown (host := "") (Or.inl (hw _ (List.mem_of_getElem? (i := 31) rfl))) Via.refl hh183 c175_169 c170_169 (Or.inl (hw _ (List.mem_of_getElem? (i := 32) rfl))) (hw _ (List.mem_of_getElem? (i := 5) rfl)) (ty := .int) (by decide) rfl rfl (g := (mkF m 83 #[.val (.ref a1), .val (.int p1), .val (.int p2), .val (.int p3)] [(.int (fmax dr p3)), (.ref a1)])) rfl rfl (hb hby d5_83)
        have Fw185 := c175_169.same W185
        have c186_185 := c170_169.wr W185
        have c187_185 := c171_169.other W185 (Or.inr (slot_ne (Or.inl (hw _ (List.mem_of_getElem? (i := 14) rfl))) (Or.inl (hw _ (List.mem_of_getElem? (i := 32) rfl))) (by decide) (t := .int) (t' := .int) (by decide) (by decide)))
        have c188_185 := c172_169.other W185 (Or.inr (slot_ne (Or.inl (hw _ (List.mem_of_getElem? (i := 16) rfl))) (Or.inl (hw _ (List.mem_of_getElem? (i := 32) rfl))) (by decide) (t := .boolean) (t' := .int) (by decide) (by decide)))
        have c189_185 := c173_169.other W185 (Or.inr (slot_ne (Or.inl (hw _ (List.mem_of_getElem? (i := 30) rfl))) (Or.inl (hw _ (List.mem_of_getElem? (i := 32) rfl))) (by decide) (t := .int) (t' := .int) (by decide) (by decide)))
        have c190_185 := c174_169.other W185 (Or.inr (slot_ne (Or.inl (hw _ (List.mem_of_getElem? (i := 23) rfl))) (Or.inl (hw _ (List.mem_of_getElem? (i := 32) rfl))) (by decide) (t := .int) (t' := .int) (by decide) (by decide)))
        have c191_185 := Fw169.other W185 (Or.inr (slot_ne (Or.inl (hw _ (List.mem_of_getElem? (i := 38) rfl))) (Or.inl (hw _ (List.mem_of_getElem? (i := 32) rfl))) (by decide) (t := .int) (t' := .int) (by decide) (by decide)))
        have zz192 := (Nat.le_trans zz176 (Keep.of_wr W185).1)
        have K193 := K177.wr W185 (Or.inl (List.mem_singleton.mpr rfl))
        have N185 := Fr.snoc X185 N183 g_a1
        have pre194 : Go p e below (s₁.setTop (entryFrame m #[(.ref a1), (.int p1), (.int p2), (.int p3)] 4)) (T185.setTop (mkF m 86 #[.val (.ref a1), .val (.int p1), .val (.int p2), .val (.int p3)] [])) := fun t k => pre184 t (st185 t k)
        obtain ⟨fs, hr, hrun, hended, hW, hsame⟩ := X185.leave (hlocks := hlk) (v := none) (fun _ => rfl)
        refine ⟨_, _, pre194 _ (X185.returnOut hx Bd.returns (hb hby d5_86) hr), hrun, hended, _, _, rfl, ?_, ⟨_, rfl⟩, hW, hsame.mono (by decide) (by decide)⟩
        show Q5 Z a1 p1 p2 p3 fi ie nd on ze dr h0 n0 _ T185.heap _
        rw [e185]
        exact ⟨rfl, N185, K193, _, c186_185, (show Fld Z _ a1 "lightbin/AgreementResult$Run" "firstInput" "I" (.int (own_fi nd p1 fi)) from by rw [own_fi, if_neg hc11_15]; exact c187_185), (show Fld Z _ a1 "lightbin/AgreementResult$Run" "inputsEqual" "Z" (.int (own_ie ie p1 (own_fi nd p1 fi))) from by rw [own_ie, own_fi, if_neg hc11_15, ← h_jj]; exact c188_185), (show Fld Z _ a1 "lightbin/AgreementResult$Run" "nodes" "I" (.int (nd + (1 : Int32))) from by skip; exact c189_185), (show Fld Z _ a1 "lightbin/AgreementResult$Run" "ones" "I" (.int (own_on p2 on)) from by rw [own_on, if_neg hc42_131, if_neg hc48_134]; exact c190_185), (show Fld Z _ a1 "lightbin/AgreementResult$Run" "zeros" "I" (.int (own_ze p2 ze)) from by rw [own_ze, if_neg hc42_131, if_neg hc48_134]; exact c191_185), Fw185⟩
theorem ef_4 (m : MethodId) (a1 : Addr) : entryFrame m #[(.ref a1)] 1 = mkF m 0 #[.val (.ref a1)] [] := by first | (simp [entryFrame, mkF, argsToLocals, Value.category]; done) | rfl
theorem d4_0 : decode prog_5_method_4_code 0 = .ok (.aload_n 0, 1) := by decide +kernel
theorem d4_1 : decode prog_5_method_4_code 1 = .ok (.getfield 13, 3) := by decide +kernel
theorem d4_4 : decode prog_5_method_4_code 4 = .ok (.ifCond .eq 25, 3) := by decide +kernel
theorem d4_29 : decode prog_5_method_4_code 29 = .ok (.iconst 1, 1) := by decide +kernel
theorem d4_30 : decode prog_5_method_4_code 30 = .ok (.goto 4, 3) := by decide +kernel
theorem d4_34 : decode prog_5_method_4_code 34 = .ok (.ireturn, 1) := by decide +kernel
theorem d4_7 : decode prog_5_method_4_code 7 = .ok (.aload_n 0, 1) := by decide +kernel
theorem d4_8 : decode prog_5_method_4_code 8 = .ok (.getfield 7, 3) := by decide +kernel
theorem d4_11 : decode prog_5_method_4_code 11 = .ok (.iconst 1, 1) := by decide +kernel
theorem d4_12 : decode prog_5_method_4_code 12 = .ok (.if_icmp .ne 10, 3) := by decide +kernel
theorem d4_15 : decode prog_5_method_4_code 15 = .ok (.aload_n 0, 1) := by decide +kernel
theorem d4_16 : decode prog_5_method_4_code 16 = .ok (.getfield 23, 3) := by decide +kernel
theorem d4_19 : decode prog_5_method_4_code 19 = .ok (.goto 7, 3) := by decide +kernel
theorem d4_26 : decode prog_5_method_4_code 26 = .ok (.ifCond .ne 7, 3) := by decide +kernel
theorem d4_33 : decode prog_5_method_4_code 33 = .ok (.iconst 0, 1) := by decide +kernel
theorem d4_22 : decode prog_5_method_4_code 22 = .ok (.aload_n 0, 1) := by decide +kernel
theorem d4_23 : decode prog_5_method_4_code 23 = .ok (.getfield 20, 3) := by decide +kernel
def fval (fi : Int32) (ie : Int32) (on : Int32) (ze : Int32) : Int32 := (if ie = (0 : Int32) then (1 : Int32) else (if fi = (1 : Int32) then (if ze = (0 : Int32) then (1 : Int32) else (0 : Int32)) else (if on = (0 : Int32) then (1 : Int32) else (0 : Int32))))
def Q4 (Z : State) (a1 : Addr) (fi : Int32) (ie : Int32) (on : Int32) (ze : Int32) (h0 : Heap) (n0 : Nat) (v : Option Value) (h : Heap) (L : List Loc) : Prop := v = some (.int (fval fi ie on ze)) ∧ Fr n0 L ∧ h = h0
set_option maxRecDepth 65536 in
set_option maxHeartbeats 40000000 in
theorem rm4 (l : Launch) (Z : State) (a0 : Array Value) (hw : ∀ d ∈ tables_1, d.before a0 Z = true) (ws : List Jvm.Cond) (a1 : Addr) (fi : Int32) (ie : Int32) (on : Int32) (ze : Int32) (h0 : Heap) (n0 : Nat) (Z0 : n0 ≤ h0.size) (F0 : Fld Z h0 a1 "lightbin/AgreementResult$Run" "firstInput" "I" (.int fi)) (F1 : Fld Z h0 a1 "lightbin/AgreementResult$Run" "inputsEqual" "Z" (.int ie)) (F3 : Fld Z h0 a1 "lightbin/AgreementResult$Run" "ones" "I" (.int on)) (F4 : Fld Z h0 a1 "lightbin/AgreementResult$Run" "zeros" "I" (.int ze)) :
    MetFree l (⟨"lightbin/AgreementResult$Run", "validity", "()Z"⟩ : MethodName) (head1 (Jvm.Cond.code (⟨"lightbin/AgreementResult$Run", "validity", "()Z"⟩ : MethodName) prog_5_method_4_code 1 (some .boolean) :: ws) ({ frames := 0, cells := 0, slots := 0, locals := 0 } : Room)) (fun a U => a = #[(.ref a1)] ∧ Z.Warmed39 U.vm ∧ U.heap = h0) (fun _ _ _ _ _ => True) (fun _ U o U' => ∃ v L, o = .returned v ∧ Q4 Z a1 fi ie on ze h0 n0 v U'.heap L ∧ FrameEnd U o U' L ({ frames := 0, cells := 0, slots := 0, locals := 0 } : Room).cells ({ frames := 0, cells := 0, slots := 0, locals := 0 } : Room).slots) := by
  refine MetFree.of_bodySF (plainFor_of_name pn_lightbin_AgreementResult_Run) hisR ?_
  intro p e s m args below meth c s₁ Bd hml0 hP hK
  obtain ⟨rfl, hZ, hh⟩ := hP
  have hx := Bd.exec
  have hby := Bd.bytes
  have hml : c.maxLocals = 1 := hml0
  have hown : s.vm.findClass "lightbin/AgreementResult$Run" = some m.cls := findClass_of_methodNamed Bd.named
  have hnm := (name_of_methodNamed Bd.named Bd.method).1
  have hlk : meth.locks = false := BodyLoose.notSynchronized Bd
  have X0 : Stand p l e ({ frames := 0, cells := 0, slots := 0, locals := 0 } : Room) s m #[(.ref a1)] below meth c s₁ [] 0 0 := Stand.of_body Bd
  have e0 : s₁.heap = h0 := by rw [← hh, Bd.state]; rfl
  have N0 := Fr.nil n0
  have pre0 : Go p e below (s₁.setTop (entryFrame m #[(.ref a1)] 1)) (s₁.setTop (mkF m 0 #[.val (.ref a1)] [])) := fun t k => castTop (ef_4 m a1) k
  have pre1 : Go p e below (s₁.setTop (entryFrame m #[(.ref a1)] 1)) (s₁.setTop (mkF m 1 #[.val (.ref a1)] [(.ref a1)])) := by
    intro t k
    refine pre0 t ?_
    show Steps p.tables e below (s₁.setTop (mkF m 0 #[.val (.ref a1)] [])) _
    refine XS.aloadN X0.here hx rfl (hb hby d4_0) rfl rfl ?_
    show Steps p.tables e below (s₁.setTop (mkF m 1 #[.val (.ref a1)] [(.ref a1)])) _
    exact k
  obtain ⟨T2, X2, e2, st2⟩ := getF X0 hx hZ hown (host := "") (Or.inl (hw _ (List.mem_of_getElem? (i := 15) rfl))) Via.refl e0 F1 (g := (mkF m 1 #[.val (.ref a1)] [(.ref a1)])) rfl rfl (hb hby d4_1)
  have pre3 : Go p e below (s₁.setTop (entryFrame m #[(.ref a1)] 1)) (T2.setTop (mkF m 4 #[.val (.ref a1)] [(.int ie)])) := fun t k => pre1 t (st2 t k)
  by_cases hc4_4 : ie = (0 : Int32)
  · skip
    have pre5 : Go p e below (s₁.setTop (entryFrame m #[(.ref a1)] 1)) (T2.setTop (mkF m 34 #[.val (.ref a1)] [(.int (1 : Int32))])) := by
      intro t k
      refine pre3 t ?_
      show Steps p.tables e below (T2.setTop (mkF m 4 #[.val (.ref a1)] [(.int ie)])) _
      refine XS.ifYes X2.here hx rfl (pc0 := 4) (pc' := 29) rfl (hb hby d4_4) rfl (XT.i0_eq_t hc4_4) (by decide) (by decide) ?_
      show Steps p.tables e below (T2.setTop (mkF m 29 #[.val (.ref a1)] [])) _
      refine XS.iconst X2.here hx rfl (hb hby d4_29) ?_
      show Steps p.tables e below (T2.setTop (mkF m 30 #[.val (.ref a1)] [(.int (1 : Int32))])) _
      refine XS.goto X2.here hx rfl (pc0 := 30) (pc' := 34) rfl (hb hby d4_30) (by decide) (by decide) ?_
      show Steps p.tables e below (T2.setTop (mkF m 34 #[.val (.ref a1)] [(.int (1 : Int32))])) _
      exact k
    obtain ⟨fs, hr, hrun, hended, hW, hsame⟩ := X2.leave (hlocks := hlk) (v := some (.int (1 : Int32))) (fun h => by rw [Bd.returns] at h; cases h)
    refine ⟨_, _, pre5 _ (retN X2 hx (t := .boolean) Bd.returns (by simp) (hb hby d4_34) hr), hrun, hended, _, _, rfl, ?_, ⟨_, rfl⟩, hW, hsame.mono (by decide) (by decide)⟩
    show Q4 Z a1 fi ie on ze h0 n0 _ T2.heap _
    rw [e2]
    exact ⟨congrArg some (congrArg Value.int (show (1 : Int32) = fval fi ie on ze from by rw [fval, if_pos hc4_4])), N0, rfl⟩
  · skip
    have pre6 : Go p e below (s₁.setTop (entryFrame m #[(.ref a1)] 1)) (T2.setTop (mkF m 8 #[.val (.ref a1)] [(.ref a1)])) := by
      intro t k
      refine pre3 t ?_
      show Steps p.tables e below (T2.setTop (mkF m 4 #[.val (.ref a1)] [(.int ie)])) _
      refine XS.ifNo X2.here hx rfl (hb hby d4_4) rfl (XT.i0_eq_f hc4_4) ?_
      show Steps p.tables e below (T2.setTop (mkF m 7 #[.val (.ref a1)] [])) _
      refine XS.aloadN X2.here hx rfl (hb hby d4_7) rfl rfl ?_
      show Steps p.tables e below (T2.setTop (mkF m 8 #[.val (.ref a1)] [(.ref a1)])) _
      exact k
    obtain ⟨T7, X7, e7, st7⟩ := getF X2 hx hZ hown (host := "") (Or.inl (hw _ (List.mem_of_getElem? (i := 13) rfl))) Via.refl e2 F0 (g := (mkF m 8 #[.val (.ref a1)] [(.ref a1)])) rfl rfl (hb hby d4_8)
    have pre8 : Go p e below (s₁.setTop (entryFrame m #[(.ref a1)] 1)) (T7.setTop (mkF m 11 #[.val (.ref a1)] [(.int fi)])) := fun t k => pre6 t (st7 t k)
    have pre9 : Go p e below (s₁.setTop (entryFrame m #[(.ref a1)] 1)) (T7.setTop (mkF m 12 #[.val (.ref a1)] [(.int (1 : Int32)), (.int fi)])) := by
      intro t k
      refine pre8 t ?_
      show Steps p.tables e below (T7.setTop (mkF m 11 #[.val (.ref a1)] [(.int fi)])) _
      refine XS.iconst X7.here hx rfl (hb hby d4_11) ?_
      show Steps p.tables e below (T7.setTop (mkF m 12 #[.val (.ref a1)] [(.int (1 : Int32)), (.int fi)])) _
      exact k
    by_cases hc12_10 : fi = (1 : Int32)
    · skip
      have pre11 : Go p e below (s₁.setTop (entryFrame m #[(.ref a1)] 1)) (T7.setTop (mkF m 16 #[.val (.ref a1)] [(.ref a1)])) := by
        intro t k
        refine pre9 t ?_
        show Steps p.tables e below (T7.setTop (mkF m 12 #[.val (.ref a1)] [(.int (1 : Int32)), (.int fi)])) _
        refine XS.icmpNo X7.here hx rfl (hb hby d4_12) rfl (XT.ii_ne_f hc12_10) ?_
        show Steps p.tables e below (T7.setTop (mkF m 15 #[.val (.ref a1)] [])) _
        refine XS.aloadN X7.here hx rfl (hb hby d4_15) rfl rfl ?_
        show Steps p.tables e below (T7.setTop (mkF m 16 #[.val (.ref a1)] [(.ref a1)])) _
        exact k
      obtain ⟨T12, X12, e12, st12⟩ := getF X7 hx hZ hown (host := "") (Or.inl (hw _ (List.mem_of_getElem? (i := 37) rfl))) Via.refl e7 F4 (g := (mkF m 16 #[.val (.ref a1)] [(.ref a1)])) rfl rfl (hb hby d4_16)
      have pre13 : Go p e below (s₁.setTop (entryFrame m #[(.ref a1)] 1)) (T12.setTop (mkF m 19 #[.val (.ref a1)] [(.int ze)])) := fun t k => pre11 t (st12 t k)
      have pre14 : Go p e below (s₁.setTop (entryFrame m #[(.ref a1)] 1)) (T12.setTop (mkF m 26 #[.val (.ref a1)] [(.int ze)])) := by
        intro t k
        refine pre13 t ?_
        show Steps p.tables e below (T12.setTop (mkF m 19 #[.val (.ref a1)] [(.int ze)])) _
        refine XS.goto X12.here hx rfl (pc0 := 19) (pc' := 26) rfl (hb hby d4_19) (by decide) (by decide) ?_
        show Steps p.tables e below (T12.setTop (mkF m 26 #[.val (.ref a1)] [(.int ze)])) _
        exact k
      by_cases hc26_15 : ze = (0 : Int32)
      · skip
        have pre16 : Go p e below (s₁.setTop (entryFrame m #[(.ref a1)] 1)) (T12.setTop (mkF m 34 #[.val (.ref a1)] [(.int (1 : Int32))])) := by
          intro t k
          refine pre14 t ?_
          show Steps p.tables e below (T12.setTop (mkF m 26 #[.val (.ref a1)] [(.int ze)])) _
          refine XS.ifNo X12.here hx rfl (hb hby d4_26) rfl (XT.i0_ne_f hc26_15) ?_
          show Steps p.tables e below (T12.setTop (mkF m 29 #[.val (.ref a1)] [])) _
          refine XS.iconst X12.here hx rfl (hb hby d4_29) ?_
          show Steps p.tables e below (T12.setTop (mkF m 30 #[.val (.ref a1)] [(.int (1 : Int32))])) _
          refine XS.goto X12.here hx rfl (pc0 := 30) (pc' := 34) rfl (hb hby d4_30) (by decide) (by decide) ?_
          show Steps p.tables e below (T12.setTop (mkF m 34 #[.val (.ref a1)] [(.int (1 : Int32))])) _
          exact k
        obtain ⟨fs, hr, hrun, hended, hW, hsame⟩ := X12.leave (hlocks := hlk) (v := some (.int (1 : Int32))) (fun h => by rw [Bd.returns] at h; cases h)
        refine ⟨_, _, pre16 _ (retN X12 hx (t := .boolean) Bd.returns (by simp) (hb hby d4_34) hr), hrun, hended, _, _, rfl, ?_, ⟨_, rfl⟩, hW, hsame.mono (by decide) (by decide)⟩
        show Q4 Z a1 fi ie on ze h0 n0 _ T12.heap _
        rw [e12]
        exact ⟨congrArg some (congrArg Value.int (show (1 : Int32) = fval fi ie on ze from by rw [fval, if_neg hc4_4, if_pos hc12_10, if_pos hc26_15])), N0, rfl⟩
      · skip
        have pre17 : Go p e below (s₁.setTop (entryFrame m #[(.ref a1)] 1)) (T12.setTop (mkF m 34 #[.val (.ref a1)] [(.int (0 : Int32))])) := by
          intro t k
          refine pre14 t ?_
          show Steps p.tables e below (T12.setTop (mkF m 26 #[.val (.ref a1)] [(.int ze)])) _
          refine XS.ifYes X12.here hx rfl (pc0 := 26) (pc' := 33) rfl (hb hby d4_26) rfl (XT.i0_ne_t hc26_15) (by decide) (by decide) ?_
          show Steps p.tables e below (T12.setTop (mkF m 33 #[.val (.ref a1)] [])) _
          refine XS.iconst X12.here hx rfl (hb hby d4_33) ?_
          show Steps p.tables e below (T12.setTop (mkF m 34 #[.val (.ref a1)] [(.int (0 : Int32))])) _
          exact k
        obtain ⟨fs, hr, hrun, hended, hW, hsame⟩ := X12.leave (hlocks := hlk) (v := some (.int (0 : Int32))) (fun h => by rw [Bd.returns] at h; cases h)
        refine ⟨_, _, pre17 _ (retN X12 hx (t := .boolean) Bd.returns (by simp) (hb hby d4_34) hr), hrun, hended, _, _, rfl, ?_, ⟨_, rfl⟩, hW, hsame.mono (by decide) (by decide)⟩
        show Q4 Z a1 fi ie on ze h0 n0 _ T12.heap _
        rw [e12]
        exact ⟨congrArg some (congrArg Value.int (show (0 : Int32) = fval fi ie on ze from by rw [fval, if_neg hc4_4, if_pos hc12_10, if_neg hc26_15])), N0, rfl⟩
    · skip
      have pre18 : Go p e below (s₁.setTop (entryFrame m #[(.ref a1)] 1)) (T7.setTop (mkF m 23 #[.val (.ref a1)] [(.ref a1)])) := by
        intro t k
        refine pre9 t ?_
        show Steps p.tables e below (T7.setTop (mkF m 12 #[.val (.ref a1)] [(.int (1 : Int32)), (.int fi)])) _
        refine XS.icmpYes X7.here hx rfl (pc0 := 12) (pc' := 22) rfl (hb hby d4_12) rfl (XT.ii_ne_t hc12_10) (by decide) (by decide) ?_
        show Steps p.tables e below (T7.setTop (mkF m 22 #[.val (.ref a1)] [])) _
        refine XS.aloadN X7.here hx rfl (hb hby d4_22) rfl rfl ?_
        show Steps p.tables e below (T7.setTop (mkF m 23 #[.val (.ref a1)] [(.ref a1)])) _
        exact k
      obtain ⟨T19, X19, e19, st19⟩ := getF X7 hx hZ hown (host := "") (Or.inl (hw _ (List.mem_of_getElem? (i := 22) rfl))) Via.refl e7 F3 (g := (mkF m 23 #[.val (.ref a1)] [(.ref a1)])) rfl rfl (hb hby d4_23)
      have pre20 : Go p e below (s₁.setTop (entryFrame m #[(.ref a1)] 1)) (T19.setTop (mkF m 26 #[.val (.ref a1)] [(.int on)])) := fun t k => pre18 t (st19 t k)
      by_cases hc26_21 : on = (0 : Int32)
      · skip
        have pre22 : Go p e below (s₁.setTop (entryFrame m #[(.ref a1)] 1)) (T19.setTop (mkF m 34 #[.val (.ref a1)] [(.int (1 : Int32))])) := by
          intro t k
          refine pre20 t ?_
          show Steps p.tables e below (T19.setTop (mkF m 26 #[.val (.ref a1)] [(.int on)])) _
          refine XS.ifNo X19.here hx rfl (hb hby d4_26) rfl (XT.i0_ne_f hc26_21) ?_
          show Steps p.tables e below (T19.setTop (mkF m 29 #[.val (.ref a1)] [])) _
          refine XS.iconst X19.here hx rfl (hb hby d4_29) ?_
          show Steps p.tables e below (T19.setTop (mkF m 30 #[.val (.ref a1)] [(.int (1 : Int32))])) _
          refine XS.goto X19.here hx rfl (pc0 := 30) (pc' := 34) rfl (hb hby d4_30) (by decide) (by decide) ?_
          show Steps p.tables e below (T19.setTop (mkF m 34 #[.val (.ref a1)] [(.int (1 : Int32))])) _
          exact k
        obtain ⟨fs, hr, hrun, hended, hW, hsame⟩ := X19.leave (hlocks := hlk) (v := some (.int (1 : Int32))) (fun h => by rw [Bd.returns] at h; cases h)
        refine ⟨_, _, pre22 _ (retN X19 hx (t := .boolean) Bd.returns (by simp) (hb hby d4_34) hr), hrun, hended, _, _, rfl, ?_, ⟨_, rfl⟩, hW, hsame.mono (by decide) (by decide)⟩
        show Q4 Z a1 fi ie on ze h0 n0 _ T19.heap _
        rw [e19]
        exact ⟨congrArg some (congrArg Value.int (show (1 : Int32) = fval fi ie on ze from by rw [fval, if_neg hc4_4, if_neg hc12_10, if_pos hc26_21])), N0, rfl⟩
      · skip
        have pre23 : Go p e below (s₁.setTop (entryFrame m #[(.ref a1)] 1)) (T19.setTop (mkF m 34 #[.val (.ref a1)] [(.int (0 : Int32))])) := by
          intro t k
          refine pre20 t ?_
          show Steps p.tables e below (T19.setTop (mkF m 26 #[.val (.ref a1)] [(.int on)])) _
          refine XS.ifYes X19.here hx rfl (pc0 := 26) (pc' := 33) rfl (hb hby d4_26) rfl (XT.i0_ne_t hc26_21) (by decide) (by decide) ?_
          show Steps p.tables e below (T19.setTop (mkF m 33 #[.val (.ref a1)] [])) _
          refine XS.iconst X19.here hx rfl (hb hby d4_33) ?_
          show Steps p.tables e below (T19.setTop (mkF m 34 #[.val (.ref a1)] [(.int (0 : Int32))])) _
          exact k
        obtain ⟨fs, hr, hrun, hended, hW, hsame⟩ := X19.leave (hlocks := hlk) (v := some (.int (0 : Int32))) (fun h => by rw [Bd.returns] at h; cases h)
        refine ⟨_, _, pre23 _ (retN X19 hx (t := .boolean) Bd.returns (by simp) (hb hby d4_34) hr), hrun, hended, _, _, rfl, ?_, ⟨_, rfl⟩, hW, hsame.mono (by decide) (by decide)⟩
        show Q4 Z a1 fi ie on ze h0 n0 _ T19.heap _
        rw [e19]
        exact ⟨congrArg some (congrArg Value.int (show (0 : Int32) = fval fi ie on ze from by rw [fval, if_neg hc4_4, if_neg hc12_10, if_neg hc26_21])), N0, rfl⟩
def own_ok (o i : Int32) : Int32 := if o < (0 : Int32) then (1 : Int32) else (if o = i then (1 : Int32) else (0 : Int32))
theorem own_bit (x : Int32) : (x &&& (1 : Int32)) ∈ ([0, 1] : List Int32) := by
  have e := Jvm.Kit.i32_mask x 1 (k := 1) (by decide) (by decide)
  have h : (x &&& (1 : Int32)).toInt = 0 ∨ (x &&& (1 : Int32)).toInt = 1 := by omega
  rcases h with h | h
  · rw [own_ofNat (c := x &&& (1 : Int32)) (n := 0) h]; decide
  · rw [own_ofNat (c := x &&& (1 : Int32)) (n := 1) h]; decide
theorem own_ush (x : Int32) : 0 ≤ ((x.toUInt32 >>> (((1 : Int32)) &&& 31).toUInt32).toInt32).toInt := by
  have e : ((x.toUInt32 >>> (((1 : Int32)) &&& 31).toUInt32).toInt32).toInt = (x.toBitVec >>> 1).toInt := rfl
  rw [e, BitVec.toInt_eq_toNat_cond, BitVec.toNat_ushiftRight, Nat.shiftRight_eq_div_pow]
  have := x.toBitVec.isLt
  split <;> omega
theorem own_out (x : Int32) : fout x ∈ ([-1, 0, 1] : List Int32) := by
  unfold fout
  have h0 := own_ush x
  have c3 : (3 : Int32).toInt = 3 := rfl
  have e := Jvm.Kit.i32_rem_nonneg (y := (3 : Int32)) h0
  rw [c3] at e
  generalize ((x.toUInt32 >>> (((1 : Int32)) &&& 31).toUInt32).toInt32) % (3 : Int32) = r at e
  have h : r.toInt = 0 ∨ r.toInt = 1 ∨ r.toInt = 2 := by omega
  rcases h with h | h | h
  · rw [own_ofNat (c := r) (n := 0) h]; decide
  · rw [own_ofNat (c := r) (n := 1) h]; decide
  · rw [own_ofNat (c := r) (n := 2) h]; decide
theorem own_p0 : fval (-1 : Int32) (nar .boolean (1 : Int32)) (0 : Int32) (0 : Int32) = (1 : Int32) := by decide
theorem own_q1 : ∀ i0 ∈ ([0, 1] : List Int32), ∀ o0 ∈ ([-1, 0, 1] : List Int32),
    fval (own_fi (0 : Int32) i0 (-1 : Int32)) (own_ie (nar .boolean (1 : Int32)) i0 (own_fi (0 : Int32) i0 (-1 : Int32))) (own_on o0 (0 : Int32)) (own_ze o0 (0 : Int32)) = if own_ok o0 i0 = (0 : Int32) then (0 : Int32) else (1 : Int32) := by decide +kernel
theorem own_q2 : ∀ i0 ∈ ([0, 1] : List Int32), ∀ i1 ∈ ([0, 1] : List Int32), ∀ o0 ∈ ([-1, 0, 1] : List Int32), ∀ o1 ∈ ([-1, 0, 1] : List Int32),
    fval (own_fi ((0 : Int32) + (1 : Int32)) i1 (own_fi (0 : Int32) i0 (-1 : Int32))) (own_ie (own_ie (nar .boolean (1 : Int32)) i0 (own_fi (0 : Int32) i0 (-1 : Int32))) i1 (own_fi ((0 : Int32) + (1 : Int32)) i1 (own_fi (0 : Int32) i0 (-1 : Int32)))) (own_on o1 (own_on o0 (0 : Int32))) (own_ze o1 (own_ze o0 (0 : Int32))) =
      if (if i1 = i0 then (1 : Int32) else (0 : Int32)) = (0 : Int32) then (1 : Int32) else (if own_ok o0 i0 = (0 : Int32) then (0 : Int32) else (if own_ok o1 i0 = (0 : Int32) then (0 : Int32) else (1 : Int32))) := by decide +kernel
theorem own_q3 : ∀ i0 ∈ ([0, 1] : List Int32), ∀ i1 ∈ ([0, 1] : List Int32), ∀ i2 ∈ ([0, 1] : List Int32), ∀ o0 ∈ ([-1, 0, 1] : List Int32), ∀ o1 ∈ ([-1, 0, 1] : List Int32), ∀ o2 ∈ ([-1, 0, 1] : List Int32),
    fval (own_fi (((0 : Int32) + (1 : Int32)) + (1 : Int32)) i2 (own_fi ((0 : Int32) + (1 : Int32)) i1 (own_fi (0 : Int32) i0 (-1 : Int32)))) (own_ie (own_ie (own_ie (nar .boolean (1 : Int32)) i0 (own_fi (0 : Int32) i0 (-1 : Int32))) i1 (own_fi ((0 : Int32) + (1 : Int32)) i1 (own_fi (0 : Int32) i0 (-1 : Int32)))) i2 (own_fi (((0 : Int32) + (1 : Int32)) + (1 : Int32)) i2 (own_fi ((0 : Int32) + (1 : Int32)) i1 (own_fi (0 : Int32) i0 (-1 : Int32))))) (own_on o2 (own_on o1 (own_on o0 (0 : Int32)))) (own_ze o2 (own_ze o1 (own_ze o0 (0 : Int32)))) =
      if (if i1 = i0 then (if i2 = i0 then (1 : Int32) else (0 : Int32)) else (0 : Int32)) = (0 : Int32) then (1 : Int32) else (if own_ok o0 i0 = (0 : Int32) then (0 : Int32) else (if own_ok o1 i0 = (0 : Int32) then (0 : Int32) else (if own_ok o2 i0 = (0 : Int32) then (0 : Int32) else (1 : Int32)))) := by decide +kernel
theorem ef_0 (m : MethodId) (x0 : Int32) (x1 : Int32) (x2 : Int32) (x3 : Int32) (x4 : Int32) : entryFrame m #[(.int x0), (.int x1), (.int x2), (.int x3), (.int x4)] maxLocals = mkF m 0 #[.val (.int x0), .val (.int x1), .val (.int x2), .val (.int x3), .val (.int x4), .unset, .unset, .unset, .unset, .unset, .unset, .unset, .unset, .unset, .unset, .unset, .unset, .unset] [] := by first | (simp [entryFrame, mkF, argsToLocals, Value.category, maxLocals]; done) | rfl
theorem pd_6 : parseMethodDescriptor "(I)I" = some ⟨[.int], some .int⟩ := by decide +kernel
theorem pd_7 : parseMethodDescriptor "()V" = some ⟨[], none⟩ := by decide +kernel
theorem pd_8 : parseMethodDescriptor "()Z" = some ⟨[], some .boolean⟩ := by decide +kernel
theorem pd_9 : parseMethodDescriptor "(III)V" = some ⟨[.int, .int, .int], none⟩ := by decide +kernel
def Q0 (Z : State) (x0 : Int32) (x1 : Int32) (x2 : Int32) (x3 : Int32) (x4 : Int32) (h0 : Heap) (n0 : Nat) (v : Option Value) (h : Heap) (L : List Loc) : Prop := v = some (.int 1) ∧ Fr n0 L
set_option maxRecDepth 65536 in
set_option maxHeartbeats 40000000 in
theorem rm0 (l : Launch) (Z : State) (a0 : Array Value) (hw : ∀ d ∈ tables_1, d.before a0 Z = true) (ws : List Jvm.Cond) (x0 : Int32) (x1 : Int32) (x2 : Int32) (x3 : Int32) (x4 : Int32) (h0 : Heap) (n0 : Nat) (Z0 : n0 ≤ h0.size) :
    MetFree l x (head1 (Jvm.Cond.code x code maxLocals ret :: ws) room_1) (fun a U => a = #[(.int x0), (.int x1), (.int x2), (.int x3), (.int x4)] ∧ Z.Warmed39 U.vm ∧ U.heap = h0) (fun _ _ _ _ _ => True) (fun _ U o U' => ∃ v L, o = .returned v ∧ Q0 Z x0 x1 x2 x3 x4 h0 n0 v U'.heap L ∧ FrameEnd U o U' L 16 128) := by
  refine MetFree.of_bodySF (plainFor_of_name pn_lightbin_RunValidityPinLaw) hisR ?_
  intro p e s m args below meth c s₁ Bd hml0 hP hK
  obtain ⟨rfl, hZ, hh⟩ := hP
  have hx := Bd.exec
  have hby := Bd.bytes
  have hml : c.maxLocals = 18 := hml0
  have hown : s.vm.findClass "lightbin/RunValidityPinLaw" = some m.cls := findClass_of_methodNamed Bd.named
  have hnm := (name_of_methodNamed Bd.named Bd.method).1
  have hlk : meth.locks = false := BodyLoose.notSynchronized Bd
  have X0 : Stand p l e room_1 s m #[(.int x0), (.int x1), (.int x2), (.int x3), (.int x4)] below meth c s₁ [] 0 0 := Stand.of_body Bd
  have e0 : s₁.heap = h0 := by rw [← hh, Bd.state]; rfl
  have N0 := Fr.nil n0
  have pre0 : Go p e below (s₁.setTop (entryFrame m #[(.int x0), (.int x1), (.int x2), (.int x3), (.int x4)] maxLocals)) (s₁.setTop (mkF m 0 #[.val (.int x0), .val (.int x1), .val (.int x2), .val (.int x3), .val (.int x4), .unset, .unset, .unset, .unset, .unset, .unset, .unset, .unset, .unset, .unset, .unset, .unset, .unset] [])) := fun t k => castTop (ef_0 m x0 x1 x2 x3 x4) k
  have pre1 : Go p e below (s₁.setTop (entryFrame m #[(.int x0), (.int x1), (.int x2), (.int x3), (.int x4)] maxLocals)) (s₁.setTop (mkF m 3 #[.val (.int x0), .val (.int x1), .val (.int x2), .val (.int x3), .val (.int x4), .unset, .unset, .unset, .unset, .unset, .unset, .unset, .unset, .unset, .unset, .unset, .unset, .unset] [(.int (x0 &&& (3 : Int32)))])) := by
    intro t k
    refine pre0 t ?_
    show Steps p.tables e below (s₁.setTop (mkF m 0 #[.val (.int x0), .val (.int x1), .val (.int x2), .val (.int x3), .val (.int x4), .unset, .unset, .unset, .unset, .unset, .unset, .unset, .unset, .unset, .unset, .unset, .unset, .unset] [])) _
    refine XS.iloadN X0.here hx rfl (hb hby at_0) rfl ?_
    show Steps p.tables e below (s₁.setTop (mkF m 1 #[.val (.int x0), .val (.int x1), .val (.int x2), .val (.int x3), .val (.int x4), .unset, .unset, .unset, .unset, .unset, .unset, .unset, .unset, .unset, .unset, .unset, .unset, .unset] [(.int x0)])) _
    refine XS.iconst X0.here hx rfl (hb hby at_1) ?_
    show Steps p.tables e below (s₁.setTop (mkF m 2 #[.val (.int x0), .val (.int x1), .val (.int x2), .val (.int x3), .val (.int x4), .unset, .unset, .unset, .unset, .unset, .unset, .unset, .unset, .unset, .unset, .unset, .unset, .unset] [(.int (3 : Int32)), (.int x0)])) _
    refine XS.iand X0.here hx rfl (hb hby at_2) rfl ?_
    show Steps p.tables e below (s₁.setTop (mkF m 3 #[.val (.int x0), .val (.int x1), .val (.int x2), .val (.int x3), .val (.int x4), .unset, .unset, .unset, .unset, .unset, .unset, .unset, .unset, .unset, .unset, .unset, .unset, .unset] [(.int (x0 &&& (3 : Int32)))])) _
    exact k
  obtain ⟨nn, h_nn⟩ : ∃ z : Int32, z = (x0 &&& (3 : Int32)) := ⟨_, rfl⟩
  have pre2 : Go p e below (s₁.setTop (entryFrame m #[(.int x0), (.int x1), (.int x2), (.int x3), (.int x4)] maxLocals)) (s₁.setTop (mkF m 3 #[.val (.int x0), .val (.int x1), .val (.int x2), .val (.int x3), .val (.int x4), .unset, .unset, .unset, .unset, .unset, .unset, .unset, .unset, .unset, .unset, .unset, .unset, .unset] [(.int nn)])) := by rw [h_nn]; exact pre1
  have pre3 : Go p e below (s₁.setTop (entryFrame m #[(.int x0), (.int x1), (.int x2), (.int x3), (.int x4)] maxLocals)) (s₁.setTop (mkF m 8 #[.val (.int x0), .val (.int x1), .val (.int x2), .val (.int x3), .val (.int x4), .val (.int nn), .unset, .unset, .unset, .unset, .unset, .unset, .unset, .unset, .unset, .unset, .unset, .unset] [(.int (x1 &&& (1 : Int32)))])) := by
    intro t k
    refine pre2 t ?_
    show Steps p.tables e below (s₁.setTop (mkF m 3 #[.val (.int x0), .val (.int x1), .val (.int x2), .val (.int x3), .val (.int x4), .unset, .unset, .unset, .unset, .unset, .unset, .unset, .unset, .unset, .unset, .unset, .unset, .unset] [(.int nn)])) _
    refine XS.istore X0.here hx rfl (hb hby at_3) rfl (l' := #[.val (.int x0), .val (.int x1), .val (.int x2), .val (.int x3), .val (.int x4), .val (.int nn), .unset, .unset, .unset, .unset, .unset, .unset, .unset, .unset, .unset, .unset, .unset, .unset]) rfl ?_
    show Steps p.tables e below (s₁.setTop (mkF m 5 #[.val (.int x0), .val (.int x1), .val (.int x2), .val (.int x3), .val (.int x4), .val (.int nn), .unset, .unset, .unset, .unset, .unset, .unset, .unset, .unset, .unset, .unset, .unset, .unset] [])) _
    refine XS.iloadN X0.here hx rfl (hb hby at_5) rfl ?_
    show Steps p.tables e below (s₁.setTop (mkF m 6 #[.val (.int x0), .val (.int x1), .val (.int x2), .val (.int x3), .val (.int x4), .val (.int nn), .unset, .unset, .unset, .unset, .unset, .unset, .unset, .unset, .unset, .unset, .unset, .unset] [(.int x1)])) _
    refine XS.iconst X0.here hx rfl (hb hby at_6) ?_
    show Steps p.tables e below (s₁.setTop (mkF m 7 #[.val (.int x0), .val (.int x1), .val (.int x2), .val (.int x3), .val (.int x4), .val (.int nn), .unset, .unset, .unset, .unset, .unset, .unset, .unset, .unset, .unset, .unset, .unset, .unset] [(.int (1 : Int32)), (.int x1)])) _
    refine XS.iand X0.here hx rfl (hb hby at_7) rfl ?_
    show Steps p.tables e below (s₁.setTop (mkF m 8 #[.val (.int x0), .val (.int x1), .val (.int x2), .val (.int x3), .val (.int x4), .val (.int nn), .unset, .unset, .unset, .unset, .unset, .unset, .unset, .unset, .unset, .unset, .unset, .unset] [(.int (x1 &&& (1 : Int32)))])) _
    exact k
  obtain ⟨i0, h_i0⟩ : ∃ z : Int32, z = (x1 &&& (1 : Int32)) := ⟨_, rfl⟩
  have pre4 : Go p e below (s₁.setTop (entryFrame m #[(.int x0), (.int x1), (.int x2), (.int x3), (.int x4)] maxLocals)) (s₁.setTop (mkF m 8 #[.val (.int x0), .val (.int x1), .val (.int x2), .val (.int x3), .val (.int x4), .val (.int nn), .unset, .unset, .unset, .unset, .unset, .unset, .unset, .unset, .unset, .unset, .unset, .unset] [(.int i0)])) := by rw [h_i0]; exact pre3
  have hi0 := own_bit x1; rw [← h_i0] at hi0
  have pre5 : Go p e below (s₁.setTop (entryFrame m #[(.int x0), (.int x1), (.int x2), (.int x3), (.int x4)] maxLocals)) (s₁.setTop (mkF m 13 #[.val (.int x0), .val (.int x1), .val (.int x2), .val (.int x3), .val (.int x4), .val (.int nn), .val (.int i0), .unset, .unset, .unset, .unset, .unset, .unset, .unset, .unset, .unset, .unset, .unset] [(.int (x2 &&& (1 : Int32)))])) := by
    intro t k
    refine pre4 t ?_
    show Steps p.tables e below (s₁.setTop (mkF m 8 #[.val (.int x0), .val (.int x1), .val (.int x2), .val (.int x3), .val (.int x4), .val (.int nn), .unset, .unset, .unset, .unset, .unset, .unset, .unset, .unset, .unset, .unset, .unset, .unset] [(.int i0)])) _
    refine XS.istore X0.here hx rfl (hb hby at_8) rfl (l' := #[.val (.int x0), .val (.int x1), .val (.int x2), .val (.int x3), .val (.int x4), .val (.int nn), .val (.int i0), .unset, .unset, .unset, .unset, .unset, .unset, .unset, .unset, .unset, .unset, .unset]) rfl ?_
    show Steps p.tables e below (s₁.setTop (mkF m 10 #[.val (.int x0), .val (.int x1), .val (.int x2), .val (.int x3), .val (.int x4), .val (.int nn), .val (.int i0), .unset, .unset, .unset, .unset, .unset, .unset, .unset, .unset, .unset, .unset, .unset] [])) _
    refine XS.iloadN X0.here hx rfl (hb hby at_10) rfl ?_
    show Steps p.tables e below (s₁.setTop (mkF m 11 #[.val (.int x0), .val (.int x1), .val (.int x2), .val (.int x3), .val (.int x4), .val (.int nn), .val (.int i0), .unset, .unset, .unset, .unset, .unset, .unset, .unset, .unset, .unset, .unset, .unset] [(.int x2)])) _
    refine XS.iconst X0.here hx rfl (hb hby at_11) ?_
    show Steps p.tables e below (s₁.setTop (mkF m 12 #[.val (.int x0), .val (.int x1), .val (.int x2), .val (.int x3), .val (.int x4), .val (.int nn), .val (.int i0), .unset, .unset, .unset, .unset, .unset, .unset, .unset, .unset, .unset, .unset, .unset] [(.int (1 : Int32)), (.int x2)])) _
    refine XS.iand X0.here hx rfl (hb hby at_12) rfl ?_
    show Steps p.tables e below (s₁.setTop (mkF m 13 #[.val (.int x0), .val (.int x1), .val (.int x2), .val (.int x3), .val (.int x4), .val (.int nn), .val (.int i0), .unset, .unset, .unset, .unset, .unset, .unset, .unset, .unset, .unset, .unset, .unset] [(.int (x2 &&& (1 : Int32)))])) _
    exact k
  obtain ⟨i1, h_i1⟩ : ∃ z : Int32, z = (x2 &&& (1 : Int32)) := ⟨_, rfl⟩
  have pre6 : Go p e below (s₁.setTop (entryFrame m #[(.int x0), (.int x1), (.int x2), (.int x3), (.int x4)] maxLocals)) (s₁.setTop (mkF m 13 #[.val (.int x0), .val (.int x1), .val (.int x2), .val (.int x3), .val (.int x4), .val (.int nn), .val (.int i0), .unset, .unset, .unset, .unset, .unset, .unset, .unset, .unset, .unset, .unset, .unset] [(.int i1)])) := by rw [h_i1]; exact pre5
  have hi1 := own_bit x2; rw [← h_i1] at hi1
  have pre7 : Go p e below (s₁.setTop (entryFrame m #[(.int x0), (.int x1), (.int x2), (.int x3), (.int x4)] maxLocals)) (s₁.setTop (mkF m 18 #[.val (.int x0), .val (.int x1), .val (.int x2), .val (.int x3), .val (.int x4), .val (.int nn), .val (.int i0), .val (.int i1), .unset, .unset, .unset, .unset, .unset, .unset, .unset, .unset, .unset, .unset] [(.int (x3 &&& (1 : Int32)))])) := by
    intro t k
    refine pre6 t ?_
    show Steps p.tables e below (s₁.setTop (mkF m 13 #[.val (.int x0), .val (.int x1), .val (.int x2), .val (.int x3), .val (.int x4), .val (.int nn), .val (.int i0), .unset, .unset, .unset, .unset, .unset, .unset, .unset, .unset, .unset, .unset, .unset] [(.int i1)])) _
    refine XS.istore X0.here hx rfl (hb hby at_13) rfl (l' := #[.val (.int x0), .val (.int x1), .val (.int x2), .val (.int x3), .val (.int x4), .val (.int nn), .val (.int i0), .val (.int i1), .unset, .unset, .unset, .unset, .unset, .unset, .unset, .unset, .unset, .unset]) rfl ?_
    show Steps p.tables e below (s₁.setTop (mkF m 15 #[.val (.int x0), .val (.int x1), .val (.int x2), .val (.int x3), .val (.int x4), .val (.int nn), .val (.int i0), .val (.int i1), .unset, .unset, .unset, .unset, .unset, .unset, .unset, .unset, .unset, .unset] [])) _
    refine XS.iloadN X0.here hx rfl (hb hby at_15) rfl ?_
    show Steps p.tables e below (s₁.setTop (mkF m 16 #[.val (.int x0), .val (.int x1), .val (.int x2), .val (.int x3), .val (.int x4), .val (.int nn), .val (.int i0), .val (.int i1), .unset, .unset, .unset, .unset, .unset, .unset, .unset, .unset, .unset, .unset] [(.int x3)])) _
    refine XS.iconst X0.here hx rfl (hb hby at_16) ?_
    show Steps p.tables e below (s₁.setTop (mkF m 17 #[.val (.int x0), .val (.int x1), .val (.int x2), .val (.int x3), .val (.int x4), .val (.int nn), .val (.int i0), .val (.int i1), .unset, .unset, .unset, .unset, .unset, .unset, .unset, .unset, .unset, .unset] [(.int (1 : Int32)), (.int x3)])) _
    refine XS.iand X0.here hx rfl (hb hby at_17) rfl ?_
    show Steps p.tables e below (s₁.setTop (mkF m 18 #[.val (.int x0), .val (.int x1), .val (.int x2), .val (.int x3), .val (.int x4), .val (.int nn), .val (.int i0), .val (.int i1), .unset, .unset, .unset, .unset, .unset, .unset, .unset, .unset, .unset, .unset] [(.int (x3 &&& (1 : Int32)))])) _
    exact k
  obtain ⟨i2, h_i2⟩ : ∃ z : Int32, z = (x3 &&& (1 : Int32)) := ⟨_, rfl⟩
  have pre8 : Go p e below (s₁.setTop (entryFrame m #[(.int x0), (.int x1), (.int x2), (.int x3), (.int x4)] maxLocals)) (s₁.setTop (mkF m 18 #[.val (.int x0), .val (.int x1), .val (.int x2), .val (.int x3), .val (.int x4), .val (.int nn), .val (.int i0), .val (.int i1), .unset, .unset, .unset, .unset, .unset, .unset, .unset, .unset, .unset, .unset] [(.int i2)])) := by rw [h_i2]; exact pre7
  have hi2 := own_bit x3; rw [← h_i2] at hi2
  have pre9 : Go p e below (s₁.setTop (entryFrame m #[(.int x0), (.int x1), (.int x2), (.int x3), (.int x4)] maxLocals)) (s₁.setTop (mkF m 21 #[.val (.int x0), .val (.int x1), .val (.int x2), .val (.int x3), .val (.int x4), .val (.int nn), .val (.int i0), .val (.int i1), .val (.int i2), .unset, .unset, .unset, .unset, .unset, .unset, .unset, .unset, .unset] [(.int x1)])) := by
    intro t k
    refine pre8 t ?_
    show Steps p.tables e below (s₁.setTop (mkF m 18 #[.val (.int x0), .val (.int x1), .val (.int x2), .val (.int x3), .val (.int x4), .val (.int nn), .val (.int i0), .val (.int i1), .unset, .unset, .unset, .unset, .unset, .unset, .unset, .unset, .unset, .unset] [(.int i2)])) _
    refine XS.istore X0.here hx rfl (hb hby at_18) rfl (l' := #[.val (.int x0), .val (.int x1), .val (.int x2), .val (.int x3), .val (.int x4), .val (.int nn), .val (.int i0), .val (.int i1), .val (.int i2), .unset, .unset, .unset, .unset, .unset, .unset, .unset, .unset, .unset]) rfl ?_
    show Steps p.tables e below (s₁.setTop (mkF m 20 #[.val (.int x0), .val (.int x1), .val (.int x2), .val (.int x3), .val (.int x4), .val (.int nn), .val (.int i0), .val (.int i1), .val (.int i2), .unset, .unset, .unset, .unset, .unset, .unset, .unset, .unset, .unset] [])) _
    refine XS.iloadN X0.here hx rfl (hb hby at_20) rfl ?_
    show Steps p.tables e below (s₁.setTop (mkF m 21 #[.val (.int x0), .val (.int x1), .val (.int x2), .val (.int x3), .val (.int x4), .val (.int nn), .val (.int i0), .val (.int i1), .val (.int i2), .unset, .unset, .unset, .unset, .unset, .unset, .unset, .unset, .unset] [(.int x1)])) _
    exact k
  obtain ⟨_, _, ⟨T10, L10, k10, n10⟩, -, X10, ⟨Lc10, hQ10, l10, y10, z10⟩, st10⟩ := Jvm.LawKit.callS X0 hx (y := (⟨"lightbin/RunValidityPinLaw", "out", "(I)I"⟩ : MethodName)) hown (mvT hZ (hw _ (List.mem_of_getElem? (i := 0) rfl))) (mvT hZ (hw _ (List.mem_of_getElem? (i := 1) rfl))) (mvT hZ (hw _ (List.mem_of_getElem? (i := 2) rfl))) (mvT hZ (hw _ (List.mem_of_getElem? (i := 3) rfl))) (by decide) (backOf (W := 0) (rm1 l Z a0 hw [] x1  h0 n0 Z0 ) hZ (hw _ (List.mem_of_getElem? (i := 3) rfl)) (hw _ (List.mem_of_getElem? (i := 2) rfl)) (by decide) (by decide)) (g := (mkF m 21 #[.val (.int x0), .val (.int x1), .val (.int x2), .val (.int x3), .val (.int x4), .val (.int nn), .val (.int i0), .val (.int i1), .val (.int i2), .unset, .unset, .unset, .unset, .unset, .unset, .unset, .unset, .unset] [(.int x1)])) rfl (by rw [hml]; rfl) (argsL := [(.int x1)]) (rest := []) (lenOf pd_6 rfl) rfl (by show 2 * 0 + _ ≤ _; exact Nat.le_of_eq rfl) (hb hby at_21) (fun _ _ => ⟨rfl, e0, (by decide : 0 + 0 ≤ _), (by decide : 0 + 0 ≤ _)⟩)
  dsimp only [Pt.U, Pt.locs, Pt.cells, Pt.slots] at X10 l10 y10 z10 st10 hQ10
  subst l10 y10 z10
  obtain ⟨rfl, N10q, hh10⟩ := hQ10
  have N10 := Fr.app N0 N10q
  have pre11 : Go p e below (s₁.setTop (entryFrame m #[(.int x0), (.int x1), (.int x2), (.int x3), (.int x4)] maxLocals)) (T10.setTop (mkF m 24 #[.val (.int x0), .val (.int x1), .val (.int x2), .val (.int x3), .val (.int x4), .val (.int nn), .val (.int i0), .val (.int i1), .val (.int i2), .unset, .unset, .unset, .unset, .unset, .unset, .unset, .unset, .unset] [(.int (fout x1))])) := fun t k => pre9 t (st10 t k)
  obtain ⟨o0, h_o0⟩ : ∃ z : Int32, z = (fout x1) := ⟨_, rfl⟩
  have pre12 : Go p e below (s₁.setTop (entryFrame m #[(.int x0), (.int x1), (.int x2), (.int x3), (.int x4)] maxLocals)) (T10.setTop (mkF m 24 #[.val (.int x0), .val (.int x1), .val (.int x2), .val (.int x3), .val (.int x4), .val (.int nn), .val (.int i0), .val (.int i1), .val (.int i2), .unset, .unset, .unset, .unset, .unset, .unset, .unset, .unset, .unset] [(.int o0)])) := by rw [h_o0]; exact pre11
  have ho0 := own_out x1; rw [← h_o0] at ho0
  have pre13 : Go p e below (s₁.setTop (entryFrame m #[(.int x0), (.int x1), (.int x2), (.int x3), (.int x4)] maxLocals)) (T10.setTop (mkF m 27 #[.val (.int x0), .val (.int x1), .val (.int x2), .val (.int x3), .val (.int x4), .val (.int nn), .val (.int i0), .val (.int i1), .val (.int i2), .val (.int o0), .unset, .unset, .unset, .unset, .unset, .unset, .unset, .unset] [(.int x2)])) := by
    intro t k
    refine pre12 t ?_
    show Steps p.tables e below (T10.setTop (mkF m 24 #[.val (.int x0), .val (.int x1), .val (.int x2), .val (.int x3), .val (.int x4), .val (.int nn), .val (.int i0), .val (.int i1), .val (.int i2), .unset, .unset, .unset, .unset, .unset, .unset, .unset, .unset, .unset] [(.int o0)])) _
    refine XS.istore X10.here hx rfl (hb hby at_24) rfl (l' := #[.val (.int x0), .val (.int x1), .val (.int x2), .val (.int x3), .val (.int x4), .val (.int nn), .val (.int i0), .val (.int i1), .val (.int i2), .val (.int o0), .unset, .unset, .unset, .unset, .unset, .unset, .unset, .unset]) rfl ?_
    show Steps p.tables e below (T10.setTop (mkF m 26 #[.val (.int x0), .val (.int x1), .val (.int x2), .val (.int x3), .val (.int x4), .val (.int nn), .val (.int i0), .val (.int i1), .val (.int i2), .val (.int o0), .unset, .unset, .unset, .unset, .unset, .unset, .unset, .unset] [])) _
    refine XS.iloadN X10.here hx rfl (hb hby at_26) rfl ?_
    show Steps p.tables e below (T10.setTop (mkF m 27 #[.val (.int x0), .val (.int x1), .val (.int x2), .val (.int x3), .val (.int x4), .val (.int nn), .val (.int i0), .val (.int i1), .val (.int i2), .val (.int o0), .unset, .unset, .unset, .unset, .unset, .unset, .unset, .unset] [(.int x2)])) _
    exact k
  obtain ⟨_, _, ⟨T14, L14, k14, n14⟩, -, X14, ⟨Lc14, hQ14, l14, y14, z14⟩, st14⟩ := Jvm.LawKit.callS X10 hx (y := (⟨"lightbin/RunValidityPinLaw", "out", "(I)I"⟩ : MethodName)) hown (mvT hZ (hw _ (List.mem_of_getElem? (i := 0) rfl))) (mvT hZ (hw _ (List.mem_of_getElem? (i := 1) rfl))) (mvT hZ (hw _ (List.mem_of_getElem? (i := 2) rfl))) (mvT hZ (hw _ (List.mem_of_getElem? (i := 3) rfl))) (by decide) (backOf (W := 0) (rm1 l Z a0 hw [] x2  h0 n0 Z0 ) hZ (hw _ (List.mem_of_getElem? (i := 3) rfl)) (hw _ (List.mem_of_getElem? (i := 2) rfl)) (by decide) (by decide)) (g := (mkF m 27 #[.val (.int x0), .val (.int x1), .val (.int x2), .val (.int x3), .val (.int x4), .val (.int nn), .val (.int i0), .val (.int i1), .val (.int i2), .val (.int o0), .unset, .unset, .unset, .unset, .unset, .unset, .unset, .unset] [(.int x2)])) rfl (by rw [hml]; rfl) (argsL := [(.int x2)]) (rest := []) (lenOf pd_6 rfl) rfl (by show 2 * 0 + _ ≤ _; exact Nat.le_of_eq rfl) (hb hby at_27) (fun _ _ => ⟨rfl, hh10, (by decide : 0 + 0 ≤ _), (by decide : 0 + 0 ≤ _)⟩)
  dsimp only [Pt.U, Pt.locs, Pt.cells, Pt.slots] at X14 l14 y14 z14 st14 hQ14
  subst l14 y14 z14
  obtain ⟨rfl, N14q, hh14⟩ := hQ14
  have N14 := Fr.app N10 N14q
  have pre15 : Go p e below (s₁.setTop (entryFrame m #[(.int x0), (.int x1), (.int x2), (.int x3), (.int x4)] maxLocals)) (T14.setTop (mkF m 30 #[.val (.int x0), .val (.int x1), .val (.int x2), .val (.int x3), .val (.int x4), .val (.int nn), .val (.int i0), .val (.int i1), .val (.int i2), .val (.int o0), .unset, .unset, .unset, .unset, .unset, .unset, .unset, .unset] [(.int (fout x2))])) := fun t k => pre13 t (st14 t k)
  obtain ⟨o1, h_o1⟩ : ∃ z : Int32, z = (fout x2) := ⟨_, rfl⟩
  have pre16 : Go p e below (s₁.setTop (entryFrame m #[(.int x0), (.int x1), (.int x2), (.int x3), (.int x4)] maxLocals)) (T14.setTop (mkF m 30 #[.val (.int x0), .val (.int x1), .val (.int x2), .val (.int x3), .val (.int x4), .val (.int nn), .val (.int i0), .val (.int i1), .val (.int i2), .val (.int o0), .unset, .unset, .unset, .unset, .unset, .unset, .unset, .unset] [(.int o1)])) := by rw [h_o1]; exact pre15
  have ho1 := own_out x2; rw [← h_o1] at ho1
  have pre17 : Go p e below (s₁.setTop (entryFrame m #[(.int x0), (.int x1), (.int x2), (.int x3), (.int x4)] maxLocals)) (T14.setTop (mkF m 33 #[.val (.int x0), .val (.int x1), .val (.int x2), .val (.int x3), .val (.int x4), .val (.int nn), .val (.int i0), .val (.int i1), .val (.int i2), .val (.int o0), .val (.int o1), .unset, .unset, .unset, .unset, .unset, .unset, .unset] [(.int x3)])) := by
    intro t k
    refine pre16 t ?_
    show Steps p.tables e below (T14.setTop (mkF m 30 #[.val (.int x0), .val (.int x1), .val (.int x2), .val (.int x3), .val (.int x4), .val (.int nn), .val (.int i0), .val (.int i1), .val (.int i2), .val (.int o0), .unset, .unset, .unset, .unset, .unset, .unset, .unset, .unset] [(.int o1)])) _
    refine XS.istore X14.here hx rfl (hb hby at_30) rfl (l' := #[.val (.int x0), .val (.int x1), .val (.int x2), .val (.int x3), .val (.int x4), .val (.int nn), .val (.int i0), .val (.int i1), .val (.int i2), .val (.int o0), .val (.int o1), .unset, .unset, .unset, .unset, .unset, .unset, .unset]) rfl ?_
    show Steps p.tables e below (T14.setTop (mkF m 32 #[.val (.int x0), .val (.int x1), .val (.int x2), .val (.int x3), .val (.int x4), .val (.int nn), .val (.int i0), .val (.int i1), .val (.int i2), .val (.int o0), .val (.int o1), .unset, .unset, .unset, .unset, .unset, .unset, .unset] [])) _
    refine XS.iloadN X14.here hx rfl (hb hby at_32) rfl ?_
    show Steps p.tables e below (T14.setTop (mkF m 33 #[.val (.int x0), .val (.int x1), .val (.int x2), .val (.int x3), .val (.int x4), .val (.int nn), .val (.int i0), .val (.int i1), .val (.int i2), .val (.int o0), .val (.int o1), .unset, .unset, .unset, .unset, .unset, .unset, .unset] [(.int x3)])) _
    exact k
  obtain ⟨_, _, ⟨T18, L18, k18, n18⟩, -, X18, ⟨Lc18, hQ18, l18, y18, z18⟩, st18⟩ := Jvm.LawKit.callS X14 hx (y := (⟨"lightbin/RunValidityPinLaw", "out", "(I)I"⟩ : MethodName)) hown (mvT hZ (hw _ (List.mem_of_getElem? (i := 0) rfl))) (mvT hZ (hw _ (List.mem_of_getElem? (i := 1) rfl))) (mvT hZ (hw _ (List.mem_of_getElem? (i := 2) rfl))) (mvT hZ (hw _ (List.mem_of_getElem? (i := 3) rfl))) (by decide) (backOf (W := 0) (rm1 l Z a0 hw [] x3  h0 n0 Z0 ) hZ (hw _ (List.mem_of_getElem? (i := 3) rfl)) (hw _ (List.mem_of_getElem? (i := 2) rfl)) (by decide) (by decide)) (g := (mkF m 33 #[.val (.int x0), .val (.int x1), .val (.int x2), .val (.int x3), .val (.int x4), .val (.int nn), .val (.int i0), .val (.int i1), .val (.int i2), .val (.int o0), .val (.int o1), .unset, .unset, .unset, .unset, .unset, .unset, .unset] [(.int x3)])) rfl (by rw [hml]; rfl) (argsL := [(.int x3)]) (rest := []) (lenOf pd_6 rfl) rfl (by show 2 * 0 + _ ≤ _; exact Nat.le_of_eq rfl) (hb hby at_33) (fun _ _ => ⟨rfl, hh14, (by decide : 0 + 0 ≤ _), (by decide : 0 + 0 ≤ _)⟩)
  dsimp only [Pt.U, Pt.locs, Pt.cells, Pt.slots] at X18 l18 y18 z18 st18 hQ18
  subst l18 y18 z18
  obtain ⟨rfl, N18q, hh18⟩ := hQ18
  have N18 := Fr.app N14 N18q
  have pre19 : Go p e below (s₁.setTop (entryFrame m #[(.int x0), (.int x1), (.int x2), (.int x3), (.int x4)] maxLocals)) (T18.setTop (mkF m 36 #[.val (.int x0), .val (.int x1), .val (.int x2), .val (.int x3), .val (.int x4), .val (.int nn), .val (.int i0), .val (.int i1), .val (.int i2), .val (.int o0), .val (.int o1), .unset, .unset, .unset, .unset, .unset, .unset, .unset] [(.int (fout x3))])) := fun t k => pre17 t (st18 t k)
  obtain ⟨o2, h_o2⟩ : ∃ z : Int32, z = (fout x3) := ⟨_, rfl⟩
  have pre20 : Go p e below (s₁.setTop (entryFrame m #[(.int x0), (.int x1), (.int x2), (.int x3), (.int x4)] maxLocals)) (T18.setTop (mkF m 36 #[.val (.int x0), .val (.int x1), .val (.int x2), .val (.int x3), .val (.int x4), .val (.int nn), .val (.int i0), .val (.int i1), .val (.int i2), .val (.int o0), .val (.int o1), .unset, .unset, .unset, .unset, .unset, .unset, .unset] [(.int o2)])) := by rw [h_o2]; exact pre19
  have ho2 := own_out x3; rw [← h_o2] at ho2
  have pre21 : Go p e below (s₁.setTop (entryFrame m #[(.int x0), (.int x1), (.int x2), (.int x3), (.int x4)] maxLocals)) (T18.setTop (mkF m 38 #[.val (.int x0), .val (.int x1), .val (.int x2), .val (.int x3), .val (.int x4), .val (.int nn), .val (.int i0), .val (.int i1), .val (.int i2), .val (.int o0), .val (.int o1), .val (.int o2), .unset, .unset, .unset, .unset, .unset, .unset] [])) := by
    intro t k
    refine pre20 t ?_
    show Steps p.tables e below (T18.setTop (mkF m 36 #[.val (.int x0), .val (.int x1), .val (.int x2), .val (.int x3), .val (.int x4), .val (.int nn), .val (.int i0), .val (.int i1), .val (.int i2), .val (.int o0), .val (.int o1), .unset, .unset, .unset, .unset, .unset, .unset, .unset] [(.int o2)])) _
    refine XS.istore X18.here hx rfl (hb hby at_36) rfl (l' := #[.val (.int x0), .val (.int x1), .val (.int x2), .val (.int x3), .val (.int x4), .val (.int nn), .val (.int i0), .val (.int i1), .val (.int i2), .val (.int o0), .val (.int o1), .val (.int o2), .unset, .unset, .unset, .unset, .unset, .unset]) rfl ?_
    show Steps p.tables e below (T18.setTop (mkF m 38 #[.val (.int x0), .val (.int x1), .val (.int x2), .val (.int x3), .val (.int x4), .val (.int nn), .val (.int i0), .val (.int i1), .val (.int i2), .val (.int o0), .val (.int o1), .val (.int o2), .unset, .unset, .unset, .unset, .unset, .unset] [])) _
    exact k
  obtain ⟨T22, h22, X22, e22, E22, A22, D22, -, st22⟩ := newO X18 hx hZ hown (hw _ (List.mem_of_getElem? (i := 4) rfl)) (hw _ (List.mem_of_getElem? (i := 5) rfl)) (hw _ (List.mem_of_getElem? (i := 6) rfl)) hh18 (g := (mkF m 38 #[.val (.int x0), .val (.int x1), .val (.int x2), .val (.int x3), .val (.int x4), .val (.int nn), .val (.int i0), .val (.int i1), .val (.int i2), .val (.int o0), .val (.int o1), .val (.int o2), .unset, .unset, .unset, .unset, .unset, .unset] [])) rfl (hb hby at_38) (by decide) (by decide)
  obtain ⟨b1, g22⟩ : ∃ z, z = h0.size := ⟨_, rfl⟩
  rw [← g22] at A22 D22 st22
  have zz23 := (Nat.le_trans Z0 E22.1)
  have F_firstInput_b1 : Fld Z h22 b1 "lightbin/AgreementResult$Run" "firstInput" "I" (.int (0 : Int32)) := D22 (Or.inl (hw _ (List.mem_of_getElem? (i := 14) rfl))) (ty := .int) (by decide)
  have F_inputsEqual_b1 : Fld Z h22 b1 "lightbin/AgreementResult$Run" "inputsEqual" "Z" (.int (0 : Int32)) := D22 (Or.inl (hw _ (List.mem_of_getElem? (i := 16) rfl))) (ty := .boolean) (by decide)
  have F_ones_b1 : Fld Z h22 b1 "lightbin/AgreementResult$Run" "ones" "I" (.int (0 : Int32)) := D22 (Or.inl (hw _ (List.mem_of_getElem? (i := 23) rfl))) (ty := .int) (by decide)
  have F_nodes_b1 : Fld Z h22 b1 "lightbin/AgreementResult$Run" "nodes" "I" (.int (0 : Int32)) := D22 (Or.inl (hw _ (List.mem_of_getElem? (i := 30) rfl))) (ty := .int) (by decide)
  have F_decisionRound_b1 : Fld Z h22 b1 "lightbin/AgreementResult$Run" "decisionRound" "I" (.int (0 : Int32)) := D22 (Or.inl (hw _ (List.mem_of_getElem? (i := 32) rfl))) (ty := .int) (by decide)
  have F_zeros_b1 : Fld Z h22 b1 "lightbin/AgreementResult$Run" "zeros" "I" (.int (0 : Int32)) := D22 (Or.inl (hw _ (List.mem_of_getElem? (i := 38) rfl))) (ty := .int) (by decide)
  have g_b1 : n0 ≤ b1 := Nat.le_trans Z0 (Nat.le_of_eq g22.symm)
  have pre24 : Go p e below (s₁.setTop (entryFrame m #[(.int x0), (.int x1), (.int x2), (.int x3), (.int x4)] maxLocals)) (T22.setTop (mkF m 41 #[.val (.int x0), .val (.int x1), .val (.int x2), .val (.int x3), .val (.int x4), .val (.int nn), .val (.int i0), .val (.int i1), .val (.int i2), .val (.int o0), .val (.int o1), .val (.int o2), .unset, .unset, .unset, .unset, .unset, .unset] [(.ref b1)])) := fun t k => pre21 t (st22 t k)
  have pre25 : Go p e below (s₁.setTop (entryFrame m #[(.int x0), (.int x1), (.int x2), (.int x3), (.int x4)] maxLocals)) (T22.setTop (mkF m 42 #[.val (.int x0), .val (.int x1), .val (.int x2), .val (.int x3), .val (.int x4), .val (.int nn), .val (.int i0), .val (.int i1), .val (.int i2), .val (.int o0), .val (.int o1), .val (.int o2), .unset, .unset, .unset, .unset, .unset, .unset] [(.ref b1), (.ref b1)])) := by
    intro t k
    refine pre24 t ?_
    show Steps p.tables e below (T22.setTop (mkF m 41 #[.val (.int x0), .val (.int x1), .val (.int x2), .val (.int x3), .val (.int x4), .val (.int nn), .val (.int i0), .val (.int i1), .val (.int i2), .val (.int o0), .val (.int o1), .val (.int o2), .unset, .unset, .unset, .unset, .unset, .unset] [(.ref b1)])) _
    refine XS.dup X22.here hx rfl (hb hby at_41) rfl rfl ?_
    show Steps p.tables e below (T22.setTop (mkF m 42 #[.val (.int x0), .val (.int x1), .val (.int x2), .val (.int x3), .val (.int x4), .val (.int nn), .val (.int i0), .val (.int i1), .val (.int i2), .val (.int o0), .val (.int o1), .val (.int o2), .unset, .unset, .unset, .unset, .unset, .unset] [(.ref b1), (.ref b1)])) _
    exact k
  obtain ⟨_, _, ⟨T26, L26, k26, n26⟩, -, X26, ⟨Lc26, hQ26, l26, y26, z26⟩, st26⟩ := X22.specialBack hx (y := (⟨"lightbin/AgreementResult$Run", "<init>", "()V"⟩ : MethodName)) rfl hown (mvT hZ (hw _ (List.mem_of_getElem? (i := 7) rfl))) (mvT hZ (hw _ (List.mem_of_getElem? (i := 8) rfl))) (mvT hZ (hw _ (List.mem_of_getElem? (i := 9) rfl))) (by decide) (backOf (W := 1) (rm2 l Z a0 hw [] b1  h22 n0 zz23 A22 F_firstInput_b1 F_inputsEqual_b1 F_nodes_b1 F_ones_b1 F_zeros_b1 F_decisionRound_b1 g_b1) hZ (hw _ (List.mem_of_getElem? (i := 9) rfl)) (hw _ (List.mem_of_getElem? (i := 6) rfl)) (by decide) (by decide)) (g := (mkF m 42 #[.val (.int x0), .val (.int x1), .val (.int x2), .val (.int x3), .val (.int x4), .val (.int nn), .val (.int i0), .val (.int i1), .val (.int i2), .val (.int o0), .val (.int o1), .val (.int o2), .unset, .unset, .unset, .unset, .unset, .unset] [(.ref b1), (.ref b1)])) rfl (by rw [hml]; rfl) (Steps.refl _) (a := b1) (argsL := []) (rest := [(.ref b1)]) (lenOf pd_7 rfl) rfl (by show 2 * 0 + _ ≤ _; exact Nat.le_of_eq rfl) (hb hby at_42) (fun _ _ => ⟨rfl, e22, (by decide : 1 + 0 ≤ _), (by decide : 6 + 0 ≤ _)⟩)
  dsimp only [Pt.U, Pt.locs, Pt.cells, Pt.slots] at X26 l26 y26 z26 st26 hQ26
  subst l26 y26 z26
  obtain ⟨rfl, N26q, K26, R26⟩ := hQ26
  have N26 := Fr.app N18 N26q
  obtain ⟨X26e_b1, F26_firstInput_b1, F26_inputsEqual_b1, F26_nodes_b1, F26_ones_b1, F26_zeros_b1, F26_decisionRound_b1⟩ := R26
  have kc27 := A22.keep K26
  have zz28 := Nat.le_trans zz23 K26.1
  have pre29 : Go p e below (s₁.setTop (entryFrame m #[(.int x0), (.int x1), (.int x2), (.int x3), (.int x4)] maxLocals)) (T26.setTop (mkF m 45 #[.val (.int x0), .val (.int x1), .val (.int x2), .val (.int x3), .val (.int x4), .val (.int nn), .val (.int i0), .val (.int i1), .val (.int i2), .val (.int o0), .val (.int o1), .val (.int o2), .unset, .unset, .unset, .unset, .unset, .unset] [(.ref b1)])) := fun t k => pre25 t (st26.trans k)
  have pre30 : Go p e below (s₁.setTop (entryFrame m #[(.int x0), (.int x1), (.int x2), (.int x3), (.int x4)] maxLocals)) (T26.setTop (mkF m 50 #[.val (.int x0), .val (.int x1), .val (.int x2), .val (.int x3), .val (.int x4), .val (.int nn), .val (.int i0), .val (.int i1), .val (.int i2), .val (.int o0), .val (.int o1), .val (.int o2), .val (.ref b1), .unset, .unset, .unset, .unset, .unset] [(.int (1 : Int32)), (.int nn)])) := by
    intro t k
    refine pre29 t ?_
    show Steps p.tables e below (T26.setTop (mkF m 45 #[.val (.int x0), .val (.int x1), .val (.int x2), .val (.int x3), .val (.int x4), .val (.int nn), .val (.int i0), .val (.int i1), .val (.int i2), .val (.int o0), .val (.int o1), .val (.int o2), .unset, .unset, .unset, .unset, .unset, .unset] [(.ref b1)])) _
    refine XS.astore X26.here hx rfl (hb hby at_45) rfl rfl (l' := #[.val (.int x0), .val (.int x1), .val (.int x2), .val (.int x3), .val (.int x4), .val (.int nn), .val (.int i0), .val (.int i1), .val (.int i2), .val (.int o0), .val (.int o1), .val (.int o2), .val (.ref b1), .unset, .unset, .unset, .unset, .unset]) rfl ?_
    show Steps p.tables e below (T26.setTop (mkF m 47 #[.val (.int x0), .val (.int x1), .val (.int x2), .val (.int x3), .val (.int x4), .val (.int nn), .val (.int i0), .val (.int i1), .val (.int i2), .val (.int o0), .val (.int o1), .val (.int o2), .val (.ref b1), .unset, .unset, .unset, .unset, .unset] [])) _
    refine XS.iload X26.here hx rfl (hb hby at_47) rfl ?_
    show Steps p.tables e below (T26.setTop (mkF m 49 #[.val (.int x0), .val (.int x1), .val (.int x2), .val (.int x3), .val (.int x4), .val (.int nn), .val (.int i0), .val (.int i1), .val (.int i2), .val (.int o0), .val (.int o1), .val (.int o2), .val (.ref b1), .unset, .unset, .unset, .unset, .unset] [(.int nn)])) _
    refine XS.iconst X26.here hx rfl (hb hby at_49) ?_
    show Steps p.tables e below (T26.setTop (mkF m 50 #[.val (.int x0), .val (.int x1), .val (.int x2), .val (.int x3), .val (.int x4), .val (.int nn), .val (.int i0), .val (.int i1), .val (.int i2), .val (.int o0), .val (.int o1), .val (.int o2), .val (.ref b1), .unset, .unset, .unset, .unset, .unset] [(.int (1 : Int32)), (.int nn)])) _
    exact k
  by_cases hc50_31 : nn < (1 : Int32)
  · skip
    have pre32 : Go p e below (s₁.setTop (entryFrame m #[(.int x0), (.int x1), (.int x2), (.int x3), (.int x4)] maxLocals)) (T26.setTop (mkF m 67 #[.val (.int x0), .val (.int x1), .val (.int x2), .val (.int x3), .val (.int x4), .val (.int nn), .val (.int i0), .val (.int i1), .val (.int i2), .val (.int o0), .val (.int o1), .val (.int o2), .val (.ref b1), .unset, .unset, .unset, .unset, .unset] [(.int (2 : Int32)), (.int nn)])) := by
      intro t k
      refine pre30 t ?_
      show Steps p.tables e below (T26.setTop (mkF m 50 #[.val (.int x0), .val (.int x1), .val (.int x2), .val (.int x3), .val (.int x4), .val (.int nn), .val (.int i0), .val (.int i1), .val (.int i2), .val (.int o0), .val (.int o1), .val (.int o2), .val (.ref b1), .unset, .unset, .unset, .unset, .unset] [(.int (1 : Int32)), (.int nn)])) _
      refine XS.icmpYes X26.here hx rfl (pc0 := 50) (pc' := 64) rfl (hb hby at_50) rfl (XT.ii_lt_t hc50_31) (by decide) (by decide) ?_
      show Steps p.tables e below (T26.setTop (mkF m 64 #[.val (.int x0), .val (.int x1), .val (.int x2), .val (.int x3), .val (.int x4), .val (.int nn), .val (.int i0), .val (.int i1), .val (.int i2), .val (.int o0), .val (.int o1), .val (.int o2), .val (.ref b1), .unset, .unset, .unset, .unset, .unset] [])) _
      refine XS.iload X26.here hx rfl (hb hby at_64) rfl ?_
      show Steps p.tables e below (T26.setTop (mkF m 66 #[.val (.int x0), .val (.int x1), .val (.int x2), .val (.int x3), .val (.int x4), .val (.int nn), .val (.int i0), .val (.int i1), .val (.int i2), .val (.int o0), .val (.int o1), .val (.int o2), .val (.ref b1), .unset, .unset, .unset, .unset, .unset] [(.int nn)])) _
      refine XS.iconst X26.here hx rfl (hb hby at_66) ?_
      show Steps p.tables e below (T26.setTop (mkF m 67 #[.val (.int x0), .val (.int x1), .val (.int x2), .val (.int x3), .val (.int x4), .val (.int nn), .val (.int i0), .val (.int i1), .val (.int i2), .val (.int o0), .val (.int o1), .val (.int o2), .val (.ref b1), .unset, .unset, .unset, .unset, .unset] [(.int (2 : Int32)), (.int nn)])) _
      exact k
    have hc67_33 : nn < (2 : Int32) := by
      have q := hc50_31; rw [Int32.lt_iff_toInt_lt] at q ⊢; have c1 : (1 : Int32).toInt = 1 := rfl; have c2 : (2 : Int32).toInt = 2 := rfl; omega
    have pre34 : Go p e below (s₁.setTop (entryFrame m #[(.int x0), (.int x1), (.int x2), (.int x3), (.int x4)] maxLocals)) (T26.setTop (mkF m 84 #[.val (.int x0), .val (.int x1), .val (.int x2), .val (.int x3), .val (.int x4), .val (.int nn), .val (.int i0), .val (.int i1), .val (.int i2), .val (.int o0), .val (.int o1), .val (.int o2), .val (.ref b1), .unset, .unset, .unset, .unset, .unset] [(.int (3 : Int32)), (.int nn)])) := by
      intro t k
      refine pre32 t ?_
      show Steps p.tables e below (T26.setTop (mkF m 67 #[.val (.int x0), .val (.int x1), .val (.int x2), .val (.int x3), .val (.int x4), .val (.int nn), .val (.int i0), .val (.int i1), .val (.int i2), .val (.int o0), .val (.int o1), .val (.int o2), .val (.ref b1), .unset, .unset, .unset, .unset, .unset] [(.int (2 : Int32)), (.int nn)])) _
      refine XS.icmpYes X26.here hx rfl (pc0 := 67) (pc' := 81) rfl (hb hby at_67) rfl (XT.ii_lt_t hc67_33) (by decide) (by decide) ?_
      show Steps p.tables e below (T26.setTop (mkF m 81 #[.val (.int x0), .val (.int x1), .val (.int x2), .val (.int x3), .val (.int x4), .val (.int nn), .val (.int i0), .val (.int i1), .val (.int i2), .val (.int o0), .val (.int o1), .val (.int o2), .val (.ref b1), .unset, .unset, .unset, .unset, .unset] [])) _
      refine XS.iload X26.here hx rfl (hb hby at_81) rfl ?_
      show Steps p.tables e below (T26.setTop (mkF m 83 #[.val (.int x0), .val (.int x1), .val (.int x2), .val (.int x3), .val (.int x4), .val (.int nn), .val (.int i0), .val (.int i1), .val (.int i2), .val (.int o0), .val (.int o1), .val (.int o2), .val (.ref b1), .unset, .unset, .unset, .unset, .unset] [(.int nn)])) _
      refine XS.iconst X26.here hx rfl (hb hby at_83) ?_
      show Steps p.tables e below (T26.setTop (mkF m 84 #[.val (.int x0), .val (.int x1), .val (.int x2), .val (.int x3), .val (.int x4), .val (.int nn), .val (.int i0), .val (.int i1), .val (.int i2), .val (.int o0), .val (.int o1), .val (.int o2), .val (.ref b1), .unset, .unset, .unset, .unset, .unset] [(.int (3 : Int32)), (.int nn)])) _
      exact k
    have hc84_35 : nn < (3 : Int32) := by
      have q := hc67_33; rw [Int32.lt_iff_toInt_lt] at q ⊢; have c1 : (3 : Int32).toInt = 3 := rfl; have c2 : (2 : Int32).toInt = 2 := rfl; omega
    have pre36 : Go p e below (s₁.setTop (entryFrame m #[(.int x0), (.int x1), (.int x2), (.int x3), (.int x4)] maxLocals)) (T26.setTop (mkF m 101 #[.val (.int x0), .val (.int x1), .val (.int x2), .val (.int x3), .val (.int x4), .val (.int nn), .val (.int i0), .val (.int i1), .val (.int i2), .val (.int o0), .val (.int o1), .val (.int o2), .val (.ref b1), .unset, .unset, .unset, .unset, .unset] [(.int (2 : Int32)), (.int nn)])) := by
      intro t k
      refine pre34 t ?_
      show Steps p.tables e below (T26.setTop (mkF m 84 #[.val (.int x0), .val (.int x1), .val (.int x2), .val (.int x3), .val (.int x4), .val (.int nn), .val (.int i0), .val (.int i1), .val (.int i2), .val (.int o0), .val (.int o1), .val (.int o2), .val (.ref b1), .unset, .unset, .unset, .unset, .unset] [(.int (3 : Int32)), (.int nn)])) _
      refine XS.icmpYes X26.here hx rfl (pc0 := 84) (pc' := 98) rfl (hb hby at_84) rfl (XT.ii_lt_t hc84_35) (by decide) (by decide) ?_
      show Steps p.tables e below (T26.setTop (mkF m 98 #[.val (.int x0), .val (.int x1), .val (.int x2), .val (.int x3), .val (.int x4), .val (.int nn), .val (.int i0), .val (.int i1), .val (.int i2), .val (.int o0), .val (.int o1), .val (.int o2), .val (.ref b1), .unset, .unset, .unset, .unset, .unset] [])) _
      refine XS.iload X26.here hx rfl (hb hby at_98) rfl ?_
      show Steps p.tables e below (T26.setTop (mkF m 100 #[.val (.int x0), .val (.int x1), .val (.int x2), .val (.int x3), .val (.int x4), .val (.int nn), .val (.int i0), .val (.int i1), .val (.int i2), .val (.int o0), .val (.int o1), .val (.int o2), .val (.ref b1), .unset, .unset, .unset, .unset, .unset] [(.int nn)])) _
      refine XS.iconst X26.here hx rfl (hb hby at_100) ?_
      show Steps p.tables e below (T26.setTop (mkF m 101 #[.val (.int x0), .val (.int x1), .val (.int x2), .val (.int x3), .val (.int x4), .val (.int nn), .val (.int i0), .val (.int i1), .val (.int i2), .val (.int o0), .val (.int o1), .val (.int o2), .val (.ref b1), .unset, .unset, .unset, .unset, .unset] [(.int (2 : Int32)), (.int nn)])) _
      exact k
    have pre37 : Go p e below (s₁.setTop (entryFrame m #[(.int x0), (.int x1), (.int x2), (.int x3), (.int x4)] maxLocals)) (T26.setTop (mkF m 129 #[.val (.int x0), .val (.int x1), .val (.int x2), .val (.int x3), .val (.int x4), .val (.int nn), .val (.int i0), .val (.int i1), .val (.int i2), .val (.int o0), .val (.int o1), .val (.int o2), .val (.ref b1), .unset, .unset, .unset, .unset, .unset] [(.int (1 : Int32))])) := by
      intro t k
      refine pre36 t ?_
      show Steps p.tables e below (T26.setTop (mkF m 101 #[.val (.int x0), .val (.int x1), .val (.int x2), .val (.int x3), .val (.int x4), .val (.int nn), .val (.int i0), .val (.int i1), .val (.int i2), .val (.int o0), .val (.int o1), .val (.int o2), .val (.ref b1), .unset, .unset, .unset, .unset, .unset] [(.int (2 : Int32)), (.int nn)])) _
      refine XS.icmpYes X26.here hx rfl (pc0 := 101) (pc' := 111) rfl (hb hby at_101) rfl (XT.ii_lt_t hc67_33) (by decide) (by decide) ?_
      show Steps p.tables e below (T26.setTop (mkF m 111 #[.val (.int x0), .val (.int x1), .val (.int x2), .val (.int x3), .val (.int x4), .val (.int nn), .val (.int i0), .val (.int i1), .val (.int i2), .val (.int o0), .val (.int o1), .val (.int o2), .val (.ref b1), .unset, .unset, .unset, .unset, .unset] [])) _
      refine XS.iload X26.here hx rfl (hb hby at_111) rfl ?_
      show Steps p.tables e below (T26.setTop (mkF m 113 #[.val (.int x0), .val (.int x1), .val (.int x2), .val (.int x3), .val (.int x4), .val (.int nn), .val (.int i0), .val (.int i1), .val (.int i2), .val (.int o0), .val (.int o1), .val (.int o2), .val (.ref b1), .unset, .unset, .unset, .unset, .unset] [(.int nn)])) _
      refine XS.iconst X26.here hx rfl (hb hby at_113) ?_
      show Steps p.tables e below (T26.setTop (mkF m 114 #[.val (.int x0), .val (.int x1), .val (.int x2), .val (.int x3), .val (.int x4), .val (.int nn), .val (.int i0), .val (.int i1), .val (.int i2), .val (.int o0), .val (.int o1), .val (.int o2), .val (.ref b1), .unset, .unset, .unset, .unset, .unset] [(.int (3 : Int32)), (.int nn)])) _
      refine XS.icmpYes X26.here hx rfl (pc0 := 114) (pc' := 124) rfl (hb hby at_114) rfl (XT.ii_lt_t hc84_35) (by decide) (by decide) ?_
      show Steps p.tables e below (T26.setTop (mkF m 124 #[.val (.int x0), .val (.int x1), .val (.int x2), .val (.int x3), .val (.int x4), .val (.int nn), .val (.int i0), .val (.int i1), .val (.int i2), .val (.int o0), .val (.int o1), .val (.int o2), .val (.ref b1), .unset, .unset, .unset, .unset, .unset] [])) _
      refine XS.iconst X26.here hx rfl (hb hby at_124) ?_
      show Steps p.tables e below (T26.setTop (mkF m 125 #[.val (.int x0), .val (.int x1), .val (.int x2), .val (.int x3), .val (.int x4), .val (.int nn), .val (.int i0), .val (.int i1), .val (.int i2), .val (.int o0), .val (.int o1), .val (.int o2), .val (.ref b1), .unset, .unset, .unset, .unset, .unset] [(.int (1 : Int32))])) _
      refine XS.goto X26.here hx rfl (pc0 := 125) (pc' := 129) rfl (hb hby at_125) (by decide) (by decide) ?_
      show Steps p.tables e below (T26.setTop (mkF m 129 #[.val (.int x0), .val (.int x1), .val (.int x2), .val (.int x3), .val (.int x4), .val (.int nn), .val (.int i0), .val (.int i1), .val (.int i2), .val (.int o0), .val (.int o1), .val (.int o2), .val (.ref b1), .unset, .unset, .unset, .unset, .unset] [(.int (1 : Int32))])) _
      exact k
    have pre38 : Go p e below (s₁.setTop (entryFrame m #[(.int x0), (.int x1), (.int x2), (.int x3), (.int x4)] maxLocals)) (T26.setTop (mkF m 134 #[.val (.int x0), .val (.int x1), .val (.int x2), .val (.int x3), .val (.int x4), .val (.int nn), .val (.int i0), .val (.int i1), .val (.int i2), .val (.int o0), .val (.int o1), .val (.int o2), .val (.ref b1), .val (.int (1 : Int32)), .unset, .unset, .unset, .unset] [(.int (1 : Int32)), (.int nn)])) := by
      intro t k
      refine pre37 t ?_
      show Steps p.tables e below (T26.setTop (mkF m 129 #[.val (.int x0), .val (.int x1), .val (.int x2), .val (.int x3), .val (.int x4), .val (.int nn), .val (.int i0), .val (.int i1), .val (.int i2), .val (.int o0), .val (.int o1), .val (.int o2), .val (.ref b1), .unset, .unset, .unset, .unset, .unset] [(.int (1 : Int32))])) _
      refine XS.istore X26.here hx rfl (hb hby at_129) rfl (l' := #[.val (.int x0), .val (.int x1), .val (.int x2), .val (.int x3), .val (.int x4), .val (.int nn), .val (.int i0), .val (.int i1), .val (.int i2), .val (.int o0), .val (.int o1), .val (.int o2), .val (.ref b1), .val (.int (1 : Int32)), .unset, .unset, .unset, .unset]) rfl ?_
      show Steps p.tables e below (T26.setTop (mkF m 131 #[.val (.int x0), .val (.int x1), .val (.int x2), .val (.int x3), .val (.int x4), .val (.int nn), .val (.int i0), .val (.int i1), .val (.int i2), .val (.int o0), .val (.int o1), .val (.int o2), .val (.ref b1), .val (.int (1 : Int32)), .unset, .unset, .unset, .unset] [])) _
      refine XS.iload X26.here hx rfl (hb hby at_131) rfl ?_
      show Steps p.tables e below (T26.setTop (mkF m 133 #[.val (.int x0), .val (.int x1), .val (.int x2), .val (.int x3), .val (.int x4), .val (.int nn), .val (.int i0), .val (.int i1), .val (.int i2), .val (.int o0), .val (.int o1), .val (.int o2), .val (.ref b1), .val (.int (1 : Int32)), .unset, .unset, .unset, .unset] [(.int nn)])) _
      refine XS.iconst X26.here hx rfl (hb hby at_133) ?_
      show Steps p.tables e below (T26.setTop (mkF m 134 #[.val (.int x0), .val (.int x1), .val (.int x2), .val (.int x3), .val (.int x4), .val (.int nn), .val (.int i0), .val (.int i1), .val (.int i2), .val (.int o0), .val (.int o1), .val (.int o2), .val (.ref b1), .val (.int (1 : Int32)), .unset, .unset, .unset, .unset] [(.int (1 : Int32)), (.int nn)])) _
      exact k
    have pre39 : Go p e below (s₁.setTop (entryFrame m #[(.int x0), (.int x1), (.int x2), (.int x3), (.int x4)] maxLocals)) (T26.setTop (mkF m 154 #[.val (.int x0), .val (.int x1), .val (.int x2), .val (.int x3), .val (.int x4), .val (.int nn), .val (.int i0), .val (.int i1), .val (.int i2), .val (.int o0), .val (.int o1), .val (.int o2), .val (.ref b1), .val (.int (1 : Int32)), .unset, .unset, .unset, .unset] [(.int (1 : Int32))])) := by
      intro t k
      refine pre38 t ?_
      show Steps p.tables e below (T26.setTop (mkF m 134 #[.val (.int x0), .val (.int x1), .val (.int x2), .val (.int x3), .val (.int x4), .val (.int nn), .val (.int i0), .val (.int i1), .val (.int i2), .val (.int o0), .val (.int o1), .val (.int o2), .val (.ref b1), .val (.int (1 : Int32)), .unset, .unset, .unset, .unset] [(.int (1 : Int32)), (.int nn)])) _
      refine XS.icmpYes X26.here hx rfl (pc0 := 134) (pc' := 149) rfl (hb hby at_134) rfl (XT.ii_lt_t hc50_31) (by decide) (by decide) ?_
      show Steps p.tables e below (T26.setTop (mkF m 149 #[.val (.int x0), .val (.int x1), .val (.int x2), .val (.int x3), .val (.int x4), .val (.int nn), .val (.int i0), .val (.int i1), .val (.int i2), .val (.int o0), .val (.int o1), .val (.int o2), .val (.ref b1), .val (.int (1 : Int32)), .unset, .unset, .unset, .unset] [])) _
      refine XS.iconst X26.here hx rfl (hb hby at_149) ?_
      show Steps p.tables e below (T26.setTop (mkF m 150 #[.val (.int x0), .val (.int x1), .val (.int x2), .val (.int x3), .val (.int x4), .val (.int nn), .val (.int i0), .val (.int i1), .val (.int i2), .val (.int o0), .val (.int o1), .val (.int o2), .val (.ref b1), .val (.int (1 : Int32)), .unset, .unset, .unset, .unset] [(.int (1 : Int32))])) _
      refine XS.goto X26.here hx rfl (pc0 := 150) (pc' := 154) rfl (hb hby at_150) (by decide) (by decide) ?_
      show Steps p.tables e below (T26.setTop (mkF m 154 #[.val (.int x0), .val (.int x1), .val (.int x2), .val (.int x3), .val (.int x4), .val (.int nn), .val (.int i0), .val (.int i1), .val (.int i2), .val (.int o0), .val (.int o1), .val (.int o2), .val (.ref b1), .val (.int (1 : Int32)), .unset, .unset, .unset, .unset] [(.int (1 : Int32))])) _
      exact k
    have pre40 : Go p e below (s₁.setTop (entryFrame m #[(.int x0), (.int x1), (.int x2), (.int x3), (.int x4)] maxLocals)) (T26.setTop (mkF m 159 #[.val (.int x0), .val (.int x1), .val (.int x2), .val (.int x3), .val (.int x4), .val (.int nn), .val (.int i0), .val (.int i1), .val (.int i2), .val (.int o0), .val (.int o1), .val (.int o2), .val (.ref b1), .val (.int (1 : Int32)), .val (.int (1 : Int32)), .unset, .unset, .unset] [(.int (2 : Int32)), (.int nn)])) := by
      intro t k
      refine pre39 t ?_
      show Steps p.tables e below (T26.setTop (mkF m 154 #[.val (.int x0), .val (.int x1), .val (.int x2), .val (.int x3), .val (.int x4), .val (.int nn), .val (.int i0), .val (.int i1), .val (.int i2), .val (.int o0), .val (.int o1), .val (.int o2), .val (.ref b1), .val (.int (1 : Int32)), .unset, .unset, .unset, .unset] [(.int (1 : Int32))])) _
      refine XS.istore X26.here hx rfl (hb hby at_154) rfl (l' := #[.val (.int x0), .val (.int x1), .val (.int x2), .val (.int x3), .val (.int x4), .val (.int nn), .val (.int i0), .val (.int i1), .val (.int i2), .val (.int o0), .val (.int o1), .val (.int o2), .val (.ref b1), .val (.int (1 : Int32)), .val (.int (1 : Int32)), .unset, .unset, .unset]) rfl ?_
      show Steps p.tables e below (T26.setTop (mkF m 156 #[.val (.int x0), .val (.int x1), .val (.int x2), .val (.int x3), .val (.int x4), .val (.int nn), .val (.int i0), .val (.int i1), .val (.int i2), .val (.int o0), .val (.int o1), .val (.int o2), .val (.ref b1), .val (.int (1 : Int32)), .val (.int (1 : Int32)), .unset, .unset, .unset] [])) _
      refine XS.iload X26.here hx rfl (hb hby at_156) rfl ?_
      show Steps p.tables e below (T26.setTop (mkF m 158 #[.val (.int x0), .val (.int x1), .val (.int x2), .val (.int x3), .val (.int x4), .val (.int nn), .val (.int i0), .val (.int i1), .val (.int i2), .val (.int o0), .val (.int o1), .val (.int o2), .val (.ref b1), .val (.int (1 : Int32)), .val (.int (1 : Int32)), .unset, .unset, .unset] [(.int nn)])) _
      refine XS.iconst X26.here hx rfl (hb hby at_158) ?_
      show Steps p.tables e below (T26.setTop (mkF m 159 #[.val (.int x0), .val (.int x1), .val (.int x2), .val (.int x3), .val (.int x4), .val (.int nn), .val (.int i0), .val (.int i1), .val (.int i2), .val (.int o0), .val (.int o1), .val (.int o2), .val (.ref b1), .val (.int (1 : Int32)), .val (.int (1 : Int32)), .unset, .unset, .unset] [(.int (2 : Int32)), (.int nn)])) _
      exact k
    have pre41 : Go p e below (s₁.setTop (entryFrame m #[(.int x0), (.int x1), (.int x2), (.int x3), (.int x4)] maxLocals)) (T26.setTop (mkF m 179 #[.val (.int x0), .val (.int x1), .val (.int x2), .val (.int x3), .val (.int x4), .val (.int nn), .val (.int i0), .val (.int i1), .val (.int i2), .val (.int o0), .val (.int o1), .val (.int o2), .val (.ref b1), .val (.int (1 : Int32)), .val (.int (1 : Int32)), .unset, .unset, .unset] [(.int (1 : Int32))])) := by
      intro t k
      refine pre40 t ?_
      show Steps p.tables e below (T26.setTop (mkF m 159 #[.val (.int x0), .val (.int x1), .val (.int x2), .val (.int x3), .val (.int x4), .val (.int nn), .val (.int i0), .val (.int i1), .val (.int i2), .val (.int o0), .val (.int o1), .val (.int o2), .val (.ref b1), .val (.int (1 : Int32)), .val (.int (1 : Int32)), .unset, .unset, .unset] [(.int (2 : Int32)), (.int nn)])) _
      refine XS.icmpYes X26.here hx rfl (pc0 := 159) (pc' := 174) rfl (hb hby at_159) rfl (XT.ii_lt_t hc67_33) (by decide) (by decide) ?_
      show Steps p.tables e below (T26.setTop (mkF m 174 #[.val (.int x0), .val (.int x1), .val (.int x2), .val (.int x3), .val (.int x4), .val (.int nn), .val (.int i0), .val (.int i1), .val (.int i2), .val (.int o0), .val (.int o1), .val (.int o2), .val (.ref b1), .val (.int (1 : Int32)), .val (.int (1 : Int32)), .unset, .unset, .unset] [])) _
      refine XS.iconst X26.here hx rfl (hb hby at_174) ?_
      show Steps p.tables e below (T26.setTop (mkF m 175 #[.val (.int x0), .val (.int x1), .val (.int x2), .val (.int x3), .val (.int x4), .val (.int nn), .val (.int i0), .val (.int i1), .val (.int i2), .val (.int o0), .val (.int o1), .val (.int o2), .val (.ref b1), .val (.int (1 : Int32)), .val (.int (1 : Int32)), .unset, .unset, .unset] [(.int (1 : Int32))])) _
      refine XS.goto X26.here hx rfl (pc0 := 175) (pc' := 179) rfl (hb hby at_175) (by decide) (by decide) ?_
      show Steps p.tables e below (T26.setTop (mkF m 179 #[.val (.int x0), .val (.int x1), .val (.int x2), .val (.int x3), .val (.int x4), .val (.int nn), .val (.int i0), .val (.int i1), .val (.int i2), .val (.int o0), .val (.int o1), .val (.int o2), .val (.ref b1), .val (.int (1 : Int32)), .val (.int (1 : Int32)), .unset, .unset, .unset] [(.int (1 : Int32))])) _
      exact k
    have pre42 : Go p e below (s₁.setTop (entryFrame m #[(.int x0), (.int x1), (.int x2), (.int x3), (.int x4)] maxLocals)) (T26.setTop (mkF m 184 #[.val (.int x0), .val (.int x1), .val (.int x2), .val (.int x3), .val (.int x4), .val (.int nn), .val (.int i0), .val (.int i1), .val (.int i2), .val (.int o0), .val (.int o1), .val (.int o2), .val (.ref b1), .val (.int (1 : Int32)), .val (.int (1 : Int32)), .val (.int (1 : Int32)), .unset, .unset] [(.int (3 : Int32)), (.int nn)])) := by
      intro t k
      refine pre41 t ?_
      show Steps p.tables e below (T26.setTop (mkF m 179 #[.val (.int x0), .val (.int x1), .val (.int x2), .val (.int x3), .val (.int x4), .val (.int nn), .val (.int i0), .val (.int i1), .val (.int i2), .val (.int o0), .val (.int o1), .val (.int o2), .val (.ref b1), .val (.int (1 : Int32)), .val (.int (1 : Int32)), .unset, .unset, .unset] [(.int (1 : Int32))])) _
      refine XS.istore X26.here hx rfl (hb hby at_179) rfl (l' := #[.val (.int x0), .val (.int x1), .val (.int x2), .val (.int x3), .val (.int x4), .val (.int nn), .val (.int i0), .val (.int i1), .val (.int i2), .val (.int o0), .val (.int o1), .val (.int o2), .val (.ref b1), .val (.int (1 : Int32)), .val (.int (1 : Int32)), .val (.int (1 : Int32)), .unset, .unset]) rfl ?_
      show Steps p.tables e below (T26.setTop (mkF m 181 #[.val (.int x0), .val (.int x1), .val (.int x2), .val (.int x3), .val (.int x4), .val (.int nn), .val (.int i0), .val (.int i1), .val (.int i2), .val (.int o0), .val (.int o1), .val (.int o2), .val (.ref b1), .val (.int (1 : Int32)), .val (.int (1 : Int32)), .val (.int (1 : Int32)), .unset, .unset] [])) _
      refine XS.iload X26.here hx rfl (hb hby at_181) rfl ?_
      show Steps p.tables e below (T26.setTop (mkF m 183 #[.val (.int x0), .val (.int x1), .val (.int x2), .val (.int x3), .val (.int x4), .val (.int nn), .val (.int i0), .val (.int i1), .val (.int i2), .val (.int o0), .val (.int o1), .val (.int o2), .val (.ref b1), .val (.int (1 : Int32)), .val (.int (1 : Int32)), .val (.int (1 : Int32)), .unset, .unset] [(.int nn)])) _
      refine XS.iconst X26.here hx rfl (hb hby at_183) ?_
      show Steps p.tables e below (T26.setTop (mkF m 184 #[.val (.int x0), .val (.int x1), .val (.int x2), .val (.int x3), .val (.int x4), .val (.int nn), .val (.int i0), .val (.int i1), .val (.int i2), .val (.int o0), .val (.int o1), .val (.int o2), .val (.ref b1), .val (.int (1 : Int32)), .val (.int (1 : Int32)), .val (.int (1 : Int32)), .unset, .unset] [(.int (3 : Int32)), (.int nn)])) _
      exact k
    have pre43 : Go p e below (s₁.setTop (entryFrame m #[(.int x0), (.int x1), (.int x2), (.int x3), (.int x4)] maxLocals)) (T26.setTop (mkF m 204 #[.val (.int x0), .val (.int x1), .val (.int x2), .val (.int x3), .val (.int x4), .val (.int nn), .val (.int i0), .val (.int i1), .val (.int i2), .val (.int o0), .val (.int o1), .val (.int o2), .val (.ref b1), .val (.int (1 : Int32)), .val (.int (1 : Int32)), .val (.int (1 : Int32)), .unset, .unset] [(.int (1 : Int32))])) := by
      intro t k
      refine pre42 t ?_
      show Steps p.tables e below (T26.setTop (mkF m 184 #[.val (.int x0), .val (.int x1), .val (.int x2), .val (.int x3), .val (.int x4), .val (.int nn), .val (.int i0), .val (.int i1), .val (.int i2), .val (.int o0), .val (.int o1), .val (.int o2), .val (.ref b1), .val (.int (1 : Int32)), .val (.int (1 : Int32)), .val (.int (1 : Int32)), .unset, .unset] [(.int (3 : Int32)), (.int nn)])) _
      refine XS.icmpYes X26.here hx rfl (pc0 := 184) (pc' := 199) rfl (hb hby at_184) rfl (XT.ii_lt_t hc84_35) (by decide) (by decide) ?_
      show Steps p.tables e below (T26.setTop (mkF m 199 #[.val (.int x0), .val (.int x1), .val (.int x2), .val (.int x3), .val (.int x4), .val (.int nn), .val (.int i0), .val (.int i1), .val (.int i2), .val (.int o0), .val (.int o1), .val (.int o2), .val (.ref b1), .val (.int (1 : Int32)), .val (.int (1 : Int32)), .val (.int (1 : Int32)), .unset, .unset] [])) _
      refine XS.iconst X26.here hx rfl (hb hby at_199) ?_
      show Steps p.tables e below (T26.setTop (mkF m 200 #[.val (.int x0), .val (.int x1), .val (.int x2), .val (.int x3), .val (.int x4), .val (.int nn), .val (.int i0), .val (.int i1), .val (.int i2), .val (.int o0), .val (.int o1), .val (.int o2), .val (.ref b1), .val (.int (1 : Int32)), .val (.int (1 : Int32)), .val (.int (1 : Int32)), .unset, .unset] [(.int (1 : Int32))])) _
      refine XS.goto X26.here hx rfl (pc0 := 200) (pc' := 204) rfl (hb hby at_200) (by decide) (by decide) ?_
      show Steps p.tables e below (T26.setTop (mkF m 204 #[.val (.int x0), .val (.int x1), .val (.int x2), .val (.int x3), .val (.int x4), .val (.int nn), .val (.int i0), .val (.int i1), .val (.int i2), .val (.int o0), .val (.int o1), .val (.int o2), .val (.ref b1), .val (.int (1 : Int32)), .val (.int (1 : Int32)), .val (.int (1 : Int32)), .unset, .unset] [(.int (1 : Int32))])) _
      exact k
    have pre44 : Go p e below (s₁.setTop (entryFrame m #[(.int x0), (.int x1), (.int x2), (.int x3), (.int x4)] maxLocals)) (T26.setTop (mkF m 208 #[.val (.int x0), .val (.int x1), .val (.int x2), .val (.int x3), .val (.int x4), .val (.int nn), .val (.int i0), .val (.int i1), .val (.int i2), .val (.int o0), .val (.int o1), .val (.int o2), .val (.ref b1), .val (.int (1 : Int32)), .val (.int (1 : Int32)), .val (.int (1 : Int32)), .val (.int (1 : Int32)), .unset] [(.int (1 : Int32))])) := by
      intro t k
      refine pre43 t ?_
      show Steps p.tables e below (T26.setTop (mkF m 204 #[.val (.int x0), .val (.int x1), .val (.int x2), .val (.int x3), .val (.int x4), .val (.int nn), .val (.int i0), .val (.int i1), .val (.int i2), .val (.int o0), .val (.int o1), .val (.int o2), .val (.ref b1), .val (.int (1 : Int32)), .val (.int (1 : Int32)), .val (.int (1 : Int32)), .unset, .unset] [(.int (1 : Int32))])) _
      refine XS.istore X26.here hx rfl (hb hby at_204) rfl (l' := #[.val (.int x0), .val (.int x1), .val (.int x2), .val (.int x3), .val (.int x4), .val (.int nn), .val (.int i0), .val (.int i1), .val (.int i2), .val (.int o0), .val (.int o1), .val (.int o2), .val (.ref b1), .val (.int (1 : Int32)), .val (.int (1 : Int32)), .val (.int (1 : Int32)), .val (.int (1 : Int32)), .unset]) rfl ?_
      show Steps p.tables e below (T26.setTop (mkF m 206 #[.val (.int x0), .val (.int x1), .val (.int x2), .val (.int x3), .val (.int x4), .val (.int nn), .val (.int i0), .val (.int i1), .val (.int i2), .val (.int o0), .val (.int o1), .val (.int o2), .val (.ref b1), .val (.int (1 : Int32)), .val (.int (1 : Int32)), .val (.int (1 : Int32)), .val (.int (1 : Int32)), .unset] [])) _
      refine XS.iload X26.here hx rfl (hb hby at_206) rfl ?_
      show Steps p.tables e below (T26.setTop (mkF m 208 #[.val (.int x0), .val (.int x1), .val (.int x2), .val (.int x3), .val (.int x4), .val (.int nn), .val (.int i0), .val (.int i1), .val (.int i2), .val (.int o0), .val (.int o1), .val (.int o2), .val (.ref b1), .val (.int (1 : Int32)), .val (.int (1 : Int32)), .val (.int (1 : Int32)), .val (.int (1 : Int32)), .unset] [(.int (1 : Int32))])) _
      exact k
    have pre45 : Go p e below (s₁.setTop (entryFrame m #[(.int x0), (.int x1), (.int x2), (.int x3), (.int x4)] maxLocals)) (T26.setTop (mkF m 231 #[.val (.int x0), .val (.int x1), .val (.int x2), .val (.int x3), .val (.int x4), .val (.int nn), .val (.int i0), .val (.int i1), .val (.int i2), .val (.int o0), .val (.int o1), .val (.int o2), .val (.ref b1), .val (.int (1 : Int32)), .val (.int (1 : Int32)), .val (.int (1 : Int32)), .val (.int (1 : Int32)), .unset] [(.int (1 : Int32))])) := by
      intro t k
      refine pre44 t ?_
      show Steps p.tables e below (T26.setTop (mkF m 208 #[.val (.int x0), .val (.int x1), .val (.int x2), .val (.int x3), .val (.int x4), .val (.int nn), .val (.int i0), .val (.int i1), .val (.int i2), .val (.int o0), .val (.int o1), .val (.int o2), .val (.ref b1), .val (.int (1 : Int32)), .val (.int (1 : Int32)), .val (.int (1 : Int32)), .val (.int (1 : Int32)), .unset] [(.int (1 : Int32))])) _
      refine XS.ifNo X26.here hx rfl (hb hby at_208) rfl (XT.i0_eq_f (by decide : ¬ ((1 : Int32) = (0 : Int32)))) ?_
      show Steps p.tables e below (T26.setTop (mkF m 211 #[.val (.int x0), .val (.int x1), .val (.int x2), .val (.int x3), .val (.int x4), .val (.int nn), .val (.int i0), .val (.int i1), .val (.int i2), .val (.int o0), .val (.int o1), .val (.int o2), .val (.ref b1), .val (.int (1 : Int32)), .val (.int (1 : Int32)), .val (.int (1 : Int32)), .val (.int (1 : Int32)), .unset] [])) _
      refine XS.iload X26.here hx rfl (hb hby at_211) rfl ?_
      show Steps p.tables e below (T26.setTop (mkF m 213 #[.val (.int x0), .val (.int x1), .val (.int x2), .val (.int x3), .val (.int x4), .val (.int nn), .val (.int i0), .val (.int i1), .val (.int i2), .val (.int o0), .val (.int o1), .val (.int o2), .val (.ref b1), .val (.int (1 : Int32)), .val (.int (1 : Int32)), .val (.int (1 : Int32)), .val (.int (1 : Int32)), .unset] [(.int (1 : Int32))])) _
      refine XS.ifNo X26.here hx rfl (hb hby at_213) rfl (XT.i0_eq_f (by decide : ¬ ((1 : Int32) = (0 : Int32)))) ?_
      show Steps p.tables e below (T26.setTop (mkF m 216 #[.val (.int x0), .val (.int x1), .val (.int x2), .val (.int x3), .val (.int x4), .val (.int nn), .val (.int i0), .val (.int i1), .val (.int i2), .val (.int o0), .val (.int o1), .val (.int o2), .val (.ref b1), .val (.int (1 : Int32)), .val (.int (1 : Int32)), .val (.int (1 : Int32)), .val (.int (1 : Int32)), .unset] [])) _
      refine XS.iload X26.here hx rfl (hb hby at_216) rfl ?_
      show Steps p.tables e below (T26.setTop (mkF m 218 #[.val (.int x0), .val (.int x1), .val (.int x2), .val (.int x3), .val (.int x4), .val (.int nn), .val (.int i0), .val (.int i1), .val (.int i2), .val (.int o0), .val (.int o1), .val (.int o2), .val (.ref b1), .val (.int (1 : Int32)), .val (.int (1 : Int32)), .val (.int (1 : Int32)), .val (.int (1 : Int32)), .unset] [(.int (1 : Int32))])) _
      refine XS.ifNo X26.here hx rfl (hb hby at_218) rfl (XT.i0_eq_f (by decide : ¬ ((1 : Int32) = (0 : Int32)))) ?_
      show Steps p.tables e below (T26.setTop (mkF m 221 #[.val (.int x0), .val (.int x1), .val (.int x2), .val (.int x3), .val (.int x4), .val (.int nn), .val (.int i0), .val (.int i1), .val (.int i2), .val (.int o0), .val (.int o1), .val (.int o2), .val (.ref b1), .val (.int (1 : Int32)), .val (.int (1 : Int32)), .val (.int (1 : Int32)), .val (.int (1 : Int32)), .unset] [])) _
      refine XS.iload X26.here hx rfl (hb hby at_221) rfl ?_
      show Steps p.tables e below (T26.setTop (mkF m 223 #[.val (.int x0), .val (.int x1), .val (.int x2), .val (.int x3), .val (.int x4), .val (.int nn), .val (.int i0), .val (.int i1), .val (.int i2), .val (.int o0), .val (.int o1), .val (.int o2), .val (.ref b1), .val (.int (1 : Int32)), .val (.int (1 : Int32)), .val (.int (1 : Int32)), .val (.int (1 : Int32)), .unset] [(.int (1 : Int32))])) _
      refine XS.ifNo X26.here hx rfl (hb hby at_223) rfl (XT.i0_eq_f (by decide : ¬ ((1 : Int32) = (0 : Int32)))) ?_
      show Steps p.tables e below (T26.setTop (mkF m 226 #[.val (.int x0), .val (.int x1), .val (.int x2), .val (.int x3), .val (.int x4), .val (.int nn), .val (.int i0), .val (.int i1), .val (.int i2), .val (.int o0), .val (.int o1), .val (.int o2), .val (.ref b1), .val (.int (1 : Int32)), .val (.int (1 : Int32)), .val (.int (1 : Int32)), .val (.int (1 : Int32)), .unset] [])) _
      refine XS.iconst X26.here hx rfl (hb hby at_226) ?_
      show Steps p.tables e below (T26.setTop (mkF m 227 #[.val (.int x0), .val (.int x1), .val (.int x2), .val (.int x3), .val (.int x4), .val (.int nn), .val (.int i0), .val (.int i1), .val (.int i2), .val (.int o0), .val (.int o1), .val (.int o2), .val (.ref b1), .val (.int (1 : Int32)), .val (.int (1 : Int32)), .val (.int (1 : Int32)), .val (.int (1 : Int32)), .unset] [(.int (1 : Int32))])) _
      refine XS.goto X26.here hx rfl (pc0 := 227) (pc' := 231) rfl (hb hby at_227) (by decide) (by decide) ?_
      show Steps p.tables e below (T26.setTop (mkF m 231 #[.val (.int x0), .val (.int x1), .val (.int x2), .val (.int x3), .val (.int x4), .val (.int nn), .val (.int i0), .val (.int i1), .val (.int i2), .val (.int o0), .val (.int o1), .val (.int o2), .val (.ref b1), .val (.int (1 : Int32)), .val (.int (1 : Int32)), .val (.int (1 : Int32)), .val (.int (1 : Int32)), .unset] [(.int (1 : Int32))])) _
      exact k
    have pre46 : Go p e below (s₁.setTop (entryFrame m #[(.int x0), (.int x1), (.int x2), (.int x3), (.int x4)] maxLocals)) (T26.setTop (mkF m 235 #[.val (.int x0), .val (.int x1), .val (.int x2), .val (.int x3), .val (.int x4), .val (.int nn), .val (.int i0), .val (.int i1), .val (.int i2), .val (.int o0), .val (.int o1), .val (.int o2), .val (.ref b1), .val (.int (1 : Int32)), .val (.int (1 : Int32)), .val (.int (1 : Int32)), .val (.int (1 : Int32)), .val (.int (1 : Int32))] [(.ref b1)])) := by
      intro t k
      refine pre45 t ?_
      show Steps p.tables e below (T26.setTop (mkF m 231 #[.val (.int x0), .val (.int x1), .val (.int x2), .val (.int x3), .val (.int x4), .val (.int nn), .val (.int i0), .val (.int i1), .val (.int i2), .val (.int o0), .val (.int o1), .val (.int o2), .val (.ref b1), .val (.int (1 : Int32)), .val (.int (1 : Int32)), .val (.int (1 : Int32)), .val (.int (1 : Int32)), .unset] [(.int (1 : Int32))])) _
      refine XS.istore X26.here hx rfl (hb hby at_231) rfl (l' := #[.val (.int x0), .val (.int x1), .val (.int x2), .val (.int x3), .val (.int x4), .val (.int nn), .val (.int i0), .val (.int i1), .val (.int i2), .val (.int o0), .val (.int o1), .val (.int o2), .val (.ref b1), .val (.int (1 : Int32)), .val (.int (1 : Int32)), .val (.int (1 : Int32)), .val (.int (1 : Int32)), .val (.int (1 : Int32))]) rfl ?_
      show Steps p.tables e below (T26.setTop (mkF m 233 #[.val (.int x0), .val (.int x1), .val (.int x2), .val (.int x3), .val (.int x4), .val (.int nn), .val (.int i0), .val (.int i1), .val (.int i2), .val (.int o0), .val (.int o1), .val (.int o2), .val (.ref b1), .val (.int (1 : Int32)), .val (.int (1 : Int32)), .val (.int (1 : Int32)), .val (.int (1 : Int32)), .val (.int (1 : Int32))] [])) _
      refine XS.aload X26.here hx rfl (hb hby at_233) rfl rfl ?_
      show Steps p.tables e below (T26.setTop (mkF m 235 #[.val (.int x0), .val (.int x1), .val (.int x2), .val (.int x3), .val (.int x4), .val (.int nn), .val (.int i0), .val (.int i1), .val (.int i2), .val (.int o0), .val (.int o1), .val (.int o2), .val (.ref b1), .val (.int (1 : Int32)), .val (.int (1 : Int32)), .val (.int (1 : Int32)), .val (.int (1 : Int32)), .val (.int (1 : Int32))] [(.ref b1)])) _
      exact k
    obtain ⟨cq47, kq47, q47a, q47b, q47c⟩ := isOf hZ rfl X26e_b1
    obtain ⟨_, _, ⟨T47, L47, k47, n47⟩, -, X47, ⟨Lc47, hQ47, l47, y47, z47⟩, st47⟩ := X26.virtualBack hx (y := (⟨"lightbin/AgreementResult$Run", "validity", "()Z"⟩ : MethodName)) (z := (⟨"lightbin/AgreementResult$Run", "validity", "()Z"⟩ : MethodName)) hown (mvT hZ (hw _ (List.mem_of_getElem? (i := 17) rfl))) (mvT hZ (hw _ (List.mem_of_getElem? (i := 18) rfl))) (notFace_of_selects (args := #[]) (mvT hZ (hw _ (List.mem_of_getElem? (i := 20) rfl)))) (mvT hZ (hw _ (List.mem_of_getElem? (i := 20) rfl))) (mvT hZ (hw _ (List.mem_of_getElem? (i := 19) rfl))) (by decide) (backOf (W := 0) (rm4 l Z a0 hw [] b1 (-1 : Int32) (nar .boolean (1 : Int32)) (0 : Int32) (0 : Int32) T26.heap n0 zz28 F26_firstInput_b1 F26_inputsEqual_b1 F26_ones_b1 F26_zeros_b1) hZ (hw _ (List.mem_of_getElem? (i := 21) rfl)) (hw _ (List.mem_of_getElem? (i := 6) rfl)) (by decide) (by decide)) q47a q47c (g := (mkF m 235 #[.val (.int x0), .val (.int x1), .val (.int x2), .val (.int x3), .val (.int x4), .val (.int nn), .val (.int i0), .val (.int i1), .val (.int i2), .val (.int o0), .val (.int o1), .val (.int o2), .val (.ref b1), .val (.int (1 : Int32)), .val (.int (1 : Int32)), .val (.int (1 : Int32)), .val (.int (1 : Int32)), .val (.int (1 : Int32))] [(.ref b1)])) rfl (by rw [hml]; rfl) (Steps.refl _) (argsL := []) (rest := []) (lenOf pd_8 rfl) rfl (by show 2 * 0 + _ ≤ _; exact Nat.le_of_eq rfl) (hb hby at_235) (fun _ _ => ⟨rfl, rfl, (by decide : 1 + 0 ≤ _), (by decide : 6 + 0 ≤ _)⟩)
    dsimp only [Pt.U, Pt.locs, Pt.cells, Pt.slots] at X47 l47 y47 z47 st47 hQ47
    subst l47 y47 z47
    obtain ⟨rfl, N47q, hh47⟩ := hQ47
    have N47 := Fr.app N26 N47q
    have pre48 : Go p e below (s₁.setTop (entryFrame m #[(.int x0), (.int x1), (.int x2), (.int x3), (.int x4)] maxLocals)) (T47.setTop (mkF m 238 #[.val (.int x0), .val (.int x1), .val (.int x2), .val (.int x3), .val (.int x4), .val (.int nn), .val (.int i0), .val (.int i1), .val (.int i2), .val (.int o0), .val (.int o1), .val (.int o2), .val (.ref b1), .val (.int (1 : Int32)), .val (.int (1 : Int32)), .val (.int (1 : Int32)), .val (.int (1 : Int32)), .val (.int (1 : Int32))] [(.int (fval (-1 : Int32) (nar .boolean (1 : Int32)) (0 : Int32) (0 : Int32)))])) := fun t k => pre46 t (st47.trans k)
    have pre49 : Go p e below (s₁.setTop (entryFrame m #[(.int x0), (.int x1), (.int x2), (.int x3), (.int x4)] maxLocals)) (T47.setTop (mkF m 240 #[.val (.int x0), .val (.int x1), .val (.int x2), .val (.int x3), .val (.int x4), .val (.int nn), .val (.int i0), .val (.int i1), .val (.int i2), .val (.int o0), .val (.int o1), .val (.int o2), .val (.ref b1), .val (.int (1 : Int32)), .val (.int (1 : Int32)), .val (.int (1 : Int32)), .val (.int (1 : Int32)), .val (.int (1 : Int32))] [(.int (1 : Int32)), (.int (fval (-1 : Int32) (nar .boolean (1 : Int32)) (0 : Int32) (0 : Int32)))])) := by
      intro t k
      refine pre48 t ?_
      show Steps p.tables e below (T47.setTop (mkF m 238 #[.val (.int x0), .val (.int x1), .val (.int x2), .val (.int x3), .val (.int x4), .val (.int nn), .val (.int i0), .val (.int i1), .val (.int i2), .val (.int o0), .val (.int o1), .val (.int o2), .val (.ref b1), .val (.int (1 : Int32)), .val (.int (1 : Int32)), .val (.int (1 : Int32)), .val (.int (1 : Int32)), .val (.int (1 : Int32))] [(.int (fval (-1 : Int32) (nar .boolean (1 : Int32)) (0 : Int32) (0 : Int32)))])) _
      refine XS.iload X47.here hx rfl (hb hby at_238) rfl ?_
      show Steps p.tables e below (T47.setTop (mkF m 240 #[.val (.int x0), .val (.int x1), .val (.int x2), .val (.int x3), .val (.int x4), .val (.int nn), .val (.int i0), .val (.int i1), .val (.int i2), .val (.int o0), .val (.int o1), .val (.int o2), .val (.ref b1), .val (.int (1 : Int32)), .val (.int (1 : Int32)), .val (.int (1 : Int32)), .val (.int (1 : Int32)), .val (.int (1 : Int32))] [(.int (1 : Int32)), (.int (fval (-1 : Int32) (nar .boolean (1 : Int32)) (0 : Int32) (0 : Int32)))])) _
      exact k
    have hc240_50 : (fval (-1 : Int32) (nar .boolean (1 : Int32)) (0 : Int32) (0 : Int32)) = (1 : Int32) := by
      exact own_p0
    have pre51 : Go p e below (s₁.setTop (entryFrame m #[(.int x0), (.int x1), (.int x2), (.int x3), (.int x4)] maxLocals)) (T47.setTop (mkF m 248 #[.val (.int x0), .val (.int x1), .val (.int x2), .val (.int x3), .val (.int x4), .val (.int nn), .val (.int i0), .val (.int i1), .val (.int i2), .val (.int o0), .val (.int o1), .val (.int o2), .val (.ref b1), .val (.int (1 : Int32)), .val (.int (1 : Int32)), .val (.int (1 : Int32)), .val (.int (1 : Int32)), .val (.int (1 : Int32))] [(.int (1 : Int32))])) := by
      intro t k
      refine pre49 t ?_
      show Steps p.tables e below (T47.setTop (mkF m 240 #[.val (.int x0), .val (.int x1), .val (.int x2), .val (.int x3), .val (.int x4), .val (.int nn), .val (.int i0), .val (.int i1), .val (.int i2), .val (.int o0), .val (.int o1), .val (.int o2), .val (.ref b1), .val (.int (1 : Int32)), .val (.int (1 : Int32)), .val (.int (1 : Int32)), .val (.int (1 : Int32)), .val (.int (1 : Int32))] [(.int (1 : Int32)), (.int (fval (-1 : Int32) (nar .boolean (1 : Int32)) (0 : Int32) (0 : Int32)))])) _
      refine XS.icmpNo X47.here hx rfl (hb hby at_240) rfl (XT.ii_ne_f hc240_50) ?_
      show Steps p.tables e below (T47.setTop (mkF m 243 #[.val (.int x0), .val (.int x1), .val (.int x2), .val (.int x3), .val (.int x4), .val (.int nn), .val (.int i0), .val (.int i1), .val (.int i2), .val (.int o0), .val (.int o1), .val (.int o2), .val (.ref b1), .val (.int (1 : Int32)), .val (.int (1 : Int32)), .val (.int (1 : Int32)), .val (.int (1 : Int32)), .val (.int (1 : Int32))] [])) _
      refine XS.iconst X47.here hx rfl (hb hby at_243) ?_
      show Steps p.tables e below (T47.setTop (mkF m 244 #[.val (.int x0), .val (.int x1), .val (.int x2), .val (.int x3), .val (.int x4), .val (.int nn), .val (.int i0), .val (.int i1), .val (.int i2), .val (.int o0), .val (.int o1), .val (.int o2), .val (.ref b1), .val (.int (1 : Int32)), .val (.int (1 : Int32)), .val (.int (1 : Int32)), .val (.int (1 : Int32)), .val (.int (1 : Int32))] [(.int (1 : Int32))])) _
      refine XS.goto X47.here hx rfl (pc0 := 244) (pc' := 248) rfl (hb hby at_244) (by decide) (by decide) ?_
      show Steps p.tables e below (T47.setTop (mkF m 248 #[.val (.int x0), .val (.int x1), .val (.int x2), .val (.int x3), .val (.int x4), .val (.int nn), .val (.int i0), .val (.int i1), .val (.int i2), .val (.int o0), .val (.int o1), .val (.int o2), .val (.ref b1), .val (.int (1 : Int32)), .val (.int (1 : Int32)), .val (.int (1 : Int32)), .val (.int (1 : Int32)), .val (.int (1 : Int32))] [(.int (1 : Int32))])) _
      exact k
    obtain ⟨fs, hr, hrun, hended, hW, hsame⟩ := X47.leave (hlocks := hlk) (v := some (.int (1 : Int32))) (fun h => by rw [Bd.returns] at h; cases h)
    refine ⟨_, _, pre51 _ (retN X47 hx (t := .boolean) Bd.returns (by simp) (hb hby at_248) hr), hrun, hended, _, _, rfl, ?_, ⟨_, rfl⟩, hW, hsame.mono (by decide) (by decide)⟩
    show Q0 Z x0 x1 x2 x3 x4 h0 n0 _ T47.heap _
    rw [hh47]
    exact ⟨rfl, N47⟩
  · skip
    have pre52 : Go p e below (s₁.setTop (entryFrame m #[(.int x0), (.int x1), (.int x2), (.int x3), (.int x4)] maxLocals)) (T26.setTop (mkF m 61 #[.val (.int x0), .val (.int x1), .val (.int x2), .val (.int x3), .val (.int x4), .val (.int nn), .val (.int i0), .val (.int i1), .val (.int i2), .val (.int o0), .val (.int o1), .val (.int o2), .val (.ref b1), .unset, .unset, .unset, .unset, .unset] [(.int x4), (.int o0), (.int i0), (.ref b1)])) := by
      intro t k
      refine pre30 t ?_
      show Steps p.tables e below (T26.setTop (mkF m 50 #[.val (.int x0), .val (.int x1), .val (.int x2), .val (.int x3), .val (.int x4), .val (.int nn), .val (.int i0), .val (.int i1), .val (.int i2), .val (.int o0), .val (.int o1), .val (.int o2), .val (.ref b1), .unset, .unset, .unset, .unset, .unset] [(.int (1 : Int32)), (.int nn)])) _
      refine XS.icmpNo X26.here hx rfl (hb hby at_50) rfl (XT.ii_lt_f hc50_31) ?_
      show Steps p.tables e below (T26.setTop (mkF m 53 #[.val (.int x0), .val (.int x1), .val (.int x2), .val (.int x3), .val (.int x4), .val (.int nn), .val (.int i0), .val (.int i1), .val (.int i2), .val (.int o0), .val (.int o1), .val (.int o2), .val (.ref b1), .unset, .unset, .unset, .unset, .unset] [])) _
      refine XS.aload X26.here hx rfl (hb hby at_53) rfl rfl ?_
      show Steps p.tables e below (T26.setTop (mkF m 55 #[.val (.int x0), .val (.int x1), .val (.int x2), .val (.int x3), .val (.int x4), .val (.int nn), .val (.int i0), .val (.int i1), .val (.int i2), .val (.int o0), .val (.int o1), .val (.int o2), .val (.ref b1), .unset, .unset, .unset, .unset, .unset] [(.ref b1)])) _
      refine XS.iload X26.here hx rfl (hb hby at_55) rfl ?_
      show Steps p.tables e below (T26.setTop (mkF m 57 #[.val (.int x0), .val (.int x1), .val (.int x2), .val (.int x3), .val (.int x4), .val (.int nn), .val (.int i0), .val (.int i1), .val (.int i2), .val (.int o0), .val (.int o1), .val (.int o2), .val (.ref b1), .unset, .unset, .unset, .unset, .unset] [(.int i0), (.ref b1)])) _
      refine XS.iload X26.here hx rfl (hb hby at_57) rfl ?_
      show Steps p.tables e below (T26.setTop (mkF m 59 #[.val (.int x0), .val (.int x1), .val (.int x2), .val (.int x3), .val (.int x4), .val (.int nn), .val (.int i0), .val (.int i1), .val (.int i2), .val (.int o0), .val (.int o1), .val (.int o2), .val (.ref b1), .unset, .unset, .unset, .unset, .unset] [(.int o0), (.int i0), (.ref b1)])) _
      refine XS.iload X26.here hx rfl (hb hby at_59) rfl ?_
      show Steps p.tables e below (T26.setTop (mkF m 61 #[.val (.int x0), .val (.int x1), .val (.int x2), .val (.int x3), .val (.int x4), .val (.int nn), .val (.int i0), .val (.int i1), .val (.int i2), .val (.int o0), .val (.int o1), .val (.int o2), .val (.ref b1), .unset, .unset, .unset, .unset, .unset] [(.int x4), (.int o0), (.int i0), (.ref b1)])) _
      exact k
    obtain ⟨cq53, kq53, q53a, q53b, q53c⟩ := isOf hZ rfl X26e_b1
    obtain ⟨_, _, ⟨T53, L53, k53, n53⟩, -, X53, ⟨Lc53, hQ53, l53, y53, z53⟩, st53⟩ := X26.virtualBack hx (y := (⟨"lightbin/AgreementResult$Run", "addHonest", "(III)V"⟩ : MethodName)) (z := (⟨"lightbin/AgreementResult$Run", "addHonest", "(III)V"⟩ : MethodName)) hown (mvT hZ (hw _ (List.mem_of_getElem? (i := 24) rfl))) (mvT hZ (hw _ (List.mem_of_getElem? (i := 25) rfl))) (notFace_of_selects (args := #[]) (mvT hZ (hw _ (List.mem_of_getElem? (i := 27) rfl)))) (mvT hZ (hw _ (List.mem_of_getElem? (i := 27) rfl))) (mvT hZ (hw _ (List.mem_of_getElem? (i := 26) rfl))) (by decide) (backOf (W := 0) (rm5 l Z a0 hw [] b1 i0 o0 x4 (-1 : Int32) (nar .boolean (1 : Int32)) (0 : Int32) (0 : Int32) (0 : Int32) (0 : Int32) T26.heap n0 zz28 ⟨X26e_b1, F26_firstInput_b1, F26_inputsEqual_b1, F26_nodes_b1, F26_ones_b1, F26_zeros_b1, F26_decisionRound_b1⟩ g_b1) hZ (hw _ (List.mem_of_getElem? (i := 28) rfl)) (hw _ (List.mem_of_getElem? (i := 6) rfl)) (by decide) (by decide)) q53a q53c (g := (mkF m 61 #[.val (.int x0), .val (.int x1), .val (.int x2), .val (.int x3), .val (.int x4), .val (.int nn), .val (.int i0), .val (.int i1), .val (.int i2), .val (.int o0), .val (.int o1), .val (.int o2), .val (.ref b1), .unset, .unset, .unset, .unset, .unset] [(.int x4), (.int o0), (.int i0), (.ref b1)])) rfl (by rw [hml]; rfl) (Steps.refl _) (argsL := [(.int i0), (.int o0), (.int x4)]) (rest := []) (lenOf pd_9 rfl) rfl (by show 2 * 0 + _ ≤ _; exact Nat.le_of_eq rfl) (hb hby at_61) (fun _ _ => ⟨rfl, rfl, (by decide : 1 + 0 ≤ _), (by decide : 6 + 0 ≤ _)⟩)
    dsimp only [Pt.U, Pt.locs, Pt.cells, Pt.slots] at X53 l53 y53 z53 st53 hQ53
    subst l53 y53 z53
    obtain ⟨rfl, N53q, K53, dr53, R53⟩ := hQ53
    have N53 := Fr.app N26 N53q
    obtain ⟨X53e_b1, F53_firstInput_b1, F53_inputsEqual_b1, F53_nodes_b1, F53_ones_b1, F53_zeros_b1, F53_decisionRound_b1⟩ := R53
    have kc54 := X26e_b1.keep K53
    have zz55 := Nat.le_trans zz28 K53.1
    have pre56 : Go p e below (s₁.setTop (entryFrame m #[(.int x0), (.int x1), (.int x2), (.int x3), (.int x4)] maxLocals)) (T53.setTop (mkF m 64 #[.val (.int x0), .val (.int x1), .val (.int x2), .val (.int x3), .val (.int x4), .val (.int nn), .val (.int i0), .val (.int i1), .val (.int i2), .val (.int o0), .val (.int o1), .val (.int o2), .val (.ref b1), .unset, .unset, .unset, .unset, .unset] [])) := fun t k => pre52 t (st53.trans k)
    have pre57 : Go p e below (s₁.setTop (entryFrame m #[(.int x0), (.int x1), (.int x2), (.int x3), (.int x4)] maxLocals)) (T53.setTop (mkF m 67 #[.val (.int x0), .val (.int x1), .val (.int x2), .val (.int x3), .val (.int x4), .val (.int nn), .val (.int i0), .val (.int i1), .val (.int i2), .val (.int o0), .val (.int o1), .val (.int o2), .val (.ref b1), .unset, .unset, .unset, .unset, .unset] [(.int (2 : Int32)), (.int nn)])) := by
      intro t k
      refine pre56 t ?_
      show Steps p.tables e below (T53.setTop (mkF m 64 #[.val (.int x0), .val (.int x1), .val (.int x2), .val (.int x3), .val (.int x4), .val (.int nn), .val (.int i0), .val (.int i1), .val (.int i2), .val (.int o0), .val (.int o1), .val (.int o2), .val (.ref b1), .unset, .unset, .unset, .unset, .unset] [])) _
      refine XS.iload X53.here hx rfl (hb hby at_64) rfl ?_
      show Steps p.tables e below (T53.setTop (mkF m 66 #[.val (.int x0), .val (.int x1), .val (.int x2), .val (.int x3), .val (.int x4), .val (.int nn), .val (.int i0), .val (.int i1), .val (.int i2), .val (.int o0), .val (.int o1), .val (.int o2), .val (.ref b1), .unset, .unset, .unset, .unset, .unset] [(.int nn)])) _
      refine XS.iconst X53.here hx rfl (hb hby at_66) ?_
      show Steps p.tables e below (T53.setTop (mkF m 67 #[.val (.int x0), .val (.int x1), .val (.int x2), .val (.int x3), .val (.int x4), .val (.int nn), .val (.int i0), .val (.int i1), .val (.int i2), .val (.int o0), .val (.int o1), .val (.int o2), .val (.ref b1), .unset, .unset, .unset, .unset, .unset] [(.int (2 : Int32)), (.int nn)])) _
      exact k
    by_cases hc67_58 : nn < (2 : Int32)
    · skip
      have pre59 : Go p e below (s₁.setTop (entryFrame m #[(.int x0), (.int x1), (.int x2), (.int x3), (.int x4)] maxLocals)) (T53.setTop (mkF m 84 #[.val (.int x0), .val (.int x1), .val (.int x2), .val (.int x3), .val (.int x4), .val (.int nn), .val (.int i0), .val (.int i1), .val (.int i2), .val (.int o0), .val (.int o1), .val (.int o2), .val (.ref b1), .unset, .unset, .unset, .unset, .unset] [(.int (3 : Int32)), (.int nn)])) := by
        intro t k
        refine pre57 t ?_
        show Steps p.tables e below (T53.setTop (mkF m 67 #[.val (.int x0), .val (.int x1), .val (.int x2), .val (.int x3), .val (.int x4), .val (.int nn), .val (.int i0), .val (.int i1), .val (.int i2), .val (.int o0), .val (.int o1), .val (.int o2), .val (.ref b1), .unset, .unset, .unset, .unset, .unset] [(.int (2 : Int32)), (.int nn)])) _
        refine XS.icmpYes X53.here hx rfl (pc0 := 67) (pc' := 81) rfl (hb hby at_67) rfl (XT.ii_lt_t hc67_58) (by decide) (by decide) ?_
        show Steps p.tables e below (T53.setTop (mkF m 81 #[.val (.int x0), .val (.int x1), .val (.int x2), .val (.int x3), .val (.int x4), .val (.int nn), .val (.int i0), .val (.int i1), .val (.int i2), .val (.int o0), .val (.int o1), .val (.int o2), .val (.ref b1), .unset, .unset, .unset, .unset, .unset] [])) _
        refine XS.iload X53.here hx rfl (hb hby at_81) rfl ?_
        show Steps p.tables e below (T53.setTop (mkF m 83 #[.val (.int x0), .val (.int x1), .val (.int x2), .val (.int x3), .val (.int x4), .val (.int nn), .val (.int i0), .val (.int i1), .val (.int i2), .val (.int o0), .val (.int o1), .val (.int o2), .val (.ref b1), .unset, .unset, .unset, .unset, .unset] [(.int nn)])) _
        refine XS.iconst X53.here hx rfl (hb hby at_83) ?_
        show Steps p.tables e below (T53.setTop (mkF m 84 #[.val (.int x0), .val (.int x1), .val (.int x2), .val (.int x3), .val (.int x4), .val (.int nn), .val (.int i0), .val (.int i1), .val (.int i2), .val (.int o0), .val (.int o1), .val (.int o2), .val (.ref b1), .unset, .unset, .unset, .unset, .unset] [(.int (3 : Int32)), (.int nn)])) _
        exact k
      have hc84_60 : nn < (3 : Int32) := by
        have q := hc67_58; rw [Int32.lt_iff_toInt_lt] at q ⊢; have c1 : (3 : Int32).toInt = 3 := rfl; have c2 : (2 : Int32).toInt = 2 := rfl; omega
      have pre61 : Go p e below (s₁.setTop (entryFrame m #[(.int x0), (.int x1), (.int x2), (.int x3), (.int x4)] maxLocals)) (T53.setTop (mkF m 101 #[.val (.int x0), .val (.int x1), .val (.int x2), .val (.int x3), .val (.int x4), .val (.int nn), .val (.int i0), .val (.int i1), .val (.int i2), .val (.int o0), .val (.int o1), .val (.int o2), .val (.ref b1), .unset, .unset, .unset, .unset, .unset] [(.int (2 : Int32)), (.int nn)])) := by
        intro t k
        refine pre59 t ?_
        show Steps p.tables e below (T53.setTop (mkF m 84 #[.val (.int x0), .val (.int x1), .val (.int x2), .val (.int x3), .val (.int x4), .val (.int nn), .val (.int i0), .val (.int i1), .val (.int i2), .val (.int o0), .val (.int o1), .val (.int o2), .val (.ref b1), .unset, .unset, .unset, .unset, .unset] [(.int (3 : Int32)), (.int nn)])) _
        refine XS.icmpYes X53.here hx rfl (pc0 := 84) (pc' := 98) rfl (hb hby at_84) rfl (XT.ii_lt_t hc84_60) (by decide) (by decide) ?_
        show Steps p.tables e below (T53.setTop (mkF m 98 #[.val (.int x0), .val (.int x1), .val (.int x2), .val (.int x3), .val (.int x4), .val (.int nn), .val (.int i0), .val (.int i1), .val (.int i2), .val (.int o0), .val (.int o1), .val (.int o2), .val (.ref b1), .unset, .unset, .unset, .unset, .unset] [])) _
        refine XS.iload X53.here hx rfl (hb hby at_98) rfl ?_
        show Steps p.tables e below (T53.setTop (mkF m 100 #[.val (.int x0), .val (.int x1), .val (.int x2), .val (.int x3), .val (.int x4), .val (.int nn), .val (.int i0), .val (.int i1), .val (.int i2), .val (.int o0), .val (.int o1), .val (.int o2), .val (.ref b1), .unset, .unset, .unset, .unset, .unset] [(.int nn)])) _
        refine XS.iconst X53.here hx rfl (hb hby at_100) ?_
        show Steps p.tables e below (T53.setTop (mkF m 101 #[.val (.int x0), .val (.int x1), .val (.int x2), .val (.int x3), .val (.int x4), .val (.int nn), .val (.int i0), .val (.int i1), .val (.int i2), .val (.int o0), .val (.int o1), .val (.int o2), .val (.ref b1), .unset, .unset, .unset, .unset, .unset] [(.int (2 : Int32)), (.int nn)])) _
        exact k
      have pre62 : Go p e below (s₁.setTop (entryFrame m #[(.int x0), (.int x1), (.int x2), (.int x3), (.int x4)] maxLocals)) (T53.setTop (mkF m 129 #[.val (.int x0), .val (.int x1), .val (.int x2), .val (.int x3), .val (.int x4), .val (.int nn), .val (.int i0), .val (.int i1), .val (.int i2), .val (.int o0), .val (.int o1), .val (.int o2), .val (.ref b1), .unset, .unset, .unset, .unset, .unset] [(.int (1 : Int32))])) := by
        intro t k
        refine pre61 t ?_
        show Steps p.tables e below (T53.setTop (mkF m 101 #[.val (.int x0), .val (.int x1), .val (.int x2), .val (.int x3), .val (.int x4), .val (.int nn), .val (.int i0), .val (.int i1), .val (.int i2), .val (.int o0), .val (.int o1), .val (.int o2), .val (.ref b1), .unset, .unset, .unset, .unset, .unset] [(.int (2 : Int32)), (.int nn)])) _
        refine XS.icmpYes X53.here hx rfl (pc0 := 101) (pc' := 111) rfl (hb hby at_101) rfl (XT.ii_lt_t hc67_58) (by decide) (by decide) ?_
        show Steps p.tables e below (T53.setTop (mkF m 111 #[.val (.int x0), .val (.int x1), .val (.int x2), .val (.int x3), .val (.int x4), .val (.int nn), .val (.int i0), .val (.int i1), .val (.int i2), .val (.int o0), .val (.int o1), .val (.int o2), .val (.ref b1), .unset, .unset, .unset, .unset, .unset] [])) _
        refine XS.iload X53.here hx rfl (hb hby at_111) rfl ?_
        show Steps p.tables e below (T53.setTop (mkF m 113 #[.val (.int x0), .val (.int x1), .val (.int x2), .val (.int x3), .val (.int x4), .val (.int nn), .val (.int i0), .val (.int i1), .val (.int i2), .val (.int o0), .val (.int o1), .val (.int o2), .val (.ref b1), .unset, .unset, .unset, .unset, .unset] [(.int nn)])) _
        refine XS.iconst X53.here hx rfl (hb hby at_113) ?_
        show Steps p.tables e below (T53.setTop (mkF m 114 #[.val (.int x0), .val (.int x1), .val (.int x2), .val (.int x3), .val (.int x4), .val (.int nn), .val (.int i0), .val (.int i1), .val (.int i2), .val (.int o0), .val (.int o1), .val (.int o2), .val (.ref b1), .unset, .unset, .unset, .unset, .unset] [(.int (3 : Int32)), (.int nn)])) _
        refine XS.icmpYes X53.here hx rfl (pc0 := 114) (pc' := 124) rfl (hb hby at_114) rfl (XT.ii_lt_t hc84_60) (by decide) (by decide) ?_
        show Steps p.tables e below (T53.setTop (mkF m 124 #[.val (.int x0), .val (.int x1), .val (.int x2), .val (.int x3), .val (.int x4), .val (.int nn), .val (.int i0), .val (.int i1), .val (.int i2), .val (.int o0), .val (.int o1), .val (.int o2), .val (.ref b1), .unset, .unset, .unset, .unset, .unset] [])) _
        refine XS.iconst X53.here hx rfl (hb hby at_124) ?_
        show Steps p.tables e below (T53.setTop (mkF m 125 #[.val (.int x0), .val (.int x1), .val (.int x2), .val (.int x3), .val (.int x4), .val (.int nn), .val (.int i0), .val (.int i1), .val (.int i2), .val (.int o0), .val (.int o1), .val (.int o2), .val (.ref b1), .unset, .unset, .unset, .unset, .unset] [(.int (1 : Int32))])) _
        refine XS.goto X53.here hx rfl (pc0 := 125) (pc' := 129) rfl (hb hby at_125) (by decide) (by decide) ?_
        show Steps p.tables e below (T53.setTop (mkF m 129 #[.val (.int x0), .val (.int x1), .val (.int x2), .val (.int x3), .val (.int x4), .val (.int nn), .val (.int i0), .val (.int i1), .val (.int i2), .val (.int o0), .val (.int o1), .val (.int o2), .val (.ref b1), .unset, .unset, .unset, .unset, .unset] [(.int (1 : Int32))])) _
        exact k
      have pre63 : Go p e below (s₁.setTop (entryFrame m #[(.int x0), (.int x1), (.int x2), (.int x3), (.int x4)] maxLocals)) (T53.setTop (mkF m 134 #[.val (.int x0), .val (.int x1), .val (.int x2), .val (.int x3), .val (.int x4), .val (.int nn), .val (.int i0), .val (.int i1), .val (.int i2), .val (.int o0), .val (.int o1), .val (.int o2), .val (.ref b1), .val (.int (1 : Int32)), .unset, .unset, .unset, .unset] [(.int (1 : Int32)), (.int nn)])) := by
        intro t k
        refine pre62 t ?_
        show Steps p.tables e below (T53.setTop (mkF m 129 #[.val (.int x0), .val (.int x1), .val (.int x2), .val (.int x3), .val (.int x4), .val (.int nn), .val (.int i0), .val (.int i1), .val (.int i2), .val (.int o0), .val (.int o1), .val (.int o2), .val (.ref b1), .unset, .unset, .unset, .unset, .unset] [(.int (1 : Int32))])) _
        refine XS.istore X53.here hx rfl (hb hby at_129) rfl (l' := #[.val (.int x0), .val (.int x1), .val (.int x2), .val (.int x3), .val (.int x4), .val (.int nn), .val (.int i0), .val (.int i1), .val (.int i2), .val (.int o0), .val (.int o1), .val (.int o2), .val (.ref b1), .val (.int (1 : Int32)), .unset, .unset, .unset, .unset]) rfl ?_
        show Steps p.tables e below (T53.setTop (mkF m 131 #[.val (.int x0), .val (.int x1), .val (.int x2), .val (.int x3), .val (.int x4), .val (.int nn), .val (.int i0), .val (.int i1), .val (.int i2), .val (.int o0), .val (.int o1), .val (.int o2), .val (.ref b1), .val (.int (1 : Int32)), .unset, .unset, .unset, .unset] [])) _
        refine XS.iload X53.here hx rfl (hb hby at_131) rfl ?_
        show Steps p.tables e below (T53.setTop (mkF m 133 #[.val (.int x0), .val (.int x1), .val (.int x2), .val (.int x3), .val (.int x4), .val (.int nn), .val (.int i0), .val (.int i1), .val (.int i2), .val (.int o0), .val (.int o1), .val (.int o2), .val (.ref b1), .val (.int (1 : Int32)), .unset, .unset, .unset, .unset] [(.int nn)])) _
        refine XS.iconst X53.here hx rfl (hb hby at_133) ?_
        show Steps p.tables e below (T53.setTop (mkF m 134 #[.val (.int x0), .val (.int x1), .val (.int x2), .val (.int x3), .val (.int x4), .val (.int nn), .val (.int i0), .val (.int i1), .val (.int i2), .val (.int o0), .val (.int o1), .val (.int o2), .val (.ref b1), .val (.int (1 : Int32)), .unset, .unset, .unset, .unset] [(.int (1 : Int32)), (.int nn)])) _
        exact k
      obtain ⟨ok0, h_ok0⟩ : ∃ z : Int32, z = (if o0 < (0 : Int32) then (1 : Int32) else (if o0 = i0 then (1 : Int32) else (0 : Int32))) := ⟨_, rfl⟩
      have pre66 : Go p e below (s₁.setTop (entryFrame m #[(.int x0), (.int x1), (.int x2), (.int x3), (.int x4)] maxLocals)) (T53.setTop (mkF m 154 #[.val (.int x0), .val (.int x1), .val (.int x2), .val (.int x3), .val (.int x4), .val (.int nn), .val (.int i0), .val (.int i1), .val (.int i2), .val (.int o0), .val (.int o1), .val (.int o2), .val (.ref b1), .val (.int (1 : Int32)), .unset, .unset, .unset, .unset] [(.int ok0)])) := by
        intro t k
        refine pre63 t ?_
        show Steps p.tables e below (T53.setTop (mkF m 134 #[.val (.int x0), .val (.int x1), .val (.int x2), .val (.int x3), .val (.int x4), .val (.int nn), .val (.int i0), .val (.int i1), .val (.int i2), .val (.int o0), .val (.int o1), .val (.int o2), .val (.ref b1), .val (.int (1 : Int32)), .unset, .unset, .unset, .unset] [(.int (1 : Int32)), (.int nn)])) _
        refine XS.icmpNo X53.here hx rfl (hb hby at_134) rfl (XT.ii_lt_f hc50_31) ?_
        show Steps p.tables e below (T53.setTop (mkF m 137 #[.val (.int x0), .val (.int x1), .val (.int x2), .val (.int x3), .val (.int x4), .val (.int nn), .val (.int i0), .val (.int i1), .val (.int i2), .val (.int o0), .val (.int o1), .val (.int o2), .val (.ref b1), .val (.int (1 : Int32)), .unset, .unset, .unset, .unset] [])) _
        refine XS.iload X53.here hx rfl (hb hby at_137) rfl ?_
        show Steps p.tables e below (T53.setTop (mkF m 139 #[.val (.int x0), .val (.int x1), .val (.int x2), .val (.int x3), .val (.int x4), .val (.int nn), .val (.int i0), .val (.int i1), .val (.int i2), .val (.int o0), .val (.int o1), .val (.int o2), .val (.ref b1), .val (.int (1 : Int32)), .unset, .unset, .unset, .unset] [(.int o0)])) _
        by_cases hc139_64 : o0 < (0 : Int32)
        · skip
          refine XS.ifYes X53.here hx rfl (pc0 := 139) (pc' := 149) rfl (hb hby at_139) rfl (XT.i0_lt_t hc139_64) (by decide) (by decide) ?_
          show Steps p.tables e below (T53.setTop (mkF m 149 #[.val (.int x0), .val (.int x1), .val (.int x2), .val (.int x3), .val (.int x4), .val (.int nn), .val (.int i0), .val (.int i1), .val (.int i2), .val (.int o0), .val (.int o1), .val (.int o2), .val (.ref b1), .val (.int (1 : Int32)), .unset, .unset, .unset, .unset] [])) _
          refine XS.iconst X53.here hx rfl (hb hby at_149) ?_
          show Steps p.tables e below (T53.setTop (mkF m 150 #[.val (.int x0), .val (.int x1), .val (.int x2), .val (.int x3), .val (.int x4), .val (.int nn), .val (.int i0), .val (.int i1), .val (.int i2), .val (.int o0), .val (.int o1), .val (.int o2), .val (.ref b1), .val (.int (1 : Int32)), .unset, .unset, .unset, .unset] [(.int (1 : Int32))])) _
          refine XS.goto X53.here hx rfl (pc0 := 150) (pc' := 154) rfl (hb hby at_150) (by decide) (by decide) ?_
          show Steps p.tables e below (T53.setTop (mkF m 154 #[.val (.int x0), .val (.int x1), .val (.int x2), .val (.int x3), .val (.int x4), .val (.int nn), .val (.int i0), .val (.int i1), .val (.int i2), .val (.int o0), .val (.int o1), .val (.int o2), .val (.ref b1), .val (.int (1 : Int32)), .unset, .unset, .unset, .unset] [(.int (1 : Int32))])) _
          rw [show ok0 = (1 : Int32) from by rw [h_ok0]; rw [if_pos hc139_64]] at k
          exact k
        · skip
          refine XS.ifNo X53.here hx rfl (hb hby at_139) rfl (XT.i0_lt_f hc139_64) ?_
          show Steps p.tables e below (T53.setTop (mkF m 142 #[.val (.int x0), .val (.int x1), .val (.int x2), .val (.int x3), .val (.int x4), .val (.int nn), .val (.int i0), .val (.int i1), .val (.int i2), .val (.int o0), .val (.int o1), .val (.int o2), .val (.ref b1), .val (.int (1 : Int32)), .unset, .unset, .unset, .unset] [])) _
          refine XS.iload X53.here hx rfl (hb hby at_142) rfl ?_
          show Steps p.tables e below (T53.setTop (mkF m 144 #[.val (.int x0), .val (.int x1), .val (.int x2), .val (.int x3), .val (.int x4), .val (.int nn), .val (.int i0), .val (.int i1), .val (.int i2), .val (.int o0), .val (.int o1), .val (.int o2), .val (.ref b1), .val (.int (1 : Int32)), .unset, .unset, .unset, .unset] [(.int o0)])) _
          refine XS.iload X53.here hx rfl (hb hby at_144) rfl ?_
          show Steps p.tables e below (T53.setTop (mkF m 146 #[.val (.int x0), .val (.int x1), .val (.int x2), .val (.int x3), .val (.int x4), .val (.int nn), .val (.int i0), .val (.int i1), .val (.int i2), .val (.int o0), .val (.int o1), .val (.int o2), .val (.ref b1), .val (.int (1 : Int32)), .unset, .unset, .unset, .unset] [(.int i0), (.int o0)])) _
          by_cases hc146_65 : o0 = i0
          · skip
            refine XS.icmpNo X53.here hx rfl (hb hby at_146) rfl (XT.ii_ne_f hc146_65) ?_
            show Steps p.tables e below (T53.setTop (mkF m 149 #[.val (.int x0), .val (.int x1), .val (.int x2), .val (.int x3), .val (.int x4), .val (.int nn), .val (.int i0), .val (.int i1), .val (.int i2), .val (.int o0), .val (.int o1), .val (.int o2), .val (.ref b1), .val (.int (1 : Int32)), .unset, .unset, .unset, .unset] [])) _
            refine XS.iconst X53.here hx rfl (hb hby at_149) ?_
            show Steps p.tables e below (T53.setTop (mkF m 150 #[.val (.int x0), .val (.int x1), .val (.int x2), .val (.int x3), .val (.int x4), .val (.int nn), .val (.int i0), .val (.int i1), .val (.int i2), .val (.int o0), .val (.int o1), .val (.int o2), .val (.ref b1), .val (.int (1 : Int32)), .unset, .unset, .unset, .unset] [(.int (1 : Int32))])) _
            refine XS.goto X53.here hx rfl (pc0 := 150) (pc' := 154) rfl (hb hby at_150) (by decide) (by decide) ?_
            show Steps p.tables e below (T53.setTop (mkF m 154 #[.val (.int x0), .val (.int x1), .val (.int x2), .val (.int x3), .val (.int x4), .val (.int nn), .val (.int i0), .val (.int i1), .val (.int i2), .val (.int o0), .val (.int o1), .val (.int o2), .val (.ref b1), .val (.int (1 : Int32)), .unset, .unset, .unset, .unset] [(.int (1 : Int32))])) _
            rw [show ok0 = (1 : Int32) from by rw [h_ok0]; rw [if_neg hc139_64, if_pos hc146_65]] at k
            exact k
          · skip
            refine XS.icmpYes X53.here hx rfl (pc0 := 146) (pc' := 153) rfl (hb hby at_146) rfl (XT.ii_ne_t hc146_65) (by decide) (by decide) ?_
            show Steps p.tables e below (T53.setTop (mkF m 153 #[.val (.int x0), .val (.int x1), .val (.int x2), .val (.int x3), .val (.int x4), .val (.int nn), .val (.int i0), .val (.int i1), .val (.int i2), .val (.int o0), .val (.int o1), .val (.int o2), .val (.ref b1), .val (.int (1 : Int32)), .unset, .unset, .unset, .unset] [])) _
            refine XS.iconst X53.here hx rfl (hb hby at_153) ?_
            show Steps p.tables e below (T53.setTop (mkF m 154 #[.val (.int x0), .val (.int x1), .val (.int x2), .val (.int x3), .val (.int x4), .val (.int nn), .val (.int i0), .val (.int i1), .val (.int i2), .val (.int o0), .val (.int o1), .val (.int o2), .val (.ref b1), .val (.int (1 : Int32)), .unset, .unset, .unset, .unset] [(.int (0 : Int32))])) _
            rw [show ok0 = (0 : Int32) from by rw [h_ok0]; rw [if_neg hc139_64, if_neg hc146_65]] at k
            exact k
      have pre67 : Go p e below (s₁.setTop (entryFrame m #[(.int x0), (.int x1), (.int x2), (.int x3), (.int x4)] maxLocals)) (T53.setTop (mkF m 159 #[.val (.int x0), .val (.int x1), .val (.int x2), .val (.int x3), .val (.int x4), .val (.int nn), .val (.int i0), .val (.int i1), .val (.int i2), .val (.int o0), .val (.int o1), .val (.int o2), .val (.ref b1), .val (.int (1 : Int32)), .val (.int ok0), .unset, .unset, .unset] [(.int (2 : Int32)), (.int nn)])) := by
        intro t k
        refine pre66 t ?_
        show Steps p.tables e below (T53.setTop (mkF m 154 #[.val (.int x0), .val (.int x1), .val (.int x2), .val (.int x3), .val (.int x4), .val (.int nn), .val (.int i0), .val (.int i1), .val (.int i2), .val (.int o0), .val (.int o1), .val (.int o2), .val (.ref b1), .val (.int (1 : Int32)), .unset, .unset, .unset, .unset] [(.int ok0)])) _
        refine XS.istore X53.here hx rfl (hb hby at_154) rfl (l' := #[.val (.int x0), .val (.int x1), .val (.int x2), .val (.int x3), .val (.int x4), .val (.int nn), .val (.int i0), .val (.int i1), .val (.int i2), .val (.int o0), .val (.int o1), .val (.int o2), .val (.ref b1), .val (.int (1 : Int32)), .val (.int ok0), .unset, .unset, .unset]) rfl ?_
        show Steps p.tables e below (T53.setTop (mkF m 156 #[.val (.int x0), .val (.int x1), .val (.int x2), .val (.int x3), .val (.int x4), .val (.int nn), .val (.int i0), .val (.int i1), .val (.int i2), .val (.int o0), .val (.int o1), .val (.int o2), .val (.ref b1), .val (.int (1 : Int32)), .val (.int ok0), .unset, .unset, .unset] [])) _
        refine XS.iload X53.here hx rfl (hb hby at_156) rfl ?_
        show Steps p.tables e below (T53.setTop (mkF m 158 #[.val (.int x0), .val (.int x1), .val (.int x2), .val (.int x3), .val (.int x4), .val (.int nn), .val (.int i0), .val (.int i1), .val (.int i2), .val (.int o0), .val (.int o1), .val (.int o2), .val (.ref b1), .val (.int (1 : Int32)), .val (.int ok0), .unset, .unset, .unset] [(.int nn)])) _
        refine XS.iconst X53.here hx rfl (hb hby at_158) ?_
        show Steps p.tables e below (T53.setTop (mkF m 159 #[.val (.int x0), .val (.int x1), .val (.int x2), .val (.int x3), .val (.int x4), .val (.int nn), .val (.int i0), .val (.int i1), .val (.int i2), .val (.int o0), .val (.int o1), .val (.int o2), .val (.ref b1), .val (.int (1 : Int32)), .val (.int ok0), .unset, .unset, .unset] [(.int (2 : Int32)), (.int nn)])) _
        exact k
      have pre68 : Go p e below (s₁.setTop (entryFrame m #[(.int x0), (.int x1), (.int x2), (.int x3), (.int x4)] maxLocals)) (T53.setTop (mkF m 179 #[.val (.int x0), .val (.int x1), .val (.int x2), .val (.int x3), .val (.int x4), .val (.int nn), .val (.int i0), .val (.int i1), .val (.int i2), .val (.int o0), .val (.int o1), .val (.int o2), .val (.ref b1), .val (.int (1 : Int32)), .val (.int ok0), .unset, .unset, .unset] [(.int (1 : Int32))])) := by
        intro t k
        refine pre67 t ?_
        show Steps p.tables e below (T53.setTop (mkF m 159 #[.val (.int x0), .val (.int x1), .val (.int x2), .val (.int x3), .val (.int x4), .val (.int nn), .val (.int i0), .val (.int i1), .val (.int i2), .val (.int o0), .val (.int o1), .val (.int o2), .val (.ref b1), .val (.int (1 : Int32)), .val (.int ok0), .unset, .unset, .unset] [(.int (2 : Int32)), (.int nn)])) _
        refine XS.icmpYes X53.here hx rfl (pc0 := 159) (pc' := 174) rfl (hb hby at_159) rfl (XT.ii_lt_t hc67_58) (by decide) (by decide) ?_
        show Steps p.tables e below (T53.setTop (mkF m 174 #[.val (.int x0), .val (.int x1), .val (.int x2), .val (.int x3), .val (.int x4), .val (.int nn), .val (.int i0), .val (.int i1), .val (.int i2), .val (.int o0), .val (.int o1), .val (.int o2), .val (.ref b1), .val (.int (1 : Int32)), .val (.int ok0), .unset, .unset, .unset] [])) _
        refine XS.iconst X53.here hx rfl (hb hby at_174) ?_
        show Steps p.tables e below (T53.setTop (mkF m 175 #[.val (.int x0), .val (.int x1), .val (.int x2), .val (.int x3), .val (.int x4), .val (.int nn), .val (.int i0), .val (.int i1), .val (.int i2), .val (.int o0), .val (.int o1), .val (.int o2), .val (.ref b1), .val (.int (1 : Int32)), .val (.int ok0), .unset, .unset, .unset] [(.int (1 : Int32))])) _
        refine XS.goto X53.here hx rfl (pc0 := 175) (pc' := 179) rfl (hb hby at_175) (by decide) (by decide) ?_
        show Steps p.tables e below (T53.setTop (mkF m 179 #[.val (.int x0), .val (.int x1), .val (.int x2), .val (.int x3), .val (.int x4), .val (.int nn), .val (.int i0), .val (.int i1), .val (.int i2), .val (.int o0), .val (.int o1), .val (.int o2), .val (.ref b1), .val (.int (1 : Int32)), .val (.int ok0), .unset, .unset, .unset] [(.int (1 : Int32))])) _
        exact k
      have pre69 : Go p e below (s₁.setTop (entryFrame m #[(.int x0), (.int x1), (.int x2), (.int x3), (.int x4)] maxLocals)) (T53.setTop (mkF m 184 #[.val (.int x0), .val (.int x1), .val (.int x2), .val (.int x3), .val (.int x4), .val (.int nn), .val (.int i0), .val (.int i1), .val (.int i2), .val (.int o0), .val (.int o1), .val (.int o2), .val (.ref b1), .val (.int (1 : Int32)), .val (.int ok0), .val (.int (1 : Int32)), .unset, .unset] [(.int (3 : Int32)), (.int nn)])) := by
        intro t k
        refine pre68 t ?_
        show Steps p.tables e below (T53.setTop (mkF m 179 #[.val (.int x0), .val (.int x1), .val (.int x2), .val (.int x3), .val (.int x4), .val (.int nn), .val (.int i0), .val (.int i1), .val (.int i2), .val (.int o0), .val (.int o1), .val (.int o2), .val (.ref b1), .val (.int (1 : Int32)), .val (.int ok0), .unset, .unset, .unset] [(.int (1 : Int32))])) _
        refine XS.istore X53.here hx rfl (hb hby at_179) rfl (l' := #[.val (.int x0), .val (.int x1), .val (.int x2), .val (.int x3), .val (.int x4), .val (.int nn), .val (.int i0), .val (.int i1), .val (.int i2), .val (.int o0), .val (.int o1), .val (.int o2), .val (.ref b1), .val (.int (1 : Int32)), .val (.int ok0), .val (.int (1 : Int32)), .unset, .unset]) rfl ?_
        show Steps p.tables e below (T53.setTop (mkF m 181 #[.val (.int x0), .val (.int x1), .val (.int x2), .val (.int x3), .val (.int x4), .val (.int nn), .val (.int i0), .val (.int i1), .val (.int i2), .val (.int o0), .val (.int o1), .val (.int o2), .val (.ref b1), .val (.int (1 : Int32)), .val (.int ok0), .val (.int (1 : Int32)), .unset, .unset] [])) _
        refine XS.iload X53.here hx rfl (hb hby at_181) rfl ?_
        show Steps p.tables e below (T53.setTop (mkF m 183 #[.val (.int x0), .val (.int x1), .val (.int x2), .val (.int x3), .val (.int x4), .val (.int nn), .val (.int i0), .val (.int i1), .val (.int i2), .val (.int o0), .val (.int o1), .val (.int o2), .val (.ref b1), .val (.int (1 : Int32)), .val (.int ok0), .val (.int (1 : Int32)), .unset, .unset] [(.int nn)])) _
        refine XS.iconst X53.here hx rfl (hb hby at_183) ?_
        show Steps p.tables e below (T53.setTop (mkF m 184 #[.val (.int x0), .val (.int x1), .val (.int x2), .val (.int x3), .val (.int x4), .val (.int nn), .val (.int i0), .val (.int i1), .val (.int i2), .val (.int o0), .val (.int o1), .val (.int o2), .val (.ref b1), .val (.int (1 : Int32)), .val (.int ok0), .val (.int (1 : Int32)), .unset, .unset] [(.int (3 : Int32)), (.int nn)])) _
        exact k
      have pre70 : Go p e below (s₁.setTop (entryFrame m #[(.int x0), (.int x1), (.int x2), (.int x3), (.int x4)] maxLocals)) (T53.setTop (mkF m 204 #[.val (.int x0), .val (.int x1), .val (.int x2), .val (.int x3), .val (.int x4), .val (.int nn), .val (.int i0), .val (.int i1), .val (.int i2), .val (.int o0), .val (.int o1), .val (.int o2), .val (.ref b1), .val (.int (1 : Int32)), .val (.int ok0), .val (.int (1 : Int32)), .unset, .unset] [(.int (1 : Int32))])) := by
        intro t k
        refine pre69 t ?_
        show Steps p.tables e below (T53.setTop (mkF m 184 #[.val (.int x0), .val (.int x1), .val (.int x2), .val (.int x3), .val (.int x4), .val (.int nn), .val (.int i0), .val (.int i1), .val (.int i2), .val (.int o0), .val (.int o1), .val (.int o2), .val (.ref b1), .val (.int (1 : Int32)), .val (.int ok0), .val (.int (1 : Int32)), .unset, .unset] [(.int (3 : Int32)), (.int nn)])) _
        refine XS.icmpYes X53.here hx rfl (pc0 := 184) (pc' := 199) rfl (hb hby at_184) rfl (XT.ii_lt_t hc84_60) (by decide) (by decide) ?_
        show Steps p.tables e below (T53.setTop (mkF m 199 #[.val (.int x0), .val (.int x1), .val (.int x2), .val (.int x3), .val (.int x4), .val (.int nn), .val (.int i0), .val (.int i1), .val (.int i2), .val (.int o0), .val (.int o1), .val (.int o2), .val (.ref b1), .val (.int (1 : Int32)), .val (.int ok0), .val (.int (1 : Int32)), .unset, .unset] [])) _
        refine XS.iconst X53.here hx rfl (hb hby at_199) ?_
        show Steps p.tables e below (T53.setTop (mkF m 200 #[.val (.int x0), .val (.int x1), .val (.int x2), .val (.int x3), .val (.int x4), .val (.int nn), .val (.int i0), .val (.int i1), .val (.int i2), .val (.int o0), .val (.int o1), .val (.int o2), .val (.ref b1), .val (.int (1 : Int32)), .val (.int ok0), .val (.int (1 : Int32)), .unset, .unset] [(.int (1 : Int32))])) _
        refine XS.goto X53.here hx rfl (pc0 := 200) (pc' := 204) rfl (hb hby at_200) (by decide) (by decide) ?_
        show Steps p.tables e below (T53.setTop (mkF m 204 #[.val (.int x0), .val (.int x1), .val (.int x2), .val (.int x3), .val (.int x4), .val (.int nn), .val (.int i0), .val (.int i1), .val (.int i2), .val (.int o0), .val (.int o1), .val (.int o2), .val (.ref b1), .val (.int (1 : Int32)), .val (.int ok0), .val (.int (1 : Int32)), .unset, .unset] [(.int (1 : Int32))])) _
        exact k
      have pre71 : Go p e below (s₁.setTop (entryFrame m #[(.int x0), (.int x1), (.int x2), (.int x3), (.int x4)] maxLocals)) (T53.setTop (mkF m 208 #[.val (.int x0), .val (.int x1), .val (.int x2), .val (.int x3), .val (.int x4), .val (.int nn), .val (.int i0), .val (.int i1), .val (.int i2), .val (.int o0), .val (.int o1), .val (.int o2), .val (.ref b1), .val (.int (1 : Int32)), .val (.int ok0), .val (.int (1 : Int32)), .val (.int (1 : Int32)), .unset] [(.int (1 : Int32))])) := by
        intro t k
        refine pre70 t ?_
        show Steps p.tables e below (T53.setTop (mkF m 204 #[.val (.int x0), .val (.int x1), .val (.int x2), .val (.int x3), .val (.int x4), .val (.int nn), .val (.int i0), .val (.int i1), .val (.int i2), .val (.int o0), .val (.int o1), .val (.int o2), .val (.ref b1), .val (.int (1 : Int32)), .val (.int ok0), .val (.int (1 : Int32)), .unset, .unset] [(.int (1 : Int32))])) _
        refine XS.istore X53.here hx rfl (hb hby at_204) rfl (l' := #[.val (.int x0), .val (.int x1), .val (.int x2), .val (.int x3), .val (.int x4), .val (.int nn), .val (.int i0), .val (.int i1), .val (.int i2), .val (.int o0), .val (.int o1), .val (.int o2), .val (.ref b1), .val (.int (1 : Int32)), .val (.int ok0), .val (.int (1 : Int32)), .val (.int (1 : Int32)), .unset]) rfl ?_
        show Steps p.tables e below (T53.setTop (mkF m 206 #[.val (.int x0), .val (.int x1), .val (.int x2), .val (.int x3), .val (.int x4), .val (.int nn), .val (.int i0), .val (.int i1), .val (.int i2), .val (.int o0), .val (.int o1), .val (.int o2), .val (.ref b1), .val (.int (1 : Int32)), .val (.int ok0), .val (.int (1 : Int32)), .val (.int (1 : Int32)), .unset] [])) _
        refine XS.iload X53.here hx rfl (hb hby at_206) rfl ?_
        show Steps p.tables e below (T53.setTop (mkF m 208 #[.val (.int x0), .val (.int x1), .val (.int x2), .val (.int x3), .val (.int x4), .val (.int nn), .val (.int i0), .val (.int i1), .val (.int i2), .val (.int o0), .val (.int o1), .val (.int o2), .val (.ref b1), .val (.int (1 : Int32)), .val (.int ok0), .val (.int (1 : Int32)), .val (.int (1 : Int32)), .unset] [(.int (1 : Int32))])) _
        exact k
      obtain ⟨ex, h_ex⟩ : ∃ z : Int32, z = (if ok0 = (0 : Int32) then (0 : Int32) else (1 : Int32)) := ⟨_, rfl⟩
      have pre73 : Go p e below (s₁.setTop (entryFrame m #[(.int x0), (.int x1), (.int x2), (.int x3), (.int x4)] maxLocals)) (T53.setTop (mkF m 231 #[.val (.int x0), .val (.int x1), .val (.int x2), .val (.int x3), .val (.int x4), .val (.int nn), .val (.int i0), .val (.int i1), .val (.int i2), .val (.int o0), .val (.int o1), .val (.int o2), .val (.ref b1), .val (.int (1 : Int32)), .val (.int ok0), .val (.int (1 : Int32)), .val (.int (1 : Int32)), .unset] [(.int ex)])) := by
        intro t k
        refine pre71 t ?_
        show Steps p.tables e below (T53.setTop (mkF m 208 #[.val (.int x0), .val (.int x1), .val (.int x2), .val (.int x3), .val (.int x4), .val (.int nn), .val (.int i0), .val (.int i1), .val (.int i2), .val (.int o0), .val (.int o1), .val (.int o2), .val (.ref b1), .val (.int (1 : Int32)), .val (.int ok0), .val (.int (1 : Int32)), .val (.int (1 : Int32)), .unset] [(.int (1 : Int32))])) _
        refine XS.ifNo X53.here hx rfl (hb hby at_208) rfl (XT.i0_eq_f (by decide : ¬ ((1 : Int32) = (0 : Int32)))) ?_
        show Steps p.tables e below (T53.setTop (mkF m 211 #[.val (.int x0), .val (.int x1), .val (.int x2), .val (.int x3), .val (.int x4), .val (.int nn), .val (.int i0), .val (.int i1), .val (.int i2), .val (.int o0), .val (.int o1), .val (.int o2), .val (.ref b1), .val (.int (1 : Int32)), .val (.int ok0), .val (.int (1 : Int32)), .val (.int (1 : Int32)), .unset] [])) _
        refine XS.iload X53.here hx rfl (hb hby at_211) rfl ?_
        show Steps p.tables e below (T53.setTop (mkF m 213 #[.val (.int x0), .val (.int x1), .val (.int x2), .val (.int x3), .val (.int x4), .val (.int nn), .val (.int i0), .val (.int i1), .val (.int i2), .val (.int o0), .val (.int o1), .val (.int o2), .val (.ref b1), .val (.int (1 : Int32)), .val (.int ok0), .val (.int (1 : Int32)), .val (.int (1 : Int32)), .unset] [(.int ok0)])) _
        by_cases hc213_72 : ok0 = (0 : Int32)
        · skip
          refine XS.ifYes X53.here hx rfl (pc0 := 213) (pc' := 230) rfl (hb hby at_213) rfl (XT.i0_eq_t hc213_72) (by decide) (by decide) ?_
          show Steps p.tables e below (T53.setTop (mkF m 230 #[.val (.int x0), .val (.int x1), .val (.int x2), .val (.int x3), .val (.int x4), .val (.int nn), .val (.int i0), .val (.int i1), .val (.int i2), .val (.int o0), .val (.int o1), .val (.int o2), .val (.ref b1), .val (.int (1 : Int32)), .val (.int ok0), .val (.int (1 : Int32)), .val (.int (1 : Int32)), .unset] [])) _
          refine XS.iconst X53.here hx rfl (hb hby at_230) ?_
          show Steps p.tables e below (T53.setTop (mkF m 231 #[.val (.int x0), .val (.int x1), .val (.int x2), .val (.int x3), .val (.int x4), .val (.int nn), .val (.int i0), .val (.int i1), .val (.int i2), .val (.int o0), .val (.int o1), .val (.int o2), .val (.ref b1), .val (.int (1 : Int32)), .val (.int ok0), .val (.int (1 : Int32)), .val (.int (1 : Int32)), .unset] [(.int (0 : Int32))])) _
          rw [show ex = (0 : Int32) from by rw [h_ex]; rw [if_pos hc213_72]] at k
          exact k
        · skip
          refine XS.ifNo X53.here hx rfl (hb hby at_213) rfl (XT.i0_eq_f hc213_72) ?_
          show Steps p.tables e below (T53.setTop (mkF m 216 #[.val (.int x0), .val (.int x1), .val (.int x2), .val (.int x3), .val (.int x4), .val (.int nn), .val (.int i0), .val (.int i1), .val (.int i2), .val (.int o0), .val (.int o1), .val (.int o2), .val (.ref b1), .val (.int (1 : Int32)), .val (.int ok0), .val (.int (1 : Int32)), .val (.int (1 : Int32)), .unset] [])) _
          refine XS.iload X53.here hx rfl (hb hby at_216) rfl ?_
          show Steps p.tables e below (T53.setTop (mkF m 218 #[.val (.int x0), .val (.int x1), .val (.int x2), .val (.int x3), .val (.int x4), .val (.int nn), .val (.int i0), .val (.int i1), .val (.int i2), .val (.int o0), .val (.int o1), .val (.int o2), .val (.ref b1), .val (.int (1 : Int32)), .val (.int ok0), .val (.int (1 : Int32)), .val (.int (1 : Int32)), .unset] [(.int (1 : Int32))])) _
          refine XS.ifNo X53.here hx rfl (hb hby at_218) rfl (XT.i0_eq_f (by decide : ¬ ((1 : Int32) = (0 : Int32)))) ?_
          show Steps p.tables e below (T53.setTop (mkF m 221 #[.val (.int x0), .val (.int x1), .val (.int x2), .val (.int x3), .val (.int x4), .val (.int nn), .val (.int i0), .val (.int i1), .val (.int i2), .val (.int o0), .val (.int o1), .val (.int o2), .val (.ref b1), .val (.int (1 : Int32)), .val (.int ok0), .val (.int (1 : Int32)), .val (.int (1 : Int32)), .unset] [])) _
          refine XS.iload X53.here hx rfl (hb hby at_221) rfl ?_
          show Steps p.tables e below (T53.setTop (mkF m 223 #[.val (.int x0), .val (.int x1), .val (.int x2), .val (.int x3), .val (.int x4), .val (.int nn), .val (.int i0), .val (.int i1), .val (.int i2), .val (.int o0), .val (.int o1), .val (.int o2), .val (.ref b1), .val (.int (1 : Int32)), .val (.int ok0), .val (.int (1 : Int32)), .val (.int (1 : Int32)), .unset] [(.int (1 : Int32))])) _
          refine XS.ifNo X53.here hx rfl (hb hby at_223) rfl (XT.i0_eq_f (by decide : ¬ ((1 : Int32) = (0 : Int32)))) ?_
          show Steps p.tables e below (T53.setTop (mkF m 226 #[.val (.int x0), .val (.int x1), .val (.int x2), .val (.int x3), .val (.int x4), .val (.int nn), .val (.int i0), .val (.int i1), .val (.int i2), .val (.int o0), .val (.int o1), .val (.int o2), .val (.ref b1), .val (.int (1 : Int32)), .val (.int ok0), .val (.int (1 : Int32)), .val (.int (1 : Int32)), .unset] [])) _
          refine XS.iconst X53.here hx rfl (hb hby at_226) ?_
          show Steps p.tables e below (T53.setTop (mkF m 227 #[.val (.int x0), .val (.int x1), .val (.int x2), .val (.int x3), .val (.int x4), .val (.int nn), .val (.int i0), .val (.int i1), .val (.int i2), .val (.int o0), .val (.int o1), .val (.int o2), .val (.ref b1), .val (.int (1 : Int32)), .val (.int ok0), .val (.int (1 : Int32)), .val (.int (1 : Int32)), .unset] [(.int (1 : Int32))])) _
          refine XS.goto X53.here hx rfl (pc0 := 227) (pc' := 231) rfl (hb hby at_227) (by decide) (by decide) ?_
          show Steps p.tables e below (T53.setTop (mkF m 231 #[.val (.int x0), .val (.int x1), .val (.int x2), .val (.int x3), .val (.int x4), .val (.int nn), .val (.int i0), .val (.int i1), .val (.int i2), .val (.int o0), .val (.int o1), .val (.int o2), .val (.ref b1), .val (.int (1 : Int32)), .val (.int ok0), .val (.int (1 : Int32)), .val (.int (1 : Int32)), .unset] [(.int (1 : Int32))])) _
          rw [show ex = (1 : Int32) from by rw [h_ex]; rw [if_neg hc213_72]] at k
          exact k
      have pre74 : Go p e below (s₁.setTop (entryFrame m #[(.int x0), (.int x1), (.int x2), (.int x3), (.int x4)] maxLocals)) (T53.setTop (mkF m 235 #[.val (.int x0), .val (.int x1), .val (.int x2), .val (.int x3), .val (.int x4), .val (.int nn), .val (.int i0), .val (.int i1), .val (.int i2), .val (.int o0), .val (.int o1), .val (.int o2), .val (.ref b1), .val (.int (1 : Int32)), .val (.int ok0), .val (.int (1 : Int32)), .val (.int (1 : Int32)), .val (.int ex)] [(.ref b1)])) := by
        intro t k
        refine pre73 t ?_
        show Steps p.tables e below (T53.setTop (mkF m 231 #[.val (.int x0), .val (.int x1), .val (.int x2), .val (.int x3), .val (.int x4), .val (.int nn), .val (.int i0), .val (.int i1), .val (.int i2), .val (.int o0), .val (.int o1), .val (.int o2), .val (.ref b1), .val (.int (1 : Int32)), .val (.int ok0), .val (.int (1 : Int32)), .val (.int (1 : Int32)), .unset] [(.int ex)])) _
        refine XS.istore X53.here hx rfl (hb hby at_231) rfl (l' := #[.val (.int x0), .val (.int x1), .val (.int x2), .val (.int x3), .val (.int x4), .val (.int nn), .val (.int i0), .val (.int i1), .val (.int i2), .val (.int o0), .val (.int o1), .val (.int o2), .val (.ref b1), .val (.int (1 : Int32)), .val (.int ok0), .val (.int (1 : Int32)), .val (.int (1 : Int32)), .val (.int ex)]) rfl ?_
        show Steps p.tables e below (T53.setTop (mkF m 233 #[.val (.int x0), .val (.int x1), .val (.int x2), .val (.int x3), .val (.int x4), .val (.int nn), .val (.int i0), .val (.int i1), .val (.int i2), .val (.int o0), .val (.int o1), .val (.int o2), .val (.ref b1), .val (.int (1 : Int32)), .val (.int ok0), .val (.int (1 : Int32)), .val (.int (1 : Int32)), .val (.int ex)] [])) _
        refine XS.aload X53.here hx rfl (hb hby at_233) rfl rfl ?_
        show Steps p.tables e below (T53.setTop (mkF m 235 #[.val (.int x0), .val (.int x1), .val (.int x2), .val (.int x3), .val (.int x4), .val (.int nn), .val (.int i0), .val (.int i1), .val (.int i2), .val (.int o0), .val (.int o1), .val (.int o2), .val (.ref b1), .val (.int (1 : Int32)), .val (.int ok0), .val (.int (1 : Int32)), .val (.int (1 : Int32)), .val (.int ex)] [(.ref b1)])) _
        exact k
      obtain ⟨cq75, kq75, q75a, q75b, q75c⟩ := isOf hZ rfl X53e_b1
      obtain ⟨_, _, ⟨T75, L75, k75, n75⟩, -, X75, ⟨Lc75, hQ75, l75, y75, z75⟩, st75⟩ := X53.virtualBack hx (y := (⟨"lightbin/AgreementResult$Run", "validity", "()Z"⟩ : MethodName)) (z := (⟨"lightbin/AgreementResult$Run", "validity", "()Z"⟩ : MethodName)) hown (mvT hZ (hw _ (List.mem_of_getElem? (i := 17) rfl))) (mvT hZ (hw _ (List.mem_of_getElem? (i := 18) rfl))) (notFace_of_selects (args := #[]) (mvT hZ (hw _ (List.mem_of_getElem? (i := 20) rfl)))) (mvT hZ (hw _ (List.mem_of_getElem? (i := 20) rfl))) (mvT hZ (hw _ (List.mem_of_getElem? (i := 19) rfl))) (by decide) (backOf (W := 0) (rm4 l Z a0 hw [] b1 (own_fi (0 : Int32) i0 (-1 : Int32)) (own_ie (nar .boolean (1 : Int32)) i0 (own_fi (0 : Int32) i0 (-1 : Int32))) (own_on o0 (0 : Int32)) (own_ze o0 (0 : Int32)) T53.heap n0 zz55 F53_firstInput_b1 F53_inputsEqual_b1 F53_ones_b1 F53_zeros_b1) hZ (hw _ (List.mem_of_getElem? (i := 21) rfl)) (hw _ (List.mem_of_getElem? (i := 6) rfl)) (by decide) (by decide)) q75a q75c (g := (mkF m 235 #[.val (.int x0), .val (.int x1), .val (.int x2), .val (.int x3), .val (.int x4), .val (.int nn), .val (.int i0), .val (.int i1), .val (.int i2), .val (.int o0), .val (.int o1), .val (.int o2), .val (.ref b1), .val (.int (1 : Int32)), .val (.int ok0), .val (.int (1 : Int32)), .val (.int (1 : Int32)), .val (.int ex)] [(.ref b1)])) rfl (by rw [hml]; rfl) (Steps.refl _) (argsL := []) (rest := []) (lenOf pd_8 rfl) rfl (by show 2 * 0 + _ ≤ _; exact Nat.le_of_eq rfl) (hb hby at_235) (fun _ _ => ⟨rfl, rfl, (by decide : 1 + 0 ≤ _), (by decide : 6 + 0 ≤ _)⟩)
      dsimp only [Pt.U, Pt.locs, Pt.cells, Pt.slots] at X75 l75 y75 z75 st75 hQ75
      subst l75 y75 z75
      obtain ⟨rfl, N75q, hh75⟩ := hQ75
      have N75 := Fr.app N53 N75q
      have pre76 : Go p e below (s₁.setTop (entryFrame m #[(.int x0), (.int x1), (.int x2), (.int x3), (.int x4)] maxLocals)) (T75.setTop (mkF m 238 #[.val (.int x0), .val (.int x1), .val (.int x2), .val (.int x3), .val (.int x4), .val (.int nn), .val (.int i0), .val (.int i1), .val (.int i2), .val (.int o0), .val (.int o1), .val (.int o2), .val (.ref b1), .val (.int (1 : Int32)), .val (.int ok0), .val (.int (1 : Int32)), .val (.int (1 : Int32)), .val (.int ex)] [(.int (fval (own_fi (0 : Int32) i0 (-1 : Int32)) (own_ie (nar .boolean (1 : Int32)) i0 (own_fi (0 : Int32) i0 (-1 : Int32))) (own_on o0 (0 : Int32)) (own_ze o0 (0 : Int32))))])) := fun t k => pre74 t (st75.trans k)
      have pre77 : Go p e below (s₁.setTop (entryFrame m #[(.int x0), (.int x1), (.int x2), (.int x3), (.int x4)] maxLocals)) (T75.setTop (mkF m 240 #[.val (.int x0), .val (.int x1), .val (.int x2), .val (.int x3), .val (.int x4), .val (.int nn), .val (.int i0), .val (.int i1), .val (.int i2), .val (.int o0), .val (.int o1), .val (.int o2), .val (.ref b1), .val (.int (1 : Int32)), .val (.int ok0), .val (.int (1 : Int32)), .val (.int (1 : Int32)), .val (.int ex)] [(.int ex), (.int (fval (own_fi (0 : Int32) i0 (-1 : Int32)) (own_ie (nar .boolean (1 : Int32)) i0 (own_fi (0 : Int32) i0 (-1 : Int32))) (own_on o0 (0 : Int32)) (own_ze o0 (0 : Int32))))])) := by
        intro t k
        refine pre76 t ?_
        show Steps p.tables e below (T75.setTop (mkF m 238 #[.val (.int x0), .val (.int x1), .val (.int x2), .val (.int x3), .val (.int x4), .val (.int nn), .val (.int i0), .val (.int i1), .val (.int i2), .val (.int o0), .val (.int o1), .val (.int o2), .val (.ref b1), .val (.int (1 : Int32)), .val (.int ok0), .val (.int (1 : Int32)), .val (.int (1 : Int32)), .val (.int ex)] [(.int (fval (own_fi (0 : Int32) i0 (-1 : Int32)) (own_ie (nar .boolean (1 : Int32)) i0 (own_fi (0 : Int32) i0 (-1 : Int32))) (own_on o0 (0 : Int32)) (own_ze o0 (0 : Int32))))])) _
        refine XS.iload X75.here hx rfl (hb hby at_238) rfl ?_
        show Steps p.tables e below (T75.setTop (mkF m 240 #[.val (.int x0), .val (.int x1), .val (.int x2), .val (.int x3), .val (.int x4), .val (.int nn), .val (.int i0), .val (.int i1), .val (.int i2), .val (.int o0), .val (.int o1), .val (.int o2), .val (.ref b1), .val (.int (1 : Int32)), .val (.int ok0), .val (.int (1 : Int32)), .val (.int (1 : Int32)), .val (.int ex)] [(.int ex), (.int (fval (own_fi (0 : Int32) i0 (-1 : Int32)) (own_ie (nar .boolean (1 : Int32)) i0 (own_fi (0 : Int32) i0 (-1 : Int32))) (own_on o0 (0 : Int32)) (own_ze o0 (0 : Int32))))])) _
        exact k
      have hc240_78 : (fval (own_fi (0 : Int32) i0 (-1 : Int32)) (own_ie (nar .boolean (1 : Int32)) i0 (own_fi (0 : Int32) i0 (-1 : Int32))) (own_on o0 (0 : Int32)) (own_ze o0 (0 : Int32))) = ex := by
        rw [h_ex, h_ok0]; exact own_q1 _ hi0 _ ho0
      have pre79 : Go p e below (s₁.setTop (entryFrame m #[(.int x0), (.int x1), (.int x2), (.int x3), (.int x4)] maxLocals)) (T75.setTop (mkF m 248 #[.val (.int x0), .val (.int x1), .val (.int x2), .val (.int x3), .val (.int x4), .val (.int nn), .val (.int i0), .val (.int i1), .val (.int i2), .val (.int o0), .val (.int o1), .val (.int o2), .val (.ref b1), .val (.int (1 : Int32)), .val (.int ok0), .val (.int (1 : Int32)), .val (.int (1 : Int32)), .val (.int ex)] [(.int (1 : Int32))])) := by
        intro t k
        refine pre77 t ?_
        show Steps p.tables e below (T75.setTop (mkF m 240 #[.val (.int x0), .val (.int x1), .val (.int x2), .val (.int x3), .val (.int x4), .val (.int nn), .val (.int i0), .val (.int i1), .val (.int i2), .val (.int o0), .val (.int o1), .val (.int o2), .val (.ref b1), .val (.int (1 : Int32)), .val (.int ok0), .val (.int (1 : Int32)), .val (.int (1 : Int32)), .val (.int ex)] [(.int ex), (.int (fval (own_fi (0 : Int32) i0 (-1 : Int32)) (own_ie (nar .boolean (1 : Int32)) i0 (own_fi (0 : Int32) i0 (-1 : Int32))) (own_on o0 (0 : Int32)) (own_ze o0 (0 : Int32))))])) _
        refine XS.icmpNo X75.here hx rfl (hb hby at_240) rfl (XT.ii_ne_f hc240_78) ?_
        show Steps p.tables e below (T75.setTop (mkF m 243 #[.val (.int x0), .val (.int x1), .val (.int x2), .val (.int x3), .val (.int x4), .val (.int nn), .val (.int i0), .val (.int i1), .val (.int i2), .val (.int o0), .val (.int o1), .val (.int o2), .val (.ref b1), .val (.int (1 : Int32)), .val (.int ok0), .val (.int (1 : Int32)), .val (.int (1 : Int32)), .val (.int ex)] [])) _
        refine XS.iconst X75.here hx rfl (hb hby at_243) ?_
        show Steps p.tables e below (T75.setTop (mkF m 244 #[.val (.int x0), .val (.int x1), .val (.int x2), .val (.int x3), .val (.int x4), .val (.int nn), .val (.int i0), .val (.int i1), .val (.int i2), .val (.int o0), .val (.int o1), .val (.int o2), .val (.ref b1), .val (.int (1 : Int32)), .val (.int ok0), .val (.int (1 : Int32)), .val (.int (1 : Int32)), .val (.int ex)] [(.int (1 : Int32))])) _
        refine XS.goto X75.here hx rfl (pc0 := 244) (pc' := 248) rfl (hb hby at_244) (by decide) (by decide) ?_
        show Steps p.tables e below (T75.setTop (mkF m 248 #[.val (.int x0), .val (.int x1), .val (.int x2), .val (.int x3), .val (.int x4), .val (.int nn), .val (.int i0), .val (.int i1), .val (.int i2), .val (.int o0), .val (.int o1), .val (.int o2), .val (.ref b1), .val (.int (1 : Int32)), .val (.int ok0), .val (.int (1 : Int32)), .val (.int (1 : Int32)), .val (.int ex)] [(.int (1 : Int32))])) _
        exact k
      obtain ⟨fs, hr, hrun, hended, hW, hsame⟩ := X75.leave (hlocks := hlk) (v := some (.int (1 : Int32))) (fun h => by rw [Bd.returns] at h; cases h)
      refine ⟨_, _, pre79 _ (retN X75 hx (t := .boolean) Bd.returns (by simp) (hb hby at_248) hr), hrun, hended, _, _, rfl, ?_, ⟨_, rfl⟩, hW, hsame.mono (by decide) (by decide)⟩
      show Q0 Z x0 x1 x2 x3 x4 h0 n0 _ T75.heap _
      rw [hh75]
      exact ⟨rfl, N75⟩
    · skip
      have pre80 : Go p e below (s₁.setTop (entryFrame m #[(.int x0), (.int x1), (.int x2), (.int x3), (.int x4)] maxLocals)) (T53.setTop (mkF m 78 #[.val (.int x0), .val (.int x1), .val (.int x2), .val (.int x3), .val (.int x4), .val (.int nn), .val (.int i0), .val (.int i1), .val (.int i2), .val (.int o0), .val (.int o1), .val (.int o2), .val (.ref b1), .unset, .unset, .unset, .unset, .unset] [(.int x4), (.int o1), (.int i1), (.ref b1)])) := by
        intro t k
        refine pre57 t ?_
        show Steps p.tables e below (T53.setTop (mkF m 67 #[.val (.int x0), .val (.int x1), .val (.int x2), .val (.int x3), .val (.int x4), .val (.int nn), .val (.int i0), .val (.int i1), .val (.int i2), .val (.int o0), .val (.int o1), .val (.int o2), .val (.ref b1), .unset, .unset, .unset, .unset, .unset] [(.int (2 : Int32)), (.int nn)])) _
        refine XS.icmpNo X53.here hx rfl (hb hby at_67) rfl (XT.ii_lt_f hc67_58) ?_
        show Steps p.tables e below (T53.setTop (mkF m 70 #[.val (.int x0), .val (.int x1), .val (.int x2), .val (.int x3), .val (.int x4), .val (.int nn), .val (.int i0), .val (.int i1), .val (.int i2), .val (.int o0), .val (.int o1), .val (.int o2), .val (.ref b1), .unset, .unset, .unset, .unset, .unset] [])) _
        refine XS.aload X53.here hx rfl (hb hby at_70) rfl rfl ?_
        show Steps p.tables e below (T53.setTop (mkF m 72 #[.val (.int x0), .val (.int x1), .val (.int x2), .val (.int x3), .val (.int x4), .val (.int nn), .val (.int i0), .val (.int i1), .val (.int i2), .val (.int o0), .val (.int o1), .val (.int o2), .val (.ref b1), .unset, .unset, .unset, .unset, .unset] [(.ref b1)])) _
        refine XS.iload X53.here hx rfl (hb hby at_72) rfl ?_
        show Steps p.tables e below (T53.setTop (mkF m 74 #[.val (.int x0), .val (.int x1), .val (.int x2), .val (.int x3), .val (.int x4), .val (.int nn), .val (.int i0), .val (.int i1), .val (.int i2), .val (.int o0), .val (.int o1), .val (.int o2), .val (.ref b1), .unset, .unset, .unset, .unset, .unset] [(.int i1), (.ref b1)])) _
        refine XS.iload X53.here hx rfl (hb hby at_74) rfl ?_
        show Steps p.tables e below (T53.setTop (mkF m 76 #[.val (.int x0), .val (.int x1), .val (.int x2), .val (.int x3), .val (.int x4), .val (.int nn), .val (.int i0), .val (.int i1), .val (.int i2), .val (.int o0), .val (.int o1), .val (.int o2), .val (.ref b1), .unset, .unset, .unset, .unset, .unset] [(.int o1), (.int i1), (.ref b1)])) _
        refine XS.iload X53.here hx rfl (hb hby at_76) rfl ?_
        show Steps p.tables e below (T53.setTop (mkF m 78 #[.val (.int x0), .val (.int x1), .val (.int x2), .val (.int x3), .val (.int x4), .val (.int nn), .val (.int i0), .val (.int i1), .val (.int i2), .val (.int o0), .val (.int o1), .val (.int o2), .val (.ref b1), .unset, .unset, .unset, .unset, .unset] [(.int x4), (.int o1), (.int i1), (.ref b1)])) _
        exact k
      obtain ⟨cq81, kq81, q81a, q81b, q81c⟩ := isOf hZ rfl X53e_b1
      obtain ⟨_, _, ⟨T81, L81, k81, n81⟩, -, X81, ⟨Lc81, hQ81, l81, y81, z81⟩, st81⟩ := X53.virtualBack hx (y := (⟨"lightbin/AgreementResult$Run", "addHonest", "(III)V"⟩ : MethodName)) (z := (⟨"lightbin/AgreementResult$Run", "addHonest", "(III)V"⟩ : MethodName)) hown (mvT hZ (hw _ (List.mem_of_getElem? (i := 24) rfl))) (mvT hZ (hw _ (List.mem_of_getElem? (i := 25) rfl))) (notFace_of_selects (args := #[]) (mvT hZ (hw _ (List.mem_of_getElem? (i := 27) rfl)))) (mvT hZ (hw _ (List.mem_of_getElem? (i := 27) rfl))) (mvT hZ (hw _ (List.mem_of_getElem? (i := 26) rfl))) (by decide) (backOf (W := 0) (rm5 l Z a0 hw [] b1 i1 o1 x4 (own_fi (0 : Int32) i0 (-1 : Int32)) (own_ie (nar .boolean (1 : Int32)) i0 (own_fi (0 : Int32) i0 (-1 : Int32))) ((0 : Int32) + (1 : Int32)) (own_on o0 (0 : Int32)) (own_ze o0 (0 : Int32)) dr53 T53.heap n0 zz55 ⟨X53e_b1, F53_firstInput_b1, F53_inputsEqual_b1, F53_nodes_b1, F53_ones_b1, F53_zeros_b1, F53_decisionRound_b1⟩ g_b1) hZ (hw _ (List.mem_of_getElem? (i := 28) rfl)) (hw _ (List.mem_of_getElem? (i := 6) rfl)) (by decide) (by decide)) q81a q81c (g := (mkF m 78 #[.val (.int x0), .val (.int x1), .val (.int x2), .val (.int x3), .val (.int x4), .val (.int nn), .val (.int i0), .val (.int i1), .val (.int i2), .val (.int o0), .val (.int o1), .val (.int o2), .val (.ref b1), .unset, .unset, .unset, .unset, .unset] [(.int x4), (.int o1), (.int i1), (.ref b1)])) rfl (by rw [hml]; rfl) (Steps.refl _) (argsL := [(.int i1), (.int o1), (.int x4)]) (rest := []) (lenOf pd_9 rfl) rfl (by show 2 * 0 + _ ≤ _; exact Nat.le_of_eq rfl) (hb hby at_78) (fun _ _ => ⟨rfl, rfl, (by decide : 1 + 0 ≤ _), (by decide : 6 + 0 ≤ _)⟩)
      dsimp only [Pt.U, Pt.locs, Pt.cells, Pt.slots] at X81 l81 y81 z81 st81 hQ81
      subst l81 y81 z81
      obtain ⟨rfl, N81q, K81, dr81, R81⟩ := hQ81
      have N81 := Fr.app N53 N81q
      obtain ⟨X81e_b1, F81_firstInput_b1, F81_inputsEqual_b1, F81_nodes_b1, F81_ones_b1, F81_zeros_b1, F81_decisionRound_b1⟩ := R81
      have kc82 := X53e_b1.keep K81
      have zz83 := Nat.le_trans zz55 K81.1
      have pre84 : Go p e below (s₁.setTop (entryFrame m #[(.int x0), (.int x1), (.int x2), (.int x3), (.int x4)] maxLocals)) (T81.setTop (mkF m 81 #[.val (.int x0), .val (.int x1), .val (.int x2), .val (.int x3), .val (.int x4), .val (.int nn), .val (.int i0), .val (.int i1), .val (.int i2), .val (.int o0), .val (.int o1), .val (.int o2), .val (.ref b1), .unset, .unset, .unset, .unset, .unset] [])) := fun t k => pre80 t (st81.trans k)
      have pre85 : Go p e below (s₁.setTop (entryFrame m #[(.int x0), (.int x1), (.int x2), (.int x3), (.int x4)] maxLocals)) (T81.setTop (mkF m 84 #[.val (.int x0), .val (.int x1), .val (.int x2), .val (.int x3), .val (.int x4), .val (.int nn), .val (.int i0), .val (.int i1), .val (.int i2), .val (.int o0), .val (.int o1), .val (.int o2), .val (.ref b1), .unset, .unset, .unset, .unset, .unset] [(.int (3 : Int32)), (.int nn)])) := by
        intro t k
        refine pre84 t ?_
        show Steps p.tables e below (T81.setTop (mkF m 81 #[.val (.int x0), .val (.int x1), .val (.int x2), .val (.int x3), .val (.int x4), .val (.int nn), .val (.int i0), .val (.int i1), .val (.int i2), .val (.int o0), .val (.int o1), .val (.int o2), .val (.ref b1), .unset, .unset, .unset, .unset, .unset] [])) _
        refine XS.iload X81.here hx rfl (hb hby at_81) rfl ?_
        show Steps p.tables e below (T81.setTop (mkF m 83 #[.val (.int x0), .val (.int x1), .val (.int x2), .val (.int x3), .val (.int x4), .val (.int nn), .val (.int i0), .val (.int i1), .val (.int i2), .val (.int o0), .val (.int o1), .val (.int o2), .val (.ref b1), .unset, .unset, .unset, .unset, .unset] [(.int nn)])) _
        refine XS.iconst X81.here hx rfl (hb hby at_83) ?_
        show Steps p.tables e below (T81.setTop (mkF m 84 #[.val (.int x0), .val (.int x1), .val (.int x2), .val (.int x3), .val (.int x4), .val (.int nn), .val (.int i0), .val (.int i1), .val (.int i2), .val (.int o0), .val (.int o1), .val (.int o2), .val (.ref b1), .unset, .unset, .unset, .unset, .unset] [(.int (3 : Int32)), (.int nn)])) _
        exact k
      by_cases hc84_86 : nn < (3 : Int32)
      · skip
        have pre87 : Go p e below (s₁.setTop (entryFrame m #[(.int x0), (.int x1), (.int x2), (.int x3), (.int x4)] maxLocals)) (T81.setTop (mkF m 101 #[.val (.int x0), .val (.int x1), .val (.int x2), .val (.int x3), .val (.int x4), .val (.int nn), .val (.int i0), .val (.int i1), .val (.int i2), .val (.int o0), .val (.int o1), .val (.int o2), .val (.ref b1), .unset, .unset, .unset, .unset, .unset] [(.int (2 : Int32)), (.int nn)])) := by
          intro t k
          refine pre85 t ?_
          show Steps p.tables e below (T81.setTop (mkF m 84 #[.val (.int x0), .val (.int x1), .val (.int x2), .val (.int x3), .val (.int x4), .val (.int nn), .val (.int i0), .val (.int i1), .val (.int i2), .val (.int o0), .val (.int o1), .val (.int o2), .val (.ref b1), .unset, .unset, .unset, .unset, .unset] [(.int (3 : Int32)), (.int nn)])) _
          refine XS.icmpYes X81.here hx rfl (pc0 := 84) (pc' := 98) rfl (hb hby at_84) rfl (XT.ii_lt_t hc84_86) (by decide) (by decide) ?_
          show Steps p.tables e below (T81.setTop (mkF m 98 #[.val (.int x0), .val (.int x1), .val (.int x2), .val (.int x3), .val (.int x4), .val (.int nn), .val (.int i0), .val (.int i1), .val (.int i2), .val (.int o0), .val (.int o1), .val (.int o2), .val (.ref b1), .unset, .unset, .unset, .unset, .unset] [])) _
          refine XS.iload X81.here hx rfl (hb hby at_98) rfl ?_
          show Steps p.tables e below (T81.setTop (mkF m 100 #[.val (.int x0), .val (.int x1), .val (.int x2), .val (.int x3), .val (.int x4), .val (.int nn), .val (.int i0), .val (.int i1), .val (.int i2), .val (.int o0), .val (.int o1), .val (.int o2), .val (.ref b1), .unset, .unset, .unset, .unset, .unset] [(.int nn)])) _
          refine XS.iconst X81.here hx rfl (hb hby at_100) ?_
          show Steps p.tables e below (T81.setTop (mkF m 101 #[.val (.int x0), .val (.int x1), .val (.int x2), .val (.int x3), .val (.int x4), .val (.int nn), .val (.int i0), .val (.int i1), .val (.int i2), .val (.int o0), .val (.int o1), .val (.int o2), .val (.ref b1), .unset, .unset, .unset, .unset, .unset] [(.int (2 : Int32)), (.int nn)])) _
          exact k
        obtain ⟨ae, h_ae⟩ : ∃ z : Int32, z = (if i1 = i0 then (1 : Int32) else (0 : Int32)) := ⟨_, rfl⟩
        have pre89 : Go p e below (s₁.setTop (entryFrame m #[(.int x0), (.int x1), (.int x2), (.int x3), (.int x4)] maxLocals)) (T81.setTop (mkF m 129 #[.val (.int x0), .val (.int x1), .val (.int x2), .val (.int x3), .val (.int x4), .val (.int nn), .val (.int i0), .val (.int i1), .val (.int i2), .val (.int o0), .val (.int o1), .val (.int o2), .val (.ref b1), .unset, .unset, .unset, .unset, .unset] [(.int ae)])) := by
          intro t k
          refine pre87 t ?_
          show Steps p.tables e below (T81.setTop (mkF m 101 #[.val (.int x0), .val (.int x1), .val (.int x2), .val (.int x3), .val (.int x4), .val (.int nn), .val (.int i0), .val (.int i1), .val (.int i2), .val (.int o0), .val (.int o1), .val (.int o2), .val (.ref b1), .unset, .unset, .unset, .unset, .unset] [(.int (2 : Int32)), (.int nn)])) _
          refine XS.icmpNo X81.here hx rfl (hb hby at_101) rfl (XT.ii_lt_f hc67_58) ?_
          show Steps p.tables e below (T81.setTop (mkF m 104 #[.val (.int x0), .val (.int x1), .val (.int x2), .val (.int x3), .val (.int x4), .val (.int nn), .val (.int i0), .val (.int i1), .val (.int i2), .val (.int o0), .val (.int o1), .val (.int o2), .val (.ref b1), .unset, .unset, .unset, .unset, .unset] [])) _
          refine XS.iload X81.here hx rfl (hb hby at_104) rfl ?_
          show Steps p.tables e below (T81.setTop (mkF m 106 #[.val (.int x0), .val (.int x1), .val (.int x2), .val (.int x3), .val (.int x4), .val (.int nn), .val (.int i0), .val (.int i1), .val (.int i2), .val (.int o0), .val (.int o1), .val (.int o2), .val (.ref b1), .unset, .unset, .unset, .unset, .unset] [(.int i1)])) _
          refine XS.iload X81.here hx rfl (hb hby at_106) rfl ?_
          show Steps p.tables e below (T81.setTop (mkF m 108 #[.val (.int x0), .val (.int x1), .val (.int x2), .val (.int x3), .val (.int x4), .val (.int nn), .val (.int i0), .val (.int i1), .val (.int i2), .val (.int o0), .val (.int o1), .val (.int o2), .val (.ref b1), .unset, .unset, .unset, .unset, .unset] [(.int i0), (.int i1)])) _
          by_cases hc108_88 : i1 = i0
          · skip
            refine XS.icmpNo X81.here hx rfl (hb hby at_108) rfl (XT.ii_ne_f hc108_88) ?_
            show Steps p.tables e below (T81.setTop (mkF m 111 #[.val (.int x0), .val (.int x1), .val (.int x2), .val (.int x3), .val (.int x4), .val (.int nn), .val (.int i0), .val (.int i1), .val (.int i2), .val (.int o0), .val (.int o1), .val (.int o2), .val (.ref b1), .unset, .unset, .unset, .unset, .unset] [])) _
            refine XS.iload X81.here hx rfl (hb hby at_111) rfl ?_
            show Steps p.tables e below (T81.setTop (mkF m 113 #[.val (.int x0), .val (.int x1), .val (.int x2), .val (.int x3), .val (.int x4), .val (.int nn), .val (.int i0), .val (.int i1), .val (.int i2), .val (.int o0), .val (.int o1), .val (.int o2), .val (.ref b1), .unset, .unset, .unset, .unset, .unset] [(.int nn)])) _
            refine XS.iconst X81.here hx rfl (hb hby at_113) ?_
            show Steps p.tables e below (T81.setTop (mkF m 114 #[.val (.int x0), .val (.int x1), .val (.int x2), .val (.int x3), .val (.int x4), .val (.int nn), .val (.int i0), .val (.int i1), .val (.int i2), .val (.int o0), .val (.int o1), .val (.int o2), .val (.ref b1), .unset, .unset, .unset, .unset, .unset] [(.int (3 : Int32)), (.int nn)])) _
            refine XS.icmpYes X81.here hx rfl (pc0 := 114) (pc' := 124) rfl (hb hby at_114) rfl (XT.ii_lt_t hc84_86) (by decide) (by decide) ?_
            show Steps p.tables e below (T81.setTop (mkF m 124 #[.val (.int x0), .val (.int x1), .val (.int x2), .val (.int x3), .val (.int x4), .val (.int nn), .val (.int i0), .val (.int i1), .val (.int i2), .val (.int o0), .val (.int o1), .val (.int o2), .val (.ref b1), .unset, .unset, .unset, .unset, .unset] [])) _
            refine XS.iconst X81.here hx rfl (hb hby at_124) ?_
            show Steps p.tables e below (T81.setTop (mkF m 125 #[.val (.int x0), .val (.int x1), .val (.int x2), .val (.int x3), .val (.int x4), .val (.int nn), .val (.int i0), .val (.int i1), .val (.int i2), .val (.int o0), .val (.int o1), .val (.int o2), .val (.ref b1), .unset, .unset, .unset, .unset, .unset] [(.int (1 : Int32))])) _
            refine XS.goto X81.here hx rfl (pc0 := 125) (pc' := 129) rfl (hb hby at_125) (by decide) (by decide) ?_
            show Steps p.tables e below (T81.setTop (mkF m 129 #[.val (.int x0), .val (.int x1), .val (.int x2), .val (.int x3), .val (.int x4), .val (.int nn), .val (.int i0), .val (.int i1), .val (.int i2), .val (.int o0), .val (.int o1), .val (.int o2), .val (.ref b1), .unset, .unset, .unset, .unset, .unset] [(.int (1 : Int32))])) _
            rw [show ae = (1 : Int32) from by rw [h_ae]; rw [if_pos hc108_88]] at k
            exact k
          · skip
            refine XS.icmpYes X81.here hx rfl (pc0 := 108) (pc' := 128) rfl (hb hby at_108) rfl (XT.ii_ne_t hc108_88) (by decide) (by decide) ?_
            show Steps p.tables e below (T81.setTop (mkF m 128 #[.val (.int x0), .val (.int x1), .val (.int x2), .val (.int x3), .val (.int x4), .val (.int nn), .val (.int i0), .val (.int i1), .val (.int i2), .val (.int o0), .val (.int o1), .val (.int o2), .val (.ref b1), .unset, .unset, .unset, .unset, .unset] [])) _
            refine XS.iconst X81.here hx rfl (hb hby at_128) ?_
            show Steps p.tables e below (T81.setTop (mkF m 129 #[.val (.int x0), .val (.int x1), .val (.int x2), .val (.int x3), .val (.int x4), .val (.int nn), .val (.int i0), .val (.int i1), .val (.int i2), .val (.int o0), .val (.int o1), .val (.int o2), .val (.ref b1), .unset, .unset, .unset, .unset, .unset] [(.int (0 : Int32))])) _
            rw [show ae = (0 : Int32) from by rw [h_ae]; rw [if_neg hc108_88]] at k
            exact k
        have pre90 : Go p e below (s₁.setTop (entryFrame m #[(.int x0), (.int x1), (.int x2), (.int x3), (.int x4)] maxLocals)) (T81.setTop (mkF m 134 #[.val (.int x0), .val (.int x1), .val (.int x2), .val (.int x3), .val (.int x4), .val (.int nn), .val (.int i0), .val (.int i1), .val (.int i2), .val (.int o0), .val (.int o1), .val (.int o2), .val (.ref b1), .val (.int ae), .unset, .unset, .unset, .unset] [(.int (1 : Int32)), (.int nn)])) := by
          intro t k
          refine pre89 t ?_
          show Steps p.tables e below (T81.setTop (mkF m 129 #[.val (.int x0), .val (.int x1), .val (.int x2), .val (.int x3), .val (.int x4), .val (.int nn), .val (.int i0), .val (.int i1), .val (.int i2), .val (.int o0), .val (.int o1), .val (.int o2), .val (.ref b1), .unset, .unset, .unset, .unset, .unset] [(.int ae)])) _
          refine XS.istore X81.here hx rfl (hb hby at_129) rfl (l' := #[.val (.int x0), .val (.int x1), .val (.int x2), .val (.int x3), .val (.int x4), .val (.int nn), .val (.int i0), .val (.int i1), .val (.int i2), .val (.int o0), .val (.int o1), .val (.int o2), .val (.ref b1), .val (.int ae), .unset, .unset, .unset, .unset]) rfl ?_
          show Steps p.tables e below (T81.setTop (mkF m 131 #[.val (.int x0), .val (.int x1), .val (.int x2), .val (.int x3), .val (.int x4), .val (.int nn), .val (.int i0), .val (.int i1), .val (.int i2), .val (.int o0), .val (.int o1), .val (.int o2), .val (.ref b1), .val (.int ae), .unset, .unset, .unset, .unset] [])) _
          refine XS.iload X81.here hx rfl (hb hby at_131) rfl ?_
          show Steps p.tables e below (T81.setTop (mkF m 133 #[.val (.int x0), .val (.int x1), .val (.int x2), .val (.int x3), .val (.int x4), .val (.int nn), .val (.int i0), .val (.int i1), .val (.int i2), .val (.int o0), .val (.int o1), .val (.int o2), .val (.ref b1), .val (.int ae), .unset, .unset, .unset, .unset] [(.int nn)])) _
          refine XS.iconst X81.here hx rfl (hb hby at_133) ?_
          show Steps p.tables e below (T81.setTop (mkF m 134 #[.val (.int x0), .val (.int x1), .val (.int x2), .val (.int x3), .val (.int x4), .val (.int nn), .val (.int i0), .val (.int i1), .val (.int i2), .val (.int o0), .val (.int o1), .val (.int o2), .val (.ref b1), .val (.int ae), .unset, .unset, .unset, .unset] [(.int (1 : Int32)), (.int nn)])) _
          exact k
        obtain ⟨ok0, h_ok0⟩ : ∃ z : Int32, z = (if o0 < (0 : Int32) then (1 : Int32) else (if o0 = i0 then (1 : Int32) else (0 : Int32))) := ⟨_, rfl⟩
        have pre93 : Go p e below (s₁.setTop (entryFrame m #[(.int x0), (.int x1), (.int x2), (.int x3), (.int x4)] maxLocals)) (T81.setTop (mkF m 154 #[.val (.int x0), .val (.int x1), .val (.int x2), .val (.int x3), .val (.int x4), .val (.int nn), .val (.int i0), .val (.int i1), .val (.int i2), .val (.int o0), .val (.int o1), .val (.int o2), .val (.ref b1), .val (.int ae), .unset, .unset, .unset, .unset] [(.int ok0)])) := by
          intro t k
          refine pre90 t ?_
          show Steps p.tables e below (T81.setTop (mkF m 134 #[.val (.int x0), .val (.int x1), .val (.int x2), .val (.int x3), .val (.int x4), .val (.int nn), .val (.int i0), .val (.int i1), .val (.int i2), .val (.int o0), .val (.int o1), .val (.int o2), .val (.ref b1), .val (.int ae), .unset, .unset, .unset, .unset] [(.int (1 : Int32)), (.int nn)])) _
          refine XS.icmpNo X81.here hx rfl (hb hby at_134) rfl (XT.ii_lt_f hc50_31) ?_
          show Steps p.tables e below (T81.setTop (mkF m 137 #[.val (.int x0), .val (.int x1), .val (.int x2), .val (.int x3), .val (.int x4), .val (.int nn), .val (.int i0), .val (.int i1), .val (.int i2), .val (.int o0), .val (.int o1), .val (.int o2), .val (.ref b1), .val (.int ae), .unset, .unset, .unset, .unset] [])) _
          refine XS.iload X81.here hx rfl (hb hby at_137) rfl ?_
          show Steps p.tables e below (T81.setTop (mkF m 139 #[.val (.int x0), .val (.int x1), .val (.int x2), .val (.int x3), .val (.int x4), .val (.int nn), .val (.int i0), .val (.int i1), .val (.int i2), .val (.int o0), .val (.int o1), .val (.int o2), .val (.ref b1), .val (.int ae), .unset, .unset, .unset, .unset] [(.int o0)])) _
          by_cases hc139_91 : o0 < (0 : Int32)
          · skip
            refine XS.ifYes X81.here hx rfl (pc0 := 139) (pc' := 149) rfl (hb hby at_139) rfl (XT.i0_lt_t hc139_91) (by decide) (by decide) ?_
            show Steps p.tables e below (T81.setTop (mkF m 149 #[.val (.int x0), .val (.int x1), .val (.int x2), .val (.int x3), .val (.int x4), .val (.int nn), .val (.int i0), .val (.int i1), .val (.int i2), .val (.int o0), .val (.int o1), .val (.int o2), .val (.ref b1), .val (.int ae), .unset, .unset, .unset, .unset] [])) _
            refine XS.iconst X81.here hx rfl (hb hby at_149) ?_
            show Steps p.tables e below (T81.setTop (mkF m 150 #[.val (.int x0), .val (.int x1), .val (.int x2), .val (.int x3), .val (.int x4), .val (.int nn), .val (.int i0), .val (.int i1), .val (.int i2), .val (.int o0), .val (.int o1), .val (.int o2), .val (.ref b1), .val (.int ae), .unset, .unset, .unset, .unset] [(.int (1 : Int32))])) _
            refine XS.goto X81.here hx rfl (pc0 := 150) (pc' := 154) rfl (hb hby at_150) (by decide) (by decide) ?_
            show Steps p.tables e below (T81.setTop (mkF m 154 #[.val (.int x0), .val (.int x1), .val (.int x2), .val (.int x3), .val (.int x4), .val (.int nn), .val (.int i0), .val (.int i1), .val (.int i2), .val (.int o0), .val (.int o1), .val (.int o2), .val (.ref b1), .val (.int ae), .unset, .unset, .unset, .unset] [(.int (1 : Int32))])) _
            rw [show ok0 = (1 : Int32) from by rw [h_ok0]; rw [if_pos hc139_91]] at k
            exact k
          · skip
            refine XS.ifNo X81.here hx rfl (hb hby at_139) rfl (XT.i0_lt_f hc139_91) ?_
            show Steps p.tables e below (T81.setTop (mkF m 142 #[.val (.int x0), .val (.int x1), .val (.int x2), .val (.int x3), .val (.int x4), .val (.int nn), .val (.int i0), .val (.int i1), .val (.int i2), .val (.int o0), .val (.int o1), .val (.int o2), .val (.ref b1), .val (.int ae), .unset, .unset, .unset, .unset] [])) _
            refine XS.iload X81.here hx rfl (hb hby at_142) rfl ?_
            show Steps p.tables e below (T81.setTop (mkF m 144 #[.val (.int x0), .val (.int x1), .val (.int x2), .val (.int x3), .val (.int x4), .val (.int nn), .val (.int i0), .val (.int i1), .val (.int i2), .val (.int o0), .val (.int o1), .val (.int o2), .val (.ref b1), .val (.int ae), .unset, .unset, .unset, .unset] [(.int o0)])) _
            refine XS.iload X81.here hx rfl (hb hby at_144) rfl ?_
            show Steps p.tables e below (T81.setTop (mkF m 146 #[.val (.int x0), .val (.int x1), .val (.int x2), .val (.int x3), .val (.int x4), .val (.int nn), .val (.int i0), .val (.int i1), .val (.int i2), .val (.int o0), .val (.int o1), .val (.int o2), .val (.ref b1), .val (.int ae), .unset, .unset, .unset, .unset] [(.int i0), (.int o0)])) _
            by_cases hc146_92 : o0 = i0
            · skip
              refine XS.icmpNo X81.here hx rfl (hb hby at_146) rfl (XT.ii_ne_f hc146_92) ?_
              show Steps p.tables e below (T81.setTop (mkF m 149 #[.val (.int x0), .val (.int x1), .val (.int x2), .val (.int x3), .val (.int x4), .val (.int nn), .val (.int i0), .val (.int i1), .val (.int i2), .val (.int o0), .val (.int o1), .val (.int o2), .val (.ref b1), .val (.int ae), .unset, .unset, .unset, .unset] [])) _
              refine XS.iconst X81.here hx rfl (hb hby at_149) ?_
              show Steps p.tables e below (T81.setTop (mkF m 150 #[.val (.int x0), .val (.int x1), .val (.int x2), .val (.int x3), .val (.int x4), .val (.int nn), .val (.int i0), .val (.int i1), .val (.int i2), .val (.int o0), .val (.int o1), .val (.int o2), .val (.ref b1), .val (.int ae), .unset, .unset, .unset, .unset] [(.int (1 : Int32))])) _
              refine XS.goto X81.here hx rfl (pc0 := 150) (pc' := 154) rfl (hb hby at_150) (by decide) (by decide) ?_
              show Steps p.tables e below (T81.setTop (mkF m 154 #[.val (.int x0), .val (.int x1), .val (.int x2), .val (.int x3), .val (.int x4), .val (.int nn), .val (.int i0), .val (.int i1), .val (.int i2), .val (.int o0), .val (.int o1), .val (.int o2), .val (.ref b1), .val (.int ae), .unset, .unset, .unset, .unset] [(.int (1 : Int32))])) _
              rw [show ok0 = (1 : Int32) from by rw [h_ok0]; rw [if_neg hc139_91, if_pos hc146_92]] at k
              exact k
            · skip
              refine XS.icmpYes X81.here hx rfl (pc0 := 146) (pc' := 153) rfl (hb hby at_146) rfl (XT.ii_ne_t hc146_92) (by decide) (by decide) ?_
              show Steps p.tables e below (T81.setTop (mkF m 153 #[.val (.int x0), .val (.int x1), .val (.int x2), .val (.int x3), .val (.int x4), .val (.int nn), .val (.int i0), .val (.int i1), .val (.int i2), .val (.int o0), .val (.int o1), .val (.int o2), .val (.ref b1), .val (.int ae), .unset, .unset, .unset, .unset] [])) _
              refine XS.iconst X81.here hx rfl (hb hby at_153) ?_
              show Steps p.tables e below (T81.setTop (mkF m 154 #[.val (.int x0), .val (.int x1), .val (.int x2), .val (.int x3), .val (.int x4), .val (.int nn), .val (.int i0), .val (.int i1), .val (.int i2), .val (.int o0), .val (.int o1), .val (.int o2), .val (.ref b1), .val (.int ae), .unset, .unset, .unset, .unset] [(.int (0 : Int32))])) _
              rw [show ok0 = (0 : Int32) from by rw [h_ok0]; rw [if_neg hc139_91, if_neg hc146_92]] at k
              exact k
        have pre94 : Go p e below (s₁.setTop (entryFrame m #[(.int x0), (.int x1), (.int x2), (.int x3), (.int x4)] maxLocals)) (T81.setTop (mkF m 159 #[.val (.int x0), .val (.int x1), .val (.int x2), .val (.int x3), .val (.int x4), .val (.int nn), .val (.int i0), .val (.int i1), .val (.int i2), .val (.int o0), .val (.int o1), .val (.int o2), .val (.ref b1), .val (.int ae), .val (.int ok0), .unset, .unset, .unset] [(.int (2 : Int32)), (.int nn)])) := by
          intro t k
          refine pre93 t ?_
          show Steps p.tables e below (T81.setTop (mkF m 154 #[.val (.int x0), .val (.int x1), .val (.int x2), .val (.int x3), .val (.int x4), .val (.int nn), .val (.int i0), .val (.int i1), .val (.int i2), .val (.int o0), .val (.int o1), .val (.int o2), .val (.ref b1), .val (.int ae), .unset, .unset, .unset, .unset] [(.int ok0)])) _
          refine XS.istore X81.here hx rfl (hb hby at_154) rfl (l' := #[.val (.int x0), .val (.int x1), .val (.int x2), .val (.int x3), .val (.int x4), .val (.int nn), .val (.int i0), .val (.int i1), .val (.int i2), .val (.int o0), .val (.int o1), .val (.int o2), .val (.ref b1), .val (.int ae), .val (.int ok0), .unset, .unset, .unset]) rfl ?_
          show Steps p.tables e below (T81.setTop (mkF m 156 #[.val (.int x0), .val (.int x1), .val (.int x2), .val (.int x3), .val (.int x4), .val (.int nn), .val (.int i0), .val (.int i1), .val (.int i2), .val (.int o0), .val (.int o1), .val (.int o2), .val (.ref b1), .val (.int ae), .val (.int ok0), .unset, .unset, .unset] [])) _
          refine XS.iload X81.here hx rfl (hb hby at_156) rfl ?_
          show Steps p.tables e below (T81.setTop (mkF m 158 #[.val (.int x0), .val (.int x1), .val (.int x2), .val (.int x3), .val (.int x4), .val (.int nn), .val (.int i0), .val (.int i1), .val (.int i2), .val (.int o0), .val (.int o1), .val (.int o2), .val (.ref b1), .val (.int ae), .val (.int ok0), .unset, .unset, .unset] [(.int nn)])) _
          refine XS.iconst X81.here hx rfl (hb hby at_158) ?_
          show Steps p.tables e below (T81.setTop (mkF m 159 #[.val (.int x0), .val (.int x1), .val (.int x2), .val (.int x3), .val (.int x4), .val (.int nn), .val (.int i0), .val (.int i1), .val (.int i2), .val (.int o0), .val (.int o1), .val (.int o2), .val (.ref b1), .val (.int ae), .val (.int ok0), .unset, .unset, .unset] [(.int (2 : Int32)), (.int nn)])) _
          exact k
        obtain ⟨ok1, h_ok1⟩ : ∃ z : Int32, z = (if o1 < (0 : Int32) then (1 : Int32) else (if o1 = i0 then (1 : Int32) else (0 : Int32))) := ⟨_, rfl⟩
        have pre97 : Go p e below (s₁.setTop (entryFrame m #[(.int x0), (.int x1), (.int x2), (.int x3), (.int x4)] maxLocals)) (T81.setTop (mkF m 179 #[.val (.int x0), .val (.int x1), .val (.int x2), .val (.int x3), .val (.int x4), .val (.int nn), .val (.int i0), .val (.int i1), .val (.int i2), .val (.int o0), .val (.int o1), .val (.int o2), .val (.ref b1), .val (.int ae), .val (.int ok0), .unset, .unset, .unset] [(.int ok1)])) := by
          intro t k
          refine pre94 t ?_
          show Steps p.tables e below (T81.setTop (mkF m 159 #[.val (.int x0), .val (.int x1), .val (.int x2), .val (.int x3), .val (.int x4), .val (.int nn), .val (.int i0), .val (.int i1), .val (.int i2), .val (.int o0), .val (.int o1), .val (.int o2), .val (.ref b1), .val (.int ae), .val (.int ok0), .unset, .unset, .unset] [(.int (2 : Int32)), (.int nn)])) _
          refine XS.icmpNo X81.here hx rfl (hb hby at_159) rfl (XT.ii_lt_f hc67_58) ?_
          show Steps p.tables e below (T81.setTop (mkF m 162 #[.val (.int x0), .val (.int x1), .val (.int x2), .val (.int x3), .val (.int x4), .val (.int nn), .val (.int i0), .val (.int i1), .val (.int i2), .val (.int o0), .val (.int o1), .val (.int o2), .val (.ref b1), .val (.int ae), .val (.int ok0), .unset, .unset, .unset] [])) _
          refine XS.iload X81.here hx rfl (hb hby at_162) rfl ?_
          show Steps p.tables e below (T81.setTop (mkF m 164 #[.val (.int x0), .val (.int x1), .val (.int x2), .val (.int x3), .val (.int x4), .val (.int nn), .val (.int i0), .val (.int i1), .val (.int i2), .val (.int o0), .val (.int o1), .val (.int o2), .val (.ref b1), .val (.int ae), .val (.int ok0), .unset, .unset, .unset] [(.int o1)])) _
          by_cases hc164_95 : o1 < (0 : Int32)
          · skip
            refine XS.ifYes X81.here hx rfl (pc0 := 164) (pc' := 174) rfl (hb hby at_164) rfl (XT.i0_lt_t hc164_95) (by decide) (by decide) ?_
            show Steps p.tables e below (T81.setTop (mkF m 174 #[.val (.int x0), .val (.int x1), .val (.int x2), .val (.int x3), .val (.int x4), .val (.int nn), .val (.int i0), .val (.int i1), .val (.int i2), .val (.int o0), .val (.int o1), .val (.int o2), .val (.ref b1), .val (.int ae), .val (.int ok0), .unset, .unset, .unset] [])) _
            refine XS.iconst X81.here hx rfl (hb hby at_174) ?_
            show Steps p.tables e below (T81.setTop (mkF m 175 #[.val (.int x0), .val (.int x1), .val (.int x2), .val (.int x3), .val (.int x4), .val (.int nn), .val (.int i0), .val (.int i1), .val (.int i2), .val (.int o0), .val (.int o1), .val (.int o2), .val (.ref b1), .val (.int ae), .val (.int ok0), .unset, .unset, .unset] [(.int (1 : Int32))])) _
            refine XS.goto X81.here hx rfl (pc0 := 175) (pc' := 179) rfl (hb hby at_175) (by decide) (by decide) ?_
            show Steps p.tables e below (T81.setTop (mkF m 179 #[.val (.int x0), .val (.int x1), .val (.int x2), .val (.int x3), .val (.int x4), .val (.int nn), .val (.int i0), .val (.int i1), .val (.int i2), .val (.int o0), .val (.int o1), .val (.int o2), .val (.ref b1), .val (.int ae), .val (.int ok0), .unset, .unset, .unset] [(.int (1 : Int32))])) _
            rw [show ok1 = (1 : Int32) from by rw [h_ok1]; rw [if_pos hc164_95]] at k
            exact k
          · skip
            refine XS.ifNo X81.here hx rfl (hb hby at_164) rfl (XT.i0_lt_f hc164_95) ?_
            show Steps p.tables e below (T81.setTop (mkF m 167 #[.val (.int x0), .val (.int x1), .val (.int x2), .val (.int x3), .val (.int x4), .val (.int nn), .val (.int i0), .val (.int i1), .val (.int i2), .val (.int o0), .val (.int o1), .val (.int o2), .val (.ref b1), .val (.int ae), .val (.int ok0), .unset, .unset, .unset] [])) _
            refine XS.iload X81.here hx rfl (hb hby at_167) rfl ?_
            show Steps p.tables e below (T81.setTop (mkF m 169 #[.val (.int x0), .val (.int x1), .val (.int x2), .val (.int x3), .val (.int x4), .val (.int nn), .val (.int i0), .val (.int i1), .val (.int i2), .val (.int o0), .val (.int o1), .val (.int o2), .val (.ref b1), .val (.int ae), .val (.int ok0), .unset, .unset, .unset] [(.int o1)])) _
            refine XS.iload X81.here hx rfl (hb hby at_169) rfl ?_
            show Steps p.tables e below (T81.setTop (mkF m 171 #[.val (.int x0), .val (.int x1), .val (.int x2), .val (.int x3), .val (.int x4), .val (.int nn), .val (.int i0), .val (.int i1), .val (.int i2), .val (.int o0), .val (.int o1), .val (.int o2), .val (.ref b1), .val (.int ae), .val (.int ok0), .unset, .unset, .unset] [(.int i0), (.int o1)])) _
            by_cases hc171_96 : o1 = i0
            · skip
              refine XS.icmpNo X81.here hx rfl (hb hby at_171) rfl (XT.ii_ne_f hc171_96) ?_
              show Steps p.tables e below (T81.setTop (mkF m 174 #[.val (.int x0), .val (.int x1), .val (.int x2), .val (.int x3), .val (.int x4), .val (.int nn), .val (.int i0), .val (.int i1), .val (.int i2), .val (.int o0), .val (.int o1), .val (.int o2), .val (.ref b1), .val (.int ae), .val (.int ok0), .unset, .unset, .unset] [])) _
              refine XS.iconst X81.here hx rfl (hb hby at_174) ?_
              show Steps p.tables e below (T81.setTop (mkF m 175 #[.val (.int x0), .val (.int x1), .val (.int x2), .val (.int x3), .val (.int x4), .val (.int nn), .val (.int i0), .val (.int i1), .val (.int i2), .val (.int o0), .val (.int o1), .val (.int o2), .val (.ref b1), .val (.int ae), .val (.int ok0), .unset, .unset, .unset] [(.int (1 : Int32))])) _
              refine XS.goto X81.here hx rfl (pc0 := 175) (pc' := 179) rfl (hb hby at_175) (by decide) (by decide) ?_
              show Steps p.tables e below (T81.setTop (mkF m 179 #[.val (.int x0), .val (.int x1), .val (.int x2), .val (.int x3), .val (.int x4), .val (.int nn), .val (.int i0), .val (.int i1), .val (.int i2), .val (.int o0), .val (.int o1), .val (.int o2), .val (.ref b1), .val (.int ae), .val (.int ok0), .unset, .unset, .unset] [(.int (1 : Int32))])) _
              rw [show ok1 = (1 : Int32) from by rw [h_ok1]; rw [if_neg hc164_95, if_pos hc171_96]] at k
              exact k
            · skip
              refine XS.icmpYes X81.here hx rfl (pc0 := 171) (pc' := 178) rfl (hb hby at_171) rfl (XT.ii_ne_t hc171_96) (by decide) (by decide) ?_
              show Steps p.tables e below (T81.setTop (mkF m 178 #[.val (.int x0), .val (.int x1), .val (.int x2), .val (.int x3), .val (.int x4), .val (.int nn), .val (.int i0), .val (.int i1), .val (.int i2), .val (.int o0), .val (.int o1), .val (.int o2), .val (.ref b1), .val (.int ae), .val (.int ok0), .unset, .unset, .unset] [])) _
              refine XS.iconst X81.here hx rfl (hb hby at_178) ?_
              show Steps p.tables e below (T81.setTop (mkF m 179 #[.val (.int x0), .val (.int x1), .val (.int x2), .val (.int x3), .val (.int x4), .val (.int nn), .val (.int i0), .val (.int i1), .val (.int i2), .val (.int o0), .val (.int o1), .val (.int o2), .val (.ref b1), .val (.int ae), .val (.int ok0), .unset, .unset, .unset] [(.int (0 : Int32))])) _
              rw [show ok1 = (0 : Int32) from by rw [h_ok1]; rw [if_neg hc164_95, if_neg hc171_96]] at k
              exact k
        have pre98 : Go p e below (s₁.setTop (entryFrame m #[(.int x0), (.int x1), (.int x2), (.int x3), (.int x4)] maxLocals)) (T81.setTop (mkF m 184 #[.val (.int x0), .val (.int x1), .val (.int x2), .val (.int x3), .val (.int x4), .val (.int nn), .val (.int i0), .val (.int i1), .val (.int i2), .val (.int o0), .val (.int o1), .val (.int o2), .val (.ref b1), .val (.int ae), .val (.int ok0), .val (.int ok1), .unset, .unset] [(.int (3 : Int32)), (.int nn)])) := by
          intro t k
          refine pre97 t ?_
          show Steps p.tables e below (T81.setTop (mkF m 179 #[.val (.int x0), .val (.int x1), .val (.int x2), .val (.int x3), .val (.int x4), .val (.int nn), .val (.int i0), .val (.int i1), .val (.int i2), .val (.int o0), .val (.int o1), .val (.int o2), .val (.ref b1), .val (.int ae), .val (.int ok0), .unset, .unset, .unset] [(.int ok1)])) _
          refine XS.istore X81.here hx rfl (hb hby at_179) rfl (l' := #[.val (.int x0), .val (.int x1), .val (.int x2), .val (.int x3), .val (.int x4), .val (.int nn), .val (.int i0), .val (.int i1), .val (.int i2), .val (.int o0), .val (.int o1), .val (.int o2), .val (.ref b1), .val (.int ae), .val (.int ok0), .val (.int ok1), .unset, .unset]) rfl ?_
          show Steps p.tables e below (T81.setTop (mkF m 181 #[.val (.int x0), .val (.int x1), .val (.int x2), .val (.int x3), .val (.int x4), .val (.int nn), .val (.int i0), .val (.int i1), .val (.int i2), .val (.int o0), .val (.int o1), .val (.int o2), .val (.ref b1), .val (.int ae), .val (.int ok0), .val (.int ok1), .unset, .unset] [])) _
          refine XS.iload X81.here hx rfl (hb hby at_181) rfl ?_
          show Steps p.tables e below (T81.setTop (mkF m 183 #[.val (.int x0), .val (.int x1), .val (.int x2), .val (.int x3), .val (.int x4), .val (.int nn), .val (.int i0), .val (.int i1), .val (.int i2), .val (.int o0), .val (.int o1), .val (.int o2), .val (.ref b1), .val (.int ae), .val (.int ok0), .val (.int ok1), .unset, .unset] [(.int nn)])) _
          refine XS.iconst X81.here hx rfl (hb hby at_183) ?_
          show Steps p.tables e below (T81.setTop (mkF m 184 #[.val (.int x0), .val (.int x1), .val (.int x2), .val (.int x3), .val (.int x4), .val (.int nn), .val (.int i0), .val (.int i1), .val (.int i2), .val (.int o0), .val (.int o1), .val (.int o2), .val (.ref b1), .val (.int ae), .val (.int ok0), .val (.int ok1), .unset, .unset] [(.int (3 : Int32)), (.int nn)])) _
          exact k
        have pre99 : Go p e below (s₁.setTop (entryFrame m #[(.int x0), (.int x1), (.int x2), (.int x3), (.int x4)] maxLocals)) (T81.setTop (mkF m 204 #[.val (.int x0), .val (.int x1), .val (.int x2), .val (.int x3), .val (.int x4), .val (.int nn), .val (.int i0), .val (.int i1), .val (.int i2), .val (.int o0), .val (.int o1), .val (.int o2), .val (.ref b1), .val (.int ae), .val (.int ok0), .val (.int ok1), .unset, .unset] [(.int (1 : Int32))])) := by
          intro t k
          refine pre98 t ?_
          show Steps p.tables e below (T81.setTop (mkF m 184 #[.val (.int x0), .val (.int x1), .val (.int x2), .val (.int x3), .val (.int x4), .val (.int nn), .val (.int i0), .val (.int i1), .val (.int i2), .val (.int o0), .val (.int o1), .val (.int o2), .val (.ref b1), .val (.int ae), .val (.int ok0), .val (.int ok1), .unset, .unset] [(.int (3 : Int32)), (.int nn)])) _
          refine XS.icmpYes X81.here hx rfl (pc0 := 184) (pc' := 199) rfl (hb hby at_184) rfl (XT.ii_lt_t hc84_86) (by decide) (by decide) ?_
          show Steps p.tables e below (T81.setTop (mkF m 199 #[.val (.int x0), .val (.int x1), .val (.int x2), .val (.int x3), .val (.int x4), .val (.int nn), .val (.int i0), .val (.int i1), .val (.int i2), .val (.int o0), .val (.int o1), .val (.int o2), .val (.ref b1), .val (.int ae), .val (.int ok0), .val (.int ok1), .unset, .unset] [])) _
          refine XS.iconst X81.here hx rfl (hb hby at_199) ?_
          show Steps p.tables e below (T81.setTop (mkF m 200 #[.val (.int x0), .val (.int x1), .val (.int x2), .val (.int x3), .val (.int x4), .val (.int nn), .val (.int i0), .val (.int i1), .val (.int i2), .val (.int o0), .val (.int o1), .val (.int o2), .val (.ref b1), .val (.int ae), .val (.int ok0), .val (.int ok1), .unset, .unset] [(.int (1 : Int32))])) _
          refine XS.goto X81.here hx rfl (pc0 := 200) (pc' := 204) rfl (hb hby at_200) (by decide) (by decide) ?_
          show Steps p.tables e below (T81.setTop (mkF m 204 #[.val (.int x0), .val (.int x1), .val (.int x2), .val (.int x3), .val (.int x4), .val (.int nn), .val (.int i0), .val (.int i1), .val (.int i2), .val (.int o0), .val (.int o1), .val (.int o2), .val (.ref b1), .val (.int ae), .val (.int ok0), .val (.int ok1), .unset, .unset] [(.int (1 : Int32))])) _
          exact k
        have pre100 : Go p e below (s₁.setTop (entryFrame m #[(.int x0), (.int x1), (.int x2), (.int x3), (.int x4)] maxLocals)) (T81.setTop (mkF m 208 #[.val (.int x0), .val (.int x1), .val (.int x2), .val (.int x3), .val (.int x4), .val (.int nn), .val (.int i0), .val (.int i1), .val (.int i2), .val (.int o0), .val (.int o1), .val (.int o2), .val (.ref b1), .val (.int ae), .val (.int ok0), .val (.int ok1), .val (.int (1 : Int32)), .unset] [(.int ae)])) := by
          intro t k
          refine pre99 t ?_
          show Steps p.tables e below (T81.setTop (mkF m 204 #[.val (.int x0), .val (.int x1), .val (.int x2), .val (.int x3), .val (.int x4), .val (.int nn), .val (.int i0), .val (.int i1), .val (.int i2), .val (.int o0), .val (.int o1), .val (.int o2), .val (.ref b1), .val (.int ae), .val (.int ok0), .val (.int ok1), .unset, .unset] [(.int (1 : Int32))])) _
          refine XS.istore X81.here hx rfl (hb hby at_204) rfl (l' := #[.val (.int x0), .val (.int x1), .val (.int x2), .val (.int x3), .val (.int x4), .val (.int nn), .val (.int i0), .val (.int i1), .val (.int i2), .val (.int o0), .val (.int o1), .val (.int o2), .val (.ref b1), .val (.int ae), .val (.int ok0), .val (.int ok1), .val (.int (1 : Int32)), .unset]) rfl ?_
          show Steps p.tables e below (T81.setTop (mkF m 206 #[.val (.int x0), .val (.int x1), .val (.int x2), .val (.int x3), .val (.int x4), .val (.int nn), .val (.int i0), .val (.int i1), .val (.int i2), .val (.int o0), .val (.int o1), .val (.int o2), .val (.ref b1), .val (.int ae), .val (.int ok0), .val (.int ok1), .val (.int (1 : Int32)), .unset] [])) _
          refine XS.iload X81.here hx rfl (hb hby at_206) rfl ?_
          show Steps p.tables e below (T81.setTop (mkF m 208 #[.val (.int x0), .val (.int x1), .val (.int x2), .val (.int x3), .val (.int x4), .val (.int nn), .val (.int i0), .val (.int i1), .val (.int i2), .val (.int o0), .val (.int o1), .val (.int o2), .val (.ref b1), .val (.int ae), .val (.int ok0), .val (.int ok1), .val (.int (1 : Int32)), .unset] [(.int ae)])) _
          exact k
        obtain ⟨ex, h_ex⟩ : ∃ z : Int32, z = (if ae = (0 : Int32) then (1 : Int32) else (if ok0 = (0 : Int32) then (0 : Int32) else (if ok1 = (0 : Int32) then (0 : Int32) else (1 : Int32)))) := ⟨_, rfl⟩
        have pre104 : Go p e below (s₁.setTop (entryFrame m #[(.int x0), (.int x1), (.int x2), (.int x3), (.int x4)] maxLocals)) (T81.setTop (mkF m 231 #[.val (.int x0), .val (.int x1), .val (.int x2), .val (.int x3), .val (.int x4), .val (.int nn), .val (.int i0), .val (.int i1), .val (.int i2), .val (.int o0), .val (.int o1), .val (.int o2), .val (.ref b1), .val (.int ae), .val (.int ok0), .val (.int ok1), .val (.int (1 : Int32)), .unset] [(.int ex)])) := by
          intro t k
          refine pre100 t ?_
          show Steps p.tables e below (T81.setTop (mkF m 208 #[.val (.int x0), .val (.int x1), .val (.int x2), .val (.int x3), .val (.int x4), .val (.int nn), .val (.int i0), .val (.int i1), .val (.int i2), .val (.int o0), .val (.int o1), .val (.int o2), .val (.ref b1), .val (.int ae), .val (.int ok0), .val (.int ok1), .val (.int (1 : Int32)), .unset] [(.int ae)])) _
          by_cases hc208_101 : ae = (0 : Int32)
          · skip
            refine XS.ifYes X81.here hx rfl (pc0 := 208) (pc' := 226) rfl (hb hby at_208) rfl (XT.i0_eq_t hc208_101) (by decide) (by decide) ?_
            show Steps p.tables e below (T81.setTop (mkF m 226 #[.val (.int x0), .val (.int x1), .val (.int x2), .val (.int x3), .val (.int x4), .val (.int nn), .val (.int i0), .val (.int i1), .val (.int i2), .val (.int o0), .val (.int o1), .val (.int o2), .val (.ref b1), .val (.int ae), .val (.int ok0), .val (.int ok1), .val (.int (1 : Int32)), .unset] [])) _
            refine XS.iconst X81.here hx rfl (hb hby at_226) ?_
            show Steps p.tables e below (T81.setTop (mkF m 227 #[.val (.int x0), .val (.int x1), .val (.int x2), .val (.int x3), .val (.int x4), .val (.int nn), .val (.int i0), .val (.int i1), .val (.int i2), .val (.int o0), .val (.int o1), .val (.int o2), .val (.ref b1), .val (.int ae), .val (.int ok0), .val (.int ok1), .val (.int (1 : Int32)), .unset] [(.int (1 : Int32))])) _
            refine XS.goto X81.here hx rfl (pc0 := 227) (pc' := 231) rfl (hb hby at_227) (by decide) (by decide) ?_
            show Steps p.tables e below (T81.setTop (mkF m 231 #[.val (.int x0), .val (.int x1), .val (.int x2), .val (.int x3), .val (.int x4), .val (.int nn), .val (.int i0), .val (.int i1), .val (.int i2), .val (.int o0), .val (.int o1), .val (.int o2), .val (.ref b1), .val (.int ae), .val (.int ok0), .val (.int ok1), .val (.int (1 : Int32)), .unset] [(.int (1 : Int32))])) _
            rw [show ex = (1 : Int32) from by rw [h_ex]; rw [if_pos hc208_101]] at k
            exact k
          · skip
            refine XS.ifNo X81.here hx rfl (hb hby at_208) rfl (XT.i0_eq_f hc208_101) ?_
            show Steps p.tables e below (T81.setTop (mkF m 211 #[.val (.int x0), .val (.int x1), .val (.int x2), .val (.int x3), .val (.int x4), .val (.int nn), .val (.int i0), .val (.int i1), .val (.int i2), .val (.int o0), .val (.int o1), .val (.int o2), .val (.ref b1), .val (.int ae), .val (.int ok0), .val (.int ok1), .val (.int (1 : Int32)), .unset] [])) _
            refine XS.iload X81.here hx rfl (hb hby at_211) rfl ?_
            show Steps p.tables e below (T81.setTop (mkF m 213 #[.val (.int x0), .val (.int x1), .val (.int x2), .val (.int x3), .val (.int x4), .val (.int nn), .val (.int i0), .val (.int i1), .val (.int i2), .val (.int o0), .val (.int o1), .val (.int o2), .val (.ref b1), .val (.int ae), .val (.int ok0), .val (.int ok1), .val (.int (1 : Int32)), .unset] [(.int ok0)])) _
            by_cases hc213_102 : ok0 = (0 : Int32)
            · skip
              refine XS.ifYes X81.here hx rfl (pc0 := 213) (pc' := 230) rfl (hb hby at_213) rfl (XT.i0_eq_t hc213_102) (by decide) (by decide) ?_
              show Steps p.tables e below (T81.setTop (mkF m 230 #[.val (.int x0), .val (.int x1), .val (.int x2), .val (.int x3), .val (.int x4), .val (.int nn), .val (.int i0), .val (.int i1), .val (.int i2), .val (.int o0), .val (.int o1), .val (.int o2), .val (.ref b1), .val (.int ae), .val (.int ok0), .val (.int ok1), .val (.int (1 : Int32)), .unset] [])) _
              refine XS.iconst X81.here hx rfl (hb hby at_230) ?_
              show Steps p.tables e below (T81.setTop (mkF m 231 #[.val (.int x0), .val (.int x1), .val (.int x2), .val (.int x3), .val (.int x4), .val (.int nn), .val (.int i0), .val (.int i1), .val (.int i2), .val (.int o0), .val (.int o1), .val (.int o2), .val (.ref b1), .val (.int ae), .val (.int ok0), .val (.int ok1), .val (.int (1 : Int32)), .unset] [(.int (0 : Int32))])) _
              rw [show ex = (0 : Int32) from by rw [h_ex]; rw [if_neg hc208_101, if_pos hc213_102]] at k
              exact k
            · skip
              refine XS.ifNo X81.here hx rfl (hb hby at_213) rfl (XT.i0_eq_f hc213_102) ?_
              show Steps p.tables e below (T81.setTop (mkF m 216 #[.val (.int x0), .val (.int x1), .val (.int x2), .val (.int x3), .val (.int x4), .val (.int nn), .val (.int i0), .val (.int i1), .val (.int i2), .val (.int o0), .val (.int o1), .val (.int o2), .val (.ref b1), .val (.int ae), .val (.int ok0), .val (.int ok1), .val (.int (1 : Int32)), .unset] [])) _
              refine XS.iload X81.here hx rfl (hb hby at_216) rfl ?_
              show Steps p.tables e below (T81.setTop (mkF m 218 #[.val (.int x0), .val (.int x1), .val (.int x2), .val (.int x3), .val (.int x4), .val (.int nn), .val (.int i0), .val (.int i1), .val (.int i2), .val (.int o0), .val (.int o1), .val (.int o2), .val (.ref b1), .val (.int ae), .val (.int ok0), .val (.int ok1), .val (.int (1 : Int32)), .unset] [(.int ok1)])) _
              by_cases hc218_103 : ok1 = (0 : Int32)
              · skip
                refine XS.ifYes X81.here hx rfl (pc0 := 218) (pc' := 230) rfl (hb hby at_218) rfl (XT.i0_eq_t hc218_103) (by decide) (by decide) ?_
                show Steps p.tables e below (T81.setTop (mkF m 230 #[.val (.int x0), .val (.int x1), .val (.int x2), .val (.int x3), .val (.int x4), .val (.int nn), .val (.int i0), .val (.int i1), .val (.int i2), .val (.int o0), .val (.int o1), .val (.int o2), .val (.ref b1), .val (.int ae), .val (.int ok0), .val (.int ok1), .val (.int (1 : Int32)), .unset] [])) _
                refine XS.iconst X81.here hx rfl (hb hby at_230) ?_
                show Steps p.tables e below (T81.setTop (mkF m 231 #[.val (.int x0), .val (.int x1), .val (.int x2), .val (.int x3), .val (.int x4), .val (.int nn), .val (.int i0), .val (.int i1), .val (.int i2), .val (.int o0), .val (.int o1), .val (.int o2), .val (.ref b1), .val (.int ae), .val (.int ok0), .val (.int ok1), .val (.int (1 : Int32)), .unset] [(.int (0 : Int32))])) _
                rw [show ex = (0 : Int32) from by rw [h_ex]; rw [if_neg hc208_101, if_neg hc213_102, if_pos hc218_103]] at k
                exact k
              · skip
                refine XS.ifNo X81.here hx rfl (hb hby at_218) rfl (XT.i0_eq_f hc218_103) ?_
                show Steps p.tables e below (T81.setTop (mkF m 221 #[.val (.int x0), .val (.int x1), .val (.int x2), .val (.int x3), .val (.int x4), .val (.int nn), .val (.int i0), .val (.int i1), .val (.int i2), .val (.int o0), .val (.int o1), .val (.int o2), .val (.ref b1), .val (.int ae), .val (.int ok0), .val (.int ok1), .val (.int (1 : Int32)), .unset] [])) _
                refine XS.iload X81.here hx rfl (hb hby at_221) rfl ?_
                show Steps p.tables e below (T81.setTop (mkF m 223 #[.val (.int x0), .val (.int x1), .val (.int x2), .val (.int x3), .val (.int x4), .val (.int nn), .val (.int i0), .val (.int i1), .val (.int i2), .val (.int o0), .val (.int o1), .val (.int o2), .val (.ref b1), .val (.int ae), .val (.int ok0), .val (.int ok1), .val (.int (1 : Int32)), .unset] [(.int (1 : Int32))])) _
                refine XS.ifNo X81.here hx rfl (hb hby at_223) rfl (XT.i0_eq_f (by decide : ¬ ((1 : Int32) = (0 : Int32)))) ?_
                show Steps p.tables e below (T81.setTop (mkF m 226 #[.val (.int x0), .val (.int x1), .val (.int x2), .val (.int x3), .val (.int x4), .val (.int nn), .val (.int i0), .val (.int i1), .val (.int i2), .val (.int o0), .val (.int o1), .val (.int o2), .val (.ref b1), .val (.int ae), .val (.int ok0), .val (.int ok1), .val (.int (1 : Int32)), .unset] [])) _
                refine XS.iconst X81.here hx rfl (hb hby at_226) ?_
                show Steps p.tables e below (T81.setTop (mkF m 227 #[.val (.int x0), .val (.int x1), .val (.int x2), .val (.int x3), .val (.int x4), .val (.int nn), .val (.int i0), .val (.int i1), .val (.int i2), .val (.int o0), .val (.int o1), .val (.int o2), .val (.ref b1), .val (.int ae), .val (.int ok0), .val (.int ok1), .val (.int (1 : Int32)), .unset] [(.int (1 : Int32))])) _
                refine XS.goto X81.here hx rfl (pc0 := 227) (pc' := 231) rfl (hb hby at_227) (by decide) (by decide) ?_
                show Steps p.tables e below (T81.setTop (mkF m 231 #[.val (.int x0), .val (.int x1), .val (.int x2), .val (.int x3), .val (.int x4), .val (.int nn), .val (.int i0), .val (.int i1), .val (.int i2), .val (.int o0), .val (.int o1), .val (.int o2), .val (.ref b1), .val (.int ae), .val (.int ok0), .val (.int ok1), .val (.int (1 : Int32)), .unset] [(.int (1 : Int32))])) _
                rw [show ex = (1 : Int32) from by rw [h_ex]; rw [if_neg hc208_101, if_neg hc213_102, if_neg hc218_103]] at k
                exact k
        have pre105 : Go p e below (s₁.setTop (entryFrame m #[(.int x0), (.int x1), (.int x2), (.int x3), (.int x4)] maxLocals)) (T81.setTop (mkF m 235 #[.val (.int x0), .val (.int x1), .val (.int x2), .val (.int x3), .val (.int x4), .val (.int nn), .val (.int i0), .val (.int i1), .val (.int i2), .val (.int o0), .val (.int o1), .val (.int o2), .val (.ref b1), .val (.int ae), .val (.int ok0), .val (.int ok1), .val (.int (1 : Int32)), .val (.int ex)] [(.ref b1)])) := by
          intro t k
          refine pre104 t ?_
          show Steps p.tables e below (T81.setTop (mkF m 231 #[.val (.int x0), .val (.int x1), .val (.int x2), .val (.int x3), .val (.int x4), .val (.int nn), .val (.int i0), .val (.int i1), .val (.int i2), .val (.int o0), .val (.int o1), .val (.int o2), .val (.ref b1), .val (.int ae), .val (.int ok0), .val (.int ok1), .val (.int (1 : Int32)), .unset] [(.int ex)])) _
          refine XS.istore X81.here hx rfl (hb hby at_231) rfl (l' := #[.val (.int x0), .val (.int x1), .val (.int x2), .val (.int x3), .val (.int x4), .val (.int nn), .val (.int i0), .val (.int i1), .val (.int i2), .val (.int o0), .val (.int o1), .val (.int o2), .val (.ref b1), .val (.int ae), .val (.int ok0), .val (.int ok1), .val (.int (1 : Int32)), .val (.int ex)]) rfl ?_
          show Steps p.tables e below (T81.setTop (mkF m 233 #[.val (.int x0), .val (.int x1), .val (.int x2), .val (.int x3), .val (.int x4), .val (.int nn), .val (.int i0), .val (.int i1), .val (.int i2), .val (.int o0), .val (.int o1), .val (.int o2), .val (.ref b1), .val (.int ae), .val (.int ok0), .val (.int ok1), .val (.int (1 : Int32)), .val (.int ex)] [])) _
          refine XS.aload X81.here hx rfl (hb hby at_233) rfl rfl ?_
          show Steps p.tables e below (T81.setTop (mkF m 235 #[.val (.int x0), .val (.int x1), .val (.int x2), .val (.int x3), .val (.int x4), .val (.int nn), .val (.int i0), .val (.int i1), .val (.int i2), .val (.int o0), .val (.int o1), .val (.int o2), .val (.ref b1), .val (.int ae), .val (.int ok0), .val (.int ok1), .val (.int (1 : Int32)), .val (.int ex)] [(.ref b1)])) _
          exact k
        obtain ⟨cq106, kq106, q106a, q106b, q106c⟩ := isOf hZ rfl X81e_b1
        obtain ⟨_, _, ⟨T106, L106, k106, n106⟩, -, X106, ⟨Lc106, hQ106, l106, y106, z106⟩, st106⟩ := X81.virtualBack hx (y := (⟨"lightbin/AgreementResult$Run", "validity", "()Z"⟩ : MethodName)) (z := (⟨"lightbin/AgreementResult$Run", "validity", "()Z"⟩ : MethodName)) hown (mvT hZ (hw _ (List.mem_of_getElem? (i := 17) rfl))) (mvT hZ (hw _ (List.mem_of_getElem? (i := 18) rfl))) (notFace_of_selects (args := #[]) (mvT hZ (hw _ (List.mem_of_getElem? (i := 20) rfl)))) (mvT hZ (hw _ (List.mem_of_getElem? (i := 20) rfl))) (mvT hZ (hw _ (List.mem_of_getElem? (i := 19) rfl))) (by decide) (backOf (W := 0) (rm4 l Z a0 hw [] b1 (own_fi ((0 : Int32) + (1 : Int32)) i1 (own_fi (0 : Int32) i0 (-1 : Int32))) (own_ie (own_ie (nar .boolean (1 : Int32)) i0 (own_fi (0 : Int32) i0 (-1 : Int32))) i1 (own_fi ((0 : Int32) + (1 : Int32)) i1 (own_fi (0 : Int32) i0 (-1 : Int32)))) (own_on o1 (own_on o0 (0 : Int32))) (own_ze o1 (own_ze o0 (0 : Int32))) T81.heap n0 zz83 F81_firstInput_b1 F81_inputsEqual_b1 F81_ones_b1 F81_zeros_b1) hZ (hw _ (List.mem_of_getElem? (i := 21) rfl)) (hw _ (List.mem_of_getElem? (i := 6) rfl)) (by decide) (by decide)) q106a q106c (g := (mkF m 235 #[.val (.int x0), .val (.int x1), .val (.int x2), .val (.int x3), .val (.int x4), .val (.int nn), .val (.int i0), .val (.int i1), .val (.int i2), .val (.int o0), .val (.int o1), .val (.int o2), .val (.ref b1), .val (.int ae), .val (.int ok0), .val (.int ok1), .val (.int (1 : Int32)), .val (.int ex)] [(.ref b1)])) rfl (by rw [hml]; rfl) (Steps.refl _) (argsL := []) (rest := []) (lenOf pd_8 rfl) rfl (by show 2 * 0 + _ ≤ _; exact Nat.le_of_eq rfl) (hb hby at_235) (fun _ _ => ⟨rfl, rfl, (by decide : 1 + 0 ≤ _), (by decide : 6 + 0 ≤ _)⟩)
        dsimp only [Pt.U, Pt.locs, Pt.cells, Pt.slots] at X106 l106 y106 z106 st106 hQ106
        subst l106 y106 z106
        obtain ⟨rfl, N106q, hh106⟩ := hQ106
        have N106 := Fr.app N81 N106q
        have pre107 : Go p e below (s₁.setTop (entryFrame m #[(.int x0), (.int x1), (.int x2), (.int x3), (.int x4)] maxLocals)) (T106.setTop (mkF m 238 #[.val (.int x0), .val (.int x1), .val (.int x2), .val (.int x3), .val (.int x4), .val (.int nn), .val (.int i0), .val (.int i1), .val (.int i2), .val (.int o0), .val (.int o1), .val (.int o2), .val (.ref b1), .val (.int ae), .val (.int ok0), .val (.int ok1), .val (.int (1 : Int32)), .val (.int ex)] [(.int (fval (own_fi ((0 : Int32) + (1 : Int32)) i1 (own_fi (0 : Int32) i0 (-1 : Int32))) (own_ie (own_ie (nar .boolean (1 : Int32)) i0 (own_fi (0 : Int32) i0 (-1 : Int32))) i1 (own_fi ((0 : Int32) + (1 : Int32)) i1 (own_fi (0 : Int32) i0 (-1 : Int32)))) (own_on o1 (own_on o0 (0 : Int32))) (own_ze o1 (own_ze o0 (0 : Int32)))))])) := fun t k => pre105 t (st106.trans k)
        have pre108 : Go p e below (s₁.setTop (entryFrame m #[(.int x0), (.int x1), (.int x2), (.int x3), (.int x4)] maxLocals)) (T106.setTop (mkF m 240 #[.val (.int x0), .val (.int x1), .val (.int x2), .val (.int x3), .val (.int x4), .val (.int nn), .val (.int i0), .val (.int i1), .val (.int i2), .val (.int o0), .val (.int o1), .val (.int o2), .val (.ref b1), .val (.int ae), .val (.int ok0), .val (.int ok1), .val (.int (1 : Int32)), .val (.int ex)] [(.int ex), (.int (fval (own_fi ((0 : Int32) + (1 : Int32)) i1 (own_fi (0 : Int32) i0 (-1 : Int32))) (own_ie (own_ie (nar .boolean (1 : Int32)) i0 (own_fi (0 : Int32) i0 (-1 : Int32))) i1 (own_fi ((0 : Int32) + (1 : Int32)) i1 (own_fi (0 : Int32) i0 (-1 : Int32)))) (own_on o1 (own_on o0 (0 : Int32))) (own_ze o1 (own_ze o0 (0 : Int32)))))])) := by
          intro t k
          refine pre107 t ?_
          show Steps p.tables e below (T106.setTop (mkF m 238 #[.val (.int x0), .val (.int x1), .val (.int x2), .val (.int x3), .val (.int x4), .val (.int nn), .val (.int i0), .val (.int i1), .val (.int i2), .val (.int o0), .val (.int o1), .val (.int o2), .val (.ref b1), .val (.int ae), .val (.int ok0), .val (.int ok1), .val (.int (1 : Int32)), .val (.int ex)] [(.int (fval (own_fi ((0 : Int32) + (1 : Int32)) i1 (own_fi (0 : Int32) i0 (-1 : Int32))) (own_ie (own_ie (nar .boolean (1 : Int32)) i0 (own_fi (0 : Int32) i0 (-1 : Int32))) i1 (own_fi ((0 : Int32) + (1 : Int32)) i1 (own_fi (0 : Int32) i0 (-1 : Int32)))) (own_on o1 (own_on o0 (0 : Int32))) (own_ze o1 (own_ze o0 (0 : Int32)))))])) _
          refine XS.iload X106.here hx rfl (hb hby at_238) rfl ?_
          show Steps p.tables e below (T106.setTop (mkF m 240 #[.val (.int x0), .val (.int x1), .val (.int x2), .val (.int x3), .val (.int x4), .val (.int nn), .val (.int i0), .val (.int i1), .val (.int i2), .val (.int o0), .val (.int o1), .val (.int o2), .val (.ref b1), .val (.int ae), .val (.int ok0), .val (.int ok1), .val (.int (1 : Int32)), .val (.int ex)] [(.int ex), (.int (fval (own_fi ((0 : Int32) + (1 : Int32)) i1 (own_fi (0 : Int32) i0 (-1 : Int32))) (own_ie (own_ie (nar .boolean (1 : Int32)) i0 (own_fi (0 : Int32) i0 (-1 : Int32))) i1 (own_fi ((0 : Int32) + (1 : Int32)) i1 (own_fi (0 : Int32) i0 (-1 : Int32)))) (own_on o1 (own_on o0 (0 : Int32))) (own_ze o1 (own_ze o0 (0 : Int32)))))])) _
          exact k
        have hc240_109 : (fval (own_fi ((0 : Int32) + (1 : Int32)) i1 (own_fi (0 : Int32) i0 (-1 : Int32))) (own_ie (own_ie (nar .boolean (1 : Int32)) i0 (own_fi (0 : Int32) i0 (-1 : Int32))) i1 (own_fi ((0 : Int32) + (1 : Int32)) i1 (own_fi (0 : Int32) i0 (-1 : Int32)))) (own_on o1 (own_on o0 (0 : Int32))) (own_ze o1 (own_ze o0 (0 : Int32)))) = ex := by
          rw [h_ex, h_ae, h_ok0, h_ok1]; exact own_q2 _ hi0 _ hi1 _ ho0 _ ho1
        have pre110 : Go p e below (s₁.setTop (entryFrame m #[(.int x0), (.int x1), (.int x2), (.int x3), (.int x4)] maxLocals)) (T106.setTop (mkF m 248 #[.val (.int x0), .val (.int x1), .val (.int x2), .val (.int x3), .val (.int x4), .val (.int nn), .val (.int i0), .val (.int i1), .val (.int i2), .val (.int o0), .val (.int o1), .val (.int o2), .val (.ref b1), .val (.int ae), .val (.int ok0), .val (.int ok1), .val (.int (1 : Int32)), .val (.int ex)] [(.int (1 : Int32))])) := by
          intro t k
          refine pre108 t ?_
          show Steps p.tables e below (T106.setTop (mkF m 240 #[.val (.int x0), .val (.int x1), .val (.int x2), .val (.int x3), .val (.int x4), .val (.int nn), .val (.int i0), .val (.int i1), .val (.int i2), .val (.int o0), .val (.int o1), .val (.int o2), .val (.ref b1), .val (.int ae), .val (.int ok0), .val (.int ok1), .val (.int (1 : Int32)), .val (.int ex)] [(.int ex), (.int (fval (own_fi ((0 : Int32) + (1 : Int32)) i1 (own_fi (0 : Int32) i0 (-1 : Int32))) (own_ie (own_ie (nar .boolean (1 : Int32)) i0 (own_fi (0 : Int32) i0 (-1 : Int32))) i1 (own_fi ((0 : Int32) + (1 : Int32)) i1 (own_fi (0 : Int32) i0 (-1 : Int32)))) (own_on o1 (own_on o0 (0 : Int32))) (own_ze o1 (own_ze o0 (0 : Int32)))))])) _
          refine XS.icmpNo X106.here hx rfl (hb hby at_240) rfl (XT.ii_ne_f hc240_109) ?_
          show Steps p.tables e below (T106.setTop (mkF m 243 #[.val (.int x0), .val (.int x1), .val (.int x2), .val (.int x3), .val (.int x4), .val (.int nn), .val (.int i0), .val (.int i1), .val (.int i2), .val (.int o0), .val (.int o1), .val (.int o2), .val (.ref b1), .val (.int ae), .val (.int ok0), .val (.int ok1), .val (.int (1 : Int32)), .val (.int ex)] [])) _
          refine XS.iconst X106.here hx rfl (hb hby at_243) ?_
          show Steps p.tables e below (T106.setTop (mkF m 244 #[.val (.int x0), .val (.int x1), .val (.int x2), .val (.int x3), .val (.int x4), .val (.int nn), .val (.int i0), .val (.int i1), .val (.int i2), .val (.int o0), .val (.int o1), .val (.int o2), .val (.ref b1), .val (.int ae), .val (.int ok0), .val (.int ok1), .val (.int (1 : Int32)), .val (.int ex)] [(.int (1 : Int32))])) _
          refine XS.goto X106.here hx rfl (pc0 := 244) (pc' := 248) rfl (hb hby at_244) (by decide) (by decide) ?_
          show Steps p.tables e below (T106.setTop (mkF m 248 #[.val (.int x0), .val (.int x1), .val (.int x2), .val (.int x3), .val (.int x4), .val (.int nn), .val (.int i0), .val (.int i1), .val (.int i2), .val (.int o0), .val (.int o1), .val (.int o2), .val (.ref b1), .val (.int ae), .val (.int ok0), .val (.int ok1), .val (.int (1 : Int32)), .val (.int ex)] [(.int (1 : Int32))])) _
          exact k
        obtain ⟨fs, hr, hrun, hended, hW, hsame⟩ := X106.leave (hlocks := hlk) (v := some (.int (1 : Int32))) (fun h => by rw [Bd.returns] at h; cases h)
        refine ⟨_, _, pre110 _ (retN X106 hx (t := .boolean) Bd.returns (by simp) (hb hby at_248) hr), hrun, hended, _, _, rfl, ?_, ⟨_, rfl⟩, hW, hsame.mono (by decide) (by decide)⟩
        show Q0 Z x0 x1 x2 x3 x4 h0 n0 _ T106.heap _
        rw [hh106]
        exact ⟨rfl, N106⟩
      · skip
        have pre111 : Go p e below (s₁.setTop (entryFrame m #[(.int x0), (.int x1), (.int x2), (.int x3), (.int x4)] maxLocals)) (T81.setTop (mkF m 95 #[.val (.int x0), .val (.int x1), .val (.int x2), .val (.int x3), .val (.int x4), .val (.int nn), .val (.int i0), .val (.int i1), .val (.int i2), .val (.int o0), .val (.int o1), .val (.int o2), .val (.ref b1), .unset, .unset, .unset, .unset, .unset] [(.int x4), (.int o2), (.int i2), (.ref b1)])) := by
          intro t k
          refine pre85 t ?_
          show Steps p.tables e below (T81.setTop (mkF m 84 #[.val (.int x0), .val (.int x1), .val (.int x2), .val (.int x3), .val (.int x4), .val (.int nn), .val (.int i0), .val (.int i1), .val (.int i2), .val (.int o0), .val (.int o1), .val (.int o2), .val (.ref b1), .unset, .unset, .unset, .unset, .unset] [(.int (3 : Int32)), (.int nn)])) _
          refine XS.icmpNo X81.here hx rfl (hb hby at_84) rfl (XT.ii_lt_f hc84_86) ?_
          show Steps p.tables e below (T81.setTop (mkF m 87 #[.val (.int x0), .val (.int x1), .val (.int x2), .val (.int x3), .val (.int x4), .val (.int nn), .val (.int i0), .val (.int i1), .val (.int i2), .val (.int o0), .val (.int o1), .val (.int o2), .val (.ref b1), .unset, .unset, .unset, .unset, .unset] [])) _
          refine XS.aload X81.here hx rfl (hb hby at_87) rfl rfl ?_
          show Steps p.tables e below (T81.setTop (mkF m 89 #[.val (.int x0), .val (.int x1), .val (.int x2), .val (.int x3), .val (.int x4), .val (.int nn), .val (.int i0), .val (.int i1), .val (.int i2), .val (.int o0), .val (.int o1), .val (.int o2), .val (.ref b1), .unset, .unset, .unset, .unset, .unset] [(.ref b1)])) _
          refine XS.iload X81.here hx rfl (hb hby at_89) rfl ?_
          show Steps p.tables e below (T81.setTop (mkF m 91 #[.val (.int x0), .val (.int x1), .val (.int x2), .val (.int x3), .val (.int x4), .val (.int nn), .val (.int i0), .val (.int i1), .val (.int i2), .val (.int o0), .val (.int o1), .val (.int o2), .val (.ref b1), .unset, .unset, .unset, .unset, .unset] [(.int i2), (.ref b1)])) _
          refine XS.iload X81.here hx rfl (hb hby at_91) rfl ?_
          show Steps p.tables e below (T81.setTop (mkF m 93 #[.val (.int x0), .val (.int x1), .val (.int x2), .val (.int x3), .val (.int x4), .val (.int nn), .val (.int i0), .val (.int i1), .val (.int i2), .val (.int o0), .val (.int o1), .val (.int o2), .val (.ref b1), .unset, .unset, .unset, .unset, .unset] [(.int o2), (.int i2), (.ref b1)])) _
          refine XS.iload X81.here hx rfl (hb hby at_93) rfl ?_
          show Steps p.tables e below (T81.setTop (mkF m 95 #[.val (.int x0), .val (.int x1), .val (.int x2), .val (.int x3), .val (.int x4), .val (.int nn), .val (.int i0), .val (.int i1), .val (.int i2), .val (.int o0), .val (.int o1), .val (.int o2), .val (.ref b1), .unset, .unset, .unset, .unset, .unset] [(.int x4), (.int o2), (.int i2), (.ref b1)])) _
          exact k
        obtain ⟨cq112, kq112, q112a, q112b, q112c⟩ := isOf hZ rfl X81e_b1
        obtain ⟨_, _, ⟨T112, L112, k112, n112⟩, -, X112, ⟨Lc112, hQ112, l112, y112, z112⟩, st112⟩ := X81.virtualBack hx (y := (⟨"lightbin/AgreementResult$Run", "addHonest", "(III)V"⟩ : MethodName)) (z := (⟨"lightbin/AgreementResult$Run", "addHonest", "(III)V"⟩ : MethodName)) hown (mvT hZ (hw _ (List.mem_of_getElem? (i := 24) rfl))) (mvT hZ (hw _ (List.mem_of_getElem? (i := 25) rfl))) (notFace_of_selects (args := #[]) (mvT hZ (hw _ (List.mem_of_getElem? (i := 27) rfl)))) (mvT hZ (hw _ (List.mem_of_getElem? (i := 27) rfl))) (mvT hZ (hw _ (List.mem_of_getElem? (i := 26) rfl))) (by decide) (backOf (W := 0) (rm5 l Z a0 hw [] b1 i2 o2 x4 (own_fi ((0 : Int32) + (1 : Int32)) i1 (own_fi (0 : Int32) i0 (-1 : Int32))) (own_ie (own_ie (nar .boolean (1 : Int32)) i0 (own_fi (0 : Int32) i0 (-1 : Int32))) i1 (own_fi ((0 : Int32) + (1 : Int32)) i1 (own_fi (0 : Int32) i0 (-1 : Int32)))) (((0 : Int32) + (1 : Int32)) + (1 : Int32)) (own_on o1 (own_on o0 (0 : Int32))) (own_ze o1 (own_ze o0 (0 : Int32))) dr81 T81.heap n0 zz83 ⟨X81e_b1, F81_firstInput_b1, F81_inputsEqual_b1, F81_nodes_b1, F81_ones_b1, F81_zeros_b1, F81_decisionRound_b1⟩ g_b1) hZ (hw _ (List.mem_of_getElem? (i := 28) rfl)) (hw _ (List.mem_of_getElem? (i := 6) rfl)) (by decide) (by decide)) q112a q112c (g := (mkF m 95 #[.val (.int x0), .val (.int x1), .val (.int x2), .val (.int x3), .val (.int x4), .val (.int nn), .val (.int i0), .val (.int i1), .val (.int i2), .val (.int o0), .val (.int o1), .val (.int o2), .val (.ref b1), .unset, .unset, .unset, .unset, .unset] [(.int x4), (.int o2), (.int i2), (.ref b1)])) rfl (by rw [hml]; rfl) (Steps.refl _) (argsL := [(.int i2), (.int o2), (.int x4)]) (rest := []) (lenOf pd_9 rfl) rfl (by show 2 * 0 + _ ≤ _; exact Nat.le_of_eq rfl) (hb hby at_95) (fun _ _ => ⟨rfl, rfl, (by decide : 1 + 0 ≤ _), (by decide : 6 + 0 ≤ _)⟩)
        dsimp only [Pt.U, Pt.locs, Pt.cells, Pt.slots] at X112 l112 y112 z112 st112 hQ112
        subst l112 y112 z112
        obtain ⟨rfl, N112q, K112, dr112, R112⟩ := hQ112
        have N112 := Fr.app N81 N112q
        obtain ⟨X112e_b1, F112_firstInput_b1, F112_inputsEqual_b1, F112_nodes_b1, F112_ones_b1, F112_zeros_b1, F112_decisionRound_b1⟩ := R112
        have kc113 := X81e_b1.keep K112
        have zz114 := Nat.le_trans zz83 K112.1
        have pre115 : Go p e below (s₁.setTop (entryFrame m #[(.int x0), (.int x1), (.int x2), (.int x3), (.int x4)] maxLocals)) (T112.setTop (mkF m 98 #[.val (.int x0), .val (.int x1), .val (.int x2), .val (.int x3), .val (.int x4), .val (.int nn), .val (.int i0), .val (.int i1), .val (.int i2), .val (.int o0), .val (.int o1), .val (.int o2), .val (.ref b1), .unset, .unset, .unset, .unset, .unset] [])) := fun t k => pre111 t (st112.trans k)
        have pre116 : Go p e below (s₁.setTop (entryFrame m #[(.int x0), (.int x1), (.int x2), (.int x3), (.int x4)] maxLocals)) (T112.setTop (mkF m 101 #[.val (.int x0), .val (.int x1), .val (.int x2), .val (.int x3), .val (.int x4), .val (.int nn), .val (.int i0), .val (.int i1), .val (.int i2), .val (.int o0), .val (.int o1), .val (.int o2), .val (.ref b1), .unset, .unset, .unset, .unset, .unset] [(.int (2 : Int32)), (.int nn)])) := by
          intro t k
          refine pre115 t ?_
          show Steps p.tables e below (T112.setTop (mkF m 98 #[.val (.int x0), .val (.int x1), .val (.int x2), .val (.int x3), .val (.int x4), .val (.int nn), .val (.int i0), .val (.int i1), .val (.int i2), .val (.int o0), .val (.int o1), .val (.int o2), .val (.ref b1), .unset, .unset, .unset, .unset, .unset] [])) _
          refine XS.iload X112.here hx rfl (hb hby at_98) rfl ?_
          show Steps p.tables e below (T112.setTop (mkF m 100 #[.val (.int x0), .val (.int x1), .val (.int x2), .val (.int x3), .val (.int x4), .val (.int nn), .val (.int i0), .val (.int i1), .val (.int i2), .val (.int o0), .val (.int o1), .val (.int o2), .val (.ref b1), .unset, .unset, .unset, .unset, .unset] [(.int nn)])) _
          refine XS.iconst X112.here hx rfl (hb hby at_100) ?_
          show Steps p.tables e below (T112.setTop (mkF m 101 #[.val (.int x0), .val (.int x1), .val (.int x2), .val (.int x3), .val (.int x4), .val (.int nn), .val (.int i0), .val (.int i1), .val (.int i2), .val (.int o0), .val (.int o1), .val (.int o2), .val (.ref b1), .unset, .unset, .unset, .unset, .unset] [(.int (2 : Int32)), (.int nn)])) _
          exact k
        obtain ⟨ae, h_ae⟩ : ∃ z : Int32, z = (if i1 = i0 then (if i2 = i0 then (1 : Int32) else (0 : Int32)) else (0 : Int32)) := ⟨_, rfl⟩
        have pre119 : Go p e below (s₁.setTop (entryFrame m #[(.int x0), (.int x1), (.int x2), (.int x3), (.int x4)] maxLocals)) (T112.setTop (mkF m 129 #[.val (.int x0), .val (.int x1), .val (.int x2), .val (.int x3), .val (.int x4), .val (.int nn), .val (.int i0), .val (.int i1), .val (.int i2), .val (.int o0), .val (.int o1), .val (.int o2), .val (.ref b1), .unset, .unset, .unset, .unset, .unset] [(.int ae)])) := by
          intro t k
          refine pre116 t ?_
          show Steps p.tables e below (T112.setTop (mkF m 101 #[.val (.int x0), .val (.int x1), .val (.int x2), .val (.int x3), .val (.int x4), .val (.int nn), .val (.int i0), .val (.int i1), .val (.int i2), .val (.int o0), .val (.int o1), .val (.int o2), .val (.ref b1), .unset, .unset, .unset, .unset, .unset] [(.int (2 : Int32)), (.int nn)])) _
          refine XS.icmpNo X112.here hx rfl (hb hby at_101) rfl (XT.ii_lt_f hc67_58) ?_
          show Steps p.tables e below (T112.setTop (mkF m 104 #[.val (.int x0), .val (.int x1), .val (.int x2), .val (.int x3), .val (.int x4), .val (.int nn), .val (.int i0), .val (.int i1), .val (.int i2), .val (.int o0), .val (.int o1), .val (.int o2), .val (.ref b1), .unset, .unset, .unset, .unset, .unset] [])) _
          refine XS.iload X112.here hx rfl (hb hby at_104) rfl ?_
          show Steps p.tables e below (T112.setTop (mkF m 106 #[.val (.int x0), .val (.int x1), .val (.int x2), .val (.int x3), .val (.int x4), .val (.int nn), .val (.int i0), .val (.int i1), .val (.int i2), .val (.int o0), .val (.int o1), .val (.int o2), .val (.ref b1), .unset, .unset, .unset, .unset, .unset] [(.int i1)])) _
          refine XS.iload X112.here hx rfl (hb hby at_106) rfl ?_
          show Steps p.tables e below (T112.setTop (mkF m 108 #[.val (.int x0), .val (.int x1), .val (.int x2), .val (.int x3), .val (.int x4), .val (.int nn), .val (.int i0), .val (.int i1), .val (.int i2), .val (.int o0), .val (.int o1), .val (.int o2), .val (.ref b1), .unset, .unset, .unset, .unset, .unset] [(.int i0), (.int i1)])) _
          by_cases hc108_117 : i1 = i0
          · skip
            refine XS.icmpNo X112.here hx rfl (hb hby at_108) rfl (XT.ii_ne_f hc108_117) ?_
            show Steps p.tables e below (T112.setTop (mkF m 111 #[.val (.int x0), .val (.int x1), .val (.int x2), .val (.int x3), .val (.int x4), .val (.int nn), .val (.int i0), .val (.int i1), .val (.int i2), .val (.int o0), .val (.int o1), .val (.int o2), .val (.ref b1), .unset, .unset, .unset, .unset, .unset] [])) _
            refine XS.iload X112.here hx rfl (hb hby at_111) rfl ?_
            show Steps p.tables e below (T112.setTop (mkF m 113 #[.val (.int x0), .val (.int x1), .val (.int x2), .val (.int x3), .val (.int x4), .val (.int nn), .val (.int i0), .val (.int i1), .val (.int i2), .val (.int o0), .val (.int o1), .val (.int o2), .val (.ref b1), .unset, .unset, .unset, .unset, .unset] [(.int nn)])) _
            refine XS.iconst X112.here hx rfl (hb hby at_113) ?_
            show Steps p.tables e below (T112.setTop (mkF m 114 #[.val (.int x0), .val (.int x1), .val (.int x2), .val (.int x3), .val (.int x4), .val (.int nn), .val (.int i0), .val (.int i1), .val (.int i2), .val (.int o0), .val (.int o1), .val (.int o2), .val (.ref b1), .unset, .unset, .unset, .unset, .unset] [(.int (3 : Int32)), (.int nn)])) _
            refine XS.icmpNo X112.here hx rfl (hb hby at_114) rfl (XT.ii_lt_f hc84_86) ?_
            show Steps p.tables e below (T112.setTop (mkF m 117 #[.val (.int x0), .val (.int x1), .val (.int x2), .val (.int x3), .val (.int x4), .val (.int nn), .val (.int i0), .val (.int i1), .val (.int i2), .val (.int o0), .val (.int o1), .val (.int o2), .val (.ref b1), .unset, .unset, .unset, .unset, .unset] [])) _
            refine XS.iload X112.here hx rfl (hb hby at_117) rfl ?_
            show Steps p.tables e below (T112.setTop (mkF m 119 #[.val (.int x0), .val (.int x1), .val (.int x2), .val (.int x3), .val (.int x4), .val (.int nn), .val (.int i0), .val (.int i1), .val (.int i2), .val (.int o0), .val (.int o1), .val (.int o2), .val (.ref b1), .unset, .unset, .unset, .unset, .unset] [(.int i2)])) _
            refine XS.iload X112.here hx rfl (hb hby at_119) rfl ?_
            show Steps p.tables e below (T112.setTop (mkF m 121 #[.val (.int x0), .val (.int x1), .val (.int x2), .val (.int x3), .val (.int x4), .val (.int nn), .val (.int i0), .val (.int i1), .val (.int i2), .val (.int o0), .val (.int o1), .val (.int o2), .val (.ref b1), .unset, .unset, .unset, .unset, .unset] [(.int i0), (.int i2)])) _
            by_cases hc121_118 : i2 = i0
            · skip
              refine XS.icmpNo X112.here hx rfl (hb hby at_121) rfl (XT.ii_ne_f hc121_118) ?_
              show Steps p.tables e below (T112.setTop (mkF m 124 #[.val (.int x0), .val (.int x1), .val (.int x2), .val (.int x3), .val (.int x4), .val (.int nn), .val (.int i0), .val (.int i1), .val (.int i2), .val (.int o0), .val (.int o1), .val (.int o2), .val (.ref b1), .unset, .unset, .unset, .unset, .unset] [])) _
              refine XS.iconst X112.here hx rfl (hb hby at_124) ?_
              show Steps p.tables e below (T112.setTop (mkF m 125 #[.val (.int x0), .val (.int x1), .val (.int x2), .val (.int x3), .val (.int x4), .val (.int nn), .val (.int i0), .val (.int i1), .val (.int i2), .val (.int o0), .val (.int o1), .val (.int o2), .val (.ref b1), .unset, .unset, .unset, .unset, .unset] [(.int (1 : Int32))])) _
              refine XS.goto X112.here hx rfl (pc0 := 125) (pc' := 129) rfl (hb hby at_125) (by decide) (by decide) ?_
              show Steps p.tables e below (T112.setTop (mkF m 129 #[.val (.int x0), .val (.int x1), .val (.int x2), .val (.int x3), .val (.int x4), .val (.int nn), .val (.int i0), .val (.int i1), .val (.int i2), .val (.int o0), .val (.int o1), .val (.int o2), .val (.ref b1), .unset, .unset, .unset, .unset, .unset] [(.int (1 : Int32))])) _
              rw [show ae = (1 : Int32) from by rw [h_ae]; rw [if_pos hc108_117, if_pos hc121_118]] at k
              exact k
            · skip
              refine XS.icmpYes X112.here hx rfl (pc0 := 121) (pc' := 128) rfl (hb hby at_121) rfl (XT.ii_ne_t hc121_118) (by decide) (by decide) ?_
              show Steps p.tables e below (T112.setTop (mkF m 128 #[.val (.int x0), .val (.int x1), .val (.int x2), .val (.int x3), .val (.int x4), .val (.int nn), .val (.int i0), .val (.int i1), .val (.int i2), .val (.int o0), .val (.int o1), .val (.int o2), .val (.ref b1), .unset, .unset, .unset, .unset, .unset] [])) _
              refine XS.iconst X112.here hx rfl (hb hby at_128) ?_
              show Steps p.tables e below (T112.setTop (mkF m 129 #[.val (.int x0), .val (.int x1), .val (.int x2), .val (.int x3), .val (.int x4), .val (.int nn), .val (.int i0), .val (.int i1), .val (.int i2), .val (.int o0), .val (.int o1), .val (.int o2), .val (.ref b1), .unset, .unset, .unset, .unset, .unset] [(.int (0 : Int32))])) _
              rw [show ae = (0 : Int32) from by rw [h_ae]; rw [if_pos hc108_117, if_neg hc121_118]] at k
              exact k
          · skip
            refine XS.icmpYes X112.here hx rfl (pc0 := 108) (pc' := 128) rfl (hb hby at_108) rfl (XT.ii_ne_t hc108_117) (by decide) (by decide) ?_
            show Steps p.tables e below (T112.setTop (mkF m 128 #[.val (.int x0), .val (.int x1), .val (.int x2), .val (.int x3), .val (.int x4), .val (.int nn), .val (.int i0), .val (.int i1), .val (.int i2), .val (.int o0), .val (.int o1), .val (.int o2), .val (.ref b1), .unset, .unset, .unset, .unset, .unset] [])) _
            refine XS.iconst X112.here hx rfl (hb hby at_128) ?_
            show Steps p.tables e below (T112.setTop (mkF m 129 #[.val (.int x0), .val (.int x1), .val (.int x2), .val (.int x3), .val (.int x4), .val (.int nn), .val (.int i0), .val (.int i1), .val (.int i2), .val (.int o0), .val (.int o1), .val (.int o2), .val (.ref b1), .unset, .unset, .unset, .unset, .unset] [(.int (0 : Int32))])) _
            rw [show ae = (0 : Int32) from by rw [h_ae]; rw [if_neg hc108_117]] at k
            exact k
        have pre120 : Go p e below (s₁.setTop (entryFrame m #[(.int x0), (.int x1), (.int x2), (.int x3), (.int x4)] maxLocals)) (T112.setTop (mkF m 134 #[.val (.int x0), .val (.int x1), .val (.int x2), .val (.int x3), .val (.int x4), .val (.int nn), .val (.int i0), .val (.int i1), .val (.int i2), .val (.int o0), .val (.int o1), .val (.int o2), .val (.ref b1), .val (.int ae), .unset, .unset, .unset, .unset] [(.int (1 : Int32)), (.int nn)])) := by
          intro t k
          refine pre119 t ?_
          show Steps p.tables e below (T112.setTop (mkF m 129 #[.val (.int x0), .val (.int x1), .val (.int x2), .val (.int x3), .val (.int x4), .val (.int nn), .val (.int i0), .val (.int i1), .val (.int i2), .val (.int o0), .val (.int o1), .val (.int o2), .val (.ref b1), .unset, .unset, .unset, .unset, .unset] [(.int ae)])) _
          refine XS.istore X112.here hx rfl (hb hby at_129) rfl (l' := #[.val (.int x0), .val (.int x1), .val (.int x2), .val (.int x3), .val (.int x4), .val (.int nn), .val (.int i0), .val (.int i1), .val (.int i2), .val (.int o0), .val (.int o1), .val (.int o2), .val (.ref b1), .val (.int ae), .unset, .unset, .unset, .unset]) rfl ?_
          show Steps p.tables e below (T112.setTop (mkF m 131 #[.val (.int x0), .val (.int x1), .val (.int x2), .val (.int x3), .val (.int x4), .val (.int nn), .val (.int i0), .val (.int i1), .val (.int i2), .val (.int o0), .val (.int o1), .val (.int o2), .val (.ref b1), .val (.int ae), .unset, .unset, .unset, .unset] [])) _
          refine XS.iload X112.here hx rfl (hb hby at_131) rfl ?_
          show Steps p.tables e below (T112.setTop (mkF m 133 #[.val (.int x0), .val (.int x1), .val (.int x2), .val (.int x3), .val (.int x4), .val (.int nn), .val (.int i0), .val (.int i1), .val (.int i2), .val (.int o0), .val (.int o1), .val (.int o2), .val (.ref b1), .val (.int ae), .unset, .unset, .unset, .unset] [(.int nn)])) _
          refine XS.iconst X112.here hx rfl (hb hby at_133) ?_
          show Steps p.tables e below (T112.setTop (mkF m 134 #[.val (.int x0), .val (.int x1), .val (.int x2), .val (.int x3), .val (.int x4), .val (.int nn), .val (.int i0), .val (.int i1), .val (.int i2), .val (.int o0), .val (.int o1), .val (.int o2), .val (.ref b1), .val (.int ae), .unset, .unset, .unset, .unset] [(.int (1 : Int32)), (.int nn)])) _
          exact k
        obtain ⟨ok0, h_ok0⟩ : ∃ z : Int32, z = (if o0 < (0 : Int32) then (1 : Int32) else (if o0 = i0 then (1 : Int32) else (0 : Int32))) := ⟨_, rfl⟩
        have pre123 : Go p e below (s₁.setTop (entryFrame m #[(.int x0), (.int x1), (.int x2), (.int x3), (.int x4)] maxLocals)) (T112.setTop (mkF m 154 #[.val (.int x0), .val (.int x1), .val (.int x2), .val (.int x3), .val (.int x4), .val (.int nn), .val (.int i0), .val (.int i1), .val (.int i2), .val (.int o0), .val (.int o1), .val (.int o2), .val (.ref b1), .val (.int ae), .unset, .unset, .unset, .unset] [(.int ok0)])) := by
          intro t k
          refine pre120 t ?_
          show Steps p.tables e below (T112.setTop (mkF m 134 #[.val (.int x0), .val (.int x1), .val (.int x2), .val (.int x3), .val (.int x4), .val (.int nn), .val (.int i0), .val (.int i1), .val (.int i2), .val (.int o0), .val (.int o1), .val (.int o2), .val (.ref b1), .val (.int ae), .unset, .unset, .unset, .unset] [(.int (1 : Int32)), (.int nn)])) _
          refine XS.icmpNo X112.here hx rfl (hb hby at_134) rfl (XT.ii_lt_f hc50_31) ?_
          show Steps p.tables e below (T112.setTop (mkF m 137 #[.val (.int x0), .val (.int x1), .val (.int x2), .val (.int x3), .val (.int x4), .val (.int nn), .val (.int i0), .val (.int i1), .val (.int i2), .val (.int o0), .val (.int o1), .val (.int o2), .val (.ref b1), .val (.int ae), .unset, .unset, .unset, .unset] [])) _
          refine XS.iload X112.here hx rfl (hb hby at_137) rfl ?_
          show Steps p.tables e below (T112.setTop (mkF m 139 #[.val (.int x0), .val (.int x1), .val (.int x2), .val (.int x3), .val (.int x4), .val (.int nn), .val (.int i0), .val (.int i1), .val (.int i2), .val (.int o0), .val (.int o1), .val (.int o2), .val (.ref b1), .val (.int ae), .unset, .unset, .unset, .unset] [(.int o0)])) _
          by_cases hc139_121 : o0 < (0 : Int32)
          · skip
            refine XS.ifYes X112.here hx rfl (pc0 := 139) (pc' := 149) rfl (hb hby at_139) rfl (XT.i0_lt_t hc139_121) (by decide) (by decide) ?_
            show Steps p.tables e below (T112.setTop (mkF m 149 #[.val (.int x0), .val (.int x1), .val (.int x2), .val (.int x3), .val (.int x4), .val (.int nn), .val (.int i0), .val (.int i1), .val (.int i2), .val (.int o0), .val (.int o1), .val (.int o2), .val (.ref b1), .val (.int ae), .unset, .unset, .unset, .unset] [])) _
            refine XS.iconst X112.here hx rfl (hb hby at_149) ?_
            show Steps p.tables e below (T112.setTop (mkF m 150 #[.val (.int x0), .val (.int x1), .val (.int x2), .val (.int x3), .val (.int x4), .val (.int nn), .val (.int i0), .val (.int i1), .val (.int i2), .val (.int o0), .val (.int o1), .val (.int o2), .val (.ref b1), .val (.int ae), .unset, .unset, .unset, .unset] [(.int (1 : Int32))])) _
            refine XS.goto X112.here hx rfl (pc0 := 150) (pc' := 154) rfl (hb hby at_150) (by decide) (by decide) ?_
            show Steps p.tables e below (T112.setTop (mkF m 154 #[.val (.int x0), .val (.int x1), .val (.int x2), .val (.int x3), .val (.int x4), .val (.int nn), .val (.int i0), .val (.int i1), .val (.int i2), .val (.int o0), .val (.int o1), .val (.int o2), .val (.ref b1), .val (.int ae), .unset, .unset, .unset, .unset] [(.int (1 : Int32))])) _
            rw [show ok0 = (1 : Int32) from by rw [h_ok0]; rw [if_pos hc139_121]] at k
            exact k
          · skip
            refine XS.ifNo X112.here hx rfl (hb hby at_139) rfl (XT.i0_lt_f hc139_121) ?_
            show Steps p.tables e below (T112.setTop (mkF m 142 #[.val (.int x0), .val (.int x1), .val (.int x2), .val (.int x3), .val (.int x4), .val (.int nn), .val (.int i0), .val (.int i1), .val (.int i2), .val (.int o0), .val (.int o1), .val (.int o2), .val (.ref b1), .val (.int ae), .unset, .unset, .unset, .unset] [])) _
            refine XS.iload X112.here hx rfl (hb hby at_142) rfl ?_
            show Steps p.tables e below (T112.setTop (mkF m 144 #[.val (.int x0), .val (.int x1), .val (.int x2), .val (.int x3), .val (.int x4), .val (.int nn), .val (.int i0), .val (.int i1), .val (.int i2), .val (.int o0), .val (.int o1), .val (.int o2), .val (.ref b1), .val (.int ae), .unset, .unset, .unset, .unset] [(.int o0)])) _
            refine XS.iload X112.here hx rfl (hb hby at_144) rfl ?_
            show Steps p.tables e below (T112.setTop (mkF m 146 #[.val (.int x0), .val (.int x1), .val (.int x2), .val (.int x3), .val (.int x4), .val (.int nn), .val (.int i0), .val (.int i1), .val (.int i2), .val (.int o0), .val (.int o1), .val (.int o2), .val (.ref b1), .val (.int ae), .unset, .unset, .unset, .unset] [(.int i0), (.int o0)])) _
            by_cases hc146_122 : o0 = i0
            · skip
              refine XS.icmpNo X112.here hx rfl (hb hby at_146) rfl (XT.ii_ne_f hc146_122) ?_
              show Steps p.tables e below (T112.setTop (mkF m 149 #[.val (.int x0), .val (.int x1), .val (.int x2), .val (.int x3), .val (.int x4), .val (.int nn), .val (.int i0), .val (.int i1), .val (.int i2), .val (.int o0), .val (.int o1), .val (.int o2), .val (.ref b1), .val (.int ae), .unset, .unset, .unset, .unset] [])) _
              refine XS.iconst X112.here hx rfl (hb hby at_149) ?_
              show Steps p.tables e below (T112.setTop (mkF m 150 #[.val (.int x0), .val (.int x1), .val (.int x2), .val (.int x3), .val (.int x4), .val (.int nn), .val (.int i0), .val (.int i1), .val (.int i2), .val (.int o0), .val (.int o1), .val (.int o2), .val (.ref b1), .val (.int ae), .unset, .unset, .unset, .unset] [(.int (1 : Int32))])) _
              refine XS.goto X112.here hx rfl (pc0 := 150) (pc' := 154) rfl (hb hby at_150) (by decide) (by decide) ?_
              show Steps p.tables e below (T112.setTop (mkF m 154 #[.val (.int x0), .val (.int x1), .val (.int x2), .val (.int x3), .val (.int x4), .val (.int nn), .val (.int i0), .val (.int i1), .val (.int i2), .val (.int o0), .val (.int o1), .val (.int o2), .val (.ref b1), .val (.int ae), .unset, .unset, .unset, .unset] [(.int (1 : Int32))])) _
              rw [show ok0 = (1 : Int32) from by rw [h_ok0]; rw [if_neg hc139_121, if_pos hc146_122]] at k
              exact k
            · skip
              refine XS.icmpYes X112.here hx rfl (pc0 := 146) (pc' := 153) rfl (hb hby at_146) rfl (XT.ii_ne_t hc146_122) (by decide) (by decide) ?_
              show Steps p.tables e below (T112.setTop (mkF m 153 #[.val (.int x0), .val (.int x1), .val (.int x2), .val (.int x3), .val (.int x4), .val (.int nn), .val (.int i0), .val (.int i1), .val (.int i2), .val (.int o0), .val (.int o1), .val (.int o2), .val (.ref b1), .val (.int ae), .unset, .unset, .unset, .unset] [])) _
              refine XS.iconst X112.here hx rfl (hb hby at_153) ?_
              show Steps p.tables e below (T112.setTop (mkF m 154 #[.val (.int x0), .val (.int x1), .val (.int x2), .val (.int x3), .val (.int x4), .val (.int nn), .val (.int i0), .val (.int i1), .val (.int i2), .val (.int o0), .val (.int o1), .val (.int o2), .val (.ref b1), .val (.int ae), .unset, .unset, .unset, .unset] [(.int (0 : Int32))])) _
              rw [show ok0 = (0 : Int32) from by rw [h_ok0]; rw [if_neg hc139_121, if_neg hc146_122]] at k
              exact k
        have pre124 : Go p e below (s₁.setTop (entryFrame m #[(.int x0), (.int x1), (.int x2), (.int x3), (.int x4)] maxLocals)) (T112.setTop (mkF m 159 #[.val (.int x0), .val (.int x1), .val (.int x2), .val (.int x3), .val (.int x4), .val (.int nn), .val (.int i0), .val (.int i1), .val (.int i2), .val (.int o0), .val (.int o1), .val (.int o2), .val (.ref b1), .val (.int ae), .val (.int ok0), .unset, .unset, .unset] [(.int (2 : Int32)), (.int nn)])) := by
          intro t k
          refine pre123 t ?_
          show Steps p.tables e below (T112.setTop (mkF m 154 #[.val (.int x0), .val (.int x1), .val (.int x2), .val (.int x3), .val (.int x4), .val (.int nn), .val (.int i0), .val (.int i1), .val (.int i2), .val (.int o0), .val (.int o1), .val (.int o2), .val (.ref b1), .val (.int ae), .unset, .unset, .unset, .unset] [(.int ok0)])) _
          refine XS.istore X112.here hx rfl (hb hby at_154) rfl (l' := #[.val (.int x0), .val (.int x1), .val (.int x2), .val (.int x3), .val (.int x4), .val (.int nn), .val (.int i0), .val (.int i1), .val (.int i2), .val (.int o0), .val (.int o1), .val (.int o2), .val (.ref b1), .val (.int ae), .val (.int ok0), .unset, .unset, .unset]) rfl ?_
          show Steps p.tables e below (T112.setTop (mkF m 156 #[.val (.int x0), .val (.int x1), .val (.int x2), .val (.int x3), .val (.int x4), .val (.int nn), .val (.int i0), .val (.int i1), .val (.int i2), .val (.int o0), .val (.int o1), .val (.int o2), .val (.ref b1), .val (.int ae), .val (.int ok0), .unset, .unset, .unset] [])) _
          refine XS.iload X112.here hx rfl (hb hby at_156) rfl ?_
          show Steps p.tables e below (T112.setTop (mkF m 158 #[.val (.int x0), .val (.int x1), .val (.int x2), .val (.int x3), .val (.int x4), .val (.int nn), .val (.int i0), .val (.int i1), .val (.int i2), .val (.int o0), .val (.int o1), .val (.int o2), .val (.ref b1), .val (.int ae), .val (.int ok0), .unset, .unset, .unset] [(.int nn)])) _
          refine XS.iconst X112.here hx rfl (hb hby at_158) ?_
          show Steps p.tables e below (T112.setTop (mkF m 159 #[.val (.int x0), .val (.int x1), .val (.int x2), .val (.int x3), .val (.int x4), .val (.int nn), .val (.int i0), .val (.int i1), .val (.int i2), .val (.int o0), .val (.int o1), .val (.int o2), .val (.ref b1), .val (.int ae), .val (.int ok0), .unset, .unset, .unset] [(.int (2 : Int32)), (.int nn)])) _
          exact k
        obtain ⟨ok1, h_ok1⟩ : ∃ z : Int32, z = (if o1 < (0 : Int32) then (1 : Int32) else (if o1 = i0 then (1 : Int32) else (0 : Int32))) := ⟨_, rfl⟩
        have pre127 : Go p e below (s₁.setTop (entryFrame m #[(.int x0), (.int x1), (.int x2), (.int x3), (.int x4)] maxLocals)) (T112.setTop (mkF m 179 #[.val (.int x0), .val (.int x1), .val (.int x2), .val (.int x3), .val (.int x4), .val (.int nn), .val (.int i0), .val (.int i1), .val (.int i2), .val (.int o0), .val (.int o1), .val (.int o2), .val (.ref b1), .val (.int ae), .val (.int ok0), .unset, .unset, .unset] [(.int ok1)])) := by
          intro t k
          refine pre124 t ?_
          show Steps p.tables e below (T112.setTop (mkF m 159 #[.val (.int x0), .val (.int x1), .val (.int x2), .val (.int x3), .val (.int x4), .val (.int nn), .val (.int i0), .val (.int i1), .val (.int i2), .val (.int o0), .val (.int o1), .val (.int o2), .val (.ref b1), .val (.int ae), .val (.int ok0), .unset, .unset, .unset] [(.int (2 : Int32)), (.int nn)])) _
          refine XS.icmpNo X112.here hx rfl (hb hby at_159) rfl (XT.ii_lt_f hc67_58) ?_
          show Steps p.tables e below (T112.setTop (mkF m 162 #[.val (.int x0), .val (.int x1), .val (.int x2), .val (.int x3), .val (.int x4), .val (.int nn), .val (.int i0), .val (.int i1), .val (.int i2), .val (.int o0), .val (.int o1), .val (.int o2), .val (.ref b1), .val (.int ae), .val (.int ok0), .unset, .unset, .unset] [])) _
          refine XS.iload X112.here hx rfl (hb hby at_162) rfl ?_
          show Steps p.tables e below (T112.setTop (mkF m 164 #[.val (.int x0), .val (.int x1), .val (.int x2), .val (.int x3), .val (.int x4), .val (.int nn), .val (.int i0), .val (.int i1), .val (.int i2), .val (.int o0), .val (.int o1), .val (.int o2), .val (.ref b1), .val (.int ae), .val (.int ok0), .unset, .unset, .unset] [(.int o1)])) _
          by_cases hc164_125 : o1 < (0 : Int32)
          · skip
            refine XS.ifYes X112.here hx rfl (pc0 := 164) (pc' := 174) rfl (hb hby at_164) rfl (XT.i0_lt_t hc164_125) (by decide) (by decide) ?_
            show Steps p.tables e below (T112.setTop (mkF m 174 #[.val (.int x0), .val (.int x1), .val (.int x2), .val (.int x3), .val (.int x4), .val (.int nn), .val (.int i0), .val (.int i1), .val (.int i2), .val (.int o0), .val (.int o1), .val (.int o2), .val (.ref b1), .val (.int ae), .val (.int ok0), .unset, .unset, .unset] [])) _
            refine XS.iconst X112.here hx rfl (hb hby at_174) ?_
            show Steps p.tables e below (T112.setTop (mkF m 175 #[.val (.int x0), .val (.int x1), .val (.int x2), .val (.int x3), .val (.int x4), .val (.int nn), .val (.int i0), .val (.int i1), .val (.int i2), .val (.int o0), .val (.int o1), .val (.int o2), .val (.ref b1), .val (.int ae), .val (.int ok0), .unset, .unset, .unset] [(.int (1 : Int32))])) _
            refine XS.goto X112.here hx rfl (pc0 := 175) (pc' := 179) rfl (hb hby at_175) (by decide) (by decide) ?_
            show Steps p.tables e below (T112.setTop (mkF m 179 #[.val (.int x0), .val (.int x1), .val (.int x2), .val (.int x3), .val (.int x4), .val (.int nn), .val (.int i0), .val (.int i1), .val (.int i2), .val (.int o0), .val (.int o1), .val (.int o2), .val (.ref b1), .val (.int ae), .val (.int ok0), .unset, .unset, .unset] [(.int (1 : Int32))])) _
            rw [show ok1 = (1 : Int32) from by rw [h_ok1]; rw [if_pos hc164_125]] at k
            exact k
          · skip
            refine XS.ifNo X112.here hx rfl (hb hby at_164) rfl (XT.i0_lt_f hc164_125) ?_
            show Steps p.tables e below (T112.setTop (mkF m 167 #[.val (.int x0), .val (.int x1), .val (.int x2), .val (.int x3), .val (.int x4), .val (.int nn), .val (.int i0), .val (.int i1), .val (.int i2), .val (.int o0), .val (.int o1), .val (.int o2), .val (.ref b1), .val (.int ae), .val (.int ok0), .unset, .unset, .unset] [])) _
            refine XS.iload X112.here hx rfl (hb hby at_167) rfl ?_
            show Steps p.tables e below (T112.setTop (mkF m 169 #[.val (.int x0), .val (.int x1), .val (.int x2), .val (.int x3), .val (.int x4), .val (.int nn), .val (.int i0), .val (.int i1), .val (.int i2), .val (.int o0), .val (.int o1), .val (.int o2), .val (.ref b1), .val (.int ae), .val (.int ok0), .unset, .unset, .unset] [(.int o1)])) _
            refine XS.iload X112.here hx rfl (hb hby at_169) rfl ?_
            show Steps p.tables e below (T112.setTop (mkF m 171 #[.val (.int x0), .val (.int x1), .val (.int x2), .val (.int x3), .val (.int x4), .val (.int nn), .val (.int i0), .val (.int i1), .val (.int i2), .val (.int o0), .val (.int o1), .val (.int o2), .val (.ref b1), .val (.int ae), .val (.int ok0), .unset, .unset, .unset] [(.int i0), (.int o1)])) _
            by_cases hc171_126 : o1 = i0
            · skip
              refine XS.icmpNo X112.here hx rfl (hb hby at_171) rfl (XT.ii_ne_f hc171_126) ?_
              show Steps p.tables e below (T112.setTop (mkF m 174 #[.val (.int x0), .val (.int x1), .val (.int x2), .val (.int x3), .val (.int x4), .val (.int nn), .val (.int i0), .val (.int i1), .val (.int i2), .val (.int o0), .val (.int o1), .val (.int o2), .val (.ref b1), .val (.int ae), .val (.int ok0), .unset, .unset, .unset] [])) _
              refine XS.iconst X112.here hx rfl (hb hby at_174) ?_
              show Steps p.tables e below (T112.setTop (mkF m 175 #[.val (.int x0), .val (.int x1), .val (.int x2), .val (.int x3), .val (.int x4), .val (.int nn), .val (.int i0), .val (.int i1), .val (.int i2), .val (.int o0), .val (.int o1), .val (.int o2), .val (.ref b1), .val (.int ae), .val (.int ok0), .unset, .unset, .unset] [(.int (1 : Int32))])) _
              refine XS.goto X112.here hx rfl (pc0 := 175) (pc' := 179) rfl (hb hby at_175) (by decide) (by decide) ?_
              show Steps p.tables e below (T112.setTop (mkF m 179 #[.val (.int x0), .val (.int x1), .val (.int x2), .val (.int x3), .val (.int x4), .val (.int nn), .val (.int i0), .val (.int i1), .val (.int i2), .val (.int o0), .val (.int o1), .val (.int o2), .val (.ref b1), .val (.int ae), .val (.int ok0), .unset, .unset, .unset] [(.int (1 : Int32))])) _
              rw [show ok1 = (1 : Int32) from by rw [h_ok1]; rw [if_neg hc164_125, if_pos hc171_126]] at k
              exact k
            · skip
              refine XS.icmpYes X112.here hx rfl (pc0 := 171) (pc' := 178) rfl (hb hby at_171) rfl (XT.ii_ne_t hc171_126) (by decide) (by decide) ?_
              show Steps p.tables e below (T112.setTop (mkF m 178 #[.val (.int x0), .val (.int x1), .val (.int x2), .val (.int x3), .val (.int x4), .val (.int nn), .val (.int i0), .val (.int i1), .val (.int i2), .val (.int o0), .val (.int o1), .val (.int o2), .val (.ref b1), .val (.int ae), .val (.int ok0), .unset, .unset, .unset] [])) _
              refine XS.iconst X112.here hx rfl (hb hby at_178) ?_
              show Steps p.tables e below (T112.setTop (mkF m 179 #[.val (.int x0), .val (.int x1), .val (.int x2), .val (.int x3), .val (.int x4), .val (.int nn), .val (.int i0), .val (.int i1), .val (.int i2), .val (.int o0), .val (.int o1), .val (.int o2), .val (.ref b1), .val (.int ae), .val (.int ok0), .unset, .unset, .unset] [(.int (0 : Int32))])) _
              rw [show ok1 = (0 : Int32) from by rw [h_ok1]; rw [if_neg hc164_125, if_neg hc171_126]] at k
              exact k
        have pre128 : Go p e below (s₁.setTop (entryFrame m #[(.int x0), (.int x1), (.int x2), (.int x3), (.int x4)] maxLocals)) (T112.setTop (mkF m 184 #[.val (.int x0), .val (.int x1), .val (.int x2), .val (.int x3), .val (.int x4), .val (.int nn), .val (.int i0), .val (.int i1), .val (.int i2), .val (.int o0), .val (.int o1), .val (.int o2), .val (.ref b1), .val (.int ae), .val (.int ok0), .val (.int ok1), .unset, .unset] [(.int (3 : Int32)), (.int nn)])) := by
          intro t k
          refine pre127 t ?_
          show Steps p.tables e below (T112.setTop (mkF m 179 #[.val (.int x0), .val (.int x1), .val (.int x2), .val (.int x3), .val (.int x4), .val (.int nn), .val (.int i0), .val (.int i1), .val (.int i2), .val (.int o0), .val (.int o1), .val (.int o2), .val (.ref b1), .val (.int ae), .val (.int ok0), .unset, .unset, .unset] [(.int ok1)])) _
          refine XS.istore X112.here hx rfl (hb hby at_179) rfl (l' := #[.val (.int x0), .val (.int x1), .val (.int x2), .val (.int x3), .val (.int x4), .val (.int nn), .val (.int i0), .val (.int i1), .val (.int i2), .val (.int o0), .val (.int o1), .val (.int o2), .val (.ref b1), .val (.int ae), .val (.int ok0), .val (.int ok1), .unset, .unset]) rfl ?_
          show Steps p.tables e below (T112.setTop (mkF m 181 #[.val (.int x0), .val (.int x1), .val (.int x2), .val (.int x3), .val (.int x4), .val (.int nn), .val (.int i0), .val (.int i1), .val (.int i2), .val (.int o0), .val (.int o1), .val (.int o2), .val (.ref b1), .val (.int ae), .val (.int ok0), .val (.int ok1), .unset, .unset] [])) _
          refine XS.iload X112.here hx rfl (hb hby at_181) rfl ?_
          show Steps p.tables e below (T112.setTop (mkF m 183 #[.val (.int x0), .val (.int x1), .val (.int x2), .val (.int x3), .val (.int x4), .val (.int nn), .val (.int i0), .val (.int i1), .val (.int i2), .val (.int o0), .val (.int o1), .val (.int o2), .val (.ref b1), .val (.int ae), .val (.int ok0), .val (.int ok1), .unset, .unset] [(.int nn)])) _
          refine XS.iconst X112.here hx rfl (hb hby at_183) ?_
          show Steps p.tables e below (T112.setTop (mkF m 184 #[.val (.int x0), .val (.int x1), .val (.int x2), .val (.int x3), .val (.int x4), .val (.int nn), .val (.int i0), .val (.int i1), .val (.int i2), .val (.int o0), .val (.int o1), .val (.int o2), .val (.ref b1), .val (.int ae), .val (.int ok0), .val (.int ok1), .unset, .unset] [(.int (3 : Int32)), (.int nn)])) _
          exact k
        obtain ⟨ok2, h_ok2⟩ : ∃ z : Int32, z = (if o2 < (0 : Int32) then (1 : Int32) else (if o2 = i0 then (1 : Int32) else (0 : Int32))) := ⟨_, rfl⟩
        have pre131 : Go p e below (s₁.setTop (entryFrame m #[(.int x0), (.int x1), (.int x2), (.int x3), (.int x4)] maxLocals)) (T112.setTop (mkF m 204 #[.val (.int x0), .val (.int x1), .val (.int x2), .val (.int x3), .val (.int x4), .val (.int nn), .val (.int i0), .val (.int i1), .val (.int i2), .val (.int o0), .val (.int o1), .val (.int o2), .val (.ref b1), .val (.int ae), .val (.int ok0), .val (.int ok1), .unset, .unset] [(.int ok2)])) := by
          intro t k
          refine pre128 t ?_
          show Steps p.tables e below (T112.setTop (mkF m 184 #[.val (.int x0), .val (.int x1), .val (.int x2), .val (.int x3), .val (.int x4), .val (.int nn), .val (.int i0), .val (.int i1), .val (.int i2), .val (.int o0), .val (.int o1), .val (.int o2), .val (.ref b1), .val (.int ae), .val (.int ok0), .val (.int ok1), .unset, .unset] [(.int (3 : Int32)), (.int nn)])) _
          refine XS.icmpNo X112.here hx rfl (hb hby at_184) rfl (XT.ii_lt_f hc84_86) ?_
          show Steps p.tables e below (T112.setTop (mkF m 187 #[.val (.int x0), .val (.int x1), .val (.int x2), .val (.int x3), .val (.int x4), .val (.int nn), .val (.int i0), .val (.int i1), .val (.int i2), .val (.int o0), .val (.int o1), .val (.int o2), .val (.ref b1), .val (.int ae), .val (.int ok0), .val (.int ok1), .unset, .unset] [])) _
          refine XS.iload X112.here hx rfl (hb hby at_187) rfl ?_
          show Steps p.tables e below (T112.setTop (mkF m 189 #[.val (.int x0), .val (.int x1), .val (.int x2), .val (.int x3), .val (.int x4), .val (.int nn), .val (.int i0), .val (.int i1), .val (.int i2), .val (.int o0), .val (.int o1), .val (.int o2), .val (.ref b1), .val (.int ae), .val (.int ok0), .val (.int ok1), .unset, .unset] [(.int o2)])) _
          by_cases hc189_129 : o2 < (0 : Int32)
          · skip
            refine XS.ifYes X112.here hx rfl (pc0 := 189) (pc' := 199) rfl (hb hby at_189) rfl (XT.i0_lt_t hc189_129) (by decide) (by decide) ?_
            show Steps p.tables e below (T112.setTop (mkF m 199 #[.val (.int x0), .val (.int x1), .val (.int x2), .val (.int x3), .val (.int x4), .val (.int nn), .val (.int i0), .val (.int i1), .val (.int i2), .val (.int o0), .val (.int o1), .val (.int o2), .val (.ref b1), .val (.int ae), .val (.int ok0), .val (.int ok1), .unset, .unset] [])) _
            refine XS.iconst X112.here hx rfl (hb hby at_199) ?_
            show Steps p.tables e below (T112.setTop (mkF m 200 #[.val (.int x0), .val (.int x1), .val (.int x2), .val (.int x3), .val (.int x4), .val (.int nn), .val (.int i0), .val (.int i1), .val (.int i2), .val (.int o0), .val (.int o1), .val (.int o2), .val (.ref b1), .val (.int ae), .val (.int ok0), .val (.int ok1), .unset, .unset] [(.int (1 : Int32))])) _
            refine XS.goto X112.here hx rfl (pc0 := 200) (pc' := 204) rfl (hb hby at_200) (by decide) (by decide) ?_
            show Steps p.tables e below (T112.setTop (mkF m 204 #[.val (.int x0), .val (.int x1), .val (.int x2), .val (.int x3), .val (.int x4), .val (.int nn), .val (.int i0), .val (.int i1), .val (.int i2), .val (.int o0), .val (.int o1), .val (.int o2), .val (.ref b1), .val (.int ae), .val (.int ok0), .val (.int ok1), .unset, .unset] [(.int (1 : Int32))])) _
            rw [show ok2 = (1 : Int32) from by rw [h_ok2]; rw [if_pos hc189_129]] at k
            exact k
          · skip
            refine XS.ifNo X112.here hx rfl (hb hby at_189) rfl (XT.i0_lt_f hc189_129) ?_
            show Steps p.tables e below (T112.setTop (mkF m 192 #[.val (.int x0), .val (.int x1), .val (.int x2), .val (.int x3), .val (.int x4), .val (.int nn), .val (.int i0), .val (.int i1), .val (.int i2), .val (.int o0), .val (.int o1), .val (.int o2), .val (.ref b1), .val (.int ae), .val (.int ok0), .val (.int ok1), .unset, .unset] [])) _
            refine XS.iload X112.here hx rfl (hb hby at_192) rfl ?_
            show Steps p.tables e below (T112.setTop (mkF m 194 #[.val (.int x0), .val (.int x1), .val (.int x2), .val (.int x3), .val (.int x4), .val (.int nn), .val (.int i0), .val (.int i1), .val (.int i2), .val (.int o0), .val (.int o1), .val (.int o2), .val (.ref b1), .val (.int ae), .val (.int ok0), .val (.int ok1), .unset, .unset] [(.int o2)])) _
            refine XS.iload X112.here hx rfl (hb hby at_194) rfl ?_
            show Steps p.tables e below (T112.setTop (mkF m 196 #[.val (.int x0), .val (.int x1), .val (.int x2), .val (.int x3), .val (.int x4), .val (.int nn), .val (.int i0), .val (.int i1), .val (.int i2), .val (.int o0), .val (.int o1), .val (.int o2), .val (.ref b1), .val (.int ae), .val (.int ok0), .val (.int ok1), .unset, .unset] [(.int i0), (.int o2)])) _
            by_cases hc196_130 : o2 = i0
            · skip
              refine XS.icmpNo X112.here hx rfl (hb hby at_196) rfl (XT.ii_ne_f hc196_130) ?_
              show Steps p.tables e below (T112.setTop (mkF m 199 #[.val (.int x0), .val (.int x1), .val (.int x2), .val (.int x3), .val (.int x4), .val (.int nn), .val (.int i0), .val (.int i1), .val (.int i2), .val (.int o0), .val (.int o1), .val (.int o2), .val (.ref b1), .val (.int ae), .val (.int ok0), .val (.int ok1), .unset, .unset] [])) _
              refine XS.iconst X112.here hx rfl (hb hby at_199) ?_
              show Steps p.tables e below (T112.setTop (mkF m 200 #[.val (.int x0), .val (.int x1), .val (.int x2), .val (.int x3), .val (.int x4), .val (.int nn), .val (.int i0), .val (.int i1), .val (.int i2), .val (.int o0), .val (.int o1), .val (.int o2), .val (.ref b1), .val (.int ae), .val (.int ok0), .val (.int ok1), .unset, .unset] [(.int (1 : Int32))])) _
              refine XS.goto X112.here hx rfl (pc0 := 200) (pc' := 204) rfl (hb hby at_200) (by decide) (by decide) ?_
              show Steps p.tables e below (T112.setTop (mkF m 204 #[.val (.int x0), .val (.int x1), .val (.int x2), .val (.int x3), .val (.int x4), .val (.int nn), .val (.int i0), .val (.int i1), .val (.int i2), .val (.int o0), .val (.int o1), .val (.int o2), .val (.ref b1), .val (.int ae), .val (.int ok0), .val (.int ok1), .unset, .unset] [(.int (1 : Int32))])) _
              rw [show ok2 = (1 : Int32) from by rw [h_ok2]; rw [if_neg hc189_129, if_pos hc196_130]] at k
              exact k
            · skip
              refine XS.icmpYes X112.here hx rfl (pc0 := 196) (pc' := 203) rfl (hb hby at_196) rfl (XT.ii_ne_t hc196_130) (by decide) (by decide) ?_
              show Steps p.tables e below (T112.setTop (mkF m 203 #[.val (.int x0), .val (.int x1), .val (.int x2), .val (.int x3), .val (.int x4), .val (.int nn), .val (.int i0), .val (.int i1), .val (.int i2), .val (.int o0), .val (.int o1), .val (.int o2), .val (.ref b1), .val (.int ae), .val (.int ok0), .val (.int ok1), .unset, .unset] [])) _
              refine XS.iconst X112.here hx rfl (hb hby at_203) ?_
              show Steps p.tables e below (T112.setTop (mkF m 204 #[.val (.int x0), .val (.int x1), .val (.int x2), .val (.int x3), .val (.int x4), .val (.int nn), .val (.int i0), .val (.int i1), .val (.int i2), .val (.int o0), .val (.int o1), .val (.int o2), .val (.ref b1), .val (.int ae), .val (.int ok0), .val (.int ok1), .unset, .unset] [(.int (0 : Int32))])) _
              rw [show ok2 = (0 : Int32) from by rw [h_ok2]; rw [if_neg hc189_129, if_neg hc196_130]] at k
              exact k
        have pre132 : Go p e below (s₁.setTop (entryFrame m #[(.int x0), (.int x1), (.int x2), (.int x3), (.int x4)] maxLocals)) (T112.setTop (mkF m 208 #[.val (.int x0), .val (.int x1), .val (.int x2), .val (.int x3), .val (.int x4), .val (.int nn), .val (.int i0), .val (.int i1), .val (.int i2), .val (.int o0), .val (.int o1), .val (.int o2), .val (.ref b1), .val (.int ae), .val (.int ok0), .val (.int ok1), .val (.int ok2), .unset] [(.int ae)])) := by
          intro t k
          refine pre131 t ?_
          show Steps p.tables e below (T112.setTop (mkF m 204 #[.val (.int x0), .val (.int x1), .val (.int x2), .val (.int x3), .val (.int x4), .val (.int nn), .val (.int i0), .val (.int i1), .val (.int i2), .val (.int o0), .val (.int o1), .val (.int o2), .val (.ref b1), .val (.int ae), .val (.int ok0), .val (.int ok1), .unset, .unset] [(.int ok2)])) _
          refine XS.istore X112.here hx rfl (hb hby at_204) rfl (l' := #[.val (.int x0), .val (.int x1), .val (.int x2), .val (.int x3), .val (.int x4), .val (.int nn), .val (.int i0), .val (.int i1), .val (.int i2), .val (.int o0), .val (.int o1), .val (.int o2), .val (.ref b1), .val (.int ae), .val (.int ok0), .val (.int ok1), .val (.int ok2), .unset]) rfl ?_
          show Steps p.tables e below (T112.setTop (mkF m 206 #[.val (.int x0), .val (.int x1), .val (.int x2), .val (.int x3), .val (.int x4), .val (.int nn), .val (.int i0), .val (.int i1), .val (.int i2), .val (.int o0), .val (.int o1), .val (.int o2), .val (.ref b1), .val (.int ae), .val (.int ok0), .val (.int ok1), .val (.int ok2), .unset] [])) _
          refine XS.iload X112.here hx rfl (hb hby at_206) rfl ?_
          show Steps p.tables e below (T112.setTop (mkF m 208 #[.val (.int x0), .val (.int x1), .val (.int x2), .val (.int x3), .val (.int x4), .val (.int nn), .val (.int i0), .val (.int i1), .val (.int i2), .val (.int o0), .val (.int o1), .val (.int o2), .val (.ref b1), .val (.int ae), .val (.int ok0), .val (.int ok1), .val (.int ok2), .unset] [(.int ae)])) _
          exact k
        obtain ⟨ex, h_ex⟩ : ∃ z : Int32, z = (if ae = (0 : Int32) then (1 : Int32) else (if ok0 = (0 : Int32) then (0 : Int32) else (if ok1 = (0 : Int32) then (0 : Int32) else (if ok2 = (0 : Int32) then (0 : Int32) else (1 : Int32))))) := ⟨_, rfl⟩
        have pre137 : Go p e below (s₁.setTop (entryFrame m #[(.int x0), (.int x1), (.int x2), (.int x3), (.int x4)] maxLocals)) (T112.setTop (mkF m 231 #[.val (.int x0), .val (.int x1), .val (.int x2), .val (.int x3), .val (.int x4), .val (.int nn), .val (.int i0), .val (.int i1), .val (.int i2), .val (.int o0), .val (.int o1), .val (.int o2), .val (.ref b1), .val (.int ae), .val (.int ok0), .val (.int ok1), .val (.int ok2), .unset] [(.int ex)])) := by
          intro t k
          refine pre132 t ?_
          show Steps p.tables e below (T112.setTop (mkF m 208 #[.val (.int x0), .val (.int x1), .val (.int x2), .val (.int x3), .val (.int x4), .val (.int nn), .val (.int i0), .val (.int i1), .val (.int i2), .val (.int o0), .val (.int o1), .val (.int o2), .val (.ref b1), .val (.int ae), .val (.int ok0), .val (.int ok1), .val (.int ok2), .unset] [(.int ae)])) _
          by_cases hc208_133 : ae = (0 : Int32)
          · skip
            refine XS.ifYes X112.here hx rfl (pc0 := 208) (pc' := 226) rfl (hb hby at_208) rfl (XT.i0_eq_t hc208_133) (by decide) (by decide) ?_
            show Steps p.tables e below (T112.setTop (mkF m 226 #[.val (.int x0), .val (.int x1), .val (.int x2), .val (.int x3), .val (.int x4), .val (.int nn), .val (.int i0), .val (.int i1), .val (.int i2), .val (.int o0), .val (.int o1), .val (.int o2), .val (.ref b1), .val (.int ae), .val (.int ok0), .val (.int ok1), .val (.int ok2), .unset] [])) _
            refine XS.iconst X112.here hx rfl (hb hby at_226) ?_
            show Steps p.tables e below (T112.setTop (mkF m 227 #[.val (.int x0), .val (.int x1), .val (.int x2), .val (.int x3), .val (.int x4), .val (.int nn), .val (.int i0), .val (.int i1), .val (.int i2), .val (.int o0), .val (.int o1), .val (.int o2), .val (.ref b1), .val (.int ae), .val (.int ok0), .val (.int ok1), .val (.int ok2), .unset] [(.int (1 : Int32))])) _
            refine XS.goto X112.here hx rfl (pc0 := 227) (pc' := 231) rfl (hb hby at_227) (by decide) (by decide) ?_
            show Steps p.tables e below (T112.setTop (mkF m 231 #[.val (.int x0), .val (.int x1), .val (.int x2), .val (.int x3), .val (.int x4), .val (.int nn), .val (.int i0), .val (.int i1), .val (.int i2), .val (.int o0), .val (.int o1), .val (.int o2), .val (.ref b1), .val (.int ae), .val (.int ok0), .val (.int ok1), .val (.int ok2), .unset] [(.int (1 : Int32))])) _
            rw [show ex = (1 : Int32) from by rw [h_ex]; rw [if_pos hc208_133]] at k
            exact k
          · skip
            refine XS.ifNo X112.here hx rfl (hb hby at_208) rfl (XT.i0_eq_f hc208_133) ?_
            show Steps p.tables e below (T112.setTop (mkF m 211 #[.val (.int x0), .val (.int x1), .val (.int x2), .val (.int x3), .val (.int x4), .val (.int nn), .val (.int i0), .val (.int i1), .val (.int i2), .val (.int o0), .val (.int o1), .val (.int o2), .val (.ref b1), .val (.int ae), .val (.int ok0), .val (.int ok1), .val (.int ok2), .unset] [])) _
            refine XS.iload X112.here hx rfl (hb hby at_211) rfl ?_
            show Steps p.tables e below (T112.setTop (mkF m 213 #[.val (.int x0), .val (.int x1), .val (.int x2), .val (.int x3), .val (.int x4), .val (.int nn), .val (.int i0), .val (.int i1), .val (.int i2), .val (.int o0), .val (.int o1), .val (.int o2), .val (.ref b1), .val (.int ae), .val (.int ok0), .val (.int ok1), .val (.int ok2), .unset] [(.int ok0)])) _
            by_cases hc213_134 : ok0 = (0 : Int32)
            · skip
              refine XS.ifYes X112.here hx rfl (pc0 := 213) (pc' := 230) rfl (hb hby at_213) rfl (XT.i0_eq_t hc213_134) (by decide) (by decide) ?_
              show Steps p.tables e below (T112.setTop (mkF m 230 #[.val (.int x0), .val (.int x1), .val (.int x2), .val (.int x3), .val (.int x4), .val (.int nn), .val (.int i0), .val (.int i1), .val (.int i2), .val (.int o0), .val (.int o1), .val (.int o2), .val (.ref b1), .val (.int ae), .val (.int ok0), .val (.int ok1), .val (.int ok2), .unset] [])) _
              refine XS.iconst X112.here hx rfl (hb hby at_230) ?_
              show Steps p.tables e below (T112.setTop (mkF m 231 #[.val (.int x0), .val (.int x1), .val (.int x2), .val (.int x3), .val (.int x4), .val (.int nn), .val (.int i0), .val (.int i1), .val (.int i2), .val (.int o0), .val (.int o1), .val (.int o2), .val (.ref b1), .val (.int ae), .val (.int ok0), .val (.int ok1), .val (.int ok2), .unset] [(.int (0 : Int32))])) _
              rw [show ex = (0 : Int32) from by rw [h_ex]; rw [if_neg hc208_133, if_pos hc213_134]] at k
              exact k
            · skip
              refine XS.ifNo X112.here hx rfl (hb hby at_213) rfl (XT.i0_eq_f hc213_134) ?_
              show Steps p.tables e below (T112.setTop (mkF m 216 #[.val (.int x0), .val (.int x1), .val (.int x2), .val (.int x3), .val (.int x4), .val (.int nn), .val (.int i0), .val (.int i1), .val (.int i2), .val (.int o0), .val (.int o1), .val (.int o2), .val (.ref b1), .val (.int ae), .val (.int ok0), .val (.int ok1), .val (.int ok2), .unset] [])) _
              refine XS.iload X112.here hx rfl (hb hby at_216) rfl ?_
              show Steps p.tables e below (T112.setTop (mkF m 218 #[.val (.int x0), .val (.int x1), .val (.int x2), .val (.int x3), .val (.int x4), .val (.int nn), .val (.int i0), .val (.int i1), .val (.int i2), .val (.int o0), .val (.int o1), .val (.int o2), .val (.ref b1), .val (.int ae), .val (.int ok0), .val (.int ok1), .val (.int ok2), .unset] [(.int ok1)])) _
              by_cases hc218_135 : ok1 = (0 : Int32)
              · skip
                refine XS.ifYes X112.here hx rfl (pc0 := 218) (pc' := 230) rfl (hb hby at_218) rfl (XT.i0_eq_t hc218_135) (by decide) (by decide) ?_
                show Steps p.tables e below (T112.setTop (mkF m 230 #[.val (.int x0), .val (.int x1), .val (.int x2), .val (.int x3), .val (.int x4), .val (.int nn), .val (.int i0), .val (.int i1), .val (.int i2), .val (.int o0), .val (.int o1), .val (.int o2), .val (.ref b1), .val (.int ae), .val (.int ok0), .val (.int ok1), .val (.int ok2), .unset] [])) _
                refine XS.iconst X112.here hx rfl (hb hby at_230) ?_
                show Steps p.tables e below (T112.setTop (mkF m 231 #[.val (.int x0), .val (.int x1), .val (.int x2), .val (.int x3), .val (.int x4), .val (.int nn), .val (.int i0), .val (.int i1), .val (.int i2), .val (.int o0), .val (.int o1), .val (.int o2), .val (.ref b1), .val (.int ae), .val (.int ok0), .val (.int ok1), .val (.int ok2), .unset] [(.int (0 : Int32))])) _
                rw [show ex = (0 : Int32) from by rw [h_ex]; rw [if_neg hc208_133, if_neg hc213_134, if_pos hc218_135]] at k
                exact k
              · skip
                refine XS.ifNo X112.here hx rfl (hb hby at_218) rfl (XT.i0_eq_f hc218_135) ?_
                show Steps p.tables e below (T112.setTop (mkF m 221 #[.val (.int x0), .val (.int x1), .val (.int x2), .val (.int x3), .val (.int x4), .val (.int nn), .val (.int i0), .val (.int i1), .val (.int i2), .val (.int o0), .val (.int o1), .val (.int o2), .val (.ref b1), .val (.int ae), .val (.int ok0), .val (.int ok1), .val (.int ok2), .unset] [])) _
                refine XS.iload X112.here hx rfl (hb hby at_221) rfl ?_
                show Steps p.tables e below (T112.setTop (mkF m 223 #[.val (.int x0), .val (.int x1), .val (.int x2), .val (.int x3), .val (.int x4), .val (.int nn), .val (.int i0), .val (.int i1), .val (.int i2), .val (.int o0), .val (.int o1), .val (.int o2), .val (.ref b1), .val (.int ae), .val (.int ok0), .val (.int ok1), .val (.int ok2), .unset] [(.int ok2)])) _
                by_cases hc223_136 : ok2 = (0 : Int32)
                · skip
                  refine XS.ifYes X112.here hx rfl (pc0 := 223) (pc' := 230) rfl (hb hby at_223) rfl (XT.i0_eq_t hc223_136) (by decide) (by decide) ?_
                  show Steps p.tables e below (T112.setTop (mkF m 230 #[.val (.int x0), .val (.int x1), .val (.int x2), .val (.int x3), .val (.int x4), .val (.int nn), .val (.int i0), .val (.int i1), .val (.int i2), .val (.int o0), .val (.int o1), .val (.int o2), .val (.ref b1), .val (.int ae), .val (.int ok0), .val (.int ok1), .val (.int ok2), .unset] [])) _
                  refine XS.iconst X112.here hx rfl (hb hby at_230) ?_
                  show Steps p.tables e below (T112.setTop (mkF m 231 #[.val (.int x0), .val (.int x1), .val (.int x2), .val (.int x3), .val (.int x4), .val (.int nn), .val (.int i0), .val (.int i1), .val (.int i2), .val (.int o0), .val (.int o1), .val (.int o2), .val (.ref b1), .val (.int ae), .val (.int ok0), .val (.int ok1), .val (.int ok2), .unset] [(.int (0 : Int32))])) _
                  rw [show ex = (0 : Int32) from by rw [h_ex]; rw [if_neg hc208_133, if_neg hc213_134, if_neg hc218_135, if_pos hc223_136]] at k
                  exact k
                · skip
                  refine XS.ifNo X112.here hx rfl (hb hby at_223) rfl (XT.i0_eq_f hc223_136) ?_
                  show Steps p.tables e below (T112.setTop (mkF m 226 #[.val (.int x0), .val (.int x1), .val (.int x2), .val (.int x3), .val (.int x4), .val (.int nn), .val (.int i0), .val (.int i1), .val (.int i2), .val (.int o0), .val (.int o1), .val (.int o2), .val (.ref b1), .val (.int ae), .val (.int ok0), .val (.int ok1), .val (.int ok2), .unset] [])) _
                  refine XS.iconst X112.here hx rfl (hb hby at_226) ?_
                  show Steps p.tables e below (T112.setTop (mkF m 227 #[.val (.int x0), .val (.int x1), .val (.int x2), .val (.int x3), .val (.int x4), .val (.int nn), .val (.int i0), .val (.int i1), .val (.int i2), .val (.int o0), .val (.int o1), .val (.int o2), .val (.ref b1), .val (.int ae), .val (.int ok0), .val (.int ok1), .val (.int ok2), .unset] [(.int (1 : Int32))])) _
                  refine XS.goto X112.here hx rfl (pc0 := 227) (pc' := 231) rfl (hb hby at_227) (by decide) (by decide) ?_
                  show Steps p.tables e below (T112.setTop (mkF m 231 #[.val (.int x0), .val (.int x1), .val (.int x2), .val (.int x3), .val (.int x4), .val (.int nn), .val (.int i0), .val (.int i1), .val (.int i2), .val (.int o0), .val (.int o1), .val (.int o2), .val (.ref b1), .val (.int ae), .val (.int ok0), .val (.int ok1), .val (.int ok2), .unset] [(.int (1 : Int32))])) _
                  rw [show ex = (1 : Int32) from by rw [h_ex]; rw [if_neg hc208_133, if_neg hc213_134, if_neg hc218_135, if_neg hc223_136]] at k
                  exact k
        have pre138 : Go p e below (s₁.setTop (entryFrame m #[(.int x0), (.int x1), (.int x2), (.int x3), (.int x4)] maxLocals)) (T112.setTop (mkF m 235 #[.val (.int x0), .val (.int x1), .val (.int x2), .val (.int x3), .val (.int x4), .val (.int nn), .val (.int i0), .val (.int i1), .val (.int i2), .val (.int o0), .val (.int o1), .val (.int o2), .val (.ref b1), .val (.int ae), .val (.int ok0), .val (.int ok1), .val (.int ok2), .val (.int ex)] [(.ref b1)])) := by
          intro t k
          refine pre137 t ?_
          show Steps p.tables e below (T112.setTop (mkF m 231 #[.val (.int x0), .val (.int x1), .val (.int x2), .val (.int x3), .val (.int x4), .val (.int nn), .val (.int i0), .val (.int i1), .val (.int i2), .val (.int o0), .val (.int o1), .val (.int o2), .val (.ref b1), .val (.int ae), .val (.int ok0), .val (.int ok1), .val (.int ok2), .unset] [(.int ex)])) _
          refine XS.istore X112.here hx rfl (hb hby at_231) rfl (l' := #[.val (.int x0), .val (.int x1), .val (.int x2), .val (.int x3), .val (.int x4), .val (.int nn), .val (.int i0), .val (.int i1), .val (.int i2), .val (.int o0), .val (.int o1), .val (.int o2), .val (.ref b1), .val (.int ae), .val (.int ok0), .val (.int ok1), .val (.int ok2), .val (.int ex)]) rfl ?_
          show Steps p.tables e below (T112.setTop (mkF m 233 #[.val (.int x0), .val (.int x1), .val (.int x2), .val (.int x3), .val (.int x4), .val (.int nn), .val (.int i0), .val (.int i1), .val (.int i2), .val (.int o0), .val (.int o1), .val (.int o2), .val (.ref b1), .val (.int ae), .val (.int ok0), .val (.int ok1), .val (.int ok2), .val (.int ex)] [])) _
          refine XS.aload X112.here hx rfl (hb hby at_233) rfl rfl ?_
          show Steps p.tables e below (T112.setTop (mkF m 235 #[.val (.int x0), .val (.int x1), .val (.int x2), .val (.int x3), .val (.int x4), .val (.int nn), .val (.int i0), .val (.int i1), .val (.int i2), .val (.int o0), .val (.int o1), .val (.int o2), .val (.ref b1), .val (.int ae), .val (.int ok0), .val (.int ok1), .val (.int ok2), .val (.int ex)] [(.ref b1)])) _
          exact k
        obtain ⟨cq139, kq139, q139a, q139b, q139c⟩ := isOf hZ rfl X112e_b1
        obtain ⟨_, _, ⟨T139, L139, k139, n139⟩, -, X139, ⟨Lc139, hQ139, l139, y139, z139⟩, st139⟩ := X112.virtualBack hx (y := (⟨"lightbin/AgreementResult$Run", "validity", "()Z"⟩ : MethodName)) (z := (⟨"lightbin/AgreementResult$Run", "validity", "()Z"⟩ : MethodName)) hown (mvT hZ (hw _ (List.mem_of_getElem? (i := 17) rfl))) (mvT hZ (hw _ (List.mem_of_getElem? (i := 18) rfl))) (notFace_of_selects (args := #[]) (mvT hZ (hw _ (List.mem_of_getElem? (i := 20) rfl)))) (mvT hZ (hw _ (List.mem_of_getElem? (i := 20) rfl))) (mvT hZ (hw _ (List.mem_of_getElem? (i := 19) rfl))) (by decide) (backOf (W := 0) (rm4 l Z a0 hw [] b1 (own_fi (((0 : Int32) + (1 : Int32)) + (1 : Int32)) i2 (own_fi ((0 : Int32) + (1 : Int32)) i1 (own_fi (0 : Int32) i0 (-1 : Int32)))) (own_ie (own_ie (own_ie (nar .boolean (1 : Int32)) i0 (own_fi (0 : Int32) i0 (-1 : Int32))) i1 (own_fi ((0 : Int32) + (1 : Int32)) i1 (own_fi (0 : Int32) i0 (-1 : Int32)))) i2 (own_fi (((0 : Int32) + (1 : Int32)) + (1 : Int32)) i2 (own_fi ((0 : Int32) + (1 : Int32)) i1 (own_fi (0 : Int32) i0 (-1 : Int32))))) (own_on o2 (own_on o1 (own_on o0 (0 : Int32)))) (own_ze o2 (own_ze o1 (own_ze o0 (0 : Int32)))) T112.heap n0 zz114 F112_firstInput_b1 F112_inputsEqual_b1 F112_ones_b1 F112_zeros_b1) hZ (hw _ (List.mem_of_getElem? (i := 21) rfl)) (hw _ (List.mem_of_getElem? (i := 6) rfl)) (by decide) (by decide)) q139a q139c (g := (mkF m 235 #[.val (.int x0), .val (.int x1), .val (.int x2), .val (.int x3), .val (.int x4), .val (.int nn), .val (.int i0), .val (.int i1), .val (.int i2), .val (.int o0), .val (.int o1), .val (.int o2), .val (.ref b1), .val (.int ae), .val (.int ok0), .val (.int ok1), .val (.int ok2), .val (.int ex)] [(.ref b1)])) rfl (by rw [hml]; rfl) (Steps.refl _) (argsL := []) (rest := []) (lenOf pd_8 rfl) rfl (by show 2 * 0 + _ ≤ _; exact Nat.le_of_eq rfl) (hb hby at_235) (fun _ _ => ⟨rfl, rfl, (by decide : 1 + 0 ≤ _), (by decide : 6 + 0 ≤ _)⟩)
        dsimp only [Pt.U, Pt.locs, Pt.cells, Pt.slots] at X139 l139 y139 z139 st139 hQ139
        subst l139 y139 z139
        obtain ⟨rfl, N139q, hh139⟩ := hQ139
        have N139 := Fr.app N112 N139q
        have pre140 : Go p e below (s₁.setTop (entryFrame m #[(.int x0), (.int x1), (.int x2), (.int x3), (.int x4)] maxLocals)) (T139.setTop (mkF m 238 #[.val (.int x0), .val (.int x1), .val (.int x2), .val (.int x3), .val (.int x4), .val (.int nn), .val (.int i0), .val (.int i1), .val (.int i2), .val (.int o0), .val (.int o1), .val (.int o2), .val (.ref b1), .val (.int ae), .val (.int ok0), .val (.int ok1), .val (.int ok2), .val (.int ex)] [(.int (fval (own_fi (((0 : Int32) + (1 : Int32)) + (1 : Int32)) i2 (own_fi ((0 : Int32) + (1 : Int32)) i1 (own_fi (0 : Int32) i0 (-1 : Int32)))) (own_ie (own_ie (own_ie (nar .boolean (1 : Int32)) i0 (own_fi (0 : Int32) i0 (-1 : Int32))) i1 (own_fi ((0 : Int32) + (1 : Int32)) i1 (own_fi (0 : Int32) i0 (-1 : Int32)))) i2 (own_fi (((0 : Int32) + (1 : Int32)) + (1 : Int32)) i2 (own_fi ((0 : Int32) + (1 : Int32)) i1 (own_fi (0 : Int32) i0 (-1 : Int32))))) (own_on o2 (own_on o1 (own_on o0 (0 : Int32)))) (own_ze o2 (own_ze o1 (own_ze o0 (0 : Int32))))))])) := fun t k => pre138 t (st139.trans k)
        have pre141 : Go p e below (s₁.setTop (entryFrame m #[(.int x0), (.int x1), (.int x2), (.int x3), (.int x4)] maxLocals)) (T139.setTop (mkF m 240 #[.val (.int x0), .val (.int x1), .val (.int x2), .val (.int x3), .val (.int x4), .val (.int nn), .val (.int i0), .val (.int i1), .val (.int i2), .val (.int o0), .val (.int o1), .val (.int o2), .val (.ref b1), .val (.int ae), .val (.int ok0), .val (.int ok1), .val (.int ok2), .val (.int ex)] [(.int ex), (.int (fval (own_fi (((0 : Int32) + (1 : Int32)) + (1 : Int32)) i2 (own_fi ((0 : Int32) + (1 : Int32)) i1 (own_fi (0 : Int32) i0 (-1 : Int32)))) (own_ie (own_ie (own_ie (nar .boolean (1 : Int32)) i0 (own_fi (0 : Int32) i0 (-1 : Int32))) i1 (own_fi ((0 : Int32) + (1 : Int32)) i1 (own_fi (0 : Int32) i0 (-1 : Int32)))) i2 (own_fi (((0 : Int32) + (1 : Int32)) + (1 : Int32)) i2 (own_fi ((0 : Int32) + (1 : Int32)) i1 (own_fi (0 : Int32) i0 (-1 : Int32))))) (own_on o2 (own_on o1 (own_on o0 (0 : Int32)))) (own_ze o2 (own_ze o1 (own_ze o0 (0 : Int32))))))])) := by
          intro t k
          refine pre140 t ?_
          show Steps p.tables e below (T139.setTop (mkF m 238 #[.val (.int x0), .val (.int x1), .val (.int x2), .val (.int x3), .val (.int x4), .val (.int nn), .val (.int i0), .val (.int i1), .val (.int i2), .val (.int o0), .val (.int o1), .val (.int o2), .val (.ref b1), .val (.int ae), .val (.int ok0), .val (.int ok1), .val (.int ok2), .val (.int ex)] [(.int (fval (own_fi (((0 : Int32) + (1 : Int32)) + (1 : Int32)) i2 (own_fi ((0 : Int32) + (1 : Int32)) i1 (own_fi (0 : Int32) i0 (-1 : Int32)))) (own_ie (own_ie (own_ie (nar .boolean (1 : Int32)) i0 (own_fi (0 : Int32) i0 (-1 : Int32))) i1 (own_fi ((0 : Int32) + (1 : Int32)) i1 (own_fi (0 : Int32) i0 (-1 : Int32)))) i2 (own_fi (((0 : Int32) + (1 : Int32)) + (1 : Int32)) i2 (own_fi ((0 : Int32) + (1 : Int32)) i1 (own_fi (0 : Int32) i0 (-1 : Int32))))) (own_on o2 (own_on o1 (own_on o0 (0 : Int32)))) (own_ze o2 (own_ze o1 (own_ze o0 (0 : Int32))))))])) _
          refine XS.iload X139.here hx rfl (hb hby at_238) rfl ?_
          show Steps p.tables e below (T139.setTop (mkF m 240 #[.val (.int x0), .val (.int x1), .val (.int x2), .val (.int x3), .val (.int x4), .val (.int nn), .val (.int i0), .val (.int i1), .val (.int i2), .val (.int o0), .val (.int o1), .val (.int o2), .val (.ref b1), .val (.int ae), .val (.int ok0), .val (.int ok1), .val (.int ok2), .val (.int ex)] [(.int ex), (.int (fval (own_fi (((0 : Int32) + (1 : Int32)) + (1 : Int32)) i2 (own_fi ((0 : Int32) + (1 : Int32)) i1 (own_fi (0 : Int32) i0 (-1 : Int32)))) (own_ie (own_ie (own_ie (nar .boolean (1 : Int32)) i0 (own_fi (0 : Int32) i0 (-1 : Int32))) i1 (own_fi ((0 : Int32) + (1 : Int32)) i1 (own_fi (0 : Int32) i0 (-1 : Int32)))) i2 (own_fi (((0 : Int32) + (1 : Int32)) + (1 : Int32)) i2 (own_fi ((0 : Int32) + (1 : Int32)) i1 (own_fi (0 : Int32) i0 (-1 : Int32))))) (own_on o2 (own_on o1 (own_on o0 (0 : Int32)))) (own_ze o2 (own_ze o1 (own_ze o0 (0 : Int32))))))])) _
          exact k
        have hc240_142 : (fval (own_fi (((0 : Int32) + (1 : Int32)) + (1 : Int32)) i2 (own_fi ((0 : Int32) + (1 : Int32)) i1 (own_fi (0 : Int32) i0 (-1 : Int32)))) (own_ie (own_ie (own_ie (nar .boolean (1 : Int32)) i0 (own_fi (0 : Int32) i0 (-1 : Int32))) i1 (own_fi ((0 : Int32) + (1 : Int32)) i1 (own_fi (0 : Int32) i0 (-1 : Int32)))) i2 (own_fi (((0 : Int32) + (1 : Int32)) + (1 : Int32)) i2 (own_fi ((0 : Int32) + (1 : Int32)) i1 (own_fi (0 : Int32) i0 (-1 : Int32))))) (own_on o2 (own_on o1 (own_on o0 (0 : Int32)))) (own_ze o2 (own_ze o1 (own_ze o0 (0 : Int32))))) = ex := by
          rw [h_ex, h_ae, h_ok0, h_ok1, h_ok2]; exact own_q3 _ hi0 _ hi1 _ hi2 _ ho0 _ ho1 _ ho2
        have pre143 : Go p e below (s₁.setTop (entryFrame m #[(.int x0), (.int x1), (.int x2), (.int x3), (.int x4)] maxLocals)) (T139.setTop (mkF m 248 #[.val (.int x0), .val (.int x1), .val (.int x2), .val (.int x3), .val (.int x4), .val (.int nn), .val (.int i0), .val (.int i1), .val (.int i2), .val (.int o0), .val (.int o1), .val (.int o2), .val (.ref b1), .val (.int ae), .val (.int ok0), .val (.int ok1), .val (.int ok2), .val (.int ex)] [(.int (1 : Int32))])) := by
          intro t k
          refine pre141 t ?_
          show Steps p.tables e below (T139.setTop (mkF m 240 #[.val (.int x0), .val (.int x1), .val (.int x2), .val (.int x3), .val (.int x4), .val (.int nn), .val (.int i0), .val (.int i1), .val (.int i2), .val (.int o0), .val (.int o1), .val (.int o2), .val (.ref b1), .val (.int ae), .val (.int ok0), .val (.int ok1), .val (.int ok2), .val (.int ex)] [(.int ex), (.int (fval (own_fi (((0 : Int32) + (1 : Int32)) + (1 : Int32)) i2 (own_fi ((0 : Int32) + (1 : Int32)) i1 (own_fi (0 : Int32) i0 (-1 : Int32)))) (own_ie (own_ie (own_ie (nar .boolean (1 : Int32)) i0 (own_fi (0 : Int32) i0 (-1 : Int32))) i1 (own_fi ((0 : Int32) + (1 : Int32)) i1 (own_fi (0 : Int32) i0 (-1 : Int32)))) i2 (own_fi (((0 : Int32) + (1 : Int32)) + (1 : Int32)) i2 (own_fi ((0 : Int32) + (1 : Int32)) i1 (own_fi (0 : Int32) i0 (-1 : Int32))))) (own_on o2 (own_on o1 (own_on o0 (0 : Int32)))) (own_ze o2 (own_ze o1 (own_ze o0 (0 : Int32))))))])) _
          refine XS.icmpNo X139.here hx rfl (hb hby at_240) rfl (XT.ii_ne_f hc240_142) ?_
          show Steps p.tables e below (T139.setTop (mkF m 243 #[.val (.int x0), .val (.int x1), .val (.int x2), .val (.int x3), .val (.int x4), .val (.int nn), .val (.int i0), .val (.int i1), .val (.int i2), .val (.int o0), .val (.int o1), .val (.int o2), .val (.ref b1), .val (.int ae), .val (.int ok0), .val (.int ok1), .val (.int ok2), .val (.int ex)] [])) _
          refine XS.iconst X139.here hx rfl (hb hby at_243) ?_
          show Steps p.tables e below (T139.setTop (mkF m 244 #[.val (.int x0), .val (.int x1), .val (.int x2), .val (.int x3), .val (.int x4), .val (.int nn), .val (.int i0), .val (.int i1), .val (.int i2), .val (.int o0), .val (.int o1), .val (.int o2), .val (.ref b1), .val (.int ae), .val (.int ok0), .val (.int ok1), .val (.int ok2), .val (.int ex)] [(.int (1 : Int32))])) _
          refine XS.goto X139.here hx rfl (pc0 := 244) (pc' := 248) rfl (hb hby at_244) (by decide) (by decide) ?_
          show Steps p.tables e below (T139.setTop (mkF m 248 #[.val (.int x0), .val (.int x1), .val (.int x2), .val (.int x3), .val (.int x4), .val (.int nn), .val (.int i0), .val (.int i1), .val (.int i2), .val (.int o0), .val (.int o1), .val (.int o2), .val (.ref b1), .val (.int ae), .val (.int ok0), .val (.int ok1), .val (.int ok2), .val (.int ex)] [(.int (1 : Int32))])) _
          exact k
        obtain ⟨fs, hr, hrun, hended, hW, hsame⟩ := X139.leave (hlocks := hlk) (v := some (.int (1 : Int32))) (fun h => by rw [Bd.returns] at h; cases h)
        refine ⟨_, _, pre143 _ (retN X139 hx (t := .boolean) Bd.returns (by simp) (hb hby at_248) hr), hrun, hended, _, _, rfl, ?_, ⟨_, rfl⟩, hW, hsame.mono (by decide) (by decide)⟩
        show Q0 Z x0 x1 x2 x3 x4 h0 n0 _ T139.heap _
        rw [hh139]
        exact ⟨rfl, N139⟩
set_option maxRecDepth 65536 in
set_option maxHeartbeats 40000000 in
theorem comes_1 {Post : Tables → Env → Array Value → State → Outcome → State → Prop} (hpost : ∀ tb e args s v u, (limb_1_1.after args s (.returned v) u = true ∧ limb_1_2.after args s (.returned v) u = true ∧ True) → FrameEnd s (.returned v) u (Jvm.fieldLocs frame_1_writes args s ++ Jvm.arrayLocs frame_1_arrays args s ++ Jvm.staticLocs frame_1_statics s) 16 128 → Post tb e args s (.returned v) u) :
    ArmFor flags0 classFile x code maxLocals ret World_1 tables_1 room_1 Calls_1 rest_1 Pre_1 Post := by
  intro l hfl _ _ p e ha hc hk s m args below hf hA hF happ hP
  obtain ⟨hcalls, hrest, hpre⟩ := hP
  obtain ⟨-, -, -, hnamed, -, -, -, hat⟩ := (Spec.applies_iff hf).mp happ
  obtain ⟨hg, hn⟩ := and_e (Cond.before_iff.mp (show (Jvm.Cond.and given_1 narrow_1).before args s = true from hpre))
  obtain ⟨u1, u2⟩ := and_e hg
  obtain ⟨u3, u4⟩ := and_e u2
  obtain ⟨u5, u6⟩ := and_e u4
  obtain ⟨u7, u8⟩ := and_e u6
  obtain ⟨u9, u10⟩ := and_e u8
  obtain ⟨w0, w1, w2, w3, w4, rfl⟩ : ∃ w0 w1 w2 w3 w4 : Value, args = #[w0, w1, w2, w3, w4] := by
    have hs : args.size = 5 := by simpa [Cond.value, given_1] using u1
    obtain ⟨L⟩ := args
    match L, hs with
    | [w0, w1, w2, w3, w4], _ => exact ⟨w0, w1, w2, w3, w4, rfl⟩
  have hw := fun d (hd : d ∈ tables_1) => atoms_spec (ws := Jvm.Cond.code x code maxLocals ret :: tables_1) hat d (List.mem_cons_of_mem _ hd)
  obtain ⟨i0, ei0⟩ := is_v u3
  obtain rfl : w0 = (.int i0) := Option.some.inj ei0
  obtain ⟨i1, ei1⟩ := is_v u5
  obtain rfl : w1 = (.int i1) := Option.some.inj ei1
  obtain ⟨i2, ei2⟩ := is_v u7
  obtain rfl : w2 = (.int i2) := Option.some.inj ei2
  obtain ⟨i3, ei3⟩ := is_v u9
  obtain rfl : w3 = (.int i3) := Option.some.inj ei3
  obtain ⟨i4, ei4⟩ := is_v u10
  obtain rfl : w4 = (.int i4) := Option.some.inj ei4
  obtain ⟨n, o, h1, h2, h3, _, L, rfl, ⟨rfl, N⟩, hq⟩ := rm0 l s _ hw tables_1 i0 i1 i2 i3 i4 s.heap s.heap.size (Nat.le_refl _) p e ha hc hk s m _ below hf ((Spec.applies_iff_loose hf).mp happ).1 ⟨rfl, State.Warmed39.refl s, rfl⟩ trivial
  refine ⟨n, _, h1, h2, h3, hpost _ _ _ _ _ _ ⟨Cond.after_iff.mpr rfl, Cond.after_iff.mpr (eq_i res_at (Term.int_eval (1)) rfl), trivial⟩ ⟨hq.1, hq.2.1, (hq.2.2.sift fun y hy => Or.inr (N y hy)).mono (by decide) (by decide)⟩⟩
theorem main_1_1 : Claimed_1_1 := comes_1 fun _ _ _ _ _ _ h hF => ⟨h.1, hF⟩
theorem main_1_2 : Claimed_1_2 := comes_1 fun _ _ _ _ _ _ h hF => ⟨h.2.1, hF⟩
end Jvm.Pilot.@@N@@
namespace Jvm.Pilot.@@N@@
open Jvm Jvm.ClassFile Sem Op Lib Jvm.Free Jvm.Stand Jvm.Pilot.@@N@@.Jvm.D
/-! MADE BY PROGRAM (witnessworld.py) out of the Statement's table words and the real class files: 10 classes; the members and pool entries that the words name. The judged class is class 1, her method 2. -/
namespace start1
open Jvm.ClassFile
def u (s : String) : CpInfo := .utf8 (stringToUtf16 s)
/-- a pool by its gaps: so many unusable entries, then the entry; so many at the end -/
def gap : Nat → List CpInfo → List CpInfo
  | 0, r => r
  | n + 1, r => .unusable :: gap n r
def poolList (es : List (Nat × CpInfo)) (last : Nat) : List CpInfo := es.foldr (fun e r => gap e.1 (e.2 :: r)) (gap last [])
def pool (es : List (Nat × CpInfo)) (last : Nat) : Array CpInfo := ⟨poolList es last⟩
def fileOf (pool : Array CpInfo) (this : Nat) (attrs : Array Attribute := #[]) (ms : Array MethodInfo := #[]) (fl : Nat := 33) (sup : Nat := 0) (ifs : Array Nat := #[]) (fds : Array FieldInfo := #[]) : ClassFile where
  minorVersion := 0
  majorVersion := 65
  constantPool := pool
  accessFlags := fl
  thisClass := this
  superClass := sup
  interfaces := ifs
  fields := fds
  methods := ms
  attributes := attrs
def plain (name : String) (sup : Option ClassId) : Class where
  name := name
  kind := .ordinary
  loader := none
  accessFlags := 33
  super := sup
  interfaces := #[]
  cf := none
  fields := #[]
  methods := #[]
  instanceTypes := #[]
  staticTypes := #[]
  resolved := #[]
  callSites := []
  init := .initialized
  statics := none
  mirror := none

def pool0 : Array CpInfo := pool [(5, u "<init>"), (0, u "()V"), (1, .class_ 10), (1, u "java/lang/Object")] 113

def k0c0 : Code := { maxStack := 0, maxLocals := 1, code := object_method_1_code, exceptionTable := #[], attributes := #[] }
def k0m0 : Method := { name := "<init>", desc := "()V", sig := { parameters := [], returnType := none }, accessFlags := 1, code := some k0c0 }
/-- java/lang/Object -/
def k0 : Class := { plain "java/lang/Object" none with
  accessFlags := 33
  interfaces := #[]
  cf := some (fileOf pool0 8 #[] #[{ accessFlags := 1, nameIndex := 5, descriptorIndex := 6, attributes := #[] }] 33 0 #[] #[])
  fields := #[]
  methods := #[k0m0]
  instanceTypes := #[]
  staticTypes := #[]
  resolved := Array.replicate 124 none
  statics := none }

def pool1 : Array CpInfo := pool [(2, .class_ 4), (0, .nameAndType 5 6), (0, u "java/lang/Object"), (0, u "<init>"), (0, u "()V"), (0, .methodref 8 9), (0, .class_ 10), (0, .nameAndType 11 12), (0, u "lightbin/RunValidityPinLaw"), (0, u "out"), (0, u "(I)I"), (0, .class_ 14), (0, u "lightbin/AgreementResult$Run"), (0, .methodref 13 3), (0, .methodref 13 17), (0, .nameAndType 18 19), (0, u "addHonest"), (0, u "(III)V"), (0, .methodref 13 21), (0, .nameAndType 22 23), (0, u "validity"), (0, u "()Z"), (2, u "law"), (0, u "(IIIII)Z")] 7

def k1m0 : Method := { name := "<init>", desc := "()V", sig := { parameters := [], returnType := none }, accessFlags := 1, code := none }
def k1c1 : Code := { maxStack := 2, maxLocals := 1, code := method_2_code, exceptionTable := #[], attributes := #[] }
def k1m1 : Method := { name := "out", desc := "(I)I", sig := { parameters := [.int], returnType := some .int }, accessFlags := 10, code := some k1c1 }
def k1c2 : Code := { maxStack := 4, maxLocals := 18, code := code, exceptionTable := #[], attributes := #[] }
def k1m2 : Method := { name := "law", desc := "(IIIII)Z", sig := { parameters := [.int, .int, .int, .int, .int], returnType := some .boolean }, accessFlags := 9, code := some k1c2 }
/-- lightbin/RunValidityPinLaw -/
def k1 : Class := { plain "lightbin/RunValidityPinLaw" (some 0) with
  accessFlags := 49
  interfaces := #[]
  cf := some (fileOf pool1 8 #[] #[{ accessFlags := 1, nameIndex := 5, descriptorIndex := 6, attributes := #[] }, { accessFlags := 10, nameIndex := 11, descriptorIndex := 12, attributes := #[] }, { accessFlags := 9, nameIndex := 26, descriptorIndex := 27, attributes := #[] }] 49 2 #[] #[])
  fields := #[]
  methods := #[k1m0, k1m1, k1m2]
  instanceTypes := #[]
  staticTypes := #[]
  resolved := Array.replicate 35 none
  statics := none }

def pool2 : Array CpInfo := pool [(1, .methodref 2 3), (0, .class_ 4), (0, .nameAndType 5 6), (0, u "java/lang/Object"), (0, u "<init>"), (0, u "()V"), (0, .fieldref 8 9), (0, .class_ 10), (0, .nameAndType 11 12), (0, u "lightbin/AgreementResult$Run"), (0, u "firstInput"), (0, u "I"), (0, .fieldref 8 14), (0, .nameAndType 15 16), (0, u "inputsEqual"), (0, u "Z"), (0, .fieldref 8 18), (0, .nameAndType 19 12), (0, u "nodes"), (0, .fieldref 8 21), (0, .nameAndType 22 12), (0, u "ones"), (0, .fieldref 8 24), (0, .nameAndType 25 12), (0, u "zeros"), (0, .fieldref 8 27), (0, .nameAndType 28 12), (0, u "decisionRound"), (0, .methodref 30 31), (0, .class_ 32), (0, .nameAndType 33 34), (0, u "java/lang/Math"), (0, u "max"), (0, u "(II)I"), (3, u "()Z"), (12, u "validity"), (9, u "addHonest"), (0, u "(III)V"), (9, .class_ 73), (0, u "lightbin/AgreementResult")] 2

def k2c0 : Code := { maxStack := 2, maxLocals := 1, code := prog_5_method_1_code, exceptionTable := #[], attributes := #[] }
def k2m0 : Method := { name := "<init>", desc := "()V", sig := { parameters := [], returnType := none }, accessFlags := 0, code := some k2c0 }
def k2c1 : Code := { maxStack := 4, maxLocals := 4, code := prog_5_method_2_code, exceptionTable := #[], attributes := #[] }
def k2m1 : Method := { name := "addHonest", desc := "(III)V", sig := { parameters := [.int, .int, .int], returnType := none }, accessFlags := 0, code := some k2c1 }
def k2c2 : Code := { maxStack := 2, maxLocals := 1, code := prog_5_method_4_code, exceptionTable := #[], attributes := #[] }
def k2m2 : Method := { name := "validity", desc := "()Z", sig := { parameters := [], returnType := some .boolean }, accessFlags := 0, code := some k2c2 }
/-- lightbin/AgreementResult$Run -/
def k2 : Class := { plain "lightbin/AgreementResult$Run" (some 0) with
  accessFlags := 48
  interfaces := #[]
  cf := some (fileOf pool2 8 #[.nestHost 72] #[{ accessFlags := 0, nameIndex := 5, descriptorIndex := 6, attributes := #[] }, { accessFlags := 0, nameIndex := 61, descriptorIndex := 62, attributes := #[] }, { accessFlags := 0, nameIndex := 51, descriptorIndex := 38, attributes := #[] }] 48 2 #[] #[{ accessFlags := 2, nameIndex := 19, descriptorIndex := 12, attributes := #[] }, { accessFlags := 2, nameIndex := 11, descriptorIndex := 12, attributes := #[] }, { accessFlags := 2, nameIndex := 15, descriptorIndex := 16, attributes := #[] }, { accessFlags := 2, nameIndex := 22, descriptorIndex := 12, attributes := #[] }, { accessFlags := 2, nameIndex := 25, descriptorIndex := 12, attributes := #[] }, { accessFlags := 2, nameIndex := 28, descriptorIndex := 12, attributes := #[] }])
  fields := #[{ name := "nodes", type := .int, accessFlags := 2, slot := 0, constantValue := 0 }, { name := "firstInput", type := .int, accessFlags := 2, slot := 1, constantValue := 0 }, { name := "inputsEqual", type := .boolean, accessFlags := 2, slot := 2, constantValue := 0 }, { name := "ones", type := .int, accessFlags := 2, slot := 3, constantValue := 0 }, { name := "zeros", type := .int, accessFlags := 2, slot := 4, constantValue := 0 }, { name := "decisionRound", type := .int, accessFlags := 2, slot := 5, constantValue := 0 }]
  methods := #[k2m0, k2m1, k2m2]
  instanceTypes := #[.int, .int, .boolean, .int, .int, .int]
  staticTypes := #[]
  resolved := Array.replicate 76 none
  statics := none }

def pool3 : Array CpInfo := pool [(1, .class_ 2), (0, u "java/lang/Math"), (1, .class_ 6), (1, u "java/lang/Object"), (0, u "<init>"), (0, u "()V"), (89, .class_ 100), (1, u "java/lang/Math$RandomNumberGeneratorHolder"), (71, u "negativeZeroFloatBits"), (0, u "J"), (2, u "negativeZeroDoubleBits"), (21, u "max"), (46, u "$assertionsDisabled"), (0, u "Z"), (88, u "(II)I"), (2, u "twoToTheDoubleScaleDown"), (0, u "D"), (4, u "twoToTheDoubleScaleUp"), (9, u "E"), (3, u "PI"), (2, u "TAU"), (2, u "DEGREES_TO_RADIANS"), (0, u "RADIANS_TO_DEGREES")] 94

def k3m0 : Method := { name := "<init>", desc := "()V", sig := { parameters := [], returnType := none }, accessFlags := 2, code := none }
def k3c1 : Code := { maxStack := 2, maxLocals := 2, code := jdk_29_method_65_code, exceptionTable := #[], attributes := #[] }
def k3m1 : Method := { name := "max", desc := "(II)I", sig := { parameters := [.int, .int], returnType := some .int }, accessFlags := 9, code := some k3c1 }
/-- java/lang/Math -/
def k3 : Class := { plain "java/lang/Math" (some 0) with
  accessFlags := 49
  interfaces := #[]
  cf := some (fileOf pool3 1 #[.nestMembers #[98]] #[{ accessFlags := 2, nameIndex := 7, descriptorIndex := 8, attributes := #[] }, { accessFlags := 9, nameIndex := 198, descriptorIndex := 335, attributes := #[] }] 49 4 #[] #[{ accessFlags := 25, nameIndex := 354, descriptorIndex := 339, attributes := #[] }, { accessFlags := 25, nameIndex := 358, descriptorIndex := 339, attributes := #[] }, { accessFlags := 25, nameIndex := 361, descriptorIndex := 339, attributes := #[] }, { accessFlags := 26, nameIndex := 364, descriptorIndex := 339, attributes := #[] }, { accessFlags := 26, nameIndex := 365, descriptorIndex := 339, attributes := #[] }, { accessFlags := 26, nameIndex := 172, descriptorIndex := 173, attributes := #[] }, { accessFlags := 26, nameIndex := 176, descriptorIndex := 173, attributes := #[] }, { accessFlags := 8, nameIndex := 344, descriptorIndex := 339, attributes := #[] }, { accessFlags := 8, nameIndex := 338, descriptorIndex := 339, attributes := #[] }, { accessFlags := 4120, nameIndex := 245, descriptorIndex := 246, attributes := #[] }])
  fields := #[{ name := "E", type := .double, accessFlags := 25, slot := 0, constantValue := 0 }, { name := "PI", type := .double, accessFlags := 25, slot := 1, constantValue := 0 }, { name := "TAU", type := .double, accessFlags := 25, slot := 2, constantValue := 0 }, { name := "DEGREES_TO_RADIANS", type := .double, accessFlags := 26, slot := 3, constantValue := 0 }, { name := "RADIANS_TO_DEGREES", type := .double, accessFlags := 26, slot := 4, constantValue := 0 }, { name := "negativeZeroFloatBits", type := .long, accessFlags := 26, slot := 5, constantValue := 0 }, { name := "negativeZeroDoubleBits", type := .long, accessFlags := 26, slot := 6, constantValue := 0 }, { name := "twoToTheDoubleScaleUp", type := .double, accessFlags := 8, slot := 7, constantValue := 0 }, { name := "twoToTheDoubleScaleDown", type := .double, accessFlags := 8, slot := 8, constantValue := 0 }, { name := "$assertionsDisabled", type := .boolean, accessFlags := 4120, slot := 9, constantValue := 0 }]
  methods := #[k3m0, k3m1]
  instanceTypes := #[]
  staticTypes := #[.double, .double, .double, .double, .double, .long, .long, .double, .double, .boolean]
  resolved := Array.replicate 460 none
  statics := none }

def pool4 : Array CpInfo := pool [(1, u "java/lang/Cloneable"), (0, .class_ 1), (0, u "java/lang/Object"), (0, .class_ 3)] 3

/-- java/lang/Cloneable -/
def k4 : Class := { plain "java/lang/Cloneable" (some 0) with
  accessFlags := 1537
  interfaces := #[]
  cf := some (fileOf pool4 2 #[] #[] 1537 4 #[] #[])
  fields := #[]
  methods := #[]
  instanceTypes := #[]
  staticTypes := #[]
  resolved := Array.replicate 8 none
  statics := none }

def pool5 : Array CpInfo := pool [(1, u "java/io/Serializable"), (0, .class_ 1), (0, u "java/lang/Object"), (0, .class_ 3)] 3

/-- java/io/Serializable -/
def k5 : Class := { plain "java/io/Serializable" (some 0) with
  accessFlags := 1537
  interfaces := #[]
  cf := some (fileOf pool5 2 #[] #[] 1537 4 #[] #[])
  fields := #[]
  methods := #[]
  instanceTypes := #[]
  staticTypes := #[]
  resolved := Array.replicate 8 none
  statics := none }

/-- the primitive byte -/
def k6 : Class := { plain "byte" none with kind := .primitive 'B', accessFlags := 0x411 }
/-- [B -/
def k7 : Class := { plain "[B" (some 0) with kind := .array 6 .byte, interfaces := #[4, 5], accessFlags := 1041 }

/-- the primitive int -/
def k8 : Class := { plain "int" none with kind := .primitive 'I', accessFlags := 0x411 }
/-- [I -/
def k9 : Class := { plain "[I" (some 0) with kind := .array 8 .int, interfaces := #[4, 5], accessFlags := 1041 }

def heap : Heap := #[]
def classes : Array Class := #[k0, k1, k2, k3, k4, k5, k6, k7, k8, k9]
def interned : List (Array UInt16 × Addr) := []
def slotsUsed : Nat := 0
def theMethod : MethodId := ⟨1, 2⟩
def args0 : Array Value := #[.int 5, .int 7, .int 6, .int 3, .int 1]
def aboutOver (below : List Frame) : State where
  vm := { classes := classes, interned := interned.toArray }
  heap := heap
  slotsUsed := slotsUsed
  threads := #[{ frames := .invoking theMethod args0 :: below }]
def below0 : List Frame := [.native { method := ⟨0, 0⟩, args := #[] }]
def about1 : State := aboutOver below0
def p0 : Program := .bare "" "" ""
def e0 : Env := launch0.env 0 0 0
theorem w_frames : about1.frames = Frame.invoking theMethod args0 :: below0 := rfl
set_option maxRecDepth 65536 in
theorem w_args : argsFit about1.vm theMethod args0 = true := by decide +kernel
set_option maxRecDepth 65536 in
theorem w_heap : heapFits about1 = true := by decide +kernel
set_option maxRecDepth 65536 in
theorem w_runnable : about1.curStatus? = some .runnable := by decide +kernel
set_option maxRecDepth 65536 in
theorem w_alone : about1.alone = true := by decide +kernel
set_option maxRecDepth 65536 in
theorem w_named : about1.methodNamed? x = some theMethod := by decide +kernel
set_option maxRecDepth 65536 in
theorem w_hears : about1.hears theMethod below0 = true := by decide +kernel
set_option maxRecDepth 65536 in
theorem w_ripe : about1.ripe theMethod args0 below0 = true := by decide +kernel
theorem w_running : about1.status = .running := rfl
set_option maxRecDepth 65536 in
theorem w_room : about1.hasRoom e0.platform room_1 = true :=
  launch0.hasRoom_least _ room_1 (by decide +kernel) (by decide +kernel) (by decide +kernel) (by decide +kernel) (by decide +kernel) (by decide +kernel)
theorem allAtoms_all (ts : List Jvm.Cond) (a : Array Jvm.Value) (st : Jvm.State) : (allAtoms ts).before a st = ts.all (fun c => c.before a st) := by
  induction ts with
  | nil => rfl
  | cons c t ih =>
    show (Jvm.Cond.and c (allAtoms t)).before a st = _
    rw [Jvm.Cond.before_and, ih, List.all_cons]
def words1 : List Jvm.Cond := Jvm.Cond.code x code maxLocals ret :: tables_1
/-- a 'code' word, met by the world's own term for the bytes: nothing is compared byte by byte -/
theorem code_word {y : MethodName} {bytes : ByteArray} {mx : Nat} {rt : Option FieldType} {a : Array Value} {s : State} {m : MethodId} {meth : Method} {c : Code} (h1 : s.methodNamed? y = some m) (h2 : s.vm.method? m = some meth) (h3 : meth.code = some c) (h4 : c.code = bytes)
    (h5 : (c.maxLocals == mx && c.exceptionTable.isEmpty && decide (c.maxStack ≤ mostOperands) && decide (meth.sig.returnType = rt) && !meth.locks && decide (parseMethodDescriptor y.desc = some meth.sig)) = true) : (Jvm.Cond.code y bytes mx rt).before a s = true := by
  simp only [Bool.and_eq_true, beq_iff_eq, Bool.not_eq_true', decide_eq_true_eq] at h5
  obtain ⟨⟨⟨⟨⟨g1, g2⟩, g3⟩, g4⟩, g5⟩, g6⟩ := h5
  simp [Cond.before, Cond.holds, Cond.value, h1, h2, h3, h4, g1, g2, g3, g4, g5, g6]
def isCode : Jvm.Cond → Bool
  | .code _ _ _ _ => true
  | _ => false
theorem all_split {L : List Jvm.Cond} {P : Jvm.Cond → Bool} (h1 : L.all (fun c => isCode c || P c) = true) (h2 : ∀ c ∈ L.filter isCode, P c = true) : L.all P = true := by
  refine List.all_eq_true.mpr fun c hc => ?_
  have h := List.all_eq_true.mp h1 c hc
  rcases Bool.eq_false_or_eq_true (isCode c) with hi | hi
  · exact h2 c (List.mem_filter.mpr ⟨hc, hi⟩)
  · simpa [hi] using h
set_option maxRecDepth 65536 in
theorem w_c0 : (Jvm.Cond.code x code maxLocals ret).before args0 about1 = true := code_word (m := ⟨1, 2⟩) (meth := k1m2) (c := k1c2) (by decide +kernel) rfl rfl rfl (by decide +kernel)
set_option maxRecDepth 65536 in
theorem w_c1 : (Jvm.Cond.code ({ cls := "lightbin/RunValidityPinLaw", name := "out", desc := "(I)I" } : Jvm.MethodName) method_2_code (1 : Nat) (Option.some Jvm.ClassFile.FieldType.int)).before args0 about1 = true := code_word (m := ⟨1, 1⟩) (meth := k1m1) (c := k1c1) (by decide +kernel) rfl rfl rfl (by decide +kernel)
set_option maxRecDepth 65536 in
theorem w_c2 : (Jvm.Cond.code ({ cls := "lightbin/AgreementResult$Run", name := "<init>", desc := "()V" } : Jvm.MethodName) prog_5_method_1_code (1 : Nat) (Option.none : Option Jvm.ClassFile.FieldType)).before args0 about1 = true := code_word (m := ⟨2, 0⟩) (meth := k2m0) (c := k2c0) (by decide +kernel) rfl rfl rfl (by decide +kernel)
set_option maxRecDepth 65536 in
theorem w_c3 : (Jvm.Cond.code ({ cls := "java/lang/Object", name := "<init>", desc := "()V" } : Jvm.MethodName) object_method_1_code (1 : Nat) (Option.none : Option Jvm.ClassFile.FieldType)).before args0 about1 = true := code_word (m := ⟨0, 0⟩) (meth := k0m0) (c := k0c0) (by decide +kernel) rfl rfl rfl (by decide +kernel)
set_option maxRecDepth 65536 in
theorem w_c4 : (Jvm.Cond.code ({ cls := "lightbin/AgreementResult$Run", name := "validity", desc := "()Z" } : Jvm.MethodName) prog_5_method_4_code (1 : Nat) (Option.some Jvm.ClassFile.FieldType.boolean)).before args0 about1 = true := code_word (m := ⟨2, 2⟩) (meth := k2m2) (c := k2c2) (by decide +kernel) rfl rfl rfl (by decide +kernel)
set_option maxRecDepth 65536 in
theorem w_c5 : (Jvm.Cond.code ({ cls := "lightbin/AgreementResult$Run", name := "addHonest", desc := "(III)V" } : Jvm.MethodName) prog_5_method_2_code (4 : Nat) (Option.none : Option Jvm.ClassFile.FieldType)).before args0 about1 = true := code_word (m := ⟨2, 1⟩) (meth := k2m1) (c := k2c1) (by decide +kernel) rfl rfl rfl (by decide +kernel)
set_option maxRecDepth 65536 in
theorem w_c6 : (Jvm.Cond.code ({ cls := "java/lang/Math", name := "max", desc := "(II)I" } : Jvm.MethodName) jdk_29_method_65_code (2 : Nat) (Option.some Jvm.ClassFile.FieldType.int)).before args0 about1 = true := code_word (m := ⟨3, 1⟩) (meth := k3m1) (c := k3c1) (by decide +kernel) rfl rfl rfl (by decide +kernel)
def codes1 : List Jvm.Cond := [Jvm.Cond.code x code maxLocals ret, Jvm.Cond.code ({ cls := "lightbin/RunValidityPinLaw", name := "out", desc := "(I)I" } : Jvm.MethodName) method_2_code (1 : Nat) (Option.some Jvm.ClassFile.FieldType.int), Jvm.Cond.code ({ cls := "lightbin/AgreementResult$Run", name := "<init>", desc := "()V" } : Jvm.MethodName) prog_5_method_1_code (1 : Nat) (Option.none : Option Jvm.ClassFile.FieldType), Jvm.Cond.code ({ cls := "java/lang/Object", name := "<init>", desc := "()V" } : Jvm.MethodName) object_method_1_code (1 : Nat) (Option.none : Option Jvm.ClassFile.FieldType), Jvm.Cond.code ({ cls := "lightbin/AgreementResult$Run", name := "validity", desc := "()Z" } : Jvm.MethodName) prog_5_method_4_code (1 : Nat) (Option.some Jvm.ClassFile.FieldType.boolean), Jvm.Cond.code ({ cls := "lightbin/AgreementResult$Run", name := "addHonest", desc := "(III)V" } : Jvm.MethodName) prog_5_method_2_code (4 : Nat) (Option.none : Option Jvm.ClassFile.FieldType), Jvm.Cond.code ({ cls := "java/lang/Math", name := "max", desc := "(II)I" } : Jvm.MethodName) jdk_29_method_65_code (2 : Nat) (Option.some Jvm.ClassFile.FieldType.int)]
set_option maxRecDepth 65536 in
theorem codes_eq : words1.filter isCode = codes1 := rfl
theorem w_codes : ∀ c ∈ words1.filter isCode, c.before args0 about1 = true := by
  rw [codes_eq]
  intro c hc
  simp only [codes1, List.mem_cons, List.not_mem_nil, or_false] at hc
  rcases hc with rfl | rfl | rfl | rfl | rfl | rfl | rfl
  · exact w_c0
  · exact w_c1
  · exact w_c2
  · exact w_c3
  · exact w_c4
  · exact w_c5
  · exact w_c6
set_option maxRecDepth 65536 in
theorem w_t1 : (words1.take 24).all (fun c => isCode c || c.before args0 about1) = true := by decide +kernel
set_option maxRecDepth 65536 in
theorem w_t2 : (words1.drop 24).all (fun c => isCode c || c.before args0 about1) = true := by decide +kernel
theorem w_tables : (allAtoms (Jvm.Cond.code x code maxLocals ret :: tables_1)).before args0 about1 = true := by
  rw [allAtoms_all]
  show words1.all (fun c => c.before args0 about1) = true
  refine all_split ?_ w_codes
  rw [← List.take_append_drop 24 words1, List.all_append, w_t1, w_t2]
  rfl
set_option maxRecDepth 65536 in
theorem w_case : (Jvm.Cond.and given_1 narrow_1).before args0 about1 = true := by decide +kernel
theorem w_applies : (headSpec (Jvm.Cond.code x code maxLocals ret :: tables_1) room_1).applies x e0.platform about1 = true :=
  (Spec.applies_iff w_frames).mpr ⟨w_running, w_runnable, w_alone, w_named, w_hears, w_ripe, w_room, w_tables⟩
theorem atStart : AtStart classFile x code maxLocals ret World_1 tables_1 room_1 Calls_1 rest_1 Pre_1 launch0 p0 e0 about1 theMethod args0 below0 :=
  ⟨lists_1, trivial, launch0.admits_env _ _ _, launch0.least_env, fairChoices_fair.cas, fairChoices_fair.clock, w_frames, w_args, w_heap, w_applies, trivial, trivial, w_case⟩
end start1
theorem witness_1 : WitnessClaimed_1 := ⟨start1.p0, start1.e0, start1.about1, start1.theMethod, start1.args0, start1.below0, start1.atStart⟩
end Jvm.Pilot.@@N@@
