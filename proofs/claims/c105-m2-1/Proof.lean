import JvmDerived
import JvmDerived.Pilot.@@N@@Statement
import JvmDerived.Pilot.@@N@@Code
set_option linter.unusedVariables false
set_option linter.unusedSimpArgs false
@@BLOCK:NumsL.lean.txt@@
namespace Jvm.RoadKit
open Sem ClassFile Op Lib Jvm.Stand Jvm.Free Jvm.LawKit
section New
variable {p : Program} {l : Launch} {e : Env} {R : Room} {s : State} {m : MethodId} {args : Array Value} {below : List Frame} {meth : Method} {c : Code} {T : State} {locs : List Loc} {cells slots : Nat}
theorem retI (X : Stand p l e R s m args below meth c T locs cells slots) (hx : p.tables.exec = Jvm.exec) {pc : Nat} {Ls : Array Slot} {z : Int32} {rest : List Value} (hret : meth.sig.returnType = some .int) (hd : decode c.code pc = .ok (.ireturn, 1)) {fs : List Frame}
    (hl : ∀ (f : JFrame) (acts : List Action), f.method = m → f.locked = none → f.entered = [] → (doReturn e (T.setTop f) acts (some (.int z))).1 = T.setFrames fs) : Steps p.tables e below (T.setTop (mkF m pc Ls (.int z :: rest))) (T.setFrames fs) :=
  retOut X hx (w := .int z) (t := .int) (i := .ireturn) hret rfl (Or.inl ⟨rfl, Or.inl rfl, z, rfl⟩) hd hl
theorem retJ (X : Stand p l e R s m args below meth c T locs cells slots) (hx : p.tables.exec = Jvm.exec) {pc : Nat} {Ls : Array Slot} {z : Int64} {rest : List Value} (hret : meth.sig.returnType = some .long) (hd : decode c.code pc = .ok (.lreturn, 1)) {fs : List Frame}
    (hl : ∀ (f : JFrame) (acts : List Action), f.method = m → f.locked = none → f.entered = [] → (doReturn e (T.setTop f) acts (some (.long z))).1 = T.setFrames fs) : Steps p.tables e below (T.setTop (mkF m pc Ls (.long z :: rest))) (T.setFrames fs) :=
  retOut X hx (w := .long z) (t := .long) (i := .lreturn) hret rfl (Or.inr (Or.inl ⟨rfl, rfl, z, rfl⟩)) hd hl
theorem retA (X : Stand p l e R s m args below meth c T locs cells slots) (hx : p.tables.exec = Jvm.exec) {pc : Nat} {Ls : Array Slot} {w : Value} {t : FieldType} {rest : List Value} (hret : meth.sig.returnType = some t) (ht : t.isReference = true) (hw : w.isRef = true) (hn : narrow t w = w) (hd : decode c.code pc = .ok (.areturn, 1)) {fs : List Frame}
    (hl : ∀ (f : JFrame) (acts : List Action), f.method = m → f.locked = none → f.entered = [] → (doReturn e (T.setTop f) acts (some w)).1 = T.setFrames fs) : Steps p.tables e below (T.setTop (mkF m pc Ls (w :: rest))) (T.setFrames fs) :=
  retOut X hx (w := w) (t := t) (i := .areturn) hret hn (Or.inr (Or.inr (Or.inr (Or.inr ⟨rfl, ht, hw⟩)))) hd hl
end New
end Jvm.RoadKit
namespace Jvm.Pilot.@@N@@
open Jvm Jvm.ClassFile Sem Op Lib Jvm.Free Jvm.Stand Jvm.LawKit Jvm.RoadKit Bundle Jvm.Pilot.@@N@@.Jvm.D
/-- from S every run comes to T -/
abbrev Go (p : Program) (e : Env) (below : List Frame) (S T : State) : Prop := ∀ t, Steps p.tables e below T t → Steps p.tables e below S t

theorem own_ofNat {c : Int32} {n : Nat} (h : c.toInt = n) : c = Int32.ofNat n := by
  apply Int32.toInt_inj.mp
  have h2 := c.toInt_lt
  rw [Int32.toInt_ofNat', show Int32.size = 4294967296 from rfl, Int.bmod_eq_of_le (by omega) (by omega), h]
theorem own_char (x : Int32) : (x.toUInt32.toUInt16.toUInt32.toInt32).toInt = x.toInt % 65536 := by
  have h : (x.toUInt32.toUInt16.toUInt32.toInt32).toBitVec = (x.toBitVec.setWidth 16).setWidth 32 := rfl
  have h1 : (x.toUInt32.toUInt16.toUInt32.toInt32).toInt = ((x.toBitVec.setWidth 16).setWidth 32).toInt := by rw [← h]; rfl
  rw [h1, BitVec.toInt_eq_toNat_cond]
  have h3 : x.toInt = x.toBitVec.toInt := rfl
  rw [h3, BitVec.toInt_eq_toNat_cond]
  simp only [BitVec.toNat_setWidth]
  have := x.toBitVec.isLt
  split <;> split <;> omega


theorem own_m31 (x : Int32) : 0 ≤ (x &&& 2147483647).toInt := by
  have := Jvm.Kit.i32_mask x 2147483647 (k := 31) (by decide) (by decide); omega
theorem own_rem (x n : Int32) (hn : 0 < n.toInt) : 0 ≤ ((x &&& 2147483647) % n).toInt ∧ ((x &&& 2147483647) % n).toInt < n.toInt := by
  rw [Jvm.Kit.i32_rem_nonneg (own_m31 x)]
  exact ⟨Int.emod_nonneg _ (by omega), Int.emod_lt_of_pos _ hn⟩
theorem own_remeq (x y : Int32) : x - (x / y) * y = x % y := by
  apply Int32.toInt_inj.mp
  have a := (x % y).toInt_lt; have b := (x % y).le_toInt
  rw [Int32.toInt_mod] at a b ⊢
  rw [Int32.toInt_sub, Int32.toInt_mul, Int32.toInt_div, Int.bmod_mul_bmod, Int.sub_bmod_bmod, Int.mul_comm, ← Int.tmod_def]
  exact Jvm.Kit.bmod32 b a
theorem own_irem {tb : Tables} [Ours tb] {e : Env} {below : List Frame} {T target : State} {m : MethodId} {c : Code} {g : JFrame} (h : At T m c below) (hx : tb.exec = Jvm.exec) (hg : g.method = m) {x y : Int32} {rest : List Value} (hd : decode c.code g.pc = .ok (.irem, 1)) (hs : g.stack = .int y :: .int x :: rest) (hy : y ≠ 0)
    (hr : Steps tb e below (T.setTop { g with pc := g.pc + 1, stack := .int (x % y) :: rest }) target) : Steps tb e below (T.setTop g) target := XS.irem h hx hg hd hs hy (by rw [own_remeq]; exact hr)

theorem ef_1 (m : MethodId) (p0 : Int32) : entryFrame m #[(.int p0)] 1 = mkF m 0 #[.val (.int p0)] [] := by first | (simp [entryFrame, mkF, argsToLocals, Value.category]; done) | rfl
theorem d1_0 : decode prog_5_method_3_code 0 = .ok (.iload_n 0, 1) := by decide +kernel
theorem d1_1 : decode prog_5_method_3_code 1 = .ok (.sipush 800, 3) := by decide +kernel
theorem d1_4 : decode prog_5_method_3_code 4 = .ok (.iadd, 1) := by decide +kernel
theorem d1_5 : decode prog_5_method_3_code 5 = .ok (.iconst 1, 1) := by decide +kernel
theorem d1_6 : decode prog_5_method_3_code 6 = .ok (.isub, 1) := by decide +kernel
theorem d1_7 : decode prog_5_method_3_code 7 = .ok (.sipush 800, 3) := by decide +kernel
theorem d1_10 : decode prog_5_method_3_code 10 = .ok (.idiv, 1) := by decide +kernel
theorem d1_11 : decode prog_5_method_3_code 11 = .ok (.ireturn, 1) := by decide +kernel
def f1 (p0 : Int32) : Int32 := (((p0 + (800 : Int32)) - (1 : Int32)) / (800 : Int32))
def Q1 (Z : State) (p0 : Int32) (h0 : Heap) (n0 : Nat) (v : Option Value) (h : Heap) (L : List Loc) : Prop := v = some (.int (f1 p0)) ∧ Fr n0 L ∧ h = h0
set_option maxRecDepth 65536 in
set_option maxHeartbeats 40000000 in
theorem pn_com_example_seshat_seshat_filter_Filter : plainName "com/example/seshat/seshat/filter/Filter" = true := by first | (simp [plainName, overriddenIn]; done) | decide +kernel
theorem rm1 (l : Launch) (Z : State) (a0 : Array Value) (hw : ∀ d ∈ tables_1, d.before a0 Z = true) (ws : List Jvm.Cond) (p0 : Int32) (h0 : Heap) (n0 : Nat) (Z0 : n0 ≤ h0.size) :
    MetFree l (⟨"com/example/seshat/seshat/filter/Filter", "blocksFor", "(I)I"⟩ : MethodName) (head1 (Jvm.Cond.code (⟨"com/example/seshat/seshat/filter/Filter", "blocksFor", "(I)I"⟩ : MethodName) prog_5_method_3_code 1 (some .int) :: ws) ({ frames := 0, cells := 0, slots := 0, locals := 0 } : Room)) (fun a U => a = #[(.int p0)] ∧ Z.Warmed39 U.vm ∧ U.heap = h0) (fun _ _ _ _ _ => True) (fun _ U o U' => ∃ v L, o = .returned v ∧ Q1 Z p0 h0 n0 v U'.heap L ∧ FrameEnd U o U' L ({ frames := 0, cells := 0, slots := 0, locals := 0 } : Room).cells ({ frames := 0, cells := 0, slots := 0, locals := 0 } : Room).slots) := by
  refine MetFree.of_bodySF (plainFor_of_name pn_com_example_seshat_seshat_filter_Filter) hisR ?_
  intro p e s m args below meth c s₁ Bd hml0 hP hK
  obtain ⟨rfl, hZ, hh⟩ := hP
  have hx := Bd.exec
  have hby := Bd.bytes
  have hml : c.maxLocals = 1 := hml0
  have hown : s.vm.findClass "com/example/seshat/seshat/filter/Filter" = some m.cls := findClass_of_methodNamed Bd.named
  have hnm := (name_of_methodNamed Bd.named Bd.method).1
  have X0 : Stand p l e ({ frames := 0, cells := 0, slots := 0, locals := 0 } : Room) s m #[(.int p0)] below meth c s₁ [] 0 0 := Stand.of_body Bd
  have e0 : s₁.heap = h0 := by rw [← hh, Bd.state]; rfl
  have N0 := Fr.nil n0
  have pre0 : Go p e below (s₁.setTop (entryFrame m #[(.int p0)] 1)) (s₁.setTop (mkF m 0 #[.val (.int p0)] [])) := fun t k => castTop (ef_1 m p0) k
  have pre1 : Go p e below (s₁.setTop (entryFrame m #[(.int p0)] 1)) (s₁.setTop (mkF m 11 #[.val (.int p0)] [(.int (((p0 + (800 : Int32)) - (1 : Int32)) / (800 : Int32)))])) := by
    intro t k
    refine pre0 t ?_
    show Steps p.tables e below (s₁.setTop (mkF m 0 #[.val (.int p0)] [])) _
    refine XS.iloadN X0.here hx rfl (hb hby d1_0) rfl ?_
    show Steps p.tables e below (s₁.setTop (mkF m 1 #[.val (.int p0)] [(.int p0)])) _
    refine XS.sipush X0.here hx rfl (hb hby d1_1) ?_
    show Steps p.tables e below (s₁.setTop (mkF m 4 #[.val (.int p0)] [(.int (800 : Int32)), (.int p0)])) _
    refine XS.iadd X0.here hx rfl (hb hby d1_4) rfl ?_
    show Steps p.tables e below (s₁.setTop (mkF m 5 #[.val (.int p0)] [(.int (p0 + (800 : Int32)))])) _
    refine XS.iconst X0.here hx rfl (hb hby d1_5) ?_
    show Steps p.tables e below (s₁.setTop (mkF m 6 #[.val (.int p0)] [(.int (1 : Int32)), (.int (p0 + (800 : Int32)))])) _
    refine XS.isub X0.here hx rfl (hb hby d1_6) rfl ?_
    show Steps p.tables e below (s₁.setTop (mkF m 7 #[.val (.int p0)] [(.int ((p0 + (800 : Int32)) - (1 : Int32)))])) _
    refine XS.sipush X0.here hx rfl (hb hby d1_7) ?_
    show Steps p.tables e below (s₁.setTop (mkF m 10 #[.val (.int p0)] [(.int (800 : Int32)), (.int ((p0 + (800 : Int32)) - (1 : Int32)))])) _
    refine XS.idiv X0.here hx rfl (hb hby d1_10) rfl (by decide) ?_
    show Steps p.tables e below (s₁.setTop (mkF m 11 #[.val (.int p0)] [(.int (((p0 + (800 : Int32)) - (1 : Int32)) / (800 : Int32)))])) _
    exact k
  obtain ⟨fs, hr, hrun, hended, hW, hsame⟩ := X0.leave (v := some (.int (((p0 + (800 : Int32)) - (1 : Int32)) / (800 : Int32)))) (fun h => by rw [Bd.returns] at h; cases h)
  refine ⟨_, _, pre1 _ (retI X0 hx Bd.returns (hb hby d1_11) hr), hrun, hended, _, _, rfl, ?_, ⟨_, rfl⟩, hW, hsame.mono (by decide) (by decide)⟩
  show Q1 Z p0 h0 n0 _ s₁.heap _
  rw [e0]
  exact ⟨congrArg some (congrArg Value.int (show (((p0 + (800 : Int32)) - (1 : Int32)) / (800 : Int32)) = f1 p0 from by rw [f1])), N0, rfl⟩
theorem own_c0 {x c : Int32} (h : c = ((x &&& (2147483647 : Int32)) % (100000000 : Int32)) + (1 : Int32)) : 1 ≤ c.toInt ∧ c.toInt ≤ 100000000 := by
  have h1 := own_rem x 100000000 (by decide)
  have c1 : (100000000 : Int32).toInt = 100000000 := rfl
  have c2 : (1 : Int32).toInt = 1 := rfl
  rw [h, Jvm.Kit.i32_add (by omega) (by omega)]; omega
theorem own_c1 {y k cm md f cj c : Int32} (hk : k = ((y &&& (2147483647 : Int32)) % (125000 : Int32)) + (1 : Int32)) (hmd : md = f &&& (3 : Int32)) (hm : ¬ md = 0) (hcm : cm = (k * (800 : Int32)) + (md - (2 : Int32))) (hcj : cj = if (100000000 : Int32) < cm then (100000000 : Int32) else cm) (h : c = cj) : 1 ≤ c.toInt ∧ c.toInt ≤ 100000000 := by
  have h1 := own_rem y 125000 (by decide)
  have c1 : (125000 : Int32).toInt = 125000 := rfl
  have c2 : (1 : Int32).toInt = 1 := rfl
  have c3 : (800 : Int32).toInt = 800 := rfl
  have c4 : (2 : Int32).toInt = 2 := rfl
  have c5 : (100000000 : Int32).toInt = 100000000 := rfl
  have e1 : k.toInt = ((y &&& (2147483647 : Int32)) % (125000 : Int32)).toInt + 1 := by rw [hk, Jvm.Kit.i32_add (by omega) (by omega)]; omega
  have e2 : md.toInt = f.toInt % 2 ^ 2 := by rw [hmd]; exact Jvm.Kit.i32_mask f 3 (k := 2) (by decide) (by decide)
  have e3 : md.toInt ≠ 0 := fun q => hm (Int32.toInt_inj.mp (by rw [q]; rfl))
  have e4 : (k * (800 : Int32)).toInt = k.toInt * 800 := by rw [Jvm.Kit.i32_mul (by rw [c3]; omega) (by rw [c3]; omega), c3]
  have e5 : (md - (2 : Int32)).toInt = md.toInt - 2 := by rw [Jvm.Kit.i32_sub (by omega) (by omega), c4]
  have e6 : cm.toInt = k.toInt * 800 + (md.toInt - 2) := by rw [hcm, Jvm.Kit.i32_add (by omega) (by omega), e4, e5]
  rw [h, hcj]
  split
  · omega
  · rename_i hq; rw [Int32.lt_iff_toInt_lt] at hq; omega
theorem own_b {c b : Int32} (hc : 1 ≤ c.toInt ∧ c.toInt ≤ 100000000) (hb : b = f1 c) : b.toInt = (c.toInt + 799) / 800 := by
  have c3 : (800 : Int32).toInt = 800 := rfl
  have c2 : (1 : Int32).toInt = 1 := rfl
  have e1 : (c + (800 : Int32)).toInt = c.toInt + 800 := by rw [Jvm.Kit.i32_add (by omega) (by omega), c3]
  have e2 : ((c + (800 : Int32)) - (1 : Int32)).toInt = c.toInt + 799 := by rw [Jvm.Kit.i32_sub (by omega) (by omega), e1, c2]; omega
  rw [hb]; unfold f1
  rw [Jvm.Kit.i32_div (by omega), e2, c3, Int.tdiv_eq_ediv_of_nonneg (by omega)]
theorem own_lo {b : Int32} {lo : Int64} (hb : 1 ≤ b.toInt ∧ b.toInt ≤ 125000) (h : lo = (b.toInt64 - (1 : Int64)) * (800 : Int64)) : lo.toInt = (b.toInt - 1) * 800 := by
  have e := Int32.toInt_toInt64 b
  have c1 : (1 : Int64).toInt = 1 := rfl
  have c2 : (800 : Int64).toInt = 800 := rfl
  have e1 : (b.toInt64 - (1 : Int64)).toInt = b.toInt - 1 := by rw [Jvm.Kit.i64_sub (by omega) (by omega), e, c1]
  rw [h, Jvm.Kit.i64_mul (by rw [c2]; omega) (by rw [c2]; omega), e1, c2]
theorem own_hi {b : Int32} {hi : Int64} (hb : 1 ≤ b.toInt ∧ b.toInt ≤ 125000) (h : hi = b.toInt64 * (800 : Int64)) : hi.toInt = b.toInt * 800 := by
  have e := Int32.toInt_toInt64 b
  have c2 : (800 : Int64).toInt = 800 := rfl
  rw [h, Jvm.Kit.i64_mul (by rw [c2]; omega) (by rw [c2]; omega), e, c2]
theorem ef_0 (m : MethodId) (x0 : Int32) (x1 : Int32) (x2 : Int32) : entryFrame m #[(.int x0), (.int x1), (.int x2)] maxLocals = mkF m 0 #[.val (.int x0), .val (.int x1), .val (.int x2), .unset, .unset, .unset, .unset, .unset, .unset, .unset] [] := by first | (simp [entryFrame, mkF, argsToLocals, Value.category, maxLocals]; done) | rfl
theorem pd_1 : parseMethodDescriptor "(I)I" = some ⟨[.int], some .int⟩ := by decide +kernel
def Q0 (Z : State) (x0 : Int32) (x1 : Int32) (x2 : Int32) (h0 : Heap) (n0 : Nat) (v : Option Value) (h : Heap) (L : List Loc) : Prop := v = some (.int 1) ∧ Fr n0 L
theorem pn_com_example_seshat_seshat_filter_FilterBlocksForPinLaw : plainName "com/example/seshat/seshat/filter/FilterBlocksForPinLaw" = true := by first | (simp [plainName, overriddenIn]; done) | decide +kernel
set_option maxRecDepth 65536 in
set_option maxHeartbeats 40000000 in
theorem rm0 (l : Launch) (Z : State) (a0 : Array Value) (hw : ∀ d ∈ tables_1, d.before a0 Z = true) (ws : List Jvm.Cond) (x0 : Int32) (x1 : Int32) (x2 : Int32) (h0 : Heap) (n0 : Nat) (Z0 : n0 ≤ h0.size) :
    MetFree l x (head1 (Jvm.Cond.code x code maxLocals ret :: ws) room_1) (fun a U => a = #[(.int x0), (.int x1), (.int x2)] ∧ Z.Warmed39 U.vm ∧ U.heap = h0) (fun _ _ _ _ _ => True) (fun _ U o U' => ∃ v L, o = .returned v ∧ Q0 Z x0 x1 x2 h0 n0 v U'.heap L ∧ FrameEnd U o U' L 0 0) := by
  refine MetFree.of_bodySF (plainFor_of_name pn_com_example_seshat_seshat_filter_FilterBlocksForPinLaw) hisR ?_
  intro p e s m args below meth c s₁ Bd hml0 hP hK
  obtain ⟨rfl, hZ, hh⟩ := hP
  have hx := Bd.exec
  have hby := Bd.bytes
  have hml : c.maxLocals = 10 := hml0
  have hown : s.vm.findClass "com/example/seshat/seshat/filter/FilterBlocksForPinLaw" = some m.cls := findClass_of_methodNamed Bd.named
  have hnm := (name_of_methodNamed Bd.named Bd.method).1
  have X0 : Stand p l e room_1 s m #[(.int x0), (.int x1), (.int x2)] below meth c s₁ [] 0 0 := Stand.of_body Bd
  have e0 : s₁.heap = h0 := by rw [← hh, Bd.state]; rfl
  have N0 := Fr.nil n0
  have pre0 : Go p e below (s₁.setTop (entryFrame m #[(.int x0), (.int x1), (.int x2)] maxLocals)) (s₁.setTop (mkF m 0 #[.val (.int x0), .val (.int x1), .val (.int x2), .unset, .unset, .unset, .unset, .unset, .unset, .unset] [])) := fun t k => castTop (ef_0 m x0 x1 x2) k
  have pre1 : Go p e below (s₁.setTop (entryFrame m #[(.int x0), (.int x1), (.int x2)] maxLocals)) (s₁.setTop (mkF m 3 #[.val (.int x0), .val (.int x1), .val (.int x2), .unset, .unset, .unset, .unset, .unset, .unset, .unset] [(.int (x2 &&& (3 : Int32)))])) := by
    intro t k
    refine pre0 t ?_
    show Steps p.tables e below (s₁.setTop (mkF m 0 #[.val (.int x0), .val (.int x1), .val (.int x2), .unset, .unset, .unset, .unset, .unset, .unset, .unset] [])) _
    refine XS.iloadN X0.here hx rfl (hb hby at_0) rfl ?_
    show Steps p.tables e below (s₁.setTop (mkF m 1 #[.val (.int x0), .val (.int x1), .val (.int x2), .unset, .unset, .unset, .unset, .unset, .unset, .unset] [(.int x2)])) _
    refine XS.iconst X0.here hx rfl (hb hby at_1) ?_
    show Steps p.tables e below (s₁.setTop (mkF m 2 #[.val (.int x0), .val (.int x1), .val (.int x2), .unset, .unset, .unset, .unset, .unset, .unset, .unset] [(.int (3 : Int32)), (.int x2)])) _
    refine XS.iand X0.here hx rfl (hb hby at_2) rfl ?_
    show Steps p.tables e below (s₁.setTop (mkF m 3 #[.val (.int x0), .val (.int x1), .val (.int x2), .unset, .unset, .unset, .unset, .unset, .unset, .unset] [(.int (x2 &&& (3 : Int32)))])) _
    exact k
  obtain ⟨md, h_md⟩ : ∃ z : Int32, z = (x2 &&& (3 : Int32)) := ⟨_, rfl⟩
  have pre2 : Go p e below (s₁.setTop (entryFrame m #[(.int x0), (.int x1), (.int x2)] maxLocals)) (s₁.setTop (mkF m 3 #[.val (.int x0), .val (.int x1), .val (.int x2), .unset, .unset, .unset, .unset, .unset, .unset, .unset] [(.int md)])) := by rw [h_md]; exact pre1
  have pre3 : Go p e below (s₁.setTop (entryFrame m #[(.int x0), (.int x1), (.int x2)] maxLocals)) (s₁.setTop (mkF m 5 #[.val (.int x0), .val (.int x1), .val (.int x2), .val (.int md), .unset, .unset, .unset, .unset, .unset, .unset] [(.int md)])) := by
    intro t k
    refine pre2 t ?_
    show Steps p.tables e below (s₁.setTop (mkF m 3 #[.val (.int x0), .val (.int x1), .val (.int x2), .unset, .unset, .unset, .unset, .unset, .unset, .unset] [(.int md)])) _
    refine XS.istoreN X0.here hx rfl (hb hby at_3) rfl (l' := #[.val (.int x0), .val (.int x1), .val (.int x2), .val (.int md), .unset, .unset, .unset, .unset, .unset, .unset]) rfl ?_
    show Steps p.tables e below (s₁.setTop (mkF m 4 #[.val (.int x0), .val (.int x1), .val (.int x2), .val (.int md), .unset, .unset, .unset, .unset, .unset, .unset] [])) _
    refine XS.iloadN X0.here hx rfl (hb hby at_4) rfl ?_
    show Steps p.tables e below (s₁.setTop (mkF m 5 #[.val (.int x0), .val (.int x1), .val (.int x2), .val (.int md), .unset, .unset, .unset, .unset, .unset, .unset] [(.int md)])) _
    exact k
  by_cases hc5_4 : md = (0 : Int32)
  · skip
    have pre5 : Go p e below (s₁.setTop (entryFrame m #[(.int x0), (.int x1), (.int x2)] maxLocals)) (s₁.setTop (mkF m 17 #[.val (.int x0), .val (.int x1), .val (.int x2), .val (.int md), .unset, .unset, .unset, .unset, .unset, .unset] [(.int (((x0 &&& (2147483647 : Int32)) % (100000000 : Int32)) + (1 : Int32)))])) := by
      intro t k
      refine pre3 t ?_
      show Steps p.tables e below (s₁.setTop (mkF m 5 #[.val (.int x0), .val (.int x1), .val (.int x2), .val (.int md), .unset, .unset, .unset, .unset, .unset, .unset] [(.int md)])) _
      refine XS.ifNo X0.here hx rfl (hb hby at_5) rfl (XT.i0_ne_f hc5_4) ?_
      show Steps p.tables e below (s₁.setTop (mkF m 8 #[.val (.int x0), .val (.int x1), .val (.int x2), .val (.int md), .unset, .unset, .unset, .unset, .unset, .unset] [])) _
      refine XS.iloadN X0.here hx rfl (hb hby at_8) rfl ?_
      show Steps p.tables e below (s₁.setTop (mkF m 9 #[.val (.int x0), .val (.int x1), .val (.int x2), .val (.int md), .unset, .unset, .unset, .unset, .unset, .unset] [(.int x0)])) _
      refine X0.ldcI hx hown (mvT hZ (hw _ (List.mem_of_getElem? (i := 0) rfl))) (g := (mkF m 9 #[.val (.int x0), .val (.int x1), .val (.int x2), .val (.int md), .unset, .unset, .unset, .unset, .unset, .unset] [(.int x0)])) rfl (hb hby at_9) ?_
      show Steps p.tables e below (s₁.setTop (mkF m 11 #[.val (.int x0), .val (.int x1), .val (.int x2), .val (.int md), .unset, .unset, .unset, .unset, .unset, .unset] [(.int (2147483647 : Int32)), (.int x0)])) _
      refine XS.iand X0.here hx rfl (hb hby at_11) rfl ?_
      show Steps p.tables e below (s₁.setTop (mkF m 12 #[.val (.int x0), .val (.int x1), .val (.int x2), .val (.int md), .unset, .unset, .unset, .unset, .unset, .unset] [(.int (x0 &&& (2147483647 : Int32)))])) _
      refine X0.ldcI hx hown (mvT hZ (hw _ (List.mem_of_getElem? (i := 2) rfl))) (g := (mkF m 12 #[.val (.int x0), .val (.int x1), .val (.int x2), .val (.int md), .unset, .unset, .unset, .unset, .unset, .unset] [(.int (x0 &&& (2147483647 : Int32)))])) rfl (hb hby at_12) ?_
      show Steps p.tables e below (s₁.setTop (mkF m 14 #[.val (.int x0), .val (.int x1), .val (.int x2), .val (.int md), .unset, .unset, .unset, .unset, .unset, .unset] [(.int (100000000 : Int32)), (.int (x0 &&& (2147483647 : Int32)))])) _
      refine own_irem X0.here hx rfl (hb hby at_14) rfl (by decide) ?_
      show Steps p.tables e below (s₁.setTop (mkF m 15 #[.val (.int x0), .val (.int x1), .val (.int x2), .val (.int md), .unset, .unset, .unset, .unset, .unset, .unset] [(.int ((x0 &&& (2147483647 : Int32)) % (100000000 : Int32)))])) _
      refine XS.iconst X0.here hx rfl (hb hby at_15) ?_
      show Steps p.tables e below (s₁.setTop (mkF m 16 #[.val (.int x0), .val (.int x1), .val (.int x2), .val (.int md), .unset, .unset, .unset, .unset, .unset, .unset] [(.int (1 : Int32)), (.int ((x0 &&& (2147483647 : Int32)) % (100000000 : Int32)))])) _
      refine XS.iadd X0.here hx rfl (hb hby at_16) rfl ?_
      show Steps p.tables e below (s₁.setTop (mkF m 17 #[.val (.int x0), .val (.int x1), .val (.int x2), .val (.int md), .unset, .unset, .unset, .unset, .unset, .unset] [(.int (((x0 &&& (2147483647 : Int32)) % (100000000 : Int32)) + (1 : Int32)))])) _
      exact k
    obtain ⟨cc, h_cc⟩ : ∃ z : Int32, z = (((x0 &&& (2147483647 : Int32)) % (100000000 : Int32)) + (1 : Int32)) := ⟨_, rfl⟩
    have pre6 : Go p e below (s₁.setTop (entryFrame m #[(.int x0), (.int x1), (.int x2)] maxLocals)) (s₁.setTop (mkF m 17 #[.val (.int x0), .val (.int x1), .val (.int x2), .val (.int md), .unset, .unset, .unset, .unset, .unset, .unset] [(.int cc)])) := by rw [h_cc]; exact pre5
    have pre7 : Go p e below (s₁.setTop (entryFrame m #[(.int x0), (.int x1), (.int x2)] maxLocals)) (s₁.setTop (mkF m 58 #[.val (.int x0), .val (.int x1), .val (.int x2), .val (.int md), .val (.int cc), .unset, .unset, .unset, .unset, .unset] [(.int cc)])) := by
      intro t k
      refine pre6 t ?_
      show Steps p.tables e below (s₁.setTop (mkF m 17 #[.val (.int x0), .val (.int x1), .val (.int x2), .val (.int md), .unset, .unset, .unset, .unset, .unset, .unset] [(.int cc)])) _
      refine XS.istore X0.here hx rfl (hb hby at_17) rfl (l' := #[.val (.int x0), .val (.int x1), .val (.int x2), .val (.int md), .val (.int cc), .unset, .unset, .unset, .unset, .unset]) rfl ?_
      show Steps p.tables e below (s₁.setTop (mkF m 19 #[.val (.int x0), .val (.int x1), .val (.int x2), .val (.int md), .val (.int cc), .unset, .unset, .unset, .unset, .unset] [])) _
      refine XS.goto X0.here hx rfl (pc0 := 19) (pc' := 56) rfl (hb hby at_19) (by decide) (by decide) ?_
      show Steps p.tables e below (s₁.setTop (mkF m 56 #[.val (.int x0), .val (.int x1), .val (.int x2), .val (.int md), .val (.int cc), .unset, .unset, .unset, .unset, .unset] [])) _
      refine XS.iload X0.here hx rfl (hb hby at_56) rfl ?_
      show Steps p.tables e below (s₁.setTop (mkF m 58 #[.val (.int x0), .val (.int x1), .val (.int x2), .val (.int md), .val (.int cc), .unset, .unset, .unset, .unset, .unset] [(.int cc)])) _
      exact k
    have hcb : 1 ≤ cc.toInt ∧ cc.toInt ≤ 100000000 := by first | exact own_c0 h_cc | exact own_c1 h_kk h_md (by assumption) h_cm h_cc rfl
    obtain ⟨_, _, ⟨T8, L8, k8, n8⟩, -, X8, ⟨Lc8, hQ8, l8, y8, z8⟩, st8⟩ := Jvm.LawKit.callS X0 hx (y := (⟨"com/example/seshat/seshat/filter/Filter", "blocksFor", "(I)I"⟩ : MethodName)) hown (mvT hZ (hw _ (List.mem_of_getElem? (i := 3) rfl))) (mvT hZ (hw _ (List.mem_of_getElem? (i := 4) rfl))) (mvT hZ (hw _ (List.mem_of_getElem? (i := 5) rfl))) (mvT hZ (hw _ (List.mem_of_getElem? (i := 6) rfl))) (by decide) (backOf (W := 0) (rm1 l Z a0 hw [] cc  h0 n0 Z0 ) hZ (hw _ (List.mem_of_getElem? (i := 6) rfl)) (hw _ (List.mem_of_getElem? (i := 5) rfl)) (by decide) (by decide)) (g := (mkF m 58 #[.val (.int x0), .val (.int x1), .val (.int x2), .val (.int md), .val (.int cc), .unset, .unset, .unset, .unset, .unset] [(.int cc)])) rfl (by rw [hml]; rfl) (argsL := [(.int cc)]) (rest := []) (lenOf pd_1 rfl) rfl (by show 2 * 0 + _ ≤ _; exact Nat.le_of_eq rfl) (hb hby at_58) (fun _ _ => ⟨rfl, e0, (by decide : 0 + 0 ≤ _), (by decide : 0 + 0 ≤ _)⟩)
    dsimp only [Pt.U, Pt.locs, Pt.cells, Pt.slots] at X8 l8 y8 z8 st8 hQ8
    subst l8 y8 z8
    obtain ⟨rfl, N8q, hh8⟩ := hQ8
    have N8 := Fr.app N0 N8q
    have pre9 : Go p e below (s₁.setTop (entryFrame m #[(.int x0), (.int x1), (.int x2)] maxLocals)) (T8.setTop (mkF m 61 #[.val (.int x0), .val (.int x1), .val (.int x2), .val (.int md), .val (.int cc), .unset, .unset, .unset, .unset, .unset] [(.int (f1 cc))])) := fun t k => pre7 t (st8 t k)
    obtain ⟨bb, h_bb⟩ : ∃ z : Int32, z = (f1 cc) := ⟨_, rfl⟩
    have pre10 : Go p e below (s₁.setTop (entryFrame m #[(.int x0), (.int x1), (.int x2)] maxLocals)) (T8.setTop (mkF m 61 #[.val (.int x0), .val (.int x1), .val (.int x2), .val (.int md), .val (.int cc), .unset, .unset, .unset, .unset, .unset] [(.int bb)])) := by rw [h_bb]; exact pre9
    have hbb := own_b hcb h_bb
    have pre11 : Go p e below (s₁.setTop (entryFrame m #[(.int x0), (.int x1), (.int x2)] maxLocals)) (T8.setTop (mkF m 72 #[.val (.int x0), .val (.int x1), .val (.int x2), .val (.int md), .val (.int cc), .val (.int bb), .unset, .unset, .unset, .unset] [(.long ((((bb).toInt64) - (1 : Int64)) * (800 : Int64)))])) := by
      intro t k
      refine pre10 t ?_
      show Steps p.tables e below (T8.setTop (mkF m 61 #[.val (.int x0), .val (.int x1), .val (.int x2), .val (.int md), .val (.int cc), .unset, .unset, .unset, .unset, .unset] [(.int bb)])) _
      refine XS.istore X8.here hx rfl (hb hby at_61) rfl (l' := #[.val (.int x0), .val (.int x1), .val (.int x2), .val (.int md), .val (.int cc), .val (.int bb), .unset, .unset, .unset, .unset]) rfl ?_
      show Steps p.tables e below (T8.setTop (mkF m 63 #[.val (.int x0), .val (.int x1), .val (.int x2), .val (.int md), .val (.int cc), .val (.int bb), .unset, .unset, .unset, .unset] [])) _
      refine XS.iload X8.here hx rfl (hb hby at_63) rfl ?_
      show Steps p.tables e below (T8.setTop (mkF m 65 #[.val (.int x0), .val (.int x1), .val (.int x2), .val (.int md), .val (.int cc), .val (.int bb), .unset, .unset, .unset, .unset] [(.int bb)])) _
      refine XS.i2l X8.here hx rfl (hb hby at_65) rfl ?_
      show Steps p.tables e below (T8.setTop (mkF m 66 #[.val (.int x0), .val (.int x1), .val (.int x2), .val (.int md), .val (.int cc), .val (.int bb), .unset, .unset, .unset, .unset] [(.long ((bb).toInt64))])) _
      refine XT.lconstV X8.here hx rfl (1 : Int64) (hb hby at_66) rfl ?_
      show Steps p.tables e below (T8.setTop (mkF m 67 #[.val (.int x0), .val (.int x1), .val (.int x2), .val (.int md), .val (.int cc), .val (.int bb), .unset, .unset, .unset, .unset] [(.long (1 : Int64)), (.long ((bb).toInt64))])) _
      refine XS.lsub X8.here hx rfl (hb hby at_67) rfl ?_
      show Steps p.tables e below (T8.setTop (mkF m 68 #[.val (.int x0), .val (.int x1), .val (.int x2), .val (.int md), .val (.int cc), .val (.int bb), .unset, .unset, .unset, .unset] [(.long (((bb).toInt64) - (1 : Int64)))])) _
      refine X8.ldc2J hx hown (mvT hZ (hw _ (List.mem_of_getElem? (i := 7) rfl))) (g := (mkF m 68 #[.val (.int x0), .val (.int x1), .val (.int x2), .val (.int md), .val (.int cc), .val (.int bb), .unset, .unset, .unset, .unset] [(.long (((bb).toInt64) - (1 : Int64)))])) rfl (hb hby at_68) ?_
      show Steps p.tables e below (T8.setTop (mkF m 71 #[.val (.int x0), .val (.int x1), .val (.int x2), .val (.int md), .val (.int cc), .val (.int bb), .unset, .unset, .unset, .unset] [(.long (800 : Int64)), (.long (((bb).toInt64) - (1 : Int64)))])) _
      refine XS.lmul X8.here hx rfl (hb hby at_71) rfl ?_
      show Steps p.tables e below (T8.setTop (mkF m 72 #[.val (.int x0), .val (.int x1), .val (.int x2), .val (.int md), .val (.int cc), .val (.int bb), .unset, .unset, .unset, .unset] [(.long ((((bb).toInt64) - (1 : Int64)) * (800 : Int64)))])) _
      exact k
    obtain ⟨lo, h_lo⟩ : ∃ z : Int64, z = ((((bb).toInt64) - (1 : Int64)) * (800 : Int64)) := ⟨_, rfl⟩
    have pre12 : Go p e below (s₁.setTop (entryFrame m #[(.int x0), (.int x1), (.int x2)] maxLocals)) (T8.setTop (mkF m 72 #[.val (.int x0), .val (.int x1), .val (.int x2), .val (.int md), .val (.int cc), .val (.int bb), .unset, .unset, .unset, .unset] [(.long lo)])) := by rw [h_lo]; exact pre11
    have hlo := own_lo ⟨by omega, by omega⟩ h_lo
    have pre13 : Go p e below (s₁.setTop (entryFrame m #[(.int x0), (.int x1), (.int x2)] maxLocals)) (T8.setTop (mkF m 81 #[.val (.int x0), .val (.int x1), .val (.int x2), .val (.int md), .val (.int cc), .val (.int bb), .val (.long lo), .second, .unset, .unset] [(.long (((bb).toInt64) * (800 : Int64)))])) := by
      intro t k
      refine pre12 t ?_
      show Steps p.tables e below (T8.setTop (mkF m 72 #[.val (.int x0), .val (.int x1), .val (.int x2), .val (.int md), .val (.int cc), .val (.int bb), .unset, .unset, .unset, .unset] [(.long lo)])) _
      refine XT.lstore X8.here hx rfl (hb hby at_72) rfl (l' := #[.val (.int x0), .val (.int x1), .val (.int x2), .val (.int md), .val (.int cc), .val (.int bb), .val (.long lo), .second, .unset, .unset]) rfl ?_
      show Steps p.tables e below (T8.setTop (mkF m 74 #[.val (.int x0), .val (.int x1), .val (.int x2), .val (.int md), .val (.int cc), .val (.int bb), .val (.long lo), .second, .unset, .unset] [])) _
      refine XS.iload X8.here hx rfl (hb hby at_74) rfl ?_
      show Steps p.tables e below (T8.setTop (mkF m 76 #[.val (.int x0), .val (.int x1), .val (.int x2), .val (.int md), .val (.int cc), .val (.int bb), .val (.long lo), .second, .unset, .unset] [(.int bb)])) _
      refine XS.i2l X8.here hx rfl (hb hby at_76) rfl ?_
      show Steps p.tables e below (T8.setTop (mkF m 77 #[.val (.int x0), .val (.int x1), .val (.int x2), .val (.int md), .val (.int cc), .val (.int bb), .val (.long lo), .second, .unset, .unset] [(.long ((bb).toInt64))])) _
      refine X8.ldc2J hx hown (mvT hZ (hw _ (List.mem_of_getElem? (i := 7) rfl))) (g := (mkF m 77 #[.val (.int x0), .val (.int x1), .val (.int x2), .val (.int md), .val (.int cc), .val (.int bb), .val (.long lo), .second, .unset, .unset] [(.long ((bb).toInt64))])) rfl (hb hby at_77) ?_
      show Steps p.tables e below (T8.setTop (mkF m 80 #[.val (.int x0), .val (.int x1), .val (.int x2), .val (.int md), .val (.int cc), .val (.int bb), .val (.long lo), .second, .unset, .unset] [(.long (800 : Int64)), (.long ((bb).toInt64))])) _
      refine XS.lmul X8.here hx rfl (hb hby at_80) rfl ?_
      show Steps p.tables e below (T8.setTop (mkF m 81 #[.val (.int x0), .val (.int x1), .val (.int x2), .val (.int md), .val (.int cc), .val (.int bb), .val (.long lo), .second, .unset, .unset] [(.long (((bb).toInt64) * (800 : Int64)))])) _
      exact k
    obtain ⟨hi, h_hi⟩ : ∃ z : Int64, z = (((bb).toInt64) * (800 : Int64)) := ⟨_, rfl⟩
    have pre14 : Go p e below (s₁.setTop (entryFrame m #[(.int x0), (.int x1), (.int x2)] maxLocals)) (T8.setTop (mkF m 81 #[.val (.int x0), .val (.int x1), .val (.int x2), .val (.int md), .val (.int cc), .val (.int bb), .val (.long lo), .second, .unset, .unset] [(.long hi)])) := by rw [h_hi]; exact pre13
    have hhi := own_hi ⟨by omega, by omega⟩ h_hi
    have pre15 : Go p e below (s₁.setTop (entryFrame m #[(.int x0), (.int x1), (.int x2)] maxLocals)) (T8.setTop (mkF m 86 #[.val (.int x0), .val (.int x1), .val (.int x2), .val (.int md), .val (.int cc), .val (.int bb), .val (.long lo), .second, .val (.long hi), .second] [(.int (1 : Int32)), (.int bb)])) := by
      intro t k
      refine pre14 t ?_
      show Steps p.tables e below (T8.setTop (mkF m 81 #[.val (.int x0), .val (.int x1), .val (.int x2), .val (.int md), .val (.int cc), .val (.int bb), .val (.long lo), .second, .unset, .unset] [(.long hi)])) _
      refine XT.lstore X8.here hx rfl (hb hby at_81) rfl (l' := #[.val (.int x0), .val (.int x1), .val (.int x2), .val (.int md), .val (.int cc), .val (.int bb), .val (.long lo), .second, .val (.long hi), .second]) rfl ?_
      show Steps p.tables e below (T8.setTop (mkF m 83 #[.val (.int x0), .val (.int x1), .val (.int x2), .val (.int md), .val (.int cc), .val (.int bb), .val (.long lo), .second, .val (.long hi), .second] [])) _
      refine XS.iload X8.here hx rfl (hb hby at_83) rfl ?_
      show Steps p.tables e below (T8.setTop (mkF m 85 #[.val (.int x0), .val (.int x1), .val (.int x2), .val (.int md), .val (.int cc), .val (.int bb), .val (.long lo), .second, .val (.long hi), .second] [(.int bb)])) _
      refine XS.iconst X8.here hx rfl (hb hby at_85) ?_
      show Steps p.tables e below (T8.setTop (mkF m 86 #[.val (.int x0), .val (.int x1), .val (.int x2), .val (.int md), .val (.int cc), .val (.int bb), .val (.long lo), .second, .val (.long hi), .second] [(.int (1 : Int32)), (.int bb)])) _
      exact k
    have hc86_16 : ¬ (bb < (1 : Int32)) := by
      rw [Int32.lt_iff_toInt_lt]; have c1 : (1 : Int32).toInt = 1 := rfl; have c2 : (125000 : Int32).toInt = 125000 := rfl; have c3 := Int32.toInt_toInt64 cc; omega
    have pre17 : Go p e below (s₁.setTop (entryFrame m #[(.int x0), (.int x1), (.int x2)] maxLocals)) (T8.setTop (mkF m 93 #[.val (.int x0), .val (.int x1), .val (.int x2), .val (.int md), .val (.int cc), .val (.int bb), .val (.long lo), .second, .val (.long hi), .second] [(.int (125000 : Int32)), (.int bb)])) := by
      intro t k
      refine pre15 t ?_
      show Steps p.tables e below (T8.setTop (mkF m 86 #[.val (.int x0), .val (.int x1), .val (.int x2), .val (.int md), .val (.int cc), .val (.int bb), .val (.long lo), .second, .val (.long hi), .second] [(.int (1 : Int32)), (.int bb)])) _
      refine XS.icmpNo X8.here hx rfl (hb hby at_86) rfl (XT.ii_lt_f hc86_16) ?_
      show Steps p.tables e below (T8.setTop (mkF m 89 #[.val (.int x0), .val (.int x1), .val (.int x2), .val (.int md), .val (.int cc), .val (.int bb), .val (.long lo), .second, .val (.long hi), .second] [])) _
      refine XS.iload X8.here hx rfl (hb hby at_89) rfl ?_
      show Steps p.tables e below (T8.setTop (mkF m 91 #[.val (.int x0), .val (.int x1), .val (.int x2), .val (.int md), .val (.int cc), .val (.int bb), .val (.long lo), .second, .val (.long hi), .second] [(.int bb)])) _
      refine X8.ldcI hx hown (mvT hZ (hw _ (List.mem_of_getElem? (i := 1) rfl))) (g := (mkF m 91 #[.val (.int x0), .val (.int x1), .val (.int x2), .val (.int md), .val (.int cc), .val (.int bb), .val (.long lo), .second, .val (.long hi), .second] [(.int bb)])) rfl (hb hby at_91) ?_
      show Steps p.tables e below (T8.setTop (mkF m 93 #[.val (.int x0), .val (.int x1), .val (.int x2), .val (.int md), .val (.int cc), .val (.int bb), .val (.long lo), .second, .val (.long hi), .second] [(.int (125000 : Int32)), (.int bb)])) _
      exact k
    have hc93_18 : ¬ ((125000 : Int32) < bb) := by
      rw [Int32.lt_iff_toInt_lt]; have c1 : (1 : Int32).toInt = 1 := rfl; have c2 : (125000 : Int32).toInt = 125000 := rfl; have c3 := Int32.toInt_toInt64 cc; omega
    have pre19 : Go p e below (s₁.setTop (entryFrame m #[(.int x0), (.int x1), (.int x2)] maxLocals)) (T8.setTop (mkF m 102 #[.val (.int x0), .val (.int x1), .val (.int x2), .val (.int md), .val (.int cc), .val (.int bb), .val (.long lo), .second, .val (.long hi), .second] [(.int (XT.cmpL lo ((cc).toInt64)))])) := by
      intro t k
      refine pre17 t ?_
      show Steps p.tables e below (T8.setTop (mkF m 93 #[.val (.int x0), .val (.int x1), .val (.int x2), .val (.int md), .val (.int cc), .val (.int bb), .val (.long lo), .second, .val (.long hi), .second] [(.int (125000 : Int32)), (.int bb)])) _
      refine XS.icmpNo X8.here hx rfl (hb hby at_93) rfl (XT.ii_gt_f hc93_18) ?_
      show Steps p.tables e below (T8.setTop (mkF m 96 #[.val (.int x0), .val (.int x1), .val (.int x2), .val (.int md), .val (.int cc), .val (.int bb), .val (.long lo), .second, .val (.long hi), .second] [])) _
      refine XT.lload X8.here hx rfl (hb hby at_96) rfl ?_
      show Steps p.tables e below (T8.setTop (mkF m 98 #[.val (.int x0), .val (.int x1), .val (.int x2), .val (.int md), .val (.int cc), .val (.int bb), .val (.long lo), .second, .val (.long hi), .second] [(.long lo)])) _
      refine XS.iload X8.here hx rfl (hb hby at_98) rfl ?_
      show Steps p.tables e below (T8.setTop (mkF m 100 #[.val (.int x0), .val (.int x1), .val (.int x2), .val (.int md), .val (.int cc), .val (.int bb), .val (.long lo), .second, .val (.long hi), .second] [(.int cc), (.long lo)])) _
      refine XS.i2l X8.here hx rfl (hb hby at_100) rfl ?_
      show Steps p.tables e below (T8.setTop (mkF m 101 #[.val (.int x0), .val (.int x1), .val (.int x2), .val (.int md), .val (.int cc), .val (.int bb), .val (.long lo), .second, .val (.long hi), .second] [(.long ((cc).toInt64)), (.long lo)])) _
      refine XT.lcmp X8.here hx rfl (hb hby at_101) rfl ?_
      show Steps p.tables e below (T8.setTop (mkF m 102 #[.val (.int x0), .val (.int x1), .val (.int x2), .val (.int md), .val (.int cc), .val (.int bb), .val (.long lo), .second, .val (.long hi), .second] [(.int (XT.cmpL lo ((cc).toInt64)))])) _
      exact k
    have hc102_20 : lo < ((cc).toInt64) := by
      rw [Int64.lt_iff_toInt_lt]; have c1 : (1 : Int32).toInt = 1 := rfl; have c2 : (125000 : Int32).toInt = 125000 := rfl; have c3 := Int32.toInt_toInt64 cc; omega
    have pre21 : Go p e below (s₁.setTop (entryFrame m #[(.int x0), (.int x1), (.int x2)] maxLocals)) (T8.setTop (mkF m 111 #[.val (.int x0), .val (.int x1), .val (.int x2), .val (.int md), .val (.int cc), .val (.int bb), .val (.long lo), .second, .val (.long hi), .second] [(.int (XT.cmpL ((cc).toInt64) hi))])) := by
      intro t k
      refine pre19 t ?_
      show Steps p.tables e below (T8.setTop (mkF m 102 #[.val (.int x0), .val (.int x1), .val (.int x2), .val (.int md), .val (.int cc), .val (.int bb), .val (.long lo), .second, .val (.long hi), .second] [(.int (XT.cmpL lo ((cc).toInt64)))])) _
      refine XS.ifNo X8.here hx rfl (hb hby at_102) rfl (XT.ll_ge_f hc102_20) ?_
      show Steps p.tables e below (T8.setTop (mkF m 105 #[.val (.int x0), .val (.int x1), .val (.int x2), .val (.int md), .val (.int cc), .val (.int bb), .val (.long lo), .second, .val (.long hi), .second] [])) _
      refine XS.iload X8.here hx rfl (hb hby at_105) rfl ?_
      show Steps p.tables e below (T8.setTop (mkF m 107 #[.val (.int x0), .val (.int x1), .val (.int x2), .val (.int md), .val (.int cc), .val (.int bb), .val (.long lo), .second, .val (.long hi), .second] [(.int cc)])) _
      refine XS.i2l X8.here hx rfl (hb hby at_107) rfl ?_
      show Steps p.tables e below (T8.setTop (mkF m 108 #[.val (.int x0), .val (.int x1), .val (.int x2), .val (.int md), .val (.int cc), .val (.int bb), .val (.long lo), .second, .val (.long hi), .second] [(.long ((cc).toInt64))])) _
      refine XT.lload X8.here hx rfl (hb hby at_108) rfl ?_
      show Steps p.tables e below (T8.setTop (mkF m 110 #[.val (.int x0), .val (.int x1), .val (.int x2), .val (.int md), .val (.int cc), .val (.int bb), .val (.long lo), .second, .val (.long hi), .second] [(.long hi), (.long ((cc).toInt64))])) _
      refine XT.lcmp X8.here hx rfl (hb hby at_110) rfl ?_
      show Steps p.tables e below (T8.setTop (mkF m 111 #[.val (.int x0), .val (.int x1), .val (.int x2), .val (.int md), .val (.int cc), .val (.int bb), .val (.long lo), .second, .val (.long hi), .second] [(.int (XT.cmpL ((cc).toInt64) hi))])) _
      exact k
    have hc111_22 : ¬ (hi < ((cc).toInt64)) := by
      rw [Int64.lt_iff_toInt_lt]; have c1 : (1 : Int32).toInt = 1 := rfl; have c2 : (125000 : Int32).toInt = 125000 := rfl; have c3 := Int32.toInt_toInt64 cc; omega
    have pre23 : Go p e below (s₁.setTop (entryFrame m #[(.int x0), (.int x1), (.int x2)] maxLocals)) (T8.setTop (mkF m 119 #[.val (.int x0), .val (.int x1), .val (.int x2), .val (.int md), .val (.int cc), .val (.int bb), .val (.long lo), .second, .val (.long hi), .second] [(.int (1 : Int32))])) := by
      intro t k
      refine pre21 t ?_
      show Steps p.tables e below (T8.setTop (mkF m 111 #[.val (.int x0), .val (.int x1), .val (.int x2), .val (.int md), .val (.int cc), .val (.int bb), .val (.long lo), .second, .val (.long hi), .second] [(.int (XT.cmpL ((cc).toInt64) hi))])) _
      refine XS.ifNo X8.here hx rfl (hb hby at_111) rfl (XT.ll_gt_f hc111_22) ?_
      show Steps p.tables e below (T8.setTop (mkF m 114 #[.val (.int x0), .val (.int x1), .val (.int x2), .val (.int md), .val (.int cc), .val (.int bb), .val (.long lo), .second, .val (.long hi), .second] [])) _
      refine XS.iconst X8.here hx rfl (hb hby at_114) ?_
      show Steps p.tables e below (T8.setTop (mkF m 115 #[.val (.int x0), .val (.int x1), .val (.int x2), .val (.int md), .val (.int cc), .val (.int bb), .val (.long lo), .second, .val (.long hi), .second] [(.int (1 : Int32))])) _
      refine XS.goto X8.here hx rfl (pc0 := 115) (pc' := 119) rfl (hb hby at_115) (by decide) (by decide) ?_
      show Steps p.tables e below (T8.setTop (mkF m 119 #[.val (.int x0), .val (.int x1), .val (.int x2), .val (.int md), .val (.int cc), .val (.int bb), .val (.long lo), .second, .val (.long hi), .second] [(.int (1 : Int32))])) _
      exact k
    obtain ⟨fs, hr, hrun, hended, hW, hsame⟩ := X8.leave (v := some (.int (1 : Int32))) (fun h => by rw [Bd.returns] at h; cases h)
    refine ⟨_, _, pre23 _ (retN X8 hx (t := .boolean) Bd.returns (by simp) (hb hby at_119) hr), hrun, hended, _, _, rfl, ?_, ⟨_, rfl⟩, hW, hsame.mono (by decide) (by decide)⟩
    show Q0 Z x0 x1 x2 h0 n0 _ T8.heap _
    rw [hh8]
    exact ⟨rfl, N8⟩
  · skip
    have pre24 : Go p e below (s₁.setTop (entryFrame m #[(.int x0), (.int x1), (.int x2)] maxLocals)) (s₁.setTop (mkF m 31 #[.val (.int x0), .val (.int x1), .val (.int x2), .val (.int md), .unset, .unset, .unset, .unset, .unset, .unset] [(.int (((x1 &&& (2147483647 : Int32)) % (125000 : Int32)) + (1 : Int32)))])) := by
      intro t k
      refine pre3 t ?_
      show Steps p.tables e below (s₁.setTop (mkF m 5 #[.val (.int x0), .val (.int x1), .val (.int x2), .val (.int md), .unset, .unset, .unset, .unset, .unset, .unset] [(.int md)])) _
      refine XS.ifYes X0.here hx rfl (pc0 := 5) (pc' := 22) rfl (hb hby at_5) rfl (XT.i0_ne_t hc5_4) (by decide) (by decide) ?_
      show Steps p.tables e below (s₁.setTop (mkF m 22 #[.val (.int x0), .val (.int x1), .val (.int x2), .val (.int md), .unset, .unset, .unset, .unset, .unset, .unset] [])) _
      refine XS.iloadN X0.here hx rfl (hb hby at_22) rfl ?_
      show Steps p.tables e below (s₁.setTop (mkF m 23 #[.val (.int x0), .val (.int x1), .val (.int x2), .val (.int md), .unset, .unset, .unset, .unset, .unset, .unset] [(.int x1)])) _
      refine X0.ldcI hx hown (mvT hZ (hw _ (List.mem_of_getElem? (i := 0) rfl))) (g := (mkF m 23 #[.val (.int x0), .val (.int x1), .val (.int x2), .val (.int md), .unset, .unset, .unset, .unset, .unset, .unset] [(.int x1)])) rfl (hb hby at_23) ?_
      show Steps p.tables e below (s₁.setTop (mkF m 25 #[.val (.int x0), .val (.int x1), .val (.int x2), .val (.int md), .unset, .unset, .unset, .unset, .unset, .unset] [(.int (2147483647 : Int32)), (.int x1)])) _
      refine XS.iand X0.here hx rfl (hb hby at_25) rfl ?_
      show Steps p.tables e below (s₁.setTop (mkF m 26 #[.val (.int x0), .val (.int x1), .val (.int x2), .val (.int md), .unset, .unset, .unset, .unset, .unset, .unset] [(.int (x1 &&& (2147483647 : Int32)))])) _
      refine X0.ldcI hx hown (mvT hZ (hw _ (List.mem_of_getElem? (i := 1) rfl))) (g := (mkF m 26 #[.val (.int x0), .val (.int x1), .val (.int x2), .val (.int md), .unset, .unset, .unset, .unset, .unset, .unset] [(.int (x1 &&& (2147483647 : Int32)))])) rfl (hb hby at_26) ?_
      show Steps p.tables e below (s₁.setTop (mkF m 28 #[.val (.int x0), .val (.int x1), .val (.int x2), .val (.int md), .unset, .unset, .unset, .unset, .unset, .unset] [(.int (125000 : Int32)), (.int (x1 &&& (2147483647 : Int32)))])) _
      refine own_irem X0.here hx rfl (hb hby at_28) rfl (by decide) ?_
      show Steps p.tables e below (s₁.setTop (mkF m 29 #[.val (.int x0), .val (.int x1), .val (.int x2), .val (.int md), .unset, .unset, .unset, .unset, .unset, .unset] [(.int ((x1 &&& (2147483647 : Int32)) % (125000 : Int32)))])) _
      refine XS.iconst X0.here hx rfl (hb hby at_29) ?_
      show Steps p.tables e below (s₁.setTop (mkF m 30 #[.val (.int x0), .val (.int x1), .val (.int x2), .val (.int md), .unset, .unset, .unset, .unset, .unset, .unset] [(.int (1 : Int32)), (.int ((x1 &&& (2147483647 : Int32)) % (125000 : Int32)))])) _
      refine XS.iadd X0.here hx rfl (hb hby at_30) rfl ?_
      show Steps p.tables e below (s₁.setTop (mkF m 31 #[.val (.int x0), .val (.int x1), .val (.int x2), .val (.int md), .unset, .unset, .unset, .unset, .unset, .unset] [(.int (((x1 &&& (2147483647 : Int32)) % (125000 : Int32)) + (1 : Int32)))])) _
      exact k
    obtain ⟨kk, h_kk⟩ : ∃ z : Int32, z = (((x1 &&& (2147483647 : Int32)) % (125000 : Int32)) + (1 : Int32)) := ⟨_, rfl⟩
    have pre25 : Go p e below (s₁.setTop (entryFrame m #[(.int x0), (.int x1), (.int x2)] maxLocals)) (s₁.setTop (mkF m 31 #[.val (.int x0), .val (.int x1), .val (.int x2), .val (.int md), .unset, .unset, .unset, .unset, .unset, .unset] [(.int kk)])) := by rw [h_kk]; exact pre24
    have pre26 : Go p e below (s₁.setTop (entryFrame m #[(.int x0), (.int x1), (.int x2)] maxLocals)) (s₁.setTop (mkF m 43 #[.val (.int x0), .val (.int x1), .val (.int x2), .val (.int md), .unset, .val (.int kk), .unset, .unset, .unset, .unset] [(.int ((kk * (800 : Int32)) + (md - (2 : Int32))))])) := by
      intro t k
      refine pre25 t ?_
      show Steps p.tables e below (s₁.setTop (mkF m 31 #[.val (.int x0), .val (.int x1), .val (.int x2), .val (.int md), .unset, .unset, .unset, .unset, .unset, .unset] [(.int kk)])) _
      refine XS.istore X0.here hx rfl (hb hby at_31) rfl (l' := #[.val (.int x0), .val (.int x1), .val (.int x2), .val (.int md), .unset, .val (.int kk), .unset, .unset, .unset, .unset]) rfl ?_
      show Steps p.tables e below (s₁.setTop (mkF m 33 #[.val (.int x0), .val (.int x1), .val (.int x2), .val (.int md), .unset, .val (.int kk), .unset, .unset, .unset, .unset] [])) _
      refine XS.iload X0.here hx rfl (hb hby at_33) rfl ?_
      show Steps p.tables e below (s₁.setTop (mkF m 35 #[.val (.int x0), .val (.int x1), .val (.int x2), .val (.int md), .unset, .val (.int kk), .unset, .unset, .unset, .unset] [(.int kk)])) _
      refine XS.sipush X0.here hx rfl (hb hby at_35) ?_
      show Steps p.tables e below (s₁.setTop (mkF m 38 #[.val (.int x0), .val (.int x1), .val (.int x2), .val (.int md), .unset, .val (.int kk), .unset, .unset, .unset, .unset] [(.int (800 : Int32)), (.int kk)])) _
      refine XS.imul X0.here hx rfl (hb hby at_38) rfl ?_
      show Steps p.tables e below (s₁.setTop (mkF m 39 #[.val (.int x0), .val (.int x1), .val (.int x2), .val (.int md), .unset, .val (.int kk), .unset, .unset, .unset, .unset] [(.int (kk * (800 : Int32)))])) _
      refine XS.iloadN X0.here hx rfl (hb hby at_39) rfl ?_
      show Steps p.tables e below (s₁.setTop (mkF m 40 #[.val (.int x0), .val (.int x1), .val (.int x2), .val (.int md), .unset, .val (.int kk), .unset, .unset, .unset, .unset] [(.int md), (.int (kk * (800 : Int32)))])) _
      refine XS.iconst X0.here hx rfl (hb hby at_40) ?_
      show Steps p.tables e below (s₁.setTop (mkF m 41 #[.val (.int x0), .val (.int x1), .val (.int x2), .val (.int md), .unset, .val (.int kk), .unset, .unset, .unset, .unset] [(.int (2 : Int32)), (.int md), (.int (kk * (800 : Int32)))])) _
      refine XS.isub X0.here hx rfl (hb hby at_41) rfl ?_
      show Steps p.tables e below (s₁.setTop (mkF m 42 #[.val (.int x0), .val (.int x1), .val (.int x2), .val (.int md), .unset, .val (.int kk), .unset, .unset, .unset, .unset] [(.int (md - (2 : Int32))), (.int (kk * (800 : Int32)))])) _
      refine XS.iadd X0.here hx rfl (hb hby at_42) rfl ?_
      show Steps p.tables e below (s₁.setTop (mkF m 43 #[.val (.int x0), .val (.int x1), .val (.int x2), .val (.int md), .unset, .val (.int kk), .unset, .unset, .unset, .unset] [(.int ((kk * (800 : Int32)) + (md - (2 : Int32))))])) _
      exact k
    obtain ⟨cm, h_cm⟩ : ∃ z : Int32, z = ((kk * (800 : Int32)) + (md - (2 : Int32))) := ⟨_, rfl⟩
    have pre27 : Go p e below (s₁.setTop (entryFrame m #[(.int x0), (.int x1), (.int x2)] maxLocals)) (s₁.setTop (mkF m 43 #[.val (.int x0), .val (.int x1), .val (.int x2), .val (.int md), .unset, .val (.int kk), .unset, .unset, .unset, .unset] [(.int cm)])) := by rw [h_cm]; exact pre26
    have pre28 : Go p e below (s₁.setTop (entryFrame m #[(.int x0), (.int x1), (.int x2)] maxLocals)) (s₁.setTop (mkF m 49 #[.val (.int x0), .val (.int x1), .val (.int x2), .val (.int md), .val (.int cm), .val (.int kk), .unset, .unset, .unset, .unset] [(.int (100000000 : Int32)), (.int cm)])) := by
      intro t k
      refine pre27 t ?_
      show Steps p.tables e below (s₁.setTop (mkF m 43 #[.val (.int x0), .val (.int x1), .val (.int x2), .val (.int md), .unset, .val (.int kk), .unset, .unset, .unset, .unset] [(.int cm)])) _
      refine XS.istore X0.here hx rfl (hb hby at_43) rfl (l' := #[.val (.int x0), .val (.int x1), .val (.int x2), .val (.int md), .val (.int cm), .val (.int kk), .unset, .unset, .unset, .unset]) rfl ?_
      show Steps p.tables e below (s₁.setTop (mkF m 45 #[.val (.int x0), .val (.int x1), .val (.int x2), .val (.int md), .val (.int cm), .val (.int kk), .unset, .unset, .unset, .unset] [])) _
      refine XS.iload X0.here hx rfl (hb hby at_45) rfl ?_
      show Steps p.tables e below (s₁.setTop (mkF m 47 #[.val (.int x0), .val (.int x1), .val (.int x2), .val (.int md), .val (.int cm), .val (.int kk), .unset, .unset, .unset, .unset] [(.int cm)])) _
      refine X0.ldcI hx hown (mvT hZ (hw _ (List.mem_of_getElem? (i := 2) rfl))) (g := (mkF m 47 #[.val (.int x0), .val (.int x1), .val (.int x2), .val (.int md), .val (.int cm), .val (.int kk), .unset, .unset, .unset, .unset] [(.int cm)])) rfl (hb hby at_47) ?_
      show Steps p.tables e below (s₁.setTop (mkF m 49 #[.val (.int x0), .val (.int x1), .val (.int x2), .val (.int md), .val (.int cm), .val (.int kk), .unset, .unset, .unset, .unset] [(.int (100000000 : Int32)), (.int cm)])) _
      exact k
    obtain ⟨cc, h_cc⟩ : ∃ z : Int32, z = (if (100000000 : Int32) < cm then (100000000 : Int32) else cm) := ⟨_, rfl⟩
    have pre30 : Go p e below (s₁.setTop (entryFrame m #[(.int x0), (.int x1), (.int x2)] maxLocals)) (s₁.setTop (mkF m 56 #[.val (.int x0), .val (.int x1), .val (.int x2), .val (.int md), .val (.int cc), .val (.int kk), .unset, .unset, .unset, .unset] [])) := by
      intro t k
      refine pre28 t ?_
      show Steps p.tables e below (s₁.setTop (mkF m 49 #[.val (.int x0), .val (.int x1), .val (.int x2), .val (.int md), .val (.int cm), .val (.int kk), .unset, .unset, .unset, .unset] [(.int (100000000 : Int32)), (.int cm)])) _
      by_cases hc49_29 : (100000000 : Int32) < cm
      · skip
        refine XS.icmpNo X0.here hx rfl (hb hby at_49) rfl (XT.ii_le_f hc49_29) ?_
        show Steps p.tables e below (s₁.setTop (mkF m 52 #[.val (.int x0), .val (.int x1), .val (.int x2), .val (.int md), .val (.int cm), .val (.int kk), .unset, .unset, .unset, .unset] [])) _
        refine X0.ldcI hx hown (mvT hZ (hw _ (List.mem_of_getElem? (i := 2) rfl))) (g := (mkF m 52 #[.val (.int x0), .val (.int x1), .val (.int x2), .val (.int md), .val (.int cm), .val (.int kk), .unset, .unset, .unset, .unset] [])) rfl (hb hby at_52) ?_
        show Steps p.tables e below (s₁.setTop (mkF m 54 #[.val (.int x0), .val (.int x1), .val (.int x2), .val (.int md), .val (.int cm), .val (.int kk), .unset, .unset, .unset, .unset] [(.int (100000000 : Int32))])) _
        refine XS.istore X0.here hx rfl (hb hby at_54) rfl (l' := #[.val (.int x0), .val (.int x1), .val (.int x2), .val (.int md), .val (.int (100000000 : Int32)), .val (.int kk), .unset, .unset, .unset, .unset]) rfl ?_
        show Steps p.tables e below (s₁.setTop (mkF m 56 #[.val (.int x0), .val (.int x1), .val (.int x2), .val (.int md), .val (.int (100000000 : Int32)), .val (.int kk), .unset, .unset, .unset, .unset] [])) _
        rw [show cc = (100000000 : Int32) from by rw [h_cc]; rw [if_pos hc49_29]] at k
        exact k
      · skip
        refine XS.icmpYes X0.here hx rfl (pc0 := 49) (pc' := 56) rfl (hb hby at_49) rfl (XT.ii_le_t hc49_29) (by decide) (by decide) ?_
        show Steps p.tables e below (s₁.setTop (mkF m 56 #[.val (.int x0), .val (.int x1), .val (.int x2), .val (.int md), .val (.int cm), .val (.int kk), .unset, .unset, .unset, .unset] [])) _
        rw [show cc = cm from by rw [h_cc]; rw [if_neg hc49_29]] at k
        exact k
    have pre31 : Go p e below (s₁.setTop (entryFrame m #[(.int x0), (.int x1), (.int x2)] maxLocals)) (s₁.setTop (mkF m 58 #[.val (.int x0), .val (.int x1), .val (.int x2), .val (.int md), .val (.int cc), .val (.int kk), .unset, .unset, .unset, .unset] [(.int cc)])) := by
      intro t k
      refine pre30 t ?_
      show Steps p.tables e below (s₁.setTop (mkF m 56 #[.val (.int x0), .val (.int x1), .val (.int x2), .val (.int md), .val (.int cc), .val (.int kk), .unset, .unset, .unset, .unset] [])) _
      refine XS.iload X0.here hx rfl (hb hby at_56) rfl ?_
      show Steps p.tables e below (s₁.setTop (mkF m 58 #[.val (.int x0), .val (.int x1), .val (.int x2), .val (.int md), .val (.int cc), .val (.int kk), .unset, .unset, .unset, .unset] [(.int cc)])) _
      exact k
    have hcb : 1 ≤ cc.toInt ∧ cc.toInt ≤ 100000000 := by first | exact own_c0 h_cc | exact own_c1 h_kk h_md (by assumption) h_cm h_cc rfl
    obtain ⟨_, _, ⟨T32, L32, k32, n32⟩, -, X32, ⟨Lc32, hQ32, l32, y32, z32⟩, st32⟩ := Jvm.LawKit.callS X0 hx (y := (⟨"com/example/seshat/seshat/filter/Filter", "blocksFor", "(I)I"⟩ : MethodName)) hown (mvT hZ (hw _ (List.mem_of_getElem? (i := 3) rfl))) (mvT hZ (hw _ (List.mem_of_getElem? (i := 4) rfl))) (mvT hZ (hw _ (List.mem_of_getElem? (i := 5) rfl))) (mvT hZ (hw _ (List.mem_of_getElem? (i := 6) rfl))) (by decide) (backOf (W := 0) (rm1 l Z a0 hw [] cc  h0 n0 Z0 ) hZ (hw _ (List.mem_of_getElem? (i := 6) rfl)) (hw _ (List.mem_of_getElem? (i := 5) rfl)) (by decide) (by decide)) (g := (mkF m 58 #[.val (.int x0), .val (.int x1), .val (.int x2), .val (.int md), .val (.int cc), .val (.int kk), .unset, .unset, .unset, .unset] [(.int cc)])) rfl (by rw [hml]; rfl) (argsL := [(.int cc)]) (rest := []) (lenOf pd_1 rfl) rfl (by show 2 * 0 + _ ≤ _; exact Nat.le_of_eq rfl) (hb hby at_58) (fun _ _ => ⟨rfl, e0, (by decide : 0 + 0 ≤ _), (by decide : 0 + 0 ≤ _)⟩)
    dsimp only [Pt.U, Pt.locs, Pt.cells, Pt.slots] at X32 l32 y32 z32 st32 hQ32
    subst l32 y32 z32
    obtain ⟨rfl, N32q, hh32⟩ := hQ32
    have N32 := Fr.app N0 N32q
    have pre33 : Go p e below (s₁.setTop (entryFrame m #[(.int x0), (.int x1), (.int x2)] maxLocals)) (T32.setTop (mkF m 61 #[.val (.int x0), .val (.int x1), .val (.int x2), .val (.int md), .val (.int cc), .val (.int kk), .unset, .unset, .unset, .unset] [(.int (f1 cc))])) := fun t k => pre31 t (st32 t k)
    obtain ⟨bb, h_bb⟩ : ∃ z : Int32, z = (f1 cc) := ⟨_, rfl⟩
    have pre34 : Go p e below (s₁.setTop (entryFrame m #[(.int x0), (.int x1), (.int x2)] maxLocals)) (T32.setTop (mkF m 61 #[.val (.int x0), .val (.int x1), .val (.int x2), .val (.int md), .val (.int cc), .val (.int kk), .unset, .unset, .unset, .unset] [(.int bb)])) := by rw [h_bb]; exact pre33
    have hbb := own_b hcb h_bb
    have pre35 : Go p e below (s₁.setTop (entryFrame m #[(.int x0), (.int x1), (.int x2)] maxLocals)) (T32.setTop (mkF m 72 #[.val (.int x0), .val (.int x1), .val (.int x2), .val (.int md), .val (.int cc), .val (.int bb), .unset, .unset, .unset, .unset] [(.long ((((bb).toInt64) - (1 : Int64)) * (800 : Int64)))])) := by
      intro t k
      refine pre34 t ?_
      show Steps p.tables e below (T32.setTop (mkF m 61 #[.val (.int x0), .val (.int x1), .val (.int x2), .val (.int md), .val (.int cc), .val (.int kk), .unset, .unset, .unset, .unset] [(.int bb)])) _
      refine XS.istore X32.here hx rfl (hb hby at_61) rfl (l' := #[.val (.int x0), .val (.int x1), .val (.int x2), .val (.int md), .val (.int cc), .val (.int bb), .unset, .unset, .unset, .unset]) rfl ?_
      show Steps p.tables e below (T32.setTop (mkF m 63 #[.val (.int x0), .val (.int x1), .val (.int x2), .val (.int md), .val (.int cc), .val (.int bb), .unset, .unset, .unset, .unset] [])) _
      refine XS.iload X32.here hx rfl (hb hby at_63) rfl ?_
      show Steps p.tables e below (T32.setTop (mkF m 65 #[.val (.int x0), .val (.int x1), .val (.int x2), .val (.int md), .val (.int cc), .val (.int bb), .unset, .unset, .unset, .unset] [(.int bb)])) _
      refine XS.i2l X32.here hx rfl (hb hby at_65) rfl ?_
      show Steps p.tables e below (T32.setTop (mkF m 66 #[.val (.int x0), .val (.int x1), .val (.int x2), .val (.int md), .val (.int cc), .val (.int bb), .unset, .unset, .unset, .unset] [(.long ((bb).toInt64))])) _
      refine XT.lconstV X32.here hx rfl (1 : Int64) (hb hby at_66) rfl ?_
      show Steps p.tables e below (T32.setTop (mkF m 67 #[.val (.int x0), .val (.int x1), .val (.int x2), .val (.int md), .val (.int cc), .val (.int bb), .unset, .unset, .unset, .unset] [(.long (1 : Int64)), (.long ((bb).toInt64))])) _
      refine XS.lsub X32.here hx rfl (hb hby at_67) rfl ?_
      show Steps p.tables e below (T32.setTop (mkF m 68 #[.val (.int x0), .val (.int x1), .val (.int x2), .val (.int md), .val (.int cc), .val (.int bb), .unset, .unset, .unset, .unset] [(.long (((bb).toInt64) - (1 : Int64)))])) _
      refine X32.ldc2J hx hown (mvT hZ (hw _ (List.mem_of_getElem? (i := 7) rfl))) (g := (mkF m 68 #[.val (.int x0), .val (.int x1), .val (.int x2), .val (.int md), .val (.int cc), .val (.int bb), .unset, .unset, .unset, .unset] [(.long (((bb).toInt64) - (1 : Int64)))])) rfl (hb hby at_68) ?_
      show Steps p.tables e below (T32.setTop (mkF m 71 #[.val (.int x0), .val (.int x1), .val (.int x2), .val (.int md), .val (.int cc), .val (.int bb), .unset, .unset, .unset, .unset] [(.long (800 : Int64)), (.long (((bb).toInt64) - (1 : Int64)))])) _
      refine XS.lmul X32.here hx rfl (hb hby at_71) rfl ?_
      show Steps p.tables e below (T32.setTop (mkF m 72 #[.val (.int x0), .val (.int x1), .val (.int x2), .val (.int md), .val (.int cc), .val (.int bb), .unset, .unset, .unset, .unset] [(.long ((((bb).toInt64) - (1 : Int64)) * (800 : Int64)))])) _
      exact k
    obtain ⟨lo, h_lo⟩ : ∃ z : Int64, z = ((((bb).toInt64) - (1 : Int64)) * (800 : Int64)) := ⟨_, rfl⟩
    have pre36 : Go p e below (s₁.setTop (entryFrame m #[(.int x0), (.int x1), (.int x2)] maxLocals)) (T32.setTop (mkF m 72 #[.val (.int x0), .val (.int x1), .val (.int x2), .val (.int md), .val (.int cc), .val (.int bb), .unset, .unset, .unset, .unset] [(.long lo)])) := by rw [h_lo]; exact pre35
    have hlo := own_lo ⟨by omega, by omega⟩ h_lo
    have pre37 : Go p e below (s₁.setTop (entryFrame m #[(.int x0), (.int x1), (.int x2)] maxLocals)) (T32.setTop (mkF m 81 #[.val (.int x0), .val (.int x1), .val (.int x2), .val (.int md), .val (.int cc), .val (.int bb), .val (.long lo), .second, .unset, .unset] [(.long (((bb).toInt64) * (800 : Int64)))])) := by
      intro t k
      refine pre36 t ?_
      show Steps p.tables e below (T32.setTop (mkF m 72 #[.val (.int x0), .val (.int x1), .val (.int x2), .val (.int md), .val (.int cc), .val (.int bb), .unset, .unset, .unset, .unset] [(.long lo)])) _
      refine XT.lstore X32.here hx rfl (hb hby at_72) rfl (l' := #[.val (.int x0), .val (.int x1), .val (.int x2), .val (.int md), .val (.int cc), .val (.int bb), .val (.long lo), .second, .unset, .unset]) rfl ?_
      show Steps p.tables e below (T32.setTop (mkF m 74 #[.val (.int x0), .val (.int x1), .val (.int x2), .val (.int md), .val (.int cc), .val (.int bb), .val (.long lo), .second, .unset, .unset] [])) _
      refine XS.iload X32.here hx rfl (hb hby at_74) rfl ?_
      show Steps p.tables e below (T32.setTop (mkF m 76 #[.val (.int x0), .val (.int x1), .val (.int x2), .val (.int md), .val (.int cc), .val (.int bb), .val (.long lo), .second, .unset, .unset] [(.int bb)])) _
      refine XS.i2l X32.here hx rfl (hb hby at_76) rfl ?_
      show Steps p.tables e below (T32.setTop (mkF m 77 #[.val (.int x0), .val (.int x1), .val (.int x2), .val (.int md), .val (.int cc), .val (.int bb), .val (.long lo), .second, .unset, .unset] [(.long ((bb).toInt64))])) _
      refine X32.ldc2J hx hown (mvT hZ (hw _ (List.mem_of_getElem? (i := 7) rfl))) (g := (mkF m 77 #[.val (.int x0), .val (.int x1), .val (.int x2), .val (.int md), .val (.int cc), .val (.int bb), .val (.long lo), .second, .unset, .unset] [(.long ((bb).toInt64))])) rfl (hb hby at_77) ?_
      show Steps p.tables e below (T32.setTop (mkF m 80 #[.val (.int x0), .val (.int x1), .val (.int x2), .val (.int md), .val (.int cc), .val (.int bb), .val (.long lo), .second, .unset, .unset] [(.long (800 : Int64)), (.long ((bb).toInt64))])) _
      refine XS.lmul X32.here hx rfl (hb hby at_80) rfl ?_
      show Steps p.tables e below (T32.setTop (mkF m 81 #[.val (.int x0), .val (.int x1), .val (.int x2), .val (.int md), .val (.int cc), .val (.int bb), .val (.long lo), .second, .unset, .unset] [(.long (((bb).toInt64) * (800 : Int64)))])) _
      exact k
    obtain ⟨hi, h_hi⟩ : ∃ z : Int64, z = (((bb).toInt64) * (800 : Int64)) := ⟨_, rfl⟩
    have pre38 : Go p e below (s₁.setTop (entryFrame m #[(.int x0), (.int x1), (.int x2)] maxLocals)) (T32.setTop (mkF m 81 #[.val (.int x0), .val (.int x1), .val (.int x2), .val (.int md), .val (.int cc), .val (.int bb), .val (.long lo), .second, .unset, .unset] [(.long hi)])) := by rw [h_hi]; exact pre37
    have hhi := own_hi ⟨by omega, by omega⟩ h_hi
    have pre39 : Go p e below (s₁.setTop (entryFrame m #[(.int x0), (.int x1), (.int x2)] maxLocals)) (T32.setTop (mkF m 86 #[.val (.int x0), .val (.int x1), .val (.int x2), .val (.int md), .val (.int cc), .val (.int bb), .val (.long lo), .second, .val (.long hi), .second] [(.int (1 : Int32)), (.int bb)])) := by
      intro t k
      refine pre38 t ?_
      show Steps p.tables e below (T32.setTop (mkF m 81 #[.val (.int x0), .val (.int x1), .val (.int x2), .val (.int md), .val (.int cc), .val (.int bb), .val (.long lo), .second, .unset, .unset] [(.long hi)])) _
      refine XT.lstore X32.here hx rfl (hb hby at_81) rfl (l' := #[.val (.int x0), .val (.int x1), .val (.int x2), .val (.int md), .val (.int cc), .val (.int bb), .val (.long lo), .second, .val (.long hi), .second]) rfl ?_
      show Steps p.tables e below (T32.setTop (mkF m 83 #[.val (.int x0), .val (.int x1), .val (.int x2), .val (.int md), .val (.int cc), .val (.int bb), .val (.long lo), .second, .val (.long hi), .second] [])) _
      refine XS.iload X32.here hx rfl (hb hby at_83) rfl ?_
      show Steps p.tables e below (T32.setTop (mkF m 85 #[.val (.int x0), .val (.int x1), .val (.int x2), .val (.int md), .val (.int cc), .val (.int bb), .val (.long lo), .second, .val (.long hi), .second] [(.int bb)])) _
      refine XS.iconst X32.here hx rfl (hb hby at_85) ?_
      show Steps p.tables e below (T32.setTop (mkF m 86 #[.val (.int x0), .val (.int x1), .val (.int x2), .val (.int md), .val (.int cc), .val (.int bb), .val (.long lo), .second, .val (.long hi), .second] [(.int (1 : Int32)), (.int bb)])) _
      exact k
    have hc86_40 : ¬ (bb < (1 : Int32)) := by
      rw [Int32.lt_iff_toInt_lt]; have c1 : (1 : Int32).toInt = 1 := rfl; have c2 : (125000 : Int32).toInt = 125000 := rfl; have c3 := Int32.toInt_toInt64 cc; omega
    have pre41 : Go p e below (s₁.setTop (entryFrame m #[(.int x0), (.int x1), (.int x2)] maxLocals)) (T32.setTop (mkF m 93 #[.val (.int x0), .val (.int x1), .val (.int x2), .val (.int md), .val (.int cc), .val (.int bb), .val (.long lo), .second, .val (.long hi), .second] [(.int (125000 : Int32)), (.int bb)])) := by
      intro t k
      refine pre39 t ?_
      show Steps p.tables e below (T32.setTop (mkF m 86 #[.val (.int x0), .val (.int x1), .val (.int x2), .val (.int md), .val (.int cc), .val (.int bb), .val (.long lo), .second, .val (.long hi), .second] [(.int (1 : Int32)), (.int bb)])) _
      refine XS.icmpNo X32.here hx rfl (hb hby at_86) rfl (XT.ii_lt_f hc86_40) ?_
      show Steps p.tables e below (T32.setTop (mkF m 89 #[.val (.int x0), .val (.int x1), .val (.int x2), .val (.int md), .val (.int cc), .val (.int bb), .val (.long lo), .second, .val (.long hi), .second] [])) _
      refine XS.iload X32.here hx rfl (hb hby at_89) rfl ?_
      show Steps p.tables e below (T32.setTop (mkF m 91 #[.val (.int x0), .val (.int x1), .val (.int x2), .val (.int md), .val (.int cc), .val (.int bb), .val (.long lo), .second, .val (.long hi), .second] [(.int bb)])) _
      refine X32.ldcI hx hown (mvT hZ (hw _ (List.mem_of_getElem? (i := 1) rfl))) (g := (mkF m 91 #[.val (.int x0), .val (.int x1), .val (.int x2), .val (.int md), .val (.int cc), .val (.int bb), .val (.long lo), .second, .val (.long hi), .second] [(.int bb)])) rfl (hb hby at_91) ?_
      show Steps p.tables e below (T32.setTop (mkF m 93 #[.val (.int x0), .val (.int x1), .val (.int x2), .val (.int md), .val (.int cc), .val (.int bb), .val (.long lo), .second, .val (.long hi), .second] [(.int (125000 : Int32)), (.int bb)])) _
      exact k
    have hc93_42 : ¬ ((125000 : Int32) < bb) := by
      rw [Int32.lt_iff_toInt_lt]; have c1 : (1 : Int32).toInt = 1 := rfl; have c2 : (125000 : Int32).toInt = 125000 := rfl; have c3 := Int32.toInt_toInt64 cc; omega
    have pre43 : Go p e below (s₁.setTop (entryFrame m #[(.int x0), (.int x1), (.int x2)] maxLocals)) (T32.setTop (mkF m 102 #[.val (.int x0), .val (.int x1), .val (.int x2), .val (.int md), .val (.int cc), .val (.int bb), .val (.long lo), .second, .val (.long hi), .second] [(.int (XT.cmpL lo ((cc).toInt64)))])) := by
      intro t k
      refine pre41 t ?_
      show Steps p.tables e below (T32.setTop (mkF m 93 #[.val (.int x0), .val (.int x1), .val (.int x2), .val (.int md), .val (.int cc), .val (.int bb), .val (.long lo), .second, .val (.long hi), .second] [(.int (125000 : Int32)), (.int bb)])) _
      refine XS.icmpNo X32.here hx rfl (hb hby at_93) rfl (XT.ii_gt_f hc93_42) ?_
      show Steps p.tables e below (T32.setTop (mkF m 96 #[.val (.int x0), .val (.int x1), .val (.int x2), .val (.int md), .val (.int cc), .val (.int bb), .val (.long lo), .second, .val (.long hi), .second] [])) _
      refine XT.lload X32.here hx rfl (hb hby at_96) rfl ?_
      show Steps p.tables e below (T32.setTop (mkF m 98 #[.val (.int x0), .val (.int x1), .val (.int x2), .val (.int md), .val (.int cc), .val (.int bb), .val (.long lo), .second, .val (.long hi), .second] [(.long lo)])) _
      refine XS.iload X32.here hx rfl (hb hby at_98) rfl ?_
      show Steps p.tables e below (T32.setTop (mkF m 100 #[.val (.int x0), .val (.int x1), .val (.int x2), .val (.int md), .val (.int cc), .val (.int bb), .val (.long lo), .second, .val (.long hi), .second] [(.int cc), (.long lo)])) _
      refine XS.i2l X32.here hx rfl (hb hby at_100) rfl ?_
      show Steps p.tables e below (T32.setTop (mkF m 101 #[.val (.int x0), .val (.int x1), .val (.int x2), .val (.int md), .val (.int cc), .val (.int bb), .val (.long lo), .second, .val (.long hi), .second] [(.long ((cc).toInt64)), (.long lo)])) _
      refine XT.lcmp X32.here hx rfl (hb hby at_101) rfl ?_
      show Steps p.tables e below (T32.setTop (mkF m 102 #[.val (.int x0), .val (.int x1), .val (.int x2), .val (.int md), .val (.int cc), .val (.int bb), .val (.long lo), .second, .val (.long hi), .second] [(.int (XT.cmpL lo ((cc).toInt64)))])) _
      exact k
    have hc102_44 : lo < ((cc).toInt64) := by
      rw [Int64.lt_iff_toInt_lt]; have c1 : (1 : Int32).toInt = 1 := rfl; have c2 : (125000 : Int32).toInt = 125000 := rfl; have c3 := Int32.toInt_toInt64 cc; omega
    have pre45 : Go p e below (s₁.setTop (entryFrame m #[(.int x0), (.int x1), (.int x2)] maxLocals)) (T32.setTop (mkF m 111 #[.val (.int x0), .val (.int x1), .val (.int x2), .val (.int md), .val (.int cc), .val (.int bb), .val (.long lo), .second, .val (.long hi), .second] [(.int (XT.cmpL ((cc).toInt64) hi))])) := by
      intro t k
      refine pre43 t ?_
      show Steps p.tables e below (T32.setTop (mkF m 102 #[.val (.int x0), .val (.int x1), .val (.int x2), .val (.int md), .val (.int cc), .val (.int bb), .val (.long lo), .second, .val (.long hi), .second] [(.int (XT.cmpL lo ((cc).toInt64)))])) _
      refine XS.ifNo X32.here hx rfl (hb hby at_102) rfl (XT.ll_ge_f hc102_44) ?_
      show Steps p.tables e below (T32.setTop (mkF m 105 #[.val (.int x0), .val (.int x1), .val (.int x2), .val (.int md), .val (.int cc), .val (.int bb), .val (.long lo), .second, .val (.long hi), .second] [])) _
      refine XS.iload X32.here hx rfl (hb hby at_105) rfl ?_
      show Steps p.tables e below (T32.setTop (mkF m 107 #[.val (.int x0), .val (.int x1), .val (.int x2), .val (.int md), .val (.int cc), .val (.int bb), .val (.long lo), .second, .val (.long hi), .second] [(.int cc)])) _
      refine XS.i2l X32.here hx rfl (hb hby at_107) rfl ?_
      show Steps p.tables e below (T32.setTop (mkF m 108 #[.val (.int x0), .val (.int x1), .val (.int x2), .val (.int md), .val (.int cc), .val (.int bb), .val (.long lo), .second, .val (.long hi), .second] [(.long ((cc).toInt64))])) _
      refine XT.lload X32.here hx rfl (hb hby at_108) rfl ?_
      show Steps p.tables e below (T32.setTop (mkF m 110 #[.val (.int x0), .val (.int x1), .val (.int x2), .val (.int md), .val (.int cc), .val (.int bb), .val (.long lo), .second, .val (.long hi), .second] [(.long hi), (.long ((cc).toInt64))])) _
      refine XT.lcmp X32.here hx rfl (hb hby at_110) rfl ?_
      show Steps p.tables e below (T32.setTop (mkF m 111 #[.val (.int x0), .val (.int x1), .val (.int x2), .val (.int md), .val (.int cc), .val (.int bb), .val (.long lo), .second, .val (.long hi), .second] [(.int (XT.cmpL ((cc).toInt64) hi))])) _
      exact k
    have hc111_46 : ¬ (hi < ((cc).toInt64)) := by
      rw [Int64.lt_iff_toInt_lt]; have c1 : (1 : Int32).toInt = 1 := rfl; have c2 : (125000 : Int32).toInt = 125000 := rfl; have c3 := Int32.toInt_toInt64 cc; omega
    have pre47 : Go p e below (s₁.setTop (entryFrame m #[(.int x0), (.int x1), (.int x2)] maxLocals)) (T32.setTop (mkF m 119 #[.val (.int x0), .val (.int x1), .val (.int x2), .val (.int md), .val (.int cc), .val (.int bb), .val (.long lo), .second, .val (.long hi), .second] [(.int (1 : Int32))])) := by
      intro t k
      refine pre45 t ?_
      show Steps p.tables e below (T32.setTop (mkF m 111 #[.val (.int x0), .val (.int x1), .val (.int x2), .val (.int md), .val (.int cc), .val (.int bb), .val (.long lo), .second, .val (.long hi), .second] [(.int (XT.cmpL ((cc).toInt64) hi))])) _
      refine XS.ifNo X32.here hx rfl (hb hby at_111) rfl (XT.ll_gt_f hc111_46) ?_
      show Steps p.tables e below (T32.setTop (mkF m 114 #[.val (.int x0), .val (.int x1), .val (.int x2), .val (.int md), .val (.int cc), .val (.int bb), .val (.long lo), .second, .val (.long hi), .second] [])) _
      refine XS.iconst X32.here hx rfl (hb hby at_114) ?_
      show Steps p.tables e below (T32.setTop (mkF m 115 #[.val (.int x0), .val (.int x1), .val (.int x2), .val (.int md), .val (.int cc), .val (.int bb), .val (.long lo), .second, .val (.long hi), .second] [(.int (1 : Int32))])) _
      refine XS.goto X32.here hx rfl (pc0 := 115) (pc' := 119) rfl (hb hby at_115) (by decide) (by decide) ?_
      show Steps p.tables e below (T32.setTop (mkF m 119 #[.val (.int x0), .val (.int x1), .val (.int x2), .val (.int md), .val (.int cc), .val (.int bb), .val (.long lo), .second, .val (.long hi), .second] [(.int (1 : Int32))])) _
      exact k
    obtain ⟨fs, hr, hrun, hended, hW, hsame⟩ := X32.leave (v := some (.int (1 : Int32))) (fun h => by rw [Bd.returns] at h; cases h)
    refine ⟨_, _, pre47 _ (retN X32 hx (t := .boolean) Bd.returns (by simp) (hb hby at_119) hr), hrun, hended, _, _, rfl, ?_, ⟨_, rfl⟩, hW, hsame.mono (by decide) (by decide)⟩
    show Q0 Z x0 x1 x2 h0 n0 _ T32.heap _
    rw [hh32]
    exact ⟨rfl, N32⟩
set_option maxRecDepth 65536 in
set_option maxHeartbeats 40000000 in
theorem comes_1 {Post : Tables → Env → Array Value → State → Outcome → State → Prop} (hpost : ∀ tb e args s v u, (limb_1_1.after args s (.returned v) u = true ∧ limb_1_2.after args s (.returned v) u = true ∧ True) → FrameEnd s (.returned v) u (Jvm.fieldLocs frame_1_writes args s ++ Jvm.arrayLocs frame_1_arrays args s ++ Jvm.staticLocs frame_1_statics s) 0 0 → Post tb e args s (.returned v) u) :
    ArmFor flags0 classFile x code maxLocals ret World_1 tables_1 room_1 Calls_1 rest_1 Pre_1 Post := by
  intro l hfl _ _ p e ha hc hk s m args below hf hA hF happ hP
  obtain ⟨hcalls, hrest, hpre⟩ := hP
  obtain ⟨-, -, -, hnamed, -, -, -, hat⟩ := (Spec.applies_iff hf).mp happ
  obtain ⟨hg, hn⟩ := and_e (Cond.before_iff.mp (show (Jvm.Cond.and given_1 narrow_1).before args s = true from hpre))
  obtain ⟨u1, u2⟩ := and_e hg
  obtain ⟨u3, u4⟩ := and_e u2
  obtain ⟨u5, u6⟩ := and_e u4
  obtain ⟨w0, w1, w2, rfl⟩ : ∃ w0 w1 w2 : Value, args = #[w0, w1, w2] := by
    have hs : args.size = 3 := by simpa [Cond.value, given_1] using u1
    obtain ⟨L⟩ := args
    match L, hs with
    | [w0, w1, w2], _ => exact ⟨w0, w1, w2, rfl⟩
  have hw := fun d (hd : d ∈ tables_1) => atoms_spec (ws := Jvm.Cond.code x code maxLocals ret :: tables_1) hat d (List.mem_cons_of_mem _ hd)
  obtain ⟨i0, ei0⟩ := is_v u3
  obtain rfl : w0 = (.int i0) := Option.some.inj ei0
  obtain ⟨i1, ei1⟩ := is_v u5
  obtain rfl : w1 = (.int i1) := Option.some.inj ei1
  obtain ⟨i2, ei2⟩ := is_v u6
  obtain rfl : w2 = (.int i2) := Option.some.inj ei2
  obtain ⟨n, o, h1, h2, h3, _, L, rfl, ⟨rfl, N⟩, hq⟩ := rm0 l s _ hw tables_1 i0 i1 i2 s.heap s.heap.size (Nat.le_refl _) p e ha hc hk s m _ below hf ((Spec.applies_iff_loose hf).mp happ).1 ⟨rfl, State.Warmed39.refl s, rfl⟩ trivial
  refine ⟨n, _, h1, h2, h3, hpost _ _ _ _ _ _ ⟨Cond.after_iff.mpr rfl, Cond.after_iff.mpr (eq_i res_at (Term.int_eval (1)) rfl), trivial⟩ ⟨hq.1, hq.2.1, (hq.2.2.sift fun y hy => Or.inr (N y hy)).mono (by decide) (by decide)⟩⟩
theorem main_1_1 : Claimed_1_1 := comes_1 fun _ _ _ _ _ _ h hF => ⟨h.1, hF⟩
theorem main_1_2 : Claimed_1_2 := comes_1 fun _ _ _ _ _ _ h hF => ⟨h.2.1, hF⟩
end Jvm.Pilot.@@N@@
namespace Jvm.Pilot.@@N@@
open Jvm Jvm.ClassFile Sem Op Lib Jvm.Free Jvm.Stand Jvm.Pilot.@@N@@.Jvm.D
/-! MADE BY PROGRAM (witnessworld.py) out of the Statement's table words and the real class files: 9 classes; the members and pool entries that the words name. The judged class is class 1, her method 1. -/
namespace start1
open Jvm.ClassFile
def u (s : String) : CpInfo := .utf8 (stringToUtf16 s)
/-- a pool by its gaps: so many unusable entries, then the entry; so many at the end -/
def gap : Nat → List CpInfo → List CpInfo
  | 0, r => r
  | n + 1, r => .unusable :: gap n r
def poolList (es : List (Nat × CpInfo)) (last : Nat) : List CpInfo := es.foldr (fun e r => gap e.1 (e.2 :: r)) (gap last [])
def pool (es : List (Nat × CpInfo)) (last : Nat) : Array CpInfo := ⟨poolList es last⟩
def fileOf (pool : Array CpInfo) (this : Nat) (attrs : Array Attribute := #[]) (ms : Array MethodInfo := #[]) (fl : Nat := 33) (sup : Nat := 0) (ifs : Array Nat := #[]) (fds : Array FieldInfo := #[]) : ClassFile where
  minorVersion := 0
  majorVersion := 65
  constantPool := pool
  accessFlags := fl
  thisClass := this
  superClass := sup
  interfaces := ifs
  fields := fds
  methods := ms
  attributes := attrs
def plain (name : String) (sup : Option ClassId) : Class where
  name := name
  kind := .ordinary
  loader := none
  accessFlags := 33
  super := sup
  interfaces := #[]
  cf := none
  fields := #[]
  methods := #[]
  instanceTypes := #[]
  staticTypes := #[]
  resolved := #[]
  callSites := []
  init := .initialized
  statics := none
  mirror := none

def pool0 : Array CpInfo := pool [(5, u "<init>"), (0, u "()V"), (1, .class_ 10), (1, u "java/lang/Object")] 113

def k0m0 : Method := { name := "<init>", desc := "()V", sig := { parameters := [], returnType := none }, accessFlags := 1, code := none }
/-- java/lang/Object -/
def k0 : Class := { plain "java/lang/Object" none with
  accessFlags := 33
  interfaces := #[]
  cf := some (fileOf pool0 8 #[] #[{ accessFlags := 1, nameIndex := 5, descriptorIndex := 6, attributes := #[] }] 33 0 #[] #[])
  fields := #[]
  methods := #[k0m0]
  instanceTypes := #[]
  staticTypes := #[]
  resolved := Array.replicate 124 none
  statics := none }

def pool1 : Array CpInfo := pool [(2, .class_ 4), (1, u "java/lang/Object"), (0, u "<init>"), (0, u "()V"), (0, .integer 2147483647), (0, .integer 100000000), (0, .integer 125000), (0, .methodref 11 12), (0, .class_ 13), (0, .nameAndType 14 15), (0, u "com/example/seshat/seshat/filter/Filter"), (0, u "blocksFor"), (0, u "(I)I"), (0, .long 800), (1, .class_ 19), (0, u "com/example/seshat/seshat/filter/FilterBlocksForPinLaw"), (2, u "law"), (0, u "(III)Z")] 3

def k1m0 : Method := { name := "<init>", desc := "()V", sig := { parameters := [], returnType := none }, accessFlags := 1, code := none }
def k1c1 : Code := { maxStack := 4, maxLocals := 10, code := code, exceptionTable := #[], attributes := #[] }
def k1m1 : Method := { name := "law", desc := "(III)Z", sig := { parameters := [.int, .int, .int], returnType := some .boolean }, accessFlags := 9, code := some k1c1 }
/-- com/example/seshat/seshat/filter/FilterBlocksForPinLaw -/
def k1 : Class := { plain "com/example/seshat/seshat/filter/FilterBlocksForPinLaw" (some 0) with
  accessFlags := 49
  interfaces := #[]
  cf := some (fileOf pool1 18 #[] #[{ accessFlags := 1, nameIndex := 5, descriptorIndex := 6, attributes := #[] }, { accessFlags := 9, nameIndex := 22, descriptorIndex := 23, attributes := #[] }] 49 2 #[] #[])
  fields := #[]
  methods := #[k1m0, k1m1]
  instanceTypes := #[]
  staticTypes := #[]
  resolved := Array.replicate 27 none
  statics := none }

def pool2 : Array CpInfo := pool [(1, .class_ 2), (0, u "com/example/seshat/seshat/filter/Filter"), (5, u "Ljava/math/BigInteger;"), (5, .class_ 16), (1, u "java/lang/Object"), (3, u "name"), (0, u "Ljava/lang/String;"), (2, u "capacity"), (0, u "I"), (2, u "keysAdded"), (0, u "J"), (2, u "bitsSet"), (2, u "powerSum"), (84, u "blocksFor"), (0, u "(I)I"), (6, u "FULL_BLOCK_POWER"), (0, u "D"), (20, u "BLOCK_BITS"), (2, u "BLOCK_BYTES"), (1, u "HASHES"), (1, u "KEYS_PER_BLOCK"), (1, u "MIN_CAPACITY"), (1, u "MAX_CAPACITY"), (1, u "DEFAULT_CAPACITY")] 23

def k2c0 : Code := { maxStack := 2, maxLocals := 1, code := prog_5_method_3_code, exceptionTable := #[], attributes := #[] }
def k2m0 : Method := { name := "blocksFor", desc := "(I)I", sig := { parameters := [.int], returnType := some .int }, accessFlags := 9, code := some k2c0 }
/-- com/example/seshat/seshat/filter/Filter -/
def k2 : Class := { plain "com/example/seshat/seshat/filter/Filter" (some 0) with
  accessFlags := 49
  interfaces := #[]
  cf := some (fileOf pool2 1 #[] #[{ accessFlags := 9, nameIndex := 120, descriptorIndex := 121, attributes := #[] }] 49 14 #[] #[{ accessFlags := 25, nameIndex := 150, descriptorIndex := 25, attributes := #[] }, { accessFlags := 25, nameIndex := 153, descriptorIndex := 25, attributes := #[] }, { accessFlags := 25, nameIndex := 155, descriptorIndex := 25, attributes := #[] }, { accessFlags := 25, nameIndex := 157, descriptorIndex := 25, attributes := #[] }, { accessFlags := 25, nameIndex := 159, descriptorIndex := 25, attributes := #[] }, { accessFlags := 25, nameIndex := 161, descriptorIndex := 25, attributes := #[] }, { accessFlags := 25, nameIndex := 163, descriptorIndex := 25, attributes := #[] }, { accessFlags := 26, nameIndex := 128, descriptorIndex := 129, attributes := #[] }, { accessFlags := 18, nameIndex := 20, descriptorIndex := 21, attributes := #[] }, { accessFlags := 18, nameIndex := 24, descriptorIndex := 25, attributes := #[] }, { accessFlags := 18, nameIndex := 28, descriptorIndex := 29, attributes := #[] }, { accessFlags := 18, nameIndex := 32, descriptorIndex := 29, attributes := #[] }, { accessFlags := 18, nameIndex := 35, descriptorIndex := 8, attributes := #[] }])
  fields := #[{ name := "BLOCK_BITS", type := .int, accessFlags := 25, slot := 0, constantValue := 0 }, { name := "BLOCK_BYTES", type := .int, accessFlags := 25, slot := 1, constantValue := 0 }, { name := "HASHES", type := .int, accessFlags := 25, slot := 2, constantValue := 0 }, { name := "KEYS_PER_BLOCK", type := .int, accessFlags := 25, slot := 3, constantValue := 0 }, { name := "MIN_CAPACITY", type := .int, accessFlags := 25, slot := 4, constantValue := 0 }, { name := "MAX_CAPACITY", type := .int, accessFlags := 25, slot := 5, constantValue := 0 }, { name := "DEFAULT_CAPACITY", type := .int, accessFlags := 25, slot := 6, constantValue := 0 }, { name := "FULL_BLOCK_POWER", type := .double, accessFlags := 26, slot := 7, constantValue := 0 }, { name := "name", type := (.object "java/lang/String"), accessFlags := 18, slot := 0, constantValue := 0 }, { name := "capacity", type := .int, accessFlags := 18, slot := 1, constantValue := 0 }, { name := "keysAdded", type := .long, accessFlags := 18, slot := 2, constantValue := 0 }, { name := "bitsSet", type := .long, accessFlags := 18, slot := 3, constantValue := 0 }, { name := "powerSum", type := (.object "java/math/BigInteger"), accessFlags := 18, slot := 4, constantValue := 0 }]
  methods := #[k2m0]
  instanceTypes := #[(.object "java/lang/String"), .int, .long, .long, (.object "java/math/BigInteger")]
  staticTypes := #[.int, .int, .int, .int, .int, .int, .int, .double]
  resolved := Array.replicate 187 none
  statics := none }

def pool3 : Array CpInfo := pool [(1, u "java/lang/Cloneable"), (0, .class_ 1), (0, u "java/lang/Object"), (0, .class_ 3)] 3

/-- java/lang/Cloneable -/
def k3 : Class := { plain "java/lang/Cloneable" (some 0) with
  accessFlags := 1537
  interfaces := #[]
  cf := some (fileOf pool3 2 #[] #[] 1537 4 #[] #[])
  fields := #[]
  methods := #[]
  instanceTypes := #[]
  staticTypes := #[]
  resolved := Array.replicate 8 none
  statics := none }

def pool4 : Array CpInfo := pool [(1, u "java/io/Serializable"), (0, .class_ 1), (0, u "java/lang/Object"), (0, .class_ 3)] 3

/-- java/io/Serializable -/
def k4 : Class := { plain "java/io/Serializable" (some 0) with
  accessFlags := 1537
  interfaces := #[]
  cf := some (fileOf pool4 2 #[] #[] 1537 4 #[] #[])
  fields := #[]
  methods := #[]
  instanceTypes := #[]
  staticTypes := #[]
  resolved := Array.replicate 8 none
  statics := none }

/-- the primitive byte -/
def k5 : Class := { plain "byte" none with kind := .primitive 'B', accessFlags := 0x411 }
/-- [B -/
def k6 : Class := { plain "[B" (some 0) with kind := .array 5 .byte, interfaces := #[3, 4], accessFlags := 1041 }

/-- the primitive int -/
def k7 : Class := { plain "int" none with kind := .primitive 'I', accessFlags := 0x411 }
/-- [I -/
def k8 : Class := { plain "[I" (some 0) with kind := .array 7 .int, interfaces := #[3, 4], accessFlags := 1041 }

def heap : Heap := #[]
def classes : Array Class := #[k0, k1, k2, k3, k4, k5, k6, k7, k8]
def interned : List (Array UInt16 × Addr) := []
def slotsUsed : Nat := 0
def theMethod : MethodId := ⟨1, 1⟩
def args0 : Array Value := #[.int 5, .int 7, .int 3]
def aboutOver (below : List Frame) : State where
  vm := { classes := classes, interned := interned.toArray }
  heap := heap
  slotsUsed := slotsUsed
  threads := #[{ frames := .invoking theMethod args0 :: below }]
def below0 : List Frame := [.native { method := ⟨0, 0⟩, args := #[] }]
def about1 : State := aboutOver below0
def p0 : Program := .bare "" "" ""
def e0 : Env := launch0.env 0 0 0
theorem w_frames : about1.frames = Frame.invoking theMethod args0 :: below0 := rfl
set_option maxRecDepth 65536 in
theorem w_args : argsFit about1.vm theMethod args0 = true := by decide +kernel
set_option maxRecDepth 65536 in
theorem w_heap : heapFits about1 = true := by decide +kernel
set_option maxRecDepth 65536 in
theorem w_runnable : about1.curStatus? = some .runnable := by decide +kernel
set_option maxRecDepth 65536 in
theorem w_alone : about1.alone = true := by decide +kernel
set_option maxRecDepth 65536 in
theorem w_named : about1.methodNamed? x = some theMethod := by decide +kernel
set_option maxRecDepth 65536 in
theorem w_hears : about1.hears theMethod below0 = true := by decide +kernel
set_option maxRecDepth 65536 in
theorem w_ripe : about1.ripe theMethod args0 below0 = true := by decide +kernel
theorem w_running : about1.status = .running := rfl
set_option maxRecDepth 65536 in
theorem w_room : about1.hasRoom e0.platform room_1 = true :=
  launch0.hasRoom_least _ room_1 (by decide +kernel) (by decide +kernel) (by decide +kernel) (by decide +kernel) (by decide +kernel) (by decide +kernel)
theorem allAtoms_all (ts : List Jvm.Cond) (a : Array Jvm.Value) (st : Jvm.State) : (allAtoms ts).before a st = ts.all (fun c => c.before a st) := by
  induction ts with
  | nil => rfl
  | cons c t ih =>
    show (Jvm.Cond.and c (allAtoms t)).before a st = _
    rw [Jvm.Cond.before_and, ih, List.all_cons]
def words1 : List Jvm.Cond := Jvm.Cond.code x code maxLocals ret :: tables_1
/-- a 'code' word, met by the world's own term for the bytes: nothing is compared byte by byte -/
theorem code_word {y : MethodName} {bytes : ByteArray} {mx : Nat} {rt : Option FieldType} {a : Array Value} {s : State} {m : MethodId} {meth : Method} {c : Code} (h1 : s.methodNamed? y = some m) (h2 : s.vm.method? m = some meth) (h3 : meth.code = some c) (h4 : c.code = bytes)
    (h5 : (c.maxLocals == mx && c.exceptionTable.isEmpty && decide (c.maxStack ≤ mostOperands) && decide (meth.sig.returnType = rt) && !meth.locks && decide (parseMethodDescriptor y.desc = some meth.sig)) = true) : (Jvm.Cond.code y bytes mx rt).before a s = true := by
  simp only [Bool.and_eq_true, beq_iff_eq, Bool.not_eq_true', decide_eq_true_eq] at h5
  obtain ⟨⟨⟨⟨⟨g1, g2⟩, g3⟩, g4⟩, g5⟩, g6⟩ := h5
  simp [Cond.before, Cond.holds, Cond.value, h1, h2, h3, h4, g1, g2, g3, g4, g5, g6]
def isCode : Jvm.Cond → Bool
  | .code _ _ _ _ => true
  | _ => false
theorem all_split {L : List Jvm.Cond} {P : Jvm.Cond → Bool} (h1 : L.all (fun c => isCode c || P c) = true) (h2 : ∀ c ∈ L.filter isCode, P c = true) : L.all P = true := by
  refine List.all_eq_true.mpr fun c hc => ?_
  have h := List.all_eq_true.mp h1 c hc
  rcases Bool.eq_false_or_eq_true (isCode c) with hi | hi
  · exact h2 c (List.mem_filter.mpr ⟨hc, hi⟩)
  · simpa [hi] using h
set_option maxRecDepth 65536 in
theorem w_c0 : (Jvm.Cond.code x code maxLocals ret).before args0 about1 = true := code_word (m := ⟨1, 1⟩) (meth := k1m1) (c := k1c1) (by decide +kernel) rfl rfl rfl (by decide +kernel)
set_option maxRecDepth 65536 in
theorem w_c1 : (Jvm.Cond.code ({ cls := "com/example/seshat/seshat/filter/Filter", name := "blocksFor", desc := "(I)I" } : Jvm.MethodName) prog_5_method_3_code (1 : Nat) (Option.some Jvm.ClassFile.FieldType.int)).before args0 about1 = true := code_word (m := ⟨2, 0⟩) (meth := k2m0) (c := k2c0) (by decide +kernel) rfl rfl rfl (by decide +kernel)
def codes1 : List Jvm.Cond := [Jvm.Cond.code x code maxLocals ret, Jvm.Cond.code ({ cls := "com/example/seshat/seshat/filter/Filter", name := "blocksFor", desc := "(I)I" } : Jvm.MethodName) prog_5_method_3_code (1 : Nat) (Option.some Jvm.ClassFile.FieldType.int)]
set_option maxRecDepth 65536 in
theorem codes_eq : words1.filter isCode = codes1 := rfl
theorem w_codes : ∀ c ∈ words1.filter isCode, c.before args0 about1 = true := by
  rw [codes_eq]
  intro c hc
  simp only [codes1, List.mem_cons, List.not_mem_nil, or_false] at hc
  rcases hc with rfl | rfl
  · exact w_c0
  · exact w_c1
set_option maxRecDepth 65536 in
theorem w_t1 : words1.all (fun c => isCode c || c.before args0 about1) = true := by decide +kernel
theorem w_tables : (allAtoms (Jvm.Cond.code x code maxLocals ret :: tables_1)).before args0 about1 = true := by
  rw [allAtoms_all]
  show words1.all (fun c => c.before args0 about1) = true
  refine all_split ?_ w_codes
  rw [w_t1]
set_option maxRecDepth 65536 in
theorem w_case : (Jvm.Cond.and given_1 narrow_1).before args0 about1 = true := by decide +kernel
theorem w_applies : (headSpec (Jvm.Cond.code x code maxLocals ret :: tables_1) room_1).applies x e0.platform about1 = true :=
  (Spec.applies_iff w_frames).mpr ⟨w_running, w_runnable, w_alone, w_named, w_hears, w_ripe, w_room, w_tables⟩
theorem atStart : AtStart classFile x code maxLocals ret World_1 tables_1 room_1 Calls_1 rest_1 Pre_1 launch0 p0 e0 about1 theMethod args0 below0 :=
  ⟨lists_1, trivial, launch0.admits_env _ _ _, launch0.least_env, fairChoices_fair.cas, fairChoices_fair.clock, w_frames, w_args, w_heap, w_applies, trivial, trivial, w_case⟩
end start1
theorem witness_1 : WitnessClaimed_1 := ⟨start1.p0, start1.e0, start1.about1, start1.theMethod, start1.args0, start1.below0, start1.atStart⟩
end Jvm.Pilot.@@N@@
