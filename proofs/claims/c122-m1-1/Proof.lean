import JvmDerived
import JvmDerived.Pilot.@@N@@Statement
import JvmDerived.Pilot.@@N@@Code
set_option linter.unusedVariables false
set_option linter.unusedSimpArgs false
@@BLOCK:NumsL.lean.txt@@
namespace Jvm.RoadKit
open Sem ClassFile Op Lib Jvm.Stand Jvm.Free Jvm.LawKit
section New
variable {p : Program} {l : Launch} {e : Env} {R : Room} {s : State} {m : MethodId} {args : Array Value} {below : List Frame} {meth : Method} {c : Code} {T : State} {locs : List Loc} {cells slots : Nat}
theorem retI (X : Stand p l e R s m args below meth c T locs cells slots) (hx : p.tables.exec = Jvm.exec) {pc : Nat} {Ls : Array Slot} {z : Int32} {rest : List Value} (hret : meth.sig.returnType = some .int) (hd : decode c.code pc = .ok (.ireturn, 1)) {fs : List Frame}
    (hl : ∀ (f : JFrame) (acts : List Action), f.method = m → f.locked = none → f.entered = [] → (doReturn e (T.setTop f) acts (some (.int z))).1 = T.setFrames fs) : Steps p.tables e below (T.setTop (mkF m pc Ls (.int z :: rest))) (T.setFrames fs) :=
  retOut X hx (w := .int z) (t := .int) (i := .ireturn) hret rfl (Or.inl ⟨rfl, Or.inl rfl, z, rfl⟩) hd hl
theorem retJ (X : Stand p l e R s m args below meth c T locs cells slots) (hx : p.tables.exec = Jvm.exec) {pc : Nat} {Ls : Array Slot} {z : Int64} {rest : List Value} (hret : meth.sig.returnType = some .long) (hd : decode c.code pc = .ok (.lreturn, 1)) {fs : List Frame}
    (hl : ∀ (f : JFrame) (acts : List Action), f.method = m → f.locked = none → f.entered = [] → (doReturn e (T.setTop f) acts (some (.long z))).1 = T.setFrames fs) : Steps p.tables e below (T.setTop (mkF m pc Ls (.long z :: rest))) (T.setFrames fs) :=
  retOut X hx (w := .long z) (t := .long) (i := .lreturn) hret rfl (Or.inr (Or.inl ⟨rfl, rfl, z, rfl⟩)) hd hl
theorem retA (X : Stand p l e R s m args below meth c T locs cells slots) (hx : p.tables.exec = Jvm.exec) {pc : Nat} {Ls : Array Slot} {w : Value} {t : FieldType} {rest : List Value} (hret : meth.sig.returnType = some t) (ht : t.isReference = true) (hw : w.isRef = true) (hn : narrow t w = w) (hd : decode c.code pc = .ok (.areturn, 1)) {fs : List Frame}
    (hl : ∀ (f : JFrame) (acts : List Action), f.method = m → f.locked = none → f.entered = [] → (doReturn e (T.setTop f) acts (some w)).1 = T.setFrames fs) : Steps p.tables e below (T.setTop (mkF m pc Ls (w :: rest))) (T.setFrames fs) :=
  retOut X hx (w := w) (t := t) (i := .areturn) hret hn (Or.inr (Or.inr (Or.inr (Or.inr ⟨rfl, ht, hw⟩)))) hd hl
end New
end Jvm.RoadKit
namespace Jvm.Pilot.@@N@@
open Jvm Jvm.ClassFile Sem Op Lib Jvm.Free Jvm.Stand Jvm.LawKit Jvm.RoadKit Bundle Jvm.Pilot.@@N@@.Jvm.D
/-- from S every run comes to T -/
abbrev Go (p : Program) (e : Env) (below : List Frame) (S T : State) : Prop := ∀ t, Steps p.tables e below T t → Steps p.tables e below S t

theorem own_ofNat {c : Int32} {n : Nat} (h : c.toInt = n) : c = Int32.ofNat n := by
  apply Int32.toInt_inj.mp
  have h2 := c.toInt_lt
  rw [Int32.toInt_ofNat', show Int32.size = 4294967296 from rfl, Int.bmod_eq_of_le (by omega) (by omega), h]
theorem own_char (x : Int32) : (x.toUInt32.toUInt16.toUInt32.toInt32).toInt = x.toInt % 65536 := by
  have h : (x.toUInt32.toUInt16.toUInt32.toInt32).toBitVec = (x.toBitVec.setWidth 16).setWidth 32 := rfl
  have h1 : (x.toUInt32.toUInt16.toUInt32.toInt32).toInt = ((x.toBitVec.setWidth 16).setWidth 32).toInt := by rw [← h]; rfl
  rw [h1, BitVec.toInt_eq_toNat_cond]
  have h3 : x.toInt = x.toBitVec.toInt := rfl
  rw [h3, BitVec.toInt_eq_toNat_cond]
  simp only [BitVec.toNat_setWidth]
  have := x.toBitVec.isLt
  split <;> split <;> omega


theorem own_m31 (x : Int32) : 0 ≤ (x &&& 2147483647).toInt := by
  have := Jvm.Kit.i32_mask x 2147483647 (k := 31) (by decide) (by decide); omega
theorem own_rem (x n : Int32) (hn : 0 < n.toInt) : 0 ≤ ((x &&& 2147483647) % n).toInt ∧ ((x &&& 2147483647) % n).toInt < n.toInt := by
  rw [Jvm.Kit.i32_rem_nonneg (own_m31 x)]
  exact ⟨Int.emod_nonneg _ (by omega), Int.emod_lt_of_pos _ hn⟩
theorem own_remeq (x y : Int32) : x - (x / y) * y = x % y := by
  apply Int32.toInt_inj.mp
  have a := (x % y).toInt_lt; have b := (x % y).le_toInt
  rw [Int32.toInt_mod] at a b ⊢
  rw [Int32.toInt_sub, Int32.toInt_mul, Int32.toInt_div, Int.bmod_mul_bmod, Int.sub_bmod_bmod, Int.mul_comm, ← Int.tmod_def]
  exact Jvm.Kit.bmod32 b a
theorem own_irem {tb : Tables} [Ours tb] {e : Env} {below : List Frame} {T target : State} {m : MethodId} {c : Code} {g : JFrame} (h : At T m c below) (hx : tb.exec = Jvm.exec) (hg : g.method = m) {x y : Int32} {rest : List Value} (hd : decode c.code g.pc = .ok (.irem, 1)) (hs : g.stack = .int y :: .int x :: rest) (hy : y ≠ 0)
    (hr : Steps tb e below (T.setTop { g with pc := g.pc + 1, stack := .int (x % y) :: rest }) target) : Steps tb e below (T.setTop g) target := XS.irem h hx hg hd hs hy (by rw [own_remeq]; exact hr)

theorem own_getD (ws : List Int32) (k : Nat) : (ws.map Value.int).getD k (.int (0 : Int32)) = .int (ws.getD k 0) := by
  induction ws generalizing k with
  | nil => rfl
  | cons a t ih => cases k with
    | zero => rfl
    | succ k => exact ih k
theorem ef_1 (m : MethodId) (p0 : Int32) : entryFrame m #[(.int p0)] 5 = mkF m 0 #[.val (.int p0), .unset, .unset, .unset, .unset] [] := by first | (simp [entryFrame, mkF, argsToLocals, Value.category]; done) | rfl
theorem d1_0 : decode prog_36_method_2_code 0 = .ok (.iload_n 0, 1) := by decide +kernel
theorem d1_1 : decode prog_36_method_2_code 1 = .ok (.iconst (-1), 1) := by decide +kernel
theorem d1_2 : decode prog_36_method_2_code 2 = .ok (.ixor, 1) := by decide +kernel
theorem d1_3 : decode prog_36_method_2_code 3 = .ok (.sipush 255, 3) := by decide +kernel
theorem d1_6 : decode prog_36_method_2_code 6 = .ok (.iand, 1) := by decide +kernel
theorem d1_7 : decode prog_36_method_2_code 7 = .ok (.istore_n 1, 1) := by decide +kernel
theorem d1_8 : decode prog_36_method_2_code 8 = .ok (.iload_n 1, 1) := by decide +kernel
theorem d1_9 : decode prog_36_method_2_code 9 = .ok (.iconst 4, 1) := by decide +kernel
theorem d1_10 : decode prog_36_method_2_code 10 = .ok (.ishr, 1) := by decide +kernel
theorem d1_11 : decode prog_36_method_2_code 11 = .ok (.bipush 7, 2) := by decide +kernel
theorem d1_13 : decode prog_36_method_2_code 13 = .ok (.iand, 1) := by decide +kernel
theorem d1_14 : decode prog_36_method_2_code 14 = .ok (.istore_n 2, 1) := by decide +kernel
theorem d1_15 : decode prog_36_method_2_code 15 = .ok (.iload_n 1, 1) := by decide +kernel
theorem d1_16 : decode prog_36_method_2_code 16 = .ok (.bipush 15, 2) := by decide +kernel
theorem d1_18 : decode prog_36_method_2_code 18 = .ok (.iand, 1) := by decide +kernel
theorem d1_19 : decode prog_36_method_2_code 19 = .ok (.istore_n 3, 1) := by decide +kernel
theorem d1_20 : decode prog_36_method_2_code 20 = .ok (.iload_n 3, 1) := by decide +kernel
theorem d1_21 : decode prog_36_method_2_code 21 = .ok (.iconst 3, 1) := by decide +kernel
theorem d1_22 : decode prog_36_method_2_code 22 = .ok (.ishl, 1) := by decide +kernel
theorem d1_23 : decode prog_36_method_2_code 23 = .ok (.sipush 132, 3) := by decide +kernel
theorem d1_26 : decode prog_36_method_2_code 26 = .ok (.iadd, 1) := by decide +kernel
theorem d1_27 : decode prog_36_method_2_code 27 = .ok (.iload_n 2, 1) := by decide +kernel
theorem d1_28 : decode prog_36_method_2_code 28 = .ok (.ishl, 1) := by decide +kernel
theorem d1_29 : decode prog_36_method_2_code 29 = .ok (.sipush 132, 3) := by decide +kernel
theorem d1_32 : decode prog_36_method_2_code 32 = .ok (.isub, 1) := by decide +kernel
theorem d1_33 : decode prog_36_method_2_code 33 = .ok (.istore 4, 2) := by decide +kernel
theorem d1_35 : decode prog_36_method_2_code 35 = .ok (.iload_n 1, 1) := by decide +kernel
theorem d1_36 : decode prog_36_method_2_code 36 = .ok (.sipush 128, 3) := by decide +kernel
theorem d1_39 : decode prog_36_method_2_code 39 = .ok (.iand, 1) := by decide +kernel
theorem d1_40 : decode prog_36_method_2_code 40 = .ok (.ifCond .eq 9, 3) := by decide +kernel
theorem d1_49 : decode prog_36_method_2_code 49 = .ok (.iload 4, 2) := by decide +kernel
theorem d1_51 : decode prog_36_method_2_code 51 = .ok (.i2s, 1) := by decide +kernel
theorem d1_52 : decode prog_36_method_2_code 52 = .ok (.ireturn, 1) := by decide +kernel
theorem d1_43 : decode prog_36_method_2_code 43 = .ok (.iload 4, 2) := by decide +kernel
theorem d1_45 : decode prog_36_method_2_code 45 = .ok (.ineg, 1) := by decide +kernel
theorem d1_46 : decode prog_36_method_2_code 46 = .ok (.goto 5, 3) := by decide +kernel
def f1 (p0 : Int32) : Int32 := (if (((p0 ^^^ (-1 : Int32)) &&& (255 : Int32)) &&& (128 : Int32)) = (0 : Int32) then (nar .short (((((((((((p0 ^^^ (-1 : Int32)) &&& (255 : Int32)) &&& (15 : Int32)) <<< ((3 : Int32) &&& 31))) + (132 : Int32)) <<< ((((((p0 ^^^ (-1 : Int32)) &&& (255 : Int32)) >>> ((4 : Int32) &&& 31))) &&& (7 : Int32)) &&& 31))) - (132 : Int32))).toInt16.toInt32)) else (nar .short ((((-(((((((((p0 ^^^ (-1 : Int32)) &&& (255 : Int32)) &&& (15 : Int32)) <<< ((3 : Int32) &&& 31))) + (132 : Int32)) <<< ((((((p0 ^^^ (-1 : Int32)) &&& (255 : Int32)) >>> ((4 : Int32) &&& 31))) &&& (7 : Int32)) &&& 31))) - (132 : Int32))))).toInt16.toInt32)))
def Q1 (Z : State) (p0 : Int32) (h0 : Heap) (n0 : Nat) (v : Option Value) (h : Heap) (L : List Loc) : Prop := v = some (.int (f1 p0)) ∧ Fr n0 L ∧ h = h0
set_option maxRecDepth 65536 in
set_option maxHeartbeats 40000000 in
theorem pn_com_example_patchcord_patchcord_media_G711 : plainName "com/example/patchcord/patchcord/media/G711" = true := by first | (simp [plainName, overriddenIn]; done) | decide +kernel
theorem rm1 (l : Launch) (Z : State) (a0 : Array Value) (hw : ∀ d ∈ tables_1, d.before a0 Z = true) (ws : List Jvm.Cond) (p0 : Int32) (h0 : Heap) (n0 : Nat) (Z0 : n0 ≤ h0.size) :
    MetFree l (⟨"com/example/patchcord/patchcord/media/G711", "ulawToLinear", "(B)S"⟩ : MethodName) (head1 (Jvm.Cond.code (⟨"com/example/patchcord/patchcord/media/G711", "ulawToLinear", "(B)S"⟩ : MethodName) prog_36_method_2_code 5 (some .short) :: ws) ({ frames := 0, cells := 0, slots := 0, locals := 0 } : Room)) (fun a U => a = #[(.int p0)] ∧ Z.Warmed39 U.vm ∧ U.heap = h0) (fun _ _ _ _ _ => True) (fun _ U o U' => ∃ v L, o = .returned v ∧ Q1 Z p0 h0 n0 v U'.heap L ∧ FrameEnd U o U' L ({ frames := 0, cells := 0, slots := 0, locals := 0 } : Room).cells ({ frames := 0, cells := 0, slots := 0, locals := 0 } : Room).slots) := by
  refine MetFree.of_bodySF (plainFor_of_name pn_com_example_patchcord_patchcord_media_G711) hisR ?_
  intro p e s m args below meth c s₁ Bd hml0 hP hK
  obtain ⟨rfl, hZ, hh⟩ := hP
  have hx := Bd.exec
  have hby := Bd.bytes
  have hml : c.maxLocals = 5 := hml0
  have hown : s.vm.findClass "com/example/patchcord/patchcord/media/G711" = some m.cls := findClass_of_methodNamed Bd.named
  have hnm := (name_of_methodNamed Bd.named Bd.method).1
  have X0 : Stand p l e ({ frames := 0, cells := 0, slots := 0, locals := 0 } : Room) s m #[(.int p0)] below meth c s₁ [] 0 0 := Stand.of_body Bd
  have e0 : s₁.heap = h0 := by rw [← hh, Bd.state]; rfl
  have N0 := Fr.nil n0
  have pre0 : Go p e below (s₁.setTop (entryFrame m #[(.int p0)] 5)) (s₁.setTop (mkF m 0 #[.val (.int p0), .unset, .unset, .unset, .unset] [])) := fun t k => castTop (ef_1 m p0) k
  have pre1 : Go p e below (s₁.setTop (entryFrame m #[(.int p0)] 5)) (s₁.setTop (mkF m 40 #[.val (.int p0), .val (.int ((p0 ^^^ (-1 : Int32)) &&& (255 : Int32))), .val (.int (((((p0 ^^^ (-1 : Int32)) &&& (255 : Int32)) >>> ((4 : Int32) &&& 31))) &&& (7 : Int32))), .val (.int (((p0 ^^^ (-1 : Int32)) &&& (255 : Int32)) &&& (15 : Int32))), .val (.int (((((((((p0 ^^^ (-1 : Int32)) &&& (255 : Int32)) &&& (15 : Int32)) <<< ((3 : Int32) &&& 31))) + (132 : Int32)) <<< ((((((p0 ^^^ (-1 : Int32)) &&& (255 : Int32)) >>> ((4 : Int32) &&& 31))) &&& (7 : Int32)) &&& 31))) - (132 : Int32)))] [(.int (((p0 ^^^ (-1 : Int32)) &&& (255 : Int32)) &&& (128 : Int32)))])) := by
    intro t k
    refine pre0 t ?_
    show Steps p.tables e below (s₁.setTop (mkF m 0 #[.val (.int p0), .unset, .unset, .unset, .unset] [])) _
    refine XS.iloadN X0.here hx rfl (hb hby d1_0) rfl ?_
    show Steps p.tables e below (s₁.setTop (mkF m 1 #[.val (.int p0), .unset, .unset, .unset, .unset] [(.int p0)])) _
    refine XS.iconst X0.here hx rfl (hb hby d1_1) ?_
    show Steps p.tables e below (s₁.setTop (mkF m 2 #[.val (.int p0), .unset, .unset, .unset, .unset] [(.int (-1 : Int32)), (.int p0)])) _
    refine XS.ixor X0.here hx rfl (hb hby d1_2) rfl ?_
    show Steps p.tables e below (s₁.setTop (mkF m 3 #[.val (.int p0), .unset, .unset, .unset, .unset] [(.int (p0 ^^^ (-1 : Int32)))])) _
    refine XS.sipush X0.here hx rfl (hb hby d1_3) ?_
    show Steps p.tables e below (s₁.setTop (mkF m 6 #[.val (.int p0), .unset, .unset, .unset, .unset] [(.int (255 : Int32)), (.int (p0 ^^^ (-1 : Int32)))])) _
    refine XS.iand X0.here hx rfl (hb hby d1_6) rfl ?_
    show Steps p.tables e below (s₁.setTop (mkF m 7 #[.val (.int p0), .unset, .unset, .unset, .unset] [(.int ((p0 ^^^ (-1 : Int32)) &&& (255 : Int32)))])) _
    refine XS.istoreN X0.here hx rfl (hb hby d1_7) rfl (l' := #[.val (.int p0), .val (.int ((p0 ^^^ (-1 : Int32)) &&& (255 : Int32))), .unset, .unset, .unset]) rfl ?_
    show Steps p.tables e below (s₁.setTop (mkF m 8 #[.val (.int p0), .val (.int ((p0 ^^^ (-1 : Int32)) &&& (255 : Int32))), .unset, .unset, .unset] [])) _
    refine XS.iloadN X0.here hx rfl (hb hby d1_8) rfl ?_
    show Steps p.tables e below (s₁.setTop (mkF m 9 #[.val (.int p0), .val (.int ((p0 ^^^ (-1 : Int32)) &&& (255 : Int32))), .unset, .unset, .unset] [(.int ((p0 ^^^ (-1 : Int32)) &&& (255 : Int32)))])) _
    refine XS.iconst X0.here hx rfl (hb hby d1_9) ?_
    show Steps p.tables e below (s₁.setTop (mkF m 10 #[.val (.int p0), .val (.int ((p0 ^^^ (-1 : Int32)) &&& (255 : Int32))), .unset, .unset, .unset] [(.int (4 : Int32)), (.int ((p0 ^^^ (-1 : Int32)) &&& (255 : Int32)))])) _
    refine XS.ishr X0.here hx rfl (hb hby d1_10) rfl ?_
    show Steps p.tables e below (s₁.setTop (mkF m 11 #[.val (.int p0), .val (.int ((p0 ^^^ (-1 : Int32)) &&& (255 : Int32))), .unset, .unset, .unset] [(.int ((((p0 ^^^ (-1 : Int32)) &&& (255 : Int32)) >>> ((4 : Int32) &&& 31))))])) _
    refine XS.bipush X0.here hx rfl (hb hby d1_11) ?_
    show Steps p.tables e below (s₁.setTop (mkF m 13 #[.val (.int p0), .val (.int ((p0 ^^^ (-1 : Int32)) &&& (255 : Int32))), .unset, .unset, .unset] [(.int (7 : Int32)), (.int ((((p0 ^^^ (-1 : Int32)) &&& (255 : Int32)) >>> ((4 : Int32) &&& 31))))])) _
    refine XS.iand X0.here hx rfl (hb hby d1_13) rfl ?_
    show Steps p.tables e below (s₁.setTop (mkF m 14 #[.val (.int p0), .val (.int ((p0 ^^^ (-1 : Int32)) &&& (255 : Int32))), .unset, .unset, .unset] [(.int (((((p0 ^^^ (-1 : Int32)) &&& (255 : Int32)) >>> ((4 : Int32) &&& 31))) &&& (7 : Int32)))])) _
    refine XS.istoreN X0.here hx rfl (hb hby d1_14) rfl (l' := #[.val (.int p0), .val (.int ((p0 ^^^ (-1 : Int32)) &&& (255 : Int32))), .val (.int (((((p0 ^^^ (-1 : Int32)) &&& (255 : Int32)) >>> ((4 : Int32) &&& 31))) &&& (7 : Int32))), .unset, .unset]) rfl ?_
    show Steps p.tables e below (s₁.setTop (mkF m 15 #[.val (.int p0), .val (.int ((p0 ^^^ (-1 : Int32)) &&& (255 : Int32))), .val (.int (((((p0 ^^^ (-1 : Int32)) &&& (255 : Int32)) >>> ((4 : Int32) &&& 31))) &&& (7 : Int32))), .unset, .unset] [])) _
    refine XS.iloadN X0.here hx rfl (hb hby d1_15) rfl ?_
    show Steps p.tables e below (s₁.setTop (mkF m 16 #[.val (.int p0), .val (.int ((p0 ^^^ (-1 : Int32)) &&& (255 : Int32))), .val (.int (((((p0 ^^^ (-1 : Int32)) &&& (255 : Int32)) >>> ((4 : Int32) &&& 31))) &&& (7 : Int32))), .unset, .unset] [(.int ((p0 ^^^ (-1 : Int32)) &&& (255 : Int32)))])) _
    refine XS.bipush X0.here hx rfl (hb hby d1_16) ?_
    show Steps p.tables e below (s₁.setTop (mkF m 18 #[.val (.int p0), .val (.int ((p0 ^^^ (-1 : Int32)) &&& (255 : Int32))), .val (.int (((((p0 ^^^ (-1 : Int32)) &&& (255 : Int32)) >>> ((4 : Int32) &&& 31))) &&& (7 : Int32))), .unset, .unset] [(.int (15 : Int32)), (.int ((p0 ^^^ (-1 : Int32)) &&& (255 : Int32)))])) _
    refine XS.iand X0.here hx rfl (hb hby d1_18) rfl ?_
    show Steps p.tables e below (s₁.setTop (mkF m 19 #[.val (.int p0), .val (.int ((p0 ^^^ (-1 : Int32)) &&& (255 : Int32))), .val (.int (((((p0 ^^^ (-1 : Int32)) &&& (255 : Int32)) >>> ((4 : Int32) &&& 31))) &&& (7 : Int32))), .unset, .unset] [(.int (((p0 ^^^ (-1 : Int32)) &&& (255 : Int32)) &&& (15 : Int32)))])) _
    refine XS.istoreN X0.here hx rfl (hb hby d1_19) rfl (l' := #[.val (.int p0), .val (.int ((p0 ^^^ (-1 : Int32)) &&& (255 : Int32))), .val (.int (((((p0 ^^^ (-1 : Int32)) &&& (255 : Int32)) >>> ((4 : Int32) &&& 31))) &&& (7 : Int32))), .val (.int (((p0 ^^^ (-1 : Int32)) &&& (255 : Int32)) &&& (15 : Int32))), .unset]) rfl ?_
    show Steps p.tables e below (s₁.setTop (mkF m 20 #[.val (.int p0), .val (.int ((p0 ^^^ (-1 : Int32)) &&& (255 : Int32))), .val (.int (((((p0 ^^^ (-1 : Int32)) &&& (255 : Int32)) >>> ((4 : Int32) &&& 31))) &&& (7 : Int32))), .val (.int (((p0 ^^^ (-1 : Int32)) &&& (255 : Int32)) &&& (15 : Int32))), .unset] [])) _
    refine XS.iloadN X0.here hx rfl (hb hby d1_20) rfl ?_
    show Steps p.tables e below (s₁.setTop (mkF m 21 #[.val (.int p0), .val (.int ((p0 ^^^ (-1 : Int32)) &&& (255 : Int32))), .val (.int (((((p0 ^^^ (-1 : Int32)) &&& (255 : Int32)) >>> ((4 : Int32) &&& 31))) &&& (7 : Int32))), .val (.int (((p0 ^^^ (-1 : Int32)) &&& (255 : Int32)) &&& (15 : Int32))), .unset] [(.int (((p0 ^^^ (-1 : Int32)) &&& (255 : Int32)) &&& (15 : Int32)))])) _
    refine XS.iconst X0.here hx rfl (hb hby d1_21) ?_
    show Steps p.tables e below (s₁.setTop (mkF m 22 #[.val (.int p0), .val (.int ((p0 ^^^ (-1 : Int32)) &&& (255 : Int32))), .val (.int (((((p0 ^^^ (-1 : Int32)) &&& (255 : Int32)) >>> ((4 : Int32) &&& 31))) &&& (7 : Int32))), .val (.int (((p0 ^^^ (-1 : Int32)) &&& (255 : Int32)) &&& (15 : Int32))), .unset] [(.int (3 : Int32)), (.int (((p0 ^^^ (-1 : Int32)) &&& (255 : Int32)) &&& (15 : Int32)))])) _
    refine XS.ishl X0.here hx rfl (hb hby d1_22) rfl ?_
    show Steps p.tables e below (s₁.setTop (mkF m 23 #[.val (.int p0), .val (.int ((p0 ^^^ (-1 : Int32)) &&& (255 : Int32))), .val (.int (((((p0 ^^^ (-1 : Int32)) &&& (255 : Int32)) >>> ((4 : Int32) &&& 31))) &&& (7 : Int32))), .val (.int (((p0 ^^^ (-1 : Int32)) &&& (255 : Int32)) &&& (15 : Int32))), .unset] [(.int (((((p0 ^^^ (-1 : Int32)) &&& (255 : Int32)) &&& (15 : Int32)) <<< ((3 : Int32) &&& 31))))])) _
    refine XS.sipush X0.here hx rfl (hb hby d1_23) ?_
    show Steps p.tables e below (s₁.setTop (mkF m 26 #[.val (.int p0), .val (.int ((p0 ^^^ (-1 : Int32)) &&& (255 : Int32))), .val (.int (((((p0 ^^^ (-1 : Int32)) &&& (255 : Int32)) >>> ((4 : Int32) &&& 31))) &&& (7 : Int32))), .val (.int (((p0 ^^^ (-1 : Int32)) &&& (255 : Int32)) &&& (15 : Int32))), .unset] [(.int (132 : Int32)), (.int (((((p0 ^^^ (-1 : Int32)) &&& (255 : Int32)) &&& (15 : Int32)) <<< ((3 : Int32) &&& 31))))])) _
    refine XS.iadd X0.here hx rfl (hb hby d1_26) rfl ?_
    show Steps p.tables e below (s₁.setTop (mkF m 27 #[.val (.int p0), .val (.int ((p0 ^^^ (-1 : Int32)) &&& (255 : Int32))), .val (.int (((((p0 ^^^ (-1 : Int32)) &&& (255 : Int32)) >>> ((4 : Int32) &&& 31))) &&& (7 : Int32))), .val (.int (((p0 ^^^ (-1 : Int32)) &&& (255 : Int32)) &&& (15 : Int32))), .unset] [(.int ((((((p0 ^^^ (-1 : Int32)) &&& (255 : Int32)) &&& (15 : Int32)) <<< ((3 : Int32) &&& 31))) + (132 : Int32)))])) _
    refine XS.iloadN X0.here hx rfl (hb hby d1_27) rfl ?_
    show Steps p.tables e below (s₁.setTop (mkF m 28 #[.val (.int p0), .val (.int ((p0 ^^^ (-1 : Int32)) &&& (255 : Int32))), .val (.int (((((p0 ^^^ (-1 : Int32)) &&& (255 : Int32)) >>> ((4 : Int32) &&& 31))) &&& (7 : Int32))), .val (.int (((p0 ^^^ (-1 : Int32)) &&& (255 : Int32)) &&& (15 : Int32))), .unset] [(.int (((((p0 ^^^ (-1 : Int32)) &&& (255 : Int32)) >>> ((4 : Int32) &&& 31))) &&& (7 : Int32))), (.int ((((((p0 ^^^ (-1 : Int32)) &&& (255 : Int32)) &&& (15 : Int32)) <<< ((3 : Int32) &&& 31))) + (132 : Int32)))])) _
    refine XS.ishl X0.here hx rfl (hb hby d1_28) rfl ?_
    show Steps p.tables e below (s₁.setTop (mkF m 29 #[.val (.int p0), .val (.int ((p0 ^^^ (-1 : Int32)) &&& (255 : Int32))), .val (.int (((((p0 ^^^ (-1 : Int32)) &&& (255 : Int32)) >>> ((4 : Int32) &&& 31))) &&& (7 : Int32))), .val (.int (((p0 ^^^ (-1 : Int32)) &&& (255 : Int32)) &&& (15 : Int32))), .unset] [(.int ((((((((p0 ^^^ (-1 : Int32)) &&& (255 : Int32)) &&& (15 : Int32)) <<< ((3 : Int32) &&& 31))) + (132 : Int32)) <<< ((((((p0 ^^^ (-1 : Int32)) &&& (255 : Int32)) >>> ((4 : Int32) &&& 31))) &&& (7 : Int32)) &&& 31))))])) _
    refine XS.sipush X0.here hx rfl (hb hby d1_29) ?_
    show Steps p.tables e below (s₁.setTop (mkF m 32 #[.val (.int p0), .val (.int ((p0 ^^^ (-1 : Int32)) &&& (255 : Int32))), .val (.int (((((p0 ^^^ (-1 : Int32)) &&& (255 : Int32)) >>> ((4 : Int32) &&& 31))) &&& (7 : Int32))), .val (.int (((p0 ^^^ (-1 : Int32)) &&& (255 : Int32)) &&& (15 : Int32))), .unset] [(.int (132 : Int32)), (.int ((((((((p0 ^^^ (-1 : Int32)) &&& (255 : Int32)) &&& (15 : Int32)) <<< ((3 : Int32) &&& 31))) + (132 : Int32)) <<< ((((((p0 ^^^ (-1 : Int32)) &&& (255 : Int32)) >>> ((4 : Int32) &&& 31))) &&& (7 : Int32)) &&& 31))))])) _
    refine XS.isub X0.here hx rfl (hb hby d1_32) rfl ?_
    show Steps p.tables e below (s₁.setTop (mkF m 33 #[.val (.int p0), .val (.int ((p0 ^^^ (-1 : Int32)) &&& (255 : Int32))), .val (.int (((((p0 ^^^ (-1 : Int32)) &&& (255 : Int32)) >>> ((4 : Int32) &&& 31))) &&& (7 : Int32))), .val (.int (((p0 ^^^ (-1 : Int32)) &&& (255 : Int32)) &&& (15 : Int32))), .unset] [(.int (((((((((p0 ^^^ (-1 : Int32)) &&& (255 : Int32)) &&& (15 : Int32)) <<< ((3 : Int32) &&& 31))) + (132 : Int32)) <<< ((((((p0 ^^^ (-1 : Int32)) &&& (255 : Int32)) >>> ((4 : Int32) &&& 31))) &&& (7 : Int32)) &&& 31))) - (132 : Int32)))])) _
    refine XS.istore X0.here hx rfl (hb hby d1_33) rfl (l' := #[.val (.int p0), .val (.int ((p0 ^^^ (-1 : Int32)) &&& (255 : Int32))), .val (.int (((((p0 ^^^ (-1 : Int32)) &&& (255 : Int32)) >>> ((4 : Int32) &&& 31))) &&& (7 : Int32))), .val (.int (((p0 ^^^ (-1 : Int32)) &&& (255 : Int32)) &&& (15 : Int32))), .val (.int (((((((((p0 ^^^ (-1 : Int32)) &&& (255 : Int32)) &&& (15 : Int32)) <<< ((3 : Int32) &&& 31))) + (132 : Int32)) <<< ((((((p0 ^^^ (-1 : Int32)) &&& (255 : Int32)) >>> ((4 : Int32) &&& 31))) &&& (7 : Int32)) &&& 31))) - (132 : Int32)))]) rfl ?_
    show Steps p.tables e below (s₁.setTop (mkF m 35 #[.val (.int p0), .val (.int ((p0 ^^^ (-1 : Int32)) &&& (255 : Int32))), .val (.int (((((p0 ^^^ (-1 : Int32)) &&& (255 : Int32)) >>> ((4 : Int32) &&& 31))) &&& (7 : Int32))), .val (.int (((p0 ^^^ (-1 : Int32)) &&& (255 : Int32)) &&& (15 : Int32))), .val (.int (((((((((p0 ^^^ (-1 : Int32)) &&& (255 : Int32)) &&& (15 : Int32)) <<< ((3 : Int32) &&& 31))) + (132 : Int32)) <<< ((((((p0 ^^^ (-1 : Int32)) &&& (255 : Int32)) >>> ((4 : Int32) &&& 31))) &&& (7 : Int32)) &&& 31))) - (132 : Int32)))] [])) _
    refine XS.iloadN X0.here hx rfl (hb hby d1_35) rfl ?_
    show Steps p.tables e below (s₁.setTop (mkF m 36 #[.val (.int p0), .val (.int ((p0 ^^^ (-1 : Int32)) &&& (255 : Int32))), .val (.int (((((p0 ^^^ (-1 : Int32)) &&& (255 : Int32)) >>> ((4 : Int32) &&& 31))) &&& (7 : Int32))), .val (.int (((p0 ^^^ (-1 : Int32)) &&& (255 : Int32)) &&& (15 : Int32))), .val (.int (((((((((p0 ^^^ (-1 : Int32)) &&& (255 : Int32)) &&& (15 : Int32)) <<< ((3 : Int32) &&& 31))) + (132 : Int32)) <<< ((((((p0 ^^^ (-1 : Int32)) &&& (255 : Int32)) >>> ((4 : Int32) &&& 31))) &&& (7 : Int32)) &&& 31))) - (132 : Int32)))] [(.int ((p0 ^^^ (-1 : Int32)) &&& (255 : Int32)))])) _
    refine XS.sipush X0.here hx rfl (hb hby d1_36) ?_
    show Steps p.tables e below (s₁.setTop (mkF m 39 #[.val (.int p0), .val (.int ((p0 ^^^ (-1 : Int32)) &&& (255 : Int32))), .val (.int (((((p0 ^^^ (-1 : Int32)) &&& (255 : Int32)) >>> ((4 : Int32) &&& 31))) &&& (7 : Int32))), .val (.int (((p0 ^^^ (-1 : Int32)) &&& (255 : Int32)) &&& (15 : Int32))), .val (.int (((((((((p0 ^^^ (-1 : Int32)) &&& (255 : Int32)) &&& (15 : Int32)) <<< ((3 : Int32) &&& 31))) + (132 : Int32)) <<< ((((((p0 ^^^ (-1 : Int32)) &&& (255 : Int32)) >>> ((4 : Int32) &&& 31))) &&& (7 : Int32)) &&& 31))) - (132 : Int32)))] [(.int (128 : Int32)), (.int ((p0 ^^^ (-1 : Int32)) &&& (255 : Int32)))])) _
    refine XS.iand X0.here hx rfl (hb hby d1_39) rfl ?_
    show Steps p.tables e below (s₁.setTop (mkF m 40 #[.val (.int p0), .val (.int ((p0 ^^^ (-1 : Int32)) &&& (255 : Int32))), .val (.int (((((p0 ^^^ (-1 : Int32)) &&& (255 : Int32)) >>> ((4 : Int32) &&& 31))) &&& (7 : Int32))), .val (.int (((p0 ^^^ (-1 : Int32)) &&& (255 : Int32)) &&& (15 : Int32))), .val (.int (((((((((p0 ^^^ (-1 : Int32)) &&& (255 : Int32)) &&& (15 : Int32)) <<< ((3 : Int32) &&& 31))) + (132 : Int32)) <<< ((((((p0 ^^^ (-1 : Int32)) &&& (255 : Int32)) >>> ((4 : Int32) &&& 31))) &&& (7 : Int32)) &&& 31))) - (132 : Int32)))] [(.int (((p0 ^^^ (-1 : Int32)) &&& (255 : Int32)) &&& (128 : Int32)))])) _
    exact k
  by_cases hc40_2 : (((p0 ^^^ (-1 : Int32)) &&& (255 : Int32)) &&& (128 : Int32)) = (0 : Int32)
  · skip
    have pre3 : Go p e below (s₁.setTop (entryFrame m #[(.int p0)] 5)) (s₁.setTop (mkF m 52 #[.val (.int p0), .val (.int ((p0 ^^^ (-1 : Int32)) &&& (255 : Int32))), .val (.int (((((p0 ^^^ (-1 : Int32)) &&& (255 : Int32)) >>> ((4 : Int32) &&& 31))) &&& (7 : Int32))), .val (.int (((p0 ^^^ (-1 : Int32)) &&& (255 : Int32)) &&& (15 : Int32))), .val (.int (((((((((p0 ^^^ (-1 : Int32)) &&& (255 : Int32)) &&& (15 : Int32)) <<< ((3 : Int32) &&& 31))) + (132 : Int32)) <<< ((((((p0 ^^^ (-1 : Int32)) &&& (255 : Int32)) >>> ((4 : Int32) &&& 31))) &&& (7 : Int32)) &&& 31))) - (132 : Int32)))] [(.int (((((((((((p0 ^^^ (-1 : Int32)) &&& (255 : Int32)) &&& (15 : Int32)) <<< ((3 : Int32) &&& 31))) + (132 : Int32)) <<< ((((((p0 ^^^ (-1 : Int32)) &&& (255 : Int32)) >>> ((4 : Int32) &&& 31))) &&& (7 : Int32)) &&& 31))) - (132 : Int32))).toInt16.toInt32))])) := by
      intro t k
      refine pre1 t ?_
      show Steps p.tables e below (s₁.setTop (mkF m 40 #[.val (.int p0), .val (.int ((p0 ^^^ (-1 : Int32)) &&& (255 : Int32))), .val (.int (((((p0 ^^^ (-1 : Int32)) &&& (255 : Int32)) >>> ((4 : Int32) &&& 31))) &&& (7 : Int32))), .val (.int (((p0 ^^^ (-1 : Int32)) &&& (255 : Int32)) &&& (15 : Int32))), .val (.int (((((((((p0 ^^^ (-1 : Int32)) &&& (255 : Int32)) &&& (15 : Int32)) <<< ((3 : Int32) &&& 31))) + (132 : Int32)) <<< ((((((p0 ^^^ (-1 : Int32)) &&& (255 : Int32)) >>> ((4 : Int32) &&& 31))) &&& (7 : Int32)) &&& 31))) - (132 : Int32)))] [(.int (((p0 ^^^ (-1 : Int32)) &&& (255 : Int32)) &&& (128 : Int32)))])) _
      refine XS.ifYes X0.here hx rfl (pc0 := 40) (pc' := 49) rfl (hb hby d1_40) rfl (XT.i0_eq_t hc40_2) (by decide) (by decide) ?_
      show Steps p.tables e below (s₁.setTop (mkF m 49 #[.val (.int p0), .val (.int ((p0 ^^^ (-1 : Int32)) &&& (255 : Int32))), .val (.int (((((p0 ^^^ (-1 : Int32)) &&& (255 : Int32)) >>> ((4 : Int32) &&& 31))) &&& (7 : Int32))), .val (.int (((p0 ^^^ (-1 : Int32)) &&& (255 : Int32)) &&& (15 : Int32))), .val (.int (((((((((p0 ^^^ (-1 : Int32)) &&& (255 : Int32)) &&& (15 : Int32)) <<< ((3 : Int32) &&& 31))) + (132 : Int32)) <<< ((((((p0 ^^^ (-1 : Int32)) &&& (255 : Int32)) >>> ((4 : Int32) &&& 31))) &&& (7 : Int32)) &&& 31))) - (132 : Int32)))] [])) _
      refine XS.iload X0.here hx rfl (hb hby d1_49) rfl ?_
      show Steps p.tables e below (s₁.setTop (mkF m 51 #[.val (.int p0), .val (.int ((p0 ^^^ (-1 : Int32)) &&& (255 : Int32))), .val (.int (((((p0 ^^^ (-1 : Int32)) &&& (255 : Int32)) >>> ((4 : Int32) &&& 31))) &&& (7 : Int32))), .val (.int (((p0 ^^^ (-1 : Int32)) &&& (255 : Int32)) &&& (15 : Int32))), .val (.int (((((((((p0 ^^^ (-1 : Int32)) &&& (255 : Int32)) &&& (15 : Int32)) <<< ((3 : Int32) &&& 31))) + (132 : Int32)) <<< ((((((p0 ^^^ (-1 : Int32)) &&& (255 : Int32)) >>> ((4 : Int32) &&& 31))) &&& (7 : Int32)) &&& 31))) - (132 : Int32)))] [(.int (((((((((p0 ^^^ (-1 : Int32)) &&& (255 : Int32)) &&& (15 : Int32)) <<< ((3 : Int32) &&& 31))) + (132 : Int32)) <<< ((((((p0 ^^^ (-1 : Int32)) &&& (255 : Int32)) >>> ((4 : Int32) &&& 31))) &&& (7 : Int32)) &&& 31))) - (132 : Int32)))])) _
      refine XS.i2s X0.here hx rfl (hb hby d1_51) rfl ?_
      show Steps p.tables e below (s₁.setTop (mkF m 52 #[.val (.int p0), .val (.int ((p0 ^^^ (-1 : Int32)) &&& (255 : Int32))), .val (.int (((((p0 ^^^ (-1 : Int32)) &&& (255 : Int32)) >>> ((4 : Int32) &&& 31))) &&& (7 : Int32))), .val (.int (((p0 ^^^ (-1 : Int32)) &&& (255 : Int32)) &&& (15 : Int32))), .val (.int (((((((((p0 ^^^ (-1 : Int32)) &&& (255 : Int32)) &&& (15 : Int32)) <<< ((3 : Int32) &&& 31))) + (132 : Int32)) <<< ((((((p0 ^^^ (-1 : Int32)) &&& (255 : Int32)) >>> ((4 : Int32) &&& 31))) &&& (7 : Int32)) &&& 31))) - (132 : Int32)))] [(.int (((((((((((p0 ^^^ (-1 : Int32)) &&& (255 : Int32)) &&& (15 : Int32)) <<< ((3 : Int32) &&& 31))) + (132 : Int32)) <<< ((((((p0 ^^^ (-1 : Int32)) &&& (255 : Int32)) >>> ((4 : Int32) &&& 31))) &&& (7 : Int32)) &&& 31))) - (132 : Int32))).toInt16.toInt32))])) _
      exact k
    obtain ⟨fs, hr, hrun, hended, hW, hsame⟩ := X0.leave (v := some (.int (nar .short (((((((((((p0 ^^^ (-1 : Int32)) &&& (255 : Int32)) &&& (15 : Int32)) <<< ((3 : Int32) &&& 31))) + (132 : Int32)) <<< ((((((p0 ^^^ (-1 : Int32)) &&& (255 : Int32)) >>> ((4 : Int32) &&& 31))) &&& (7 : Int32)) &&& 31))) - (132 : Int32))).toInt16.toInt32)))) (fun h => by rw [Bd.returns] at h; cases h)
    refine ⟨_, _, pre3 _ (retN X0 hx (t := .short) Bd.returns (by simp) (hb hby d1_52) hr), hrun, hended, _, _, rfl, ?_, ⟨_, rfl⟩, hW, hsame.mono (by decide) (by decide)⟩
    show Q1 Z p0 h0 n0 _ s₁.heap _
    rw [e0]
    exact ⟨congrArg some (congrArg Value.int (show (nar .short (((((((((((p0 ^^^ (-1 : Int32)) &&& (255 : Int32)) &&& (15 : Int32)) <<< ((3 : Int32) &&& 31))) + (132 : Int32)) <<< ((((((p0 ^^^ (-1 : Int32)) &&& (255 : Int32)) >>> ((4 : Int32) &&& 31))) &&& (7 : Int32)) &&& 31))) - (132 : Int32))).toInt16.toInt32)) = f1 p0 from by rw [f1, if_pos hc40_2])), N0, rfl⟩
  · skip
    have pre4 : Go p e below (s₁.setTop (entryFrame m #[(.int p0)] 5)) (s₁.setTop (mkF m 52 #[.val (.int p0), .val (.int ((p0 ^^^ (-1 : Int32)) &&& (255 : Int32))), .val (.int (((((p0 ^^^ (-1 : Int32)) &&& (255 : Int32)) >>> ((4 : Int32) &&& 31))) &&& (7 : Int32))), .val (.int (((p0 ^^^ (-1 : Int32)) &&& (255 : Int32)) &&& (15 : Int32))), .val (.int (((((((((p0 ^^^ (-1 : Int32)) &&& (255 : Int32)) &&& (15 : Int32)) <<< ((3 : Int32) &&& 31))) + (132 : Int32)) <<< ((((((p0 ^^^ (-1 : Int32)) &&& (255 : Int32)) >>> ((4 : Int32) &&& 31))) &&& (7 : Int32)) &&& 31))) - (132 : Int32)))] [(.int ((((-(((((((((p0 ^^^ (-1 : Int32)) &&& (255 : Int32)) &&& (15 : Int32)) <<< ((3 : Int32) &&& 31))) + (132 : Int32)) <<< ((((((p0 ^^^ (-1 : Int32)) &&& (255 : Int32)) >>> ((4 : Int32) &&& 31))) &&& (7 : Int32)) &&& 31))) - (132 : Int32))))).toInt16.toInt32))])) := by
      intro t k
      refine pre1 t ?_
      show Steps p.tables e below (s₁.setTop (mkF m 40 #[.val (.int p0), .val (.int ((p0 ^^^ (-1 : Int32)) &&& (255 : Int32))), .val (.int (((((p0 ^^^ (-1 : Int32)) &&& (255 : Int32)) >>> ((4 : Int32) &&& 31))) &&& (7 : Int32))), .val (.int (((p0 ^^^ (-1 : Int32)) &&& (255 : Int32)) &&& (15 : Int32))), .val (.int (((((((((p0 ^^^ (-1 : Int32)) &&& (255 : Int32)) &&& (15 : Int32)) <<< ((3 : Int32) &&& 31))) + (132 : Int32)) <<< ((((((p0 ^^^ (-1 : Int32)) &&& (255 : Int32)) >>> ((4 : Int32) &&& 31))) &&& (7 : Int32)) &&& 31))) - (132 : Int32)))] [(.int (((p0 ^^^ (-1 : Int32)) &&& (255 : Int32)) &&& (128 : Int32)))])) _
      refine XS.ifNo X0.here hx rfl (hb hby d1_40) rfl (XT.i0_eq_f hc40_2) ?_
      show Steps p.tables e below (s₁.setTop (mkF m 43 #[.val (.int p0), .val (.int ((p0 ^^^ (-1 : Int32)) &&& (255 : Int32))), .val (.int (((((p0 ^^^ (-1 : Int32)) &&& (255 : Int32)) >>> ((4 : Int32) &&& 31))) &&& (7 : Int32))), .val (.int (((p0 ^^^ (-1 : Int32)) &&& (255 : Int32)) &&& (15 : Int32))), .val (.int (((((((((p0 ^^^ (-1 : Int32)) &&& (255 : Int32)) &&& (15 : Int32)) <<< ((3 : Int32) &&& 31))) + (132 : Int32)) <<< ((((((p0 ^^^ (-1 : Int32)) &&& (255 : Int32)) >>> ((4 : Int32) &&& 31))) &&& (7 : Int32)) &&& 31))) - (132 : Int32)))] [])) _
      refine XS.iload X0.here hx rfl (hb hby d1_43) rfl ?_
      show Steps p.tables e below (s₁.setTop (mkF m 45 #[.val (.int p0), .val (.int ((p0 ^^^ (-1 : Int32)) &&& (255 : Int32))), .val (.int (((((p0 ^^^ (-1 : Int32)) &&& (255 : Int32)) >>> ((4 : Int32) &&& 31))) &&& (7 : Int32))), .val (.int (((p0 ^^^ (-1 : Int32)) &&& (255 : Int32)) &&& (15 : Int32))), .val (.int (((((((((p0 ^^^ (-1 : Int32)) &&& (255 : Int32)) &&& (15 : Int32)) <<< ((3 : Int32) &&& 31))) + (132 : Int32)) <<< ((((((p0 ^^^ (-1 : Int32)) &&& (255 : Int32)) >>> ((4 : Int32) &&& 31))) &&& (7 : Int32)) &&& 31))) - (132 : Int32)))] [(.int (((((((((p0 ^^^ (-1 : Int32)) &&& (255 : Int32)) &&& (15 : Int32)) <<< ((3 : Int32) &&& 31))) + (132 : Int32)) <<< ((((((p0 ^^^ (-1 : Int32)) &&& (255 : Int32)) >>> ((4 : Int32) &&& 31))) &&& (7 : Int32)) &&& 31))) - (132 : Int32)))])) _
      refine XS.ineg X0.here hx rfl (hb hby d1_45) rfl ?_
      show Steps p.tables e below (s₁.setTop (mkF m 46 #[.val (.int p0), .val (.int ((p0 ^^^ (-1 : Int32)) &&& (255 : Int32))), .val (.int (((((p0 ^^^ (-1 : Int32)) &&& (255 : Int32)) >>> ((4 : Int32) &&& 31))) &&& (7 : Int32))), .val (.int (((p0 ^^^ (-1 : Int32)) &&& (255 : Int32)) &&& (15 : Int32))), .val (.int (((((((((p0 ^^^ (-1 : Int32)) &&& (255 : Int32)) &&& (15 : Int32)) <<< ((3 : Int32) &&& 31))) + (132 : Int32)) <<< ((((((p0 ^^^ (-1 : Int32)) &&& (255 : Int32)) >>> ((4 : Int32) &&& 31))) &&& (7 : Int32)) &&& 31))) - (132 : Int32)))] [(.int ((-(((((((((p0 ^^^ (-1 : Int32)) &&& (255 : Int32)) &&& (15 : Int32)) <<< ((3 : Int32) &&& 31))) + (132 : Int32)) <<< ((((((p0 ^^^ (-1 : Int32)) &&& (255 : Int32)) >>> ((4 : Int32) &&& 31))) &&& (7 : Int32)) &&& 31))) - (132 : Int32)))))])) _
      refine XS.goto X0.here hx rfl (pc0 := 46) (pc' := 51) rfl (hb hby d1_46) (by decide) (by decide) ?_
      show Steps p.tables e below (s₁.setTop (mkF m 51 #[.val (.int p0), .val (.int ((p0 ^^^ (-1 : Int32)) &&& (255 : Int32))), .val (.int (((((p0 ^^^ (-1 : Int32)) &&& (255 : Int32)) >>> ((4 : Int32) &&& 31))) &&& (7 : Int32))), .val (.int (((p0 ^^^ (-1 : Int32)) &&& (255 : Int32)) &&& (15 : Int32))), .val (.int (((((((((p0 ^^^ (-1 : Int32)) &&& (255 : Int32)) &&& (15 : Int32)) <<< ((3 : Int32) &&& 31))) + (132 : Int32)) <<< ((((((p0 ^^^ (-1 : Int32)) &&& (255 : Int32)) >>> ((4 : Int32) &&& 31))) &&& (7 : Int32)) &&& 31))) - (132 : Int32)))] [(.int ((-(((((((((p0 ^^^ (-1 : Int32)) &&& (255 : Int32)) &&& (15 : Int32)) <<< ((3 : Int32) &&& 31))) + (132 : Int32)) <<< ((((((p0 ^^^ (-1 : Int32)) &&& (255 : Int32)) >>> ((4 : Int32) &&& 31))) &&& (7 : Int32)) &&& 31))) - (132 : Int32)))))])) _
      refine XS.i2s X0.here hx rfl (hb hby d1_51) rfl ?_
      show Steps p.tables e below (s₁.setTop (mkF m 52 #[.val (.int p0), .val (.int ((p0 ^^^ (-1 : Int32)) &&& (255 : Int32))), .val (.int (((((p0 ^^^ (-1 : Int32)) &&& (255 : Int32)) >>> ((4 : Int32) &&& 31))) &&& (7 : Int32))), .val (.int (((p0 ^^^ (-1 : Int32)) &&& (255 : Int32)) &&& (15 : Int32))), .val (.int (((((((((p0 ^^^ (-1 : Int32)) &&& (255 : Int32)) &&& (15 : Int32)) <<< ((3 : Int32) &&& 31))) + (132 : Int32)) <<< ((((((p0 ^^^ (-1 : Int32)) &&& (255 : Int32)) >>> ((4 : Int32) &&& 31))) &&& (7 : Int32)) &&& 31))) - (132 : Int32)))] [(.int ((((-(((((((((p0 ^^^ (-1 : Int32)) &&& (255 : Int32)) &&& (15 : Int32)) <<< ((3 : Int32) &&& 31))) + (132 : Int32)) <<< ((((((p0 ^^^ (-1 : Int32)) &&& (255 : Int32)) >>> ((4 : Int32) &&& 31))) &&& (7 : Int32)) &&& 31))) - (132 : Int32))))).toInt16.toInt32))])) _
      exact k
    obtain ⟨fs, hr, hrun, hended, hW, hsame⟩ := X0.leave (v := some (.int (nar .short ((((-(((((((((p0 ^^^ (-1 : Int32)) &&& (255 : Int32)) &&& (15 : Int32)) <<< ((3 : Int32) &&& 31))) + (132 : Int32)) <<< ((((((p0 ^^^ (-1 : Int32)) &&& (255 : Int32)) >>> ((4 : Int32) &&& 31))) &&& (7 : Int32)) &&& 31))) - (132 : Int32))))).toInt16.toInt32)))) (fun h => by rw [Bd.returns] at h; cases h)
    refine ⟨_, _, pre4 _ (retN X0 hx (t := .short) Bd.returns (by simp) (hb hby d1_52) hr), hrun, hended, _, _, rfl, ?_, ⟨_, rfl⟩, hW, hsame.mono (by decide) (by decide)⟩
    show Q1 Z p0 h0 n0 _ s₁.heap _
    rw [e0]
    exact ⟨congrArg some (congrArg Value.int (show (nar .short ((((-(((((((((p0 ^^^ (-1 : Int32)) &&& (255 : Int32)) &&& (15 : Int32)) <<< ((3 : Int32) &&& 31))) + (132 : Int32)) <<< ((((((p0 ^^^ (-1 : Int32)) &&& (255 : Int32)) >>> ((4 : Int32) &&& 31))) &&& (7 : Int32)) &&& 31))) - (132 : Int32))))).toInt16.toInt32)) = f1 p0 from by rw [f1, if_neg hc40_2])), N0, rfl⟩
def own_a : List Int32 := [0, 132, 396, 924, 1980, 4092, 8316, 16764]
def own_s : List Int32 := [8, 16, 32, 64, 128, 256, 512, 1024]
def own_e (u : Int32) : Int32 := (7 : Int32) - ((u >>> ((4 : Int32) &&& 31)) &&& (7 : Int32))
def own_m (u : Int32) : Int32 := (15 : Int32) - (u &&& (15 : Int32))
def own_mag (u : Int32) : Int32 := own_a.getD (own_e u).toNatClampNeg 0 + (own_m u * own_s.getD (own_e u).toNatClampNeg 0)
def own_ng (u : Int32) : Int32 := if (u &&& (128 : Int32)) = (0 : Int32) then (1 : Int32) else (0 : Int32)
theorem own_all : ∀ n : Fin 256, (¬ own_e (Int32.ofNat n.val) < 0 ∧ own_e (Int32.ofNat n.val) < 8) ∧ f1 ((Int32.ofNat n.val).toInt8.toInt32) = (if own_ng (Int32.ofNat n.val) = (0 : Int32) then own_mag (Int32.ofNat n.val) else (-own_mag (Int32.ofNat n.val))) := by decide +kernel
theorem own_u {x u : Int32} (h : u = x &&& (255 : Int32)) : (¬ own_e u < 0 ∧ own_e u < 8) ∧ f1 (u.toInt8.toInt32) = (if own_ng u = (0 : Int32) then own_mag u else (-own_mag u)) := by
  have e := Jvm.Kit.i32_mask x 255 (k := 8) (by decide) (by decide)
  rw [← h] at e
  have hu := own_ofNat (c := u) (n := u.toInt.toNat) (by omega)
  have q := own_all ⟨u.toInt.toNat, by omega⟩
  rw [← hu] at q; exact q
theorem ef_0 (m : MethodId) (x0 : Int32) : entryFrame m #[(.int x0)] maxLocals = mkF m 0 #[.val (.int x0), .unset, .unset, .unset, .unset, .unset, .unset, .unset, .unset, .unset] [] := by first | (simp [entryFrame, mkF, argsToLocals, Value.category, maxLocals]; done) | rfl
theorem pd_1 : parseMethodDescriptor "(B)S" = some ⟨[.byte], some .short⟩ := by decide +kernel
def Q0 (Z : State) (x0 : Int32) (h0 : Heap) (n0 : Nat) (v : Option Value) (h : Heap) (L : List Loc) : Prop := v = some (.int 1) ∧ Fr n0 L
theorem pn_com_example_patchcord_patchcord_media_G711UlawToLinearPinLaw : plainName "com/example/patchcord/patchcord/media/G711UlawToLinearPinLaw" = true := by first | (simp [plainName, overriddenIn]; done) | decide +kernel
set_option maxRecDepth 65536 in
set_option maxHeartbeats 40000000 in
theorem rm0 (l : Launch) (Z : State) (a0 : Array Value) (hw : ∀ d ∈ tables_1, d.before a0 Z = true) (ws : List Jvm.Cond) (x0 : Int32) (h0 : Heap) (n0 : Nat) (Z0 : n0 ≤ h0.size) :
    MetFree l x (head1 (Jvm.Cond.code x code maxLocals ret :: ws) room_1) (fun a U => a = #[(.int x0)] ∧ Z.Warmed39 U.vm ∧ U.heap = h0) (fun _ _ _ _ _ => True) (fun _ U o U' => ∃ v L, o = .returned v ∧ Q0 Z x0 h0 n0 v U'.heap L ∧ FrameEnd U o U' L 16 128) := by
  refine MetFree.of_bodySF (plainFor_of_name pn_com_example_patchcord_patchcord_media_G711UlawToLinearPinLaw) hisR ?_
  intro p e s m args below meth c s₁ Bd hml0 hP hK
  obtain ⟨rfl, hZ, hh⟩ := hP
  have hx := Bd.exec
  have hby := Bd.bytes
  have hml : c.maxLocals = 10 := hml0
  have hown : s.vm.findClass "com/example/patchcord/patchcord/media/G711UlawToLinearPinLaw" = some m.cls := findClass_of_methodNamed Bd.named
  have hnm := (name_of_methodNamed Bd.named Bd.method).1
  have X0 : Stand p l e room_1 s m #[(.int x0)] below meth c s₁ [] 0 0 := Stand.of_body Bd
  have e0 : s₁.heap = h0 := by rw [← hh, Bd.state]; rfl
  have N0 := Fr.nil n0
  have pre0 : Go p e below (s₁.setTop (entryFrame m #[(.int x0)] maxLocals)) (s₁.setTop (mkF m 0 #[.val (.int x0), .unset, .unset, .unset, .unset, .unset, .unset, .unset, .unset, .unset] [])) := fun t k => castTop (ef_0 m x0) k
  have pre1 : Go p e below (s₁.setTop (entryFrame m #[(.int x0)] maxLocals)) (s₁.setTop (mkF m 5 #[.val (.int x0), .unset, .unset, .unset, .unset, .unset, .unset, .unset, .unset, .unset] [(.int (x0 &&& (255 : Int32)))])) := by
    intro t k
    refine pre0 t ?_
    show Steps p.tables e below (s₁.setTop (mkF m 0 #[.val (.int x0), .unset, .unset, .unset, .unset, .unset, .unset, .unset, .unset, .unset] [])) _
    refine XS.iloadN X0.here hx rfl (hb hby at_0) rfl ?_
    show Steps p.tables e below (s₁.setTop (mkF m 1 #[.val (.int x0), .unset, .unset, .unset, .unset, .unset, .unset, .unset, .unset, .unset] [(.int x0)])) _
    refine XS.sipush X0.here hx rfl (hb hby at_1) ?_
    show Steps p.tables e below (s₁.setTop (mkF m 4 #[.val (.int x0), .unset, .unset, .unset, .unset, .unset, .unset, .unset, .unset, .unset] [(.int (255 : Int32)), (.int x0)])) _
    refine XS.iand X0.here hx rfl (hb hby at_4) rfl ?_
    show Steps p.tables e below (s₁.setTop (mkF m 5 #[.val (.int x0), .unset, .unset, .unset, .unset, .unset, .unset, .unset, .unset, .unset] [(.int (x0 &&& (255 : Int32)))])) _
    exact k
  obtain ⟨uu, h_uu⟩ : ∃ z : Int32, z = (x0 &&& (255 : Int32)) := ⟨_, rfl⟩
  have pre2 : Go p e below (s₁.setTop (entryFrame m #[(.int x0)] maxLocals)) (s₁.setTop (mkF m 5 #[.val (.int x0), .unset, .unset, .unset, .unset, .unset, .unset, .unset, .unset, .unset] [(.int uu)])) := by rw [h_uu]; exact pre1
  have hall := own_u h_uu
  have pre3 : Go p e below (s₁.setTop (entryFrame m #[(.int x0)] maxLocals)) (s₁.setTop (mkF m 15 #[.val (.int x0), .val (.int uu), .unset, .unset, .unset, .unset, .unset, .unset, .unset, .unset] [(.int ((7 : Int32) - (((uu >>> ((4 : Int32) &&& 31))) &&& (7 : Int32))))])) := by
    intro t k
    refine pre2 t ?_
    show Steps p.tables e below (s₁.setTop (mkF m 5 #[.val (.int x0), .unset, .unset, .unset, .unset, .unset, .unset, .unset, .unset, .unset] [(.int uu)])) _
    refine XS.istoreN X0.here hx rfl (hb hby at_5) rfl (l' := #[.val (.int x0), .val (.int uu), .unset, .unset, .unset, .unset, .unset, .unset, .unset, .unset]) rfl ?_
    show Steps p.tables e below (s₁.setTop (mkF m 6 #[.val (.int x0), .val (.int uu), .unset, .unset, .unset, .unset, .unset, .unset, .unset, .unset] [])) _
    refine XS.bipush X0.here hx rfl (hb hby at_6) ?_
    show Steps p.tables e below (s₁.setTop (mkF m 8 #[.val (.int x0), .val (.int uu), .unset, .unset, .unset, .unset, .unset, .unset, .unset, .unset] [(.int (7 : Int32))])) _
    refine XS.iloadN X0.here hx rfl (hb hby at_8) rfl ?_
    show Steps p.tables e below (s₁.setTop (mkF m 9 #[.val (.int x0), .val (.int uu), .unset, .unset, .unset, .unset, .unset, .unset, .unset, .unset] [(.int uu), (.int (7 : Int32))])) _
    refine XS.iconst X0.here hx rfl (hb hby at_9) ?_
    show Steps p.tables e below (s₁.setTop (mkF m 10 #[.val (.int x0), .val (.int uu), .unset, .unset, .unset, .unset, .unset, .unset, .unset, .unset] [(.int (4 : Int32)), (.int uu), (.int (7 : Int32))])) _
    refine XS.ishr X0.here hx rfl (hb hby at_10) rfl ?_
    show Steps p.tables e below (s₁.setTop (mkF m 11 #[.val (.int x0), .val (.int uu), .unset, .unset, .unset, .unset, .unset, .unset, .unset, .unset] [(.int ((uu >>> ((4 : Int32) &&& 31)))), (.int (7 : Int32))])) _
    refine XS.bipush X0.here hx rfl (hb hby at_11) ?_
    show Steps p.tables e below (s₁.setTop (mkF m 13 #[.val (.int x0), .val (.int uu), .unset, .unset, .unset, .unset, .unset, .unset, .unset, .unset] [(.int (7 : Int32)), (.int ((uu >>> ((4 : Int32) &&& 31)))), (.int (7 : Int32))])) _
    refine XS.iand X0.here hx rfl (hb hby at_13) rfl ?_
    show Steps p.tables e below (s₁.setTop (mkF m 14 #[.val (.int x0), .val (.int uu), .unset, .unset, .unset, .unset, .unset, .unset, .unset, .unset] [(.int (((uu >>> ((4 : Int32) &&& 31))) &&& (7 : Int32))), (.int (7 : Int32))])) _
    refine XS.isub X0.here hx rfl (hb hby at_14) rfl ?_
    show Steps p.tables e below (s₁.setTop (mkF m 15 #[.val (.int x0), .val (.int uu), .unset, .unset, .unset, .unset, .unset, .unset, .unset, .unset] [(.int ((7 : Int32) - (((uu >>> ((4 : Int32) &&& 31))) &&& (7 : Int32))))])) _
    exact k
  obtain ⟨ee, h_ee⟩ : ∃ z : Int32, z = ((7 : Int32) - (((uu >>> ((4 : Int32) &&& 31))) &&& (7 : Int32))) := ⟨_, rfl⟩
  have pre4 : Go p e below (s₁.setTop (entryFrame m #[(.int x0)] maxLocals)) (s₁.setTop (mkF m 15 #[.val (.int x0), .val (.int uu), .unset, .unset, .unset, .unset, .unset, .unset, .unset, .unset] [(.int ee)])) := by rw [h_ee]; exact pre3
  have hee : ee = own_e uu := h_ee
  have pre5 : Go p e below (s₁.setTop (entryFrame m #[(.int x0)] maxLocals)) (s₁.setTop (mkF m 23 #[.val (.int x0), .val (.int uu), .val (.int ee), .unset, .unset, .unset, .unset, .unset, .unset, .unset] [(.int ((15 : Int32) - (uu &&& (15 : Int32))))])) := by
    intro t k
    refine pre4 t ?_
    show Steps p.tables e below (s₁.setTop (mkF m 15 #[.val (.int x0), .val (.int uu), .unset, .unset, .unset, .unset, .unset, .unset, .unset, .unset] [(.int ee)])) _
    refine XS.istoreN X0.here hx rfl (hb hby at_15) rfl (l' := #[.val (.int x0), .val (.int uu), .val (.int ee), .unset, .unset, .unset, .unset, .unset, .unset, .unset]) rfl ?_
    show Steps p.tables e below (s₁.setTop (mkF m 16 #[.val (.int x0), .val (.int uu), .val (.int ee), .unset, .unset, .unset, .unset, .unset, .unset, .unset] [])) _
    refine XS.bipush X0.here hx rfl (hb hby at_16) ?_
    show Steps p.tables e below (s₁.setTop (mkF m 18 #[.val (.int x0), .val (.int uu), .val (.int ee), .unset, .unset, .unset, .unset, .unset, .unset, .unset] [(.int (15 : Int32))])) _
    refine XS.iloadN X0.here hx rfl (hb hby at_18) rfl ?_
    show Steps p.tables e below (s₁.setTop (mkF m 19 #[.val (.int x0), .val (.int uu), .val (.int ee), .unset, .unset, .unset, .unset, .unset, .unset, .unset] [(.int uu), (.int (15 : Int32))])) _
    refine XS.bipush X0.here hx rfl (hb hby at_19) ?_
    show Steps p.tables e below (s₁.setTop (mkF m 21 #[.val (.int x0), .val (.int uu), .val (.int ee), .unset, .unset, .unset, .unset, .unset, .unset, .unset] [(.int (15 : Int32)), (.int uu), (.int (15 : Int32))])) _
    refine XS.iand X0.here hx rfl (hb hby at_21) rfl ?_
    show Steps p.tables e below (s₁.setTop (mkF m 22 #[.val (.int x0), .val (.int uu), .val (.int ee), .unset, .unset, .unset, .unset, .unset, .unset, .unset] [(.int (uu &&& (15 : Int32))), (.int (15 : Int32))])) _
    refine XS.isub X0.here hx rfl (hb hby at_22) rfl ?_
    show Steps p.tables e below (s₁.setTop (mkF m 23 #[.val (.int x0), .val (.int uu), .val (.int ee), .unset, .unset, .unset, .unset, .unset, .unset, .unset] [(.int ((15 : Int32) - (uu &&& (15 : Int32))))])) _
    exact k
  obtain ⟨mm, h_mm⟩ : ∃ z : Int32, z = ((15 : Int32) - (uu &&& (15 : Int32))) := ⟨_, rfl⟩
  have pre6 : Go p e below (s₁.setTop (entryFrame m #[(.int x0)] maxLocals)) (s₁.setTop (mkF m 23 #[.val (.int x0), .val (.int uu), .val (.int ee), .unset, .unset, .unset, .unset, .unset, .unset, .unset] [(.int mm)])) := by rw [h_mm]; exact pre5
  have hmm : mm = own_m uu := h_mm
  have pre7 : Go p e below (s₁.setTop (entryFrame m #[(.int x0)] maxLocals)) (s₁.setTop (mkF m 29 #[.val (.int x0), .val (.int uu), .val (.int ee), .val (.int mm), .unset, .unset, .unset, .unset, .unset, .unset] [(.int (uu &&& (128 : Int32)))])) := by
    intro t k
    refine pre6 t ?_
    show Steps p.tables e below (s₁.setTop (mkF m 23 #[.val (.int x0), .val (.int uu), .val (.int ee), .unset, .unset, .unset, .unset, .unset, .unset, .unset] [(.int mm)])) _
    refine XS.istoreN X0.here hx rfl (hb hby at_23) rfl (l' := #[.val (.int x0), .val (.int uu), .val (.int ee), .val (.int mm), .unset, .unset, .unset, .unset, .unset, .unset]) rfl ?_
    show Steps p.tables e below (s₁.setTop (mkF m 24 #[.val (.int x0), .val (.int uu), .val (.int ee), .val (.int mm), .unset, .unset, .unset, .unset, .unset, .unset] [])) _
    refine XS.iloadN X0.here hx rfl (hb hby at_24) rfl ?_
    show Steps p.tables e below (s₁.setTop (mkF m 25 #[.val (.int x0), .val (.int uu), .val (.int ee), .val (.int mm), .unset, .unset, .unset, .unset, .unset, .unset] [(.int uu)])) _
    refine XS.sipush X0.here hx rfl (hb hby at_25) ?_
    show Steps p.tables e below (s₁.setTop (mkF m 28 #[.val (.int x0), .val (.int uu), .val (.int ee), .val (.int mm), .unset, .unset, .unset, .unset, .unset, .unset] [(.int (128 : Int32)), (.int uu)])) _
    refine XS.iand X0.here hx rfl (hb hby at_28) rfl ?_
    show Steps p.tables e below (s₁.setTop (mkF m 29 #[.val (.int x0), .val (.int uu), .val (.int ee), .val (.int mm), .unset, .unset, .unset, .unset, .unset, .unset] [(.int (uu &&& (128 : Int32)))])) _
    exact k
  obtain ⟨ng, h_ng⟩ : ∃ z : Int32, z = (if (uu &&& (128 : Int32)) = (0 : Int32) then (1 : Int32) else (0 : Int32)) := ⟨_, rfl⟩
  have pre9 : Go p e below (s₁.setTop (entryFrame m #[(.int x0)] maxLocals)) (s₁.setTop (mkF m 37 #[.val (.int x0), .val (.int uu), .val (.int ee), .val (.int mm), .unset, .unset, .unset, .unset, .unset, .unset] [(.int ng)])) := by
    intro t k
    refine pre7 t ?_
    show Steps p.tables e below (s₁.setTop (mkF m 29 #[.val (.int x0), .val (.int uu), .val (.int ee), .val (.int mm), .unset, .unset, .unset, .unset, .unset, .unset] [(.int (uu &&& (128 : Int32)))])) _
    by_cases hc29_8 : (uu &&& (128 : Int32)) = (0 : Int32)
    · skip
      refine XS.ifNo X0.here hx rfl (hb hby at_29) rfl (XT.i0_ne_f hc29_8) ?_
      show Steps p.tables e below (s₁.setTop (mkF m 32 #[.val (.int x0), .val (.int uu), .val (.int ee), .val (.int mm), .unset, .unset, .unset, .unset, .unset, .unset] [])) _
      refine XS.iconst X0.here hx rfl (hb hby at_32) ?_
      show Steps p.tables e below (s₁.setTop (mkF m 33 #[.val (.int x0), .val (.int uu), .val (.int ee), .val (.int mm), .unset, .unset, .unset, .unset, .unset, .unset] [(.int (1 : Int32))])) _
      refine XS.goto X0.here hx rfl (pc0 := 33) (pc' := 37) rfl (hb hby at_33) (by decide) (by decide) ?_
      show Steps p.tables e below (s₁.setTop (mkF m 37 #[.val (.int x0), .val (.int uu), .val (.int ee), .val (.int mm), .unset, .unset, .unset, .unset, .unset, .unset] [(.int (1 : Int32))])) _
      rw [show ng = (1 : Int32) from by rw [h_ng]; rw [if_pos hc29_8]] at k
      exact k
    · skip
      refine XS.ifYes X0.here hx rfl (pc0 := 29) (pc' := 36) rfl (hb hby at_29) rfl (XT.i0_ne_t hc29_8) (by decide) (by decide) ?_
      show Steps p.tables e below (s₁.setTop (mkF m 36 #[.val (.int x0), .val (.int uu), .val (.int ee), .val (.int mm), .unset, .unset, .unset, .unset, .unset, .unset] [])) _
      refine XS.iconst X0.here hx rfl (hb hby at_36) ?_
      show Steps p.tables e below (s₁.setTop (mkF m 37 #[.val (.int x0), .val (.int uu), .val (.int ee), .val (.int mm), .unset, .unset, .unset, .unset, .unset, .unset] [(.int (0 : Int32))])) _
      rw [show ng = (0 : Int32) from by rw [h_ng]; rw [if_neg hc29_8]] at k
      exact k
  have pre10 : Go p e below (s₁.setTop (entryFrame m #[(.int x0)] maxLocals)) (s₁.setTop (mkF m 41 #[.val (.int x0), .val (.int uu), .val (.int ee), .val (.int mm), .val (.int ng), .unset, .unset, .unset, .unset, .unset] [(.int (8 : Int32))])) := by
    intro t k
    refine pre9 t ?_
    show Steps p.tables e below (s₁.setTop (mkF m 37 #[.val (.int x0), .val (.int uu), .val (.int ee), .val (.int mm), .unset, .unset, .unset, .unset, .unset, .unset] [(.int ng)])) _
    refine XS.istore X0.here hx rfl (hb hby at_37) rfl (l' := #[.val (.int x0), .val (.int uu), .val (.int ee), .val (.int mm), .val (.int ng), .unset, .unset, .unset, .unset, .unset]) rfl ?_
    show Steps p.tables e below (s₁.setTop (mkF m 39 #[.val (.int x0), .val (.int uu), .val (.int ee), .val (.int mm), .val (.int ng), .unset, .unset, .unset, .unset, .unset] [])) _
    refine XS.bipush X0.here hx rfl (hb hby at_39) ?_
    show Steps p.tables e below (s₁.setTop (mkF m 41 #[.val (.int x0), .val (.int uu), .val (.int ee), .val (.int mm), .val (.int ng), .unset, .unset, .unset, .unset, .unset] [(.int (8 : Int32))])) _
    exact k
  obtain ⟨T11, h11, k11, X11, e11, E11, A11, st11⟩ := newP X0 hx hZ (hw _ (List.mem_of_getElem? (i := 0) rfl)) e0 (g := (mkF m 41 #[.val (.int x0), .val (.int uu), .val (.int ee), .val (.int mm), .val (.int ng), .unset, .unset, .unset, .unset, .unset] [(.int (8 : Int32))])) rfl (hb hby at_41) rfl (by decide) (cap := 8) (by decide) (by decide) (by decide) (by decide)
  obtain ⟨b0, g11⟩ : ∃ z, z = h0.size := ⟨_, rfl⟩
  rw [← g11] at A11 st11
  have zz12 := (Nat.le_trans Z0 E11.1)
  have V_b0 : Arv Z h11 b0 k11 .int (8 : Int32) [(.int (0 : Int32)), (.int (0 : Int32)), (.int (0 : Int32)), (.int (0 : Int32)), (.int (0 : Int32)), (.int (0 : Int32)), (.int (0 : Int32)), (.int (0 : Int32))] (.int (0 : Int32)) := (Arv.new A11 (by decide)).pad (pad_rep [] (.int (0 : Int32)) 8)
  have g_b0 : n0 ≤ b0 := Nat.le_trans Z0 (Nat.le_of_eq g11.symm)
  have pre13 : Go p e below (s₁.setTop (entryFrame m #[(.int x0)] maxLocals)) (T11.setTop (mkF m 43 #[.val (.int x0), .val (.int uu), .val (.int ee), .val (.int mm), .val (.int ng), .unset, .unset, .unset, .unset, .unset] [(.ref b0)])) := fun t k => pre10 t (st11 t k)
  have pre14 : Go p e below (s₁.setTop (entryFrame m #[(.int x0)] maxLocals)) (T11.setTop (mkF m 46 #[.val (.int x0), .val (.int uu), .val (.int ee), .val (.int mm), .val (.int ng), .unset, .unset, .unset, .unset, .unset] [(.int (0 : Int32)), (.int (0 : Int32)), (.ref b0), (.ref b0)])) := by
    intro t k
    refine pre13 t ?_
    show Steps p.tables e below (T11.setTop (mkF m 43 #[.val (.int x0), .val (.int uu), .val (.int ee), .val (.int mm), .val (.int ng), .unset, .unset, .unset, .unset, .unset] [(.ref b0)])) _
    refine XS.dup X11.here hx rfl (hb hby at_43) rfl rfl ?_
    show Steps p.tables e below (T11.setTop (mkF m 44 #[.val (.int x0), .val (.int uu), .val (.int ee), .val (.int mm), .val (.int ng), .unset, .unset, .unset, .unset, .unset] [(.ref b0), (.ref b0)])) _
    refine XS.iconst X11.here hx rfl (hb hby at_44) ?_
    show Steps p.tables e below (T11.setTop (mkF m 45 #[.val (.int x0), .val (.int uu), .val (.int ee), .val (.int mm), .val (.int ng), .unset, .unset, .unset, .unset, .unset] [(.int (0 : Int32)), (.ref b0), (.ref b0)])) _
    refine XS.iconst X11.here hx rfl (hb hby at_45) ?_
    show Steps p.tables e below (T11.setTop (mkF m 46 #[.val (.int x0), .val (.int uu), .val (.int ee), .val (.int mm), .val (.int ng), .unset, .unset, .unset, .unset, .unset] [(.int (0 : Int32)), (.int (0 : Int32)), (.ref b0), (.ref b0)])) _
    exact k
  obtain ⟨cl15, Ar15, qq15, SS15, NN15, HH15, GG15⟩ := V_b0
  have hin15 : ¬ ((0 : Int32) < 0 ∨ cl15.slots.size ≤ ((0 : Int32)).toNatClampNeg) := inb_of SS15 ⟨by decide, by decide⟩
  obtain ⟨T15, h15, X15, e15, W15, st15⟩ := stI X11 hx hZ e11 Ar15 (j := (0 : Int32)) hin15 (g := (mkF m 46 #[.val (.int x0), .val (.int uu), .val (.int ee), .val (.int mm), .val (.int ng), .unset, .unset, .unset, .unset, .unset] [(.int (0 : Int32)), (.int (0 : Int32)), (.ref b0), (.ref b0)])) rfl rfl (hb hby at_46)
  have V15 : Arv Z h15 b0 k11 .int (8 : Int32) [(.int (0 : Int32)), (.int (0 : Int32)), (.int (0 : Int32)), (.int (0 : Int32)), (.int (0 : Int32)), (.int (0 : Int32)), (.int (0 : Int32)), (.int (0 : Int32))] (.int (0 : Int32)) := Arv.set Ar15 qq15 SS15 NN15 HH15 GG15 rfl W15 0 rfl (Nat.le_of_ble_eq_true rfl)
  have zz16 := (Nat.le_trans zz12 (Keep.of_wr W15).1)
  have N15 := Fr.snoc X15 N0 g_b0
  have pre17 : Go p e below (s₁.setTop (entryFrame m #[(.int x0)] maxLocals)) (T15.setTop (mkF m 47 #[.val (.int x0), .val (.int uu), .val (.int ee), .val (.int mm), .val (.int ng), .unset, .unset, .unset, .unset, .unset] [(.ref b0)])) := fun t k => pre14 t (st15 t k)
  have pre18 : Go p e below (s₁.setTop (entryFrame m #[(.int x0)] maxLocals)) (T15.setTop (mkF m 52 #[.val (.int x0), .val (.int uu), .val (.int ee), .val (.int mm), .val (.int ng), .unset, .unset, .unset, .unset, .unset] [(.int (132 : Int32)), (.int (1 : Int32)), (.ref b0), (.ref b0)])) := by
    intro t k
    refine pre17 t ?_
    show Steps p.tables e below (T15.setTop (mkF m 47 #[.val (.int x0), .val (.int uu), .val (.int ee), .val (.int mm), .val (.int ng), .unset, .unset, .unset, .unset, .unset] [(.ref b0)])) _
    refine XS.dup X15.here hx rfl (hb hby at_47) rfl rfl ?_
    show Steps p.tables e below (T15.setTop (mkF m 48 #[.val (.int x0), .val (.int uu), .val (.int ee), .val (.int mm), .val (.int ng), .unset, .unset, .unset, .unset, .unset] [(.ref b0), (.ref b0)])) _
    refine XS.iconst X15.here hx rfl (hb hby at_48) ?_
    show Steps p.tables e below (T15.setTop (mkF m 49 #[.val (.int x0), .val (.int uu), .val (.int ee), .val (.int mm), .val (.int ng), .unset, .unset, .unset, .unset, .unset] [(.int (1 : Int32)), (.ref b0), (.ref b0)])) _
    refine XS.sipush X15.here hx rfl (hb hby at_49) ?_
    show Steps p.tables e below (T15.setTop (mkF m 52 #[.val (.int x0), .val (.int uu), .val (.int ee), .val (.int mm), .val (.int ng), .unset, .unset, .unset, .unset, .unset] [(.int (132 : Int32)), (.int (1 : Int32)), (.ref b0), (.ref b0)])) _
    exact k
  obtain ⟨cl19, Ar19, qq19, SS19, NN19, HH19, GG19⟩ := V15
  have hin19 : ¬ ((1 : Int32) < 0 ∨ cl19.slots.size ≤ ((1 : Int32)).toNatClampNeg) := inb_of SS19 ⟨by decide, by decide⟩
  obtain ⟨T19, h19, X19, e19, W19, st19⟩ := stI X15 hx hZ e15 Ar19 (j := (1 : Int32)) hin19 (g := (mkF m 52 #[.val (.int x0), .val (.int uu), .val (.int ee), .val (.int mm), .val (.int ng), .unset, .unset, .unset, .unset, .unset] [(.int (132 : Int32)), (.int (1 : Int32)), (.ref b0), (.ref b0)])) rfl rfl (hb hby at_52)
  have V19 : Arv Z h19 b0 k11 .int (8 : Int32) [(.int (0 : Int32)), (.int (132 : Int32)), (.int (0 : Int32)), (.int (0 : Int32)), (.int (0 : Int32)), (.int (0 : Int32)), (.int (0 : Int32)), (.int (0 : Int32))] (.int (0 : Int32)) := Arv.set Ar19 qq19 SS19 NN19 HH19 GG19 rfl W19 1 rfl (Nat.le_of_ble_eq_true rfl)
  have zz20 := (Nat.le_trans zz16 (Keep.of_wr W19).1)
  have N19 := Fr.snoc X19 N15 g_b0
  have pre21 : Go p e below (s₁.setTop (entryFrame m #[(.int x0)] maxLocals)) (T19.setTop (mkF m 53 #[.val (.int x0), .val (.int uu), .val (.int ee), .val (.int mm), .val (.int ng), .unset, .unset, .unset, .unset, .unset] [(.ref b0)])) := fun t k => pre18 t (st19 t k)
  have pre22 : Go p e below (s₁.setTop (entryFrame m #[(.int x0)] maxLocals)) (T19.setTop (mkF m 58 #[.val (.int x0), .val (.int uu), .val (.int ee), .val (.int mm), .val (.int ng), .unset, .unset, .unset, .unset, .unset] [(.int (396 : Int32)), (.int (2 : Int32)), (.ref b0), (.ref b0)])) := by
    intro t k
    refine pre21 t ?_
    show Steps p.tables e below (T19.setTop (mkF m 53 #[.val (.int x0), .val (.int uu), .val (.int ee), .val (.int mm), .val (.int ng), .unset, .unset, .unset, .unset, .unset] [(.ref b0)])) _
    refine XS.dup X19.here hx rfl (hb hby at_53) rfl rfl ?_
    show Steps p.tables e below (T19.setTop (mkF m 54 #[.val (.int x0), .val (.int uu), .val (.int ee), .val (.int mm), .val (.int ng), .unset, .unset, .unset, .unset, .unset] [(.ref b0), (.ref b0)])) _
    refine XS.iconst X19.here hx rfl (hb hby at_54) ?_
    show Steps p.tables e below (T19.setTop (mkF m 55 #[.val (.int x0), .val (.int uu), .val (.int ee), .val (.int mm), .val (.int ng), .unset, .unset, .unset, .unset, .unset] [(.int (2 : Int32)), (.ref b0), (.ref b0)])) _
    refine XS.sipush X19.here hx rfl (hb hby at_55) ?_
    show Steps p.tables e below (T19.setTop (mkF m 58 #[.val (.int x0), .val (.int uu), .val (.int ee), .val (.int mm), .val (.int ng), .unset, .unset, .unset, .unset, .unset] [(.int (396 : Int32)), (.int (2 : Int32)), (.ref b0), (.ref b0)])) _
    exact k
  obtain ⟨cl23, Ar23, qq23, SS23, NN23, HH23, GG23⟩ := V19
  have hin23 : ¬ ((2 : Int32) < 0 ∨ cl23.slots.size ≤ ((2 : Int32)).toNatClampNeg) := inb_of SS23 ⟨by decide, by decide⟩
  obtain ⟨T23, h23, X23, e23, W23, st23⟩ := stI X19 hx hZ e19 Ar23 (j := (2 : Int32)) hin23 (g := (mkF m 58 #[.val (.int x0), .val (.int uu), .val (.int ee), .val (.int mm), .val (.int ng), .unset, .unset, .unset, .unset, .unset] [(.int (396 : Int32)), (.int (2 : Int32)), (.ref b0), (.ref b0)])) rfl rfl (hb hby at_58)
  have V23 : Arv Z h23 b0 k11 .int (8 : Int32) [(.int (0 : Int32)), (.int (132 : Int32)), (.int (396 : Int32)), (.int (0 : Int32)), (.int (0 : Int32)), (.int (0 : Int32)), (.int (0 : Int32)), (.int (0 : Int32))] (.int (0 : Int32)) := Arv.set Ar23 qq23 SS23 NN23 HH23 GG23 rfl W23 2 rfl (Nat.le_of_ble_eq_true rfl)
  have zz24 := (Nat.le_trans zz20 (Keep.of_wr W23).1)
  have N23 := Fr.snoc X23 N19 g_b0
  have pre25 : Go p e below (s₁.setTop (entryFrame m #[(.int x0)] maxLocals)) (T23.setTop (mkF m 59 #[.val (.int x0), .val (.int uu), .val (.int ee), .val (.int mm), .val (.int ng), .unset, .unset, .unset, .unset, .unset] [(.ref b0)])) := fun t k => pre22 t (st23 t k)
  have pre26 : Go p e below (s₁.setTop (entryFrame m #[(.int x0)] maxLocals)) (T23.setTop (mkF m 64 #[.val (.int x0), .val (.int uu), .val (.int ee), .val (.int mm), .val (.int ng), .unset, .unset, .unset, .unset, .unset] [(.int (924 : Int32)), (.int (3 : Int32)), (.ref b0), (.ref b0)])) := by
    intro t k
    refine pre25 t ?_
    show Steps p.tables e below (T23.setTop (mkF m 59 #[.val (.int x0), .val (.int uu), .val (.int ee), .val (.int mm), .val (.int ng), .unset, .unset, .unset, .unset, .unset] [(.ref b0)])) _
    refine XS.dup X23.here hx rfl (hb hby at_59) rfl rfl ?_
    show Steps p.tables e below (T23.setTop (mkF m 60 #[.val (.int x0), .val (.int uu), .val (.int ee), .val (.int mm), .val (.int ng), .unset, .unset, .unset, .unset, .unset] [(.ref b0), (.ref b0)])) _
    refine XS.iconst X23.here hx rfl (hb hby at_60) ?_
    show Steps p.tables e below (T23.setTop (mkF m 61 #[.val (.int x0), .val (.int uu), .val (.int ee), .val (.int mm), .val (.int ng), .unset, .unset, .unset, .unset, .unset] [(.int (3 : Int32)), (.ref b0), (.ref b0)])) _
    refine XS.sipush X23.here hx rfl (hb hby at_61) ?_
    show Steps p.tables e below (T23.setTop (mkF m 64 #[.val (.int x0), .val (.int uu), .val (.int ee), .val (.int mm), .val (.int ng), .unset, .unset, .unset, .unset, .unset] [(.int (924 : Int32)), (.int (3 : Int32)), (.ref b0), (.ref b0)])) _
    exact k
  obtain ⟨cl27, Ar27, qq27, SS27, NN27, HH27, GG27⟩ := V23
  have hin27 : ¬ ((3 : Int32) < 0 ∨ cl27.slots.size ≤ ((3 : Int32)).toNatClampNeg) := inb_of SS27 ⟨by decide, by decide⟩
  obtain ⟨T27, h27, X27, e27, W27, st27⟩ := stI X23 hx hZ e23 Ar27 (j := (3 : Int32)) hin27 (g := (mkF m 64 #[.val (.int x0), .val (.int uu), .val (.int ee), .val (.int mm), .val (.int ng), .unset, .unset, .unset, .unset, .unset] [(.int (924 : Int32)), (.int (3 : Int32)), (.ref b0), (.ref b0)])) rfl rfl (hb hby at_64)
  have V27 : Arv Z h27 b0 k11 .int (8 : Int32) [(.int (0 : Int32)), (.int (132 : Int32)), (.int (396 : Int32)), (.int (924 : Int32)), (.int (0 : Int32)), (.int (0 : Int32)), (.int (0 : Int32)), (.int (0 : Int32))] (.int (0 : Int32)) := Arv.set Ar27 qq27 SS27 NN27 HH27 GG27 rfl W27 3 rfl (Nat.le_of_ble_eq_true rfl)
  have zz28 := (Nat.le_trans zz24 (Keep.of_wr W27).1)
  have N27 := Fr.snoc X27 N23 g_b0
  have pre29 : Go p e below (s₁.setTop (entryFrame m #[(.int x0)] maxLocals)) (T27.setTop (mkF m 65 #[.val (.int x0), .val (.int uu), .val (.int ee), .val (.int mm), .val (.int ng), .unset, .unset, .unset, .unset, .unset] [(.ref b0)])) := fun t k => pre26 t (st27 t k)
  have pre30 : Go p e below (s₁.setTop (entryFrame m #[(.int x0)] maxLocals)) (T27.setTop (mkF m 70 #[.val (.int x0), .val (.int uu), .val (.int ee), .val (.int mm), .val (.int ng), .unset, .unset, .unset, .unset, .unset] [(.int (1980 : Int32)), (.int (4 : Int32)), (.ref b0), (.ref b0)])) := by
    intro t k
    refine pre29 t ?_
    show Steps p.tables e below (T27.setTop (mkF m 65 #[.val (.int x0), .val (.int uu), .val (.int ee), .val (.int mm), .val (.int ng), .unset, .unset, .unset, .unset, .unset] [(.ref b0)])) _
    refine XS.dup X27.here hx rfl (hb hby at_65) rfl rfl ?_
    show Steps p.tables e below (T27.setTop (mkF m 66 #[.val (.int x0), .val (.int uu), .val (.int ee), .val (.int mm), .val (.int ng), .unset, .unset, .unset, .unset, .unset] [(.ref b0), (.ref b0)])) _
    refine XS.iconst X27.here hx rfl (hb hby at_66) ?_
    show Steps p.tables e below (T27.setTop (mkF m 67 #[.val (.int x0), .val (.int uu), .val (.int ee), .val (.int mm), .val (.int ng), .unset, .unset, .unset, .unset, .unset] [(.int (4 : Int32)), (.ref b0), (.ref b0)])) _
    refine XS.sipush X27.here hx rfl (hb hby at_67) ?_
    show Steps p.tables e below (T27.setTop (mkF m 70 #[.val (.int x0), .val (.int uu), .val (.int ee), .val (.int mm), .val (.int ng), .unset, .unset, .unset, .unset, .unset] [(.int (1980 : Int32)), (.int (4 : Int32)), (.ref b0), (.ref b0)])) _
    exact k
  obtain ⟨cl31, Ar31, qq31, SS31, NN31, HH31, GG31⟩ := V27
  have hin31 : ¬ ((4 : Int32) < 0 ∨ cl31.slots.size ≤ ((4 : Int32)).toNatClampNeg) := inb_of SS31 ⟨by decide, by decide⟩
  obtain ⟨T31, h31, X31, e31, W31, st31⟩ := stI X27 hx hZ e27 Ar31 (j := (4 : Int32)) hin31 (g := (mkF m 70 #[.val (.int x0), .val (.int uu), .val (.int ee), .val (.int mm), .val (.int ng), .unset, .unset, .unset, .unset, .unset] [(.int (1980 : Int32)), (.int (4 : Int32)), (.ref b0), (.ref b0)])) rfl rfl (hb hby at_70)
  have V31 : Arv Z h31 b0 k11 .int (8 : Int32) [(.int (0 : Int32)), (.int (132 : Int32)), (.int (396 : Int32)), (.int (924 : Int32)), (.int (1980 : Int32)), (.int (0 : Int32)), (.int (0 : Int32)), (.int (0 : Int32))] (.int (0 : Int32)) := Arv.set Ar31 qq31 SS31 NN31 HH31 GG31 rfl W31 4 rfl (Nat.le_of_ble_eq_true rfl)
  have zz32 := (Nat.le_trans zz28 (Keep.of_wr W31).1)
  have N31 := Fr.snoc X31 N27 g_b0
  have pre33 : Go p e below (s₁.setTop (entryFrame m #[(.int x0)] maxLocals)) (T31.setTop (mkF m 71 #[.val (.int x0), .val (.int uu), .val (.int ee), .val (.int mm), .val (.int ng), .unset, .unset, .unset, .unset, .unset] [(.ref b0)])) := fun t k => pre30 t (st31 t k)
  have pre34 : Go p e below (s₁.setTop (entryFrame m #[(.int x0)] maxLocals)) (T31.setTop (mkF m 76 #[.val (.int x0), .val (.int uu), .val (.int ee), .val (.int mm), .val (.int ng), .unset, .unset, .unset, .unset, .unset] [(.int (4092 : Int32)), (.int (5 : Int32)), (.ref b0), (.ref b0)])) := by
    intro t k
    refine pre33 t ?_
    show Steps p.tables e below (T31.setTop (mkF m 71 #[.val (.int x0), .val (.int uu), .val (.int ee), .val (.int mm), .val (.int ng), .unset, .unset, .unset, .unset, .unset] [(.ref b0)])) _
    refine XS.dup X31.here hx rfl (hb hby at_71) rfl rfl ?_
    show Steps p.tables e below (T31.setTop (mkF m 72 #[.val (.int x0), .val (.int uu), .val (.int ee), .val (.int mm), .val (.int ng), .unset, .unset, .unset, .unset, .unset] [(.ref b0), (.ref b0)])) _
    refine XS.iconst X31.here hx rfl (hb hby at_72) ?_
    show Steps p.tables e below (T31.setTop (mkF m 73 #[.val (.int x0), .val (.int uu), .val (.int ee), .val (.int mm), .val (.int ng), .unset, .unset, .unset, .unset, .unset] [(.int (5 : Int32)), (.ref b0), (.ref b0)])) _
    refine XS.sipush X31.here hx rfl (hb hby at_73) ?_
    show Steps p.tables e below (T31.setTop (mkF m 76 #[.val (.int x0), .val (.int uu), .val (.int ee), .val (.int mm), .val (.int ng), .unset, .unset, .unset, .unset, .unset] [(.int (4092 : Int32)), (.int (5 : Int32)), (.ref b0), (.ref b0)])) _
    exact k
  obtain ⟨cl35, Ar35, qq35, SS35, NN35, HH35, GG35⟩ := V31
  have hin35 : ¬ ((5 : Int32) < 0 ∨ cl35.slots.size ≤ ((5 : Int32)).toNatClampNeg) := inb_of SS35 ⟨by decide, by decide⟩
  obtain ⟨T35, h35, X35, e35, W35, st35⟩ := stI X31 hx hZ e31 Ar35 (j := (5 : Int32)) hin35 (g := (mkF m 76 #[.val (.int x0), .val (.int uu), .val (.int ee), .val (.int mm), .val (.int ng), .unset, .unset, .unset, .unset, .unset] [(.int (4092 : Int32)), (.int (5 : Int32)), (.ref b0), (.ref b0)])) rfl rfl (hb hby at_76)
  have V35 : Arv Z h35 b0 k11 .int (8 : Int32) [(.int (0 : Int32)), (.int (132 : Int32)), (.int (396 : Int32)), (.int (924 : Int32)), (.int (1980 : Int32)), (.int (4092 : Int32)), (.int (0 : Int32)), (.int (0 : Int32))] (.int (0 : Int32)) := Arv.set Ar35 qq35 SS35 NN35 HH35 GG35 rfl W35 5 rfl (Nat.le_of_ble_eq_true rfl)
  have zz36 := (Nat.le_trans zz32 (Keep.of_wr W35).1)
  have N35 := Fr.snoc X35 N31 g_b0
  have pre37 : Go p e below (s₁.setTop (entryFrame m #[(.int x0)] maxLocals)) (T35.setTop (mkF m 77 #[.val (.int x0), .val (.int uu), .val (.int ee), .val (.int mm), .val (.int ng), .unset, .unset, .unset, .unset, .unset] [(.ref b0)])) := fun t k => pre34 t (st35 t k)
  have pre38 : Go p e below (s₁.setTop (entryFrame m #[(.int x0)] maxLocals)) (T35.setTop (mkF m 83 #[.val (.int x0), .val (.int uu), .val (.int ee), .val (.int mm), .val (.int ng), .unset, .unset, .unset, .unset, .unset] [(.int (8316 : Int32)), (.int (6 : Int32)), (.ref b0), (.ref b0)])) := by
    intro t k
    refine pre37 t ?_
    show Steps p.tables e below (T35.setTop (mkF m 77 #[.val (.int x0), .val (.int uu), .val (.int ee), .val (.int mm), .val (.int ng), .unset, .unset, .unset, .unset, .unset] [(.ref b0)])) _
    refine XS.dup X35.here hx rfl (hb hby at_77) rfl rfl ?_
    show Steps p.tables e below (T35.setTop (mkF m 78 #[.val (.int x0), .val (.int uu), .val (.int ee), .val (.int mm), .val (.int ng), .unset, .unset, .unset, .unset, .unset] [(.ref b0), (.ref b0)])) _
    refine XS.bipush X35.here hx rfl (hb hby at_78) ?_
    show Steps p.tables e below (T35.setTop (mkF m 80 #[.val (.int x0), .val (.int uu), .val (.int ee), .val (.int mm), .val (.int ng), .unset, .unset, .unset, .unset, .unset] [(.int (6 : Int32)), (.ref b0), (.ref b0)])) _
    refine XS.sipush X35.here hx rfl (hb hby at_80) ?_
    show Steps p.tables e below (T35.setTop (mkF m 83 #[.val (.int x0), .val (.int uu), .val (.int ee), .val (.int mm), .val (.int ng), .unset, .unset, .unset, .unset, .unset] [(.int (8316 : Int32)), (.int (6 : Int32)), (.ref b0), (.ref b0)])) _
    exact k
  obtain ⟨cl39, Ar39, qq39, SS39, NN39, HH39, GG39⟩ := V35
  have hin39 : ¬ ((6 : Int32) < 0 ∨ cl39.slots.size ≤ ((6 : Int32)).toNatClampNeg) := inb_of SS39 ⟨by decide, by decide⟩
  obtain ⟨T39, h39, X39, e39, W39, st39⟩ := stI X35 hx hZ e35 Ar39 (j := (6 : Int32)) hin39 (g := (mkF m 83 #[.val (.int x0), .val (.int uu), .val (.int ee), .val (.int mm), .val (.int ng), .unset, .unset, .unset, .unset, .unset] [(.int (8316 : Int32)), (.int (6 : Int32)), (.ref b0), (.ref b0)])) rfl rfl (hb hby at_83)
  have V39 : Arv Z h39 b0 k11 .int (8 : Int32) [(.int (0 : Int32)), (.int (132 : Int32)), (.int (396 : Int32)), (.int (924 : Int32)), (.int (1980 : Int32)), (.int (4092 : Int32)), (.int (8316 : Int32)), (.int (0 : Int32))] (.int (0 : Int32)) := Arv.set Ar39 qq39 SS39 NN39 HH39 GG39 rfl W39 6 rfl (Nat.le_of_ble_eq_true rfl)
  have zz40 := (Nat.le_trans zz36 (Keep.of_wr W39).1)
  have N39 := Fr.snoc X39 N35 g_b0
  have pre41 : Go p e below (s₁.setTop (entryFrame m #[(.int x0)] maxLocals)) (T39.setTop (mkF m 84 #[.val (.int x0), .val (.int uu), .val (.int ee), .val (.int mm), .val (.int ng), .unset, .unset, .unset, .unset, .unset] [(.ref b0)])) := fun t k => pre38 t (st39 t k)
  have pre42 : Go p e below (s₁.setTop (entryFrame m #[(.int x0)] maxLocals)) (T39.setTop (mkF m 90 #[.val (.int x0), .val (.int uu), .val (.int ee), .val (.int mm), .val (.int ng), .unset, .unset, .unset, .unset, .unset] [(.int (16764 : Int32)), (.int (7 : Int32)), (.ref b0), (.ref b0)])) := by
    intro t k
    refine pre41 t ?_
    show Steps p.tables e below (T39.setTop (mkF m 84 #[.val (.int x0), .val (.int uu), .val (.int ee), .val (.int mm), .val (.int ng), .unset, .unset, .unset, .unset, .unset] [(.ref b0)])) _
    refine XS.dup X39.here hx rfl (hb hby at_84) rfl rfl ?_
    show Steps p.tables e below (T39.setTop (mkF m 85 #[.val (.int x0), .val (.int uu), .val (.int ee), .val (.int mm), .val (.int ng), .unset, .unset, .unset, .unset, .unset] [(.ref b0), (.ref b0)])) _
    refine XS.bipush X39.here hx rfl (hb hby at_85) ?_
    show Steps p.tables e below (T39.setTop (mkF m 87 #[.val (.int x0), .val (.int uu), .val (.int ee), .val (.int mm), .val (.int ng), .unset, .unset, .unset, .unset, .unset] [(.int (7 : Int32)), (.ref b0), (.ref b0)])) _
    refine XS.sipush X39.here hx rfl (hb hby at_87) ?_
    show Steps p.tables e below (T39.setTop (mkF m 90 #[.val (.int x0), .val (.int uu), .val (.int ee), .val (.int mm), .val (.int ng), .unset, .unset, .unset, .unset, .unset] [(.int (16764 : Int32)), (.int (7 : Int32)), (.ref b0), (.ref b0)])) _
    exact k
  obtain ⟨cl43, Ar43, qq43, SS43, NN43, HH43, GG43⟩ := V39
  have hin43 : ¬ ((7 : Int32) < 0 ∨ cl43.slots.size ≤ ((7 : Int32)).toNatClampNeg) := inb_of SS43 ⟨by decide, by decide⟩
  obtain ⟨T43, h43, X43, e43, W43, st43⟩ := stI X39 hx hZ e39 Ar43 (j := (7 : Int32)) hin43 (g := (mkF m 90 #[.val (.int x0), .val (.int uu), .val (.int ee), .val (.int mm), .val (.int ng), .unset, .unset, .unset, .unset, .unset] [(.int (16764 : Int32)), (.int (7 : Int32)), (.ref b0), (.ref b0)])) rfl rfl (hb hby at_90)
  have V43 : Arv Z h43 b0 k11 .int (8 : Int32) [(.int (0 : Int32)), (.int (132 : Int32)), (.int (396 : Int32)), (.int (924 : Int32)), (.int (1980 : Int32)), (.int (4092 : Int32)), (.int (8316 : Int32)), (.int (16764 : Int32))] (.int (0 : Int32)) := Arv.set Ar43 qq43 SS43 NN43 HH43 GG43 rfl W43 7 rfl (Nat.le_of_ble_eq_true rfl)
  have zz44 := (Nat.le_trans zz40 (Keep.of_wr W43).1)
  have N43 := Fr.snoc X43 N39 g_b0
  have pre45 : Go p e below (s₁.setTop (entryFrame m #[(.int x0)] maxLocals)) (T43.setTop (mkF m 91 #[.val (.int x0), .val (.int uu), .val (.int ee), .val (.int mm), .val (.int ng), .unset, .unset, .unset, .unset, .unset] [(.ref b0)])) := fun t k => pre42 t (st43 t k)
  have pre46 : Go p e below (s₁.setTop (entryFrame m #[(.int x0)] maxLocals)) (T43.setTop (mkF m 95 #[.val (.int x0), .val (.int uu), .val (.int ee), .val (.int mm), .val (.int ng), .val (.ref b0), .unset, .unset, .unset, .unset] [(.int (8 : Int32))])) := by
    intro t k
    refine pre45 t ?_
    show Steps p.tables e below (T43.setTop (mkF m 91 #[.val (.int x0), .val (.int uu), .val (.int ee), .val (.int mm), .val (.int ng), .unset, .unset, .unset, .unset, .unset] [(.ref b0)])) _
    refine XS.astore X43.here hx rfl (hb hby at_91) rfl rfl (l' := #[.val (.int x0), .val (.int uu), .val (.int ee), .val (.int mm), .val (.int ng), .val (.ref b0), .unset, .unset, .unset, .unset]) rfl ?_
    show Steps p.tables e below (T43.setTop (mkF m 93 #[.val (.int x0), .val (.int uu), .val (.int ee), .val (.int mm), .val (.int ng), .val (.ref b0), .unset, .unset, .unset, .unset] [])) _
    refine XS.bipush X43.here hx rfl (hb hby at_93) ?_
    show Steps p.tables e below (T43.setTop (mkF m 95 #[.val (.int x0), .val (.int uu), .val (.int ee), .val (.int mm), .val (.int ng), .val (.ref b0), .unset, .unset, .unset, .unset] [(.int (8 : Int32))])) _
    exact k
  obtain ⟨T47, h47, k47, X47, e47, E47, A47, st47⟩ := newP X43 hx hZ (hw _ (List.mem_of_getElem? (i := 0) rfl)) e43 (g := (mkF m 95 #[.val (.int x0), .val (.int uu), .val (.int ee), .val (.int mm), .val (.int ng), .val (.ref b0), .unset, .unset, .unset, .unset] [(.int (8 : Int32))])) rfl (hb hby at_95) rfl (by decide) (cap := 8) (by decide) (by decide) (by decide) (by decide)
  obtain ⟨b1, g47⟩ : ∃ z, z = h43.size := ⟨_, rfl⟩
  rw [← g47] at A47 st47
  have c48_47 := V43.ext E47
  have zz49 := (Nat.le_trans zz44 E47.1)
  have V_b1 : Arv Z h47 b1 k47 .int (8 : Int32) [(.int (0 : Int32)), (.int (0 : Int32)), (.int (0 : Int32)), (.int (0 : Int32)), (.int (0 : Int32)), (.int (0 : Int32)), (.int (0 : Int32)), (.int (0 : Int32))] (.int (0 : Int32)) := (Arv.new A47 (by decide)).pad (pad_rep [] (.int (0 : Int32)) 8)
  have g_b1 : n0 ≤ b1 := Nat.le_trans zz44 (Nat.le_of_eq g47.symm)
  have ne_b0_b1 : b0 ≠ b1 := Nat.ne_of_lt (Nat.lt_of_lt_of_le V43.lt (Nat.le_of_eq g47.symm))
  have pre50 : Go p e below (s₁.setTop (entryFrame m #[(.int x0)] maxLocals)) (T47.setTop (mkF m 97 #[.val (.int x0), .val (.int uu), .val (.int ee), .val (.int mm), .val (.int ng), .val (.ref b0), .unset, .unset, .unset, .unset] [(.ref b1)])) := fun t k => pre46 t (st47 t k)
  have pre51 : Go p e below (s₁.setTop (entryFrame m #[(.int x0)] maxLocals)) (T47.setTop (mkF m 101 #[.val (.int x0), .val (.int uu), .val (.int ee), .val (.int mm), .val (.int ng), .val (.ref b0), .unset, .unset, .unset, .unset] [(.int (8 : Int32)), (.int (0 : Int32)), (.ref b1), (.ref b1)])) := by
    intro t k
    refine pre50 t ?_
    show Steps p.tables e below (T47.setTop (mkF m 97 #[.val (.int x0), .val (.int uu), .val (.int ee), .val (.int mm), .val (.int ng), .val (.ref b0), .unset, .unset, .unset, .unset] [(.ref b1)])) _
    refine XS.dup X47.here hx rfl (hb hby at_97) rfl rfl ?_
    show Steps p.tables e below (T47.setTop (mkF m 98 #[.val (.int x0), .val (.int uu), .val (.int ee), .val (.int mm), .val (.int ng), .val (.ref b0), .unset, .unset, .unset, .unset] [(.ref b1), (.ref b1)])) _
    refine XS.iconst X47.here hx rfl (hb hby at_98) ?_
    show Steps p.tables e below (T47.setTop (mkF m 99 #[.val (.int x0), .val (.int uu), .val (.int ee), .val (.int mm), .val (.int ng), .val (.ref b0), .unset, .unset, .unset, .unset] [(.int (0 : Int32)), (.ref b1), (.ref b1)])) _
    refine XS.bipush X47.here hx rfl (hb hby at_99) ?_
    show Steps p.tables e below (T47.setTop (mkF m 101 #[.val (.int x0), .val (.int uu), .val (.int ee), .val (.int mm), .val (.int ng), .val (.ref b0), .unset, .unset, .unset, .unset] [(.int (8 : Int32)), (.int (0 : Int32)), (.ref b1), (.ref b1)])) _
    exact k
  obtain ⟨cl52, Ar52, qq52, SS52, NN52, HH52, GG52⟩ := V_b1
  have hin52 : ¬ ((0 : Int32) < 0 ∨ cl52.slots.size ≤ ((0 : Int32)).toNatClampNeg) := inb_of SS52 ⟨by decide, by decide⟩
  obtain ⟨T52, h52, X52, e52, W52, st52⟩ := stI X47 hx hZ e47 Ar52 (j := (0 : Int32)) hin52 (g := (mkF m 101 #[.val (.int x0), .val (.int uu), .val (.int ee), .val (.int mm), .val (.int ng), .val (.ref b0), .unset, .unset, .unset, .unset] [(.int (8 : Int32)), (.int (0 : Int32)), (.ref b1), (.ref b1)])) rfl rfl (hb hby at_101)
  have V52 : Arv Z h52 b1 k47 .int (8 : Int32) [(.int (8 : Int32)), (.int (0 : Int32)), (.int (0 : Int32)), (.int (0 : Int32)), (.int (0 : Int32)), (.int (0 : Int32)), (.int (0 : Int32)), (.int (0 : Int32))] (.int (0 : Int32)) := Arv.set Ar52 qq52 SS52 NN52 HH52 GG52 rfl W52 0 rfl (Nat.le_of_ble_eq_true rfl)
  have c53_52 := c48_47.other W52 ne_b0_b1
  have zz54 := (Nat.le_trans zz49 (Keep.of_wr W52).1)
  have N52 := Fr.snoc X52 N43 g_b1
  have pre55 : Go p e below (s₁.setTop (entryFrame m #[(.int x0)] maxLocals)) (T52.setTop (mkF m 102 #[.val (.int x0), .val (.int uu), .val (.int ee), .val (.int mm), .val (.int ng), .val (.ref b0), .unset, .unset, .unset, .unset] [(.ref b1)])) := fun t k => pre51 t (st52 t k)
  have pre56 : Go p e below (s₁.setTop (entryFrame m #[(.int x0)] maxLocals)) (T52.setTop (mkF m 106 #[.val (.int x0), .val (.int uu), .val (.int ee), .val (.int mm), .val (.int ng), .val (.ref b0), .unset, .unset, .unset, .unset] [(.int (16 : Int32)), (.int (1 : Int32)), (.ref b1), (.ref b1)])) := by
    intro t k
    refine pre55 t ?_
    show Steps p.tables e below (T52.setTop (mkF m 102 #[.val (.int x0), .val (.int uu), .val (.int ee), .val (.int mm), .val (.int ng), .val (.ref b0), .unset, .unset, .unset, .unset] [(.ref b1)])) _
    refine XS.dup X52.here hx rfl (hb hby at_102) rfl rfl ?_
    show Steps p.tables e below (T52.setTop (mkF m 103 #[.val (.int x0), .val (.int uu), .val (.int ee), .val (.int mm), .val (.int ng), .val (.ref b0), .unset, .unset, .unset, .unset] [(.ref b1), (.ref b1)])) _
    refine XS.iconst X52.here hx rfl (hb hby at_103) ?_
    show Steps p.tables e below (T52.setTop (mkF m 104 #[.val (.int x0), .val (.int uu), .val (.int ee), .val (.int mm), .val (.int ng), .val (.ref b0), .unset, .unset, .unset, .unset] [(.int (1 : Int32)), (.ref b1), (.ref b1)])) _
    refine XS.bipush X52.here hx rfl (hb hby at_104) ?_
    show Steps p.tables e below (T52.setTop (mkF m 106 #[.val (.int x0), .val (.int uu), .val (.int ee), .val (.int mm), .val (.int ng), .val (.ref b0), .unset, .unset, .unset, .unset] [(.int (16 : Int32)), (.int (1 : Int32)), (.ref b1), (.ref b1)])) _
    exact k
  obtain ⟨cl57, Ar57, qq57, SS57, NN57, HH57, GG57⟩ := V52
  have hin57 : ¬ ((1 : Int32) < 0 ∨ cl57.slots.size ≤ ((1 : Int32)).toNatClampNeg) := inb_of SS57 ⟨by decide, by decide⟩
  obtain ⟨T57, h57, X57, e57, W57, st57⟩ := stI X52 hx hZ e52 Ar57 (j := (1 : Int32)) hin57 (g := (mkF m 106 #[.val (.int x0), .val (.int uu), .val (.int ee), .val (.int mm), .val (.int ng), .val (.ref b0), .unset, .unset, .unset, .unset] [(.int (16 : Int32)), (.int (1 : Int32)), (.ref b1), (.ref b1)])) rfl rfl (hb hby at_106)
  have V57 : Arv Z h57 b1 k47 .int (8 : Int32) [(.int (8 : Int32)), (.int (16 : Int32)), (.int (0 : Int32)), (.int (0 : Int32)), (.int (0 : Int32)), (.int (0 : Int32)), (.int (0 : Int32)), (.int (0 : Int32))] (.int (0 : Int32)) := Arv.set Ar57 qq57 SS57 NN57 HH57 GG57 rfl W57 1 rfl (Nat.le_of_ble_eq_true rfl)
  have c58_57 := c53_52.other W57 ne_b0_b1
  have zz59 := (Nat.le_trans zz54 (Keep.of_wr W57).1)
  have N57 := Fr.snoc X57 N52 g_b1
  have pre60 : Go p e below (s₁.setTop (entryFrame m #[(.int x0)] maxLocals)) (T57.setTop (mkF m 107 #[.val (.int x0), .val (.int uu), .val (.int ee), .val (.int mm), .val (.int ng), .val (.ref b0), .unset, .unset, .unset, .unset] [(.ref b1)])) := fun t k => pre56 t (st57 t k)
  have pre61 : Go p e below (s₁.setTop (entryFrame m #[(.int x0)] maxLocals)) (T57.setTop (mkF m 111 #[.val (.int x0), .val (.int uu), .val (.int ee), .val (.int mm), .val (.int ng), .val (.ref b0), .unset, .unset, .unset, .unset] [(.int (32 : Int32)), (.int (2 : Int32)), (.ref b1), (.ref b1)])) := by
    intro t k
    refine pre60 t ?_
    show Steps p.tables e below (T57.setTop (mkF m 107 #[.val (.int x0), .val (.int uu), .val (.int ee), .val (.int mm), .val (.int ng), .val (.ref b0), .unset, .unset, .unset, .unset] [(.ref b1)])) _
    refine XS.dup X57.here hx rfl (hb hby at_107) rfl rfl ?_
    show Steps p.tables e below (T57.setTop (mkF m 108 #[.val (.int x0), .val (.int uu), .val (.int ee), .val (.int mm), .val (.int ng), .val (.ref b0), .unset, .unset, .unset, .unset] [(.ref b1), (.ref b1)])) _
    refine XS.iconst X57.here hx rfl (hb hby at_108) ?_
    show Steps p.tables e below (T57.setTop (mkF m 109 #[.val (.int x0), .val (.int uu), .val (.int ee), .val (.int mm), .val (.int ng), .val (.ref b0), .unset, .unset, .unset, .unset] [(.int (2 : Int32)), (.ref b1), (.ref b1)])) _
    refine XS.bipush X57.here hx rfl (hb hby at_109) ?_
    show Steps p.tables e below (T57.setTop (mkF m 111 #[.val (.int x0), .val (.int uu), .val (.int ee), .val (.int mm), .val (.int ng), .val (.ref b0), .unset, .unset, .unset, .unset] [(.int (32 : Int32)), (.int (2 : Int32)), (.ref b1), (.ref b1)])) _
    exact k
  obtain ⟨cl62, Ar62, qq62, SS62, NN62, HH62, GG62⟩ := V57
  have hin62 : ¬ ((2 : Int32) < 0 ∨ cl62.slots.size ≤ ((2 : Int32)).toNatClampNeg) := inb_of SS62 ⟨by decide, by decide⟩
  obtain ⟨T62, h62, X62, e62, W62, st62⟩ := stI X57 hx hZ e57 Ar62 (j := (2 : Int32)) hin62 (g := (mkF m 111 #[.val (.int x0), .val (.int uu), .val (.int ee), .val (.int mm), .val (.int ng), .val (.ref b0), .unset, .unset, .unset, .unset] [(.int (32 : Int32)), (.int (2 : Int32)), (.ref b1), (.ref b1)])) rfl rfl (hb hby at_111)
  have V62 : Arv Z h62 b1 k47 .int (8 : Int32) [(.int (8 : Int32)), (.int (16 : Int32)), (.int (32 : Int32)), (.int (0 : Int32)), (.int (0 : Int32)), (.int (0 : Int32)), (.int (0 : Int32)), (.int (0 : Int32))] (.int (0 : Int32)) := Arv.set Ar62 qq62 SS62 NN62 HH62 GG62 rfl W62 2 rfl (Nat.le_of_ble_eq_true rfl)
  have c63_62 := c58_57.other W62 ne_b0_b1
  have zz64 := (Nat.le_trans zz59 (Keep.of_wr W62).1)
  have N62 := Fr.snoc X62 N57 g_b1
  have pre65 : Go p e below (s₁.setTop (entryFrame m #[(.int x0)] maxLocals)) (T62.setTop (mkF m 112 #[.val (.int x0), .val (.int uu), .val (.int ee), .val (.int mm), .val (.int ng), .val (.ref b0), .unset, .unset, .unset, .unset] [(.ref b1)])) := fun t k => pre61 t (st62 t k)
  have pre66 : Go p e below (s₁.setTop (entryFrame m #[(.int x0)] maxLocals)) (T62.setTop (mkF m 116 #[.val (.int x0), .val (.int uu), .val (.int ee), .val (.int mm), .val (.int ng), .val (.ref b0), .unset, .unset, .unset, .unset] [(.int (64 : Int32)), (.int (3 : Int32)), (.ref b1), (.ref b1)])) := by
    intro t k
    refine pre65 t ?_
    show Steps p.tables e below (T62.setTop (mkF m 112 #[.val (.int x0), .val (.int uu), .val (.int ee), .val (.int mm), .val (.int ng), .val (.ref b0), .unset, .unset, .unset, .unset] [(.ref b1)])) _
    refine XS.dup X62.here hx rfl (hb hby at_112) rfl rfl ?_
    show Steps p.tables e below (T62.setTop (mkF m 113 #[.val (.int x0), .val (.int uu), .val (.int ee), .val (.int mm), .val (.int ng), .val (.ref b0), .unset, .unset, .unset, .unset] [(.ref b1), (.ref b1)])) _
    refine XS.iconst X62.here hx rfl (hb hby at_113) ?_
    show Steps p.tables e below (T62.setTop (mkF m 114 #[.val (.int x0), .val (.int uu), .val (.int ee), .val (.int mm), .val (.int ng), .val (.ref b0), .unset, .unset, .unset, .unset] [(.int (3 : Int32)), (.ref b1), (.ref b1)])) _
    refine XS.bipush X62.here hx rfl (hb hby at_114) ?_
    show Steps p.tables e below (T62.setTop (mkF m 116 #[.val (.int x0), .val (.int uu), .val (.int ee), .val (.int mm), .val (.int ng), .val (.ref b0), .unset, .unset, .unset, .unset] [(.int (64 : Int32)), (.int (3 : Int32)), (.ref b1), (.ref b1)])) _
    exact k
  obtain ⟨cl67, Ar67, qq67, SS67, NN67, HH67, GG67⟩ := V62
  have hin67 : ¬ ((3 : Int32) < 0 ∨ cl67.slots.size ≤ ((3 : Int32)).toNatClampNeg) := inb_of SS67 ⟨by decide, by decide⟩
  obtain ⟨T67, h67, X67, e67, W67, st67⟩ := stI X62 hx hZ e62 Ar67 (j := (3 : Int32)) hin67 (g := (mkF m 116 #[.val (.int x0), .val (.int uu), .val (.int ee), .val (.int mm), .val (.int ng), .val (.ref b0), .unset, .unset, .unset, .unset] [(.int (64 : Int32)), (.int (3 : Int32)), (.ref b1), (.ref b1)])) rfl rfl (hb hby at_116)
  have V67 : Arv Z h67 b1 k47 .int (8 : Int32) [(.int (8 : Int32)), (.int (16 : Int32)), (.int (32 : Int32)), (.int (64 : Int32)), (.int (0 : Int32)), (.int (0 : Int32)), (.int (0 : Int32)), (.int (0 : Int32))] (.int (0 : Int32)) := Arv.set Ar67 qq67 SS67 NN67 HH67 GG67 rfl W67 3 rfl (Nat.le_of_ble_eq_true rfl)
  have c68_67 := c63_62.other W67 ne_b0_b1
  have zz69 := (Nat.le_trans zz64 (Keep.of_wr W67).1)
  have N67 := Fr.snoc X67 N62 g_b1
  have pre70 : Go p e below (s₁.setTop (entryFrame m #[(.int x0)] maxLocals)) (T67.setTop (mkF m 117 #[.val (.int x0), .val (.int uu), .val (.int ee), .val (.int mm), .val (.int ng), .val (.ref b0), .unset, .unset, .unset, .unset] [(.ref b1)])) := fun t k => pre66 t (st67 t k)
  have pre71 : Go p e below (s₁.setTop (entryFrame m #[(.int x0)] maxLocals)) (T67.setTop (mkF m 122 #[.val (.int x0), .val (.int uu), .val (.int ee), .val (.int mm), .val (.int ng), .val (.ref b0), .unset, .unset, .unset, .unset] [(.int (128 : Int32)), (.int (4 : Int32)), (.ref b1), (.ref b1)])) := by
    intro t k
    refine pre70 t ?_
    show Steps p.tables e below (T67.setTop (mkF m 117 #[.val (.int x0), .val (.int uu), .val (.int ee), .val (.int mm), .val (.int ng), .val (.ref b0), .unset, .unset, .unset, .unset] [(.ref b1)])) _
    refine XS.dup X67.here hx rfl (hb hby at_117) rfl rfl ?_
    show Steps p.tables e below (T67.setTop (mkF m 118 #[.val (.int x0), .val (.int uu), .val (.int ee), .val (.int mm), .val (.int ng), .val (.ref b0), .unset, .unset, .unset, .unset] [(.ref b1), (.ref b1)])) _
    refine XS.iconst X67.here hx rfl (hb hby at_118) ?_
    show Steps p.tables e below (T67.setTop (mkF m 119 #[.val (.int x0), .val (.int uu), .val (.int ee), .val (.int mm), .val (.int ng), .val (.ref b0), .unset, .unset, .unset, .unset] [(.int (4 : Int32)), (.ref b1), (.ref b1)])) _
    refine XS.sipush X67.here hx rfl (hb hby at_119) ?_
    show Steps p.tables e below (T67.setTop (mkF m 122 #[.val (.int x0), .val (.int uu), .val (.int ee), .val (.int mm), .val (.int ng), .val (.ref b0), .unset, .unset, .unset, .unset] [(.int (128 : Int32)), (.int (4 : Int32)), (.ref b1), (.ref b1)])) _
    exact k
  obtain ⟨cl72, Ar72, qq72, SS72, NN72, HH72, GG72⟩ := V67
  have hin72 : ¬ ((4 : Int32) < 0 ∨ cl72.slots.size ≤ ((4 : Int32)).toNatClampNeg) := inb_of SS72 ⟨by decide, by decide⟩
  obtain ⟨T72, h72, X72, e72, W72, st72⟩ := stI X67 hx hZ e67 Ar72 (j := (4 : Int32)) hin72 (g := (mkF m 122 #[.val (.int x0), .val (.int uu), .val (.int ee), .val (.int mm), .val (.int ng), .val (.ref b0), .unset, .unset, .unset, .unset] [(.int (128 : Int32)), (.int (4 : Int32)), (.ref b1), (.ref b1)])) rfl rfl (hb hby at_122)
  have V72 : Arv Z h72 b1 k47 .int (8 : Int32) [(.int (8 : Int32)), (.int (16 : Int32)), (.int (32 : Int32)), (.int (64 : Int32)), (.int (128 : Int32)), (.int (0 : Int32)), (.int (0 : Int32)), (.int (0 : Int32))] (.int (0 : Int32)) := Arv.set Ar72 qq72 SS72 NN72 HH72 GG72 rfl W72 4 rfl (Nat.le_of_ble_eq_true rfl)
  have c73_72 := c68_67.other W72 ne_b0_b1
  have zz74 := (Nat.le_trans zz69 (Keep.of_wr W72).1)
  have N72 := Fr.snoc X72 N67 g_b1
  have pre75 : Go p e below (s₁.setTop (entryFrame m #[(.int x0)] maxLocals)) (T72.setTop (mkF m 123 #[.val (.int x0), .val (.int uu), .val (.int ee), .val (.int mm), .val (.int ng), .val (.ref b0), .unset, .unset, .unset, .unset] [(.ref b1)])) := fun t k => pre71 t (st72 t k)
  have pre76 : Go p e below (s₁.setTop (entryFrame m #[(.int x0)] maxLocals)) (T72.setTop (mkF m 128 #[.val (.int x0), .val (.int uu), .val (.int ee), .val (.int mm), .val (.int ng), .val (.ref b0), .unset, .unset, .unset, .unset] [(.int (256 : Int32)), (.int (5 : Int32)), (.ref b1), (.ref b1)])) := by
    intro t k
    refine pre75 t ?_
    show Steps p.tables e below (T72.setTop (mkF m 123 #[.val (.int x0), .val (.int uu), .val (.int ee), .val (.int mm), .val (.int ng), .val (.ref b0), .unset, .unset, .unset, .unset] [(.ref b1)])) _
    refine XS.dup X72.here hx rfl (hb hby at_123) rfl rfl ?_
    show Steps p.tables e below (T72.setTop (mkF m 124 #[.val (.int x0), .val (.int uu), .val (.int ee), .val (.int mm), .val (.int ng), .val (.ref b0), .unset, .unset, .unset, .unset] [(.ref b1), (.ref b1)])) _
    refine XS.iconst X72.here hx rfl (hb hby at_124) ?_
    show Steps p.tables e below (T72.setTop (mkF m 125 #[.val (.int x0), .val (.int uu), .val (.int ee), .val (.int mm), .val (.int ng), .val (.ref b0), .unset, .unset, .unset, .unset] [(.int (5 : Int32)), (.ref b1), (.ref b1)])) _
    refine XS.sipush X72.here hx rfl (hb hby at_125) ?_
    show Steps p.tables e below (T72.setTop (mkF m 128 #[.val (.int x0), .val (.int uu), .val (.int ee), .val (.int mm), .val (.int ng), .val (.ref b0), .unset, .unset, .unset, .unset] [(.int (256 : Int32)), (.int (5 : Int32)), (.ref b1), (.ref b1)])) _
    exact k
  obtain ⟨cl77, Ar77, qq77, SS77, NN77, HH77, GG77⟩ := V72
  have hin77 : ¬ ((5 : Int32) < 0 ∨ cl77.slots.size ≤ ((5 : Int32)).toNatClampNeg) := inb_of SS77 ⟨by decide, by decide⟩
  obtain ⟨T77, h77, X77, e77, W77, st77⟩ := stI X72 hx hZ e72 Ar77 (j := (5 : Int32)) hin77 (g := (mkF m 128 #[.val (.int x0), .val (.int uu), .val (.int ee), .val (.int mm), .val (.int ng), .val (.ref b0), .unset, .unset, .unset, .unset] [(.int (256 : Int32)), (.int (5 : Int32)), (.ref b1), (.ref b1)])) rfl rfl (hb hby at_128)
  have V77 : Arv Z h77 b1 k47 .int (8 : Int32) [(.int (8 : Int32)), (.int (16 : Int32)), (.int (32 : Int32)), (.int (64 : Int32)), (.int (128 : Int32)), (.int (256 : Int32)), (.int (0 : Int32)), (.int (0 : Int32))] (.int (0 : Int32)) := Arv.set Ar77 qq77 SS77 NN77 HH77 GG77 rfl W77 5 rfl (Nat.le_of_ble_eq_true rfl)
  have c78_77 := c73_72.other W77 ne_b0_b1
  have zz79 := (Nat.le_trans zz74 (Keep.of_wr W77).1)
  have N77 := Fr.snoc X77 N72 g_b1
  have pre80 : Go p e below (s₁.setTop (entryFrame m #[(.int x0)] maxLocals)) (T77.setTop (mkF m 129 #[.val (.int x0), .val (.int uu), .val (.int ee), .val (.int mm), .val (.int ng), .val (.ref b0), .unset, .unset, .unset, .unset] [(.ref b1)])) := fun t k => pre76 t (st77 t k)
  have pre81 : Go p e below (s₁.setTop (entryFrame m #[(.int x0)] maxLocals)) (T77.setTop (mkF m 135 #[.val (.int x0), .val (.int uu), .val (.int ee), .val (.int mm), .val (.int ng), .val (.ref b0), .unset, .unset, .unset, .unset] [(.int (512 : Int32)), (.int (6 : Int32)), (.ref b1), (.ref b1)])) := by
    intro t k
    refine pre80 t ?_
    show Steps p.tables e below (T77.setTop (mkF m 129 #[.val (.int x0), .val (.int uu), .val (.int ee), .val (.int mm), .val (.int ng), .val (.ref b0), .unset, .unset, .unset, .unset] [(.ref b1)])) _
    refine XS.dup X77.here hx rfl (hb hby at_129) rfl rfl ?_
    show Steps p.tables e below (T77.setTop (mkF m 130 #[.val (.int x0), .val (.int uu), .val (.int ee), .val (.int mm), .val (.int ng), .val (.ref b0), .unset, .unset, .unset, .unset] [(.ref b1), (.ref b1)])) _
    refine XS.bipush X77.here hx rfl (hb hby at_130) ?_
    show Steps p.tables e below (T77.setTop (mkF m 132 #[.val (.int x0), .val (.int uu), .val (.int ee), .val (.int mm), .val (.int ng), .val (.ref b0), .unset, .unset, .unset, .unset] [(.int (6 : Int32)), (.ref b1), (.ref b1)])) _
    refine XS.sipush X77.here hx rfl (hb hby at_132) ?_
    show Steps p.tables e below (T77.setTop (mkF m 135 #[.val (.int x0), .val (.int uu), .val (.int ee), .val (.int mm), .val (.int ng), .val (.ref b0), .unset, .unset, .unset, .unset] [(.int (512 : Int32)), (.int (6 : Int32)), (.ref b1), (.ref b1)])) _
    exact k
  obtain ⟨cl82, Ar82, qq82, SS82, NN82, HH82, GG82⟩ := V77
  have hin82 : ¬ ((6 : Int32) < 0 ∨ cl82.slots.size ≤ ((6 : Int32)).toNatClampNeg) := inb_of SS82 ⟨by decide, by decide⟩
  obtain ⟨T82, h82, X82, e82, W82, st82⟩ := stI X77 hx hZ e77 Ar82 (j := (6 : Int32)) hin82 (g := (mkF m 135 #[.val (.int x0), .val (.int uu), .val (.int ee), .val (.int mm), .val (.int ng), .val (.ref b0), .unset, .unset, .unset, .unset] [(.int (512 : Int32)), (.int (6 : Int32)), (.ref b1), (.ref b1)])) rfl rfl (hb hby at_135)
  have V82 : Arv Z h82 b1 k47 .int (8 : Int32) [(.int (8 : Int32)), (.int (16 : Int32)), (.int (32 : Int32)), (.int (64 : Int32)), (.int (128 : Int32)), (.int (256 : Int32)), (.int (512 : Int32)), (.int (0 : Int32))] (.int (0 : Int32)) := Arv.set Ar82 qq82 SS82 NN82 HH82 GG82 rfl W82 6 rfl (Nat.le_of_ble_eq_true rfl)
  have c83_82 := c78_77.other W82 ne_b0_b1
  have zz84 := (Nat.le_trans zz79 (Keep.of_wr W82).1)
  have N82 := Fr.snoc X82 N77 g_b1
  have pre85 : Go p e below (s₁.setTop (entryFrame m #[(.int x0)] maxLocals)) (T82.setTop (mkF m 136 #[.val (.int x0), .val (.int uu), .val (.int ee), .val (.int mm), .val (.int ng), .val (.ref b0), .unset, .unset, .unset, .unset] [(.ref b1)])) := fun t k => pre81 t (st82 t k)
  have pre86 : Go p e below (s₁.setTop (entryFrame m #[(.int x0)] maxLocals)) (T82.setTop (mkF m 142 #[.val (.int x0), .val (.int uu), .val (.int ee), .val (.int mm), .val (.int ng), .val (.ref b0), .unset, .unset, .unset, .unset] [(.int (1024 : Int32)), (.int (7 : Int32)), (.ref b1), (.ref b1)])) := by
    intro t k
    refine pre85 t ?_
    show Steps p.tables e below (T82.setTop (mkF m 136 #[.val (.int x0), .val (.int uu), .val (.int ee), .val (.int mm), .val (.int ng), .val (.ref b0), .unset, .unset, .unset, .unset] [(.ref b1)])) _
    refine XS.dup X82.here hx rfl (hb hby at_136) rfl rfl ?_
    show Steps p.tables e below (T82.setTop (mkF m 137 #[.val (.int x0), .val (.int uu), .val (.int ee), .val (.int mm), .val (.int ng), .val (.ref b0), .unset, .unset, .unset, .unset] [(.ref b1), (.ref b1)])) _
    refine XS.bipush X82.here hx rfl (hb hby at_137) ?_
    show Steps p.tables e below (T82.setTop (mkF m 139 #[.val (.int x0), .val (.int uu), .val (.int ee), .val (.int mm), .val (.int ng), .val (.ref b0), .unset, .unset, .unset, .unset] [(.int (7 : Int32)), (.ref b1), (.ref b1)])) _
    refine XS.sipush X82.here hx rfl (hb hby at_139) ?_
    show Steps p.tables e below (T82.setTop (mkF m 142 #[.val (.int x0), .val (.int uu), .val (.int ee), .val (.int mm), .val (.int ng), .val (.ref b0), .unset, .unset, .unset, .unset] [(.int (1024 : Int32)), (.int (7 : Int32)), (.ref b1), (.ref b1)])) _
    exact k
  obtain ⟨cl87, Ar87, qq87, SS87, NN87, HH87, GG87⟩ := V82
  have hin87 : ¬ ((7 : Int32) < 0 ∨ cl87.slots.size ≤ ((7 : Int32)).toNatClampNeg) := inb_of SS87 ⟨by decide, by decide⟩
  obtain ⟨T87, h87, X87, e87, W87, st87⟩ := stI X82 hx hZ e82 Ar87 (j := (7 : Int32)) hin87 (g := (mkF m 142 #[.val (.int x0), .val (.int uu), .val (.int ee), .val (.int mm), .val (.int ng), .val (.ref b0), .unset, .unset, .unset, .unset] [(.int (1024 : Int32)), (.int (7 : Int32)), (.ref b1), (.ref b1)])) rfl rfl (hb hby at_142)
  have V87 : Arv Z h87 b1 k47 .int (8 : Int32) [(.int (8 : Int32)), (.int (16 : Int32)), (.int (32 : Int32)), (.int (64 : Int32)), (.int (128 : Int32)), (.int (256 : Int32)), (.int (512 : Int32)), (.int (1024 : Int32))] (.int (0 : Int32)) := Arv.set Ar87 qq87 SS87 NN87 HH87 GG87 rfl W87 7 rfl (Nat.le_of_ble_eq_true rfl)
  have c88_87 := c83_82.other W87 ne_b0_b1
  have zz89 := (Nat.le_trans zz84 (Keep.of_wr W87).1)
  have N87 := Fr.snoc X87 N82 g_b1
  have pre90 : Go p e below (s₁.setTop (entryFrame m #[(.int x0)] maxLocals)) (T87.setTop (mkF m 143 #[.val (.int x0), .val (.int uu), .val (.int ee), .val (.int mm), .val (.int ng), .val (.ref b0), .unset, .unset, .unset, .unset] [(.ref b1)])) := fun t k => pre86 t (st87 t k)
  have pre91 : Go p e below (s₁.setTop (entryFrame m #[(.int x0)] maxLocals)) (T87.setTop (mkF m 145 #[.val (.int x0), .val (.int uu), .val (.int ee), .val (.int mm), .val (.int ng), .val (.ref b0), .val (.ref b1), .unset, .unset, .unset] [])) := by
    intro t k
    refine pre90 t ?_
    show Steps p.tables e below (T87.setTop (mkF m 143 #[.val (.int x0), .val (.int uu), .val (.int ee), .val (.int mm), .val (.int ng), .val (.ref b0), .unset, .unset, .unset, .unset] [(.ref b1)])) _
    refine XS.astore X87.here hx rfl (hb hby at_143) rfl rfl (l' := #[.val (.int x0), .val (.int uu), .val (.int ee), .val (.int mm), .val (.int ng), .val (.ref b0), .val (.ref b1), .unset, .unset, .unset]) rfl ?_
    show Steps p.tables e below (T87.setTop (mkF m 145 #[.val (.int x0), .val (.int uu), .val (.int ee), .val (.int mm), .val (.int ng), .val (.ref b0), .val (.ref b1), .unset, .unset, .unset] [])) _
    exact k
  obtain ⟨clP, ArP, -, SSP, NNP, HHP, -⟩ := (show Arv Z h87 b0 k11 .int (8 : Int32) (own_a.map Value.int) (.int (0 : Int32)) from c88_87)
  obtain ⟨clQ, ArQ, -, SSQ, NNQ, HHQ, -⟩ := (show Arv Z h87 b1 k47 .int (8 : Int32) (own_s.map Value.int) (.int (0 : Int32)) from V87)
  have hinP := inb_of (j := ee) SSP (hee ▸ hall.1)
  have hinQ := inb_of (j := ee) SSQ (hee ▸ hall.1)
  have pre92 : Go p e below (s₁.setTop (entryFrame m #[(.int x0)] maxLocals)) (T87.setTop (mkF m 156 #[.val (.int x0), .val (.int uu), .val (.int ee), .val (.int mm), .val (.int ng), .val (.ref b0), .val (.ref b1), .unset, .unset, .unset] [(.int ((own_a.getD (ee).toNatClampNeg 0) + (mm * (own_s.getD (ee).toNatClampNeg 0))))])) := by
    intro t k
    refine pre91 t ?_
    show Steps p.tables e below (T87.setTop (mkF m 145 #[.val (.int x0), .val (.int uu), .val (.int ee), .val (.int mm), .val (.int ng), .val (.ref b0), .val (.ref b1), .unset, .unset, .unset] [])) _
    refine XS.aload X87.here hx rfl (hb hby at_145) rfl rfl ?_
    show Steps p.tables e below (T87.setTop (mkF m 147 #[.val (.int x0), .val (.int uu), .val (.int ee), .val (.int mm), .val (.int ng), .val (.ref b0), .val (.ref b1), .unset, .unset, .unset] [(.ref b0)])) _
    refine XS.iloadN X87.here hx rfl (hb hby at_147) rfl ?_
    show Steps p.tables e below (T87.setTop (mkF m 148 #[.val (.int x0), .val (.int uu), .val (.int ee), .val (.int mm), .val (.int ng), .val (.ref b0), .val (.ref b1), .unset, .unset, .unset] [(.int ee), (.ref b0)])) _
    refine X87.iaload hx (j := ee) (v := (.int (own_a.getD (ee).toNatClampNeg 0))) (by rw [e87]; exact ArP.1) (State.isArrayOf_alike hZ.alike ArP.2.1) ArP.2.2 hinP (HHP.at hinP (own_getD _ _)) (g := (mkF m 148 #[.val (.int x0), .val (.int uu), .val (.int ee), .val (.int mm), .val (.int ng), .val (.ref b0), .val (.ref b1), .unset, .unset, .unset] [(.int ee), (.ref b0)])) rfl rfl (hb hby at_148) _ ?_
    show Steps p.tables e below (T87.setTop (mkF m 149 #[.val (.int x0), .val (.int uu), .val (.int ee), .val (.int mm), .val (.int ng), .val (.ref b0), .val (.ref b1), .unset, .unset, .unset] [(.int (own_a.getD (ee).toNatClampNeg 0))])) _
    refine XS.iloadN X87.here hx rfl (hb hby at_149) rfl ?_
    show Steps p.tables e below (T87.setTop (mkF m 150 #[.val (.int x0), .val (.int uu), .val (.int ee), .val (.int mm), .val (.int ng), .val (.ref b0), .val (.ref b1), .unset, .unset, .unset] [(.int mm), (.int (own_a.getD (ee).toNatClampNeg 0))])) _
    refine XS.aload X87.here hx rfl (hb hby at_150) rfl rfl ?_
    show Steps p.tables e below (T87.setTop (mkF m 152 #[.val (.int x0), .val (.int uu), .val (.int ee), .val (.int mm), .val (.int ng), .val (.ref b0), .val (.ref b1), .unset, .unset, .unset] [(.ref b1), (.int mm), (.int (own_a.getD (ee).toNatClampNeg 0))])) _
    refine XS.iloadN X87.here hx rfl (hb hby at_152) rfl ?_
    show Steps p.tables e below (T87.setTop (mkF m 153 #[.val (.int x0), .val (.int uu), .val (.int ee), .val (.int mm), .val (.int ng), .val (.ref b0), .val (.ref b1), .unset, .unset, .unset] [(.int ee), (.ref b1), (.int mm), (.int (own_a.getD (ee).toNatClampNeg 0))])) _
    refine X87.iaload hx (j := ee) (v := (.int (own_s.getD (ee).toNatClampNeg 0))) (by rw [e87]; exact ArQ.1) (State.isArrayOf_alike hZ.alike ArQ.2.1) ArQ.2.2 hinQ (HHQ.at hinQ (own_getD _ _)) (g := (mkF m 153 #[.val (.int x0), .val (.int uu), .val (.int ee), .val (.int mm), .val (.int ng), .val (.ref b0), .val (.ref b1), .unset, .unset, .unset] [(.int ee), (.ref b1), (.int mm), (.int (own_a.getD (ee).toNatClampNeg 0))])) rfl rfl (hb hby at_153) _ ?_
    show Steps p.tables e below (T87.setTop (mkF m 154 #[.val (.int x0), .val (.int uu), .val (.int ee), .val (.int mm), .val (.int ng), .val (.ref b0), .val (.ref b1), .unset, .unset, .unset] [(.int (own_s.getD (ee).toNatClampNeg 0)), (.int mm), (.int (own_a.getD (ee).toNatClampNeg 0))])) _
    refine XS.imul X87.here hx rfl (hb hby at_154) rfl ?_
    show Steps p.tables e below (T87.setTop (mkF m 155 #[.val (.int x0), .val (.int uu), .val (.int ee), .val (.int mm), .val (.int ng), .val (.ref b0), .val (.ref b1), .unset, .unset, .unset] [(.int (mm * (own_s.getD (ee).toNatClampNeg 0))), (.int (own_a.getD (ee).toNatClampNeg 0))])) _
    refine XS.iadd X87.here hx rfl (hb hby at_155) rfl ?_
    show Steps p.tables e below (T87.setTop (mkF m 156 #[.val (.int x0), .val (.int uu), .val (.int ee), .val (.int mm), .val (.int ng), .val (.ref b0), .val (.ref b1), .unset, .unset, .unset] [(.int ((own_a.getD (ee).toNatClampNeg 0) + (mm * (own_s.getD (ee).toNatClampNeg 0))))])) _
    exact k
  obtain ⟨mag, h_mag⟩ : ∃ z : Int32, z = ((own_a.getD (ee).toNatClampNeg 0) + (mm * (own_s.getD (ee).toNatClampNeg 0))) := ⟨_, rfl⟩
  have pre93 : Go p e below (s₁.setTop (entryFrame m #[(.int x0)] maxLocals)) (T87.setTop (mkF m 156 #[.val (.int x0), .val (.int uu), .val (.int ee), .val (.int mm), .val (.int ng), .val (.ref b0), .val (.ref b1), .unset, .unset, .unset] [(.int mag)])) := by rw [h_mag]; exact pre92
  have hmag : mag = own_mag uu := by rw [h_mag, hee, hmm]; rfl
  have pre94 : Go p e below (s₁.setTop (entryFrame m #[(.int x0)] maxLocals)) (T87.setTop (mkF m 160 #[.val (.int x0), .val (.int uu), .val (.int ee), .val (.int mm), .val (.int ng), .val (.ref b0), .val (.ref b1), .val (.int mag), .unset, .unset] [(.int ng)])) := by
    intro t k
    refine pre93 t ?_
    show Steps p.tables e below (T87.setTop (mkF m 156 #[.val (.int x0), .val (.int uu), .val (.int ee), .val (.int mm), .val (.int ng), .val (.ref b0), .val (.ref b1), .unset, .unset, .unset] [(.int mag)])) _
    refine XS.istore X87.here hx rfl (hb hby at_156) rfl (l' := #[.val (.int x0), .val (.int uu), .val (.int ee), .val (.int mm), .val (.int ng), .val (.ref b0), .val (.ref b1), .val (.int mag), .unset, .unset]) rfl ?_
    show Steps p.tables e below (T87.setTop (mkF m 158 #[.val (.int x0), .val (.int uu), .val (.int ee), .val (.int mm), .val (.int ng), .val (.ref b0), .val (.ref b1), .val (.int mag), .unset, .unset] [])) _
    refine XS.iload X87.here hx rfl (hb hby at_158) rfl ?_
    show Steps p.tables e below (T87.setTop (mkF m 160 #[.val (.int x0), .val (.int uu), .val (.int ee), .val (.int mm), .val (.int ng), .val (.ref b0), .val (.ref b1), .val (.int mag), .unset, .unset] [(.int ng)])) _
    exact k
  obtain ⟨ex, h_ex⟩ : ∃ z : Int32, z = (if ng = (0 : Int32) then mag else ((-mag))) := ⟨_, rfl⟩
  have pre96 : Go p e below (s₁.setTop (entryFrame m #[(.int x0)] maxLocals)) (T87.setTop (mkF m 171 #[.val (.int x0), .val (.int uu), .val (.int ee), .val (.int mm), .val (.int ng), .val (.ref b0), .val (.ref b1), .val (.int mag), .unset, .unset] [(.int ex)])) := by
    intro t k
    refine pre94 t ?_
    show Steps p.tables e below (T87.setTop (mkF m 160 #[.val (.int x0), .val (.int uu), .val (.int ee), .val (.int mm), .val (.int ng), .val (.ref b0), .val (.ref b1), .val (.int mag), .unset, .unset] [(.int ng)])) _
    by_cases hc160_95 : ng = (0 : Int32)
    · skip
      refine XS.ifYes X87.here hx rfl (pc0 := 160) (pc' := 169) rfl (hb hby at_160) rfl (XT.i0_eq_t hc160_95) (by decide) (by decide) ?_
      show Steps p.tables e below (T87.setTop (mkF m 169 #[.val (.int x0), .val (.int uu), .val (.int ee), .val (.int mm), .val (.int ng), .val (.ref b0), .val (.ref b1), .val (.int mag), .unset, .unset] [])) _
      refine XS.iload X87.here hx rfl (hb hby at_169) rfl ?_
      show Steps p.tables e below (T87.setTop (mkF m 171 #[.val (.int x0), .val (.int uu), .val (.int ee), .val (.int mm), .val (.int ng), .val (.ref b0), .val (.ref b1), .val (.int mag), .unset, .unset] [(.int mag)])) _
      rw [show ex = mag from by rw [h_ex]; rw [if_pos hc160_95]] at k
      exact k
    · skip
      refine XS.ifNo X87.here hx rfl (hb hby at_160) rfl (XT.i0_eq_f hc160_95) ?_
      show Steps p.tables e below (T87.setTop (mkF m 163 #[.val (.int x0), .val (.int uu), .val (.int ee), .val (.int mm), .val (.int ng), .val (.ref b0), .val (.ref b1), .val (.int mag), .unset, .unset] [])) _
      refine XS.iload X87.here hx rfl (hb hby at_163) rfl ?_
      show Steps p.tables e below (T87.setTop (mkF m 165 #[.val (.int x0), .val (.int uu), .val (.int ee), .val (.int mm), .val (.int ng), .val (.ref b0), .val (.ref b1), .val (.int mag), .unset, .unset] [(.int mag)])) _
      refine XS.ineg X87.here hx rfl (hb hby at_165) rfl ?_
      show Steps p.tables e below (T87.setTop (mkF m 166 #[.val (.int x0), .val (.int uu), .val (.int ee), .val (.int mm), .val (.int ng), .val (.ref b0), .val (.ref b1), .val (.int mag), .unset, .unset] [(.int ((-mag)))])) _
      refine XS.goto X87.here hx rfl (pc0 := 166) (pc' := 171) rfl (hb hby at_166) (by decide) (by decide) ?_
      show Steps p.tables e below (T87.setTop (mkF m 171 #[.val (.int x0), .val (.int uu), .val (.int ee), .val (.int mm), .val (.int ng), .val (.ref b0), .val (.ref b1), .val (.int mag), .unset, .unset] [(.int ((-mag)))])) _
      rw [show ex = ((-mag)) from by rw [h_ex]; rw [if_neg hc160_95]] at k
      exact k
  have pre97 : Go p e below (s₁.setTop (entryFrame m #[(.int x0)] maxLocals)) (T87.setTop (mkF m 175 #[.val (.int x0), .val (.int uu), .val (.int ee), .val (.int mm), .val (.int ng), .val (.ref b0), .val (.ref b1), .val (.int mag), .val (.int ex), .unset] [(.int ((uu).toInt8.toInt32))])) := by
    intro t k
    refine pre96 t ?_
    show Steps p.tables e below (T87.setTop (mkF m 171 #[.val (.int x0), .val (.int uu), .val (.int ee), .val (.int mm), .val (.int ng), .val (.ref b0), .val (.ref b1), .val (.int mag), .unset, .unset] [(.int ex)])) _
    refine XS.istore X87.here hx rfl (hb hby at_171) rfl (l' := #[.val (.int x0), .val (.int uu), .val (.int ee), .val (.int mm), .val (.int ng), .val (.ref b0), .val (.ref b1), .val (.int mag), .val (.int ex), .unset]) rfl ?_
    show Steps p.tables e below (T87.setTop (mkF m 173 #[.val (.int x0), .val (.int uu), .val (.int ee), .val (.int mm), .val (.int ng), .val (.ref b0), .val (.ref b1), .val (.int mag), .val (.int ex), .unset] [])) _
    refine XS.iloadN X87.here hx rfl (hb hby at_173) rfl ?_
    show Steps p.tables e below (T87.setTop (mkF m 174 #[.val (.int x0), .val (.int uu), .val (.int ee), .val (.int mm), .val (.int ng), .val (.ref b0), .val (.ref b1), .val (.int mag), .val (.int ex), .unset] [(.int uu)])) _
    refine XS.i2b X87.here hx rfl (hb hby at_174) rfl ?_
    show Steps p.tables e below (T87.setTop (mkF m 175 #[.val (.int x0), .val (.int uu), .val (.int ee), .val (.int mm), .val (.int ng), .val (.ref b0), .val (.ref b1), .val (.int mag), .val (.int ex), .unset] [(.int ((uu).toInt8.toInt32))])) _
    exact k
  obtain ⟨_, _, ⟨T98, L98, k98, n98⟩, -, X98, ⟨Lc98, hQ98, l98, y98, z98⟩, st98⟩ := Jvm.LawKit.callS X87 hx (y := (⟨"com/example/patchcord/patchcord/media/G711", "ulawToLinear", "(B)S"⟩ : MethodName)) hown (mvT hZ (hw _ (List.mem_of_getElem? (i := 1) rfl))) (mvT hZ (hw _ (List.mem_of_getElem? (i := 2) rfl))) (mvT hZ (hw _ (List.mem_of_getElem? (i := 3) rfl))) (mvT hZ (hw _ (List.mem_of_getElem? (i := 4) rfl))) (by decide) (backOf (W := 0) (rm1 l Z a0 hw [] ((uu).toInt8.toInt32)  h87 n0 zz89 ) hZ (hw _ (List.mem_of_getElem? (i := 4) rfl)) (hw _ (List.mem_of_getElem? (i := 3) rfl)) (by decide) (by decide)) (g := (mkF m 175 #[.val (.int x0), .val (.int uu), .val (.int ee), .val (.int mm), .val (.int ng), .val (.ref b0), .val (.ref b1), .val (.int mag), .val (.int ex), .unset] [(.int ((uu).toInt8.toInt32))])) rfl (by rw [hml]; rfl) (argsL := [(.int ((uu).toInt8.toInt32))]) (rest := []) (lenOf pd_1 rfl) rfl (by show 2 * 0 + _ ≤ _; exact Nat.le_of_eq rfl) (hb hby at_175) (fun _ _ => ⟨rfl, e87, (by decide : 2 + 0 ≤ _), (by decide : 16 + 0 ≤ _)⟩)
  dsimp only [Pt.U, Pt.locs, Pt.cells, Pt.slots] at X98 l98 y98 z98 st98 hQ98
  subst l98 y98 z98
  obtain ⟨rfl, N98q, hh98⟩ := hQ98
  have N98 := Fr.app N87 N98q
  have pre99 : Go p e below (s₁.setTop (entryFrame m #[(.int x0)] maxLocals)) (T98.setTop (mkF m 178 #[.val (.int x0), .val (.int uu), .val (.int ee), .val (.int mm), .val (.int ng), .val (.ref b0), .val (.ref b1), .val (.int mag), .val (.int ex), .unset] [(.int (f1 ((uu).toInt8.toInt32)))])) := fun t k => pre97 t (st98 t k)
  have pre100 : Go p e below (s₁.setTop (entryFrame m #[(.int x0)] maxLocals)) (T98.setTop (mkF m 184 #[.val (.int x0), .val (.int uu), .val (.int ee), .val (.int mm), .val (.int ng), .val (.ref b0), .val (.ref b1), .val (.int mag), .val (.int ex), .val (.int (f1 ((uu).toInt8.toInt32)))] [(.int ex), (.int (f1 ((uu).toInt8.toInt32)))])) := by
    intro t k
    refine pre99 t ?_
    show Steps p.tables e below (T98.setTop (mkF m 178 #[.val (.int x0), .val (.int uu), .val (.int ee), .val (.int mm), .val (.int ng), .val (.ref b0), .val (.ref b1), .val (.int mag), .val (.int ex), .unset] [(.int (f1 ((uu).toInt8.toInt32)))])) _
    refine XS.istore X98.here hx rfl (hb hby at_178) rfl (l' := #[.val (.int x0), .val (.int uu), .val (.int ee), .val (.int mm), .val (.int ng), .val (.ref b0), .val (.ref b1), .val (.int mag), .val (.int ex), .val (.int (f1 ((uu).toInt8.toInt32)))]) rfl ?_
    show Steps p.tables e below (T98.setTop (mkF m 180 #[.val (.int x0), .val (.int uu), .val (.int ee), .val (.int mm), .val (.int ng), .val (.ref b0), .val (.ref b1), .val (.int mag), .val (.int ex), .val (.int (f1 ((uu).toInt8.toInt32)))] [])) _
    refine XS.iload X98.here hx rfl (hb hby at_180) rfl ?_
    show Steps p.tables e below (T98.setTop (mkF m 182 #[.val (.int x0), .val (.int uu), .val (.int ee), .val (.int mm), .val (.int ng), .val (.ref b0), .val (.ref b1), .val (.int mag), .val (.int ex), .val (.int (f1 ((uu).toInt8.toInt32)))] [(.int (f1 ((uu).toInt8.toInt32)))])) _
    refine XS.iload X98.here hx rfl (hb hby at_182) rfl ?_
    show Steps p.tables e below (T98.setTop (mkF m 184 #[.val (.int x0), .val (.int uu), .val (.int ee), .val (.int mm), .val (.int ng), .val (.ref b0), .val (.ref b1), .val (.int mag), .val (.int ex), .val (.int (f1 ((uu).toInt8.toInt32)))] [(.int ex), (.int (f1 ((uu).toInt8.toInt32)))])) _
    exact k
  have hc184_101 : (f1 ((uu).toInt8.toInt32)) = ex := by
    rw [h_ex, show ng = own_ng uu from h_ng, hmag]; exact hall.2
  have pre102 : Go p e below (s₁.setTop (entryFrame m #[(.int x0)] maxLocals)) (T98.setTop (mkF m 192 #[.val (.int x0), .val (.int uu), .val (.int ee), .val (.int mm), .val (.int ng), .val (.ref b0), .val (.ref b1), .val (.int mag), .val (.int ex), .val (.int (f1 ((uu).toInt8.toInt32)))] [(.int (1 : Int32))])) := by
    intro t k
    refine pre100 t ?_
    show Steps p.tables e below (T98.setTop (mkF m 184 #[.val (.int x0), .val (.int uu), .val (.int ee), .val (.int mm), .val (.int ng), .val (.ref b0), .val (.ref b1), .val (.int mag), .val (.int ex), .val (.int (f1 ((uu).toInt8.toInt32)))] [(.int ex), (.int (f1 ((uu).toInt8.toInt32)))])) _
    refine XS.icmpNo X98.here hx rfl (hb hby at_184) rfl (XT.ii_ne_f hc184_101) ?_
    show Steps p.tables e below (T98.setTop (mkF m 187 #[.val (.int x0), .val (.int uu), .val (.int ee), .val (.int mm), .val (.int ng), .val (.ref b0), .val (.ref b1), .val (.int mag), .val (.int ex), .val (.int (f1 ((uu).toInt8.toInt32)))] [])) _
    refine XS.iconst X98.here hx rfl (hb hby at_187) ?_
    show Steps p.tables e below (T98.setTop (mkF m 188 #[.val (.int x0), .val (.int uu), .val (.int ee), .val (.int mm), .val (.int ng), .val (.ref b0), .val (.ref b1), .val (.int mag), .val (.int ex), .val (.int (f1 ((uu).toInt8.toInt32)))] [(.int (1 : Int32))])) _
    refine XS.goto X98.here hx rfl (pc0 := 188) (pc' := 192) rfl (hb hby at_188) (by decide) (by decide) ?_
    show Steps p.tables e below (T98.setTop (mkF m 192 #[.val (.int x0), .val (.int uu), .val (.int ee), .val (.int mm), .val (.int ng), .val (.ref b0), .val (.ref b1), .val (.int mag), .val (.int ex), .val (.int (f1 ((uu).toInt8.toInt32)))] [(.int (1 : Int32))])) _
    exact k
  obtain ⟨fs, hr, hrun, hended, hW, hsame⟩ := X98.leave (v := some (.int (1 : Int32))) (fun h => by rw [Bd.returns] at h; cases h)
  refine ⟨_, _, pre102 _ (retN X98 hx (t := .boolean) Bd.returns (by simp) (hb hby at_192) hr), hrun, hended, _, _, rfl, ?_, ⟨_, rfl⟩, hW, hsame.mono (by decide) (by decide)⟩
  show Q0 Z x0 h0 n0 _ T98.heap _
  rw [hh98]
  exact ⟨rfl, N98⟩
set_option maxRecDepth 65536 in
set_option maxHeartbeats 40000000 in
theorem comes_1 {Post : Tables → Env → Array Value → State → Outcome → State → Prop} (hpost : ∀ tb e args s v u, (limb_1_1.after args s (.returned v) u = true ∧ limb_1_2.after args s (.returned v) u = true ∧ True) → FrameEnd s (.returned v) u (Jvm.fieldLocs frame_1_writes args s ++ Jvm.arrayLocs frame_1_arrays args s ++ Jvm.staticLocs frame_1_statics s) 16 128 → Post tb e args s (.returned v) u) :
    ArmFor flags0 classFile x code maxLocals ret World_1 tables_1 room_1 Calls_1 rest_1 Pre_1 Post := by
  intro l hfl _ _ p e ha hc hk s m args below hf hA hF happ hP
  obtain ⟨hcalls, hrest, hpre⟩ := hP
  obtain ⟨-, -, -, hnamed, -, -, -, hat⟩ := (Spec.applies_iff hf).mp happ
  obtain ⟨hg, hn⟩ := and_e (Cond.before_iff.mp (show (Jvm.Cond.and given_1 narrow_1).before args s = true from hpre))
  obtain ⟨u1, u2⟩ := and_e hg
  obtain ⟨w0, rfl⟩ : ∃ w0 : Value, args = #[w0] := by
    have hs : args.size = 1 := by simpa [Cond.value, given_1] using u1
    obtain ⟨L⟩ := args
    match L, hs with
    | [w0], _ => exact ⟨w0, rfl⟩
  have hw := fun d (hd : d ∈ tables_1) => atoms_spec (ws := Jvm.Cond.code x code maxLocals ret :: tables_1) hat d (List.mem_cons_of_mem _ hd)
  obtain ⟨i0, ei0⟩ := is_v u2
  obtain rfl : w0 = (.int i0) := Option.some.inj ei0
  obtain ⟨n, o, h1, h2, h3, _, L, rfl, ⟨rfl, N⟩, hq⟩ := rm0 l s _ hw tables_1 i0 s.heap s.heap.size (Nat.le_refl _) p e ha hc hk s m _ below hf ((Spec.applies_iff_loose hf).mp happ).1 ⟨rfl, State.Warmed39.refl s, rfl⟩ trivial
  refine ⟨n, _, h1, h2, h3, hpost _ _ _ _ _ _ ⟨Cond.after_iff.mpr rfl, Cond.after_iff.mpr (eq_i res_at (Term.int_eval (1)) rfl), trivial⟩ ⟨hq.1, hq.2.1, (hq.2.2.sift fun y hy => Or.inr (N y hy)).mono (by decide) (by decide)⟩⟩
theorem main_1_1 : Claimed_1_1 := comes_1 fun _ _ _ _ _ _ h hF => ⟨h.1, hF⟩
theorem main_1_2 : Claimed_1_2 := comes_1 fun _ _ _ _ _ _ h hF => ⟨h.2.1, hF⟩
end Jvm.Pilot.@@N@@
namespace Jvm.Pilot.@@N@@
open Jvm Jvm.ClassFile Sem Op Lib Jvm.Free Jvm.Stand Jvm.Pilot.@@N@@.Jvm.D
/-! MADE BY PROGRAM (witnessworld.py) out of the Statement's table words and the real class files: 9 classes; the members and pool entries that the words name. The judged class is class 1, her method 1. -/
namespace start1
open Jvm.ClassFile
def u (s : String) : CpInfo := .utf8 (stringToUtf16 s)
/-- a pool by its gaps: so many unusable entries, then the entry; so many at the end -/
def gap : Nat → List CpInfo → List CpInfo
  | 0, r => r
  | n + 1, r => .unusable :: gap n r
def poolList (es : List (Nat × CpInfo)) (last : Nat) : List CpInfo := es.foldr (fun e r => gap e.1 (e.2 :: r)) (gap last [])
def pool (es : List (Nat × CpInfo)) (last : Nat) : Array CpInfo := ⟨poolList es last⟩
def fileOf (pool : Array CpInfo) (this : Nat) (attrs : Array Attribute := #[]) (ms : Array MethodInfo := #[]) (fl : Nat := 33) (sup : Nat := 0) (ifs : Array Nat := #[]) (fds : Array FieldInfo := #[]) : ClassFile where
  minorVersion := 0
  majorVersion := 65
  constantPool := pool
  accessFlags := fl
  thisClass := this
  superClass := sup
  interfaces := ifs
  fields := fds
  methods := ms
  attributes := attrs
def plain (name : String) (sup : Option ClassId) : Class where
  name := name
  kind := .ordinary
  loader := none
  accessFlags := 33
  super := sup
  interfaces := #[]
  cf := none
  fields := #[]
  methods := #[]
  instanceTypes := #[]
  staticTypes := #[]
  resolved := #[]
  callSites := []
  init := .initialized
  statics := none
  mirror := none

def pool0 : Array CpInfo := pool [(5, u "<init>"), (0, u "()V"), (1, .class_ 10), (1, u "java/lang/Object")] 113

def k0m0 : Method := { name := "<init>", desc := "()V", sig := { parameters := [], returnType := none }, accessFlags := 1, code := none }
/-- java/lang/Object -/
def k0 : Class := { plain "java/lang/Object" none with
  accessFlags := 33
  interfaces := #[]
  cf := some (fileOf pool0 8 #[] #[{ accessFlags := 1, nameIndex := 5, descriptorIndex := 6, attributes := #[] }] 33 0 #[] #[])
  fields := #[]
  methods := #[k0m0]
  instanceTypes := #[]
  staticTypes := #[]
  resolved := Array.replicate 124 none
  statics := none }

def pool1 : Array CpInfo := pool [(2, .class_ 4), (1, u "java/lang/Object"), (0, u "<init>"), (0, u "()V"), (0, .methodref 8 9), (0, .class_ 10), (0, .nameAndType 11 12), (0, u "com/example/patchcord/patchcord/media/G711"), (0, u "ulawToLinear"), (0, u "(B)S"), (0, .class_ 14), (0, u "com/example/patchcord/patchcord/media/G711UlawToLinearPinLaw"), (2, u "law"), (0, u "(I)Z")] 5

def k1m0 : Method := { name := "<init>", desc := "()V", sig := { parameters := [], returnType := none }, accessFlags := 2, code := none }
def k1c1 : Code := { maxStack := 4, maxLocals := 10, code := code, exceptionTable := #[], attributes := #[] }
def k1m1 : Method := { name := "law", desc := "(I)Z", sig := { parameters := [.int], returnType := some .boolean }, accessFlags := 9, code := some k1c1 }
/-- com/example/patchcord/patchcord/media/G711UlawToLinearPinLaw -/
def k1 : Class := { plain "com/example/patchcord/patchcord/media/G711UlawToLinearPinLaw" (some 0) with
  accessFlags := 49
  interfaces := #[]
  cf := some (fileOf pool1 13 #[] #[{ accessFlags := 2, nameIndex := 5, descriptorIndex := 6, attributes := #[] }, { accessFlags := 9, nameIndex := 17, descriptorIndex := 18, attributes := #[] }] 49 2 #[] #[])
  fields := #[]
  methods := #[k1m0, k1m1]
  instanceTypes := #[]
  staticTypes := #[]
  resolved := Array.replicate 24 none
  statics := none }

def pool2 : Array CpInfo := pool [(2, .class_ 4), (1, u "java/lang/Object"), (0, u "<init>"), (0, u "()V"), (0, .class_ 8), (0, u "com/example/patchcord/patchcord/media/G711"), (2, u "ulawToLinear"), (0, u "(B)S"), (19, u "BIAS"), (0, u "I"), (2, u "CLIP")] 14

def k2m0 : Method := { name := "<init>", desc := "()V", sig := { parameters := [], returnType := none }, accessFlags := 2, code := none }
def k2c1 : Code := { maxStack := 2, maxLocals := 5, code := prog_36_method_2_code, exceptionTable := #[], attributes := #[] }
def k2m1 : Method := { name := "ulawToLinear", desc := "(B)S", sig := { parameters := [.byte], returnType := some .short }, accessFlags := 9, code := some k2c1 }
/-- com/example/patchcord/patchcord/media/G711 -/
def k2 : Class := { plain "com/example/patchcord/patchcord/media/G711" (some 0) with
  accessFlags := 49
  interfaces := #[]
  cf := some (fileOf pool2 7 #[] #[{ accessFlags := 2, nameIndex := 5, descriptorIndex := 6, attributes := #[] }, { accessFlags := 9, nameIndex := 11, descriptorIndex := 12, attributes := #[] }] 49 2 #[] #[{ accessFlags := 26, nameIndex := 32, descriptorIndex := 33, attributes := #[] }, { accessFlags := 26, nameIndex := 36, descriptorIndex := 33, attributes := #[] }])
  fields := #[{ name := "BIAS", type := .int, accessFlags := 26, slot := 0, constantValue := 0 }, { name := "CLIP", type := .int, accessFlags := 26, slot := 1, constantValue := 0 }]
  methods := #[k2m0, k2m1]
  instanceTypes := #[]
  staticTypes := #[.int, .int]
  resolved := Array.replicate 51 none
  statics := none }

def pool3 : Array CpInfo := pool [(1, u "java/lang/Cloneable"), (0, .class_ 1), (0, u "java/lang/Object"), (0, .class_ 3)] 3

/-- java/lang/Cloneable -/
def k3 : Class := { plain "java/lang/Cloneable" (some 0) with
  accessFlags := 1537
  interfaces := #[]
  cf := some (fileOf pool3 2 #[] #[] 1537 4 #[] #[])
  fields := #[]
  methods := #[]
  instanceTypes := #[]
  staticTypes := #[]
  resolved := Array.replicate 8 none
  statics := none }

def pool4 : Array CpInfo := pool [(1, u "java/io/Serializable"), (0, .class_ 1), (0, u "java/lang/Object"), (0, .class_ 3)] 3

/-- java/io/Serializable -/
def k4 : Class := { plain "java/io/Serializable" (some 0) with
  accessFlags := 1537
  interfaces := #[]
  cf := some (fileOf pool4 2 #[] #[] 1537 4 #[] #[])
  fields := #[]
  methods := #[]
  instanceTypes := #[]
  staticTypes := #[]
  resolved := Array.replicate 8 none
  statics := none }

/-- the primitive byte -/
def k5 : Class := { plain "byte" none with kind := .primitive 'B', accessFlags := 0x411 }
/-- [B -/
def k6 : Class := { plain "[B" (some 0) with kind := .array 5 .byte, interfaces := #[3, 4], accessFlags := 1041 }

/-- the primitive int -/
def k7 : Class := { plain "int" none with kind := .primitive 'I', accessFlags := 0x411 }
/-- [I -/
def k8 : Class := { plain "[I" (some 0) with kind := .array 7 .int, interfaces := #[3, 4], accessFlags := 1041 }

def heap : Heap := #[]
def classes : Array Class := #[k0, k1, k2, k3, k4, k5, k6, k7, k8]
def interned : List (Array UInt16 × Addr) := []
def slotsUsed : Nat := 0
def theMethod : MethodId := ⟨1, 1⟩
def args0 : Array Value := #[.int 5]
def aboutOver (below : List Frame) : State where
  vm := { classes := classes, interned := interned.toArray }
  heap := heap
  slotsUsed := slotsUsed
  threads := #[{ frames := .invoking theMethod args0 :: below }]
def below0 : List Frame := [.native { method := ⟨0, 0⟩, args := #[] }]
def about1 : State := aboutOver below0
def p0 : Program := .bare "" "" ""
def e0 : Env := launch0.env 0 0 0
theorem w_frames : about1.frames = Frame.invoking theMethod args0 :: below0 := rfl
set_option maxRecDepth 65536 in
theorem w_args : argsFit about1.vm theMethod args0 = true := by decide +kernel
set_option maxRecDepth 65536 in
theorem w_heap : heapFits about1 = true := by decide +kernel
set_option maxRecDepth 65536 in
theorem w_runnable : about1.curStatus? = some .runnable := by decide +kernel
set_option maxRecDepth 65536 in
theorem w_alone : about1.alone = true := by decide +kernel
set_option maxRecDepth 65536 in
theorem w_named : about1.methodNamed? x = some theMethod := by decide +kernel
set_option maxRecDepth 65536 in
theorem w_hears : about1.hears theMethod below0 = true := by decide +kernel
set_option maxRecDepth 65536 in
theorem w_ripe : about1.ripe theMethod args0 below0 = true := by decide +kernel
theorem w_running : about1.status = .running := rfl
set_option maxRecDepth 65536 in
theorem w_room : about1.hasRoom e0.platform room_1 = true :=
  launch0.hasRoom_least _ room_1 (by decide +kernel) (by decide +kernel) (by decide +kernel) (by decide +kernel) (by decide +kernel) (by decide +kernel)
theorem allAtoms_all (ts : List Jvm.Cond) (a : Array Jvm.Value) (st : Jvm.State) : (allAtoms ts).before a st = ts.all (fun c => c.before a st) := by
  induction ts with
  | nil => rfl
  | cons c t ih =>
    show (Jvm.Cond.and c (allAtoms t)).before a st = _
    rw [Jvm.Cond.before_and, ih, List.all_cons]
def words1 : List Jvm.Cond := Jvm.Cond.code x code maxLocals ret :: tables_1
/-- a 'code' word, met by the world's own term for the bytes: nothing is compared byte by byte -/
theorem code_word {y : MethodName} {bytes : ByteArray} {mx : Nat} {rt : Option FieldType} {a : Array Value} {s : State} {m : MethodId} {meth : Method} {c : Code} (h1 : s.methodNamed? y = some m) (h2 : s.vm.method? m = some meth) (h3 : meth.code = some c) (h4 : c.code = bytes)
    (h5 : (c.maxLocals == mx && c.exceptionTable.isEmpty && decide (c.maxStack ≤ mostOperands) && decide (meth.sig.returnType = rt) && !meth.locks && decide (parseMethodDescriptor y.desc = some meth.sig)) = true) : (Jvm.Cond.code y bytes mx rt).before a s = true := by
  simp only [Bool.and_eq_true, beq_iff_eq, Bool.not_eq_true', decide_eq_true_eq] at h5
  obtain ⟨⟨⟨⟨⟨g1, g2⟩, g3⟩, g4⟩, g5⟩, g6⟩ := h5
  simp [Cond.before, Cond.holds, Cond.value, h1, h2, h3, h4, g1, g2, g3, g4, g5, g6]
def isCode : Jvm.Cond → Bool
  | .code _ _ _ _ => true
  | _ => false
theorem all_split {L : List Jvm.Cond} {P : Jvm.Cond → Bool} (h1 : L.all (fun c => isCode c || P c) = true) (h2 : ∀ c ∈ L.filter isCode, P c = true) : L.all P = true := by
  refine List.all_eq_true.mpr fun c hc => ?_
  have h := List.all_eq_true.mp h1 c hc
  rcases Bool.eq_false_or_eq_true (isCode c) with hi | hi
  · exact h2 c (List.mem_filter.mpr ⟨hc, hi⟩)
  · simpa [hi] using h
set_option maxRecDepth 65536 in
theorem w_c0 : (Jvm.Cond.code x code maxLocals ret).before args0 about1 = true := code_word (m := ⟨1, 1⟩) (meth := k1m1) (c := k1c1) (by decide +kernel) rfl rfl rfl (by decide +kernel)
set_option maxRecDepth 65536 in
theorem w_c1 : (Jvm.Cond.code ({ cls := "com/example/patchcord/patchcord/media/G711", name := "ulawToLinear", desc := "(B)S" } : Jvm.MethodName) prog_36_method_2_code (5 : Nat) (Option.some Jvm.ClassFile.FieldType.short)).before args0 about1 = true := code_word (m := ⟨2, 1⟩) (meth := k2m1) (c := k2c1) (by decide +kernel) rfl rfl rfl (by decide +kernel)
def codes1 : List Jvm.Cond := [Jvm.Cond.code x code maxLocals ret, Jvm.Cond.code ({ cls := "com/example/patchcord/patchcord/media/G711", name := "ulawToLinear", desc := "(B)S" } : Jvm.MethodName) prog_36_method_2_code (5 : Nat) (Option.some Jvm.ClassFile.FieldType.short)]
set_option maxRecDepth 65536 in
theorem codes_eq : words1.filter isCode = codes1 := rfl
theorem w_codes : ∀ c ∈ words1.filter isCode, c.before args0 about1 = true := by
  rw [codes_eq]
  intro c hc
  simp only [codes1, List.mem_cons, List.not_mem_nil, or_false] at hc
  rcases hc with rfl | rfl
  · exact w_c0
  · exact w_c1
set_option maxRecDepth 65536 in
theorem w_t1 : words1.all (fun c => isCode c || c.before args0 about1) = true := by decide +kernel
theorem w_tables : (allAtoms (Jvm.Cond.code x code maxLocals ret :: tables_1)).before args0 about1 = true := by
  rw [allAtoms_all]
  show words1.all (fun c => c.before args0 about1) = true
  refine all_split ?_ w_codes
  rw [w_t1]
set_option maxRecDepth 65536 in
theorem w_case : (Jvm.Cond.and given_1 narrow_1).before args0 about1 = true := by decide +kernel
theorem w_applies : (headSpec (Jvm.Cond.code x code maxLocals ret :: tables_1) room_1).applies x e0.platform about1 = true :=
  (Spec.applies_iff w_frames).mpr ⟨w_running, w_runnable, w_alone, w_named, w_hears, w_ripe, w_room, w_tables⟩
theorem atStart : AtStart classFile x code maxLocals ret World_1 tables_1 room_1 Calls_1 rest_1 Pre_1 launch0 p0 e0 about1 theMethod args0 below0 :=
  ⟨lists_1, trivial, launch0.admits_env _ _ _, launch0.least_env, fairChoices_fair.cas, fairChoices_fair.clock, w_frames, w_args, w_heap, w_applies, trivial, trivial, w_case⟩
end start1
theorem witness_1 : WitnessClaimed_1 := ⟨start1.p0, start1.e0, start1.about1, start1.theMethod, start1.args0, start1.below0, start1.atStart⟩
end Jvm.Pilot.@@N@@
