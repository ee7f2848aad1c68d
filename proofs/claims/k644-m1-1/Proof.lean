import JvmDerived
import JvmDerived.Pilot.@@N@@Statement
import JvmDerived.Pilot.@@N@@Code
set_option linter.unusedVariables false
set_option linter.unusedSimpArgs false
namespace Jvm.RoadKit
open Sem ClassFile Op Lib Jvm.Stand Jvm.Free Jvm.LawKit
section New
variable {p : Program} {l : Launch} {e : Env} {R : Room} {s : State} {m : MethodId} {args : Array Value} {below : List Frame} {meth : Method} {c : Code} {T : State} {locs : List Loc} {cells slots : Nat}
theorem retI (X : Stand p l e R s m args below meth c T locs cells slots) (hx : p.tables.exec = Jvm.exec) {pc : Nat} {Ls : Array Slot} {z : Int32} {rest : List Value} (hret : meth.sig.returnType = some .int) (hd : decode c.code pc = .ok (.ireturn, 1)) {fs : List Frame}
    (hl : ∀ (f : JFrame) (acts : List Action), f.method = m → f.locked = none → f.entered = [] → (doReturn e (T.setTop f) acts (some (.int z))).1 = T.setFrames fs) : Steps p.tables e below (T.setTop (mkF m pc Ls (.int z :: rest))) (T.setFrames fs) :=
  retOut X hx hret rfl (Or.inl ⟨rfl, Or.inl rfl, z, rfl⟩) hd hl
theorem own_lremM {g : JFrame} {target : State} (X : Stand p l e R s m args below meth c T locs cells slots) (hx : p.tables.exec = Jvm.exec) (hg : g.method = m) {x y : Int64} {rest : List Value} (hd : decode c.code g.pc = .ok (.lrem, 1)) (hs : g.stack = .long y :: .long x :: rest) (hy : y ≠ 0)
    (hr : Steps p.tables e below (T.setTop { g with pc := g.pc + 1, stack := .long (x % y) :: rest }) target) : Steps p.tables e below (T.setTop g) target := by
  have q : x - x / y * y = x % y := lrem_mod x y
  exact XS.lrem X.here hx hg hd hs hy (by rw [q]; exact hr)
theorem own_evInt {Z : State} {args : Array Value} {t : Term} {k : Int32} (h : (Jvm.Cond.eq t (.int k)).value args Z none Z [] = some true) : t.eval args Z none [] Z = some (.int k) := by
  obtain ⟨x, y, h1, h2, -, -⟩ := cmp_v (Or.inl h)
  have hy : y = .int k := Option.some.inj (h2.symm.trans (Term.int_eval k))
  subst hy
  have hx : x = .int k := by
    cases x <;> simp [Cond.value, h1, h2] at h ⊢
    exact h
  rw [h1, hx]
theorem own_selPriv {y : MethodName} {kI : Nat} (hI : (Jvm.Cond.instantiable y.cls kI).before args s = true) (hpriv : s.PrivateAt y) (hinst : (Jvm.Cond.instanceMethod y).before args s = true) (hy : y.cls ≠ "java/lang/invoke/MethodHandle" ∧ y.cls ≠ "java/lang/invoke/VarHandle") : (Jvm.Cond.selects y.cls y y).before args s = true := by
  obtain ⟨c, k, h1, h2, -, h4, -⟩ := Cond.instantiable_spec hI
  exact selects_self_of_private h1 h2 (Bool.or_eq_false_iff.mp h4).1 hpriv hinst hy
theorem own_since0 (s : State) : s.Since s.vm 0 := (State.WarmedH.refl s).since _
theorem own_irr32 (x : Int32) : ¬ (x < x) := Int32.lt_irrefl
theorem own_irr64 (x : Int64) : ¬ (x < x) := Int64.lt_irrefl
theorem own_fldInt {Z : State} {args : Array Value} {t : Term} {a : Addr} {C n d : String} {k : Int32} (ev : t.eval args Z none [] Z = some (.ref a)) (h : (Jvm.Cond.eq (.field t C n d) (.int k)).value args Z none Z [] = some true) : Fld Z Z.heap a C n d (.int k) := by
  obtain ⟨x, y, h1, h2, -, -⟩ := cmp_v (Or.inl h)
  have hy : y = .int k := Option.some.inj (h2.symm.trans (Term.int_eval k))
  subst hy
  have hx : x = .int k := by
    cases x <;> simp [Cond.value, h1, h2] at h ⊢
    exact h
  rw [fld_at ev] at h1
  exact Fld.start (hx ▸ h1)
end New
end Jvm.RoadKit
namespace Jvm.Pilot.@@N@@
open Jvm Jvm.ClassFile Sem Op Lib Jvm.Free Jvm.Stand Jvm.LawKit Jvm.RoadKit Bundle Jvm.Pilot.@@N@@.Jvm.D
theorem wd0 {a0 : Array Value} {Z : State} (hw : ∀ d ∈ tables_1, d.before a0 Z = true) : (Jvm.Cond.constant "com/example/formula_to_strategy/formulatostrategy/engine/ValueBoundsValuePinLaw" (7 : Nat) (2147483647 : Int32)).before a0 Z = true := hw _ (List.mem_of_getElem? (i := 0) rfl)
theorem wd1 {a0 : Array Value} {Z : State} (hw : ∀ d ∈ tables_1, d.before a0 Z = true) : (Jvm.Cond.constantDouble "com/example/formula_to_strategy/formulatostrategy/engine/ValueBoundsValuePinLaw" (8 : Nat) (9218868437227405312 : UInt64)).before a0 Z = true := hw _ (List.mem_of_getElem? (i := 1) rfl)
theorem wd2 {a0 : Array Value} {Z : State} (hw : ∀ d ∈ tables_1, d.before a0 Z = true) : (Jvm.Cond.methodLink "com/example/formula_to_strategy/formulatostrategy/engine/ValueBoundsValuePinLaw" (10 : Nat) ({ cls := "java/lang/Math", name := "min", desc := "(II)I" } : Jvm.MethodName)).before a0 Z = true := hw _ (List.mem_of_getElem? (i := 2) rfl)
theorem wd3 {a0 : Array Value} {Z : State} (hw : ∀ d ∈ tables_1, d.before a0 Z = true) : (Jvm.Cond.static ({ cls := "java/lang/Math", name := "min", desc := "(II)I" } : Jvm.MethodName)).before a0 Z = true := hw _ (List.mem_of_getElem? (i := 3) rfl)
theorem wd4 {a0 : Array Value} {Z : State} (hw : ∀ d ∈ tables_1, d.before a0 Z = true) : (Jvm.Cond.initialized "java/lang/Math").before a0 Z = true := hw _ (List.mem_of_getElem? (i := 4) rfl)
theorem wd5 {a0 : Array Value} {Z : State} (hw : ∀ d ∈ tables_1, d.before a0 Z = true) : (Jvm.Cond.code ({ cls := "java/lang/Math", name := "min", desc := "(II)I" } : Jvm.MethodName) jdk_29_method_69_code (2 : Nat) (Option.some Jvm.ClassFile.FieldType.int)).before a0 Z = true := hw _ (List.mem_of_getElem? (i := 5) rfl)
theorem wd6 {a0 : Array Value} {Z : State} (hw : ∀ d ∈ tables_1, d.before a0 Z = true) : (Jvm.Cond.methodLink "com/example/formula_to_strategy/formulatostrategy/engine/ValueBoundsValuePinLaw" (16 : Nat) ({ cls := "java/lang/Math", name := "max", desc := "(II)I" } : Jvm.MethodName)).before a0 Z = true := hw _ (List.mem_of_getElem? (i := 6) rfl)
theorem wd7 {a0 : Array Value} {Z : State} (hw : ∀ d ∈ tables_1, d.before a0 Z = true) : (Jvm.Cond.static ({ cls := "java/lang/Math", name := "max", desc := "(II)I" } : Jvm.MethodName)).before a0 Z = true := hw _ (List.mem_of_getElem? (i := 7) rfl)
theorem wd8 {a0 : Array Value} {Z : State} (hw : ∀ d ∈ tables_1, d.before a0 Z = true) : (Jvm.Cond.code ({ cls := "java/lang/Math", name := "max", desc := "(II)I" } : Jvm.MethodName) jdk_29_method_65_code (2 : Nat) (Option.some Jvm.ClassFile.FieldType.int)).before a0 Z = true := hw _ (List.mem_of_getElem? (i := 8) rfl)
theorem wd9 {a0 : Array Value} {Z : State} (hw : ∀ d ∈ tables_1, d.before a0 Z = true) : (Jvm.Cond.arrayClass Jvm.ClassFile.FieldType.double).before a0 Z = true := hw _ (List.mem_of_getElem? (i := 9) rfl)
theorem wd10 {a0 : Array Value} {Z : State} (hw : ∀ d ∈ tables_1, d.before a0 Z = true) : (Jvm.Cond.constantDouble "com/example/formula_to_strategy/formulatostrategy/engine/ValueBoundsValuePinLaw" (19 : Nat) (4613937818241073152 : UInt64)).before a0 Z = true := hw _ (List.mem_of_getElem? (i := 10) rfl)
theorem wd11 {a0 : Array Value} {Z : State} (hw : ∀ d ∈ tables_1, d.before a0 Z = true) : (Jvm.Cond.classLink "com/example/formula_to_strategy/formulatostrategy/engine/ValueBoundsValuePinLaw" (21 : Nat) "com/example/formula_to_strategy/formulatostrategy/engine/ValueBounds").before a0 Z = true := hw _ (List.mem_of_getElem? (i := 11) rfl)
theorem wd12 {a0 : Array Value} {Z : State} (hw : ∀ d ∈ tables_1, d.before a0 Z = true) : (Jvm.Cond.instantiable "com/example/formula_to_strategy/formulatostrategy/engine/ValueBounds" (2 : Nat)).before a0 Z = true := hw _ (List.mem_of_getElem? (i := 12) rfl)
theorem wd13 {a0 : Array Value} {Z : State} (hw : ∀ d ∈ tables_1, d.before a0 Z = true) : (Jvm.Cond.initialized "com/example/formula_to_strategy/formulatostrategy/engine/ValueBounds").before a0 Z = true := hw _ (List.mem_of_getElem? (i := 13) rfl)
theorem wd14 {a0 : Array Value} {Z : State} (hw : ∀ d ∈ tables_1, d.before a0 Z = true) : (Jvm.Cond.methodLink "com/example/formula_to_strategy/formulatostrategy/engine/ValueBoundsValuePinLaw" (23 : Nat) ({ cls := "com/example/formula_to_strategy/formulatostrategy/engine/ValueBounds", name := "<init>", desc := "([D[D)V" } : Jvm.MethodName)).before a0 Z = true := hw _ (List.mem_of_getElem? (i := 14) rfl)
theorem wd15 {a0 : Array Value} {Z : State} (hw : ∀ d ∈ tables_1, d.before a0 Z = true) : (Jvm.Cond.instanceMethod ({ cls := "com/example/formula_to_strategy/formulatostrategy/engine/ValueBounds", name := "<init>", desc := "([D[D)V" } : Jvm.MethodName)).before a0 Z = true := hw _ (List.mem_of_getElem? (i := 15) rfl)
theorem wd16 {a0 : Array Value} {Z : State} (hw : ∀ d ∈ tables_1, d.before a0 Z = true) : (Jvm.Cond.code ({ cls := "com/example/formula_to_strategy/formulatostrategy/engine/ValueBounds", name := "<init>", desc := "([D[D)V" } : Jvm.MethodName) prog_24_method_1_code (3 : Nat) (Option.none : Option Jvm.ClassFile.FieldType)).before a0 Z = true := hw _ (List.mem_of_getElem? (i := 16) rfl)
theorem wd17 {a0 : Array Value} {Z : State} (hw : ∀ d ∈ tables_1, d.before a0 Z = true) : (Jvm.Cond.methodLink "com/example/formula_to_strategy/formulatostrategy/engine/ValueBounds" (1 : Nat) ({ cls := "java/lang/Object", name := "<init>", desc := "()V" } : Jvm.MethodName)).before a0 Z = true := hw _ (List.mem_of_getElem? (i := 17) rfl)
theorem wd18 {a0 : Array Value} {Z : State} (hw : ∀ d ∈ tables_1, d.before a0 Z = true) : (Jvm.Cond.instanceMethod ({ cls := "java/lang/Object", name := "<init>", desc := "()V" } : Jvm.MethodName)).before a0 Z = true := hw _ (List.mem_of_getElem? (i := 18) rfl)
theorem wd19 {a0 : Array Value} {Z : State} (hw : ∀ d ∈ tables_1, d.before a0 Z = true) : (Jvm.Cond.code ({ cls := "java/lang/Object", name := "<init>", desc := "()V" } : Jvm.MethodName) object_method_1_code (1 : Nat) (Option.none : Option Jvm.ClassFile.FieldType)).before a0 Z = true := hw _ (List.mem_of_getElem? (i := 19) rfl)
theorem wd20 {a0 : Array Value} {Z : State} (hw : ∀ d ∈ tables_1, d.before a0 Z = true) : (Jvm.Cond.fieldLink "com/example/formula_to_strategy/formulatostrategy/engine/ValueBounds" (7 : Nat) "com/example/formula_to_strategy/formulatostrategy/engine/ValueBounds" "lower" "[D").before a0 Z = true := hw _ (List.mem_of_getElem? (i := 20) rfl)
theorem wd21 {a0 : Array Value} {Z : State} (hw : ∀ d ∈ tables_1, d.before a0 Z = true) : (Jvm.Cond.laysFinal "com/example/formula_to_strategy/formulatostrategy/engine/ValueBounds" "com/example/formula_to_strategy/formulatostrategy/engine/ValueBounds" "lower" "[D").before a0 Z = true := hw _ (List.mem_of_getElem? (i := 21) rfl)
theorem wd22 {a0 : Array Value} {Z : State} (hw : ∀ d ∈ tables_1, d.before a0 Z = true) : (Jvm.Cond.fieldLink "com/example/formula_to_strategy/formulatostrategy/engine/ValueBounds" (13 : Nat) "com/example/formula_to_strategy/formulatostrategy/engine/ValueBounds" "upper" "[D").before a0 Z = true := hw _ (List.mem_of_getElem? (i := 22) rfl)
theorem wd23 {a0 : Array Value} {Z : State} (hw : ∀ d ∈ tables_1, d.before a0 Z = true) : (Jvm.Cond.laysFinal "com/example/formula_to_strategy/formulatostrategy/engine/ValueBounds" "com/example/formula_to_strategy/formulatostrategy/engine/ValueBounds" "upper" "[D").before a0 Z = true := hw _ (List.mem_of_getElem? (i := 23) rfl)
theorem wd24 {a0 : Array Value} {Z : State} (hw : ∀ d ∈ tables_1, d.before a0 Z = true) : (Jvm.Cond.methodLink "com/example/formula_to_strategy/formulatostrategy/engine/ValueBoundsValuePinLaw" (26 : Nat) ({ cls := "com/example/formula_to_strategy/formulatostrategy/engine/ValueBounds", name := "value", desc := "(I)D" } : Jvm.MethodName)).before a0 Z = true := hw _ (List.mem_of_getElem? (i := 24) rfl)
theorem wd25 {a0 : Array Value} {Z : State} (hw : ∀ d ∈ tables_1, d.before a0 Z = true) : (Jvm.Cond.declares ({ cls := "com/example/formula_to_strategy/formulatostrategy/engine/ValueBounds", name := "value", desc := "(I)D" } : Jvm.MethodName)).before a0 Z = true := hw _ (List.mem_of_getElem? (i := 25) rfl)
theorem wd26 {a0 : Array Value} {Z : State} (hw : ∀ d ∈ tables_1, d.before a0 Z = true) : (Jvm.Cond.instanceMethod ({ cls := "com/example/formula_to_strategy/formulatostrategy/engine/ValueBounds", name := "value", desc := "(I)D" } : Jvm.MethodName)).before a0 Z = true := hw _ (List.mem_of_getElem? (i := 26) rfl)
theorem wd27 {a0 : Array Value} {Z : State} (hw : ∀ d ∈ tables_1, d.before a0 Z = true) : (Jvm.Cond.selects "com/example/formula_to_strategy/formulatostrategy/engine/ValueBounds" ({ cls := "com/example/formula_to_strategy/formulatostrategy/engine/ValueBounds", name := "value", desc := "(I)D" } : Jvm.MethodName) ({ cls := "com/example/formula_to_strategy/formulatostrategy/engine/ValueBounds", name := "value", desc := "(I)D" } : Jvm.MethodName)).before a0 Z = true := hw _ (List.mem_of_getElem? (i := 27) rfl)
theorem wd28 {a0 : Array Value} {Z : State} (hw : ∀ d ∈ tables_1, d.before a0 Z = true) : (Jvm.Cond.code ({ cls := "com/example/formula_to_strategy/formulatostrategy/engine/ValueBounds", name := "value", desc := "(I)D" } : Jvm.MethodName) prog_24_method_4_code (6 : Nat) (Option.some Jvm.ClassFile.FieldType.double)).before a0 Z = true := hw _ (List.mem_of_getElem? (i := 28) rfl)
theorem wd29 {a0 : Array Value} {Z : State} (hw : ∀ d ∈ tables_1, d.before a0 Z = true) : (Jvm.Cond.constantDouble "com/example/formula_to_strategy/formulatostrategy/engine/ValueBounds" (16 : Nat) (4611686018427387904 : UInt64)).before a0 Z = true := hw _ (List.mem_of_getElem? (i := 29) rfl)
theorem wd30 {a0 : Array Value} {Z : State} (hw : ∀ d ∈ tables_1, d.before a0 Z = true) : (Jvm.Cond.constantDouble "com/example/formula_to_strategy/formulatostrategy/engine/ValueBoundsValuePinLaw" (30 : Nat) (4611686018427387904 : UInt64)).before a0 Z = true := hw _ (List.mem_of_getElem? (i := 30) rfl)
-- ===== own laws of rounding, over JvmDerived.FloatLaws 1 to 3 =====
open Jvm.FP.Core in
theorem own_datum (s : Bool) (c : Nat) (q : Int) (hc : c ≤ 2 ^ 53) (h1 : -1074 ≤ q) (h2 : q ≤ 900) :
    ∃ V : Datum, Jvm.FP.Core.fits b64 V ∧ (∃ s c q, V = .fin s c q) ∧ zval b64 V = signed s (c * 2 ^ (q + 1074).toNat) := by
  have key : ∀ (c : Nat) (q : Int), c < 2 ^ 53 → -1074 ≤ q → q ≤ 901 →
      ∃ V : Datum, Jvm.FP.Core.fits b64 V ∧ (∃ s c q, V = .fin s c q) ∧ zval b64 V = signed s (c * 2 ^ (q + 1074).toNat) := by
    intro c q hc h1 h2
    have hm : b64.qmax = 971 := by decide +kernel
    obtain ⟨c', q', e1, e2⟩ := round_exact good_b64 s (c := c) (q := q) hc (by rw [qmin_b64]; exact h1) (by rw [hm]; omega)
    refine ⟨_, round_fits good_b64 (.fin s c q), ⟨s, c', q', e1⟩, ?_⟩
    rw [e1]
    show signed s (inUnits c' q' b64.qmin) = _
    rw [e2]; unfold inUnits; rw [qmin_b64, show q - (-1074) = q + 1074 by omega]
  by_cases h : c < 2 ^ 53
  · exact key c q h h1 (by omega)
  · have e : c = 2 ^ 53 := by omega
    obtain ⟨V, f, k, z⟩ := key (2 ^ 52) (q + 1) (by decide) (by omega) (by omega)
    refine ⟨V, f, k, ?_⟩
    rw [z, e, show (q + 1 + 1074).toNat = (q + 1074).toNat + 1 by omega]
    congr 1
    generalize (q + 1074).toNat = w
    rw [Nat.pow_succ 2 w, Nat.mul_comm (2 ^ w) 2, ← Nat.mul_assoc]

open Jvm.FP.Core in
theorem own_signed_abs (i : Int) : signed (decide (i < 0)) i.natAbs = i := by
  unfold signed
  by_cases h : i < 0
  · simp only [h, decide_true, if_true]; omega
  · simp only [h, decide_false, Bool.false_eq_true, if_false]; omega

open Jvm.FP.Core in
theorem own_rep (m : Nat) (hm : m ≤ 1900) (i : Int) (hi : i.natAbs ≤ 2 ^ 53) :
    ∃ V : Datum, Jvm.FP.Core.fits b64 V ∧ (∃ s c q, V = .fin s c q) ∧ zval b64 V = i * ((2 ^ m : Nat) : Int) := by
  obtain ⟨V, f, k, z⟩ := own_datum (decide (i < 0)) i.natAbs ((m : Int) - 1074) hi (by omega) (by omega)
  refine ⟨V, f, k, ?_⟩
  rw [z, show ((m : Int) - 1074 + 1074).toNat = m by omega, signed_mul, own_signed_abs]

open Jvm.FP.Core in
/-- A finite double of the value `i * 2^(m - 1074)`. -/
def own_P (m : Nat) (x : UInt64) (i : Int) : Prop := DFin x ∧ zval b64 (val64 x) = i * ((2 ^ m : Nat) : Int)

open Jvm.FP.Core in
theorem own_kne {V : Datum} (k : ∃ s c q, V = .fin s c q) : V ≠ .nan := by
  obtain ⟨s, c, q, rfl⟩ := k
  exact Datum.noConfusion

open Jvm.FP.Core in
theorem own_squeeze {z : UInt64} {V W : Datum} (n : val64 z ≠ .nan) (fV : Jvm.FP.Core.fits b64 V) (kV : ∃ s c q, V = .fin s c q)
    (fW : Jvm.FP.Core.fits b64 W) (kW : ∃ s c q, W = .fin s c q) (h1 : zval b64 V ≤ zval b64 (val64 z))
    (h2 : zval b64 (val64 z) ≤ zval b64 W) : DFin z := by
  obtain ⟨s, c, q, rfl⟩ := kV
  obtain ⟨t, d, r, rfl⟩ := kW
  have a := zmag_lt_top good_b64 fV
  have b := zmag_lt_top good_b64 fW
  unfold DFin
  cases hD : val64 z with
  | nan => exact absurd hD n
  | fin s c q => exact ⟨s, c, q, rfl⟩
  | inf u =>
    exfalso
    rw [hD] at h1 h2
    have h1' : signed s (inUnits c q b64.qmin) ≤ signed u (b64.tails * 2 ^ (b64.exps - 2)) := h1
    have h2' : signed u (b64.tails * 2 ^ (b64.exps - 2)) ≤ signed t (inUnits d r b64.qmin) := h2
    clear h1 h2
    generalize b64.tails * 2 ^ (b64.exps - 2) = T at a b h1' h2'
    generalize inUnits c q b64.qmin = C at a h1'
    generalize inUnits d r b64.qmin = D at b h2'
    unfold signed at h1' h2'
    cases u <;> cases s <;> cases t <;> simp only [if_true, Bool.false_eq_true, if_false] at h1' h2' <;> omega

open Jvm.FP.Core in
theorem own_add_ne {x y : UInt64} (hx : DFin x) (hy : DFin y) : val64 (dadd x y) ≠ .nan :=
  (notNaN_iff _).mp (dadd_out hx.notNaN hy)

open Jvm.FP.Core in
theorem own_add_to {x y : UInt64} (hx : DFin x) (hy : DFin y) {V : Datum} (f : Jvm.FP.Core.fits b64 V) (k : ∃ s c q, V = .fin s c q)
    (h : zval b64 (val64 x) + zval b64 (val64 y) = zval b64 V) : DFin (dadd x y) ∧ zval b64 (val64 (dadd x y)) = zval b64 V := by
  have l : zval b64 (val64 (dadd x y)) ≤ zval b64 V := by
    rw [val64_dadd]; exact sum_le good_b64 hx hy (val64_fits x) (val64_fits y) f (own_kne k) (by omega)
  have g : zval b64 V ≤ zval b64 (val64 (dadd x y)) := by
    rw [val64_dadd]; exact sum_ge good_b64 hx hy (val64_fits x) (val64_fits y) f (own_kne k) (by omega)
  exact ⟨own_squeeze (own_add_ne hx hy) f k f k g l, by omega⟩

open Jvm.FP.Core in
theorem own_add {m : Nat} {x y : UInt64} {i j : Int} (hm : m ≤ 1900) (hx : own_P m x i) (hy : own_P m y j)
    (h : (i + j).natAbs ≤ 2 ^ 53) : own_P m (dadd x y) (i + j) := by
  obtain ⟨V, f, k, z⟩ := own_rep m hm (i + j) h
  have := own_add_to hx.1 hy.1 f k (by rw [hx.2, hy.2, z, Int.add_mul])
  rw [z] at this
  exact this

open Jvm.FP.Core in
theorem own_neg {m : Nat} {x : UInt64} {i : Int} (hx : own_P m x i) : own_P m (dneg x) (-i) := by
  obtain ⟨⟨s, c, q, e⟩, z⟩ := hx
  refine ⟨⟨!s, c, q, by rw [val64_dneg, e]; rfl⟩, ?_⟩
  rw [val64_dneg, zval_negate, z, Int.neg_mul]

open Jvm.FP.Core in
theorem own_sub {m : Nat} {x y : UInt64} {i j : Int} (hm : m ≤ 1900) (hx : own_P m x i) (hy : own_P m y j)
    (h : (i - j).natAbs ≤ 2 ^ 53) : own_P m (dsub x y) (i - j) := by
  rw [dsub_eq, Int.sub_eq_add_neg]
  exact own_add hm hx (own_neg hy) (by rw [← Int.sub_eq_add_neg]; exact h)

theorem own_pow_add (m k : Nat) : ((2 ^ (m + k) : Nat) : Int) = ((2 ^ k : Nat) : Int) * ((2 ^ m : Nat) : Int) := by
  rw [Nat.pow_add, Nat.mul_comm, Int.natCast_mul]

theorem own_up_P {m k : Nat} {x : UInt64} {i : Int} (h : own_P m x (i * ((2 ^ k : Nat) : Int))) : own_P (m + k) x i :=
  ⟨h.1, by rw [h.2, own_pow_add, Int.mul_assoc]⟩

theorem own_down_P {m k : Nat} {x : UInt64} {i : Int} (h : own_P (m + k) x i) : own_P m x (i * ((2 ^ k : Nat) : Int)) :=
  ⟨h.1, by rw [h.2, own_pow_add, Int.mul_assoc]⟩

open Jvm.FP.Core in
/-- A sum of whole numbers below 2^63 is a whole number not far from the exact one. -/
theorem own_add_near {x y : UInt64} {i j : Int} (hx : own_P 1074 x i) (hy : own_P 1074 y j)
    (h : (i + j).natAbs ≤ 9223372036854775808 + 1048576) :
    ∃ k, own_P 1074 (dadd x y) k ∧ (i + j) / 2048 * 2048 ≤ k ∧ k ≤ ((i + j) / 2048 + 1) * 2048 := by
  by_cases hs : (i + j).natAbs ≤ 2 ^ 53
  · exact ⟨i + j, own_add (by decide) hx hy hs, by omega, by omega⟩
  · obtain ⟨V, fV, kV, zV⟩ := own_rep 1085 (by decide) ((i + j) / 2048) (by omega)
    obtain ⟨W, fW, kW, zW⟩ := own_rep 1085 (by decide) ((i + j) / 2048 + 1) (by omega)
    have p : ((2 ^ 1085 : Nat) : Int) = 2048 * ((2 ^ 1074 : Nat) : Int) := own_pow_add 1074 11
    have u0 : (0 : Int) < ((2 ^ 1074 : Nat) : Int) := Int.natCast_pos.mpr (Nat.two_pow_pos _)
    have sx := hx.2
    have sy := hy.2
    rw [p] at zV zW
    have g : zval b64 V ≤ zval b64 (val64 (dadd x y)) := by
      rw [val64_dadd]
      refine sum_ge good_b64 hx.1 hy.1 (val64_fits x) (val64_fits y) fV (own_kne kV) ?_
      rw [zV, sx, sy, ← Int.add_mul, ← Int.mul_assoc]
      exact Int.mul_le_mul_of_nonneg_right (by omega) (by omega)
    have l : zval b64 (val64 (dadd x y)) ≤ zval b64 W := by
      rw [val64_dadd]
      refine sum_le good_b64 hx.1 hy.1 (val64_fits x) (val64_fits y) fW (own_kne kW) ?_
      rw [zW, sx, sy, ← Int.add_mul, ← Int.mul_assoc]
      exact Int.mul_le_mul_of_nonneg_right (by omega) (by omega)
    have F := own_squeeze (own_add_ne hx.1 hy.1) fV kV fW kW g l
    obtain ⟨s, c, q, e⟩ := F
    have ft := val64_fits (dadd x y)
    rw [e] at ft
    have hc : c < 2 ^ 53 := ft.1
    have hq : (-1074 : Int) ≤ q := by have := ft.2.1; rw [qmin_b64] at this; exact this
    have zz : zval b64 (val64 (dadd x y)) = signed s (c * 2 ^ (q + 1074).toNat) := by
      rw [e]; show signed s (inUnits c q b64.qmin) = _
      unfold inUnits; rw [qmin_b64, show q - (-1074) = q + 1074 by omega]
    rw [zV, ← Int.mul_assoc] at g
    rw [zW, ← Int.mul_assoc] at l
    by_cases q0 : 0 ≤ q
    · have z2 : zval b64 (val64 (dadd x y)) = signed s (c * 2 ^ q.toNat) * ((2 ^ 1074 : Nat) : Int) := by
        rw [zz, show (q + 1074).toNat = q.toNat + 1074 by omega, Nat.pow_add, ← Nat.mul_assoc, signed_mul]
      rw [z2] at g l
      exact ⟨_, ⟨⟨s, c, q, e⟩, z2⟩, Int.le_of_mul_le_mul_right g u0, Int.le_of_mul_le_mul_right l u0⟩
    · exfalso
      have b1 : c * 2 ^ (q + 1074).toNat ≤ 2 ^ 53 * 2 ^ 1073 :=
        Nat.mul_le_mul (Nat.le_of_lt hc) (Nat.pow_le_pow_right (by decide) (by omega))
      have b2 : 2 ^ 53 * 2 ^ 1073 = 2 ^ 52 * 2 ^ 1074 := by
        rw [← Nat.pow_add, ← Nat.pow_add]
      rw [b2] at b1
      have b3 : ((c * 2 ^ (q + 1074).toNat : Nat) : Int) ≤ 4503599627370496 * ((2 ^ 1074 : Nat) : Int) := by
        have := Int.ofNat_le.mpr b1
        rw [Int.natCast_mul (2 ^ 52)] at this
        exact this
      rw [zz] at g l
      generalize ((2 ^ 1074 : Nat) : Int) = U at *
      generalize c * 2 ^ (q + 1074).toNat = C at *
      have b4 : -(4503599627370496 * U) ≤ signed s C ∧ signed s C ≤ 4503599627370496 * U := by
        unfold signed
        cases s
        · simp only [Bool.false_eq_true, if_false]; omega
        · simp only [if_true]; omega
      have g2 := Int.le_trans g b4.2
      have l2 := Int.le_trans b4.1 l
      rw [← Int.neg_mul] at l2
      have g3 := Int.le_of_mul_le_mul_right g2 u0
      have l3 := Int.le_of_mul_le_mul_right l2 u0
      omega

open Jvm.FP.Core in
theorem own_sub_near {x y : UInt64} {i j : Int} (hx : own_P 1074 x i) (hy : own_P 1074 y j)
    (h : (i - j).natAbs ≤ 9223372036854775808 + 1048576) :
    ∃ k, own_P 1074 (dsub x y) k ∧ (i - j) / 2048 * 2048 ≤ k ∧ k ≤ ((i - j) / 2048 + 1) * 2048 := by
  rw [dsub_eq, Int.sub_eq_add_neg]
  exact own_add_near hx (own_neg hy) (by rw [← Int.sub_eq_add_neg]; exact h)

open Jvm.FP.Core in
theorem own_l2d {n : Int64} {k : Int} {s : Nat} (hs : s ≤ 800) (h : n.toInt = k * ((2 ^ s : Nat) : Int))
    (hk : k.natAbs ≤ 2 ^ 53) : own_P 1074 (l2d n) n.toInt := by
  obtain ⟨V, f, kV, z⟩ := own_rep (1074 + s) (by omega) k hk
  have e := val64_of64 f
  have n1 : val64 (of64 V) ≠ .nan := by rw [e]; exact own_kne kV
  have z2 : zval b64 (val64 (of64 V)) = n.toInt * (one64 : Int) := by
    rw [e, z, own_pow_add, h, Int.mul_assoc]; rfl
  have a := l2d_zval_ge (n := n) n1 (by omega)
  have b := l2d_zval_le (n := n) n1 (by omega)
  exact ⟨l2d_fin n, by rw [z2] at a b; show _ = _ * (one64 : Int); omega⟩

open Jvm.FP.Core in
theorem own_d2l {x : UInt64} {i : Int} (h : own_P 1074 x i) (h1 : -2 ^ 63 ≤ i) (h2 : i < 2 ^ 63) : (d2l x).toInt = i := by
  rw [d2l_val h.1.ne_nan]
  have z : signed (sgn (val64 x)) (zmag b64 (val64 x)) = i * (one64 : Int) := h.2
  have a : zmag b64 (val64 x) = i.natAbs * one64 := by
    have := congrArg Int.natAbs z
    rw [natAbs_signed, Int.natAbs_mul] at this
    exact this
  have b : signed (sgn (val64 x)) (i.natAbs) = i := by
    rw [a, signed_mul] at z
    exact Int.eq_of_mul_eq_mul_right (Int.natCast_ne_zero.mpr (Nat.ne_of_gt one64_pos)) z
  rw [a, Nat.mul_div_cancel _ one64_pos, b]
  omega
open Jvm.FP.Core in
theorem own_quot {x y : UInt64} (hx : DFin x) (hy : DFin y) (sx : sgn (val64 x) = false) (sy : sgn (val64 y) = false)
    (y0 : zmag b64 (val64 y) ≠ 0) : ∃ c d q r, val64 x = .fin false c q ∧ val64 y = .fin false d r ∧ 0 < d ∧
      -1074 ≤ q ∧ -1074 ≤ r ∧ val64 (ddiv x y) = roundRatio b64 false c d (q - r) ∧
      (∀ e : Int, inUnits c (q - r) (2 * b64.qmin - r) = zmag b64 (val64 x) * one64) ∧
      2 ^ (b64.qmin - (2 * b64.qmin - r)).toNat * d = zmag b64 (val64 y) := by
  obtain ⟨s, c, q, e1⟩ := hx
  obtain ⟨t, d, r, e2⟩ := hy
  have f1 := val64_fits x
  have f2 := val64_fits y
  have hd := val64_ddiv x y
  rw [e1] at sx f1 hd ⊢
  rw [e2] at sy f2 y0 hd ⊢
  have sx' : s = false := sx
  have sy' : t = false := sy
  subst sx' sy'
  have q1 : (-1074 : Int) ≤ q := by have := f1.2.1; rw [qmin_b64] at this; exact this
  have r1 : (-1074 : Int) ≤ r := by have := f2.2.1; rw [qmin_b64] at this; exact this
  have hd0 : d ≠ 0 := by
    rintro rfl
    exact y0 (Nat.zero_mul _)
  refine ⟨c, d, q, r, rfl, rfl, Nat.pos_of_ne_zero hd0, q1, r1, ?_, ?_, ?_⟩
  · rw [hd]; simp only [quotient, if_neg hd0]; rfl
  · intro _
    show c * _ = c * _ * 2 ^ 1074
    rw [Nat.mul_assoc, ← Nat.pow_add, qmin_b64]; congr 2; omega
  · show _ = d * _
    rw [Nat.mul_comm, qmin_b64]; congr 2; omega

open Jvm.FP.Core in
theorem own_div_sgn {x y : UInt64} (hx : DFin x) (hy : DFin y) (sx : sgn (val64 x) = false) (sy : sgn (val64 y) = false)
    (y0 : zmag b64 (val64 y) ≠ 0) : sgn (val64 (ddiv x y)) = false ∧ val64 (ddiv x y) ≠ .nan := by
  obtain ⟨c, d, q, r, e1, e2, d0, q1, r1, e, u1, u2⟩ := own_quot hx hy sx sy y0
  rw [e]
  exact ⟨sgn_roundRatio .., roundRatio_ne_nan _ _ _ _ _⟩

open Jvm.FP.Core in
theorem own_div_le {x y : UInt64} (hx : DFin x) (hy : DFin y) (sx : sgn (val64 x) = false) (sy : sgn (val64 y) = false)
    (y0 : zmag b64 (val64 y) ≠ 0) {V : Datum} (f : Jvm.FP.Core.fits b64 V) (n : V ≠ .nan)
    (h : zmag b64 (val64 x) * one64 ≤ zmag b64 V * zmag b64 (val64 y)) : zmag b64 (val64 (ddiv x y)) ≤ zmag b64 V := by
  obtain ⟨c, d, q, r, e1, e2, d0, q1, r1, e, u1, u2⟩ := own_quot hx hy sx sy y0
  rw [e]
  have qm := qmin_b64
  refine zmag_roundRatio_le good_b64 d0 f n (e0 := 2 * b64.qmin - r) (by omega) (by omega) ?_
  rw [u1 0, Nat.mul_assoc, u2]
  exact h

open Jvm.FP.Core in
theorem own_div_ge {x y : UInt64} (hx : DFin x) (hy : DFin y) (sx : sgn (val64 x) = false) (sy : sgn (val64 y) = false)
    (y0 : zmag b64 (val64 y) ≠ 0) {V : Datum} (f : Jvm.FP.Core.fits b64 V)
    (h : zmag b64 V * zmag b64 (val64 y) ≤ zmag b64 (val64 x) * one64) : zmag b64 V ≤ zmag b64 (val64 (ddiv x y)) := by
  obtain ⟨c, d, q, r, e1, e2, d0, q1, r1, e, u1, u2⟩ := own_quot hx hy sx sy y0
  rw [e]
  have qm := qmin_b64
  refine zmag_roundRatio_ge good_b64 d0 f (e0 := 2 * b64.qmin - r) (by omega) (by omega) ?_
  rw [u1 0, Nat.mul_assoc, u2]
  exact h

open Jvm.FP.Core in
theorem own_zval {d : Datum} (s : sgn d = false) : zval b64 d = (zmag b64 d : Int) := by
  unfold zval signed; rw [s]; rfl
open Jvm.FP.Core in
theorem own_signed_prod (s t : Bool) (a b : Nat) : signed (s != t) (a * b) = signed s a * signed t b := by
  unfold signed
  cases s <;> cases t <;> simp [Int.natCast_mul, Int.neg_mul, Int.mul_neg]

open Jvm.FP.Core in
theorem own_mul_units {x y : UInt64} (hx : DFin x) (hy : DFin y) : ∃ s c e, val64 (dmul x y) = round b64 (.fin s c e) ∧
    2 * b64.qmin ≤ e ∧ signed s (inUnits c e (2 * b64.qmin)) = zval b64 (val64 x) * zval b64 (val64 y) := by
  obtain ⟨s, c, q, e1⟩ := hx
  obtain ⟨t, d, r, e2⟩ := hy
  have f1 := val64_fits x
  have f2 := val64_fits y
  have m := val64_dmul x y
  rw [e1] at f1 m ⊢
  rw [e2] at f2 m ⊢
  obtain ⟨p1, p2, p3⟩ := product_units f1 f2
  rw [p1] at m
  refine ⟨_, _, _, m, p2, ?_⟩
  rw [p3, own_signed_prod]
  rfl

open Jvm.FP.Core in
theorem own_mul_le {x y : UInt64} (hx : DFin x) (hy : DFin y) {V : Datum} (f : Jvm.FP.Core.fits b64 V) (n : V ≠ .nan)
    (h : zval b64 (val64 x) * zval b64 (val64 y) ≤ zval b64 V * (one64 : Int)) : zval b64 (val64 (dmul x y)) ≤ zval b64 V := by
  obtain ⟨s, c, e, m, p2, p3⟩ := own_mul_units hx hy
  have qm := qmin_b64
  rw [m]
  refine zval_round_le good_b64 f n (e0 := 2 * b64.qmin) (by omega) p2 ?_
  rw [p3, show (b64.qmin - 2 * b64.qmin).toNat = 1074 by omega]
  exact h

open Jvm.FP.Core in
theorem own_mul_ge {x y : UInt64} (hx : DFin x) (hy : DFin y) {V : Datum} (f : Jvm.FP.Core.fits b64 V) (n : V ≠ .nan)
    (h : zval b64 V * (one64 : Int) ≤ zval b64 (val64 x) * zval b64 (val64 y)) : zval b64 V ≤ zval b64 (val64 (dmul x y)) := by
  obtain ⟨s, c, e, m, p2, p3⟩ := own_mul_units hx hy
  have qm := qmin_b64
  rw [m]
  refine zval_round_ge good_b64 f n (e0 := 2 * b64.qmin) (by omega) p2 ?_
  rw [p3, show (b64.qmin - 2 * b64.qmin).toNat = 1074 by omega]
  exact h

open Jvm.FP.Core in
theorem own_mul_ne {x y : UInt64} (hx : DFin x) (hy : DFin y) : val64 (dmul x y) ≠ .nan := (notNaN_iff _).mp (dmul_out hx hy)

open Jvm.FP.Core in
theorem own_two_P : own_P 1074 4611686018427387904 2 := ⟨⟨false, 2 ^ 52, -51, by decide +kernel⟩, by decide +kernel⟩

open Jvm.FP.Core in
theorem own_mul2 {x : UInt64} {k : Int} (hx : own_P 1073 x k) (hk : k.natAbs ≤ 2 ^ 53) : own_P 1074 (dmul x 4611686018427387904) k := by
  obtain ⟨V, f, kV, z⟩ := own_rep 1074 (by decide) k hk
  have p : ((2 ^ 1074 : Nat) : Int) = 2 * ((2 ^ 1073 : Nat) : Int) := own_pow_add 1073 1
  have e : zval b64 (val64 x) * zval b64 (val64 4611686018427387904) = zval b64 V * (one64 : Int) := by
    rw [hx.2, own_two_P.2, z]
    show k * ((2 ^ 1073 : Nat) : Int) * (2 * ((2 ^ 1074 : Nat) : Int)) = k * ((2 ^ 1074 : Nat) : Int) * ((2 ^ 1074 : Nat) : Int)
    generalize hu : ((2 ^ 1074 : Nat) : Int) = u at *
    generalize ((2 ^ 1073 : Nat) : Int) = w at *
    rw [p]
    ac_rfl
  have l := own_mul_le hx.1 own_two_P.1 f (own_kne kV) (Int.le_of_eq e)
  have g := own_mul_ge hx.1 own_two_P.1 f (own_kne kV) (Int.le_of_eq e.symm)
  refine ⟨own_squeeze (own_mul_ne hx.1 own_two_P.1) f kV f kV g l, ?_⟩
  rw [← z]; omega

open Jvm.FP.Core in
theorem own_pos_sgn {d : Datum} (h : 0 < zval b64 d) : sgn d = false := by
  unfold zval signed at h
  cases hs : sgn d
  · rfl
  · rw [hs] at h; simp only [if_true] at h; omega

open Jvm.FP.Core in
theorem own_pos_mag {d : Datum} {k : Int} {m : Nat} (hk : 0 < k) (h : zval b64 d = k * ((2 ^ m : Nat) : Int)) :
    sgn d = false ∧ zmag b64 d = k.toNat * 2 ^ m := by
  have u0 : (0 : Int) < ((2 ^ m : Nat) : Int) := Int.natCast_pos.mpr (Nat.two_pow_pos _)
  have p : 0 < zval b64 d := by rw [h]; exact Int.mul_pos hk u0
  have s := own_pos_sgn p
  refine ⟨s, ?_⟩
  rw [own_zval s] at h
  have e : ((k.toNat * 2 ^ m : Nat) : Int) = k * ((2 ^ m : Nat) : Int) := by
    rw [Int.natCast_mul, Int.toNat_of_nonneg (Int.le_of_lt hk)]
  omega

open Jvm.FP.Core in
theorem own_div2 {x : UInt64} {k : Int} (hx : own_P 1074 x k) (k0 : 0 < k) (hk : k.natAbs ≤ 2 ^ 53) : own_P 1073 (ddiv x 4611686018427387904) k := by
  obtain ⟨V, f, kV, z⟩ := own_rep 1073 (by decide) k hk
  obtain ⟨sx, mx⟩ := own_pos_mag k0 hx.2
  obtain ⟨sV, mV⟩ := own_pos_mag k0 z
  obtain ⟨sy, my⟩ := own_pos_mag (k := 2) (by decide) own_two_P.2
  have y0 : zmag b64 (val64 4611686018427387904) ≠ 0 := by
    rw [my]; exact Nat.ne_of_gt (Nat.mul_pos (by decide) (Nat.two_pow_pos _))
  have e : zmag b64 (val64 x) * one64 = zmag b64 V * zmag b64 (val64 4611686018427387904) := by
    have p : (2 : Nat) ^ 1074 = 2 * 2 ^ 1073 := by rw [show 1074 = 1073 + 1 from rfl, Nat.pow_succ, Nat.mul_comm]
    rw [mx, mV, my, show (2 : Int).toNat = 2 from rfl, show one64 = 2 ^ 1074 from rfl]
    generalize hu : (2 : Nat) ^ 1074 = u at *
    generalize (2 : Nat) ^ 1073 = w at *
    rw [p]
    ac_rfl
  have l := own_div_le hx.1 own_two_P.1 sx sy y0 f (own_kne kV) (Nat.le_of_eq e)
  have g := own_div_ge hx.1 own_two_P.1 sx sy y0 f (Nat.le_of_eq e.symm)
  have sn := own_div_sgn hx.1 own_two_P.1 sx sy y0
  have zz : zval b64 (val64 (ddiv x 4611686018427387904)) = zval b64 V := by
    rw [own_zval sn.1, own_zval sV]; omega
  exact ⟨own_squeeze sn.2 f kV f kV (by omega) (by omega), by rw [zz, z]⟩
def own_min (x y : Int32) : Int32 := if y < x then y else x
def own_max (x y : Int32) : Int32 := if x < y then y else x
theorem own_minI (x y : Int32) : (own_min x y).toInt = min x.toInt y.toInt := by
  unfold own_min; split <;> rename_i q <;> rw [Int32.lt_iff_toInt_lt] at q <;> omega
theorem own_maxI (x y : Int32) : (own_max x y).toInt = max x.toInt y.toInt := by
  unfold own_max; split <;> rename_i q <;> rw [Int32.lt_iff_toInt_lt] at q <;> omega

open Jvm.FP.Core in
theorem own_cmp_P {m : Nat} {x y : UInt64} {i j : Int} (hx : own_P m x i) (hy : own_P m y j) :
    dcmp x y = some (if i < j then .lt else if i = j then .eq else .gt) := by
  have u0 : (0 : Int) < ((2 ^ m : Nat) : Int) := Int.natCast_pos.mpr (Nat.two_pow_pos _)
  rw [dcmp_zval hx.1.ne_nan hy.1.ne_nan, hx.2, hy.2, compare_ite]
  have c1 : i * ((2 ^ m : Nat) : Int) < j * ((2 ^ m : Nat) : Int) ↔ i < j := Int.mul_lt_mul_right u0
  have c2 : i * ((2 ^ m : Nat) : Int) = j * ((2 ^ m : Nat) : Int) ↔ i = j :=
    ⟨fun h => Int.eq_of_mul_eq_mul_right (Int.ne_of_gt u0) h, fun h => by rw [h]⟩
  simp only [c1, c2]

def own_vn (lw hg : UInt64) : Prop := Jvm.Free.Fl.NoNaN64 (FP.dsub hg lw) ∧ Jvm.Free.Fl.NoNaN64 (FP.ddiv (FP.dsub hg lw) 4611686018427387904) ∧ Jvm.Free.Fl.NoNaN64 (FP.dadd lw (FP.ddiv (FP.dsub hg lw) 4611686018427387904))
def own_val (lw hg : UInt64) : UInt64 := if cmpValue (FP.dcmp lw hg) .l = 0 then lw else FP.dadd lw (FP.ddiv (FP.dsub hg lw) 4611686018427387904)
def own_lh (m lo hi : Int32) (lw hg : UInt64) : Prop := (m = 1 ∧ lw = FP.i2d lo ∧ hg = FP.i2d lo) ∨ (m = 2 ∧ lw = FP.i2d lo ∧ hg = 9218868437227405312) ∨ (m = 4 ∧ lw = 9218868437227405312 ∧ hg = 9218868437227405312) ∨ (m = 5 ∧ lw = FP.dneg 9218868437227405312 ∧ hg = FP.dneg 9218868437227405312) ∨ (¬ m = 1 ∧ ¬ m = 2 ∧ ¬ m = 4 ∧ ¬ m = 5 ∧ lw = FP.i2d lo ∧ hg = FP.i2d hi)
theorem own_st3 (x : Int32) : ((x &&& (2147483647 : Int32)) % (3 : Int32)) = 0 ∨ ((x &&& (2147483647 : Int32)) % (3 : Int32)) = 1 ∨ ((x &&& (2147483647 : Int32)) % (3 : Int32)) = 2 := by
  have q1 := c_mask x 2147483647 31 (by decide) (by decide)
  have q2 := c_irem (x &&& 2147483647) 3 3 rfl
  simp only [← Int32.toInt_inj]
  have o0 : (0 : Int32).toInt = 0 := rfl
  have o1 : (1 : Int32).toInt = 1 := rfl
  have o2 : (2 : Int32).toInt = 2 := rfl
  omega
theorem own_i2dP (x : Int32) : own_P 1074 (FP.i2d x) x.toInt := by
  have e : x.toInt64.toInt = x.toInt := c_i2l x
  have r := rng32 x
  have h := own_l2d (n := x.toInt64) (k := x.toInt) (s := 0) (by decide) (by rw [e]; simp) (by omega)
  rw [e] at h
  rw [show FP.i2d x = _ from Jvm.FP.Core.i2d_l2d x]
  exact h
theorem own_nnP {m : Nat} {x : UInt64} {i : Int} (h : own_P m x i) : Jvm.Free.Fl.NoNaN64 x := (Jvm.Free.Fl.fin64_core.mpr h.1).noNaN
theorem own_cvE {r : Option Ordering} : cmpValue r .l = 0 ↔ r = some .eq := by rcases r with _ | (_ | _ | _) <;> decide
open Jvm.FP.Core in
/-- lower + (upper - lower) / 2, of two ints -/
theorem own_mid {lo hi : Int32} (h : lo.toInt < hi.toInt) : own_vn (FP.i2d lo) (FP.i2d hi) ∧ own_P 1073 (FP.dadd (FP.i2d lo) (FP.ddiv (FP.dsub (FP.i2d hi) (FP.i2d lo)) 4611686018427387904)) (lo.toInt + hi.toInt) := by
  have a := own_i2dP lo
  have b := own_i2dP hi
  have r1 := rng32 lo
  have r2 := rng32 hi
  have d := own_sub (by decide) b a (by omega)
  have q := own_div2 d (by omega) (by omega)
  have a2 : own_P 1073 (FP.i2d lo) (lo.toInt * ((2 ^ 1 : Nat) : Int)) := own_down_P (m := 1073) (k := 1) a
  have e : lo.toInt * ((2 ^ 1 : Nat) : Int) + (hi.toInt - lo.toInt) = lo.toInt + hi.toInt := by
    rw [show ((2 ^ 1 : Nat) : Int) = 2 from rfl]; omega
  have s := own_add (by decide) a2 q (by rw [e]; omega)
  rw [e] at s
  exact ⟨⟨own_nnP d, own_nnP q, own_nnP s⟩, s⟩
open Jvm.FP.Core in
theorem own_fin_inf (x : Int32) : ¬ cmpValue (FP.dcmp (FP.i2d x) 9218868437227405312) .l = 0 := by
  rw [show FP.dcmp (FP.i2d x) 9218868437227405312 = some .lt from (fin_lt_inf (i2d_fin x)).1]; decide
open Jvm.FP.Core in
theorem own_inf_bits {z : UInt64} (h : val64 z = .inf false) : z = 9218868437227405312 := by
  refine val64_inj (by rw [h]; exact Datum.noConfusion) ?_
  rw [h]; decide +kernel
open Jvm.FP.Core in
theorem own_infs (x : Int32) : FP.dsub 9218868437227405312 (FP.i2d x) = 9218868437227405312 ∧ FP.ddiv 9218868437227405312 4611686018427387904 = 9218868437227405312 ∧ FP.dadd (FP.i2d x) 9218868437227405312 = 9218868437227405312 := by
  obtain ⟨s, c, q, e⟩ := i2d_fin x
  have v : val64 9218868437227405312 = .inf false := by decide +kernel
  refine ⟨own_inf_bits ?_, by decide +kernel, own_inf_bits ?_⟩
  · show val64 (dsub _ (i2d x)) = _
    rw [val64_dsub, v, e]; rfl
  · show val64 (dadd (i2d x) _) = _
    rw [val64_dadd, v, e]; rfl
theorem own_nninf : Jvm.Free.Fl.NoNaN64 9218868437227405312 := by unfold Jvm.Free.Fl.NoNaN64; decide +kernel
theorem own_nn {m lo hi : Int32} {lw hg : UInt64} (hl : lo.toInt ≤ hi.toInt) (h : own_lh m lo hi lw hg) : ¬ cmpValue (FP.dcmp lw hg) .l = 0 → own_vn lw hg := by
  intro q
  rcases h with ⟨_, rfl, rfl⟩ | ⟨_, rfl, rfl⟩ | ⟨_, rfl, rfl⟩ | ⟨_, rfl, rfl⟩ | ⟨_, _, _, _, rfl, rfl⟩
  · exact absurd (dcmpV_self (own_nnP (own_i2dP lo)) .l) q
  · obtain ⟨e1, e2, e3⟩ := own_infs lo
    unfold own_vn
    rw [e1, e2, e3]
    exact ⟨own_nninf, own_nninf, own_nninf⟩
  · exact absurd (by decide +kernel) q
  · exact absurd (by decide +kernel) q
  · by_cases e : lo.toInt = hi.toInt
    · rw [Int32.toInt_inj] at e
      subst e
      exact absurd (dcmpV_self (own_nnP (own_i2dP lo)) .l) q
    · exact (own_mid (by omega)).1
theorem own_t1 {m lo hi : Int32} {lw hg : UInt64} (h : own_lh m lo hi lw hg) (e : m = 1) : cmpValue (FP.dcmp (own_val lw hg) lw) .l = 0 := by
  rcases h with ⟨q, rfl, rfl⟩ | ⟨q, _, _⟩ | ⟨q, _, _⟩ | ⟨q, _, _⟩ | ⟨q, _⟩
  · have s := dcmpV_self (own_nnP (own_i2dP lo)) .l
    unfold own_val
    rw [if_pos s]; exact s
  · rw [e] at q; exact absurd q (by decide)
  · rw [e] at q; exact absurd q (by decide)
  · rw [e] at q; exact absurd q (by decide)
  · exact absurd e q
theorem own_t2 {m lo hi : Int32} {lw hg : UInt64} (h : own_lh m lo hi lw hg) (e : m = 2) : cmpValue (FP.dcmp (own_val lw hg) 9218868437227405312) .l = 0 := by
  rcases h with ⟨q, _, _⟩ | ⟨q, rfl, rfl⟩ | ⟨q, _, _⟩ | ⟨q, _, _⟩ | ⟨_, q, _⟩
  · rw [e] at q; exact absurd q (by decide)
  · obtain ⟨e1, e2, e3⟩ := own_infs lo
    unfold own_val
    rw [if_neg (own_fin_inf lo), e1, e2, e3]; decide +kernel
  · rw [e] at q; exact absurd q (by decide)
  · rw [e] at q; exact absurd q (by decide)
  · exact absurd e q
theorem own_t4 {m lo hi : Int32} {lw hg : UInt64} (h : own_lh m lo hi lw hg) (e : m = 4) : cmpValue (FP.dcmp (own_val lw hg) 9218868437227405312) .l = 0 := by
  rcases h with ⟨q, _, _⟩ | ⟨q, _, _⟩ | ⟨q, rfl, rfl⟩ | ⟨q, _, _⟩ | ⟨_, _, q, _⟩
  · rw [e] at q; exact absurd q (by decide)
  · rw [e] at q; exact absurd q (by decide)
  · unfold own_val; rw [if_pos (by decide +kernel)]; decide +kernel
  · rw [e] at q; exact absurd q (by decide)
  · exact absurd e q
theorem own_t5 {m lo hi : Int32} {lw hg : UInt64} (h : own_lh m lo hi lw hg) (e : m = 5) : cmpValue (FP.dcmp (own_val lw hg) (FP.dneg 9218868437227405312)) .l = 0 := by
  rcases h with ⟨q, _, _⟩ | ⟨q, _, _⟩ | ⟨q, _, _⟩ | ⟨q, rfl, rfl⟩ | ⟨_, _, _, q, _⟩
  · rw [e] at q; exact absurd q (by decide)
  · rw [e] at q; exact absurd q (by decide)
  · rw [e] at q; exact absurd q (by decide)
  · unfold own_val; rw [if_pos (by decide +kernel)]; decide +kernel
  · exact absurd e q
open Jvm.FP.Core in
theorem own_t0 {m lo hi : Int32} {lw hg : UInt64} (hl : lo.toInt ≤ hi.toInt) (h : own_lh m lo hi lw hg) (n1 : ¬ m = 1) (n2 : ¬ m = 2) (n4 : ¬ m = 4) (n5 : ¬ m = 5) :
    Jvm.Free.Fl.NoNaN64 (FP.dmul (own_val lw hg) 4611686018427387904) ∧ cmpValue (FP.dcmp (FP.dmul (own_val lw hg) 4611686018427387904) (FP.l2d (lo.toInt64 + hi.toInt64))) .l = 0 := by
  have r1 := rng32 lo
  have r2 := rng32 hi
  have c1 := c_i2l lo
  have c2 := c_i2l hi
  have sm : (lo.toInt64 + hi.toInt64).toInt = lo.toInt + hi.toInt := by rw [int64_add (by omega) (by omega), c1, c2]
  have s : own_P 1074 (FP.l2d (lo.toInt64 + hi.toInt64)) (lo.toInt + hi.toInt) := by
    rw [← sm]; exact own_l2d (k := (lo.toInt64 + hi.toInt64).toInt) (s := 0) (by decide) (by simp) (by rw [sm]; omega)
  have v : own_P 1073 (own_val lw hg) (lo.toInt + hi.toInt) := by
    rcases h with ⟨q, _, _⟩ | ⟨q, _, _⟩ | ⟨q, _, _⟩ | ⟨q, _, _⟩ | ⟨_, _, _, _, rfl, rfl⟩
    · exact absurd q n1
    · exact absurd q n2
    · exact absurd q n4
    · exact absurd q n5
    · unfold own_val
      by_cases e : lo.toInt = hi.toInt
      · rw [Int32.toInt_inj] at e
        subst e
        rw [if_pos (dcmpV_self (own_nnP (own_i2dP lo)) .l)]
        have a2 : own_P 1073 (FP.i2d lo) (lo.toInt * ((2 ^ 1 : Nat) : Int)) := own_down_P (m := 1073) (k := 1) (own_i2dP lo)
        rw [show lo.toInt * ((2 ^ 1 : Nat) : Int) = lo.toInt + lo.toInt by rw [show ((2 ^ 1 : Nat) : Int) = 2 from rfl]; omega] at a2
        exact a2
      · have c : ¬ cmpValue (FP.dcmp (FP.i2d lo) (FP.i2d hi)) .l = 0 := by
          rw [own_cvE, show FP.dcmp (FP.i2d lo) (FP.i2d hi) = _ from own_cmp_P (own_i2dP lo) (own_i2dP hi), if_pos (by omega)]
          decide
        rw [if_neg c]
        exact (own_mid (by omega)).2
  have p := own_mul2 v (by omega)
  refine ⟨own_nnP p, ?_⟩
  rw [own_cvE, show FP.dcmp _ _ = _ from own_cmp_P p s, if_neg (by omega), if_pos rfl]
theorem ef_MinI (m : MethodId) (x0 : Int32) (x1 : Int32) : entryFrame m #[(.int x0), (.int x1)] 2 = mkF m 0 #[.val (.int x0), .val (.int x1)] [] := by first | (simp [entryFrame, mkF, argsToLocals, Value.category]; done) | rfl
theorem dd_jdk_29_method_69_code_0 : decode jdk_29_method_69_code 0 = .ok (.iload_n 0, 1) := by decide +kernel
theorem dd_jdk_29_method_69_code_1 : decode jdk_29_method_69_code 1 = .ok (.iload_n 1, 1) := by decide +kernel
theorem dd_jdk_29_method_69_code_2 : decode jdk_29_method_69_code 2 = .ok (.if_icmp .gt 7, 3) := by decide +kernel
theorem dd_jdk_29_method_69_code_9 : decode jdk_29_method_69_code 9 = .ok (.iload_n 1, 1) := by decide +kernel
theorem dd_jdk_29_method_69_code_10 : decode jdk_29_method_69_code 10 = .ok (.ireturn, 1) := by decide +kernel
theorem dd_jdk_29_method_69_code_5 : decode jdk_29_method_69_code 5 = .ok (.iload_n 0, 1) := by decide +kernel
theorem dd_jdk_29_method_69_code_6 : decode jdk_29_method_69_code 6 = .ok (.goto 4, 3) := by decide +kernel
def QMinI (Z : State) (x0 : Int32) (x1 : Int32) (h0 : Heap) (n0 : Nat) (v : Option Value) (h : Heap) (L : List Loc) : Prop := v = some (.int (own_min x0 x1)) ∧ Fr n0 L ∧ h = h0
set_option maxRecDepth 65536 in
set_option maxHeartbeats 40000000 in
theorem rmMinI (l : Launch) (Z : State) (a0 : Array Value) (hw : ∀ d ∈ tables_1, d.before a0 Z = true) (ws : List Jvm.Cond) (x0 : Int32) (x1 : Int32) (h0 : Heap) (n0 : Nat) (Z0 : n0 ≤ h0.size) :
    MetFree l (⟨"java/lang/Math", "min", "(II)I"⟩ : MethodName) (head1 (Jvm.Cond.code (⟨"java/lang/Math", "min", "(II)I"⟩ : MethodName) jdk_29_method_69_code 2 (some .int) :: ws) ({ frames := 0, cells := 0, slots := 0, locals := 0 } : Room)) (fun a U => a = #[(.int x0), (.int x1)] ∧ Z.Warmed39 U.vm ∧ U.heap = h0) (fun _ _ _ _ _ => True) (fun _ U oc_ U' => ∃ v L, oc_ = .returned v ∧ QMinI Z x0 x1 h0 n0 v U'.heap L ∧ FrameEnd U oc_ U' L ({ frames := 0, cells := 0, slots := 0, locals := 0 } : Room).cells ({ frames := 0, cells := 0, slots := 0, locals := 0 } : Room).slots) := by
  refine MetFree.of_bodySF (Jvm.Free.JP.mathPlain rfl (by decide +kernel)) hisR ?_
  intro p e s m args below meth c s₁ Bd hml0 hP hK
  obtain ⟨rfl, hZ, hh⟩ := hP
  have hx := Bd.exec
  have hby := Bd.bytes
  have hml : c.maxLocals = 2 := hml0
  have hown : s.vm.findClass "java/lang/Math" = some m.cls := findClass_of_methodNamed Bd.named
  have hnm := (name_of_methodNamed Bd.named Bd.method).1
  have X0 : Stand p l e ({ frames := 0, cells := 0, slots := 0, locals := 0 } : Room) s m #[(.int x0), (.int x1)] below meth c s₁ [] 0 0 := Stand.of_body Bd
  have e0 : s₁.heap = h0 := by rw [← hh, Bd.state]; rfl
  have N0 := Fr.nil n0
  have pre0 : ∀ t, Steps p.tables e below (s₁.setTop (mkF m 0 #[.val (.int x0), .val (.int x1)] [])) t → Steps p.tables e below (s₁.setTop (entryFrame m #[(.int x0), (.int x1)] 2)) t := fun t k => castTop (ef_MinI m x0 x1) k
  have k1 : ∀ t, Steps p.tables e below (s₁.setTop (mkF m 2 #[.val (.int x0), .val (.int x1)] [(.int x1), (.int x0)])) t → Steps p.tables e below (s₁.setTop (entryFrame m #[(.int x0), (.int x1)] 2)) t := by
    intro t kt
    refine pre0 t ?_
    show Steps p.tables e below (s₁.setTop (mkF m 0 #[.val (.int x0), .val (.int x1)] [])) _
    refine XS.iloadN X0.here hx rfl (hb hby dd_jdk_29_method_69_code_0) rfl ?_
    show Steps p.tables e below (s₁.setTop (mkF m 1 #[.val (.int x0), .val (.int x1)] [(.int x0)])) _
    refine XS.iloadN X0.here hx rfl (hb hby dd_jdk_29_method_69_code_1) rfl ?_
    exact kt
  by_cases hc2 : x1 < x0
  · skip
    obtain ⟨lfs, lhr, lhrun, lhended, lhW, lhsame⟩ := X0.leave (v := some (.int x1)) (fun h => by rw [Bd.returns] at h; cases h)
    refine ⟨_, _, k1 _ ?_, lhrun, lhended, _, _, rfl, ?_, ⟨_, rfl⟩, lhW, lhsame.mono (by decide) (by decide)⟩
    · skip
      show Steps p.tables e below (s₁.setTop (mkF m 2 #[.val (.int x0), .val (.int x1)] [(.int x1), (.int x0)])) _
      refine XS.icmpYes X0.here hx rfl (pc0 := 2) (pc' := 9) rfl (hb hby dd_jdk_29_method_69_code_2) rfl (tlt hc2).2.2.1 (by decide) (by decide) ?_
      show Steps p.tables e below (s₁.setTop (mkF m 9 #[.val (.int x0), .val (.int x1)] [])) _
      refine XS.iloadN X0.here hx rfl (hb hby dd_jdk_29_method_69_code_9) rfl ?_
      show Steps p.tables e below (s₁.setTop (mkF m 10 #[.val (.int x0), .val (.int x1)] [(.int x1)])) _
      exact retI X0 hx Bd.returns (hb hby dd_jdk_29_method_69_code_10) lhr
    · skip
      show QMinI Z x0 x1 h0 n0 _ s₁.heap _
      rw [e0]
      refine ⟨?_, N0, rfl⟩
      simp [own_min, hc2]
  · skip
    obtain ⟨lfs, lhr, lhrun, lhended, lhW, lhsame⟩ := X0.leave (v := some (.int x0)) (fun h => by rw [Bd.returns] at h; cases h)
    refine ⟨_, _, k1 _ ?_, lhrun, lhended, _, _, rfl, ?_, ⟨_, rfl⟩, lhW, lhsame.mono (by decide) (by decide)⟩
    · skip
      show Steps p.tables e below (s₁.setTop (mkF m 2 #[.val (.int x0), .val (.int x1)] [(.int x1), (.int x0)])) _
      refine XS.icmpNo X0.here hx rfl (hb hby dd_jdk_29_method_69_code_2) rfl (flt hc2).2.2.1 ?_
      show Steps p.tables e below (s₁.setTop (mkF m 5 #[.val (.int x0), .val (.int x1)] [])) _
      refine XS.iloadN X0.here hx rfl (hb hby dd_jdk_29_method_69_code_5) rfl ?_
      show Steps p.tables e below (s₁.setTop (mkF m 6 #[.val (.int x0), .val (.int x1)] [(.int x0)])) _
      refine XS.goto X0.here hx rfl (pc0 := 6) (pc' := 10) rfl (hb hby dd_jdk_29_method_69_code_6) (by decide) (by decide) ?_
      show Steps p.tables e below (s₁.setTop (mkF m 10 #[.val (.int x0), .val (.int x1)] [(.int x0)])) _
      exact retI X0 hx Bd.returns (hb hby dd_jdk_29_method_69_code_10) lhr
    · skip
      show QMinI Z x0 x1 h0 n0 _ s₁.heap _
      rw [e0]
      refine ⟨?_, N0, rfl⟩
      simp [own_min, hc2]
theorem ef_MaxI (m : MethodId) (x0 : Int32) (x1 : Int32) : entryFrame m #[(.int x0), (.int x1)] 2 = mkF m 0 #[.val (.int x0), .val (.int x1)] [] := by first | (simp [entryFrame, mkF, argsToLocals, Value.category]; done) | rfl
theorem dd_jdk_29_method_65_code_0 : decode jdk_29_method_65_code 0 = .ok (.iload_n 0, 1) := by decide +kernel
theorem dd_jdk_29_method_65_code_1 : decode jdk_29_method_65_code 1 = .ok (.iload_n 1, 1) := by decide +kernel
theorem dd_jdk_29_method_65_code_2 : decode jdk_29_method_65_code 2 = .ok (.if_icmp .lt 7, 3) := by decide +kernel
theorem dd_jdk_29_method_65_code_9 : decode jdk_29_method_65_code 9 = .ok (.iload_n 1, 1) := by decide +kernel
theorem dd_jdk_29_method_65_code_10 : decode jdk_29_method_65_code 10 = .ok (.ireturn, 1) := by decide +kernel
theorem dd_jdk_29_method_65_code_5 : decode jdk_29_method_65_code 5 = .ok (.iload_n 0, 1) := by decide +kernel
theorem dd_jdk_29_method_65_code_6 : decode jdk_29_method_65_code 6 = .ok (.goto 4, 3) := by decide +kernel
def QMaxI (Z : State) (x0 : Int32) (x1 : Int32) (h0 : Heap) (n0 : Nat) (v : Option Value) (h : Heap) (L : List Loc) : Prop := v = some (.int (own_max x0 x1)) ∧ Fr n0 L ∧ h = h0
set_option maxRecDepth 65536 in
set_option maxHeartbeats 40000000 in
theorem rmMaxI (l : Launch) (Z : State) (a0 : Array Value) (hw : ∀ d ∈ tables_1, d.before a0 Z = true) (ws : List Jvm.Cond) (x0 : Int32) (x1 : Int32) (h0 : Heap) (n0 : Nat) (Z0 : n0 ≤ h0.size) :
    MetFree l (⟨"java/lang/Math", "max", "(II)I"⟩ : MethodName) (head1 (Jvm.Cond.code (⟨"java/lang/Math", "max", "(II)I"⟩ : MethodName) jdk_29_method_65_code 2 (some .int) :: ws) ({ frames := 0, cells := 0, slots := 0, locals := 0 } : Room)) (fun a U => a = #[(.int x0), (.int x1)] ∧ Z.Warmed39 U.vm ∧ U.heap = h0) (fun _ _ _ _ _ => True) (fun _ U oc_ U' => ∃ v L, oc_ = .returned v ∧ QMaxI Z x0 x1 h0 n0 v U'.heap L ∧ FrameEnd U oc_ U' L ({ frames := 0, cells := 0, slots := 0, locals := 0 } : Room).cells ({ frames := 0, cells := 0, slots := 0, locals := 0 } : Room).slots) := by
  refine MetFree.of_bodySF (Jvm.Free.JP.mathPlain rfl (by decide +kernel)) hisR ?_
  intro p e s m args below meth c s₁ Bd hml0 hP hK
  obtain ⟨rfl, hZ, hh⟩ := hP
  have hx := Bd.exec
  have hby := Bd.bytes
  have hml : c.maxLocals = 2 := hml0
  have hown : s.vm.findClass "java/lang/Math" = some m.cls := findClass_of_methodNamed Bd.named
  have hnm := (name_of_methodNamed Bd.named Bd.method).1
  have X0 : Stand p l e ({ frames := 0, cells := 0, slots := 0, locals := 0 } : Room) s m #[(.int x0), (.int x1)] below meth c s₁ [] 0 0 := Stand.of_body Bd
  have e0 : s₁.heap = h0 := by rw [← hh, Bd.state]; rfl
  have N0 := Fr.nil n0
  have pre0 : ∀ t, Steps p.tables e below (s₁.setTop (mkF m 0 #[.val (.int x0), .val (.int x1)] [])) t → Steps p.tables e below (s₁.setTop (entryFrame m #[(.int x0), (.int x1)] 2)) t := fun t k => castTop (ef_MaxI m x0 x1) k
  have k1 : ∀ t, Steps p.tables e below (s₁.setTop (mkF m 2 #[.val (.int x0), .val (.int x1)] [(.int x1), (.int x0)])) t → Steps p.tables e below (s₁.setTop (entryFrame m #[(.int x0), (.int x1)] 2)) t := by
    intro t kt
    refine pre0 t ?_
    show Steps p.tables e below (s₁.setTop (mkF m 0 #[.val (.int x0), .val (.int x1)] [])) _
    refine XS.iloadN X0.here hx rfl (hb hby dd_jdk_29_method_65_code_0) rfl ?_
    show Steps p.tables e below (s₁.setTop (mkF m 1 #[.val (.int x0), .val (.int x1)] [(.int x0)])) _
    refine XS.iloadN X0.here hx rfl (hb hby dd_jdk_29_method_65_code_1) rfl ?_
    exact kt
  by_cases hc2 : x0 < x1
  · skip
    obtain ⟨lfs, lhr, lhrun, lhended, lhW, lhsame⟩ := X0.leave (v := some (.int x1)) (fun h => by rw [Bd.returns] at h; cases h)
    refine ⟨_, _, k1 _ ?_, lhrun, lhended, _, _, rfl, ?_, ⟨_, rfl⟩, lhW, lhsame.mono (by decide) (by decide)⟩
    · skip
      show Steps p.tables e below (s₁.setTop (mkF m 2 #[.val (.int x0), .val (.int x1)] [(.int x1), (.int x0)])) _
      refine XS.icmpYes X0.here hx rfl (pc0 := 2) (pc' := 9) rfl (hb hby dd_jdk_29_method_65_code_2) rfl (tlt hc2).1 (by decide) (by decide) ?_
      show Steps p.tables e below (s₁.setTop (mkF m 9 #[.val (.int x0), .val (.int x1)] [])) _
      refine XS.iloadN X0.here hx rfl (hb hby dd_jdk_29_method_65_code_9) rfl ?_
      show Steps p.tables e below (s₁.setTop (mkF m 10 #[.val (.int x0), .val (.int x1)] [(.int x1)])) _
      exact retI X0 hx Bd.returns (hb hby dd_jdk_29_method_65_code_10) lhr
    · skip
      show QMaxI Z x0 x1 h0 n0 _ s₁.heap _
      rw [e0]
      refine ⟨?_, N0, rfl⟩
      simp [own_max, hc2]
  · skip
    obtain ⟨lfs, lhr, lhrun, lhended, lhW, lhsame⟩ := X0.leave (v := some (.int x0)) (fun h => by rw [Bd.returns] at h; cases h)
    refine ⟨_, _, k1 _ ?_, lhrun, lhended, _, _, rfl, ?_, ⟨_, rfl⟩, lhW, lhsame.mono (by decide) (by decide)⟩
    · skip
      show Steps p.tables e below (s₁.setTop (mkF m 2 #[.val (.int x0), .val (.int x1)] [(.int x1), (.int x0)])) _
      refine XS.icmpNo X0.here hx rfl (hb hby dd_jdk_29_method_65_code_2) rfl (flt hc2).1 ?_
      show Steps p.tables e below (s₁.setTop (mkF m 5 #[.val (.int x0), .val (.int x1)] [])) _
      refine XS.iloadN X0.here hx rfl (hb hby dd_jdk_29_method_65_code_5) rfl ?_
      show Steps p.tables e below (s₁.setTop (mkF m 6 #[.val (.int x0), .val (.int x1)] [(.int x0)])) _
      refine XS.goto X0.here hx rfl (pc0 := 6) (pc' := 10) rfl (hb hby dd_jdk_29_method_65_code_6) (by decide) (by decide) ?_
      show Steps p.tables e below (s₁.setTop (mkF m 10 #[.val (.int x0), .val (.int x1)] [(.int x0)])) _
      exact retI X0 hx Bd.returns (hb hby dd_jdk_29_method_65_code_10) lhr
    · skip
      show QMaxI Z x0 x1 h0 n0 _ s₁.heap _
      rw [e0]
      refine ⟨?_, N0, rfl⟩
      simp [own_max, hc2]
theorem ef_Ini (m : MethodId) (x0 : Addr) (x1 : Addr) (x2 : Addr) : entryFrame m #[(.ref x0), (.ref x1), (.ref x2)] 3 = mkF m 0 #[.val (.ref x0), .val (.ref x1), .val (.ref x2)] [] := by first | (simp [entryFrame, mkF, argsToLocals, Value.category]; done) | rfl
theorem pn_com_example_formula_to_strategy_formulatostrategy_engine_ValueBounds : plainName "com/example/formula_to_strategy/formulatostrategy/engine/ValueBounds" = true := by first | (simp [plainName, overriddenIn]; done) | decide +kernel
theorem dd_prog_24_method_1_code_0 : decode prog_24_method_1_code 0 = .ok (.aload_n 0, 1) := by decide +kernel
theorem dd_prog_24_method_1_code_1 : decode prog_24_method_1_code 1 = .ok (.invokespecial 1, 3) := by decide +kernel
theorem dd_prog_24_method_1_code_4 : decode prog_24_method_1_code 4 = .ok (.aload_n 0, 1) := by decide +kernel
theorem dd_prog_24_method_1_code_5 : decode prog_24_method_1_code 5 = .ok (.aload_n 1, 1) := by decide +kernel
theorem dd_prog_24_method_1_code_6 : decode prog_24_method_1_code 6 = .ok (.putfield 7, 3) := by decide +kernel
theorem dd_prog_24_method_1_code_9 : decode prog_24_method_1_code 9 = .ok (.aload_n 0, 1) := by decide +kernel
theorem dd_prog_24_method_1_code_10 : decode prog_24_method_1_code 10 = .ok (.aload_n 2, 1) := by decide +kernel
theorem dd_prog_24_method_1_code_11 : decode prog_24_method_1_code 11 = .ok (.putfield 13, 3) := by decide +kernel
theorem dd_prog_24_method_1_code_14 : decode prog_24_method_1_code 14 = .ok (.return_, 1) := by decide +kernel
def QIni (Z : State) (o : Addr) (la : Addr) (ua : Addr) (u0 : Value) (u1 : Value) (h0 : Heap) (n0 : Nat) (v : Option Value) (h : Heap) (L : List Loc) : Prop := v = none ∧ Fr n0 L ∧ Keep h0 h [o] ∧ Exa Z h o "com/example/formula_to_strategy/formulatostrategy/engine/ValueBounds" ∧ Fld Z h o "com/example/formula_to_strategy/formulatostrategy/engine/ValueBounds" "lower" "[D" (.ref la) ∧ Fld Z h o "com/example/formula_to_strategy/formulatostrategy/engine/ValueBounds" "upper" "[D" (.ref ua)
set_option maxRecDepth 65536 in
set_option maxHeartbeats 40000000 in
theorem rmIni (l : Launch) (Z : State) (a0 : Array Value) (hw : ∀ d ∈ tables_1, d.before a0 Z = true) (ws : List Jvm.Cond) (o : Addr) (la : Addr) (ua : Addr) (u0 : Value) (u1 : Value) (h0 : Heap) (n0 : Nat) (Z0 : n0 ≤ h0.size) (g_o : n0 ≤ o) (E_o : Exa Z h0 o "com/example/formula_to_strategy/formulatostrategy/engine/ValueBounds") (F_l : Fld Z h0 o "com/example/formula_to_strategy/formulatostrategy/engine/ValueBounds" "lower" "[D" u0) (F_u : Fld Z h0 o "com/example/formula_to_strategy/formulatostrategy/engine/ValueBounds" "upper" "[D" u1) :
    MetFree l (⟨"com/example/formula_to_strategy/formulatostrategy/engine/ValueBounds", "<init>", "([D[D)V"⟩ : MethodName) (head1 (Jvm.Cond.code (⟨"com/example/formula_to_strategy/formulatostrategy/engine/ValueBounds", "<init>", "([D[D)V"⟩ : MethodName) prog_24_method_1_code 3 none :: ws) ({ frames := 1, cells := 0, slots := 0, locals := 15 } : Room)) (fun a U => a = #[(.ref o), (.ref la), (.ref ua)] ∧ Z.Warmed39 U.vm ∧ U.heap = h0) (fun _ _ _ _ _ => True) (fun _ U oc_ U' => ∃ v L, oc_ = .returned v ∧ QIni Z o la ua u0 u1 h0 n0 v U'.heap L ∧ FrameEnd U oc_ U' L ({ frames := 1, cells := 0, slots := 0, locals := 15 } : Room).cells ({ frames := 1, cells := 0, slots := 0, locals := 15 } : Room).slots) := by
  refine MetFree.of_bodySF (plainFor_of_name pn_com_example_formula_to_strategy_formulatostrategy_engine_ValueBounds) hisR ?_
  intro p e s m args below meth c s₁ Bd hml0 hP hK
  obtain ⟨rfl, hZ, hh⟩ := hP
  have hx := Bd.exec
  have hby := Bd.bytes
  have hml : c.maxLocals = 3 := hml0
  have hown : s.vm.findClass "com/example/formula_to_strategy/formulatostrategy/engine/ValueBounds" = some m.cls := findClass_of_methodNamed Bd.named
  have hnm := (name_of_methodNamed Bd.named Bd.method).1
  have X0 : Stand p l e ({ frames := 1, cells := 0, slots := 0, locals := 15 } : Room) s m #[(.ref o), (.ref la), (.ref ua)] below meth c s₁ [] 0 0 := Stand.of_body Bd
  have e0 : s₁.heap = h0 := by rw [← hh, Bd.state]; rfl
  have N0 := Fr.nil n0
  have pre0 : ∀ t, Steps p.tables e below (s₁.setTop (mkF m 0 #[.val (.ref o), .val (.ref la), .val (.ref ua)] [])) t → Steps p.tables e below (s₁.setTop (entryFrame m #[(.ref o), (.ref la), (.ref ua)] 3)) t := fun t k => castTop (ef_Ini m o la ua) k
  obtain ⟨T1, X1, e1, st1⟩ := initO X0 hx hZ hown (wd17 hw) (wd18 hw) (wd19 hw) e0 (g := (mkF m 1 #[.val (.ref o), .val (.ref la), .val (.ref ua)] [(.ref o)])) rfl (by rw [hml]; rfl) rfl (hb hby dd_prog_24_method_1_code_1) (by decide) (W := 0) (by show 2 * 0 + _ ≤ _; exact Nat.le_of_eq rfl) (by decide)
  obtain ⟨T2, h2, X2, e2, W2, st2⟩ := putF X1 hx hZ hown (host := "") (Or.inl (wd20 hw)) Via.refl e1 F_l E_o (Or.inr ⟨(wd21 hw), rfl, hnm⟩) (wd12 hw) (ty := (.array .double)) (by decide) rfl rfl (g := (mkF m 6 #[.val (.ref o), .val (.ref la), .val (.ref ua)] [(.ref la), (.ref o)])) rfl rfl (hb hby dd_prog_24_method_1_code_6)
  have N2 := Fr.snoc X2 N0 g_o
  have Z2 : n0 ≤ h2.size := by rw [W2.size]; exact Z0
  have K2 : Keep h0 h2 [o] := ((Keep.refl h0 [o]).wr W2 (Or.inl (List.mem_of_getElem? (i := 0) rfl)))
  have Fw2 := F_l.same W2
  have f3 := (E_o.wr W2)
  have f4 := (F_u.other W2 (Or.inr (slot_ne (Or.inr (wd23 hw)) (Or.inr (wd21 hw)) (by decide) (t := (.array .double)) (t' := (.array .double)) (by decide) (by decide))))
  obtain ⟨T5, h5, X5, e5, W5, st5⟩ := putF X2 hx hZ hown (host := "") (Or.inl (wd22 hw)) Via.refl e2 f4 f3 (Or.inr ⟨(wd23 hw), rfl, hnm⟩) (wd12 hw) (ty := (.array .double)) (by decide) rfl rfl (g := (mkF m 11 #[.val (.ref o), .val (.ref la), .val (.ref ua)] [(.ref ua), (.ref o)])) rfl rfl (hb hby dd_prog_24_method_1_code_11)
  have N5 := Fr.snoc X5 N2 g_o
  have Z5 : n0 ≤ h5.size := by rw [W5.size]; exact Z2
  have K5 : Keep h0 h5 [o] := (K2.wr W5 (Or.inl (List.mem_of_getElem? (i := 0) rfl)))
  have Fw5 := f4.same W5
  obtain ⟨lfs, lhr, lhrun, lhended, lhW, lhsame⟩ := X5.leave (v := none) (fun _ => rfl)
  refine ⟨_, _, pre0 _ ?_, lhrun, lhended, _, _, rfl, ?_, ⟨_, rfl⟩, lhW, lhsame.mono (by decide) (by decide)⟩
  · skip
    show Steps p.tables e below (s₁.setTop (mkF m 0 #[.val (.ref o), .val (.ref la), .val (.ref ua)] [])) _
    refine XS.aloadN X0.here hx rfl (hb hby dd_prog_24_method_1_code_0) rfl rfl ?_
    show Steps p.tables e below (s₁.setTop (mkF m 1 #[.val (.ref o), .val (.ref la), .val (.ref ua)] [(.ref o)])) _
    refine st1 _ ?_
    show Steps p.tables e below (T1.setTop (mkF m 4 #[.val (.ref o), .val (.ref la), .val (.ref ua)] [])) _
    refine XS.aloadN X1.here hx rfl (hb hby dd_prog_24_method_1_code_4) rfl rfl ?_
    show Steps p.tables e below (T1.setTop (mkF m 5 #[.val (.ref o), .val (.ref la), .val (.ref ua)] [(.ref o)])) _
    refine XS.aloadN X1.here hx rfl (hb hby dd_prog_24_method_1_code_5) rfl rfl ?_
    show Steps p.tables e below (T1.setTop (mkF m 6 #[.val (.ref o), .val (.ref la), .val (.ref ua)] [(.ref la), (.ref o)])) _
    refine st2 _ ?_
    show Steps p.tables e below (T2.setTop (mkF m 9 #[.val (.ref o), .val (.ref la), .val (.ref ua)] [])) _
    refine XS.aloadN X2.here hx rfl (hb hby dd_prog_24_method_1_code_9) rfl rfl ?_
    show Steps p.tables e below (T2.setTop (mkF m 10 #[.val (.ref o), .val (.ref la), .val (.ref ua)] [(.ref o)])) _
    refine XS.aloadN X2.here hx rfl (hb hby dd_prog_24_method_1_code_10) rfl rfl ?_
    show Steps p.tables e below (T2.setTop (mkF m 11 #[.val (.ref o), .val (.ref la), .val (.ref ua)] [(.ref ua), (.ref o)])) _
    refine st5 _ ?_
    show Steps p.tables e below (T5.setTop (mkF m 14 #[.val (.ref o), .val (.ref la), .val (.ref ua)] [])) _
    exact X5.returnOut hx Bd.returns (hb hby dd_prog_24_method_1_code_14) lhr
  · skip
    show QIni Z o la ua u0 u1 h0 n0 _ T5.heap _
    rw [e5]
    have f6 := (f3.wr W5)
    have f7 := (Fw2.other W5 (Or.inr (slot_ne (Or.inr (wd21 hw)) (Or.inr (wd23 hw)) (by decide) (t := (.array .double)) (t' := (.array .double)) (by decide) (by decide))))
    exact ⟨rfl, N5, K5, f6, f7, Fw5⟩
theorem ef_Val (m : MethodId) (x0 : Addr) (x1 : Int32) : entryFrame m #[(.ref x0), (.int x1)] 6 = mkF m 0 #[.val (.ref x0), .val (.int x1), .unset, .unset, .unset, .unset] [] := by first | (simp [entryFrame, mkF, argsToLocals, Value.category]; done) | rfl
theorem dd_prog_24_method_4_code_0 : decode prog_24_method_4_code 0 = .ok (.aload_n 0, 1) := by decide +kernel
theorem dd_prog_24_method_4_code_1 : decode prog_24_method_4_code 1 = .ok (.getfield 7, 3) := by decide +kernel
theorem dd_prog_24_method_4_code_4 : decode prog_24_method_4_code 4 = .ok (.iload_n 1, 1) := by decide +kernel
theorem dd_prog_24_method_4_code_5 : decode prog_24_method_4_code 5 = .ok (.daload, 1) := by decide +kernel
theorem dd_prog_24_method_4_code_6 : decode prog_24_method_4_code 6 = .ok (.dstore_n 2, 1) := by decide +kernel
theorem dd_prog_24_method_4_code_7 : decode prog_24_method_4_code 7 = .ok (.aload_n 0, 1) := by decide +kernel
theorem dd_prog_24_method_4_code_8 : decode prog_24_method_4_code 8 = .ok (.getfield 13, 3) := by decide +kernel
theorem dd_prog_24_method_4_code_11 : decode prog_24_method_4_code 11 = .ok (.iload_n 1, 1) := by decide +kernel
theorem dd_prog_24_method_4_code_12 : decode prog_24_method_4_code 12 = .ok (.daload, 1) := by decide +kernel
theorem dd_prog_24_method_4_code_13 : decode prog_24_method_4_code 13 = .ok (.dstore 4, 2) := by decide +kernel
theorem dd_prog_24_method_4_code_15 : decode prog_24_method_4_code 15 = .ok (.dload_n 2, 1) := by decide +kernel
theorem dd_prog_24_method_4_code_16 : decode prog_24_method_4_code 16 = .ok (.dload 4, 2) := by decide +kernel
theorem dd_prog_24_method_4_code_18 : decode prog_24_method_4_code 18 = .ok (.dcmp .l, 1) := by decide +kernel
theorem dd_prog_24_method_4_code_19 : decode prog_24_method_4_code 19 = .ok (.ifCond .ne 7, 3) := by decide +kernel
theorem dd_prog_24_method_4_code_22 : decode prog_24_method_4_code 22 = .ok (.dload_n 2, 1) := by decide +kernel
theorem dd_prog_24_method_4_code_23 : decode prog_24_method_4_code 23 = .ok (.goto 13, 3) := by decide +kernel
theorem dd_prog_24_method_4_code_36 : decode prog_24_method_4_code 36 = .ok (.dreturn, 1) := by decide +kernel
theorem dd_prog_24_method_4_code_26 : decode prog_24_method_4_code 26 = .ok (.dload_n 2, 1) := by decide +kernel
theorem dd_prog_24_method_4_code_27 : decode prog_24_method_4_code 27 = .ok (.dload 4, 2) := by decide +kernel
theorem dd_prog_24_method_4_code_29 : decode prog_24_method_4_code 29 = .ok (.dload_n 2, 1) := by decide +kernel
theorem dd_prog_24_method_4_code_30 : decode prog_24_method_4_code 30 = .ok (.dsub, 1) := by decide +kernel
theorem dd_prog_24_method_4_code_31 : decode prog_24_method_4_code 31 = .ok (.ldc2_w 16, 3) := by decide +kernel
theorem dd_prog_24_method_4_code_34 : decode prog_24_method_4_code 34 = .ok (.ddiv, 1) := by decide +kernel
theorem dd_prog_24_method_4_code_35 : decode prog_24_method_4_code 35 = .ok (.dadd, 1) := by decide +kernel
def QVal (Z : State) (o : Addr) (j0 : Int32) (la : Addr) (ua : Addr) (kl : ClassId) (ku : ClassId) (vs : List Value) (us : List Value) (lw : UInt64) (hg : UInt64) (h0 : Heap) (n0 : Nat) (v : Option Value) (h : Heap) (L : List Loc) : Prop := v = some (.double (own_val lw hg)) ∧ Fr n0 L ∧ h = h0
set_option maxRecDepth 65536 in
set_option maxHeartbeats 40000000 in
theorem rmVal (l : Launch) (Z : State) (a0 : Array Value) (hw : ∀ d ∈ tables_1, d.before a0 Z = true) (ws : List Jvm.Cond) (o : Addr) (j0 : Int32) (la : Addr) (ua : Addr) (kl : ClassId) (ku : ClassId) (vs : List Value) (us : List Value) (lw : UInt64) (hg : UInt64) (h0 : Heap) (n0 : Nat) (Z0 : n0 ≤ h0.size) (F_l : Fld Z h0 o "com/example/formula_to_strategy/formulatostrategy/engine/ValueBounds" "lower" "[D" (.ref la)) (F_u : Fld Z h0 o "com/example/formula_to_strategy/formulatostrategy/engine/ValueBounds" "upper" "[D" (.ref ua)) (V_l : Arv Z h0 la kl .double (3 : Int32) vs (.double (0 : UInt64))) (V_u : Arv Z h0 ua ku .double (3 : Int32) us (.double (0 : UInt64))) (hj : ¬ j0 < 0 ∧ j0 < (3 : Int32)) (el : vs.getD j0.toNatClampNeg (.double (0 : UInt64)) = .double lw) (eu : us.getD j0.toNatClampNeg (.double (0 : UInt64)) = .double hg) (nn : ¬ cmpValue (FP.dcmp lw hg) .l = 0 → own_vn lw hg) :
    MetFree l (⟨"com/example/formula_to_strategy/formulatostrategy/engine/ValueBounds", "value", "(I)D"⟩ : MethodName) (head1 (Jvm.Cond.code (⟨"com/example/formula_to_strategy/formulatostrategy/engine/ValueBounds", "value", "(I)D"⟩ : MethodName) prog_24_method_4_code 6 (some .double) :: ws) ({ frames := 0, cells := 0, slots := 0, locals := 0 } : Room)) (fun a U => a = #[(.ref o), (.int j0)] ∧ Z.Warmed39 U.vm ∧ U.heap = h0) (fun _ _ _ _ _ => True) (fun _ U oc_ U' => ∃ v L, oc_ = .returned v ∧ QVal Z o j0 la ua kl ku vs us lw hg h0 n0 v U'.heap L ∧ FrameEnd U oc_ U' L ({ frames := 0, cells := 0, slots := 0, locals := 0 } : Room).cells ({ frames := 0, cells := 0, slots := 0, locals := 0 } : Room).slots) := by
  refine MetFree.of_bodySF (plainFor_of_name pn_com_example_formula_to_strategy_formulatostrategy_engine_ValueBounds) hisR ?_
  intro p e s m args below meth c s₁ Bd hml0 hP hK
  obtain ⟨rfl, hZ, hh⟩ := hP
  have hx := Bd.exec
  have hby := Bd.bytes
  have hml : c.maxLocals = 6 := hml0
  have hown : s.vm.findClass "com/example/formula_to_strategy/formulatostrategy/engine/ValueBounds" = some m.cls := findClass_of_methodNamed Bd.named
  have hnm := (name_of_methodNamed Bd.named Bd.method).1
  have X0 : Stand p l e ({ frames := 0, cells := 0, slots := 0, locals := 0 } : Room) s m #[(.ref o), (.int j0)] below meth c s₁ [] 0 0 := Stand.of_body Bd
  have e0 : s₁.heap = h0 := by rw [← hh, Bd.state]; rfl
  have N0 := Fr.nil n0
  have pre0 : ∀ t, Steps p.tables e below (s₁.setTop (mkF m 0 #[.val (.ref o), .val (.int j0), .unset, .unset, .unset, .unset] [])) t → Steps p.tables e below (s₁.setTop (entryFrame m #[(.ref o), (.int j0)] 6)) t := fun t k => castTop (ef_Val m o j0) k
  obtain ⟨T1, X1, e1, st1⟩ := getF X0 hx hZ hown (host := "") (Or.inl (wd20 hw)) Via.refl e0 F_l (g := (mkF m 1 #[.val (.ref o), .val (.int j0), .unset, .unset, .unset, .unset] [(.ref o)])) rfl rfl (hb hby dd_prog_24_method_4_code_1)
  obtain ⟨cl2, Ar2, q2, S2, M2, HH2, GG2⟩ := id V_l
  have hin2 : ¬ (j0 < 0 ∨ cl2.slots.size ≤ (j0).toNatClampNeg) := inb_of S2 hj
  have hat2 : cl2.slots[(j0).toNatClampNeg]? = some (.double lw) := Has.at HH2 hin2 el
  obtain ⟨T3, X3, e3, st3⟩ := getF X1 hx hZ hown (host := "") (Or.inl (wd22 hw)) Via.refl e1 F_u (g := (mkF m 8 #[.val (.ref o), .val (.int j0), .val (.double lw), .second, .unset, .unset] [(.ref o)])) rfl rfl (hb hby dd_prog_24_method_4_code_8)
  obtain ⟨cl4, Ar4, q4, S4, M4, HH4, GG4⟩ := id V_u
  have hin4 : ¬ (j0 < 0 ∨ cl4.slots.size ≤ (j0).toNatClampNeg) := inb_of S4 hj
  have hat4 : cl4.slots[(j0).toNatClampNeg]? = some (.double hg) := Has.at HH4 hin4 eu
  have k5 : ∀ t, Steps p.tables e below (T3.setTop (mkF m 19 #[.val (.ref o), .val (.int j0), .val (.double lw), .second, .val (.double hg), .second] [(.int (cmpValue (FP.dcmp lw hg) .l))])) t → Steps p.tables e below (s₁.setTop (entryFrame m #[(.ref o), (.int j0)] 6)) t := by
    intro t kt
    refine pre0 t ?_
    show Steps p.tables e below (s₁.setTop (mkF m 0 #[.val (.ref o), .val (.int j0), .unset, .unset, .unset, .unset] [])) _
    refine XS.aloadN X0.here hx rfl (hb hby dd_prog_24_method_4_code_0) rfl rfl ?_
    show Steps p.tables e below (s₁.setTop (mkF m 1 #[.val (.ref o), .val (.int j0), .unset, .unset, .unset, .unset] [(.ref o)])) _
    refine st1 _ ?_
    show Steps p.tables e below (T1.setTop (mkF m 4 #[.val (.ref o), .val (.int j0), .unset, .unset, .unset, .unset] [(.ref la)])) _
    refine XS.iloadN X1.here hx rfl (hb hby dd_prog_24_method_4_code_4) rfl ?_
    show Steps p.tables e below (T1.setTop (mkF m 5 #[.val (.ref o), .val (.int j0), .unset, .unset, .unset, .unset] [(.int j0), (.ref la)])) _
    refine X1.daload hx (j := j0) (v := (.double lw)) (by (try rw [e1]); exact Ar2.1) (State.isArrayOf_alike hZ.alike Ar2.2.1) Ar2.2.2 hin2 hat2 (g := (mkF m 5 #[.val (.ref o), .val (.int j0), .unset, .unset, .unset, .unset] [(.int j0), (.ref la)])) rfl rfl (hb hby dd_prog_24_method_4_code_5) _ ?_
    show Steps p.tables e below (T1.setTop (mkF m 6 #[.val (.ref o), .val (.int j0), .unset, .unset, .unset, .unset] [(.double lw)])) _
    refine XS.dstoreN X1.here hx rfl (hb hby dd_prog_24_method_4_code_6) rfl (l' := #[.val (.ref o), .val (.int j0), .val (.double lw), .second, .unset, .unset]) rfl ?_
    show Steps p.tables e below (T1.setTop (mkF m 7 #[.val (.ref o), .val (.int j0), .val (.double lw), .second, .unset, .unset] [])) _
    refine XS.aloadN X1.here hx rfl (hb hby dd_prog_24_method_4_code_7) rfl rfl ?_
    show Steps p.tables e below (T1.setTop (mkF m 8 #[.val (.ref o), .val (.int j0), .val (.double lw), .second, .unset, .unset] [(.ref o)])) _
    refine st3 _ ?_
    show Steps p.tables e below (T3.setTop (mkF m 11 #[.val (.ref o), .val (.int j0), .val (.double lw), .second, .unset, .unset] [(.ref ua)])) _
    refine XS.iloadN X3.here hx rfl (hb hby dd_prog_24_method_4_code_11) rfl ?_
    show Steps p.tables e below (T3.setTop (mkF m 12 #[.val (.ref o), .val (.int j0), .val (.double lw), .second, .unset, .unset] [(.int j0), (.ref ua)])) _
    refine X3.daload hx (j := j0) (v := (.double hg)) (by (try rw [e3]); exact Ar4.1) (State.isArrayOf_alike hZ.alike Ar4.2.1) Ar4.2.2 hin4 hat4 (g := (mkF m 12 #[.val (.ref o), .val (.int j0), .val (.double lw), .second, .unset, .unset] [(.int j0), (.ref ua)])) rfl rfl (hb hby dd_prog_24_method_4_code_12) _ ?_
    show Steps p.tables e below (T3.setTop (mkF m 13 #[.val (.ref o), .val (.int j0), .val (.double lw), .second, .unset, .unset] [(.double hg)])) _
    refine XS.dstore X3.here hx rfl (hb hby dd_prog_24_method_4_code_13) rfl (l' := #[.val (.ref o), .val (.int j0), .val (.double lw), .second, .val (.double hg), .second]) rfl ?_
    show Steps p.tables e below (T3.setTop (mkF m 15 #[.val (.ref o), .val (.int j0), .val (.double lw), .second, .val (.double hg), .second] [])) _
    refine XS.dloadN X3.here hx rfl (hb hby dd_prog_24_method_4_code_15) rfl ?_
    show Steps p.tables e below (T3.setTop (mkF m 16 #[.val (.ref o), .val (.int j0), .val (.double lw), .second, .val (.double hg), .second] [(.double lw)])) _
    refine XS.dload X3.here hx rfl (hb hby dd_prog_24_method_4_code_16) rfl ?_
    show Steps p.tables e below (T3.setTop (mkF m 18 #[.val (.ref o), .val (.int j0), .val (.double lw), .second, .val (.double hg), .second] [(.double hg), (.double lw)])) _
    refine XS.dcmpS X3.here hx rfl (hb hby dd_prog_24_method_4_code_18) rfl rfl ?_
    exact kt
  by_cases hc6 : (cmpValue (FP.dcmp lw hg) .l) = (0 : Int32)
  · skip
    obtain ⟨lfs, lhr, lhrun, lhended, lhW, lhsame⟩ := X3.leave (v := some (.double lw)) (fun h => by rw [Bd.returns] at h; cases h)
    refine ⟨_, _, k5 _ ?_, lhrun, lhended, _, _, rfl, ?_, ⟨_, rfl⟩, lhW, lhsame.mono (by decide) (by decide)⟩
    · skip
      show Steps p.tables e below (T3.setTop (mkF m 19 #[.val (.ref o), .val (.int j0), .val (.double lw), .second, .val (.double hg), .second] [(.int (cmpValue (FP.dcmp lw hg) .l))])) _
      refine XS.ifNo X3.here hx rfl (hb hby dd_prog_24_method_4_code_19) rfl ((if0 _ _).trans (teq hc6).2) ?_
      show Steps p.tables e below (T3.setTop (mkF m 22 #[.val (.ref o), .val (.int j0), .val (.double lw), .second, .val (.double hg), .second] [])) _
      refine XS.dloadN X3.here hx rfl (hb hby dd_prog_24_method_4_code_22) rfl ?_
      show Steps p.tables e below (T3.setTop (mkF m 23 #[.val (.ref o), .val (.int j0), .val (.double lw), .second, .val (.double hg), .second] [(.double lw)])) _
      refine XS.goto X3.here hx rfl (pc0 := 23) (pc' := 36) rfl (hb hby dd_prog_24_method_4_code_23) (by decide) (by decide) ?_
      show Steps p.tables e below (T3.setTop (mkF m 36 #[.val (.ref o), .val (.int j0), .val (.double lw), .second, .val (.double hg), .second] [(.double lw)])) _
      exact retOut X3 hx Bd.returns rfl (Or.inr (Or.inr (Or.inl ⟨rfl, rfl, _, rfl⟩))) (hb hby dd_prog_24_method_4_code_36) lhr
    · skip
      show QVal Z o j0 la ua kl ku vs us lw hg h0 n0 _ T3.heap _
      rw [e3]
      refine ⟨?_, N0, rfl⟩
      simp only [own_val, if_pos hc6]
  · skip
    obtain ⟨lfs, lhr, lhrun, lhended, lhW, lhsame⟩ := X3.leave (v := some (.double (FP.dadd lw (FP.ddiv (FP.dsub hg lw) (4611686018427387904 : UInt64))))) (fun h => by rw [Bd.returns] at h; cases h)
    refine ⟨_, _, k5 _ ?_, lhrun, lhended, _, _, rfl, ?_, ⟨_, rfl⟩, lhW, lhsame.mono (by decide) (by decide)⟩
    · skip
      show Steps p.tables e below (T3.setTop (mkF m 19 #[.val (.ref o), .val (.int j0), .val (.double lw), .second, .val (.double hg), .second] [(.int (cmpValue (FP.dcmp lw hg) .l))])) _
      refine XS.ifYes X3.here hx rfl (pc0 := 19) (pc' := 26) rfl (hb hby dd_prog_24_method_4_code_19) rfl ((if0 _ _).trans (feq hc6).2) (by decide) (by decide) ?_
      show Steps p.tables e below (T3.setTop (mkF m 26 #[.val (.ref o), .val (.int j0), .val (.double lw), .second, .val (.double hg), .second] [])) _
      refine XS.dloadN X3.here hx rfl (hb hby dd_prog_24_method_4_code_26) rfl ?_
      show Steps p.tables e below (T3.setTop (mkF m 27 #[.val (.ref o), .val (.int j0), .val (.double lw), .second, .val (.double hg), .second] [(.double lw)])) _
      refine XS.dload X3.here hx rfl (hb hby dd_prog_24_method_4_code_27) rfl ?_
      show Steps p.tables e below (T3.setTop (mkF m 29 #[.val (.ref o), .val (.int j0), .val (.double lw), .second, .val (.double hg), .second] [(.double hg), (.double lw)])) _
      refine XS.dloadN X3.here hx rfl (hb hby dd_prog_24_method_4_code_29) rfl ?_
      show Steps p.tables e below (T3.setTop (mkF m 30 #[.val (.ref o), .val (.int j0), .val (.double lw), .second, .val (.double hg), .second] [(.double lw), (.double hg), (.double lw)])) _
      refine XS.dsubS X3.here hx rfl (hb hby dd_prog_24_method_4_code_30) rfl (nn hc6).1 rfl ?_
      show Steps p.tables e below (T3.setTop (mkF m 31 #[.val (.ref o), .val (.int j0), .val (.double lw), .second, .val (.double hg), .second] [(.double (FP.dsub hg lw)), (.double lw)])) _
      refine X3.ldc2DoubleC hx hown (mvT hZ (wd29 hw)) (g := (mkF m 31 #[.val (.ref o), .val (.int j0), .val (.double lw), .second, .val (.double hg), .second] [(.double (FP.dsub hg lw)), (.double lw)])) rfl (hb hby dd_prog_24_method_4_code_31) _ ?_
      show Steps p.tables e below (T3.setTop (mkF m 34 #[.val (.ref o), .val (.int j0), .val (.double lw), .second, .val (.double hg), .second] [(.double (4611686018427387904 : UInt64)), (.double (FP.dsub hg lw)), (.double lw)])) _
      refine XS.ddivS X3.here hx rfl (hb hby dd_prog_24_method_4_code_34) rfl (nn hc6).2.1 rfl ?_
      show Steps p.tables e below (T3.setTop (mkF m 35 #[.val (.ref o), .val (.int j0), .val (.double lw), .second, .val (.double hg), .second] [(.double (FP.ddiv (FP.dsub hg lw) (4611686018427387904 : UInt64))), (.double lw)])) _
      refine XS.daddS X3.here hx rfl (hb hby dd_prog_24_method_4_code_35) rfl (nn hc6).2.2 rfl ?_
      show Steps p.tables e below (T3.setTop (mkF m 36 #[.val (.ref o), .val (.int j0), .val (.double lw), .second, .val (.double hg), .second] [(.double (FP.dadd lw (FP.ddiv (FP.dsub hg lw) (4611686018427387904 : UInt64))))])) _
      exact retOut X3 hx Bd.returns rfl (Or.inr (Or.inr (Or.inl ⟨rfl, rfl, _, rfl⟩))) (hb hby dd_prog_24_method_4_code_36) lhr
    · skip
      show QVal Z o j0 la ua kl ku vs us lw hg h0 n0 _ T3.heap _
      rw [e3]
      refine ⟨?_, N0, rfl⟩
      simp only [own_val, if_neg hc6]
theorem ef_0 (m : MethodId) (x0 : Int32) (x1 : Int32) (x2 : Int32) (x3 : Int32) : entryFrame m #[(.int x0), (.int x1), (.int x2), (.int x3)] maxLocals = mkF m 0 #[.val (.int x0), .val (.int x1), .val (.int x2), .val (.int x3), .unset, .unset, .unset, .unset, .unset, .unset, .unset, .unset, .unset, .unset, .unset, .unset, .unset, .unset, .unset, .unset, .unset] [] := by first | (simp [entryFrame, mkF, argsToLocals, Value.category, maxLocals]; done) | rfl
theorem pn_com_example_formula_to_strategy_formulatostrategy_engine_ValueBoundsValuePinLaw : plainName "com/example/formula_to_strategy/formulatostrategy/engine/ValueBoundsValuePinLaw" = true := by first | (simp [plainName, overriddenIn]; done) | decide +kernel
theorem pd__II_I : parseMethodDescriptor "(II)I" = some ⟨[.int, .int], some .int⟩ := by decide +kernel
theorem pd___D_D_V : parseMethodDescriptor "([D[D)V" = some ⟨[(.array .double), (.array .double)], none⟩ := by decide +kernel
theorem pd__I_D : parseMethodDescriptor "(I)D" = some ⟨[.int], some .double⟩ := by decide +kernel
def Q0 (Z : State) (x0 : Int32) (x1 : Int32) (x2 : Int32) (x3 : Int32) (h0 : Heap) (n0 : Nat) (v : Option Value) (h : Heap) (L : List Loc) : Prop := v = some (.int 1) ∧ Fr n0 L
set_option maxRecDepth 65536 in
set_option maxHeartbeats 40000000 in
theorem rm0 (l : Launch) (Z : State) (a0 : Array Value) (hw : ∀ d ∈ tables_1, d.before a0 Z = true) (ws : List Jvm.Cond) (x0 : Int32) (x1 : Int32) (x2 : Int32) (x3 : Int32) (h0 : Heap) (n0 : Nat) (Z0 : n0 ≤ h0.size) :
    MetFree l x (head1 (Jvm.Cond.code x code maxLocals ret :: ws) room_1) (fun a U => a = #[(.int x0), (.int x1), (.int x2), (.int x3)] ∧ Z.Warmed39 U.vm ∧ U.heap = h0) (fun _ _ _ _ _ => True) (fun _ U oc_ U' => ∃ v L, oc_ = .returned v ∧ Q0 Z x0 x1 x2 x3 h0 n0 v U'.heap L ∧ FrameEnd U oc_ U' L 16 128) := by
  refine MetFree.of_bodySF (plainFor_of_name pn_com_example_formula_to_strategy_formulatostrategy_engine_ValueBoundsValuePinLaw) hisR ?_
  intro p e s m args below meth c s₁ Bd hml0 hP hK
  obtain ⟨rfl, hZ, hh⟩ := hP
  have hx := Bd.exec
  have hby := Bd.bytes
  have hml : c.maxLocals = 21 := hml0
  have hown : s.vm.findClass "com/example/formula_to_strategy/formulatostrategy/engine/ValueBoundsValuePinLaw" = some m.cls := findClass_of_methodNamed Bd.named
  have hnm := (name_of_methodNamed Bd.named Bd.method).1
  have X0 : Stand p l e room_1 s m #[(.int x0), (.int x1), (.int x2), (.int x3)] below meth c s₁ [] 0 0 := Stand.of_body Bd
  have e0 : s₁.heap = h0 := by rw [← hh, Bd.state]; rfl
  have N0 := Fr.nil n0
  have pre0 : ∀ t, Steps p.tables e below (s₁.setTop (mkF m 0 #[.val (.int x0), .val (.int x1), .val (.int x2), .val (.int x3), .unset, .unset, .unset, .unset, .unset, .unset, .unset, .unset, .unset, .unset, .unset, .unset, .unset, .unset, .unset, .unset, .unset] [])) t → Steps p.tables e below (s₁.setTop (entryFrame m #[(.int x0), (.int x1), (.int x2), (.int x3)] maxLocals)) t := fun t k => castTop (ef_0 m x0 x1 x2 x3) k
  obtain ⟨_, _, ⟨T1, L1, kc1, ks1⟩, -, X1, ⟨Lc1, hQ1, l1, y1, z1⟩, st1⟩ := Jvm.LawKit.callS X0 hx (y := (⟨"java/lang/Math", "min", "(II)I"⟩ : MethodName)) hown (mvT hZ (wd2 hw)) (mvT hZ (wd3 hw)) (mvT hZ (wd4 hw)) (mvT hZ (wd5 hw)) (by decide) (backOf (W := 0) (rmMinI l Z a0 hw [] x0 x1 h0 n0 Z0) hZ (wd5 hw) (wd4 hw) (by decide) (by decide)) (g := (mkF m 21 #[.val (.int x0), .val (.int x1), .val (.int x2), .val (.int x3), .val (.int ((x2 &&& (2147483647 : Int32)) % (3 : Int32))), .val (.int (x3 &&& (7 : Int32))), .val (.double (9218868437227405312 : UInt64)), .second, .unset, .unset, .unset, .unset, .unset, .unset, .unset, .unset, .unset, .unset, .unset, .unset, .unset] [(.int x1), (.int x0)])) rfl (by rw [hml]; rfl) (argsL := [(.int x0), (.int x1)]) (rest := []) (lenOf pd__II_I rfl) rfl (by show 2 * 0 + _ ≤ _; exact Nat.le_of_eq rfl) (hb hby at_21) (fun _ _ => ⟨rfl, e0, (by decide : 0 + 0 ≤ _), (by decide : 0 + 0 ≤ _)⟩)
  dsimp only [Pt.U, Pt.locs, Pt.cells, Pt.slots] at X1 l1 y1 z1 st1 hQ1
  subst l1 y1 z1
  obtain ⟨rfl, Nq1, eq1⟩ := hQ1
  have N1 := Fr.app N0 Nq1
  obtain ⟨_, _, ⟨T2, L2, kc2, ks2⟩, -, X2, ⟨Lc2, hQ2, l2, y2, z2⟩, st2⟩ := Jvm.LawKit.callS X1 hx (y := (⟨"java/lang/Math", "max", "(II)I"⟩ : MethodName)) hown (mvT hZ (wd6 hw)) (mvT hZ (wd7 hw)) (mvT hZ (wd4 hw)) (mvT hZ (wd8 hw)) (by decide) (backOf (W := 0) (rmMaxI l Z a0 hw [] x0 x1 h0 n0 Z0) hZ (wd8 hw) (wd4 hw) (by decide) (by decide)) (g := (mkF m 28 #[.val (.int x0), .val (.int x1), .val (.int x2), .val (.int x3), .val (.int ((x2 &&& (2147483647 : Int32)) % (3 : Int32))), .val (.int (x3 &&& (7 : Int32))), .val (.double (9218868437227405312 : UInt64)), .second, .val (.int (own_min x0 x1)), .unset, .unset, .unset, .unset, .unset, .unset, .unset, .unset, .unset, .unset, .unset, .unset] [(.int x1), (.int x0)])) rfl (by rw [hml]; rfl) (argsL := [(.int x0), (.int x1)]) (rest := []) (lenOf pd__II_I rfl) rfl (by show 2 * 0 + _ ≤ _; exact Nat.le_of_eq rfl) (hb hby at_28) (fun _ _ => ⟨rfl, eq1, (by decide : 0 + 0 ≤ _), (by decide : 0 + 0 ≤ _)⟩)
  dsimp only [Pt.U, Pt.locs, Pt.cells, Pt.slots] at X2 l2 y2 z2 st2 hQ2
  subst l2 y2 z2
  obtain ⟨rfl, Nq2, eq2⟩ := hQ2
  have N2 := Fr.app N1 Nq2
  have k3 : ∀ t, Steps p.tables e below (T2.setTop (mkF m 33 #[.val (.int x0), .val (.int x1), .val (.int x2), .val (.int x3), .val (.int ((x2 &&& (2147483647 : Int32)) % (3 : Int32))), .val (.int (x3 &&& (7 : Int32))), .val (.double (9218868437227405312 : UInt64)), .second, .val (.int (own_min x0 x1)), .val (.int (own_max x0 x1)), .unset, .unset, .unset, .unset, .unset, .unset, .unset, .unset, .unset, .unset, .unset] [])) t → Steps p.tables e below (s₁.setTop (entryFrame m #[(.int x0), (.int x1), (.int x2), (.int x3)] maxLocals)) t := by
    intro t kt
    refine pre0 t ?_
    show Steps p.tables e below (s₁.setTop (mkF m 0 #[.val (.int x0), .val (.int x1), .val (.int x2), .val (.int x3), .unset, .unset, .unset, .unset, .unset, .unset, .unset, .unset, .unset, .unset, .unset, .unset, .unset, .unset, .unset, .unset, .unset] [])) _
    refine XS.iloadN X0.here hx rfl (hb hby at_0) rfl ?_
    show Steps p.tables e below (s₁.setTop (mkF m 1 #[.val (.int x0), .val (.int x1), .val (.int x2), .val (.int x3), .unset, .unset, .unset, .unset, .unset, .unset, .unset, .unset, .unset, .unset, .unset, .unset, .unset, .unset, .unset, .unset, .unset] [(.int x2)])) _
    refine X0.ldcInt hx hown (mvT hZ (wd0 hw)) (g := (mkF m 1 #[.val (.int x0), .val (.int x1), .val (.int x2), .val (.int x3), .unset, .unset, .unset, .unset, .unset, .unset, .unset, .unset, .unset, .unset, .unset, .unset, .unset, .unset, .unset, .unset, .unset] [(.int x2)])) rfl (hb hby at_1) _ ?_
    show Steps p.tables e below (s₁.setTop (mkF m 3 #[.val (.int x0), .val (.int x1), .val (.int x2), .val (.int x3), .unset, .unset, .unset, .unset, .unset, .unset, .unset, .unset, .unset, .unset, .unset, .unset, .unset, .unset, .unset, .unset, .unset] [(.int (2147483647 : Int32)), (.int x2)])) _
    refine XS.iand X0.here hx rfl (hb hby at_3) rfl ?_
    show Steps p.tables e below (s₁.setTop (mkF m 4 #[.val (.int x0), .val (.int x1), .val (.int x2), .val (.int x3), .unset, .unset, .unset, .unset, .unset, .unset, .unset, .unset, .unset, .unset, .unset, .unset, .unset, .unset, .unset, .unset, .unset] [(.int (x2 &&& (2147483647 : Int32)))])) _
    refine XS.iconst X0.here hx rfl (hb hby at_4) ?_
    show Steps p.tables e below (s₁.setTop (mkF m 5 #[.val (.int x0), .val (.int x1), .val (.int x2), .val (.int x3), .unset, .unset, .unset, .unset, .unset, .unset, .unset, .unset, .unset, .unset, .unset, .unset, .unset, .unset, .unset, .unset, .unset] [(.int (3 : Int32)), (.int (x2 &&& (2147483647 : Int32)))])) _
    refine iremM X0 hx rfl (hb hby at_5) rfl (by decide) ?_
    show Steps p.tables e below (s₁.setTop (mkF m 6 #[.val (.int x0), .val (.int x1), .val (.int x2), .val (.int x3), .unset, .unset, .unset, .unset, .unset, .unset, .unset, .unset, .unset, .unset, .unset, .unset, .unset, .unset, .unset, .unset, .unset] [(.int ((x2 &&& (2147483647 : Int32)) % (3 : Int32)))])) _
    refine XS.istore X0.here hx rfl (hb hby at_6) rfl (l' := #[.val (.int x0), .val (.int x1), .val (.int x2), .val (.int x3), .val (.int ((x2 &&& (2147483647 : Int32)) % (3 : Int32))), .unset, .unset, .unset, .unset, .unset, .unset, .unset, .unset, .unset, .unset, .unset, .unset, .unset, .unset, .unset, .unset]) rfl ?_
    show Steps p.tables e below (s₁.setTop (mkF m 8 #[.val (.int x0), .val (.int x1), .val (.int x2), .val (.int x3), .val (.int ((x2 &&& (2147483647 : Int32)) % (3 : Int32))), .unset, .unset, .unset, .unset, .unset, .unset, .unset, .unset, .unset, .unset, .unset, .unset, .unset, .unset, .unset, .unset] [])) _
    refine XS.iloadN X0.here hx rfl (hb hby at_8) rfl ?_
    show Steps p.tables e below (s₁.setTop (mkF m 9 #[.val (.int x0), .val (.int x1), .val (.int x2), .val (.int x3), .val (.int ((x2 &&& (2147483647 : Int32)) % (3 : Int32))), .unset, .unset, .unset, .unset, .unset, .unset, .unset, .unset, .unset, .unset, .unset, .unset, .unset, .unset, .unset, .unset] [(.int x3)])) _
    refine XS.bipush X0.here hx rfl (hb hby at_9) ?_
    show Steps p.tables e below (s₁.setTop (mkF m 11 #[.val (.int x0), .val (.int x1), .val (.int x2), .val (.int x3), .val (.int ((x2 &&& (2147483647 : Int32)) % (3 : Int32))), .unset, .unset, .unset, .unset, .unset, .unset, .unset, .unset, .unset, .unset, .unset, .unset, .unset, .unset, .unset, .unset] [(.int (7 : Int32)), (.int x3)])) _
    refine XS.iand X0.here hx rfl (hb hby at_11) rfl ?_
    show Steps p.tables e below (s₁.setTop (mkF m 12 #[.val (.int x0), .val (.int x1), .val (.int x2), .val (.int x3), .val (.int ((x2 &&& (2147483647 : Int32)) % (3 : Int32))), .unset, .unset, .unset, .unset, .unset, .unset, .unset, .unset, .unset, .unset, .unset, .unset, .unset, .unset, .unset, .unset] [(.int (x3 &&& (7 : Int32)))])) _
    refine XS.istore X0.here hx rfl (hb hby at_12) rfl (l' := #[.val (.int x0), .val (.int x1), .val (.int x2), .val (.int x3), .val (.int ((x2 &&& (2147483647 : Int32)) % (3 : Int32))), .val (.int (x3 &&& (7 : Int32))), .unset, .unset, .unset, .unset, .unset, .unset, .unset, .unset, .unset, .unset, .unset, .unset, .unset, .unset, .unset]) rfl ?_
    show Steps p.tables e below (s₁.setTop (mkF m 14 #[.val (.int x0), .val (.int x1), .val (.int x2), .val (.int x3), .val (.int ((x2 &&& (2147483647 : Int32)) % (3 : Int32))), .val (.int (x3 &&& (7 : Int32))), .unset, .unset, .unset, .unset, .unset, .unset, .unset, .unset, .unset, .unset, .unset, .unset, .unset, .unset, .unset] [])) _
    refine X0.ldc2DoubleC hx hown (mvT hZ (wd1 hw)) (g := (mkF m 14 #[.val (.int x0), .val (.int x1), .val (.int x2), .val (.int x3), .val (.int ((x2 &&& (2147483647 : Int32)) % (3 : Int32))), .val (.int (x3 &&& (7 : Int32))), .unset, .unset, .unset, .unset, .unset, .unset, .unset, .unset, .unset, .unset, .unset, .unset, .unset, .unset, .unset] [])) rfl (hb hby at_14) _ ?_
    show Steps p.tables e below (s₁.setTop (mkF m 17 #[.val (.int x0), .val (.int x1), .val (.int x2), .val (.int x3), .val (.int ((x2 &&& (2147483647 : Int32)) % (3 : Int32))), .val (.int (x3 &&& (7 : Int32))), .unset, .unset, .unset, .unset, .unset, .unset, .unset, .unset, .unset, .unset, .unset, .unset, .unset, .unset, .unset] [(.double (9218868437227405312 : UInt64))])) _
    refine XS.dstore X0.here hx rfl (hb hby at_17) rfl (l' := #[.val (.int x0), .val (.int x1), .val (.int x2), .val (.int x3), .val (.int ((x2 &&& (2147483647 : Int32)) % (3 : Int32))), .val (.int (x3 &&& (7 : Int32))), .val (.double (9218868437227405312 : UInt64)), .second, .unset, .unset, .unset, .unset, .unset, .unset, .unset, .unset, .unset, .unset, .unset, .unset, .unset]) rfl ?_
    show Steps p.tables e below (s₁.setTop (mkF m 19 #[.val (.int x0), .val (.int x1), .val (.int x2), .val (.int x3), .val (.int ((x2 &&& (2147483647 : Int32)) % (3 : Int32))), .val (.int (x3 &&& (7 : Int32))), .val (.double (9218868437227405312 : UInt64)), .second, .unset, .unset, .unset, .unset, .unset, .unset, .unset, .unset, .unset, .unset, .unset, .unset, .unset] [])) _
    refine XS.iloadN X0.here hx rfl (hb hby at_19) rfl ?_
    show Steps p.tables e below (s₁.setTop (mkF m 20 #[.val (.int x0), .val (.int x1), .val (.int x2), .val (.int x3), .val (.int ((x2 &&& (2147483647 : Int32)) % (3 : Int32))), .val (.int (x3 &&& (7 : Int32))), .val (.double (9218868437227405312 : UInt64)), .second, .unset, .unset, .unset, .unset, .unset, .unset, .unset, .unset, .unset, .unset, .unset, .unset, .unset] [(.int x0)])) _
    refine XS.iloadN X0.here hx rfl (hb hby at_20) rfl ?_
    show Steps p.tables e below (s₁.setTop (mkF m 21 #[.val (.int x0), .val (.int x1), .val (.int x2), .val (.int x3), .val (.int ((x2 &&& (2147483647 : Int32)) % (3 : Int32))), .val (.int (x3 &&& (7 : Int32))), .val (.double (9218868437227405312 : UInt64)), .second, .unset, .unset, .unset, .unset, .unset, .unset, .unset, .unset, .unset, .unset, .unset, .unset, .unset] [(.int x1), (.int x0)])) _
    refine st1 _ ?_
    show Steps p.tables e below (T1.setTop (mkF m 24 #[.val (.int x0), .val (.int x1), .val (.int x2), .val (.int x3), .val (.int ((x2 &&& (2147483647 : Int32)) % (3 : Int32))), .val (.int (x3 &&& (7 : Int32))), .val (.double (9218868437227405312 : UInt64)), .second, .unset, .unset, .unset, .unset, .unset, .unset, .unset, .unset, .unset, .unset, .unset, .unset, .unset] [(.int (own_min x0 x1))])) _
    refine XS.istore X1.here hx rfl (hb hby at_24) rfl (l' := #[.val (.int x0), .val (.int x1), .val (.int x2), .val (.int x3), .val (.int ((x2 &&& (2147483647 : Int32)) % (3 : Int32))), .val (.int (x3 &&& (7 : Int32))), .val (.double (9218868437227405312 : UInt64)), .second, .val (.int (own_min x0 x1)), .unset, .unset, .unset, .unset, .unset, .unset, .unset, .unset, .unset, .unset, .unset, .unset]) rfl ?_
    show Steps p.tables e below (T1.setTop (mkF m 26 #[.val (.int x0), .val (.int x1), .val (.int x2), .val (.int x3), .val (.int ((x2 &&& (2147483647 : Int32)) % (3 : Int32))), .val (.int (x3 &&& (7 : Int32))), .val (.double (9218868437227405312 : UInt64)), .second, .val (.int (own_min x0 x1)), .unset, .unset, .unset, .unset, .unset, .unset, .unset, .unset, .unset, .unset, .unset, .unset] [])) _
    refine XS.iloadN X1.here hx rfl (hb hby at_26) rfl ?_
    show Steps p.tables e below (T1.setTop (mkF m 27 #[.val (.int x0), .val (.int x1), .val (.int x2), .val (.int x3), .val (.int ((x2 &&& (2147483647 : Int32)) % (3 : Int32))), .val (.int (x3 &&& (7 : Int32))), .val (.double (9218868437227405312 : UInt64)), .second, .val (.int (own_min x0 x1)), .unset, .unset, .unset, .unset, .unset, .unset, .unset, .unset, .unset, .unset, .unset, .unset] [(.int x0)])) _
    refine XS.iloadN X1.here hx rfl (hb hby at_27) rfl ?_
    show Steps p.tables e below (T1.setTop (mkF m 28 #[.val (.int x0), .val (.int x1), .val (.int x2), .val (.int x3), .val (.int ((x2 &&& (2147483647 : Int32)) % (3 : Int32))), .val (.int (x3 &&& (7 : Int32))), .val (.double (9218868437227405312 : UInt64)), .second, .val (.int (own_min x0 x1)), .unset, .unset, .unset, .unset, .unset, .unset, .unset, .unset, .unset, .unset, .unset, .unset] [(.int x1), (.int x0)])) _
    refine st2 _ ?_
    show Steps p.tables e below (T2.setTop (mkF m 31 #[.val (.int x0), .val (.int x1), .val (.int x2), .val (.int x3), .val (.int ((x2 &&& (2147483647 : Int32)) % (3 : Int32))), .val (.int (x3 &&& (7 : Int32))), .val (.double (9218868437227405312 : UInt64)), .second, .val (.int (own_min x0 x1)), .unset, .unset, .unset, .unset, .unset, .unset, .unset, .unset, .unset, .unset, .unset, .unset] [(.int (own_max x0 x1))])) _
    refine XS.istore X2.here hx rfl (hb hby at_31) rfl (l' := #[.val (.int x0), .val (.int x1), .val (.int x2), .val (.int x3), .val (.int ((x2 &&& (2147483647 : Int32)) % (3 : Int32))), .val (.int (x3 &&& (7 : Int32))), .val (.double (9218868437227405312 : UInt64)), .second, .val (.int (own_min x0 x1)), .val (.int (own_max x0 x1)), .unset, .unset, .unset, .unset, .unset, .unset, .unset, .unset, .unset, .unset, .unset]) rfl ?_
    exact kt
  obtain ⟨lo, h_lo⟩ : ∃ z : Int32, z = (own_min x0 x1) := ⟨_, rfl⟩
  rw [← h_lo] at k3
  obtain ⟨hi, h_hi⟩ : ∃ z : Int32, z = (own_max x0 x1) := ⟨_, rfl⟩
  rw [← h_hi] at k3
  obtain ⟨mm, h_mm⟩ : ∃ z : Int32, z = (x3 &&& (7 : Int32)) := ⟨_, rfl⟩
  rw [← h_mm] at k3
  have hlh : lo.toInt ≤ hi.toInt := by rw [h_lo, h_hi, own_minI, own_maxI]; omega
  have k4 : ∀ t, Steps p.tables e below (T2.setTop (mkF m 46 #[.val (.int x0), .val (.int x1), .val (.int x2), .val (.int x3), .val (.int ((x2 &&& (2147483647 : Int32)) % (3 : Int32))), .val (.int mm), .val (.double (9218868437227405312 : UInt64)), .second, .val (.int lo), .val (.int hi), .val (.double (FP.i2d lo)), .second, .val (.double (FP.i2d hi)), .second, .unset, .unset, .unset, .unset, .unset, .unset, .unset] [(.int (1 : Int32)), (.int mm)])) t → Steps p.tables e below (s₁.setTop (entryFrame m #[(.int x0), (.int x1), (.int x2), (.int x3)] maxLocals)) t := by
    intro t kt
    refine k3 t ?_
    show Steps p.tables e below (T2.setTop (mkF m 33 #[.val (.int x0), .val (.int x1), .val (.int x2), .val (.int x3), .val (.int ((x2 &&& (2147483647 : Int32)) % (3 : Int32))), .val (.int mm), .val (.double (9218868437227405312 : UInt64)), .second, .val (.int lo), .val (.int hi), .unset, .unset, .unset, .unset, .unset, .unset, .unset, .unset, .unset, .unset, .unset] [])) _
    refine XS.iload X2.here hx rfl (hb hby at_33) rfl ?_
    show Steps p.tables e below (T2.setTop (mkF m 35 #[.val (.int x0), .val (.int x1), .val (.int x2), .val (.int x3), .val (.int ((x2 &&& (2147483647 : Int32)) % (3 : Int32))), .val (.int mm), .val (.double (9218868437227405312 : UInt64)), .second, .val (.int lo), .val (.int hi), .unset, .unset, .unset, .unset, .unset, .unset, .unset, .unset, .unset, .unset, .unset] [(.int lo)])) _
    refine XS.i2dS X2.here hx rfl (hb hby at_35) rfl rfl ?_
    show Steps p.tables e below (T2.setTop (mkF m 36 #[.val (.int x0), .val (.int x1), .val (.int x2), .val (.int x3), .val (.int ((x2 &&& (2147483647 : Int32)) % (3 : Int32))), .val (.int mm), .val (.double (9218868437227405312 : UInt64)), .second, .val (.int lo), .val (.int hi), .unset, .unset, .unset, .unset, .unset, .unset, .unset, .unset, .unset, .unset, .unset] [(.double (FP.i2d lo))])) _
    refine XS.dstore X2.here hx rfl (hb hby at_36) rfl (l' := #[.val (.int x0), .val (.int x1), .val (.int x2), .val (.int x3), .val (.int ((x2 &&& (2147483647 : Int32)) % (3 : Int32))), .val (.int mm), .val (.double (9218868437227405312 : UInt64)), .second, .val (.int lo), .val (.int hi), .val (.double (FP.i2d lo)), .second, .unset, .unset, .unset, .unset, .unset, .unset, .unset, .unset, .unset]) rfl ?_
    show Steps p.tables e below (T2.setTop (mkF m 38 #[.val (.int x0), .val (.int x1), .val (.int x2), .val (.int x3), .val (.int ((x2 &&& (2147483647 : Int32)) % (3 : Int32))), .val (.int mm), .val (.double (9218868437227405312 : UInt64)), .second, .val (.int lo), .val (.int hi), .val (.double (FP.i2d lo)), .second, .unset, .unset, .unset, .unset, .unset, .unset, .unset, .unset, .unset] [])) _
    refine XS.iload X2.here hx rfl (hb hby at_38) rfl ?_
    show Steps p.tables e below (T2.setTop (mkF m 40 #[.val (.int x0), .val (.int x1), .val (.int x2), .val (.int x3), .val (.int ((x2 &&& (2147483647 : Int32)) % (3 : Int32))), .val (.int mm), .val (.double (9218868437227405312 : UInt64)), .second, .val (.int lo), .val (.int hi), .val (.double (FP.i2d lo)), .second, .unset, .unset, .unset, .unset, .unset, .unset, .unset, .unset, .unset] [(.int hi)])) _
    refine XS.i2dS X2.here hx rfl (hb hby at_40) rfl rfl ?_
    show Steps p.tables e below (T2.setTop (mkF m 41 #[.val (.int x0), .val (.int x1), .val (.int x2), .val (.int x3), .val (.int ((x2 &&& (2147483647 : Int32)) % (3 : Int32))), .val (.int mm), .val (.double (9218868437227405312 : UInt64)), .second, .val (.int lo), .val (.int hi), .val (.double (FP.i2d lo)), .second, .unset, .unset, .unset, .unset, .unset, .unset, .unset, .unset, .unset] [(.double (FP.i2d hi))])) _
    refine XS.dstore X2.here hx rfl (hb hby at_41) rfl (l' := #[.val (.int x0), .val (.int x1), .val (.int x2), .val (.int x3), .val (.int ((x2 &&& (2147483647 : Int32)) % (3 : Int32))), .val (.int mm), .val (.double (9218868437227405312 : UInt64)), .second, .val (.int lo), .val (.int hi), .val (.double (FP.i2d lo)), .second, .val (.double (FP.i2d hi)), .second, .unset, .unset, .unset, .unset, .unset, .unset, .unset]) rfl ?_
    show Steps p.tables e below (T2.setTop (mkF m 43 #[.val (.int x0), .val (.int x1), .val (.int x2), .val (.int x3), .val (.int ((x2 &&& (2147483647 : Int32)) % (3 : Int32))), .val (.int mm), .val (.double (9218868437227405312 : UInt64)), .second, .val (.int lo), .val (.int hi), .val (.double (FP.i2d lo)), .second, .val (.double (FP.i2d hi)), .second, .unset, .unset, .unset, .unset, .unset, .unset, .unset] [])) _
    refine XS.iload X2.here hx rfl (hb hby at_43) rfl ?_
    show Steps p.tables e below (T2.setTop (mkF m 45 #[.val (.int x0), .val (.int x1), .val (.int x2), .val (.int x3), .val (.int ((x2 &&& (2147483647 : Int32)) % (3 : Int32))), .val (.int mm), .val (.double (9218868437227405312 : UInt64)), .second, .val (.int lo), .val (.int hi), .val (.double (FP.i2d lo)), .second, .val (.double (FP.i2d hi)), .second, .unset, .unset, .unset, .unset, .unset, .unset, .unset] [(.int mm)])) _
    refine XS.iconst X2.here hx rfl (hb hby at_45) ?_
    exact kt
  obtain ⟨lw, hg, hj5, k5⟩ : ∃ (lw : UInt64) (hg : UInt64), (own_lh mm lo hi lw hg) ∧ ∀ t, Steps p.tables e below (T2.setTop (mkF m 102 #[.val (.int x0), .val (.int x1), .val (.int x2), .val (.int x3), .val (.int ((x2 &&& (2147483647 : Int32)) % (3 : Int32))), .val (.int mm), .val (.double (9218868437227405312 : UInt64)), .second, .val (.int lo), .val (.int hi), .val (.double lw), .second, .val (.double hg), .second, .unset, .unset, .unset, .unset, .unset, .unset, .unset] [])) t → Steps p.tables e below (s₁.setTop (entryFrame m #[(.int x0), (.int x1), (.int x2), (.int x3)] maxLocals)) t := by
    by_cases hc6 : mm = (1 : Int32)
    · skip
      have k7 : ∀ t, Steps p.tables e below (T2.setTop (mkF m 102 #[.val (.int x0), .val (.int x1), .val (.int x2), .val (.int x3), .val (.int ((x2 &&& (2147483647 : Int32)) % (3 : Int32))), .val (.int mm), .val (.double (9218868437227405312 : UInt64)), .second, .val (.int lo), .val (.int hi), .val (.double (FP.i2d lo)), .second, .val (.double (FP.i2d lo)), .second, .unset, .unset, .unset, .unset, .unset, .unset, .unset] [])) t → Steps p.tables e below (s₁.setTop (entryFrame m #[(.int x0), (.int x1), (.int x2), (.int x3)] maxLocals)) t := by
        intro t kt
        refine k4 t ?_
        show Steps p.tables e below (T2.setTop (mkF m 46 #[.val (.int x0), .val (.int x1), .val (.int x2), .val (.int x3), .val (.int ((x2 &&& (2147483647 : Int32)) % (3 : Int32))), .val (.int mm), .val (.double (9218868437227405312 : UInt64)), .second, .val (.int lo), .val (.int hi), .val (.double (FP.i2d lo)), .second, .val (.double (FP.i2d hi)), .second, .unset, .unset, .unset, .unset, .unset, .unset, .unset] [(.int (1 : Int32)), (.int mm)])) _
        refine XS.icmpNo X2.here hx rfl (hb hby at_46) rfl (teq hc6).2 ?_
        show Steps p.tables e below (T2.setTop (mkF m 49 #[.val (.int x0), .val (.int x1), .val (.int x2), .val (.int x3), .val (.int ((x2 &&& (2147483647 : Int32)) % (3 : Int32))), .val (.int mm), .val (.double (9218868437227405312 : UInt64)), .second, .val (.int lo), .val (.int hi), .val (.double (FP.i2d lo)), .second, .val (.double (FP.i2d hi)), .second, .unset, .unset, .unset, .unset, .unset, .unset, .unset] [])) _
        refine XS.dload X2.here hx rfl (hb hby at_49) rfl ?_
        show Steps p.tables e below (T2.setTop (mkF m 51 #[.val (.int x0), .val (.int x1), .val (.int x2), .val (.int x3), .val (.int ((x2 &&& (2147483647 : Int32)) % (3 : Int32))), .val (.int mm), .val (.double (9218868437227405312 : UInt64)), .second, .val (.int lo), .val (.int hi), .val (.double (FP.i2d lo)), .second, .val (.double (FP.i2d hi)), .second, .unset, .unset, .unset, .unset, .unset, .unset, .unset] [(.double (FP.i2d lo))])) _
        refine XS.dstore X2.here hx rfl (hb hby at_51) rfl (l' := #[.val (.int x0), .val (.int x1), .val (.int x2), .val (.int x3), .val (.int ((x2 &&& (2147483647 : Int32)) % (3 : Int32))), .val (.int mm), .val (.double (9218868437227405312 : UInt64)), .second, .val (.int lo), .val (.int hi), .val (.double (FP.i2d lo)), .second, .val (.double (FP.i2d lo)), .second, .unset, .unset, .unset, .unset, .unset, .unset, .unset]) rfl ?_
        show Steps p.tables e below (T2.setTop (mkF m 53 #[.val (.int x0), .val (.int x1), .val (.int x2), .val (.int x3), .val (.int ((x2 &&& (2147483647 : Int32)) % (3 : Int32))), .val (.int mm), .val (.double (9218868437227405312 : UInt64)), .second, .val (.int lo), .val (.int hi), .val (.double (FP.i2d lo)), .second, .val (.double (FP.i2d lo)), .second, .unset, .unset, .unset, .unset, .unset, .unset, .unset] [])) _
        refine XS.goto X2.here hx rfl (pc0 := 53) (pc' := 102) rfl (hb hby at_53) (by decide) (by decide) ?_
        exact kt
      exact ⟨(FP.i2d lo), (FP.i2d lo), (Or.inl ⟨hc6, rfl, rfl⟩), k7⟩
    · skip
      have k8 : ∀ t, Steps p.tables e below (T2.setTop (mkF m 59 #[.val (.int x0), .val (.int x1), .val (.int x2), .val (.int x3), .val (.int ((x2 &&& (2147483647 : Int32)) % (3 : Int32))), .val (.int mm), .val (.double (9218868437227405312 : UInt64)), .second, .val (.int lo), .val (.int hi), .val (.double (FP.i2d lo)), .second, .val (.double (FP.i2d hi)), .second, .unset, .unset, .unset, .unset, .unset, .unset, .unset] [(.int (2 : Int32)), (.int mm)])) t → Steps p.tables e below (s₁.setTop (entryFrame m #[(.int x0), (.int x1), (.int x2), (.int x3)] maxLocals)) t := by
        intro t kt
        refine k4 t ?_
        show Steps p.tables e below (T2.setTop (mkF m 46 #[.val (.int x0), .val (.int x1), .val (.int x2), .val (.int x3), .val (.int ((x2 &&& (2147483647 : Int32)) % (3 : Int32))), .val (.int mm), .val (.double (9218868437227405312 : UInt64)), .second, .val (.int lo), .val (.int hi), .val (.double (FP.i2d lo)), .second, .val (.double (FP.i2d hi)), .second, .unset, .unset, .unset, .unset, .unset, .unset, .unset] [(.int (1 : Int32)), (.int mm)])) _
        refine XS.icmpYes X2.here hx rfl (pc0 := 46) (pc' := 56) rfl (hb hby at_46) rfl (feq hc6).2 (by decide) (by decide) ?_
        show Steps p.tables e below (T2.setTop (mkF m 56 #[.val (.int x0), .val (.int x1), .val (.int x2), .val (.int x3), .val (.int ((x2 &&& (2147483647 : Int32)) % (3 : Int32))), .val (.int mm), .val (.double (9218868437227405312 : UInt64)), .second, .val (.int lo), .val (.int hi), .val (.double (FP.i2d lo)), .second, .val (.double (FP.i2d hi)), .second, .unset, .unset, .unset, .unset, .unset, .unset, .unset] [])) _
        refine XS.iload X2.here hx rfl (hb hby at_56) rfl ?_
        show Steps p.tables e below (T2.setTop (mkF m 58 #[.val (.int x0), .val (.int x1), .val (.int x2), .val (.int x3), .val (.int ((x2 &&& (2147483647 : Int32)) % (3 : Int32))), .val (.int mm), .val (.double (9218868437227405312 : UInt64)), .second, .val (.int lo), .val (.int hi), .val (.double (FP.i2d lo)), .second, .val (.double (FP.i2d hi)), .second, .unset, .unset, .unset, .unset, .unset, .unset, .unset] [(.int mm)])) _
        refine XS.iconst X2.here hx rfl (hb hby at_58) ?_
        exact kt
      by_cases hc9 : mm = (2 : Int32)
      · skip
        have k10 : ∀ t, Steps p.tables e below (T2.setTop (mkF m 102 #[.val (.int x0), .val (.int x1), .val (.int x2), .val (.int x3), .val (.int ((x2 &&& (2147483647 : Int32)) % (3 : Int32))), .val (.int mm), .val (.double (9218868437227405312 : UInt64)), .second, .val (.int lo), .val (.int hi), .val (.double (FP.i2d lo)), .second, .val (.double (9218868437227405312 : UInt64)), .second, .unset, .unset, .unset, .unset, .unset, .unset, .unset] [])) t → Steps p.tables e below (s₁.setTop (entryFrame m #[(.int x0), (.int x1), (.int x2), (.int x3)] maxLocals)) t := by
          intro t kt
          refine k8 t ?_
          show Steps p.tables e below (T2.setTop (mkF m 59 #[.val (.int x0), .val (.int x1), .val (.int x2), .val (.int x3), .val (.int ((x2 &&& (2147483647 : Int32)) % (3 : Int32))), .val (.int mm), .val (.double (9218868437227405312 : UInt64)), .second, .val (.int lo), .val (.int hi), .val (.double (FP.i2d lo)), .second, .val (.double (FP.i2d hi)), .second, .unset, .unset, .unset, .unset, .unset, .unset, .unset] [(.int (2 : Int32)), (.int mm)])) _
          refine XS.icmpNo X2.here hx rfl (hb hby at_59) rfl (teq hc9).2 ?_
          show Steps p.tables e below (T2.setTop (mkF m 62 #[.val (.int x0), .val (.int x1), .val (.int x2), .val (.int x3), .val (.int ((x2 &&& (2147483647 : Int32)) % (3 : Int32))), .val (.int mm), .val (.double (9218868437227405312 : UInt64)), .second, .val (.int lo), .val (.int hi), .val (.double (FP.i2d lo)), .second, .val (.double (FP.i2d hi)), .second, .unset, .unset, .unset, .unset, .unset, .unset, .unset] [])) _
          refine XS.dload X2.here hx rfl (hb hby at_62) rfl ?_
          show Steps p.tables e below (T2.setTop (mkF m 64 #[.val (.int x0), .val (.int x1), .val (.int x2), .val (.int x3), .val (.int ((x2 &&& (2147483647 : Int32)) % (3 : Int32))), .val (.int mm), .val (.double (9218868437227405312 : UInt64)), .second, .val (.int lo), .val (.int hi), .val (.double (FP.i2d lo)), .second, .val (.double (FP.i2d hi)), .second, .unset, .unset, .unset, .unset, .unset, .unset, .unset] [(.double (9218868437227405312 : UInt64))])) _
          refine XS.dstore X2.here hx rfl (hb hby at_64) rfl (l' := #[.val (.int x0), .val (.int x1), .val (.int x2), .val (.int x3), .val (.int ((x2 &&& (2147483647 : Int32)) % (3 : Int32))), .val (.int mm), .val (.double (9218868437227405312 : UInt64)), .second, .val (.int lo), .val (.int hi), .val (.double (FP.i2d lo)), .second, .val (.double (9218868437227405312 : UInt64)), .second, .unset, .unset, .unset, .unset, .unset, .unset, .unset]) rfl ?_
          show Steps p.tables e below (T2.setTop (mkF m 66 #[.val (.int x0), .val (.int x1), .val (.int x2), .val (.int x3), .val (.int ((x2 &&& (2147483647 : Int32)) % (3 : Int32))), .val (.int mm), .val (.double (9218868437227405312 : UInt64)), .second, .val (.int lo), .val (.int hi), .val (.double (FP.i2d lo)), .second, .val (.double (9218868437227405312 : UInt64)), .second, .unset, .unset, .unset, .unset, .unset, .unset, .unset] [])) _
          refine XS.goto X2.here hx rfl (pc0 := 66) (pc' := 102) rfl (hb hby at_66) (by decide) (by decide) ?_
          exact kt
        exact ⟨(FP.i2d lo), (9218868437227405312 : UInt64), (Or.inr (Or.inl ⟨hc9, rfl, rfl⟩)), k10⟩
      · skip
        have k11 : ∀ t, Steps p.tables e below (T2.setTop (mkF m 72 #[.val (.int x0), .val (.int x1), .val (.int x2), .val (.int x3), .val (.int ((x2 &&& (2147483647 : Int32)) % (3 : Int32))), .val (.int mm), .val (.double (9218868437227405312 : UInt64)), .second, .val (.int lo), .val (.int hi), .val (.double (FP.i2d lo)), .second, .val (.double (FP.i2d hi)), .second, .unset, .unset, .unset, .unset, .unset, .unset, .unset] [(.int (4 : Int32)), (.int mm)])) t → Steps p.tables e below (s₁.setTop (entryFrame m #[(.int x0), (.int x1), (.int x2), (.int x3)] maxLocals)) t := by
          intro t kt
          refine k8 t ?_
          show Steps p.tables e below (T2.setTop (mkF m 59 #[.val (.int x0), .val (.int x1), .val (.int x2), .val (.int x3), .val (.int ((x2 &&& (2147483647 : Int32)) % (3 : Int32))), .val (.int mm), .val (.double (9218868437227405312 : UInt64)), .second, .val (.int lo), .val (.int hi), .val (.double (FP.i2d lo)), .second, .val (.double (FP.i2d hi)), .second, .unset, .unset, .unset, .unset, .unset, .unset, .unset] [(.int (2 : Int32)), (.int mm)])) _
          refine XS.icmpYes X2.here hx rfl (pc0 := 59) (pc' := 69) rfl (hb hby at_59) rfl (feq hc9).2 (by decide) (by decide) ?_
          show Steps p.tables e below (T2.setTop (mkF m 69 #[.val (.int x0), .val (.int x1), .val (.int x2), .val (.int x3), .val (.int ((x2 &&& (2147483647 : Int32)) % (3 : Int32))), .val (.int mm), .val (.double (9218868437227405312 : UInt64)), .second, .val (.int lo), .val (.int hi), .val (.double (FP.i2d lo)), .second, .val (.double (FP.i2d hi)), .second, .unset, .unset, .unset, .unset, .unset, .unset, .unset] [])) _
          refine XS.iload X2.here hx rfl (hb hby at_69) rfl ?_
          show Steps p.tables e below (T2.setTop (mkF m 71 #[.val (.int x0), .val (.int x1), .val (.int x2), .val (.int x3), .val (.int ((x2 &&& (2147483647 : Int32)) % (3 : Int32))), .val (.int mm), .val (.double (9218868437227405312 : UInt64)), .second, .val (.int lo), .val (.int hi), .val (.double (FP.i2d lo)), .second, .val (.double (FP.i2d hi)), .second, .unset, .unset, .unset, .unset, .unset, .unset, .unset] [(.int mm)])) _
          refine XS.iconst X2.here hx rfl (hb hby at_71) ?_
          exact kt
        by_cases hc12 : mm = (4 : Int32)
        · skip
          have k13 : ∀ t, Steps p.tables e below (T2.setTop (mkF m 102 #[.val (.int x0), .val (.int x1), .val (.int x2), .val (.int x3), .val (.int ((x2 &&& (2147483647 : Int32)) % (3 : Int32))), .val (.int mm), .val (.double (9218868437227405312 : UInt64)), .second, .val (.int lo), .val (.int hi), .val (.double (9218868437227405312 : UInt64)), .second, .val (.double (9218868437227405312 : UInt64)), .second, .unset, .unset, .unset, .unset, .unset, .unset, .unset] [])) t → Steps p.tables e below (s₁.setTop (entryFrame m #[(.int x0), (.int x1), (.int x2), (.int x3)] maxLocals)) t := by
            intro t kt
            refine k11 t ?_
            show Steps p.tables e below (T2.setTop (mkF m 72 #[.val (.int x0), .val (.int x1), .val (.int x2), .val (.int x3), .val (.int ((x2 &&& (2147483647 : Int32)) % (3 : Int32))), .val (.int mm), .val (.double (9218868437227405312 : UInt64)), .second, .val (.int lo), .val (.int hi), .val (.double (FP.i2d lo)), .second, .val (.double (FP.i2d hi)), .second, .unset, .unset, .unset, .unset, .unset, .unset, .unset] [(.int (4 : Int32)), (.int mm)])) _
            refine XS.icmpNo X2.here hx rfl (hb hby at_72) rfl (teq hc12).2 ?_
            show Steps p.tables e below (T2.setTop (mkF m 75 #[.val (.int x0), .val (.int x1), .val (.int x2), .val (.int x3), .val (.int ((x2 &&& (2147483647 : Int32)) % (3 : Int32))), .val (.int mm), .val (.double (9218868437227405312 : UInt64)), .second, .val (.int lo), .val (.int hi), .val (.double (FP.i2d lo)), .second, .val (.double (FP.i2d hi)), .second, .unset, .unset, .unset, .unset, .unset, .unset, .unset] [])) _
            refine XS.dload X2.here hx rfl (hb hby at_75) rfl ?_
            show Steps p.tables e below (T2.setTop (mkF m 77 #[.val (.int x0), .val (.int x1), .val (.int x2), .val (.int x3), .val (.int ((x2 &&& (2147483647 : Int32)) % (3 : Int32))), .val (.int mm), .val (.double (9218868437227405312 : UInt64)), .second, .val (.int lo), .val (.int hi), .val (.double (FP.i2d lo)), .second, .val (.double (FP.i2d hi)), .second, .unset, .unset, .unset, .unset, .unset, .unset, .unset] [(.double (9218868437227405312 : UInt64))])) _
            refine XS.dstore X2.here hx rfl (hb hby at_77) rfl (l' := #[.val (.int x0), .val (.int x1), .val (.int x2), .val (.int x3), .val (.int ((x2 &&& (2147483647 : Int32)) % (3 : Int32))), .val (.int mm), .val (.double (9218868437227405312 : UInt64)), .second, .val (.int lo), .val (.int hi), .val (.double (9218868437227405312 : UInt64)), .second, .val (.double (FP.i2d hi)), .second, .unset, .unset, .unset, .unset, .unset, .unset, .unset]) rfl ?_
            show Steps p.tables e below (T2.setTop (mkF m 79 #[.val (.int x0), .val (.int x1), .val (.int x2), .val (.int x3), .val (.int ((x2 &&& (2147483647 : Int32)) % (3 : Int32))), .val (.int mm), .val (.double (9218868437227405312 : UInt64)), .second, .val (.int lo), .val (.int hi), .val (.double (9218868437227405312 : UInt64)), .second, .val (.double (FP.i2d hi)), .second, .unset, .unset, .unset, .unset, .unset, .unset, .unset] [])) _
            refine XS.dload X2.here hx rfl (hb hby at_79) rfl ?_
            show Steps p.tables e below (T2.setTop (mkF m 81 #[.val (.int x0), .val (.int x1), .val (.int x2), .val (.int x3), .val (.int ((x2 &&& (2147483647 : Int32)) % (3 : Int32))), .val (.int mm), .val (.double (9218868437227405312 : UInt64)), .second, .val (.int lo), .val (.int hi), .val (.double (9218868437227405312 : UInt64)), .second, .val (.double (FP.i2d hi)), .second, .unset, .unset, .unset, .unset, .unset, .unset, .unset] [(.double (9218868437227405312 : UInt64))])) _
            refine XS.dstore X2.here hx rfl (hb hby at_81) rfl (l' := #[.val (.int x0), .val (.int x1), .val (.int x2), .val (.int x3), .val (.int ((x2 &&& (2147483647 : Int32)) % (3 : Int32))), .val (.int mm), .val (.double (9218868437227405312 : UInt64)), .second, .val (.int lo), .val (.int hi), .val (.double (9218868437227405312 : UInt64)), .second, .val (.double (9218868437227405312 : UInt64)), .second, .unset, .unset, .unset, .unset, .unset, .unset, .unset]) rfl ?_
            show Steps p.tables e below (T2.setTop (mkF m 83 #[.val (.int x0), .val (.int x1), .val (.int x2), .val (.int x3), .val (.int ((x2 &&& (2147483647 : Int32)) % (3 : Int32))), .val (.int mm), .val (.double (9218868437227405312 : UInt64)), .second, .val (.int lo), .val (.int hi), .val (.double (9218868437227405312 : UInt64)), .second, .val (.double (9218868437227405312 : UInt64)), .second, .unset, .unset, .unset, .unset, .unset, .unset, .unset] [])) _
            refine XS.goto X2.here hx rfl (pc0 := 83) (pc' := 102) rfl (hb hby at_83) (by decide) (by decide) ?_
            exact kt
          exact ⟨(9218868437227405312 : UInt64), (9218868437227405312 : UInt64), (Or.inr (Or.inr (Or.inl ⟨hc12, rfl, rfl⟩))), k13⟩
        · skip
          have k14 : ∀ t, Steps p.tables e below (T2.setTop (mkF m 89 #[.val (.int x0), .val (.int x1), .val (.int x2), .val (.int x3), .val (.int ((x2 &&& (2147483647 : Int32)) % (3 : Int32))), .val (.int mm), .val (.double (9218868437227405312 : UInt64)), .second, .val (.int lo), .val (.int hi), .val (.double (FP.i2d lo)), .second, .val (.double (FP.i2d hi)), .second, .unset, .unset, .unset, .unset, .unset, .unset, .unset] [(.int (5 : Int32)), (.int mm)])) t → Steps p.tables e below (s₁.setTop (entryFrame m #[(.int x0), (.int x1), (.int x2), (.int x3)] maxLocals)) t := by
            intro t kt
            refine k11 t ?_
            show Steps p.tables e below (T2.setTop (mkF m 72 #[.val (.int x0), .val (.int x1), .val (.int x2), .val (.int x3), .val (.int ((x2 &&& (2147483647 : Int32)) % (3 : Int32))), .val (.int mm), .val (.double (9218868437227405312 : UInt64)), .second, .val (.int lo), .val (.int hi), .val (.double (FP.i2d lo)), .second, .val (.double (FP.i2d hi)), .second, .unset, .unset, .unset, .unset, .unset, .unset, .unset] [(.int (4 : Int32)), (.int mm)])) _
            refine XS.icmpYes X2.here hx rfl (pc0 := 72) (pc' := 86) rfl (hb hby at_72) rfl (feq hc12).2 (by decide) (by decide) ?_
            show Steps p.tables e below (T2.setTop (mkF m 86 #[.val (.int x0), .val (.int x1), .val (.int x2), .val (.int x3), .val (.int ((x2 &&& (2147483647 : Int32)) % (3 : Int32))), .val (.int mm), .val (.double (9218868437227405312 : UInt64)), .second, .val (.int lo), .val (.int hi), .val (.double (FP.i2d lo)), .second, .val (.double (FP.i2d hi)), .second, .unset, .unset, .unset, .unset, .unset, .unset, .unset] [])) _
            refine XS.iload X2.here hx rfl (hb hby at_86) rfl ?_
            show Steps p.tables e below (T2.setTop (mkF m 88 #[.val (.int x0), .val (.int x1), .val (.int x2), .val (.int x3), .val (.int ((x2 &&& (2147483647 : Int32)) % (3 : Int32))), .val (.int mm), .val (.double (9218868437227405312 : UInt64)), .second, .val (.int lo), .val (.int hi), .val (.double (FP.i2d lo)), .second, .val (.double (FP.i2d hi)), .second, .unset, .unset, .unset, .unset, .unset, .unset, .unset] [(.int mm)])) _
            refine XS.iconst X2.here hx rfl (hb hby at_88) ?_
            exact kt
          by_cases hc15 : mm = (5 : Int32)
          · skip
            have k16 : ∀ t, Steps p.tables e below (T2.setTop (mkF m 102 #[.val (.int x0), .val (.int x1), .val (.int x2), .val (.int x3), .val (.int ((x2 &&& (2147483647 : Int32)) % (3 : Int32))), .val (.int mm), .val (.double (9218868437227405312 : UInt64)), .second, .val (.int lo), .val (.int hi), .val (.double (FP.dneg (9218868437227405312 : UInt64))), .second, .val (.double (FP.dneg (9218868437227405312 : UInt64))), .second, .unset, .unset, .unset, .unset, .unset, .unset, .unset] [])) t → Steps p.tables e below (s₁.setTop (entryFrame m #[(.int x0), (.int x1), (.int x2), (.int x3)] maxLocals)) t := by
              intro t kt
              refine k14 t ?_
              show Steps p.tables e below (T2.setTop (mkF m 89 #[.val (.int x0), .val (.int x1), .val (.int x2), .val (.int x3), .val (.int ((x2 &&& (2147483647 : Int32)) % (3 : Int32))), .val (.int mm), .val (.double (9218868437227405312 : UInt64)), .second, .val (.int lo), .val (.int hi), .val (.double (FP.i2d lo)), .second, .val (.double (FP.i2d hi)), .second, .unset, .unset, .unset, .unset, .unset, .unset, .unset] [(.int (5 : Int32)), (.int mm)])) _
              refine XS.icmpNo X2.here hx rfl (hb hby at_89) rfl (teq hc15).2 ?_
              show Steps p.tables e below (T2.setTop (mkF m 92 #[.val (.int x0), .val (.int x1), .val (.int x2), .val (.int x3), .val (.int ((x2 &&& (2147483647 : Int32)) % (3 : Int32))), .val (.int mm), .val (.double (9218868437227405312 : UInt64)), .second, .val (.int lo), .val (.int hi), .val (.double (FP.i2d lo)), .second, .val (.double (FP.i2d hi)), .second, .unset, .unset, .unset, .unset, .unset, .unset, .unset] [])) _
              refine XS.dload X2.here hx rfl (hb hby at_92) rfl ?_
              show Steps p.tables e below (T2.setTop (mkF m 94 #[.val (.int x0), .val (.int x1), .val (.int x2), .val (.int x3), .val (.int ((x2 &&& (2147483647 : Int32)) % (3 : Int32))), .val (.int mm), .val (.double (9218868437227405312 : UInt64)), .second, .val (.int lo), .val (.int hi), .val (.double (FP.i2d lo)), .second, .val (.double (FP.i2d hi)), .second, .unset, .unset, .unset, .unset, .unset, .unset, .unset] [(.double (9218868437227405312 : UInt64))])) _
              refine XS.dnegS X2.here hx rfl (hb hby at_94) rfl rfl ?_
              show Steps p.tables e below (T2.setTop (mkF m 95 #[.val (.int x0), .val (.int x1), .val (.int x2), .val (.int x3), .val (.int ((x2 &&& (2147483647 : Int32)) % (3 : Int32))), .val (.int mm), .val (.double (9218868437227405312 : UInt64)), .second, .val (.int lo), .val (.int hi), .val (.double (FP.i2d lo)), .second, .val (.double (FP.i2d hi)), .second, .unset, .unset, .unset, .unset, .unset, .unset, .unset] [(.double (FP.dneg (9218868437227405312 : UInt64)))])) _
              refine XS.dstore X2.here hx rfl (hb hby at_95) rfl (l' := #[.val (.int x0), .val (.int x1), .val (.int x2), .val (.int x3), .val (.int ((x2 &&& (2147483647 : Int32)) % (3 : Int32))), .val (.int mm), .val (.double (9218868437227405312 : UInt64)), .second, .val (.int lo), .val (.int hi), .val (.double (FP.dneg (9218868437227405312 : UInt64))), .second, .val (.double (FP.i2d hi)), .second, .unset, .unset, .unset, .unset, .unset, .unset, .unset]) rfl ?_
              show Steps p.tables e below (T2.setTop (mkF m 97 #[.val (.int x0), .val (.int x1), .val (.int x2), .val (.int x3), .val (.int ((x2 &&& (2147483647 : Int32)) % (3 : Int32))), .val (.int mm), .val (.double (9218868437227405312 : UInt64)), .second, .val (.int lo), .val (.int hi), .val (.double (FP.dneg (9218868437227405312 : UInt64))), .second, .val (.double (FP.i2d hi)), .second, .unset, .unset, .unset, .unset, .unset, .unset, .unset] [])) _
              refine XS.dload X2.here hx rfl (hb hby at_97) rfl ?_
              show Steps p.tables e below (T2.setTop (mkF m 99 #[.val (.int x0), .val (.int x1), .val (.int x2), .val (.int x3), .val (.int ((x2 &&& (2147483647 : Int32)) % (3 : Int32))), .val (.int mm), .val (.double (9218868437227405312 : UInt64)), .second, .val (.int lo), .val (.int hi), .val (.double (FP.dneg (9218868437227405312 : UInt64))), .second, .val (.double (FP.i2d hi)), .second, .unset, .unset, .unset, .unset, .unset, .unset, .unset] [(.double (9218868437227405312 : UInt64))])) _
              refine XS.dnegS X2.here hx rfl (hb hby at_99) rfl rfl ?_
              show Steps p.tables e below (T2.setTop (mkF m 100 #[.val (.int x0), .val (.int x1), .val (.int x2), .val (.int x3), .val (.int ((x2 &&& (2147483647 : Int32)) % (3 : Int32))), .val (.int mm), .val (.double (9218868437227405312 : UInt64)), .second, .val (.int lo), .val (.int hi), .val (.double (FP.dneg (9218868437227405312 : UInt64))), .second, .val (.double (FP.i2d hi)), .second, .unset, .unset, .unset, .unset, .unset, .unset, .unset] [(.double (FP.dneg (9218868437227405312 : UInt64)))])) _
              refine XS.dstore X2.here hx rfl (hb hby at_100) rfl (l' := #[.val (.int x0), .val (.int x1), .val (.int x2), .val (.int x3), .val (.int ((x2 &&& (2147483647 : Int32)) % (3 : Int32))), .val (.int mm), .val (.double (9218868437227405312 : UInt64)), .second, .val (.int lo), .val (.int hi), .val (.double (FP.dneg (9218868437227405312 : UInt64))), .second, .val (.double (FP.dneg (9218868437227405312 : UInt64))), .second, .unset, .unset, .unset, .unset, .unset, .unset, .unset]) rfl ?_
              exact kt
            exact ⟨(FP.dneg (9218868437227405312 : UInt64)), (FP.dneg (9218868437227405312 : UInt64)), (Or.inr (Or.inr (Or.inr (Or.inl ⟨hc15, rfl, rfl⟩)))), k16⟩
          · skip
            have k17 : ∀ t, Steps p.tables e below (T2.setTop (mkF m 102 #[.val (.int x0), .val (.int x1), .val (.int x2), .val (.int x3), .val (.int ((x2 &&& (2147483647 : Int32)) % (3 : Int32))), .val (.int mm), .val (.double (9218868437227405312 : UInt64)), .second, .val (.int lo), .val (.int hi), .val (.double (FP.i2d lo)), .second, .val (.double (FP.i2d hi)), .second, .unset, .unset, .unset, .unset, .unset, .unset, .unset] [])) t → Steps p.tables e below (s₁.setTop (entryFrame m #[(.int x0), (.int x1), (.int x2), (.int x3)] maxLocals)) t := by
              intro t kt
              refine k14 t ?_
              show Steps p.tables e below (T2.setTop (mkF m 89 #[.val (.int x0), .val (.int x1), .val (.int x2), .val (.int x3), .val (.int ((x2 &&& (2147483647 : Int32)) % (3 : Int32))), .val (.int mm), .val (.double (9218868437227405312 : UInt64)), .second, .val (.int lo), .val (.int hi), .val (.double (FP.i2d lo)), .second, .val (.double (FP.i2d hi)), .second, .unset, .unset, .unset, .unset, .unset, .unset, .unset] [(.int (5 : Int32)), (.int mm)])) _
              refine XS.icmpYes X2.here hx rfl (pc0 := 89) (pc' := 102) rfl (hb hby at_89) rfl (feq hc15).2 (by decide) (by decide) ?_
              exact kt
            exact ⟨(FP.i2d lo), (FP.i2d hi), (Or.inr (Or.inr (Or.inr (Or.inr (⟨hc6, hc9, hc12, hc15, rfl, rfl⟩))))), k17⟩
  obtain ⟨T18, h18, kk18, X18, e18, E18, A18, st18⟩ := newP X2 hx hZ (aty := .double) (wd9 hw) eq2 (g := (mkF m 108 #[.val (.int x0), .val (.int x1), .val (.int x2), .val (.int x3), .val (.int ((x2 &&& (2147483647 : Int32)) % (3 : Int32))), .val (.int mm), .val (.double (9218868437227405312 : UInt64)), .second, .val (.int lo), .val (.int hi), .val (.double lw), .second, .val (.double hg), .second, .val (.double (FP.i2d hi)), .second, .unset, .unset, .unset, .unset, .unset] [(.int (3 : Int32))])) rfl (hb hby at_108) rfl (by decide) (cap := 3) (by decide) (by decide) (by decide) (by decide)
  obtain ⟨b18, g18⟩ : ∃ z, z = h0.size := ⟨_, rfl⟩
  rw [← g18] at A18 st18
  have ge_b18 : n0 ≤ b18 := Nat.le_trans Z0 (Nat.le_of_eq g18.symm)
  have sz_b18 : h0.size ≤ b18 := Nat.le_trans (Nat.le_refl _) (Nat.le_of_eq g18.symm)
  have Z18 : n0 ≤ h18.size := Nat.le_trans Z0 E18.1
  have K18 : Keep h0 h18 [] := ((Keep.refl h0 []).ext E18)
  have V18 : Arv Z h18 b18 kk18 .double (3 : Int32) [(.double (0 : UInt64)), (.double (0 : UInt64)), (.double (0 : UInt64))] (.double (0 : UInt64)) := (Arv.new A18 (by decide)).pad (pad_rep [] (.double (0 : UInt64)) 3)
  obtain ⟨T19, h19, kk19, X19, e19, E19, A19, st19⟩ := newP X18 hx hZ (aty := .double) (wd9 hw) e18 (g := (mkF m 113 #[.val (.int x0), .val (.int x1), .val (.int x2), .val (.int x3), .val (.int ((x2 &&& (2147483647 : Int32)) % (3 : Int32))), .val (.int mm), .val (.double (9218868437227405312 : UInt64)), .second, .val (.int lo), .val (.int hi), .val (.double lw), .second, .val (.double hg), .second, .val (.double (FP.i2d hi)), .second, .val (.ref b18), .unset, .unset, .unset, .unset] [(.int (3 : Int32))])) rfl (hb hby at_113) rfl (by decide) (cap := 3) (by decide) (by decide) (by decide) (by decide)
  obtain ⟨b19, g19⟩ : ∃ z, z = h18.size := ⟨_, rfl⟩
  rw [← g19] at A19 st19
  have ne_b18_b19 : b18 ≠ b19 := Nat.ne_of_lt (Nat.lt_of_lt_of_le V18.lt (Nat.le_of_eq g19.symm))
  have ge_b19 : n0 ≤ b19 := Nat.le_trans Z18 (Nat.le_of_eq g19.symm)
  have sz_b19 : h0.size ≤ b19 := Nat.le_trans K18.1 (Nat.le_of_eq g19.symm)
  have Z19 : n0 ≤ h19.size := Nat.le_trans Z18 E19.1
  have K19 : Keep h0 h19 [] := (K18.ext E19)
  have V19 : Arv Z h19 b19 kk19 .double (3 : Int32) [(.double (0 : UInt64)), (.double (0 : UInt64)), (.double (0 : UInt64))] (.double (0 : UInt64)) := (Arv.new A19 (by decide)).pad (pad_rep [] (.double (0 : UInt64)) 3)
  have f20 := (V18.ext E19)
  obtain ⟨cl21, Ar21, q21, S21, M21, HH21, GG21⟩ := id f20
  have hin21 : ¬ ((0 : Int32) < 0 ∨ cl21.slots.size ≤ ((0 : Int32)).toNatClampNeg) := inb_of S21 ⟨by decide, by decide⟩
  obtain ⟨T22, h22, X22, e22, W22, st22⟩ := stD X19 hx hZ e19 Ar21 (j := (0 : Int32)) hin21 (g := (mkF m 124 #[.val (.int x0), .val (.int x1), .val (.int x2), .val (.int x3), .val (.int ((x2 &&& (2147483647 : Int32)) % (3 : Int32))), .val (.int mm), .val (.double (9218868437227405312 : UInt64)), .second, .val (.int lo), .val (.int hi), .val (.double lw), .second, .val (.double hg), .second, .val (.double (FP.i2d hi)), .second, .val (.ref b18), .val (.ref b19), .unset, .unset, .unset] [(.double (FP.dadd (FP.i2d hi) (4607182418800017408 : UInt64))), (.int (0 : Int32)), (.ref b18)])) rfl rfl (hb hby at_124)
  have N22 := Fr.snoc X22 N2 ge_b18
  have Z22 : n0 ≤ h22.size := by rw [W22.size]; exact Z19
  have K22 : Keep h0 h22 [] := (K19.wr W22 (Or.inr sz_b18))
  have V22 := Arv.set Ar21 q21 S21 M21 HH21 GG21 rfl W22 0 rfl (Nat.le_of_ble_eq_true rfl)
  have f23 := (V19.other W22 (Ne.symm ne_b18_b19))
  obtain ⟨cl24, Ar24, q24, S24, M24, HH24, GG24⟩ := id f23
  have hin24 : ¬ ((0 : Int32) < 0 ∨ cl24.slots.size ≤ ((0 : Int32)).toNatClampNeg) := inb_of S24 ⟨by decide, by decide⟩
  obtain ⟨T25, h25, X25, e25, W25, st25⟩ := stD X22 hx hZ e22 Ar24 (j := (0 : Int32)) hin24 (g := (mkF m 134 #[.val (.int x0), .val (.int x1), .val (.int x2), .val (.int x3), .val (.int ((x2 &&& (2147483647 : Int32)) % (3 : Int32))), .val (.int mm), .val (.double (9218868437227405312 : UInt64)), .second, .val (.int lo), .val (.int hi), .val (.double lw), .second, .val (.double hg), .second, .val (.double (FP.i2d hi)), .second, .val (.ref b18), .val (.ref b19), .unset, .unset, .unset] [(.double (FP.dadd (FP.i2d hi) (4613937818241073152 : UInt64))), (.int (0 : Int32)), (.ref b19)])) rfl rfl (hb hby at_134)
  have N25 := Fr.snoc X25 N22 ge_b19
  have Z25 : n0 ≤ h25.size := by rw [W25.size]; exact Z22
  have K25 : Keep h0 h25 [] := (K22.wr W25 (Or.inr sz_b19))
  have V25 := Arv.set Ar24 q24 S24 M24 HH24 GG24 rfl W25 0 rfl (Nat.le_of_ble_eq_true rfl)
  have f26 := (V22.other W25 ne_b18_b19)
  obtain ⟨cl27, Ar27, q27, S27, M27, HH27, GG27⟩ := id f26
  have hin27 : ¬ ((1 : Int32) < 0 ∨ cl27.slots.size ≤ ((1 : Int32)).toNatClampNeg) := inb_of S27 ⟨by decide, by decide⟩
  obtain ⟨T28, h28, X28, e28, W28, st28⟩ := stD X25 hx hZ e25 Ar27 (j := (1 : Int32)) hin27 (g := (mkF m 142 #[.val (.int x0), .val (.int x1), .val (.int x2), .val (.int x3), .val (.int ((x2 &&& (2147483647 : Int32)) % (3 : Int32))), .val (.int mm), .val (.double (9218868437227405312 : UInt64)), .second, .val (.int lo), .val (.int hi), .val (.double lw), .second, .val (.double hg), .second, .val (.double (FP.i2d hi)), .second, .val (.ref b18), .val (.ref b19), .unset, .unset, .unset] [(.double (FP.dadd (FP.i2d hi) (4607182418800017408 : UInt64))), (.int (1 : Int32)), (.ref b18)])) rfl rfl (hb hby at_142)
  have N28 := Fr.snoc X28 N25 ge_b18
  have Z28 : n0 ≤ h28.size := by rw [W28.size]; exact Z25
  have K28 : Keep h0 h28 [] := (K25.wr W28 (Or.inr sz_b18))
  have V28 := Arv.set Ar27 q27 S27 M27 HH27 GG27 rfl W28 1 rfl (Nat.le_of_ble_eq_true rfl)
  have f29 := (V25.other W28 (Ne.symm ne_b18_b19))
  obtain ⟨cl30, Ar30, q30, S30, M30, HH30, GG30⟩ := id f29
  have hin30 : ¬ ((1 : Int32) < 0 ∨ cl30.slots.size ≤ ((1 : Int32)).toNatClampNeg) := inb_of S30 ⟨by decide, by decide⟩
  obtain ⟨T31, h31, X31, e31, W31, st31⟩ := stD X28 hx hZ e28 Ar30 (j := (1 : Int32)) hin30 (g := (mkF m 152 #[.val (.int x0), .val (.int x1), .val (.int x2), .val (.int x3), .val (.int ((x2 &&& (2147483647 : Int32)) % (3 : Int32))), .val (.int mm), .val (.double (9218868437227405312 : UInt64)), .second, .val (.int lo), .val (.int hi), .val (.double lw), .second, .val (.double hg), .second, .val (.double (FP.i2d hi)), .second, .val (.ref b18), .val (.ref b19), .unset, .unset, .unset] [(.double (FP.dadd (FP.i2d hi) (4613937818241073152 : UInt64))), (.int (1 : Int32)), (.ref b19)])) rfl rfl (hb hby at_152)
  have N31 := Fr.snoc X31 N28 ge_b19
  have Z31 : n0 ≤ h31.size := by rw [W31.size]; exact Z28
  have K31 : Keep h0 h31 [] := (K28.wr W31 (Or.inr sz_b19))
  have V31 := Arv.set Ar30 q30 S30 M30 HH30 GG30 rfl W31 1 rfl (Nat.le_of_ble_eq_true rfl)
  have f32 := (V28.other W31 ne_b18_b19)
  obtain ⟨cl33, Ar33, q33, S33, M33, HH33, GG33⟩ := id f32
  have hin33 : ¬ ((2 : Int32) < 0 ∨ cl33.slots.size ≤ ((2 : Int32)).toNatClampNeg) := inb_of S33 ⟨by decide, by decide⟩
  obtain ⟨T34, h34, X34, e34, W34, st34⟩ := stD X31 hx hZ e31 Ar33 (j := (2 : Int32)) hin33 (g := (mkF m 160 #[.val (.int x0), .val (.int x1), .val (.int x2), .val (.int x3), .val (.int ((x2 &&& (2147483647 : Int32)) % (3 : Int32))), .val (.int mm), .val (.double (9218868437227405312 : UInt64)), .second, .val (.int lo), .val (.int hi), .val (.double lw), .second, .val (.double hg), .second, .val (.double (FP.i2d hi)), .second, .val (.ref b18), .val (.ref b19), .unset, .unset, .unset] [(.double (FP.dadd (FP.i2d hi) (4607182418800017408 : UInt64))), (.int (2 : Int32)), (.ref b18)])) rfl rfl (hb hby at_160)
  have N34 := Fr.snoc X34 N31 ge_b18
  have Z34 : n0 ≤ h34.size := by rw [W34.size]; exact Z31
  have K34 : Keep h0 h34 [] := (K31.wr W34 (Or.inr sz_b18))
  have V34 := Arv.set Ar33 q33 S33 M33 HH33 GG33 rfl W34 2 rfl (Nat.le_of_ble_eq_true rfl)
  have f35 := (V31.other W34 (Ne.symm ne_b18_b19))
  obtain ⟨cl36, Ar36, q36, S36, M36, HH36, GG36⟩ := id f35
  have hin36 : ¬ ((2 : Int32) < 0 ∨ cl36.slots.size ≤ ((2 : Int32)).toNatClampNeg) := inb_of S36 ⟨by decide, by decide⟩
  obtain ⟨T37, h37, X37, e37, W37, st37⟩ := stD X34 hx hZ e34 Ar36 (j := (2 : Int32)) hin36 (g := (mkF m 170 #[.val (.int x0), .val (.int x1), .val (.int x2), .val (.int x3), .val (.int ((x2 &&& (2147483647 : Int32)) % (3 : Int32))), .val (.int mm), .val (.double (9218868437227405312 : UInt64)), .second, .val (.int lo), .val (.int hi), .val (.double lw), .second, .val (.double hg), .second, .val (.double (FP.i2d hi)), .second, .val (.ref b18), .val (.ref b19), .unset, .unset, .unset] [(.double (FP.dadd (FP.i2d hi) (4613937818241073152 : UInt64))), (.int (2 : Int32)), (.ref b19)])) rfl rfl (hb hby at_170)
  have N37 := Fr.snoc X37 N34 ge_b19
  have Z37 : n0 ≤ h37.size := by rw [W37.size]; exact Z34
  have K37 : Keep h0 h37 [] := (K34.wr W37 (Or.inr sz_b19))
  have V37 := Arv.set Ar36 q36 S36 M36 HH36 GG36 rfl W37 2 rfl (Nat.le_of_ble_eq_true rfl)
  have k38 : ∀ t, Steps p.tables e below (T37.setTop (mkF m 171 #[.val (.int x0), .val (.int x1), .val (.int x2), .val (.int x3), .val (.int ((x2 &&& (2147483647 : Int32)) % (3 : Int32))), .val (.int mm), .val (.double (9218868437227405312 : UInt64)), .second, .val (.int lo), .val (.int hi), .val (.double lw), .second, .val (.double hg), .second, .val (.double (FP.i2d hi)), .second, .val (.ref b18), .val (.ref b19), .unset, .unset, .unset] [])) t → Steps p.tables e below (s₁.setTop (entryFrame m #[(.int x0), (.int x1), (.int x2), (.int x3)] maxLocals)) t := by
    intro t kt
    refine k5 t ?_
    show Steps p.tables e below (T2.setTop (mkF m 102 #[.val (.int x0), .val (.int x1), .val (.int x2), .val (.int x3), .val (.int ((x2 &&& (2147483647 : Int32)) % (3 : Int32))), .val (.int mm), .val (.double (9218868437227405312 : UInt64)), .second, .val (.int lo), .val (.int hi), .val (.double lw), .second, .val (.double hg), .second, .unset, .unset, .unset, .unset, .unset, .unset, .unset] [])) _
    refine XS.iload X2.here hx rfl (hb hby at_102) rfl ?_
    show Steps p.tables e below (T2.setTop (mkF m 104 #[.val (.int x0), .val (.int x1), .val (.int x2), .val (.int x3), .val (.int ((x2 &&& (2147483647 : Int32)) % (3 : Int32))), .val (.int mm), .val (.double (9218868437227405312 : UInt64)), .second, .val (.int lo), .val (.int hi), .val (.double lw), .second, .val (.double hg), .second, .unset, .unset, .unset, .unset, .unset, .unset, .unset] [(.int hi)])) _
    refine XS.i2dS X2.here hx rfl (hb hby at_104) rfl rfl ?_
    show Steps p.tables e below (T2.setTop (mkF m 105 #[.val (.int x0), .val (.int x1), .val (.int x2), .val (.int x3), .val (.int ((x2 &&& (2147483647 : Int32)) % (3 : Int32))), .val (.int mm), .val (.double (9218868437227405312 : UInt64)), .second, .val (.int lo), .val (.int hi), .val (.double lw), .second, .val (.double hg), .second, .unset, .unset, .unset, .unset, .unset, .unset, .unset] [(.double (FP.i2d hi))])) _
    refine XS.dstore X2.here hx rfl (hb hby at_105) rfl (l' := #[.val (.int x0), .val (.int x1), .val (.int x2), .val (.int x3), .val (.int ((x2 &&& (2147483647 : Int32)) % (3 : Int32))), .val (.int mm), .val (.double (9218868437227405312 : UInt64)), .second, .val (.int lo), .val (.int hi), .val (.double lw), .second, .val (.double hg), .second, .val (.double (FP.i2d hi)), .second, .unset, .unset, .unset, .unset, .unset]) rfl ?_
    show Steps p.tables e below (T2.setTop (mkF m 107 #[.val (.int x0), .val (.int x1), .val (.int x2), .val (.int x3), .val (.int ((x2 &&& (2147483647 : Int32)) % (3 : Int32))), .val (.int mm), .val (.double (9218868437227405312 : UInt64)), .second, .val (.int lo), .val (.int hi), .val (.double lw), .second, .val (.double hg), .second, .val (.double (FP.i2d hi)), .second, .unset, .unset, .unset, .unset, .unset] [])) _
    refine XS.iconst X2.here hx rfl (hb hby at_107) ?_
    show Steps p.tables e below (T2.setTop (mkF m 108 #[.val (.int x0), .val (.int x1), .val (.int x2), .val (.int x3), .val (.int ((x2 &&& (2147483647 : Int32)) % (3 : Int32))), .val (.int mm), .val (.double (9218868437227405312 : UInt64)), .second, .val (.int lo), .val (.int hi), .val (.double lw), .second, .val (.double hg), .second, .val (.double (FP.i2d hi)), .second, .unset, .unset, .unset, .unset, .unset] [(.int (3 : Int32))])) _
    refine st18 _ ?_
    show Steps p.tables e below (T18.setTop (mkF m 110 #[.val (.int x0), .val (.int x1), .val (.int x2), .val (.int x3), .val (.int ((x2 &&& (2147483647 : Int32)) % (3 : Int32))), .val (.int mm), .val (.double (9218868437227405312 : UInt64)), .second, .val (.int lo), .val (.int hi), .val (.double lw), .second, .val (.double hg), .second, .val (.double (FP.i2d hi)), .second, .unset, .unset, .unset, .unset, .unset] [(.ref b18)])) _
    refine XS.astore X18.here hx rfl (hb hby at_110) rfl rfl (l' := #[.val (.int x0), .val (.int x1), .val (.int x2), .val (.int x3), .val (.int ((x2 &&& (2147483647 : Int32)) % (3 : Int32))), .val (.int mm), .val (.double (9218868437227405312 : UInt64)), .second, .val (.int lo), .val (.int hi), .val (.double lw), .second, .val (.double hg), .second, .val (.double (FP.i2d hi)), .second, .val (.ref b18), .unset, .unset, .unset, .unset]) rfl ?_
    show Steps p.tables e below (T18.setTop (mkF m 112 #[.val (.int x0), .val (.int x1), .val (.int x2), .val (.int x3), .val (.int ((x2 &&& (2147483647 : Int32)) % (3 : Int32))), .val (.int mm), .val (.double (9218868437227405312 : UInt64)), .second, .val (.int lo), .val (.int hi), .val (.double lw), .second, .val (.double hg), .second, .val (.double (FP.i2d hi)), .second, .val (.ref b18), .unset, .unset, .unset, .unset] [])) _
    refine XS.iconst X18.here hx rfl (hb hby at_112) ?_
    show Steps p.tables e below (T18.setTop (mkF m 113 #[.val (.int x0), .val (.int x1), .val (.int x2), .val (.int x3), .val (.int ((x2 &&& (2147483647 : Int32)) % (3 : Int32))), .val (.int mm), .val (.double (9218868437227405312 : UInt64)), .second, .val (.int lo), .val (.int hi), .val (.double lw), .second, .val (.double hg), .second, .val (.double (FP.i2d hi)), .second, .val (.ref b18), .unset, .unset, .unset, .unset] [(.int (3 : Int32))])) _
    refine st19 _ ?_
    show Steps p.tables e below (T19.setTop (mkF m 115 #[.val (.int x0), .val (.int x1), .val (.int x2), .val (.int x3), .val (.int ((x2 &&& (2147483647 : Int32)) % (3 : Int32))), .val (.int mm), .val (.double (9218868437227405312 : UInt64)), .second, .val (.int lo), .val (.int hi), .val (.double lw), .second, .val (.double hg), .second, .val (.double (FP.i2d hi)), .second, .val (.ref b18), .unset, .unset, .unset, .unset] [(.ref b19)])) _
    refine XS.astore X19.here hx rfl (hb hby at_115) rfl rfl (l' := #[.val (.int x0), .val (.int x1), .val (.int x2), .val (.int x3), .val (.int ((x2 &&& (2147483647 : Int32)) % (3 : Int32))), .val (.int mm), .val (.double (9218868437227405312 : UInt64)), .second, .val (.int lo), .val (.int hi), .val (.double lw), .second, .val (.double hg), .second, .val (.double (FP.i2d hi)), .second, .val (.ref b18), .val (.ref b19), .unset, .unset, .unset]) rfl ?_
    show Steps p.tables e below (T19.setTop (mkF m 117 #[.val (.int x0), .val (.int x1), .val (.int x2), .val (.int x3), .val (.int ((x2 &&& (2147483647 : Int32)) % (3 : Int32))), .val (.int mm), .val (.double (9218868437227405312 : UInt64)), .second, .val (.int lo), .val (.int hi), .val (.double lw), .second, .val (.double hg), .second, .val (.double (FP.i2d hi)), .second, .val (.ref b18), .val (.ref b19), .unset, .unset, .unset] [])) _
    refine XS.aload X19.here hx rfl (hb hby at_117) rfl rfl ?_
    show Steps p.tables e below (T19.setTop (mkF m 119 #[.val (.int x0), .val (.int x1), .val (.int x2), .val (.int x3), .val (.int ((x2 &&& (2147483647 : Int32)) % (3 : Int32))), .val (.int mm), .val (.double (9218868437227405312 : UInt64)), .second, .val (.int lo), .val (.int hi), .val (.double lw), .second, .val (.double hg), .second, .val (.double (FP.i2d hi)), .second, .val (.ref b18), .val (.ref b19), .unset, .unset, .unset] [(.ref b18)])) _
    refine XS.iconst X19.here hx rfl (hb hby at_119) ?_
    show Steps p.tables e below (T19.setTop (mkF m 120 #[.val (.int x0), .val (.int x1), .val (.int x2), .val (.int x3), .val (.int ((x2 &&& (2147483647 : Int32)) % (3 : Int32))), .val (.int mm), .val (.double (9218868437227405312 : UInt64)), .second, .val (.int lo), .val (.int hi), .val (.double lw), .second, .val (.double hg), .second, .val (.double (FP.i2d hi)), .second, .val (.ref b18), .val (.ref b19), .unset, .unset, .unset] [(.int (0 : Int32)), (.ref b18)])) _
    refine XS.dload X19.here hx rfl (hb hby at_120) rfl ?_
    show Steps p.tables e below (T19.setTop (mkF m 122 #[.val (.int x0), .val (.int x1), .val (.int x2), .val (.int x3), .val (.int ((x2 &&& (2147483647 : Int32)) % (3 : Int32))), .val (.int mm), .val (.double (9218868437227405312 : UInt64)), .second, .val (.int lo), .val (.int hi), .val (.double lw), .second, .val (.double hg), .second, .val (.double (FP.i2d hi)), .second, .val (.ref b18), .val (.ref b19), .unset, .unset, .unset] [(.double (FP.i2d hi)), (.int (0 : Int32)), (.ref b18)])) _
    refine XS.dconst1 X19.here hx rfl (hb hby at_122) (rfl : FP.dconst1 = (4607182418800017408 : UInt64)) ?_
    show Steps p.tables e below (T19.setTop (mkF m 123 #[.val (.int x0), .val (.int x1), .val (.int x2), .val (.int x3), .val (.int ((x2 &&& (2147483647 : Int32)) % (3 : Int32))), .val (.int mm), .val (.double (9218868437227405312 : UInt64)), .second, .val (.int lo), .val (.int hi), .val (.double lw), .second, .val (.double hg), .second, .val (.double (FP.i2d hi)), .second, .val (.ref b18), .val (.ref b19), .unset, .unset, .unset] [(.double (4607182418800017408 : UInt64)), (.double (FP.i2d hi)), (.int (0 : Int32)), (.ref b18)])) _
    refine XS.daddS X19.here hx rfl (hb hby at_123) rfl (Jvm.Free.Fl.dadd_out (Jvm.Free.Fl.i2d_fin hi).noNaN (show Jvm.Free.Fl.Fin64 _ from by unfold Jvm.Free.Fl.Fin64; decide +kernel)) rfl ?_
    show Steps p.tables e below (T19.setTop (mkF m 124 #[.val (.int x0), .val (.int x1), .val (.int x2), .val (.int x3), .val (.int ((x2 &&& (2147483647 : Int32)) % (3 : Int32))), .val (.int mm), .val (.double (9218868437227405312 : UInt64)), .second, .val (.int lo), .val (.int hi), .val (.double lw), .second, .val (.double hg), .second, .val (.double (FP.i2d hi)), .second, .val (.ref b18), .val (.ref b19), .unset, .unset, .unset] [(.double (FP.dadd (FP.i2d hi) (4607182418800017408 : UInt64))), (.int (0 : Int32)), (.ref b18)])) _
    refine st22 _ ?_
    show Steps p.tables e below (T22.setTop (mkF m 125 #[.val (.int x0), .val (.int x1), .val (.int x2), .val (.int x3), .val (.int ((x2 &&& (2147483647 : Int32)) % (3 : Int32))), .val (.int mm), .val (.double (9218868437227405312 : UInt64)), .second, .val (.int lo), .val (.int hi), .val (.double lw), .second, .val (.double hg), .second, .val (.double (FP.i2d hi)), .second, .val (.ref b18), .val (.ref b19), .unset, .unset, .unset] [])) _
    refine XS.aload X22.here hx rfl (hb hby at_125) rfl rfl ?_
    show Steps p.tables e below (T22.setTop (mkF m 127 #[.val (.int x0), .val (.int x1), .val (.int x2), .val (.int x3), .val (.int ((x2 &&& (2147483647 : Int32)) % (3 : Int32))), .val (.int mm), .val (.double (9218868437227405312 : UInt64)), .second, .val (.int lo), .val (.int hi), .val (.double lw), .second, .val (.double hg), .second, .val (.double (FP.i2d hi)), .second, .val (.ref b18), .val (.ref b19), .unset, .unset, .unset] [(.ref b19)])) _
    refine XS.iconst X22.here hx rfl (hb hby at_127) ?_
    show Steps p.tables e below (T22.setTop (mkF m 128 #[.val (.int x0), .val (.int x1), .val (.int x2), .val (.int x3), .val (.int ((x2 &&& (2147483647 : Int32)) % (3 : Int32))), .val (.int mm), .val (.double (9218868437227405312 : UInt64)), .second, .val (.int lo), .val (.int hi), .val (.double lw), .second, .val (.double hg), .second, .val (.double (FP.i2d hi)), .second, .val (.ref b18), .val (.ref b19), .unset, .unset, .unset] [(.int (0 : Int32)), (.ref b19)])) _
    refine XS.dload X22.here hx rfl (hb hby at_128) rfl ?_
    show Steps p.tables e below (T22.setTop (mkF m 130 #[.val (.int x0), .val (.int x1), .val (.int x2), .val (.int x3), .val (.int ((x2 &&& (2147483647 : Int32)) % (3 : Int32))), .val (.int mm), .val (.double (9218868437227405312 : UInt64)), .second, .val (.int lo), .val (.int hi), .val (.double lw), .second, .val (.double hg), .second, .val (.double (FP.i2d hi)), .second, .val (.ref b18), .val (.ref b19), .unset, .unset, .unset] [(.double (FP.i2d hi)), (.int (0 : Int32)), (.ref b19)])) _
    refine X22.ldc2DoubleC hx hown (mvT hZ (wd10 hw)) (g := (mkF m 130 #[.val (.int x0), .val (.int x1), .val (.int x2), .val (.int x3), .val (.int ((x2 &&& (2147483647 : Int32)) % (3 : Int32))), .val (.int mm), .val (.double (9218868437227405312 : UInt64)), .second, .val (.int lo), .val (.int hi), .val (.double lw), .second, .val (.double hg), .second, .val (.double (FP.i2d hi)), .second, .val (.ref b18), .val (.ref b19), .unset, .unset, .unset] [(.double (FP.i2d hi)), (.int (0 : Int32)), (.ref b19)])) rfl (hb hby at_130) _ ?_
    show Steps p.tables e below (T22.setTop (mkF m 133 #[.val (.int x0), .val (.int x1), .val (.int x2), .val (.int x3), .val (.int ((x2 &&& (2147483647 : Int32)) % (3 : Int32))), .val (.int mm), .val (.double (9218868437227405312 : UInt64)), .second, .val (.int lo), .val (.int hi), .val (.double lw), .second, .val (.double hg), .second, .val (.double (FP.i2d hi)), .second, .val (.ref b18), .val (.ref b19), .unset, .unset, .unset] [(.double (4613937818241073152 : UInt64)), (.double (FP.i2d hi)), (.int (0 : Int32)), (.ref b19)])) _
    refine XS.daddS X22.here hx rfl (hb hby at_133) rfl (Jvm.Free.Fl.dadd_out (Jvm.Free.Fl.i2d_fin hi).noNaN (show Jvm.Free.Fl.Fin64 _ from by unfold Jvm.Free.Fl.Fin64; decide +kernel)) rfl ?_
    show Steps p.tables e below (T22.setTop (mkF m 134 #[.val (.int x0), .val (.int x1), .val (.int x2), .val (.int x3), .val (.int ((x2 &&& (2147483647 : Int32)) % (3 : Int32))), .val (.int mm), .val (.double (9218868437227405312 : UInt64)), .second, .val (.int lo), .val (.int hi), .val (.double lw), .second, .val (.double hg), .second, .val (.double (FP.i2d hi)), .second, .val (.ref b18), .val (.ref b19), .unset, .unset, .unset] [(.double (FP.dadd (FP.i2d hi) (4613937818241073152 : UInt64))), (.int (0 : Int32)), (.ref b19)])) _
    refine st25 _ ?_
    show Steps p.tables e below (T25.setTop (mkF m 135 #[.val (.int x0), .val (.int x1), .val (.int x2), .val (.int x3), .val (.int ((x2 &&& (2147483647 : Int32)) % (3 : Int32))), .val (.int mm), .val (.double (9218868437227405312 : UInt64)), .second, .val (.int lo), .val (.int hi), .val (.double lw), .second, .val (.double hg), .second, .val (.double (FP.i2d hi)), .second, .val (.ref b18), .val (.ref b19), .unset, .unset, .unset] [])) _
    refine XS.aload X25.here hx rfl (hb hby at_135) rfl rfl ?_
    show Steps p.tables e below (T25.setTop (mkF m 137 #[.val (.int x0), .val (.int x1), .val (.int x2), .val (.int x3), .val (.int ((x2 &&& (2147483647 : Int32)) % (3 : Int32))), .val (.int mm), .val (.double (9218868437227405312 : UInt64)), .second, .val (.int lo), .val (.int hi), .val (.double lw), .second, .val (.double hg), .second, .val (.double (FP.i2d hi)), .second, .val (.ref b18), .val (.ref b19), .unset, .unset, .unset] [(.ref b18)])) _
    refine XS.iconst X25.here hx rfl (hb hby at_137) ?_
    show Steps p.tables e below (T25.setTop (mkF m 138 #[.val (.int x0), .val (.int x1), .val (.int x2), .val (.int x3), .val (.int ((x2 &&& (2147483647 : Int32)) % (3 : Int32))), .val (.int mm), .val (.double (9218868437227405312 : UInt64)), .second, .val (.int lo), .val (.int hi), .val (.double lw), .second, .val (.double hg), .second, .val (.double (FP.i2d hi)), .second, .val (.ref b18), .val (.ref b19), .unset, .unset, .unset] [(.int (1 : Int32)), (.ref b18)])) _
    refine XS.dload X25.here hx rfl (hb hby at_138) rfl ?_
    show Steps p.tables e below (T25.setTop (mkF m 140 #[.val (.int x0), .val (.int x1), .val (.int x2), .val (.int x3), .val (.int ((x2 &&& (2147483647 : Int32)) % (3 : Int32))), .val (.int mm), .val (.double (9218868437227405312 : UInt64)), .second, .val (.int lo), .val (.int hi), .val (.double lw), .second, .val (.double hg), .second, .val (.double (FP.i2d hi)), .second, .val (.ref b18), .val (.ref b19), .unset, .unset, .unset] [(.double (FP.i2d hi)), (.int (1 : Int32)), (.ref b18)])) _
    refine XS.dconst1 X25.here hx rfl (hb hby at_140) (rfl : FP.dconst1 = (4607182418800017408 : UInt64)) ?_
    show Steps p.tables e below (T25.setTop (mkF m 141 #[.val (.int x0), .val (.int x1), .val (.int x2), .val (.int x3), .val (.int ((x2 &&& (2147483647 : Int32)) % (3 : Int32))), .val (.int mm), .val (.double (9218868437227405312 : UInt64)), .second, .val (.int lo), .val (.int hi), .val (.double lw), .second, .val (.double hg), .second, .val (.double (FP.i2d hi)), .second, .val (.ref b18), .val (.ref b19), .unset, .unset, .unset] [(.double (4607182418800017408 : UInt64)), (.double (FP.i2d hi)), (.int (1 : Int32)), (.ref b18)])) _
    refine XS.daddS X25.here hx rfl (hb hby at_141) rfl (Jvm.Free.Fl.dadd_out (Jvm.Free.Fl.i2d_fin hi).noNaN (show Jvm.Free.Fl.Fin64 _ from by unfold Jvm.Free.Fl.Fin64; decide +kernel)) rfl ?_
    show Steps p.tables e below (T25.setTop (mkF m 142 #[.val (.int x0), .val (.int x1), .val (.int x2), .val (.int x3), .val (.int ((x2 &&& (2147483647 : Int32)) % (3 : Int32))), .val (.int mm), .val (.double (9218868437227405312 : UInt64)), .second, .val (.int lo), .val (.int hi), .val (.double lw), .second, .val (.double hg), .second, .val (.double (FP.i2d hi)), .second, .val (.ref b18), .val (.ref b19), .unset, .unset, .unset] [(.double (FP.dadd (FP.i2d hi) (4607182418800017408 : UInt64))), (.int (1 : Int32)), (.ref b18)])) _
    refine st28 _ ?_
    show Steps p.tables e below (T28.setTop (mkF m 143 #[.val (.int x0), .val (.int x1), .val (.int x2), .val (.int x3), .val (.int ((x2 &&& (2147483647 : Int32)) % (3 : Int32))), .val (.int mm), .val (.double (9218868437227405312 : UInt64)), .second, .val (.int lo), .val (.int hi), .val (.double lw), .second, .val (.double hg), .second, .val (.double (FP.i2d hi)), .second, .val (.ref b18), .val (.ref b19), .unset, .unset, .unset] [])) _
    refine XS.aload X28.here hx rfl (hb hby at_143) rfl rfl ?_
    show Steps p.tables e below (T28.setTop (mkF m 145 #[.val (.int x0), .val (.int x1), .val (.int x2), .val (.int x3), .val (.int ((x2 &&& (2147483647 : Int32)) % (3 : Int32))), .val (.int mm), .val (.double (9218868437227405312 : UInt64)), .second, .val (.int lo), .val (.int hi), .val (.double lw), .second, .val (.double hg), .second, .val (.double (FP.i2d hi)), .second, .val (.ref b18), .val (.ref b19), .unset, .unset, .unset] [(.ref b19)])) _
    refine XS.iconst X28.here hx rfl (hb hby at_145) ?_
    show Steps p.tables e below (T28.setTop (mkF m 146 #[.val (.int x0), .val (.int x1), .val (.int x2), .val (.int x3), .val (.int ((x2 &&& (2147483647 : Int32)) % (3 : Int32))), .val (.int mm), .val (.double (9218868437227405312 : UInt64)), .second, .val (.int lo), .val (.int hi), .val (.double lw), .second, .val (.double hg), .second, .val (.double (FP.i2d hi)), .second, .val (.ref b18), .val (.ref b19), .unset, .unset, .unset] [(.int (1 : Int32)), (.ref b19)])) _
    refine XS.dload X28.here hx rfl (hb hby at_146) rfl ?_
    show Steps p.tables e below (T28.setTop (mkF m 148 #[.val (.int x0), .val (.int x1), .val (.int x2), .val (.int x3), .val (.int ((x2 &&& (2147483647 : Int32)) % (3 : Int32))), .val (.int mm), .val (.double (9218868437227405312 : UInt64)), .second, .val (.int lo), .val (.int hi), .val (.double lw), .second, .val (.double hg), .second, .val (.double (FP.i2d hi)), .second, .val (.ref b18), .val (.ref b19), .unset, .unset, .unset] [(.double (FP.i2d hi)), (.int (1 : Int32)), (.ref b19)])) _
    refine X28.ldc2DoubleC hx hown (mvT hZ (wd10 hw)) (g := (mkF m 148 #[.val (.int x0), .val (.int x1), .val (.int x2), .val (.int x3), .val (.int ((x2 &&& (2147483647 : Int32)) % (3 : Int32))), .val (.int mm), .val (.double (9218868437227405312 : UInt64)), .second, .val (.int lo), .val (.int hi), .val (.double lw), .second, .val (.double hg), .second, .val (.double (FP.i2d hi)), .second, .val (.ref b18), .val (.ref b19), .unset, .unset, .unset] [(.double (FP.i2d hi)), (.int (1 : Int32)), (.ref b19)])) rfl (hb hby at_148) _ ?_
    show Steps p.tables e below (T28.setTop (mkF m 151 #[.val (.int x0), .val (.int x1), .val (.int x2), .val (.int x3), .val (.int ((x2 &&& (2147483647 : Int32)) % (3 : Int32))), .val (.int mm), .val (.double (9218868437227405312 : UInt64)), .second, .val (.int lo), .val (.int hi), .val (.double lw), .second, .val (.double hg), .second, .val (.double (FP.i2d hi)), .second, .val (.ref b18), .val (.ref b19), .unset, .unset, .unset] [(.double (4613937818241073152 : UInt64)), (.double (FP.i2d hi)), (.int (1 : Int32)), (.ref b19)])) _
    refine XS.daddS X28.here hx rfl (hb hby at_151) rfl (Jvm.Free.Fl.dadd_out (Jvm.Free.Fl.i2d_fin hi).noNaN (show Jvm.Free.Fl.Fin64 _ from by unfold Jvm.Free.Fl.Fin64; decide +kernel)) rfl ?_
    show Steps p.tables e below (T28.setTop (mkF m 152 #[.val (.int x0), .val (.int x1), .val (.int x2), .val (.int x3), .val (.int ((x2 &&& (2147483647 : Int32)) % (3 : Int32))), .val (.int mm), .val (.double (9218868437227405312 : UInt64)), .second, .val (.int lo), .val (.int hi), .val (.double lw), .second, .val (.double hg), .second, .val (.double (FP.i2d hi)), .second, .val (.ref b18), .val (.ref b19), .unset, .unset, .unset] [(.double (FP.dadd (FP.i2d hi) (4613937818241073152 : UInt64))), (.int (1 : Int32)), (.ref b19)])) _
    refine st31 _ ?_
    show Steps p.tables e below (T31.setTop (mkF m 153 #[.val (.int x0), .val (.int x1), .val (.int x2), .val (.int x3), .val (.int ((x2 &&& (2147483647 : Int32)) % (3 : Int32))), .val (.int mm), .val (.double (9218868437227405312 : UInt64)), .second, .val (.int lo), .val (.int hi), .val (.double lw), .second, .val (.double hg), .second, .val (.double (FP.i2d hi)), .second, .val (.ref b18), .val (.ref b19), .unset, .unset, .unset] [])) _
    refine XS.aload X31.here hx rfl (hb hby at_153) rfl rfl ?_
    show Steps p.tables e below (T31.setTop (mkF m 155 #[.val (.int x0), .val (.int x1), .val (.int x2), .val (.int x3), .val (.int ((x2 &&& (2147483647 : Int32)) % (3 : Int32))), .val (.int mm), .val (.double (9218868437227405312 : UInt64)), .second, .val (.int lo), .val (.int hi), .val (.double lw), .second, .val (.double hg), .second, .val (.double (FP.i2d hi)), .second, .val (.ref b18), .val (.ref b19), .unset, .unset, .unset] [(.ref b18)])) _
    refine XS.iconst X31.here hx rfl (hb hby at_155) ?_
    show Steps p.tables e below (T31.setTop (mkF m 156 #[.val (.int x0), .val (.int x1), .val (.int x2), .val (.int x3), .val (.int ((x2 &&& (2147483647 : Int32)) % (3 : Int32))), .val (.int mm), .val (.double (9218868437227405312 : UInt64)), .second, .val (.int lo), .val (.int hi), .val (.double lw), .second, .val (.double hg), .second, .val (.double (FP.i2d hi)), .second, .val (.ref b18), .val (.ref b19), .unset, .unset, .unset] [(.int (2 : Int32)), (.ref b18)])) _
    refine XS.dload X31.here hx rfl (hb hby at_156) rfl ?_
    show Steps p.tables e below (T31.setTop (mkF m 158 #[.val (.int x0), .val (.int x1), .val (.int x2), .val (.int x3), .val (.int ((x2 &&& (2147483647 : Int32)) % (3 : Int32))), .val (.int mm), .val (.double (9218868437227405312 : UInt64)), .second, .val (.int lo), .val (.int hi), .val (.double lw), .second, .val (.double hg), .second, .val (.double (FP.i2d hi)), .second, .val (.ref b18), .val (.ref b19), .unset, .unset, .unset] [(.double (FP.i2d hi)), (.int (2 : Int32)), (.ref b18)])) _
    refine XS.dconst1 X31.here hx rfl (hb hby at_158) (rfl : FP.dconst1 = (4607182418800017408 : UInt64)) ?_
    show Steps p.tables e below (T31.setTop (mkF m 159 #[.val (.int x0), .val (.int x1), .val (.int x2), .val (.int x3), .val (.int ((x2 &&& (2147483647 : Int32)) % (3 : Int32))), .val (.int mm), .val (.double (9218868437227405312 : UInt64)), .second, .val (.int lo), .val (.int hi), .val (.double lw), .second, .val (.double hg), .second, .val (.double (FP.i2d hi)), .second, .val (.ref b18), .val (.ref b19), .unset, .unset, .unset] [(.double (4607182418800017408 : UInt64)), (.double (FP.i2d hi)), (.int (2 : Int32)), (.ref b18)])) _
    refine XS.daddS X31.here hx rfl (hb hby at_159) rfl (Jvm.Free.Fl.dadd_out (Jvm.Free.Fl.i2d_fin hi).noNaN (show Jvm.Free.Fl.Fin64 _ from by unfold Jvm.Free.Fl.Fin64; decide +kernel)) rfl ?_
    show Steps p.tables e below (T31.setTop (mkF m 160 #[.val (.int x0), .val (.int x1), .val (.int x2), .val (.int x3), .val (.int ((x2 &&& (2147483647 : Int32)) % (3 : Int32))), .val (.int mm), .val (.double (9218868437227405312 : UInt64)), .second, .val (.int lo), .val (.int hi), .val (.double lw), .second, .val (.double hg), .second, .val (.double (FP.i2d hi)), .second, .val (.ref b18), .val (.ref b19), .unset, .unset, .unset] [(.double (FP.dadd (FP.i2d hi) (4607182418800017408 : UInt64))), (.int (2 : Int32)), (.ref b18)])) _
    refine st34 _ ?_
    show Steps p.tables e below (T34.setTop (mkF m 161 #[.val (.int x0), .val (.int x1), .val (.int x2), .val (.int x3), .val (.int ((x2 &&& (2147483647 : Int32)) % (3 : Int32))), .val (.int mm), .val (.double (9218868437227405312 : UInt64)), .second, .val (.int lo), .val (.int hi), .val (.double lw), .second, .val (.double hg), .second, .val (.double (FP.i2d hi)), .second, .val (.ref b18), .val (.ref b19), .unset, .unset, .unset] [])) _
    refine XS.aload X34.here hx rfl (hb hby at_161) rfl rfl ?_
    show Steps p.tables e below (T34.setTop (mkF m 163 #[.val (.int x0), .val (.int x1), .val (.int x2), .val (.int x3), .val (.int ((x2 &&& (2147483647 : Int32)) % (3 : Int32))), .val (.int mm), .val (.double (9218868437227405312 : UInt64)), .second, .val (.int lo), .val (.int hi), .val (.double lw), .second, .val (.double hg), .second, .val (.double (FP.i2d hi)), .second, .val (.ref b18), .val (.ref b19), .unset, .unset, .unset] [(.ref b19)])) _
    refine XS.iconst X34.here hx rfl (hb hby at_163) ?_
    show Steps p.tables e below (T34.setTop (mkF m 164 #[.val (.int x0), .val (.int x1), .val (.int x2), .val (.int x3), .val (.int ((x2 &&& (2147483647 : Int32)) % (3 : Int32))), .val (.int mm), .val (.double (9218868437227405312 : UInt64)), .second, .val (.int lo), .val (.int hi), .val (.double lw), .second, .val (.double hg), .second, .val (.double (FP.i2d hi)), .second, .val (.ref b18), .val (.ref b19), .unset, .unset, .unset] [(.int (2 : Int32)), (.ref b19)])) _
    refine XS.dload X34.here hx rfl (hb hby at_164) rfl ?_
    show Steps p.tables e below (T34.setTop (mkF m 166 #[.val (.int x0), .val (.int x1), .val (.int x2), .val (.int x3), .val (.int ((x2 &&& (2147483647 : Int32)) % (3 : Int32))), .val (.int mm), .val (.double (9218868437227405312 : UInt64)), .second, .val (.int lo), .val (.int hi), .val (.double lw), .second, .val (.double hg), .second, .val (.double (FP.i2d hi)), .second, .val (.ref b18), .val (.ref b19), .unset, .unset, .unset] [(.double (FP.i2d hi)), (.int (2 : Int32)), (.ref b19)])) _
    refine X34.ldc2DoubleC hx hown (mvT hZ (wd10 hw)) (g := (mkF m 166 #[.val (.int x0), .val (.int x1), .val (.int x2), .val (.int x3), .val (.int ((x2 &&& (2147483647 : Int32)) % (3 : Int32))), .val (.int mm), .val (.double (9218868437227405312 : UInt64)), .second, .val (.int lo), .val (.int hi), .val (.double lw), .second, .val (.double hg), .second, .val (.double (FP.i2d hi)), .second, .val (.ref b18), .val (.ref b19), .unset, .unset, .unset] [(.double (FP.i2d hi)), (.int (2 : Int32)), (.ref b19)])) rfl (hb hby at_166) _ ?_
    show Steps p.tables e below (T34.setTop (mkF m 169 #[.val (.int x0), .val (.int x1), .val (.int x2), .val (.int x3), .val (.int ((x2 &&& (2147483647 : Int32)) % (3 : Int32))), .val (.int mm), .val (.double (9218868437227405312 : UInt64)), .second, .val (.int lo), .val (.int hi), .val (.double lw), .second, .val (.double hg), .second, .val (.double (FP.i2d hi)), .second, .val (.ref b18), .val (.ref b19), .unset, .unset, .unset] [(.double (4613937818241073152 : UInt64)), (.double (FP.i2d hi)), (.int (2 : Int32)), (.ref b19)])) _
    refine XS.daddS X34.here hx rfl (hb hby at_169) rfl (Jvm.Free.Fl.dadd_out (Jvm.Free.Fl.i2d_fin hi).noNaN (show Jvm.Free.Fl.Fin64 _ from by unfold Jvm.Free.Fl.Fin64; decide +kernel)) rfl ?_
    show Steps p.tables e below (T34.setTop (mkF m 170 #[.val (.int x0), .val (.int x1), .val (.int x2), .val (.int x3), .val (.int ((x2 &&& (2147483647 : Int32)) % (3 : Int32))), .val (.int mm), .val (.double (9218868437227405312 : UInt64)), .second, .val (.int lo), .val (.int hi), .val (.double lw), .second, .val (.double hg), .second, .val (.double (FP.i2d hi)), .second, .val (.ref b18), .val (.ref b19), .unset, .unset, .unset] [(.double (FP.dadd (FP.i2d hi) (4613937818241073152 : UInt64))), (.int (2 : Int32)), (.ref b19)])) _
    refine st37 _ ?_
    exact kt
  rcases own_st3 x2 with hk | hk | hk
  · skip
    rw [(hk : ((x2 &&& (2147483647 : Int32)) % (3 : Int32)) = (0 : Int32))] at k38
    have f39 := (V34.other W37 ne_b18_b19)
    obtain ⟨cl40, Ar40, q40, S40, M40, HH40, GG40⟩ := id f39
    have hin40 : ¬ ((0 : Int32) < 0 ∨ cl40.slots.size ≤ ((0 : Int32)).toNatClampNeg) := inb_of S40 ⟨by decide, by decide⟩
    obtain ⟨T41, h41, X41, e41, W41, st41⟩ := stD X37 hx hZ e37 Ar40 (j := (0 : Int32)) hin40 (g := (mkF m 177 #[.val (.int x0), .val (.int x1), .val (.int x2), .val (.int x3), .val (.int (0 : Int32)), .val (.int mm), .val (.double (9218868437227405312 : UInt64)), .second, .val (.int lo), .val (.int hi), .val (.double lw), .second, .val (.double hg), .second, .val (.double (FP.i2d hi)), .second, .val (.ref b18), .val (.ref b19), .unset, .unset, .unset] [(.double lw), (.int (0 : Int32)), (.ref b18)])) rfl rfl (hb hby at_177)
    have N41 := Fr.snoc X41 N37 ge_b18
    have Z41 : n0 ≤ h41.size := by rw [W41.size]; exact Z37
    have K41 : Keep h0 h41 [] := (K37.wr W41 (Or.inr sz_b18))
    have V41 := Arv.set Ar40 q40 S40 M40 HH40 GG40 rfl W41 0 rfl (Nat.le_of_ble_eq_true rfl)
    have f42 := (V37.other W41 (Ne.symm ne_b18_b19))
    obtain ⟨cl43, Ar43, q43, S43, M43, HH43, GG43⟩ := id f42
    have hin43 : ¬ ((0 : Int32) < 0 ∨ cl43.slots.size ≤ ((0 : Int32)).toNatClampNeg) := inb_of S43 ⟨by decide, by decide⟩
    obtain ⟨T44, h44, X44, e44, W44, st44⟩ := stD X41 hx hZ e41 Ar43 (j := (0 : Int32)) hin43 (g := (mkF m 184 #[.val (.int x0), .val (.int x1), .val (.int x2), .val (.int x3), .val (.int (0 : Int32)), .val (.int mm), .val (.double (9218868437227405312 : UInt64)), .second, .val (.int lo), .val (.int hi), .val (.double lw), .second, .val (.double hg), .second, .val (.double (FP.i2d hi)), .second, .val (.ref b18), .val (.ref b19), .unset, .unset, .unset] [(.double hg), (.int (0 : Int32)), (.ref b19)])) rfl rfl (hb hby at_184)
    have N44 := Fr.snoc X44 N41 ge_b19
    have Z44 : n0 ≤ h44.size := by rw [W44.size]; exact Z41
    have K44 : Keep h0 h44 [] := (K41.wr W44 (Or.inr sz_b19))
    have V44 := Arv.set Ar43 q43 S43 M43 HH43 GG43 rfl W44 0 rfl (Nat.le_of_ble_eq_true rfl)
    have f45 := (V41.other W44 ne_b18_b19)
    obtain ⟨T46, h46, X46, e46, E46, A46, D46, -, st46⟩ := newO X44 hx hZ hown (wd11 hw) (wd12 hw) (wd13 hw) e44 (g := (mkF m 185 #[.val (.int x0), .val (.int x1), .val (.int x2), .val (.int x3), .val (.int (0 : Int32)), .val (.int mm), .val (.double (9218868437227405312 : UInt64)), .second, .val (.int lo), .val (.int hi), .val (.double lw), .second, .val (.double hg), .second, .val (.double (FP.i2d hi)), .second, .val (.ref b18), .val (.ref b19), .unset, .unset, .unset] [])) rfl (hb hby at_185) (by decide) (by decide)
    obtain ⟨b46, g46⟩ : ∃ z, z = h44.size := ⟨_, rfl⟩
    rw [← g46] at A46 D46 st46
    have ne_b18_b46 : b18 ≠ b46 := Nat.ne_of_lt (Nat.lt_of_lt_of_le f45.lt (Nat.le_of_eq g46.symm))
    have ne_b19_b46 : b19 ≠ b46 := Nat.ne_of_lt (Nat.lt_of_lt_of_le V44.lt (Nat.le_of_eq g46.symm))
    have ge_b46 : n0 ≤ b46 := Nat.le_trans Z44 (Nat.le_of_eq g46.symm)
    have sz_b46 : h0.size ≤ b46 := Nat.le_trans K44.1 (Nat.le_of_eq g46.symm)
    have Z46 : n0 ≤ h46.size := Nat.le_trans Z44 E46.1
    have K46 : Keep h0 h46 [] := (K44.ext E46)
    have F46_lower : Fld Z h46 b46 "com/example/formula_to_strategy/formulatostrategy/engine/ValueBounds" "lower" "[D" .null := D46 (Or.inr (wd21 hw)) (ty := (.array .double)) (by decide)
    have F46_upper : Fld Z h46 b46 "com/example/formula_to_strategy/formulatostrategy/engine/ValueBounds" "upper" "[D" .null := D46 (Or.inr (wd23 hw)) (ty := (.array .double)) (by decide)
    obtain ⟨_, _, ⟨T47, L47, kc47, ks47⟩, -, X47, ⟨Lc47, hQ47, l47, y47, z47⟩, st47⟩ := X46.specialBack hx (y := (⟨"com/example/formula_to_strategy/formulatostrategy/engine/ValueBounds", "<init>", "([D[D)V"⟩ : MethodName)) rfl hown (mvT hZ (wd14 hw)) (mvT hZ (wd15 hw)) (mvT hZ (wd16 hw)) (by decide) (backOf (W := 1) (rmIni l Z a0 hw [] b46 b18 b19 _ _ h46 n0 Z46 ge_b46 A46 F46_lower F46_upper) hZ (wd16 hw) (wd13 hw) (by decide) (by decide)) (g := (mkF m 193 #[.val (.int x0), .val (.int x1), .val (.int x2), .val (.int x3), .val (.int (0 : Int32)), .val (.int mm), .val (.double (9218868437227405312 : UInt64)), .second, .val (.int lo), .val (.int hi), .val (.double lw), .second, .val (.double hg), .second, .val (.double (FP.i2d hi)), .second, .val (.ref b18), .val (.ref b19), .unset, .unset, .unset] [(.ref b19), (.ref b18), (.ref b46), (.ref b46)])) rfl (by rw [hml]; rfl) (Steps.refl _) (a := b46) (argsL := [(.ref b18), (.ref b19)]) (rest := [(.ref b46)]) (lenOf pd___D_D_V rfl) rfl (by show 2 * 0 + _ ≤ _; exact Nat.le_of_eq rfl) (hb hby at_193) (fun _ _ => ⟨rfl, e46, (by decide : 3 + 0 ≤ _), (by decide : 8 + 0 ≤ _)⟩)
    dsimp only [Pt.U, Pt.locs, Pt.cells, Pt.slots] at X47 l47 y47 z47 st47 hQ47
    subst l47 y47 z47
    obtain ⟨rfl, Nq47, Kq47, gE47, gL47, gU47⟩ := hQ47
    have N47 := Fr.app N44 Nq47
    have Z47 : n0 ≤ T47.heap.size := Nat.le_trans Z46 Kq47.1
    have K47 : Keep h0 T47.heap [] := Keep.trans K46 Kq47 (allS (Or.inr sz_b46) all0)
    have f48 := ((f45.ext E46).keep Kq47 (ninS ne_b18_b46 nin0))
    have f49 := ((V44.ext E46).keep Kq47 (ninS ne_b19_b46 nin0))
    obtain ⟨cq50, kq50, q50a, q50b, q50c⟩ := isOf hZ rfl gE47
    obtain ⟨_, _, ⟨T50, L50, kc50, ks50⟩, -, X50, ⟨Lc50, hQ50, l50, y50, z50⟩, st50⟩ := X47.virtualBack hx (y := (⟨"com/example/formula_to_strategy/formulatostrategy/engine/ValueBounds", "value", "(I)D"⟩ : MethodName)) (z := (⟨"com/example/formula_to_strategy/formulatostrategy/engine/ValueBounds", "value", "(I)D"⟩ : MethodName)) hown (mvT hZ (wd24 hw)) (mvT hZ (wd25 hw)) (notFace_of_selects (args := #[]) (mvT hZ (wd27 hw))) (mvT hZ (wd27 hw)) (mvT hZ (wd26 hw)) (by decide) (backOf (W := 0) (rmVal l Z a0 hw [] b46 (0 : Int32) b18 b19 _ _ _ _ lw hg T47.heap n0 Z47 gL47 gU47 f48 f49 ⟨by decide, by decide⟩ rfl rfl (own_nn hlh hj5)) hZ (wd28 hw) (wd13 hw) (by decide) (by decide)) q50a q50c (g := (mkF m 202 #[.val (.int x0), .val (.int x1), .val (.int x2), .val (.int x3), .val (.int (0 : Int32)), .val (.int mm), .val (.double (9218868437227405312 : UInt64)), .second, .val (.int lo), .val (.int hi), .val (.double lw), .second, .val (.double hg), .second, .val (.double (FP.i2d hi)), .second, .val (.ref b18), .val (.ref b19), .val (.ref b46), .unset, .unset] [(.int (0 : Int32)), (.ref b46)])) rfl (by rw [hml]; rfl) (Steps.refl _) (argsL := [(.int (0 : Int32))]) (rest := []) (lenOf pd__I_D rfl) rfl (by show 2 * 0 + _ ≤ _; exact Nat.le_of_eq rfl) (hb hby at_202) (fun _ _ => ⟨rfl, rfl, (by decide : 3 + 0 ≤ _), (by decide : 8 + 0 ≤ _)⟩)
    dsimp only [Pt.U, Pt.locs, Pt.cells, Pt.slots] at X50 l50 y50 z50 st50 hQ50
    subst l50 y50 z50
    obtain ⟨rfl, Nq50, eq50⟩ := hQ50
    have N50 := Fr.app N47 Nq50
    have k51 : ∀ t, Steps p.tables e below (T50.setTop (mkF m 210 #[.val (.int x0), .val (.int x1), .val (.int x2), .val (.int x3), .val (.int (0 : Int32)), .val (.int mm), .val (.double (9218868437227405312 : UInt64)), .second, .val (.int lo), .val (.int hi), .val (.double lw), .second, .val (.double hg), .second, .val (.double (FP.i2d hi)), .second, .val (.ref b18), .val (.ref b19), .val (.ref b46), .val (.double (own_val lw hg)), .second] [(.int (1 : Int32)), (.int mm)])) t → Steps p.tables e below (s₁.setTop (entryFrame m #[(.int x0), (.int x1), (.int x2), (.int x3)] maxLocals)) t := by
      intro t kt
      refine k38 t ?_
      show Steps p.tables e below (T37.setTop (mkF m 171 #[.val (.int x0), .val (.int x1), .val (.int x2), .val (.int x3), .val (.int (0 : Int32)), .val (.int mm), .val (.double (9218868437227405312 : UInt64)), .second, .val (.int lo), .val (.int hi), .val (.double lw), .second, .val (.double hg), .second, .val (.double (FP.i2d hi)), .second, .val (.ref b18), .val (.ref b19), .unset, .unset, .unset] [])) _
      refine XS.aload X37.here hx rfl (hb hby at_171) rfl rfl ?_
      show Steps p.tables e below (T37.setTop (mkF m 173 #[.val (.int x0), .val (.int x1), .val (.int x2), .val (.int x3), .val (.int (0 : Int32)), .val (.int mm), .val (.double (9218868437227405312 : UInt64)), .second, .val (.int lo), .val (.int hi), .val (.double lw), .second, .val (.double hg), .second, .val (.double (FP.i2d hi)), .second, .val (.ref b18), .val (.ref b19), .unset, .unset, .unset] [(.ref b18)])) _
      refine XS.iload X37.here hx rfl (hb hby at_173) rfl ?_
      show Steps p.tables e below (T37.setTop (mkF m 175 #[.val (.int x0), .val (.int x1), .val (.int x2), .val (.int x3), .val (.int (0 : Int32)), .val (.int mm), .val (.double (9218868437227405312 : UInt64)), .second, .val (.int lo), .val (.int hi), .val (.double lw), .second, .val (.double hg), .second, .val (.double (FP.i2d hi)), .second, .val (.ref b18), .val (.ref b19), .unset, .unset, .unset] [(.int (0 : Int32)), (.ref b18)])) _
      refine XS.dload X37.here hx rfl (hb hby at_175) rfl ?_
      show Steps p.tables e below (T37.setTop (mkF m 177 #[.val (.int x0), .val (.int x1), .val (.int x2), .val (.int x3), .val (.int (0 : Int32)), .val (.int mm), .val (.double (9218868437227405312 : UInt64)), .second, .val (.int lo), .val (.int hi), .val (.double lw), .second, .val (.double hg), .second, .val (.double (FP.i2d hi)), .second, .val (.ref b18), .val (.ref b19), .unset, .unset, .unset] [(.double lw), (.int (0 : Int32)), (.ref b18)])) _
      refine st41 _ ?_
      show Steps p.tables e below (T41.setTop (mkF m 178 #[.val (.int x0), .val (.int x1), .val (.int x2), .val (.int x3), .val (.int (0 : Int32)), .val (.int mm), .val (.double (9218868437227405312 : UInt64)), .second, .val (.int lo), .val (.int hi), .val (.double lw), .second, .val (.double hg), .second, .val (.double (FP.i2d hi)), .second, .val (.ref b18), .val (.ref b19), .unset, .unset, .unset] [])) _
      refine XS.aload X41.here hx rfl (hb hby at_178) rfl rfl ?_
      show Steps p.tables e below (T41.setTop (mkF m 180 #[.val (.int x0), .val (.int x1), .val (.int x2), .val (.int x3), .val (.int (0 : Int32)), .val (.int mm), .val (.double (9218868437227405312 : UInt64)), .second, .val (.int lo), .val (.int hi), .val (.double lw), .second, .val (.double hg), .second, .val (.double (FP.i2d hi)), .second, .val (.ref b18), .val (.ref b19), .unset, .unset, .unset] [(.ref b19)])) _
      refine XS.iload X41.here hx rfl (hb hby at_180) rfl ?_
      show Steps p.tables e below (T41.setTop (mkF m 182 #[.val (.int x0), .val (.int x1), .val (.int x2), .val (.int x3), .val (.int (0 : Int32)), .val (.int mm), .val (.double (9218868437227405312 : UInt64)), .second, .val (.int lo), .val (.int hi), .val (.double lw), .second, .val (.double hg), .second, .val (.double (FP.i2d hi)), .second, .val (.ref b18), .val (.ref b19), .unset, .unset, .unset] [(.int (0 : Int32)), (.ref b19)])) _
      refine XS.dload X41.here hx rfl (hb hby at_182) rfl ?_
      show Steps p.tables e below (T41.setTop (mkF m 184 #[.val (.int x0), .val (.int x1), .val (.int x2), .val (.int x3), .val (.int (0 : Int32)), .val (.int mm), .val (.double (9218868437227405312 : UInt64)), .second, .val (.int lo), .val (.int hi), .val (.double lw), .second, .val (.double hg), .second, .val (.double (FP.i2d hi)), .second, .val (.ref b18), .val (.ref b19), .unset, .unset, .unset] [(.double hg), (.int (0 : Int32)), (.ref b19)])) _
      refine st44 _ ?_
      show Steps p.tables e below (T44.setTop (mkF m 185 #[.val (.int x0), .val (.int x1), .val (.int x2), .val (.int x3), .val (.int (0 : Int32)), .val (.int mm), .val (.double (9218868437227405312 : UInt64)), .second, .val (.int lo), .val (.int hi), .val (.double lw), .second, .val (.double hg), .second, .val (.double (FP.i2d hi)), .second, .val (.ref b18), .val (.ref b19), .unset, .unset, .unset] [])) _
      refine st46 _ ?_
      show Steps p.tables e below (T46.setTop (mkF m 188 #[.val (.int x0), .val (.int x1), .val (.int x2), .val (.int x3), .val (.int (0 : Int32)), .val (.int mm), .val (.double (9218868437227405312 : UInt64)), .second, .val (.int lo), .val (.int hi), .val (.double lw), .second, .val (.double hg), .second, .val (.double (FP.i2d hi)), .second, .val (.ref b18), .val (.ref b19), .unset, .unset, .unset] [(.ref b46)])) _
      refine XS.dup X46.here hx rfl (hb hby at_188) rfl rfl ?_
      show Steps p.tables e below (T46.setTop (mkF m 189 #[.val (.int x0), .val (.int x1), .val (.int x2), .val (.int x3), .val (.int (0 : Int32)), .val (.int mm), .val (.double (9218868437227405312 : UInt64)), .second, .val (.int lo), .val (.int hi), .val (.double lw), .second, .val (.double hg), .second, .val (.double (FP.i2d hi)), .second, .val (.ref b18), .val (.ref b19), .unset, .unset, .unset] [(.ref b46), (.ref b46)])) _
      refine XS.aload X46.here hx rfl (hb hby at_189) rfl rfl ?_
      show Steps p.tables e below (T46.setTop (mkF m 191 #[.val (.int x0), .val (.int x1), .val (.int x2), .val (.int x3), .val (.int (0 : Int32)), .val (.int mm), .val (.double (9218868437227405312 : UInt64)), .second, .val (.int lo), .val (.int hi), .val (.double lw), .second, .val (.double hg), .second, .val (.double (FP.i2d hi)), .second, .val (.ref b18), .val (.ref b19), .unset, .unset, .unset] [(.ref b18), (.ref b46), (.ref b46)])) _
      refine XS.aload X46.here hx rfl (hb hby at_191) rfl rfl ?_
      show Steps p.tables e below (T46.setTop (mkF m 193 #[.val (.int x0), .val (.int x1), .val (.int x2), .val (.int x3), .val (.int (0 : Int32)), .val (.int mm), .val (.double (9218868437227405312 : UInt64)), .second, .val (.int lo), .val (.int hi), .val (.double lw), .second, .val (.double hg), .second, .val (.double (FP.i2d hi)), .second, .val (.ref b18), .val (.ref b19), .unset, .unset, .unset] [(.ref b19), (.ref b18), (.ref b46), (.ref b46)])) _
      refine st47.trans ?_
      show Steps p.tables e below (T47.setTop (mkF m 196 #[.val (.int x0), .val (.int x1), .val (.int x2), .val (.int x3), .val (.int (0 : Int32)), .val (.int mm), .val (.double (9218868437227405312 : UInt64)), .second, .val (.int lo), .val (.int hi), .val (.double lw), .second, .val (.double hg), .second, .val (.double (FP.i2d hi)), .second, .val (.ref b18), .val (.ref b19), .unset, .unset, .unset] [(.ref b46)])) _
      refine XS.astore X47.here hx rfl (hb hby at_196) rfl rfl (l' := #[.val (.int x0), .val (.int x1), .val (.int x2), .val (.int x3), .val (.int (0 : Int32)), .val (.int mm), .val (.double (9218868437227405312 : UInt64)), .second, .val (.int lo), .val (.int hi), .val (.double lw), .second, .val (.double hg), .second, .val (.double (FP.i2d hi)), .second, .val (.ref b18), .val (.ref b19), .val (.ref b46), .unset, .unset]) rfl ?_
      show Steps p.tables e below (T47.setTop (mkF m 198 #[.val (.int x0), .val (.int x1), .val (.int x2), .val (.int x3), .val (.int (0 : Int32)), .val (.int mm), .val (.double (9218868437227405312 : UInt64)), .second, .val (.int lo), .val (.int hi), .val (.double lw), .second, .val (.double hg), .second, .val (.double (FP.i2d hi)), .second, .val (.ref b18), .val (.ref b19), .val (.ref b46), .unset, .unset] [])) _
      refine XS.aload X47.here hx rfl (hb hby at_198) rfl rfl ?_
      show Steps p.tables e below (T47.setTop (mkF m 200 #[.val (.int x0), .val (.int x1), .val (.int x2), .val (.int x3), .val (.int (0 : Int32)), .val (.int mm), .val (.double (9218868437227405312 : UInt64)), .second, .val (.int lo), .val (.int hi), .val (.double lw), .second, .val (.double hg), .second, .val (.double (FP.i2d hi)), .second, .val (.ref b18), .val (.ref b19), .val (.ref b46), .unset, .unset] [(.ref b46)])) _
      refine XS.iload X47.here hx rfl (hb hby at_200) rfl ?_
      show Steps p.tables e below (T47.setTop (mkF m 202 #[.val (.int x0), .val (.int x1), .val (.int x2), .val (.int x3), .val (.int (0 : Int32)), .val (.int mm), .val (.double (9218868437227405312 : UInt64)), .second, .val (.int lo), .val (.int hi), .val (.double lw), .second, .val (.double hg), .second, .val (.double (FP.i2d hi)), .second, .val (.ref b18), .val (.ref b19), .val (.ref b46), .unset, .unset] [(.int (0 : Int32)), (.ref b46)])) _
      refine st50.trans ?_
      show Steps p.tables e below (T50.setTop (mkF m 205 #[.val (.int x0), .val (.int x1), .val (.int x2), .val (.int x3), .val (.int (0 : Int32)), .val (.int mm), .val (.double (9218868437227405312 : UInt64)), .second, .val (.int lo), .val (.int hi), .val (.double lw), .second, .val (.double hg), .second, .val (.double (FP.i2d hi)), .second, .val (.ref b18), .val (.ref b19), .val (.ref b46), .unset, .unset] [(.double (own_val lw hg))])) _
      refine XS.dstore X50.here hx rfl (hb hby at_205) rfl (l' := #[.val (.int x0), .val (.int x1), .val (.int x2), .val (.int x3), .val (.int (0 : Int32)), .val (.int mm), .val (.double (9218868437227405312 : UInt64)), .second, .val (.int lo), .val (.int hi), .val (.double lw), .second, .val (.double hg), .second, .val (.double (FP.i2d hi)), .second, .val (.ref b18), .val (.ref b19), .val (.ref b46), .val (.double (own_val lw hg)), .second]) rfl ?_
      show Steps p.tables e below (T50.setTop (mkF m 207 #[.val (.int x0), .val (.int x1), .val (.int x2), .val (.int x3), .val (.int (0 : Int32)), .val (.int mm), .val (.double (9218868437227405312 : UInt64)), .second, .val (.int lo), .val (.int hi), .val (.double lw), .second, .val (.double hg), .second, .val (.double (FP.i2d hi)), .second, .val (.ref b18), .val (.ref b19), .val (.ref b46), .val (.double (own_val lw hg)), .second] [])) _
      refine XS.iload X50.here hx rfl (hb hby at_207) rfl ?_
      show Steps p.tables e below (T50.setTop (mkF m 209 #[.val (.int x0), .val (.int x1), .val (.int x2), .val (.int x3), .val (.int (0 : Int32)), .val (.int mm), .val (.double (9218868437227405312 : UInt64)), .second, .val (.int lo), .val (.int hi), .val (.double lw), .second, .val (.double hg), .second, .val (.double (FP.i2d hi)), .second, .val (.ref b18), .val (.ref b19), .val (.ref b46), .val (.double (own_val lw hg)), .second] [(.int mm)])) _
      refine XS.iconst X50.here hx rfl (hb hby at_209) ?_
      exact kt
    by_cases hc52 : mm = (1 : Int32)
    · skip
      obtain ⟨lfs, lhr, lhrun, lhended, lhW, lhsame⟩ := X50.leave (v := some (.int (1 : Int32))) (fun h => by rw [Bd.returns] at h; cases h)
      refine ⟨_, _, k51 _ ?_, lhrun, lhended, _, _, rfl, ?_, ⟨_, rfl⟩, lhW, lhsame.mono (by decide) (by decide)⟩
      · skip
        show Steps p.tables e below (T50.setTop (mkF m 210 #[.val (.int x0), .val (.int x1), .val (.int x2), .val (.int x3), .val (.int (0 : Int32)), .val (.int mm), .val (.double (9218868437227405312 : UInt64)), .second, .val (.int lo), .val (.int hi), .val (.double lw), .second, .val (.double hg), .second, .val (.double (FP.i2d hi)), .second, .val (.ref b18), .val (.ref b19), .val (.ref b46), .val (.double (own_val lw hg)), .second] [(.int (1 : Int32)), (.int mm)])) _
        refine XS.icmpNo X50.here hx rfl (hb hby at_210) rfl (teq hc52).2 ?_
        show Steps p.tables e below (T50.setTop (mkF m 213 #[.val (.int x0), .val (.int x1), .val (.int x2), .val (.int x3), .val (.int (0 : Int32)), .val (.int mm), .val (.double (9218868437227405312 : UInt64)), .second, .val (.int lo), .val (.int hi), .val (.double lw), .second, .val (.double hg), .second, .val (.double (FP.i2d hi)), .second, .val (.ref b18), .val (.ref b19), .val (.ref b46), .val (.double (own_val lw hg)), .second] [])) _
        refine XS.dload X50.here hx rfl (hb hby at_213) rfl ?_
        show Steps p.tables e below (T50.setTop (mkF m 215 #[.val (.int x0), .val (.int x1), .val (.int x2), .val (.int x3), .val (.int (0 : Int32)), .val (.int mm), .val (.double (9218868437227405312 : UInt64)), .second, .val (.int lo), .val (.int hi), .val (.double lw), .second, .val (.double hg), .second, .val (.double (FP.i2d hi)), .second, .val (.ref b18), .val (.ref b19), .val (.ref b46), .val (.double (own_val lw hg)), .second] [(.double (own_val lw hg))])) _
        refine XS.dload X50.here hx rfl (hb hby at_215) rfl ?_
        show Steps p.tables e below (T50.setTop (mkF m 217 #[.val (.int x0), .val (.int x1), .val (.int x2), .val (.int x3), .val (.int (0 : Int32)), .val (.int mm), .val (.double (9218868437227405312 : UInt64)), .second, .val (.int lo), .val (.int hi), .val (.double lw), .second, .val (.double hg), .second, .val (.double (FP.i2d hi)), .second, .val (.ref b18), .val (.ref b19), .val (.ref b46), .val (.double (own_val lw hg)), .second] [(.double lw), (.double (own_val lw hg))])) _
        refine XS.dcmpS X50.here hx rfl (hb hby at_217) rfl (own_t1 hj5 hc52) ?_
        show Steps p.tables e below (T50.setTop (mkF m 218 #[.val (.int x0), .val (.int x1), .val (.int x2), .val (.int x3), .val (.int (0 : Int32)), .val (.int mm), .val (.double (9218868437227405312 : UInt64)), .second, .val (.int lo), .val (.int hi), .val (.double lw), .second, .val (.double hg), .second, .val (.double (FP.i2d hi)), .second, .val (.ref b18), .val (.ref b19), .val (.ref b46), .val (.double (own_val lw hg)), .second] [(.int (0 : Int32))])) _
        refine XS.ifNo X50.here hx rfl (hb hby at_218) rfl ((if0 _ _).trans (teq (by decide : (0 : Int32) = (0 : Int32))).2) ?_
        show Steps p.tables e below (T50.setTop (mkF m 221 #[.val (.int x0), .val (.int x1), .val (.int x2), .val (.int x3), .val (.int (0 : Int32)), .val (.int mm), .val (.double (9218868437227405312 : UInt64)), .second, .val (.int lo), .val (.int hi), .val (.double lw), .second, .val (.double hg), .second, .val (.double (FP.i2d hi)), .second, .val (.ref b18), .val (.ref b19), .val (.ref b46), .val (.double (own_val lw hg)), .second] [])) _
        refine XS.iconst X50.here hx rfl (hb hby at_221) ?_
        show Steps p.tables e below (T50.setTop (mkF m 222 #[.val (.int x0), .val (.int x1), .val (.int x2), .val (.int x3), .val (.int (0 : Int32)), .val (.int mm), .val (.double (9218868437227405312 : UInt64)), .second, .val (.int lo), .val (.int hi), .val (.double lw), .second, .val (.double hg), .second, .val (.double (FP.i2d hi)), .second, .val (.ref b18), .val (.ref b19), .val (.ref b46), .val (.double (own_val lw hg)), .second] [(.int (1 : Int32))])) _
        refine XS.goto X50.here hx rfl (pc0 := 222) (pc' := 226) rfl (hb hby at_222) (by decide) (by decide) ?_
        show Steps p.tables e below (T50.setTop (mkF m 226 #[.val (.int x0), .val (.int x1), .val (.int x2), .val (.int x3), .val (.int (0 : Int32)), .val (.int mm), .val (.double (9218868437227405312 : UInt64)), .second, .val (.int lo), .val (.int hi), .val (.double lw), .second, .val (.double hg), .second, .val (.double (FP.i2d hi)), .second, .val (.ref b18), .val (.ref b19), .val (.ref b46), .val (.double (own_val lw hg)), .second] [(.int (1 : Int32))])) _
        exact retN X50 hx (t := .boolean) Bd.returns (by simp) (hb hby at_226) lhr
      · skip
        show Q0 Z x0 x1 x2 x3 h0 n0 _ T50.heap _
        rw [eq50]
        exact ⟨rfl, N50⟩
    · skip
      have k53 : ∀ t, Steps p.tables e below (T50.setTop (mkF m 230 #[.val (.int x0), .val (.int x1), .val (.int x2), .val (.int x3), .val (.int (0 : Int32)), .val (.int mm), .val (.double (9218868437227405312 : UInt64)), .second, .val (.int lo), .val (.int hi), .val (.double lw), .second, .val (.double hg), .second, .val (.double (FP.i2d hi)), .second, .val (.ref b18), .val (.ref b19), .val (.ref b46), .val (.double (own_val lw hg)), .second] [(.int (2 : Int32)), (.int mm)])) t → Steps p.tables e below (s₁.setTop (entryFrame m #[(.int x0), (.int x1), (.int x2), (.int x3)] maxLocals)) t := by
        intro t kt
        refine k51 t ?_
        show Steps p.tables e below (T50.setTop (mkF m 210 #[.val (.int x0), .val (.int x1), .val (.int x2), .val (.int x3), .val (.int (0 : Int32)), .val (.int mm), .val (.double (9218868437227405312 : UInt64)), .second, .val (.int lo), .val (.int hi), .val (.double lw), .second, .val (.double hg), .second, .val (.double (FP.i2d hi)), .second, .val (.ref b18), .val (.ref b19), .val (.ref b46), .val (.double (own_val lw hg)), .second] [(.int (1 : Int32)), (.int mm)])) _
        refine XS.icmpYes X50.here hx rfl (pc0 := 210) (pc' := 227) rfl (hb hby at_210) rfl (feq hc52).2 (by decide) (by decide) ?_
        show Steps p.tables e below (T50.setTop (mkF m 227 #[.val (.int x0), .val (.int x1), .val (.int x2), .val (.int x3), .val (.int (0 : Int32)), .val (.int mm), .val (.double (9218868437227405312 : UInt64)), .second, .val (.int lo), .val (.int hi), .val (.double lw), .second, .val (.double hg), .second, .val (.double (FP.i2d hi)), .second, .val (.ref b18), .val (.ref b19), .val (.ref b46), .val (.double (own_val lw hg)), .second] [])) _
        refine XS.iload X50.here hx rfl (hb hby at_227) rfl ?_
        show Steps p.tables e below (T50.setTop (mkF m 229 #[.val (.int x0), .val (.int x1), .val (.int x2), .val (.int x3), .val (.int (0 : Int32)), .val (.int mm), .val (.double (9218868437227405312 : UInt64)), .second, .val (.int lo), .val (.int hi), .val (.double lw), .second, .val (.double hg), .second, .val (.double (FP.i2d hi)), .second, .val (.ref b18), .val (.ref b19), .val (.ref b46), .val (.double (own_val lw hg)), .second] [(.int mm)])) _
        refine XS.iconst X50.here hx rfl (hb hby at_229) ?_
        exact kt
      by_cases hc54 : mm = (2 : Int32)
      · skip
        obtain ⟨lfs, lhr, lhrun, lhended, lhW, lhsame⟩ := X50.leave (v := some (.int (1 : Int32))) (fun h => by rw [Bd.returns] at h; cases h)
        refine ⟨_, _, k53 _ ?_, lhrun, lhended, _, _, rfl, ?_, ⟨_, rfl⟩, lhW, lhsame.mono (by decide) (by decide)⟩
        · skip
          show Steps p.tables e below (T50.setTop (mkF m 230 #[.val (.int x0), .val (.int x1), .val (.int x2), .val (.int x3), .val (.int (0 : Int32)), .val (.int mm), .val (.double (9218868437227405312 : UInt64)), .second, .val (.int lo), .val (.int hi), .val (.double lw), .second, .val (.double hg), .second, .val (.double (FP.i2d hi)), .second, .val (.ref b18), .val (.ref b19), .val (.ref b46), .val (.double (own_val lw hg)), .second] [(.int (2 : Int32)), (.int mm)])) _
          refine XS.icmpYes X50.here hx rfl (pc0 := 230) (pc' := 239) rfl (hb hby at_230) rfl (teq hc54).1 (by decide) (by decide) ?_
          show Steps p.tables e below (T50.setTop (mkF m 239 #[.val (.int x0), .val (.int x1), .val (.int x2), .val (.int x3), .val (.int (0 : Int32)), .val (.int mm), .val (.double (9218868437227405312 : UInt64)), .second, .val (.int lo), .val (.int hi), .val (.double lw), .second, .val (.double hg), .second, .val (.double (FP.i2d hi)), .second, .val (.ref b18), .val (.ref b19), .val (.ref b46), .val (.double (own_val lw hg)), .second] [])) _
          refine XS.dload X50.here hx rfl (hb hby at_239) rfl ?_
          show Steps p.tables e below (T50.setTop (mkF m 241 #[.val (.int x0), .val (.int x1), .val (.int x2), .val (.int x3), .val (.int (0 : Int32)), .val (.int mm), .val (.double (9218868437227405312 : UInt64)), .second, .val (.int lo), .val (.int hi), .val (.double lw), .second, .val (.double hg), .second, .val (.double (FP.i2d hi)), .second, .val (.ref b18), .val (.ref b19), .val (.ref b46), .val (.double (own_val lw hg)), .second] [(.double (own_val lw hg))])) _
          refine XS.dload X50.here hx rfl (hb hby at_241) rfl ?_
          show Steps p.tables e below (T50.setTop (mkF m 243 #[.val (.int x0), .val (.int x1), .val (.int x2), .val (.int x3), .val (.int (0 : Int32)), .val (.int mm), .val (.double (9218868437227405312 : UInt64)), .second, .val (.int lo), .val (.int hi), .val (.double lw), .second, .val (.double hg), .second, .val (.double (FP.i2d hi)), .second, .val (.ref b18), .val (.ref b19), .val (.ref b46), .val (.double (own_val lw hg)), .second] [(.double (9218868437227405312 : UInt64)), (.double (own_val lw hg))])) _
          refine XS.dcmpS X50.here hx rfl (hb hby at_243) rfl (own_t2 hj5 hc54) ?_
          show Steps p.tables e below (T50.setTop (mkF m 244 #[.val (.int x0), .val (.int x1), .val (.int x2), .val (.int x3), .val (.int (0 : Int32)), .val (.int mm), .val (.double (9218868437227405312 : UInt64)), .second, .val (.int lo), .val (.int hi), .val (.double lw), .second, .val (.double hg), .second, .val (.double (FP.i2d hi)), .second, .val (.ref b18), .val (.ref b19), .val (.ref b46), .val (.double (own_val lw hg)), .second] [(.int (0 : Int32))])) _
          refine XS.ifNo X50.here hx rfl (hb hby at_244) rfl ((if0 _ _).trans (teq (by decide : (0 : Int32) = (0 : Int32))).2) ?_
          show Steps p.tables e below (T50.setTop (mkF m 247 #[.val (.int x0), .val (.int x1), .val (.int x2), .val (.int x3), .val (.int (0 : Int32)), .val (.int mm), .val (.double (9218868437227405312 : UInt64)), .second, .val (.int lo), .val (.int hi), .val (.double lw), .second, .val (.double hg), .second, .val (.double (FP.i2d hi)), .second, .val (.ref b18), .val (.ref b19), .val (.ref b46), .val (.double (own_val lw hg)), .second] [])) _
          refine XS.iconst X50.here hx rfl (hb hby at_247) ?_
          show Steps p.tables e below (T50.setTop (mkF m 248 #[.val (.int x0), .val (.int x1), .val (.int x2), .val (.int x3), .val (.int (0 : Int32)), .val (.int mm), .val (.double (9218868437227405312 : UInt64)), .second, .val (.int lo), .val (.int hi), .val (.double lw), .second, .val (.double hg), .second, .val (.double (FP.i2d hi)), .second, .val (.ref b18), .val (.ref b19), .val (.ref b46), .val (.double (own_val lw hg)), .second] [(.int (1 : Int32))])) _
          refine XS.goto X50.here hx rfl (pc0 := 248) (pc' := 252) rfl (hb hby at_248) (by decide) (by decide) ?_
          show Steps p.tables e below (T50.setTop (mkF m 252 #[.val (.int x0), .val (.int x1), .val (.int x2), .val (.int x3), .val (.int (0 : Int32)), .val (.int mm), .val (.double (9218868437227405312 : UInt64)), .second, .val (.int lo), .val (.int hi), .val (.double lw), .second, .val (.double hg), .second, .val (.double (FP.i2d hi)), .second, .val (.ref b18), .val (.ref b19), .val (.ref b46), .val (.double (own_val lw hg)), .second] [(.int (1 : Int32))])) _
          exact retN X50 hx (t := .boolean) Bd.returns (by simp) (hb hby at_252) lhr
        · skip
          show Q0 Z x0 x1 x2 x3 h0 n0 _ T50.heap _
          rw [eq50]
          exact ⟨rfl, N50⟩
      · skip
        have k55 : ∀ t, Steps p.tables e below (T50.setTop (mkF m 236 #[.val (.int x0), .val (.int x1), .val (.int x2), .val (.int x3), .val (.int (0 : Int32)), .val (.int mm), .val (.double (9218868437227405312 : UInt64)), .second, .val (.int lo), .val (.int hi), .val (.double lw), .second, .val (.double hg), .second, .val (.double (FP.i2d hi)), .second, .val (.ref b18), .val (.ref b19), .val (.ref b46), .val (.double (own_val lw hg)), .second] [(.int (4 : Int32)), (.int mm)])) t → Steps p.tables e below (s₁.setTop (entryFrame m #[(.int x0), (.int x1), (.int x2), (.int x3)] maxLocals)) t := by
          intro t kt
          refine k53 t ?_
          show Steps p.tables e below (T50.setTop (mkF m 230 #[.val (.int x0), .val (.int x1), .val (.int x2), .val (.int x3), .val (.int (0 : Int32)), .val (.int mm), .val (.double (9218868437227405312 : UInt64)), .second, .val (.int lo), .val (.int hi), .val (.double lw), .second, .val (.double hg), .second, .val (.double (FP.i2d hi)), .second, .val (.ref b18), .val (.ref b19), .val (.ref b46), .val (.double (own_val lw hg)), .second] [(.int (2 : Int32)), (.int mm)])) _
          refine XS.icmpNo X50.here hx rfl (hb hby at_230) rfl (feq hc54).1 ?_
          show Steps p.tables e below (T50.setTop (mkF m 233 #[.val (.int x0), .val (.int x1), .val (.int x2), .val (.int x3), .val (.int (0 : Int32)), .val (.int mm), .val (.double (9218868437227405312 : UInt64)), .second, .val (.int lo), .val (.int hi), .val (.double lw), .second, .val (.double hg), .second, .val (.double (FP.i2d hi)), .second, .val (.ref b18), .val (.ref b19), .val (.ref b46), .val (.double (own_val lw hg)), .second] [])) _
          refine XS.iload X50.here hx rfl (hb hby at_233) rfl ?_
          show Steps p.tables e below (T50.setTop (mkF m 235 #[.val (.int x0), .val (.int x1), .val (.int x2), .val (.int x3), .val (.int (0 : Int32)), .val (.int mm), .val (.double (9218868437227405312 : UInt64)), .second, .val (.int lo), .val (.int hi), .val (.double lw), .second, .val (.double hg), .second, .val (.double (FP.i2d hi)), .second, .val (.ref b18), .val (.ref b19), .val (.ref b46), .val (.double (own_val lw hg)), .second] [(.int mm)])) _
          refine XS.iconst X50.here hx rfl (hb hby at_235) ?_
          exact kt
        by_cases hc56 : mm = (4 : Int32)
        · skip
          obtain ⟨lfs, lhr, lhrun, lhended, lhW, lhsame⟩ := X50.leave (v := some (.int (1 : Int32))) (fun h => by rw [Bd.returns] at h; cases h)
          refine ⟨_, _, k55 _ ?_, lhrun, lhended, _, _, rfl, ?_, ⟨_, rfl⟩, lhW, lhsame.mono (by decide) (by decide)⟩
          · skip
            show Steps p.tables e below (T50.setTop (mkF m 236 #[.val (.int x0), .val (.int x1), .val (.int x2), .val (.int x3), .val (.int (0 : Int32)), .val (.int mm), .val (.double (9218868437227405312 : UInt64)), .second, .val (.int lo), .val (.int hi), .val (.double lw), .second, .val (.double hg), .second, .val (.double (FP.i2d hi)), .second, .val (.ref b18), .val (.ref b19), .val (.ref b46), .val (.double (own_val lw hg)), .second] [(.int (4 : Int32)), (.int mm)])) _
            refine XS.icmpNo X50.here hx rfl (hb hby at_236) rfl (teq hc56).2 ?_
            show Steps p.tables e below (T50.setTop (mkF m 239 #[.val (.int x0), .val (.int x1), .val (.int x2), .val (.int x3), .val (.int (0 : Int32)), .val (.int mm), .val (.double (9218868437227405312 : UInt64)), .second, .val (.int lo), .val (.int hi), .val (.double lw), .second, .val (.double hg), .second, .val (.double (FP.i2d hi)), .second, .val (.ref b18), .val (.ref b19), .val (.ref b46), .val (.double (own_val lw hg)), .second] [])) _
            refine XS.dload X50.here hx rfl (hb hby at_239) rfl ?_
            show Steps p.tables e below (T50.setTop (mkF m 241 #[.val (.int x0), .val (.int x1), .val (.int x2), .val (.int x3), .val (.int (0 : Int32)), .val (.int mm), .val (.double (9218868437227405312 : UInt64)), .second, .val (.int lo), .val (.int hi), .val (.double lw), .second, .val (.double hg), .second, .val (.double (FP.i2d hi)), .second, .val (.ref b18), .val (.ref b19), .val (.ref b46), .val (.double (own_val lw hg)), .second] [(.double (own_val lw hg))])) _
            refine XS.dload X50.here hx rfl (hb hby at_241) rfl ?_
            show Steps p.tables e below (T50.setTop (mkF m 243 #[.val (.int x0), .val (.int x1), .val (.int x2), .val (.int x3), .val (.int (0 : Int32)), .val (.int mm), .val (.double (9218868437227405312 : UInt64)), .second, .val (.int lo), .val (.int hi), .val (.double lw), .second, .val (.double hg), .second, .val (.double (FP.i2d hi)), .second, .val (.ref b18), .val (.ref b19), .val (.ref b46), .val (.double (own_val lw hg)), .second] [(.double (9218868437227405312 : UInt64)), (.double (own_val lw hg))])) _
            refine XS.dcmpS X50.here hx rfl (hb hby at_243) rfl (own_t4 hj5 hc56) ?_
            show Steps p.tables e below (T50.setTop (mkF m 244 #[.val (.int x0), .val (.int x1), .val (.int x2), .val (.int x3), .val (.int (0 : Int32)), .val (.int mm), .val (.double (9218868437227405312 : UInt64)), .second, .val (.int lo), .val (.int hi), .val (.double lw), .second, .val (.double hg), .second, .val (.double (FP.i2d hi)), .second, .val (.ref b18), .val (.ref b19), .val (.ref b46), .val (.double (own_val lw hg)), .second] [(.int (0 : Int32))])) _
            refine XS.ifNo X50.here hx rfl (hb hby at_244) rfl ((if0 _ _).trans (teq (by decide : (0 : Int32) = (0 : Int32))).2) ?_
            show Steps p.tables e below (T50.setTop (mkF m 247 #[.val (.int x0), .val (.int x1), .val (.int x2), .val (.int x3), .val (.int (0 : Int32)), .val (.int mm), .val (.double (9218868437227405312 : UInt64)), .second, .val (.int lo), .val (.int hi), .val (.double lw), .second, .val (.double hg), .second, .val (.double (FP.i2d hi)), .second, .val (.ref b18), .val (.ref b19), .val (.ref b46), .val (.double (own_val lw hg)), .second] [])) _
            refine XS.iconst X50.here hx rfl (hb hby at_247) ?_
            show Steps p.tables e below (T50.setTop (mkF m 248 #[.val (.int x0), .val (.int x1), .val (.int x2), .val (.int x3), .val (.int (0 : Int32)), .val (.int mm), .val (.double (9218868437227405312 : UInt64)), .second, .val (.int lo), .val (.int hi), .val (.double lw), .second, .val (.double hg), .second, .val (.double (FP.i2d hi)), .second, .val (.ref b18), .val (.ref b19), .val (.ref b46), .val (.double (own_val lw hg)), .second] [(.int (1 : Int32))])) _
            refine XS.goto X50.here hx rfl (pc0 := 248) (pc' := 252) rfl (hb hby at_248) (by decide) (by decide) ?_
            show Steps p.tables e below (T50.setTop (mkF m 252 #[.val (.int x0), .val (.int x1), .val (.int x2), .val (.int x3), .val (.int (0 : Int32)), .val (.int mm), .val (.double (9218868437227405312 : UInt64)), .second, .val (.int lo), .val (.int hi), .val (.double lw), .second, .val (.double hg), .second, .val (.double (FP.i2d hi)), .second, .val (.ref b18), .val (.ref b19), .val (.ref b46), .val (.double (own_val lw hg)), .second] [(.int (1 : Int32))])) _
            exact retN X50 hx (t := .boolean) Bd.returns (by simp) (hb hby at_252) lhr
          · skip
            show Q0 Z x0 x1 x2 x3 h0 n0 _ T50.heap _
            rw [eq50]
            exact ⟨rfl, N50⟩
        · skip
          have k57 : ∀ t, Steps p.tables e below (T50.setTop (mkF m 256 #[.val (.int x0), .val (.int x1), .val (.int x2), .val (.int x3), .val (.int (0 : Int32)), .val (.int mm), .val (.double (9218868437227405312 : UInt64)), .second, .val (.int lo), .val (.int hi), .val (.double lw), .second, .val (.double hg), .second, .val (.double (FP.i2d hi)), .second, .val (.ref b18), .val (.ref b19), .val (.ref b46), .val (.double (own_val lw hg)), .second] [(.int (5 : Int32)), (.int mm)])) t → Steps p.tables e below (s₁.setTop (entryFrame m #[(.int x0), (.int x1), (.int x2), (.int x3)] maxLocals)) t := by
            intro t kt
            refine k55 t ?_
            show Steps p.tables e below (T50.setTop (mkF m 236 #[.val (.int x0), .val (.int x1), .val (.int x2), .val (.int x3), .val (.int (0 : Int32)), .val (.int mm), .val (.double (9218868437227405312 : UInt64)), .second, .val (.int lo), .val (.int hi), .val (.double lw), .second, .val (.double hg), .second, .val (.double (FP.i2d hi)), .second, .val (.ref b18), .val (.ref b19), .val (.ref b46), .val (.double (own_val lw hg)), .second] [(.int (4 : Int32)), (.int mm)])) _
            refine XS.icmpYes X50.here hx rfl (pc0 := 236) (pc' := 253) rfl (hb hby at_236) rfl (feq hc56).2 (by decide) (by decide) ?_
            show Steps p.tables e below (T50.setTop (mkF m 253 #[.val (.int x0), .val (.int x1), .val (.int x2), .val (.int x3), .val (.int (0 : Int32)), .val (.int mm), .val (.double (9218868437227405312 : UInt64)), .second, .val (.int lo), .val (.int hi), .val (.double lw), .second, .val (.double hg), .second, .val (.double (FP.i2d hi)), .second, .val (.ref b18), .val (.ref b19), .val (.ref b46), .val (.double (own_val lw hg)), .second] [])) _
            refine XS.iload X50.here hx rfl (hb hby at_253) rfl ?_
            show Steps p.tables e below (T50.setTop (mkF m 255 #[.val (.int x0), .val (.int x1), .val (.int x2), .val (.int x3), .val (.int (0 : Int32)), .val (.int mm), .val (.double (9218868437227405312 : UInt64)), .second, .val (.int lo), .val (.int hi), .val (.double lw), .second, .val (.double hg), .second, .val (.double (FP.i2d hi)), .second, .val (.ref b18), .val (.ref b19), .val (.ref b46), .val (.double (own_val lw hg)), .second] [(.int mm)])) _
            refine XS.iconst X50.here hx rfl (hb hby at_255) ?_
            exact kt
          by_cases hc58 : mm = (5 : Int32)
          · skip
            obtain ⟨lfs, lhr, lhrun, lhended, lhW, lhsame⟩ := X50.leave (v := some (.int (1 : Int32))) (fun h => by rw [Bd.returns] at h; cases h)
            refine ⟨_, _, k57 _ ?_, lhrun, lhended, _, _, rfl, ?_, ⟨_, rfl⟩, lhW, lhsame.mono (by decide) (by decide)⟩
            · skip
              show Steps p.tables e below (T50.setTop (mkF m 256 #[.val (.int x0), .val (.int x1), .val (.int x2), .val (.int x3), .val (.int (0 : Int32)), .val (.int mm), .val (.double (9218868437227405312 : UInt64)), .second, .val (.int lo), .val (.int hi), .val (.double lw), .second, .val (.double hg), .second, .val (.double (FP.i2d hi)), .second, .val (.ref b18), .val (.ref b19), .val (.ref b46), .val (.double (own_val lw hg)), .second] [(.int (5 : Int32)), (.int mm)])) _
              refine XS.icmpNo X50.here hx rfl (hb hby at_256) rfl (teq hc58).2 ?_
              show Steps p.tables e below (T50.setTop (mkF m 259 #[.val (.int x0), .val (.int x1), .val (.int x2), .val (.int x3), .val (.int (0 : Int32)), .val (.int mm), .val (.double (9218868437227405312 : UInt64)), .second, .val (.int lo), .val (.int hi), .val (.double lw), .second, .val (.double hg), .second, .val (.double (FP.i2d hi)), .second, .val (.ref b18), .val (.ref b19), .val (.ref b46), .val (.double (own_val lw hg)), .second] [])) _
              refine XS.dload X50.here hx rfl (hb hby at_259) rfl ?_
              show Steps p.tables e below (T50.setTop (mkF m 261 #[.val (.int x0), .val (.int x1), .val (.int x2), .val (.int x3), .val (.int (0 : Int32)), .val (.int mm), .val (.double (9218868437227405312 : UInt64)), .second, .val (.int lo), .val (.int hi), .val (.double lw), .second, .val (.double hg), .second, .val (.double (FP.i2d hi)), .second, .val (.ref b18), .val (.ref b19), .val (.ref b46), .val (.double (own_val lw hg)), .second] [(.double (own_val lw hg))])) _
              refine XS.dload X50.here hx rfl (hb hby at_261) rfl ?_
              show Steps p.tables e below (T50.setTop (mkF m 263 #[.val (.int x0), .val (.int x1), .val (.int x2), .val (.int x3), .val (.int (0 : Int32)), .val (.int mm), .val (.double (9218868437227405312 : UInt64)), .second, .val (.int lo), .val (.int hi), .val (.double lw), .second, .val (.double hg), .second, .val (.double (FP.i2d hi)), .second, .val (.ref b18), .val (.ref b19), .val (.ref b46), .val (.double (own_val lw hg)), .second] [(.double (9218868437227405312 : UInt64)), (.double (own_val lw hg))])) _
              refine XS.dnegS X50.here hx rfl (hb hby at_263) rfl rfl ?_
              show Steps p.tables e below (T50.setTop (mkF m 264 #[.val (.int x0), .val (.int x1), .val (.int x2), .val (.int x3), .val (.int (0 : Int32)), .val (.int mm), .val (.double (9218868437227405312 : UInt64)), .second, .val (.int lo), .val (.int hi), .val (.double lw), .second, .val (.double hg), .second, .val (.double (FP.i2d hi)), .second, .val (.ref b18), .val (.ref b19), .val (.ref b46), .val (.double (own_val lw hg)), .second] [(.double (FP.dneg (9218868437227405312 : UInt64))), (.double (own_val lw hg))])) _
              refine XS.dcmpS X50.here hx rfl (hb hby at_264) rfl (own_t5 hj5 hc58) ?_
              show Steps p.tables e below (T50.setTop (mkF m 265 #[.val (.int x0), .val (.int x1), .val (.int x2), .val (.int x3), .val (.int (0 : Int32)), .val (.int mm), .val (.double (9218868437227405312 : UInt64)), .second, .val (.int lo), .val (.int hi), .val (.double lw), .second, .val (.double hg), .second, .val (.double (FP.i2d hi)), .second, .val (.ref b18), .val (.ref b19), .val (.ref b46), .val (.double (own_val lw hg)), .second] [(.int (0 : Int32))])) _
              refine XS.ifNo X50.here hx rfl (hb hby at_265) rfl ((if0 _ _).trans (teq (by decide : (0 : Int32) = (0 : Int32))).2) ?_
              show Steps p.tables e below (T50.setTop (mkF m 268 #[.val (.int x0), .val (.int x1), .val (.int x2), .val (.int x3), .val (.int (0 : Int32)), .val (.int mm), .val (.double (9218868437227405312 : UInt64)), .second, .val (.int lo), .val (.int hi), .val (.double lw), .second, .val (.double hg), .second, .val (.double (FP.i2d hi)), .second, .val (.ref b18), .val (.ref b19), .val (.ref b46), .val (.double (own_val lw hg)), .second] [])) _
              refine XS.iconst X50.here hx rfl (hb hby at_268) ?_
              show Steps p.tables e below (T50.setTop (mkF m 269 #[.val (.int x0), .val (.int x1), .val (.int x2), .val (.int x3), .val (.int (0 : Int32)), .val (.int mm), .val (.double (9218868437227405312 : UInt64)), .second, .val (.int lo), .val (.int hi), .val (.double lw), .second, .val (.double hg), .second, .val (.double (FP.i2d hi)), .second, .val (.ref b18), .val (.ref b19), .val (.ref b46), .val (.double (own_val lw hg)), .second] [(.int (1 : Int32))])) _
              refine XS.goto X50.here hx rfl (pc0 := 269) (pc' := 273) rfl (hb hby at_269) (by decide) (by decide) ?_
              show Steps p.tables e below (T50.setTop (mkF m 273 #[.val (.int x0), .val (.int x1), .val (.int x2), .val (.int x3), .val (.int (0 : Int32)), .val (.int mm), .val (.double (9218868437227405312 : UInt64)), .second, .val (.int lo), .val (.int hi), .val (.double lw), .second, .val (.double hg), .second, .val (.double (FP.i2d hi)), .second, .val (.ref b18), .val (.ref b19), .val (.ref b46), .val (.double (own_val lw hg)), .second] [(.int (1 : Int32))])) _
              exact retN X50 hx (t := .boolean) Bd.returns (by simp) (hb hby at_273) lhr
            · skip
              show Q0 Z x0 x1 x2 x3 h0 n0 _ T50.heap _
              rw [eq50]
              exact ⟨rfl, N50⟩
          · skip
            obtain ⟨lfs, lhr, lhrun, lhended, lhW, lhsame⟩ := X50.leave (v := some (.int (1 : Int32))) (fun h => by rw [Bd.returns] at h; cases h)
            refine ⟨_, _, k57 _ ?_, lhrun, lhended, _, _, rfl, ?_, ⟨_, rfl⟩, lhW, lhsame.mono (by decide) (by decide)⟩
            · skip
              show Steps p.tables e below (T50.setTop (mkF m 256 #[.val (.int x0), .val (.int x1), .val (.int x2), .val (.int x3), .val (.int (0 : Int32)), .val (.int mm), .val (.double (9218868437227405312 : UInt64)), .second, .val (.int lo), .val (.int hi), .val (.double lw), .second, .val (.double hg), .second, .val (.double (FP.i2d hi)), .second, .val (.ref b18), .val (.ref b19), .val (.ref b46), .val (.double (own_val lw hg)), .second] [(.int (5 : Int32)), (.int mm)])) _
              refine XS.icmpYes X50.here hx rfl (pc0 := 256) (pc' := 274) rfl (hb hby at_256) rfl (feq hc58).2 (by decide) (by decide) ?_
              show Steps p.tables e below (T50.setTop (mkF m 274 #[.val (.int x0), .val (.int x1), .val (.int x2), .val (.int x3), .val (.int (0 : Int32)), .val (.int mm), .val (.double (9218868437227405312 : UInt64)), .second, .val (.int lo), .val (.int hi), .val (.double lw), .second, .val (.double hg), .second, .val (.double (FP.i2d hi)), .second, .val (.ref b18), .val (.ref b19), .val (.ref b46), .val (.double (own_val lw hg)), .second] [])) _
              refine XS.dload X50.here hx rfl (hb hby at_274) rfl ?_
              show Steps p.tables e below (T50.setTop (mkF m 276 #[.val (.int x0), .val (.int x1), .val (.int x2), .val (.int x3), .val (.int (0 : Int32)), .val (.int mm), .val (.double (9218868437227405312 : UInt64)), .second, .val (.int lo), .val (.int hi), .val (.double lw), .second, .val (.double hg), .second, .val (.double (FP.i2d hi)), .second, .val (.ref b18), .val (.ref b19), .val (.ref b46), .val (.double (own_val lw hg)), .second] [(.double (own_val lw hg))])) _
              refine X50.ldc2DoubleC hx hown (mvT hZ (wd30 hw)) (g := (mkF m 276 #[.val (.int x0), .val (.int x1), .val (.int x2), .val (.int x3), .val (.int (0 : Int32)), .val (.int mm), .val (.double (9218868437227405312 : UInt64)), .second, .val (.int lo), .val (.int hi), .val (.double lw), .second, .val (.double hg), .second, .val (.double (FP.i2d hi)), .second, .val (.ref b18), .val (.ref b19), .val (.ref b46), .val (.double (own_val lw hg)), .second] [(.double (own_val lw hg))])) rfl (hb hby at_276) _ ?_
              show Steps p.tables e below (T50.setTop (mkF m 279 #[.val (.int x0), .val (.int x1), .val (.int x2), .val (.int x3), .val (.int (0 : Int32)), .val (.int mm), .val (.double (9218868437227405312 : UInt64)), .second, .val (.int lo), .val (.int hi), .val (.double lw), .second, .val (.double hg), .second, .val (.double (FP.i2d hi)), .second, .val (.ref b18), .val (.ref b19), .val (.ref b46), .val (.double (own_val lw hg)), .second] [(.double (4611686018427387904 : UInt64)), (.double (own_val lw hg))])) _
              refine XS.dmulS X50.here hx rfl (hb hby at_279) rfl (own_t0 hlh hj5 hc52 hc54 hc56 hc58).1 rfl ?_
              show Steps p.tables e below (T50.setTop (mkF m 280 #[.val (.int x0), .val (.int x1), .val (.int x2), .val (.int x3), .val (.int (0 : Int32)), .val (.int mm), .val (.double (9218868437227405312 : UInt64)), .second, .val (.int lo), .val (.int hi), .val (.double lw), .second, .val (.double hg), .second, .val (.double (FP.i2d hi)), .second, .val (.ref b18), .val (.ref b19), .val (.ref b46), .val (.double (own_val lw hg)), .second] [(.double (FP.dmul (own_val lw hg) (4611686018427387904 : UInt64)))])) _
              refine XS.iload X50.here hx rfl (hb hby at_280) rfl ?_
              show Steps p.tables e below (T50.setTop (mkF m 282 #[.val (.int x0), .val (.int x1), .val (.int x2), .val (.int x3), .val (.int (0 : Int32)), .val (.int mm), .val (.double (9218868437227405312 : UInt64)), .second, .val (.int lo), .val (.int hi), .val (.double lw), .second, .val (.double hg), .second, .val (.double (FP.i2d hi)), .second, .val (.ref b18), .val (.ref b19), .val (.ref b46), .val (.double (own_val lw hg)), .second] [(.int lo), (.double (FP.dmul (own_val lw hg) (4611686018427387904 : UInt64)))])) _
              refine XS.i2l X50.here hx rfl (hb hby at_282) rfl ?_
              show Steps p.tables e below (T50.setTop (mkF m 283 #[.val (.int x0), .val (.int x1), .val (.int x2), .val (.int x3), .val (.int (0 : Int32)), .val (.int mm), .val (.double (9218868437227405312 : UInt64)), .second, .val (.int lo), .val (.int hi), .val (.double lw), .second, .val (.double hg), .second, .val (.double (FP.i2d hi)), .second, .val (.ref b18), .val (.ref b19), .val (.ref b46), .val (.double (own_val lw hg)), .second] [(.long (lo.toInt64)), (.double (FP.dmul (own_val lw hg) (4611686018427387904 : UInt64)))])) _
              refine XS.iload X50.here hx rfl (hb hby at_283) rfl ?_
              show Steps p.tables e below (T50.setTop (mkF m 285 #[.val (.int x0), .val (.int x1), .val (.int x2), .val (.int x3), .val (.int (0 : Int32)), .val (.int mm), .val (.double (9218868437227405312 : UInt64)), .second, .val (.int lo), .val (.int hi), .val (.double lw), .second, .val (.double hg), .second, .val (.double (FP.i2d hi)), .second, .val (.ref b18), .val (.ref b19), .val (.ref b46), .val (.double (own_val lw hg)), .second] [(.int hi), (.long (lo.toInt64)), (.double (FP.dmul (own_val lw hg) (4611686018427387904 : UInt64)))])) _
              refine XS.i2l X50.here hx rfl (hb hby at_285) rfl ?_
              show Steps p.tables e below (T50.setTop (mkF m 286 #[.val (.int x0), .val (.int x1), .val (.int x2), .val (.int x3), .val (.int (0 : Int32)), .val (.int mm), .val (.double (9218868437227405312 : UInt64)), .second, .val (.int lo), .val (.int hi), .val (.double lw), .second, .val (.double hg), .second, .val (.double (FP.i2d hi)), .second, .val (.ref b18), .val (.ref b19), .val (.ref b46), .val (.double (own_val lw hg)), .second] [(.long (hi.toInt64)), (.long (lo.toInt64)), (.double (FP.dmul (own_val lw hg) (4611686018427387904 : UInt64)))])) _
              refine XS.ladd X50.here hx rfl (hb hby at_286) rfl ?_
              show Steps p.tables e below (T50.setTop (mkF m 287 #[.val (.int x0), .val (.int x1), .val (.int x2), .val (.int x3), .val (.int (0 : Int32)), .val (.int mm), .val (.double (9218868437227405312 : UInt64)), .second, .val (.int lo), .val (.int hi), .val (.double lw), .second, .val (.double hg), .second, .val (.double (FP.i2d hi)), .second, .val (.ref b18), .val (.ref b19), .val (.ref b46), .val (.double (own_val lw hg)), .second] [(.long ((lo.toInt64) + (hi.toInt64))), (.double (FP.dmul (own_val lw hg) (4611686018427387904 : UInt64)))])) _
              refine XS.l2dS X50.here hx rfl (hb hby at_287) rfl rfl ?_
              show Steps p.tables e below (T50.setTop (mkF m 288 #[.val (.int x0), .val (.int x1), .val (.int x2), .val (.int x3), .val (.int (0 : Int32)), .val (.int mm), .val (.double (9218868437227405312 : UInt64)), .second, .val (.int lo), .val (.int hi), .val (.double lw), .second, .val (.double hg), .second, .val (.double (FP.i2d hi)), .second, .val (.ref b18), .val (.ref b19), .val (.ref b46), .val (.double (own_val lw hg)), .second] [(.double (FP.l2d ((lo.toInt64) + (hi.toInt64)))), (.double (FP.dmul (own_val lw hg) (4611686018427387904 : UInt64)))])) _
              refine XS.dcmpS X50.here hx rfl (hb hby at_288) rfl (own_t0 hlh hj5 hc52 hc54 hc56 hc58).2 ?_
              show Steps p.tables e below (T50.setTop (mkF m 289 #[.val (.int x0), .val (.int x1), .val (.int x2), .val (.int x3), .val (.int (0 : Int32)), .val (.int mm), .val (.double (9218868437227405312 : UInt64)), .second, .val (.int lo), .val (.int hi), .val (.double lw), .second, .val (.double hg), .second, .val (.double (FP.i2d hi)), .second, .val (.ref b18), .val (.ref b19), .val (.ref b46), .val (.double (own_val lw hg)), .second] [(.int (0 : Int32))])) _
              refine XS.ifNo X50.here hx rfl (hb hby at_289) rfl ((if0 _ _).trans (teq (by decide : (0 : Int32) = (0 : Int32))).2) ?_
              show Steps p.tables e below (T50.setTop (mkF m 292 #[.val (.int x0), .val (.int x1), .val (.int x2), .val (.int x3), .val (.int (0 : Int32)), .val (.int mm), .val (.double (9218868437227405312 : UInt64)), .second, .val (.int lo), .val (.int hi), .val (.double lw), .second, .val (.double hg), .second, .val (.double (FP.i2d hi)), .second, .val (.ref b18), .val (.ref b19), .val (.ref b46), .val (.double (own_val lw hg)), .second] [])) _
              refine XS.iconst X50.here hx rfl (hb hby at_292) ?_
              show Steps p.tables e below (T50.setTop (mkF m 293 #[.val (.int x0), .val (.int x1), .val (.int x2), .val (.int x3), .val (.int (0 : Int32)), .val (.int mm), .val (.double (9218868437227405312 : UInt64)), .second, .val (.int lo), .val (.int hi), .val (.double lw), .second, .val (.double hg), .second, .val (.double (FP.i2d hi)), .second, .val (.ref b18), .val (.ref b19), .val (.ref b46), .val (.double (own_val lw hg)), .second] [(.int (1 : Int32))])) _
              refine XS.goto X50.here hx rfl (pc0 := 293) (pc' := 297) rfl (hb hby at_293) (by decide) (by decide) ?_
              show Steps p.tables e below (T50.setTop (mkF m 297 #[.val (.int x0), .val (.int x1), .val (.int x2), .val (.int x3), .val (.int (0 : Int32)), .val (.int mm), .val (.double (9218868437227405312 : UInt64)), .second, .val (.int lo), .val (.int hi), .val (.double lw), .second, .val (.double hg), .second, .val (.double (FP.i2d hi)), .second, .val (.ref b18), .val (.ref b19), .val (.ref b46), .val (.double (own_val lw hg)), .second] [(.int (1 : Int32))])) _
              exact retN X50 hx (t := .boolean) Bd.returns (by simp) (hb hby at_297) lhr
            · skip
              show Q0 Z x0 x1 x2 x3 h0 n0 _ T50.heap _
              rw [eq50]
              exact ⟨rfl, N50⟩
  · skip
    rw [(hk : ((x2 &&& (2147483647 : Int32)) % (3 : Int32)) = (1 : Int32))] at k38
    have f59 := (V34.other W37 ne_b18_b19)
    obtain ⟨cl60, Ar60, q60, S60, M60, HH60, GG60⟩ := id f59
    have hin60 : ¬ ((1 : Int32) < 0 ∨ cl60.slots.size ≤ ((1 : Int32)).toNatClampNeg) := inb_of S60 ⟨by decide, by decide⟩
    obtain ⟨T61, h61, X61, e61, W61, st61⟩ := stD X37 hx hZ e37 Ar60 (j := (1 : Int32)) hin60 (g := (mkF m 177 #[.val (.int x0), .val (.int x1), .val (.int x2), .val (.int x3), .val (.int (1 : Int32)), .val (.int mm), .val (.double (9218868437227405312 : UInt64)), .second, .val (.int lo), .val (.int hi), .val (.double lw), .second, .val (.double hg), .second, .val (.double (FP.i2d hi)), .second, .val (.ref b18), .val (.ref b19), .unset, .unset, .unset] [(.double lw), (.int (1 : Int32)), (.ref b18)])) rfl rfl (hb hby at_177)
    have N61 := Fr.snoc X61 N37 ge_b18
    have Z61 : n0 ≤ h61.size := by rw [W61.size]; exact Z37
    have K61 : Keep h0 h61 [] := (K37.wr W61 (Or.inr sz_b18))
    have V61 := Arv.set Ar60 q60 S60 M60 HH60 GG60 rfl W61 1 rfl (Nat.le_of_ble_eq_true rfl)
    have f62 := (V37.other W61 (Ne.symm ne_b18_b19))
    obtain ⟨cl63, Ar63, q63, S63, M63, HH63, GG63⟩ := id f62
    have hin63 : ¬ ((1 : Int32) < 0 ∨ cl63.slots.size ≤ ((1 : Int32)).toNatClampNeg) := inb_of S63 ⟨by decide, by decide⟩
    obtain ⟨T64, h64, X64, e64, W64, st64⟩ := stD X61 hx hZ e61 Ar63 (j := (1 : Int32)) hin63 (g := (mkF m 184 #[.val (.int x0), .val (.int x1), .val (.int x2), .val (.int x3), .val (.int (1 : Int32)), .val (.int mm), .val (.double (9218868437227405312 : UInt64)), .second, .val (.int lo), .val (.int hi), .val (.double lw), .second, .val (.double hg), .second, .val (.double (FP.i2d hi)), .second, .val (.ref b18), .val (.ref b19), .unset, .unset, .unset] [(.double hg), (.int (1 : Int32)), (.ref b19)])) rfl rfl (hb hby at_184)
    have N64 := Fr.snoc X64 N61 ge_b19
    have Z64 : n0 ≤ h64.size := by rw [W64.size]; exact Z61
    have K64 : Keep h0 h64 [] := (K61.wr W64 (Or.inr sz_b19))
    have V64 := Arv.set Ar63 q63 S63 M63 HH63 GG63 rfl W64 1 rfl (Nat.le_of_ble_eq_true rfl)
    have f65 := (V61.other W64 ne_b18_b19)
    obtain ⟨T66, h66, X66, e66, E66, A66, D66, -, st66⟩ := newO X64 hx hZ hown (wd11 hw) (wd12 hw) (wd13 hw) e64 (g := (mkF m 185 #[.val (.int x0), .val (.int x1), .val (.int x2), .val (.int x3), .val (.int (1 : Int32)), .val (.int mm), .val (.double (9218868437227405312 : UInt64)), .second, .val (.int lo), .val (.int hi), .val (.double lw), .second, .val (.double hg), .second, .val (.double (FP.i2d hi)), .second, .val (.ref b18), .val (.ref b19), .unset, .unset, .unset] [])) rfl (hb hby at_185) (by decide) (by decide)
    obtain ⟨b66, g66⟩ : ∃ z, z = h64.size := ⟨_, rfl⟩
    rw [← g66] at A66 D66 st66
    have ne_b18_b66 : b18 ≠ b66 := Nat.ne_of_lt (Nat.lt_of_lt_of_le f65.lt (Nat.le_of_eq g66.symm))
    have ne_b19_b66 : b19 ≠ b66 := Nat.ne_of_lt (Nat.lt_of_lt_of_le V64.lt (Nat.le_of_eq g66.symm))
    have ge_b66 : n0 ≤ b66 := Nat.le_trans Z64 (Nat.le_of_eq g66.symm)
    have sz_b66 : h0.size ≤ b66 := Nat.le_trans K64.1 (Nat.le_of_eq g66.symm)
    have Z66 : n0 ≤ h66.size := Nat.le_trans Z64 E66.1
    have K66 : Keep h0 h66 [] := (K64.ext E66)
    have F66_lower : Fld Z h66 b66 "com/example/formula_to_strategy/formulatostrategy/engine/ValueBounds" "lower" "[D" .null := D66 (Or.inr (wd21 hw)) (ty := (.array .double)) (by decide)
    have F66_upper : Fld Z h66 b66 "com/example/formula_to_strategy/formulatostrategy/engine/ValueBounds" "upper" "[D" .null := D66 (Or.inr (wd23 hw)) (ty := (.array .double)) (by decide)
    obtain ⟨_, _, ⟨T67, L67, kc67, ks67⟩, -, X67, ⟨Lc67, hQ67, l67, y67, z67⟩, st67⟩ := X66.specialBack hx (y := (⟨"com/example/formula_to_strategy/formulatostrategy/engine/ValueBounds", "<init>", "([D[D)V"⟩ : MethodName)) rfl hown (mvT hZ (wd14 hw)) (mvT hZ (wd15 hw)) (mvT hZ (wd16 hw)) (by decide) (backOf (W := 1) (rmIni l Z a0 hw [] b66 b18 b19 _ _ h66 n0 Z66 ge_b66 A66 F66_lower F66_upper) hZ (wd16 hw) (wd13 hw) (by decide) (by decide)) (g := (mkF m 193 #[.val (.int x0), .val (.int x1), .val (.int x2), .val (.int x3), .val (.int (1 : Int32)), .val (.int mm), .val (.double (9218868437227405312 : UInt64)), .second, .val (.int lo), .val (.int hi), .val (.double lw), .second, .val (.double hg), .second, .val (.double (FP.i2d hi)), .second, .val (.ref b18), .val (.ref b19), .unset, .unset, .unset] [(.ref b19), (.ref b18), (.ref b66), (.ref b66)])) rfl (by rw [hml]; rfl) (Steps.refl _) (a := b66) (argsL := [(.ref b18), (.ref b19)]) (rest := [(.ref b66)]) (lenOf pd___D_D_V rfl) rfl (by show 2 * 0 + _ ≤ _; exact Nat.le_of_eq rfl) (hb hby at_193) (fun _ _ => ⟨rfl, e66, (by decide : 3 + 0 ≤ _), (by decide : 8 + 0 ≤ _)⟩)
    dsimp only [Pt.U, Pt.locs, Pt.cells, Pt.slots] at X67 l67 y67 z67 st67 hQ67
    subst l67 y67 z67
    obtain ⟨rfl, Nq67, Kq67, gE67, gL67, gU67⟩ := hQ67
    have N67 := Fr.app N64 Nq67
    have Z67 : n0 ≤ T67.heap.size := Nat.le_trans Z66 Kq67.1
    have K67 : Keep h0 T67.heap [] := Keep.trans K66 Kq67 (allS (Or.inr sz_b66) all0)
    have f68 := ((f65.ext E66).keep Kq67 (ninS ne_b18_b66 nin0))
    have f69 := ((V64.ext E66).keep Kq67 (ninS ne_b19_b66 nin0))
    obtain ⟨cq70, kq70, q70a, q70b, q70c⟩ := isOf hZ rfl gE67
    obtain ⟨_, _, ⟨T70, L70, kc70, ks70⟩, -, X70, ⟨Lc70, hQ70, l70, y70, z70⟩, st70⟩ := X67.virtualBack hx (y := (⟨"com/example/formula_to_strategy/formulatostrategy/engine/ValueBounds", "value", "(I)D"⟩ : MethodName)) (z := (⟨"com/example/formula_to_strategy/formulatostrategy/engine/ValueBounds", "value", "(I)D"⟩ : MethodName)) hown (mvT hZ (wd24 hw)) (mvT hZ (wd25 hw)) (notFace_of_selects (args := #[]) (mvT hZ (wd27 hw))) (mvT hZ (wd27 hw)) (mvT hZ (wd26 hw)) (by decide) (backOf (W := 0) (rmVal l Z a0 hw [] b66 (1 : Int32) b18 b19 _ _ _ _ lw hg T67.heap n0 Z67 gL67 gU67 f68 f69 ⟨by decide, by decide⟩ rfl rfl (own_nn hlh hj5)) hZ (wd28 hw) (wd13 hw) (by decide) (by decide)) q70a q70c (g := (mkF m 202 #[.val (.int x0), .val (.int x1), .val (.int x2), .val (.int x3), .val (.int (1 : Int32)), .val (.int mm), .val (.double (9218868437227405312 : UInt64)), .second, .val (.int lo), .val (.int hi), .val (.double lw), .second, .val (.double hg), .second, .val (.double (FP.i2d hi)), .second, .val (.ref b18), .val (.ref b19), .val (.ref b66), .unset, .unset] [(.int (1 : Int32)), (.ref b66)])) rfl (by rw [hml]; rfl) (Steps.refl _) (argsL := [(.int (1 : Int32))]) (rest := []) (lenOf pd__I_D rfl) rfl (by show 2 * 0 + _ ≤ _; exact Nat.le_of_eq rfl) (hb hby at_202) (fun _ _ => ⟨rfl, rfl, (by decide : 3 + 0 ≤ _), (by decide : 8 + 0 ≤ _)⟩)
    dsimp only [Pt.U, Pt.locs, Pt.cells, Pt.slots] at X70 l70 y70 z70 st70 hQ70
    subst l70 y70 z70
    obtain ⟨rfl, Nq70, eq70⟩ := hQ70
    have N70 := Fr.app N67 Nq70
    have k71 : ∀ t, Steps p.tables e below (T70.setTop (mkF m 210 #[.val (.int x0), .val (.int x1), .val (.int x2), .val (.int x3), .val (.int (1 : Int32)), .val (.int mm), .val (.double (9218868437227405312 : UInt64)), .second, .val (.int lo), .val (.int hi), .val (.double lw), .second, .val (.double hg), .second, .val (.double (FP.i2d hi)), .second, .val (.ref b18), .val (.ref b19), .val (.ref b66), .val (.double (own_val lw hg)), .second] [(.int (1 : Int32)), (.int mm)])) t → Steps p.tables e below (s₁.setTop (entryFrame m #[(.int x0), (.int x1), (.int x2), (.int x3)] maxLocals)) t := by
      intro t kt
      refine k38 t ?_
      show Steps p.tables e below (T37.setTop (mkF m 171 #[.val (.int x0), .val (.int x1), .val (.int x2), .val (.int x3), .val (.int (1 : Int32)), .val (.int mm), .val (.double (9218868437227405312 : UInt64)), .second, .val (.int lo), .val (.int hi), .val (.double lw), .second, .val (.double hg), .second, .val (.double (FP.i2d hi)), .second, .val (.ref b18), .val (.ref b19), .unset, .unset, .unset] [])) _
      refine XS.aload X37.here hx rfl (hb hby at_171) rfl rfl ?_
      show Steps p.tables e below (T37.setTop (mkF m 173 #[.val (.int x0), .val (.int x1), .val (.int x2), .val (.int x3), .val (.int (1 : Int32)), .val (.int mm), .val (.double (9218868437227405312 : UInt64)), .second, .val (.int lo), .val (.int hi), .val (.double lw), .second, .val (.double hg), .second, .val (.double (FP.i2d hi)), .second, .val (.ref b18), .val (.ref b19), .unset, .unset, .unset] [(.ref b18)])) _
      refine XS.iload X37.here hx rfl (hb hby at_173) rfl ?_
      show Steps p.tables e below (T37.setTop (mkF m 175 #[.val (.int x0), .val (.int x1), .val (.int x2), .val (.int x3), .val (.int (1 : Int32)), .val (.int mm), .val (.double (9218868437227405312 : UInt64)), .second, .val (.int lo), .val (.int hi), .val (.double lw), .second, .val (.double hg), .second, .val (.double (FP.i2d hi)), .second, .val (.ref b18), .val (.ref b19), .unset, .unset, .unset] [(.int (1 : Int32)), (.ref b18)])) _
      refine XS.dload X37.here hx rfl (hb hby at_175) rfl ?_
      show Steps p.tables e below (T37.setTop (mkF m 177 #[.val (.int x0), .val (.int x1), .val (.int x2), .val (.int x3), .val (.int (1 : Int32)), .val (.int mm), .val (.double (9218868437227405312 : UInt64)), .second, .val (.int lo), .val (.int hi), .val (.double lw), .second, .val (.double hg), .second, .val (.double (FP.i2d hi)), .second, .val (.ref b18), .val (.ref b19), .unset, .unset, .unset] [(.double lw), (.int (1 : Int32)), (.ref b18)])) _
      refine st61 _ ?_
      show Steps p.tables e below (T61.setTop (mkF m 178 #[.val (.int x0), .val (.int x1), .val (.int x2), .val (.int x3), .val (.int (1 : Int32)), .val (.int mm), .val (.double (9218868437227405312 : UInt64)), .second, .val (.int lo), .val (.int hi), .val (.double lw), .second, .val (.double hg), .second, .val (.double (FP.i2d hi)), .second, .val (.ref b18), .val (.ref b19), .unset, .unset, .unset] [])) _
      refine XS.aload X61.here hx rfl (hb hby at_178) rfl rfl ?_
      show Steps p.tables e below (T61.setTop (mkF m 180 #[.val (.int x0), .val (.int x1), .val (.int x2), .val (.int x3), .val (.int (1 : Int32)), .val (.int mm), .val (.double (9218868437227405312 : UInt64)), .second, .val (.int lo), .val (.int hi), .val (.double lw), .second, .val (.double hg), .second, .val (.double (FP.i2d hi)), .second, .val (.ref b18), .val (.ref b19), .unset, .unset, .unset] [(.ref b19)])) _
      refine XS.iload X61.here hx rfl (hb hby at_180) rfl ?_
      show Steps p.tables e below (T61.setTop (mkF m 182 #[.val (.int x0), .val (.int x1), .val (.int x2), .val (.int x3), .val (.int (1 : Int32)), .val (.int mm), .val (.double (9218868437227405312 : UInt64)), .second, .val (.int lo), .val (.int hi), .val (.double lw), .second, .val (.double hg), .second, .val (.double (FP.i2d hi)), .second, .val (.ref b18), .val (.ref b19), .unset, .unset, .unset] [(.int (1 : Int32)), (.ref b19)])) _
      refine XS.dload X61.here hx rfl (hb hby at_182) rfl ?_
      show Steps p.tables e below (T61.setTop (mkF m 184 #[.val (.int x0), .val (.int x1), .val (.int x2), .val (.int x3), .val (.int (1 : Int32)), .val (.int mm), .val (.double (9218868437227405312 : UInt64)), .second, .val (.int lo), .val (.int hi), .val (.double lw), .second, .val (.double hg), .second, .val (.double (FP.i2d hi)), .second, .val (.ref b18), .val (.ref b19), .unset, .unset, .unset] [(.double hg), (.int (1 : Int32)), (.ref b19)])) _
      refine st64 _ ?_
      show Steps p.tables e below (T64.setTop (mkF m 185 #[.val (.int x0), .val (.int x1), .val (.int x2), .val (.int x3), .val (.int (1 : Int32)), .val (.int mm), .val (.double (9218868437227405312 : UInt64)), .second, .val (.int lo), .val (.int hi), .val (.double lw), .second, .val (.double hg), .second, .val (.double (FP.i2d hi)), .second, .val (.ref b18), .val (.ref b19), .unset, .unset, .unset] [])) _
      refine st66 _ ?_
      show Steps p.tables e below (T66.setTop (mkF m 188 #[.val (.int x0), .val (.int x1), .val (.int x2), .val (.int x3), .val (.int (1 : Int32)), .val (.int mm), .val (.double (9218868437227405312 : UInt64)), .second, .val (.int lo), .val (.int hi), .val (.double lw), .second, .val (.double hg), .second, .val (.double (FP.i2d hi)), .second, .val (.ref b18), .val (.ref b19), .unset, .unset, .unset] [(.ref b66)])) _
      refine XS.dup X66.here hx rfl (hb hby at_188) rfl rfl ?_
      show Steps p.tables e below (T66.setTop (mkF m 189 #[.val (.int x0), .val (.int x1), .val (.int x2), .val (.int x3), .val (.int (1 : Int32)), .val (.int mm), .val (.double (9218868437227405312 : UInt64)), .second, .val (.int lo), .val (.int hi), .val (.double lw), .second, .val (.double hg), .second, .val (.double (FP.i2d hi)), .second, .val (.ref b18), .val (.ref b19), .unset, .unset, .unset] [(.ref b66), (.ref b66)])) _
      refine XS.aload X66.here hx rfl (hb hby at_189) rfl rfl ?_
      show Steps p.tables e below (T66.setTop (mkF m 191 #[.val (.int x0), .val (.int x1), .val (.int x2), .val (.int x3), .val (.int (1 : Int32)), .val (.int mm), .val (.double (9218868437227405312 : UInt64)), .second, .val (.int lo), .val (.int hi), .val (.double lw), .second, .val (.double hg), .second, .val (.double (FP.i2d hi)), .second, .val (.ref b18), .val (.ref b19), .unset, .unset, .unset] [(.ref b18), (.ref b66), (.ref b66)])) _
      refine XS.aload X66.here hx rfl (hb hby at_191) rfl rfl ?_
      show Steps p.tables e below (T66.setTop (mkF m 193 #[.val (.int x0), .val (.int x1), .val (.int x2), .val (.int x3), .val (.int (1 : Int32)), .val (.int mm), .val (.double (9218868437227405312 : UInt64)), .second, .val (.int lo), .val (.int hi), .val (.double lw), .second, .val (.double hg), .second, .val (.double (FP.i2d hi)), .second, .val (.ref b18), .val (.ref b19), .unset, .unset, .unset] [(.ref b19), (.ref b18), (.ref b66), (.ref b66)])) _
      refine st67.trans ?_
      show Steps p.tables e below (T67.setTop (mkF m 196 #[.val (.int x0), .val (.int x1), .val (.int x2), .val (.int x3), .val (.int (1 : Int32)), .val (.int mm), .val (.double (9218868437227405312 : UInt64)), .second, .val (.int lo), .val (.int hi), .val (.double lw), .second, .val (.double hg), .second, .val (.double (FP.i2d hi)), .second, .val (.ref b18), .val (.ref b19), .unset, .unset, .unset] [(.ref b66)])) _
      refine XS.astore X67.here hx rfl (hb hby at_196) rfl rfl (l' := #[.val (.int x0), .val (.int x1), .val (.int x2), .val (.int x3), .val (.int (1 : Int32)), .val (.int mm), .val (.double (9218868437227405312 : UInt64)), .second, .val (.int lo), .val (.int hi), .val (.double lw), .second, .val (.double hg), .second, .val (.double (FP.i2d hi)), .second, .val (.ref b18), .val (.ref b19), .val (.ref b66), .unset, .unset]) rfl ?_
      show Steps p.tables e below (T67.setTop (mkF m 198 #[.val (.int x0), .val (.int x1), .val (.int x2), .val (.int x3), .val (.int (1 : Int32)), .val (.int mm), .val (.double (9218868437227405312 : UInt64)), .second, .val (.int lo), .val (.int hi), .val (.double lw), .second, .val (.double hg), .second, .val (.double (FP.i2d hi)), .second, .val (.ref b18), .val (.ref b19), .val (.ref b66), .unset, .unset] [])) _
      refine XS.aload X67.here hx rfl (hb hby at_198) rfl rfl ?_
      show Steps p.tables e below (T67.setTop (mkF m 200 #[.val (.int x0), .val (.int x1), .val (.int x2), .val (.int x3), .val (.int (1 : Int32)), .val (.int mm), .val (.double (9218868437227405312 : UInt64)), .second, .val (.int lo), .val (.int hi), .val (.double lw), .second, .val (.double hg), .second, .val (.double (FP.i2d hi)), .second, .val (.ref b18), .val (.ref b19), .val (.ref b66), .unset, .unset] [(.ref b66)])) _
      refine XS.iload X67.here hx rfl (hb hby at_200) rfl ?_
      show Steps p.tables e below (T67.setTop (mkF m 202 #[.val (.int x0), .val (.int x1), .val (.int x2), .val (.int x3), .val (.int (1 : Int32)), .val (.int mm), .val (.double (9218868437227405312 : UInt64)), .second, .val (.int lo), .val (.int hi), .val (.double lw), .second, .val (.double hg), .second, .val (.double (FP.i2d hi)), .second, .val (.ref b18), .val (.ref b19), .val (.ref b66), .unset, .unset] [(.int (1 : Int32)), (.ref b66)])) _
      refine st70.trans ?_
      show Steps p.tables e below (T70.setTop (mkF m 205 #[.val (.int x0), .val (.int x1), .val (.int x2), .val (.int x3), .val (.int (1 : Int32)), .val (.int mm), .val (.double (9218868437227405312 : UInt64)), .second, .val (.int lo), .val (.int hi), .val (.double lw), .second, .val (.double hg), .second, .val (.double (FP.i2d hi)), .second, .val (.ref b18), .val (.ref b19), .val (.ref b66), .unset, .unset] [(.double (own_val lw hg))])) _
      refine XS.dstore X70.here hx rfl (hb hby at_205) rfl (l' := #[.val (.int x0), .val (.int x1), .val (.int x2), .val (.int x3), .val (.int (1 : Int32)), .val (.int mm), .val (.double (9218868437227405312 : UInt64)), .second, .val (.int lo), .val (.int hi), .val (.double lw), .second, .val (.double hg), .second, .val (.double (FP.i2d hi)), .second, .val (.ref b18), .val (.ref b19), .val (.ref b66), .val (.double (own_val lw hg)), .second]) rfl ?_
      show Steps p.tables e below (T70.setTop (mkF m 207 #[.val (.int x0), .val (.int x1), .val (.int x2), .val (.int x3), .val (.int (1 : Int32)), .val (.int mm), .val (.double (9218868437227405312 : UInt64)), .second, .val (.int lo), .val (.int hi), .val (.double lw), .second, .val (.double hg), .second, .val (.double (FP.i2d hi)), .second, .val (.ref b18), .val (.ref b19), .val (.ref b66), .val (.double (own_val lw hg)), .second] [])) _
      refine XS.iload X70.here hx rfl (hb hby at_207) rfl ?_
      show Steps p.tables e below (T70.setTop (mkF m 209 #[.val (.int x0), .val (.int x1), .val (.int x2), .val (.int x3), .val (.int (1 : Int32)), .val (.int mm), .val (.double (9218868437227405312 : UInt64)), .second, .val (.int lo), .val (.int hi), .val (.double lw), .second, .val (.double hg), .second, .val (.double (FP.i2d hi)), .second, .val (.ref b18), .val (.ref b19), .val (.ref b66), .val (.double (own_val lw hg)), .second] [(.int mm)])) _
      refine XS.iconst X70.here hx rfl (hb hby at_209) ?_
      exact kt
    by_cases hc72 : mm = (1 : Int32)
    · skip
      obtain ⟨lfs, lhr, lhrun, lhended, lhW, lhsame⟩ := X70.leave (v := some (.int (1 : Int32))) (fun h => by rw [Bd.returns] at h; cases h)
      refine ⟨_, _, k71 _ ?_, lhrun, lhended, _, _, rfl, ?_, ⟨_, rfl⟩, lhW, lhsame.mono (by decide) (by decide)⟩
      · skip
        show Steps p.tables e below (T70.setTop (mkF m 210 #[.val (.int x0), .val (.int x1), .val (.int x2), .val (.int x3), .val (.int (1 : Int32)), .val (.int mm), .val (.double (9218868437227405312 : UInt64)), .second, .val (.int lo), .val (.int hi), .val (.double lw), .second, .val (.double hg), .second, .val (.double (FP.i2d hi)), .second, .val (.ref b18), .val (.ref b19), .val (.ref b66), .val (.double (own_val lw hg)), .second] [(.int (1 : Int32)), (.int mm)])) _
        refine XS.icmpNo X70.here hx rfl (hb hby at_210) rfl (teq hc72).2 ?_
        show Steps p.tables e below (T70.setTop (mkF m 213 #[.val (.int x0), .val (.int x1), .val (.int x2), .val (.int x3), .val (.int (1 : Int32)), .val (.int mm), .val (.double (9218868437227405312 : UInt64)), .second, .val (.int lo), .val (.int hi), .val (.double lw), .second, .val (.double hg), .second, .val (.double (FP.i2d hi)), .second, .val (.ref b18), .val (.ref b19), .val (.ref b66), .val (.double (own_val lw hg)), .second] [])) _
        refine XS.dload X70.here hx rfl (hb hby at_213) rfl ?_
        show Steps p.tables e below (T70.setTop (mkF m 215 #[.val (.int x0), .val (.int x1), .val (.int x2), .val (.int x3), .val (.int (1 : Int32)), .val (.int mm), .val (.double (9218868437227405312 : UInt64)), .second, .val (.int lo), .val (.int hi), .val (.double lw), .second, .val (.double hg), .second, .val (.double (FP.i2d hi)), .second, .val (.ref b18), .val (.ref b19), .val (.ref b66), .val (.double (own_val lw hg)), .second] [(.double (own_val lw hg))])) _
        refine XS.dload X70.here hx rfl (hb hby at_215) rfl ?_
        show Steps p.tables e below (T70.setTop (mkF m 217 #[.val (.int x0), .val (.int x1), .val (.int x2), .val (.int x3), .val (.int (1 : Int32)), .val (.int mm), .val (.double (9218868437227405312 : UInt64)), .second, .val (.int lo), .val (.int hi), .val (.double lw), .second, .val (.double hg), .second, .val (.double (FP.i2d hi)), .second, .val (.ref b18), .val (.ref b19), .val (.ref b66), .val (.double (own_val lw hg)), .second] [(.double lw), (.double (own_val lw hg))])) _
        refine XS.dcmpS X70.here hx rfl (hb hby at_217) rfl (own_t1 hj5 hc72) ?_
        show Steps p.tables e below (T70.setTop (mkF m 218 #[.val (.int x0), .val (.int x1), .val (.int x2), .val (.int x3), .val (.int (1 : Int32)), .val (.int mm), .val (.double (9218868437227405312 : UInt64)), .second, .val (.int lo), .val (.int hi), .val (.double lw), .second, .val (.double hg), .second, .val (.double (FP.i2d hi)), .second, .val (.ref b18), .val (.ref b19), .val (.ref b66), .val (.double (own_val lw hg)), .second] [(.int (0 : Int32))])) _
        refine XS.ifNo X70.here hx rfl (hb hby at_218) rfl ((if0 _ _).trans (teq (by decide : (0 : Int32) = (0 : Int32))).2) ?_
        show Steps p.tables e below (T70.setTop (mkF m 221 #[.val (.int x0), .val (.int x1), .val (.int x2), .val (.int x3), .val (.int (1 : Int32)), .val (.int mm), .val (.double (9218868437227405312 : UInt64)), .second, .val (.int lo), .val (.int hi), .val (.double lw), .second, .val (.double hg), .second, .val (.double (FP.i2d hi)), .second, .val (.ref b18), .val (.ref b19), .val (.ref b66), .val (.double (own_val lw hg)), .second] [])) _
        refine XS.iconst X70.here hx rfl (hb hby at_221) ?_
        show Steps p.tables e below (T70.setTop (mkF m 222 #[.val (.int x0), .val (.int x1), .val (.int x2), .val (.int x3), .val (.int (1 : Int32)), .val (.int mm), .val (.double (9218868437227405312 : UInt64)), .second, .val (.int lo), .val (.int hi), .val (.double lw), .second, .val (.double hg), .second, .val (.double (FP.i2d hi)), .second, .val (.ref b18), .val (.ref b19), .val (.ref b66), .val (.double (own_val lw hg)), .second] [(.int (1 : Int32))])) _
        refine XS.goto X70.here hx rfl (pc0 := 222) (pc' := 226) rfl (hb hby at_222) (by decide) (by decide) ?_
        show Steps p.tables e below (T70.setTop (mkF m 226 #[.val (.int x0), .val (.int x1), .val (.int x2), .val (.int x3), .val (.int (1 : Int32)), .val (.int mm), .val (.double (9218868437227405312 : UInt64)), .second, .val (.int lo), .val (.int hi), .val (.double lw), .second, .val (.double hg), .second, .val (.double (FP.i2d hi)), .second, .val (.ref b18), .val (.ref b19), .val (.ref b66), .val (.double (own_val lw hg)), .second] [(.int (1 : Int32))])) _
        exact retN X70 hx (t := .boolean) Bd.returns (by simp) (hb hby at_226) lhr
      · skip
        show Q0 Z x0 x1 x2 x3 h0 n0 _ T70.heap _
        rw [eq70]
        exact ⟨rfl, N70⟩
    · skip
      have k73 : ∀ t, Steps p.tables e below (T70.setTop (mkF m 230 #[.val (.int x0), .val (.int x1), .val (.int x2), .val (.int x3), .val (.int (1 : Int32)), .val (.int mm), .val (.double (9218868437227405312 : UInt64)), .second, .val (.int lo), .val (.int hi), .val (.double lw), .second, .val (.double hg), .second, .val (.double (FP.i2d hi)), .second, .val (.ref b18), .val (.ref b19), .val (.ref b66), .val (.double (own_val lw hg)), .second] [(.int (2 : Int32)), (.int mm)])) t → Steps p.tables e below (s₁.setTop (entryFrame m #[(.int x0), (.int x1), (.int x2), (.int x3)] maxLocals)) t := by
        intro t kt
        refine k71 t ?_
        show Steps p.tables e below (T70.setTop (mkF m 210 #[.val (.int x0), .val (.int x1), .val (.int x2), .val (.int x3), .val (.int (1 : Int32)), .val (.int mm), .val (.double (9218868437227405312 : UInt64)), .second, .val (.int lo), .val (.int hi), .val (.double lw), .second, .val (.double hg), .second, .val (.double (FP.i2d hi)), .second, .val (.ref b18), .val (.ref b19), .val (.ref b66), .val (.double (own_val lw hg)), .second] [(.int (1 : Int32)), (.int mm)])) _
        refine XS.icmpYes X70.here hx rfl (pc0 := 210) (pc' := 227) rfl (hb hby at_210) rfl (feq hc72).2 (by decide) (by decide) ?_
        show Steps p.tables e below (T70.setTop (mkF m 227 #[.val (.int x0), .val (.int x1), .val (.int x2), .val (.int x3), .val (.int (1 : Int32)), .val (.int mm), .val (.double (9218868437227405312 : UInt64)), .second, .val (.int lo), .val (.int hi), .val (.double lw), .second, .val (.double hg), .second, .val (.double (FP.i2d hi)), .second, .val (.ref b18), .val (.ref b19), .val (.ref b66), .val (.double (own_val lw hg)), .second] [])) _
        refine XS.iload X70.here hx rfl (hb hby at_227) rfl ?_
        show Steps p.tables e below (T70.setTop (mkF m 229 #[.val (.int x0), .val (.int x1), .val (.int x2), .val (.int x3), .val (.int (1 : Int32)), .val (.int mm), .val (.double (9218868437227405312 : UInt64)), .second, .val (.int lo), .val (.int hi), .val (.double lw), .second, .val (.double hg), .second, .val (.double (FP.i2d hi)), .second, .val (.ref b18), .val (.ref b19), .val (.ref b66), .val (.double (own_val lw hg)), .second] [(.int mm)])) _
        refine XS.iconst X70.here hx rfl (hb hby at_229) ?_
        exact kt
      by_cases hc74 : mm = (2 : Int32)
      · skip
        obtain ⟨lfs, lhr, lhrun, lhended, lhW, lhsame⟩ := X70.leave (v := some (.int (1 : Int32))) (fun h => by rw [Bd.returns] at h; cases h)
        refine ⟨_, _, k73 _ ?_, lhrun, lhended, _, _, rfl, ?_, ⟨_, rfl⟩, lhW, lhsame.mono (by decide) (by decide)⟩
        · skip
          show Steps p.tables e below (T70.setTop (mkF m 230 #[.val (.int x0), .val (.int x1), .val (.int x2), .val (.int x3), .val (.int (1 : Int32)), .val (.int mm), .val (.double (9218868437227405312 : UInt64)), .second, .val (.int lo), .val (.int hi), .val (.double lw), .second, .val (.double hg), .second, .val (.double (FP.i2d hi)), .second, .val (.ref b18), .val (.ref b19), .val (.ref b66), .val (.double (own_val lw hg)), .second] [(.int (2 : Int32)), (.int mm)])) _
          refine XS.icmpYes X70.here hx rfl (pc0 := 230) (pc' := 239) rfl (hb hby at_230) rfl (teq hc74).1 (by decide) (by decide) ?_
          show Steps p.tables e below (T70.setTop (mkF m 239 #[.val (.int x0), .val (.int x1), .val (.int x2), .val (.int x3), .val (.int (1 : Int32)), .val (.int mm), .val (.double (9218868437227405312 : UInt64)), .second, .val (.int lo), .val (.int hi), .val (.double lw), .second, .val (.double hg), .second, .val (.double (FP.i2d hi)), .second, .val (.ref b18), .val (.ref b19), .val (.ref b66), .val (.double (own_val lw hg)), .second] [])) _
          refine XS.dload X70.here hx rfl (hb hby at_239) rfl ?_
          show Steps p.tables e below (T70.setTop (mkF m 241 #[.val (.int x0), .val (.int x1), .val (.int x2), .val (.int x3), .val (.int (1 : Int32)), .val (.int mm), .val (.double (9218868437227405312 : UInt64)), .second, .val (.int lo), .val (.int hi), .val (.double lw), .second, .val (.double hg), .second, .val (.double (FP.i2d hi)), .second, .val (.ref b18), .val (.ref b19), .val (.ref b66), .val (.double (own_val lw hg)), .second] [(.double (own_val lw hg))])) _
          refine XS.dload X70.here hx rfl (hb hby at_241) rfl ?_
          show Steps p.tables e below (T70.setTop (mkF m 243 #[.val (.int x0), .val (.int x1), .val (.int x2), .val (.int x3), .val (.int (1 : Int32)), .val (.int mm), .val (.double (9218868437227405312 : UInt64)), .second, .val (.int lo), .val (.int hi), .val (.double lw), .second, .val (.double hg), .second, .val (.double (FP.i2d hi)), .second, .val (.ref b18), .val (.ref b19), .val (.ref b66), .val (.double (own_val lw hg)), .second] [(.double (9218868437227405312 : UInt64)), (.double (own_val lw hg))])) _
          refine XS.dcmpS X70.here hx rfl (hb hby at_243) rfl (own_t2 hj5 hc74) ?_
          show Steps p.tables e below (T70.setTop (mkF m 244 #[.val (.int x0), .val (.int x1), .val (.int x2), .val (.int x3), .val (.int (1 : Int32)), .val (.int mm), .val (.double (9218868437227405312 : UInt64)), .second, .val (.int lo), .val (.int hi), .val (.double lw), .second, .val (.double hg), .second, .val (.double (FP.i2d hi)), .second, .val (.ref b18), .val (.ref b19), .val (.ref b66), .val (.double (own_val lw hg)), .second] [(.int (0 : Int32))])) _
          refine XS.ifNo X70.here hx rfl (hb hby at_244) rfl ((if0 _ _).trans (teq (by decide : (0 : Int32) = (0 : Int32))).2) ?_
          show Steps p.tables e below (T70.setTop (mkF m 247 #[.val (.int x0), .val (.int x1), .val (.int x2), .val (.int x3), .val (.int (1 : Int32)), .val (.int mm), .val (.double (9218868437227405312 : UInt64)), .second, .val (.int lo), .val (.int hi), .val (.double lw), .second, .val (.double hg), .second, .val (.double (FP.i2d hi)), .second, .val (.ref b18), .val (.ref b19), .val (.ref b66), .val (.double (own_val lw hg)), .second] [])) _
          refine XS.iconst X70.here hx rfl (hb hby at_247) ?_
          show Steps p.tables e below (T70.setTop (mkF m 248 #[.val (.int x0), .val (.int x1), .val (.int x2), .val (.int x3), .val (.int (1 : Int32)), .val (.int mm), .val (.double (9218868437227405312 : UInt64)), .second, .val (.int lo), .val (.int hi), .val (.double lw), .second, .val (.double hg), .second, .val (.double (FP.i2d hi)), .second, .val (.ref b18), .val (.ref b19), .val (.ref b66), .val (.double (own_val lw hg)), .second] [(.int (1 : Int32))])) _
          refine XS.goto X70.here hx rfl (pc0 := 248) (pc' := 252) rfl (hb hby at_248) (by decide) (by decide) ?_
          show Steps p.tables e below (T70.setTop (mkF m 252 #[.val (.int x0), .val (.int x1), .val (.int x2), .val (.int x3), .val (.int (1 : Int32)), .val (.int mm), .val (.double (9218868437227405312 : UInt64)), .second, .val (.int lo), .val (.int hi), .val (.double lw), .second, .val (.double hg), .second, .val (.double (FP.i2d hi)), .second, .val (.ref b18), .val (.ref b19), .val (.ref b66), .val (.double (own_val lw hg)), .second] [(.int (1 : Int32))])) _
          exact retN X70 hx (t := .boolean) Bd.returns (by simp) (hb hby at_252) lhr
        · skip
          show Q0 Z x0 x1 x2 x3 h0 n0 _ T70.heap _
          rw [eq70]
          exact ⟨rfl, N70⟩
      · skip
        have k75 : ∀ t, Steps p.tables e below (T70.setTop (mkF m 236 #[.val (.int x0), .val (.int x1), .val (.int x2), .val (.int x3), .val (.int (1 : Int32)), .val (.int mm), .val (.double (9218868437227405312 : UInt64)), .second, .val (.int lo), .val (.int hi), .val (.double lw), .second, .val (.double hg), .second, .val (.double (FP.i2d hi)), .second, .val (.ref b18), .val (.ref b19), .val (.ref b66), .val (.double (own_val lw hg)), .second] [(.int (4 : Int32)), (.int mm)])) t → Steps p.tables e below (s₁.setTop (entryFrame m #[(.int x0), (.int x1), (.int x2), (.int x3)] maxLocals)) t := by
          intro t kt
          refine k73 t ?_
          show Steps p.tables e below (T70.setTop (mkF m 230 #[.val (.int x0), .val (.int x1), .val (.int x2), .val (.int x3), .val (.int (1 : Int32)), .val (.int mm), .val (.double (9218868437227405312 : UInt64)), .second, .val (.int lo), .val (.int hi), .val (.double lw), .second, .val (.double hg), .second, .val (.double (FP.i2d hi)), .second, .val (.ref b18), .val (.ref b19), .val (.ref b66), .val (.double (own_val lw hg)), .second] [(.int (2 : Int32)), (.int mm)])) _
          refine XS.icmpNo X70.here hx rfl (hb hby at_230) rfl (feq hc74).1 ?_
          show Steps p.tables e below (T70.setTop (mkF m 233 #[.val (.int x0), .val (.int x1), .val (.int x2), .val (.int x3), .val (.int (1 : Int32)), .val (.int mm), .val (.double (9218868437227405312 : UInt64)), .second, .val (.int lo), .val (.int hi), .val (.double lw), .second, .val (.double hg), .second, .val (.double (FP.i2d hi)), .second, .val (.ref b18), .val (.ref b19), .val (.ref b66), .val (.double (own_val lw hg)), .second] [])) _
          refine XS.iload X70.here hx rfl (hb hby at_233) rfl ?_
          show Steps p.tables e below (T70.setTop (mkF m 235 #[.val (.int x0), .val (.int x1), .val (.int x2), .val (.int x3), .val (.int (1 : Int32)), .val (.int mm), .val (.double (9218868437227405312 : UInt64)), .second, .val (.int lo), .val (.int hi), .val (.double lw), .second, .val (.double hg), .second, .val (.double (FP.i2d hi)), .second, .val (.ref b18), .val (.ref b19), .val (.ref b66), .val (.double (own_val lw hg)), .second] [(.int mm)])) _
          refine XS.iconst X70.here hx rfl (hb hby at_235) ?_
          exact kt
        by_cases hc76 : mm = (4 : Int32)
        · skip
          obtain ⟨lfs, lhr, lhrun, lhended, lhW, lhsame⟩ := X70.leave (v := some (.int (1 : Int32))) (fun h => by rw [Bd.returns] at h; cases h)
          refine ⟨_, _, k75 _ ?_, lhrun, lhended, _, _, rfl, ?_, ⟨_, rfl⟩, lhW, lhsame.mono (by decide) (by decide)⟩
          · skip
            show Steps p.tables e below (T70.setTop (mkF m 236 #[.val (.int x0), .val (.int x1), .val (.int x2), .val (.int x3), .val (.int (1 : Int32)), .val (.int mm), .val (.double (9218868437227405312 : UInt64)), .second, .val (.int lo), .val (.int hi), .val (.double lw), .second, .val (.double hg), .second, .val (.double (FP.i2d hi)), .second, .val (.ref b18), .val (.ref b19), .val (.ref b66), .val (.double (own_val lw hg)), .second] [(.int (4 : Int32)), (.int mm)])) _
            refine XS.icmpNo X70.here hx rfl (hb hby at_236) rfl (teq hc76).2 ?_
            show Steps p.tables e below (T70.setTop (mkF m 239 #[.val (.int x0), .val (.int x1), .val (.int x2), .val (.int x3), .val (.int (1 : Int32)), .val (.int mm), .val (.double (9218868437227405312 : UInt64)), .second, .val (.int lo), .val (.int hi), .val (.double lw), .second, .val (.double hg), .second, .val (.double (FP.i2d hi)), .second, .val (.ref b18), .val (.ref b19), .val (.ref b66), .val (.double (own_val lw hg)), .second] [])) _
            refine XS.dload X70.here hx rfl (hb hby at_239) rfl ?_
            show Steps p.tables e below (T70.setTop (mkF m 241 #[.val (.int x0), .val (.int x1), .val (.int x2), .val (.int x3), .val (.int (1 : Int32)), .val (.int mm), .val (.double (9218868437227405312 : UInt64)), .second, .val (.int lo), .val (.int hi), .val (.double lw), .second, .val (.double hg), .second, .val (.double (FP.i2d hi)), .second, .val (.ref b18), .val (.ref b19), .val (.ref b66), .val (.double (own_val lw hg)), .second] [(.double (own_val lw hg))])) _
            refine XS.dload X70.here hx rfl (hb hby at_241) rfl ?_
            show Steps p.tables e below (T70.setTop (mkF m 243 #[.val (.int x0), .val (.int x1), .val (.int x2), .val (.int x3), .val (.int (1 : Int32)), .val (.int mm), .val (.double (9218868437227405312 : UInt64)), .second, .val (.int lo), .val (.int hi), .val (.double lw), .second, .val (.double hg), .second, .val (.double (FP.i2d hi)), .second, .val (.ref b18), .val (.ref b19), .val (.ref b66), .val (.double (own_val lw hg)), .second] [(.double (9218868437227405312 : UInt64)), (.double (own_val lw hg))])) _
            refine XS.dcmpS X70.here hx rfl (hb hby at_243) rfl (own_t4 hj5 hc76) ?_
            show Steps p.tables e below (T70.setTop (mkF m 244 #[.val (.int x0), .val (.int x1), .val (.int x2), .val (.int x3), .val (.int (1 : Int32)), .val (.int mm), .val (.double (9218868437227405312 : UInt64)), .second, .val (.int lo), .val (.int hi), .val (.double lw), .second, .val (.double hg), .second, .val (.double (FP.i2d hi)), .second, .val (.ref b18), .val (.ref b19), .val (.ref b66), .val (.double (own_val lw hg)), .second] [(.int (0 : Int32))])) _
            refine XS.ifNo X70.here hx rfl (hb hby at_244) rfl ((if0 _ _).trans (teq (by decide : (0 : Int32) = (0 : Int32))).2) ?_
            show Steps p.tables e below (T70.setTop (mkF m 247 #[.val (.int x0), .val (.int x1), .val (.int x2), .val (.int x3), .val (.int (1 : Int32)), .val (.int mm), .val (.double (9218868437227405312 : UInt64)), .second, .val (.int lo), .val (.int hi), .val (.double lw), .second, .val (.double hg), .second, .val (.double (FP.i2d hi)), .second, .val (.ref b18), .val (.ref b19), .val (.ref b66), .val (.double (own_val lw hg)), .second] [])) _
            refine XS.iconst X70.here hx rfl (hb hby at_247) ?_
            show Steps p.tables e below (T70.setTop (mkF m 248 #[.val (.int x0), .val (.int x1), .val (.int x2), .val (.int x3), .val (.int (1 : Int32)), .val (.int mm), .val (.double (9218868437227405312 : UInt64)), .second, .val (.int lo), .val (.int hi), .val (.double lw), .second, .val (.double hg), .second, .val (.double (FP.i2d hi)), .second, .val (.ref b18), .val (.ref b19), .val (.ref b66), .val (.double (own_val lw hg)), .second] [(.int (1 : Int32))])) _
            refine XS.goto X70.here hx rfl (pc0 := 248) (pc' := 252) rfl (hb hby at_248) (by decide) (by decide) ?_
            show Steps p.tables e below (T70.setTop (mkF m 252 #[.val (.int x0), .val (.int x1), .val (.int x2), .val (.int x3), .val (.int (1 : Int32)), .val (.int mm), .val (.double (9218868437227405312 : UInt64)), .second, .val (.int lo), .val (.int hi), .val (.double lw), .second, .val (.double hg), .second, .val (.double (FP.i2d hi)), .second, .val (.ref b18), .val (.ref b19), .val (.ref b66), .val (.double (own_val lw hg)), .second] [(.int (1 : Int32))])) _
            exact retN X70 hx (t := .boolean) Bd.returns (by simp) (hb hby at_252) lhr
          · skip
            show Q0 Z x0 x1 x2 x3 h0 n0 _ T70.heap _
            rw [eq70]
            exact ⟨rfl, N70⟩
        · skip
          have k77 : ∀ t, Steps p.tables e below (T70.setTop (mkF m 256 #[.val (.int x0), .val (.int x1), .val (.int x2), .val (.int x3), .val (.int (1 : Int32)), .val (.int mm), .val (.double (9218868437227405312 : UInt64)), .second, .val (.int lo), .val (.int hi), .val (.double lw), .second, .val (.double hg), .second, .val (.double (FP.i2d hi)), .second, .val (.ref b18), .val (.ref b19), .val (.ref b66), .val (.double (own_val lw hg)), .second] [(.int (5 : Int32)), (.int mm)])) t → Steps p.tables e below (s₁.setTop (entryFrame m #[(.int x0), (.int x1), (.int x2), (.int x3)] maxLocals)) t := by
            intro t kt
            refine k75 t ?_
            show Steps p.tables e below (T70.setTop (mkF m 236 #[.val (.int x0), .val (.int x1), .val (.int x2), .val (.int x3), .val (.int (1 : Int32)), .val (.int mm), .val (.double (9218868437227405312 : UInt64)), .second, .val (.int lo), .val (.int hi), .val (.double lw), .second, .val (.double hg), .second, .val (.double (FP.i2d hi)), .second, .val (.ref b18), .val (.ref b19), .val (.ref b66), .val (.double (own_val lw hg)), .second] [(.int (4 : Int32)), (.int mm)])) _
            refine XS.icmpYes X70.here hx rfl (pc0 := 236) (pc' := 253) rfl (hb hby at_236) rfl (feq hc76).2 (by decide) (by decide) ?_
            show Steps p.tables e below (T70.setTop (mkF m 253 #[.val (.int x0), .val (.int x1), .val (.int x2), .val (.int x3), .val (.int (1 : Int32)), .val (.int mm), .val (.double (9218868437227405312 : UInt64)), .second, .val (.int lo), .val (.int hi), .val (.double lw), .second, .val (.double hg), .second, .val (.double (FP.i2d hi)), .second, .val (.ref b18), .val (.ref b19), .val (.ref b66), .val (.double (own_val lw hg)), .second] [])) _
            refine XS.iload X70.here hx rfl (hb hby at_253) rfl ?_
            show Steps p.tables e below (T70.setTop (mkF m 255 #[.val (.int x0), .val (.int x1), .val (.int x2), .val (.int x3), .val (.int (1 : Int32)), .val (.int mm), .val (.double (9218868437227405312 : UInt64)), .second, .val (.int lo), .val (.int hi), .val (.double lw), .second, .val (.double hg), .second, .val (.double (FP.i2d hi)), .second, .val (.ref b18), .val (.ref b19), .val (.ref b66), .val (.double (own_val lw hg)), .second] [(.int mm)])) _
            refine XS.iconst X70.here hx rfl (hb hby at_255) ?_
            exact kt
          by_cases hc78 : mm = (5 : Int32)
          · skip
            obtain ⟨lfs, lhr, lhrun, lhended, lhW, lhsame⟩ := X70.leave (v := some (.int (1 : Int32))) (fun h => by rw [Bd.returns] at h; cases h)
            refine ⟨_, _, k77 _ ?_, lhrun, lhended, _, _, rfl, ?_, ⟨_, rfl⟩, lhW, lhsame.mono (by decide) (by decide)⟩
            · skip
              show Steps p.tables e below (T70.setTop (mkF m 256 #[.val (.int x0), .val (.int x1), .val (.int x2), .val (.int x3), .val (.int (1 : Int32)), .val (.int mm), .val (.double (9218868437227405312 : UInt64)), .second, .val (.int lo), .val (.int hi), .val (.double lw), .second, .val (.double hg), .second, .val (.double (FP.i2d hi)), .second, .val (.ref b18), .val (.ref b19), .val (.ref b66), .val (.double (own_val lw hg)), .second] [(.int (5 : Int32)), (.int mm)])) _
              refine XS.icmpNo X70.here hx rfl (hb hby at_256) rfl (teq hc78).2 ?_
              show Steps p.tables e below (T70.setTop (mkF m 259 #[.val (.int x0), .val (.int x1), .val (.int x2), .val (.int x3), .val (.int (1 : Int32)), .val (.int mm), .val (.double (9218868437227405312 : UInt64)), .second, .val (.int lo), .val (.int hi), .val (.double lw), .second, .val (.double hg), .second, .val (.double (FP.i2d hi)), .second, .val (.ref b18), .val (.ref b19), .val (.ref b66), .val (.double (own_val lw hg)), .second] [])) _
              refine XS.dload X70.here hx rfl (hb hby at_259) rfl ?_
              show Steps p.tables e below (T70.setTop (mkF m 261 #[.val (.int x0), .val (.int x1), .val (.int x2), .val (.int x3), .val (.int (1 : Int32)), .val (.int mm), .val (.double (9218868437227405312 : UInt64)), .second, .val (.int lo), .val (.int hi), .val (.double lw), .second, .val (.double hg), .second, .val (.double (FP.i2d hi)), .second, .val (.ref b18), .val (.ref b19), .val (.ref b66), .val (.double (own_val lw hg)), .second] [(.double (own_val lw hg))])) _
              refine XS.dload X70.here hx rfl (hb hby at_261) rfl ?_
              show Steps p.tables e below (T70.setTop (mkF m 263 #[.val (.int x0), .val (.int x1), .val (.int x2), .val (.int x3), .val (.int (1 : Int32)), .val (.int mm), .val (.double (9218868437227405312 : UInt64)), .second, .val (.int lo), .val (.int hi), .val (.double lw), .second, .val (.double hg), .second, .val (.double (FP.i2d hi)), .second, .val (.ref b18), .val (.ref b19), .val (.ref b66), .val (.double (own_val lw hg)), .second] [(.double (9218868437227405312 : UInt64)), (.double (own_val lw hg))])) _
              refine XS.dnegS X70.here hx rfl (hb hby at_263) rfl rfl ?_
              show Steps p.tables e below (T70.setTop (mkF m 264 #[.val (.int x0), .val (.int x1), .val (.int x2), .val (.int x3), .val (.int (1 : Int32)), .val (.int mm), .val (.double (9218868437227405312 : UInt64)), .second, .val (.int lo), .val (.int hi), .val (.double lw), .second, .val (.double hg), .second, .val (.double (FP.i2d hi)), .second, .val (.ref b18), .val (.ref b19), .val (.ref b66), .val (.double (own_val lw hg)), .second] [(.double (FP.dneg (9218868437227405312 : UInt64))), (.double (own_val lw hg))])) _
              refine XS.dcmpS X70.here hx rfl (hb hby at_264) rfl (own_t5 hj5 hc78) ?_
              show Steps p.tables e below (T70.setTop (mkF m 265 #[.val (.int x0), .val (.int x1), .val (.int x2), .val (.int x3), .val (.int (1 : Int32)), .val (.int mm), .val (.double (9218868437227405312 : UInt64)), .second, .val (.int lo), .val (.int hi), .val (.double lw), .second, .val (.double hg), .second, .val (.double (FP.i2d hi)), .second, .val (.ref b18), .val (.ref b19), .val (.ref b66), .val (.double (own_val lw hg)), .second] [(.int (0 : Int32))])) _
              refine XS.ifNo X70.here hx rfl (hb hby at_265) rfl ((if0 _ _).trans (teq (by decide : (0 : Int32) = (0 : Int32))).2) ?_
              show Steps p.tables e below (T70.setTop (mkF m 268 #[.val (.int x0), .val (.int x1), .val (.int x2), .val (.int x3), .val (.int (1 : Int32)), .val (.int mm), .val (.double (9218868437227405312 : UInt64)), .second, .val (.int lo), .val (.int hi), .val (.double lw), .second, .val (.double hg), .second, .val (.double (FP.i2d hi)), .second, .val (.ref b18), .val (.ref b19), .val (.ref b66), .val (.double (own_val lw hg)), .second] [])) _
              refine XS.iconst X70.here hx rfl (hb hby at_268) ?_
              show Steps p.tables e below (T70.setTop (mkF m 269 #[.val (.int x0), .val (.int x1), .val (.int x2), .val (.int x3), .val (.int (1 : Int32)), .val (.int mm), .val (.double (9218868437227405312 : UInt64)), .second, .val (.int lo), .val (.int hi), .val (.double lw), .second, .val (.double hg), .second, .val (.double (FP.i2d hi)), .second, .val (.ref b18), .val (.ref b19), .val (.ref b66), .val (.double (own_val lw hg)), .second] [(.int (1 : Int32))])) _
              refine XS.goto X70.here hx rfl (pc0 := 269) (pc' := 273) rfl (hb hby at_269) (by decide) (by decide) ?_
              show Steps p.tables e below (T70.setTop (mkF m 273 #[.val (.int x0), .val (.int x1), .val (.int x2), .val (.int x3), .val (.int (1 : Int32)), .val (.int mm), .val (.double (9218868437227405312 : UInt64)), .second, .val (.int lo), .val (.int hi), .val (.double lw), .second, .val (.double hg), .second, .val (.double (FP.i2d hi)), .second, .val (.ref b18), .val (.ref b19), .val (.ref b66), .val (.double (own_val lw hg)), .second] [(.int (1 : Int32))])) _
              exact retN X70 hx (t := .boolean) Bd.returns (by simp) (hb hby at_273) lhr
            · skip
              show Q0 Z x0 x1 x2 x3 h0 n0 _ T70.heap _
              rw [eq70]
              exact ⟨rfl, N70⟩
          · skip
            obtain ⟨lfs, lhr, lhrun, lhended, lhW, lhsame⟩ := X70.leave (v := some (.int (1 : Int32))) (fun h => by rw [Bd.returns] at h; cases h)
            refine ⟨_, _, k77 _ ?_, lhrun, lhended, _, _, rfl, ?_, ⟨_, rfl⟩, lhW, lhsame.mono (by decide) (by decide)⟩
            · skip
              show Steps p.tables e below (T70.setTop (mkF m 256 #[.val (.int x0), .val (.int x1), .val (.int x2), .val (.int x3), .val (.int (1 : Int32)), .val (.int mm), .val (.double (9218868437227405312 : UInt64)), .second, .val (.int lo), .val (.int hi), .val (.double lw), .second, .val (.double hg), .second, .val (.double (FP.i2d hi)), .second, .val (.ref b18), .val (.ref b19), .val (.ref b66), .val (.double (own_val lw hg)), .second] [(.int (5 : Int32)), (.int mm)])) _
              refine XS.icmpYes X70.here hx rfl (pc0 := 256) (pc' := 274) rfl (hb hby at_256) rfl (feq hc78).2 (by decide) (by decide) ?_
              show Steps p.tables e below (T70.setTop (mkF m 274 #[.val (.int x0), .val (.int x1), .val (.int x2), .val (.int x3), .val (.int (1 : Int32)), .val (.int mm), .val (.double (9218868437227405312 : UInt64)), .second, .val (.int lo), .val (.int hi), .val (.double lw), .second, .val (.double hg), .second, .val (.double (FP.i2d hi)), .second, .val (.ref b18), .val (.ref b19), .val (.ref b66), .val (.double (own_val lw hg)), .second] [])) _
              refine XS.dload X70.here hx rfl (hb hby at_274) rfl ?_
              show Steps p.tables e below (T70.setTop (mkF m 276 #[.val (.int x0), .val (.int x1), .val (.int x2), .val (.int x3), .val (.int (1 : Int32)), .val (.int mm), .val (.double (9218868437227405312 : UInt64)), .second, .val (.int lo), .val (.int hi), .val (.double lw), .second, .val (.double hg), .second, .val (.double (FP.i2d hi)), .second, .val (.ref b18), .val (.ref b19), .val (.ref b66), .val (.double (own_val lw hg)), .second] [(.double (own_val lw hg))])) _
              refine X70.ldc2DoubleC hx hown (mvT hZ (wd30 hw)) (g := (mkF m 276 #[.val (.int x0), .val (.int x1), .val (.int x2), .val (.int x3), .val (.int (1 : Int32)), .val (.int mm), .val (.double (9218868437227405312 : UInt64)), .second, .val (.int lo), .val (.int hi), .val (.double lw), .second, .val (.double hg), .second, .val (.double (FP.i2d hi)), .second, .val (.ref b18), .val (.ref b19), .val (.ref b66), .val (.double (own_val lw hg)), .second] [(.double (own_val lw hg))])) rfl (hb hby at_276) _ ?_
              show Steps p.tables e below (T70.setTop (mkF m 279 #[.val (.int x0), .val (.int x1), .val (.int x2), .val (.int x3), .val (.int (1 : Int32)), .val (.int mm), .val (.double (9218868437227405312 : UInt64)), .second, .val (.int lo), .val (.int hi), .val (.double lw), .second, .val (.double hg), .second, .val (.double (FP.i2d hi)), .second, .val (.ref b18), .val (.ref b19), .val (.ref b66), .val (.double (own_val lw hg)), .second] [(.double (4611686018427387904 : UInt64)), (.double (own_val lw hg))])) _
              refine XS.dmulS X70.here hx rfl (hb hby at_279) rfl (own_t0 hlh hj5 hc72 hc74 hc76 hc78).1 rfl ?_
              show Steps p.tables e below (T70.setTop (mkF m 280 #[.val (.int x0), .val (.int x1), .val (.int x2), .val (.int x3), .val (.int (1 : Int32)), .val (.int mm), .val (.double (9218868437227405312 : UInt64)), .second, .val (.int lo), .val (.int hi), .val (.double lw), .second, .val (.double hg), .second, .val (.double (FP.i2d hi)), .second, .val (.ref b18), .val (.ref b19), .val (.ref b66), .val (.double (own_val lw hg)), .second] [(.double (FP.dmul (own_val lw hg) (4611686018427387904 : UInt64)))])) _
              refine XS.iload X70.here hx rfl (hb hby at_280) rfl ?_
              show Steps p.tables e below (T70.setTop (mkF m 282 #[.val (.int x0), .val (.int x1), .val (.int x2), .val (.int x3), .val (.int (1 : Int32)), .val (.int mm), .val (.double (9218868437227405312 : UInt64)), .second, .val (.int lo), .val (.int hi), .val (.double lw), .second, .val (.double hg), .second, .val (.double (FP.i2d hi)), .second, .val (.ref b18), .val (.ref b19), .val (.ref b66), .val (.double (own_val lw hg)), .second] [(.int lo), (.double (FP.dmul (own_val lw hg) (4611686018427387904 : UInt64)))])) _
              refine XS.i2l X70.here hx rfl (hb hby at_282) rfl ?_
              show Steps p.tables e below (T70.setTop (mkF m 283 #[.val (.int x0), .val (.int x1), .val (.int x2), .val (.int x3), .val (.int (1 : Int32)), .val (.int mm), .val (.double (9218868437227405312 : UInt64)), .second, .val (.int lo), .val (.int hi), .val (.double lw), .second, .val (.double hg), .second, .val (.double (FP.i2d hi)), .second, .val (.ref b18), .val (.ref b19), .val (.ref b66), .val (.double (own_val lw hg)), .second] [(.long (lo.toInt64)), (.double (FP.dmul (own_val lw hg) (4611686018427387904 : UInt64)))])) _
              refine XS.iload X70.here hx rfl (hb hby at_283) rfl ?_
              show Steps p.tables e below (T70.setTop (mkF m 285 #[.val (.int x0), .val (.int x1), .val (.int x2), .val (.int x3), .val (.int (1 : Int32)), .val (.int mm), .val (.double (9218868437227405312 : UInt64)), .second, .val (.int lo), .val (.int hi), .val (.double lw), .second, .val (.double hg), .second, .val (.double (FP.i2d hi)), .second, .val (.ref b18), .val (.ref b19), .val (.ref b66), .val (.double (own_val lw hg)), .second] [(.int hi), (.long (lo.toInt64)), (.double (FP.dmul (own_val lw hg) (4611686018427387904 : UInt64)))])) _
              refine XS.i2l X70.here hx rfl (hb hby at_285) rfl ?_
              show Steps p.tables e below (T70.setTop (mkF m 286 #[.val (.int x0), .val (.int x1), .val (.int x2), .val (.int x3), .val (.int (1 : Int32)), .val (.int mm), .val (.double (9218868437227405312 : UInt64)), .second, .val (.int lo), .val (.int hi), .val (.double lw), .second, .val (.double hg), .second, .val (.double (FP.i2d hi)), .second, .val (.ref b18), .val (.ref b19), .val (.ref b66), .val (.double (own_val lw hg)), .second] [(.long (hi.toInt64)), (.long (lo.toInt64)), (.double (FP.dmul (own_val lw hg) (4611686018427387904 : UInt64)))])) _
              refine XS.ladd X70.here hx rfl (hb hby at_286) rfl ?_
              show Steps p.tables e below (T70.setTop (mkF m 287 #[.val (.int x0), .val (.int x1), .val (.int x2), .val (.int x3), .val (.int (1 : Int32)), .val (.int mm), .val (.double (9218868437227405312 : UInt64)), .second, .val (.int lo), .val (.int hi), .val (.double lw), .second, .val (.double hg), .second, .val (.double (FP.i2d hi)), .second, .val (.ref b18), .val (.ref b19), .val (.ref b66), .val (.double (own_val lw hg)), .second] [(.long ((lo.toInt64) + (hi.toInt64))), (.double (FP.dmul (own_val lw hg) (4611686018427387904 : UInt64)))])) _
              refine XS.l2dS X70.here hx rfl (hb hby at_287) rfl rfl ?_
              show Steps p.tables e below (T70.setTop (mkF m 288 #[.val (.int x0), .val (.int x1), .val (.int x2), .val (.int x3), .val (.int (1 : Int32)), .val (.int mm), .val (.double (9218868437227405312 : UInt64)), .second, .val (.int lo), .val (.int hi), .val (.double lw), .second, .val (.double hg), .second, .val (.double (FP.i2d hi)), .second, .val (.ref b18), .val (.ref b19), .val (.ref b66), .val (.double (own_val lw hg)), .second] [(.double (FP.l2d ((lo.toInt64) + (hi.toInt64)))), (.double (FP.dmul (own_val lw hg) (4611686018427387904 : UInt64)))])) _
              refine XS.dcmpS X70.here hx rfl (hb hby at_288) rfl (own_t0 hlh hj5 hc72 hc74 hc76 hc78).2 ?_
              show Steps p.tables e below (T70.setTop (mkF m 289 #[.val (.int x0), .val (.int x1), .val (.int x2), .val (.int x3), .val (.int (1 : Int32)), .val (.int mm), .val (.double (9218868437227405312 : UInt64)), .second, .val (.int lo), .val (.int hi), .val (.double lw), .second, .val (.double hg), .second, .val (.double (FP.i2d hi)), .second, .val (.ref b18), .val (.ref b19), .val (.ref b66), .val (.double (own_val lw hg)), .second] [(.int (0 : Int32))])) _
              refine XS.ifNo X70.here hx rfl (hb hby at_289) rfl ((if0 _ _).trans (teq (by decide : (0 : Int32) = (0 : Int32))).2) ?_
              show Steps p.tables e below (T70.setTop (mkF m 292 #[.val (.int x0), .val (.int x1), .val (.int x2), .val (.int x3), .val (.int (1 : Int32)), .val (.int mm), .val (.double (9218868437227405312 : UInt64)), .second, .val (.int lo), .val (.int hi), .val (.double lw), .second, .val (.double hg), .second, .val (.double (FP.i2d hi)), .second, .val (.ref b18), .val (.ref b19), .val (.ref b66), .val (.double (own_val lw hg)), .second] [])) _
              refine XS.iconst X70.here hx rfl (hb hby at_292) ?_
              show Steps p.tables e below (T70.setTop (mkF m 293 #[.val (.int x0), .val (.int x1), .val (.int x2), .val (.int x3), .val (.int (1 : Int32)), .val (.int mm), .val (.double (9218868437227405312 : UInt64)), .second, .val (.int lo), .val (.int hi), .val (.double lw), .second, .val (.double hg), .second, .val (.double (FP.i2d hi)), .second, .val (.ref b18), .val (.ref b19), .val (.ref b66), .val (.double (own_val lw hg)), .second] [(.int (1 : Int32))])) _
              refine XS.goto X70.here hx rfl (pc0 := 293) (pc' := 297) rfl (hb hby at_293) (by decide) (by decide) ?_
              show Steps p.tables e below (T70.setTop (mkF m 297 #[.val (.int x0), .val (.int x1), .val (.int x2), .val (.int x3), .val (.int (1 : Int32)), .val (.int mm), .val (.double (9218868437227405312 : UInt64)), .second, .val (.int lo), .val (.int hi), .val (.double lw), .second, .val (.double hg), .second, .val (.double (FP.i2d hi)), .second, .val (.ref b18), .val (.ref b19), .val (.ref b66), .val (.double (own_val lw hg)), .second] [(.int (1 : Int32))])) _
              exact retN X70 hx (t := .boolean) Bd.returns (by simp) (hb hby at_297) lhr
            · skip
              show Q0 Z x0 x1 x2 x3 h0 n0 _ T70.heap _
              rw [eq70]
              exact ⟨rfl, N70⟩
  · skip
    rw [(hk : ((x2 &&& (2147483647 : Int32)) % (3 : Int32)) = (2 : Int32))] at k38
    have f79 := (V34.other W37 ne_b18_b19)
    obtain ⟨cl80, Ar80, q80, S80, M80, HH80, GG80⟩ := id f79
    have hin80 : ¬ ((2 : Int32) < 0 ∨ cl80.slots.size ≤ ((2 : Int32)).toNatClampNeg) := inb_of S80 ⟨by decide, by decide⟩
    obtain ⟨T81, h81, X81, e81, W81, st81⟩ := stD X37 hx hZ e37 Ar80 (j := (2 : Int32)) hin80 (g := (mkF m 177 #[.val (.int x0), .val (.int x1), .val (.int x2), .val (.int x3), .val (.int (2 : Int32)), .val (.int mm), .val (.double (9218868437227405312 : UInt64)), .second, .val (.int lo), .val (.int hi), .val (.double lw), .second, .val (.double hg), .second, .val (.double (FP.i2d hi)), .second, .val (.ref b18), .val (.ref b19), .unset, .unset, .unset] [(.double lw), (.int (2 : Int32)), (.ref b18)])) rfl rfl (hb hby at_177)
    have N81 := Fr.snoc X81 N37 ge_b18
    have Z81 : n0 ≤ h81.size := by rw [W81.size]; exact Z37
    have K81 : Keep h0 h81 [] := (K37.wr W81 (Or.inr sz_b18))
    have V81 := Arv.set Ar80 q80 S80 M80 HH80 GG80 rfl W81 2 rfl (Nat.le_of_ble_eq_true rfl)
    have f82 := (V37.other W81 (Ne.symm ne_b18_b19))
    obtain ⟨cl83, Ar83, q83, S83, M83, HH83, GG83⟩ := id f82
    have hin83 : ¬ ((2 : Int32) < 0 ∨ cl83.slots.size ≤ ((2 : Int32)).toNatClampNeg) := inb_of S83 ⟨by decide, by decide⟩
    obtain ⟨T84, h84, X84, e84, W84, st84⟩ := stD X81 hx hZ e81 Ar83 (j := (2 : Int32)) hin83 (g := (mkF m 184 #[.val (.int x0), .val (.int x1), .val (.int x2), .val (.int x3), .val (.int (2 : Int32)), .val (.int mm), .val (.double (9218868437227405312 : UInt64)), .second, .val (.int lo), .val (.int hi), .val (.double lw), .second, .val (.double hg), .second, .val (.double (FP.i2d hi)), .second, .val (.ref b18), .val (.ref b19), .unset, .unset, .unset] [(.double hg), (.int (2 : Int32)), (.ref b19)])) rfl rfl (hb hby at_184)
    have N84 := Fr.snoc X84 N81 ge_b19
    have Z84 : n0 ≤ h84.size := by rw [W84.size]; exact Z81
    have K84 : Keep h0 h84 [] := (K81.wr W84 (Or.inr sz_b19))
    have V84 := Arv.set Ar83 q83 S83 M83 HH83 GG83 rfl W84 2 rfl (Nat.le_of_ble_eq_true rfl)
    have f85 := (V81.other W84 ne_b18_b19)
    obtain ⟨T86, h86, X86, e86, E86, A86, D86, -, st86⟩ := newO X84 hx hZ hown (wd11 hw) (wd12 hw) (wd13 hw) e84 (g := (mkF m 185 #[.val (.int x0), .val (.int x1), .val (.int x2), .val (.int x3), .val (.int (2 : Int32)), .val (.int mm), .val (.double (9218868437227405312 : UInt64)), .second, .val (.int lo), .val (.int hi), .val (.double lw), .second, .val (.double hg), .second, .val (.double (FP.i2d hi)), .second, .val (.ref b18), .val (.ref b19), .unset, .unset, .unset] [])) rfl (hb hby at_185) (by decide) (by decide)
    obtain ⟨b86, g86⟩ : ∃ z, z = h84.size := ⟨_, rfl⟩
    rw [← g86] at A86 D86 st86
    have ne_b18_b86 : b18 ≠ b86 := Nat.ne_of_lt (Nat.lt_of_lt_of_le f85.lt (Nat.le_of_eq g86.symm))
    have ne_b19_b86 : b19 ≠ b86 := Nat.ne_of_lt (Nat.lt_of_lt_of_le V84.lt (Nat.le_of_eq g86.symm))
    have ge_b86 : n0 ≤ b86 := Nat.le_trans Z84 (Nat.le_of_eq g86.symm)
    have sz_b86 : h0.size ≤ b86 := Nat.le_trans K84.1 (Nat.le_of_eq g86.symm)
    have Z86 : n0 ≤ h86.size := Nat.le_trans Z84 E86.1
    have K86 : Keep h0 h86 [] := (K84.ext E86)
    have F86_lower : Fld Z h86 b86 "com/example/formula_to_strategy/formulatostrategy/engine/ValueBounds" "lower" "[D" .null := D86 (Or.inr (wd21 hw)) (ty := (.array .double)) (by decide)
    have F86_upper : Fld Z h86 b86 "com/example/formula_to_strategy/formulatostrategy/engine/ValueBounds" "upper" "[D" .null := D86 (Or.inr (wd23 hw)) (ty := (.array .double)) (by decide)
    obtain ⟨_, _, ⟨T87, L87, kc87, ks87⟩, -, X87, ⟨Lc87, hQ87, l87, y87, z87⟩, st87⟩ := X86.specialBack hx (y := (⟨"com/example/formula_to_strategy/formulatostrategy/engine/ValueBounds", "<init>", "([D[D)V"⟩ : MethodName)) rfl hown (mvT hZ (wd14 hw)) (mvT hZ (wd15 hw)) (mvT hZ (wd16 hw)) (by decide) (backOf (W := 1) (rmIni l Z a0 hw [] b86 b18 b19 _ _ h86 n0 Z86 ge_b86 A86 F86_lower F86_upper) hZ (wd16 hw) (wd13 hw) (by decide) (by decide)) (g := (mkF m 193 #[.val (.int x0), .val (.int x1), .val (.int x2), .val (.int x3), .val (.int (2 : Int32)), .val (.int mm), .val (.double (9218868437227405312 : UInt64)), .second, .val (.int lo), .val (.int hi), .val (.double lw), .second, .val (.double hg), .second, .val (.double (FP.i2d hi)), .second, .val (.ref b18), .val (.ref b19), .unset, .unset, .unset] [(.ref b19), (.ref b18), (.ref b86), (.ref b86)])) rfl (by rw [hml]; rfl) (Steps.refl _) (a := b86) (argsL := [(.ref b18), (.ref b19)]) (rest := [(.ref b86)]) (lenOf pd___D_D_V rfl) rfl (by show 2 * 0 + _ ≤ _; exact Nat.le_of_eq rfl) (hb hby at_193) (fun _ _ => ⟨rfl, e86, (by decide : 3 + 0 ≤ _), (by decide : 8 + 0 ≤ _)⟩)
    dsimp only [Pt.U, Pt.locs, Pt.cells, Pt.slots] at X87 l87 y87 z87 st87 hQ87
    subst l87 y87 z87
    obtain ⟨rfl, Nq87, Kq87, gE87, gL87, gU87⟩ := hQ87
    have N87 := Fr.app N84 Nq87
    have Z87 : n0 ≤ T87.heap.size := Nat.le_trans Z86 Kq87.1
    have K87 : Keep h0 T87.heap [] := Keep.trans K86 Kq87 (allS (Or.inr sz_b86) all0)
    have f88 := ((f85.ext E86).keep Kq87 (ninS ne_b18_b86 nin0))
    have f89 := ((V84.ext E86).keep Kq87 (ninS ne_b19_b86 nin0))
    obtain ⟨cq90, kq90, q90a, q90b, q90c⟩ := isOf hZ rfl gE87
    obtain ⟨_, _, ⟨T90, L90, kc90, ks90⟩, -, X90, ⟨Lc90, hQ90, l90, y90, z90⟩, st90⟩ := X87.virtualBack hx (y := (⟨"com/example/formula_to_strategy/formulatostrategy/engine/ValueBounds", "value", "(I)D"⟩ : MethodName)) (z := (⟨"com/example/formula_to_strategy/formulatostrategy/engine/ValueBounds", "value", "(I)D"⟩ : MethodName)) hown (mvT hZ (wd24 hw)) (mvT hZ (wd25 hw)) (notFace_of_selects (args := #[]) (mvT hZ (wd27 hw))) (mvT hZ (wd27 hw)) (mvT hZ (wd26 hw)) (by decide) (backOf (W := 0) (rmVal l Z a0 hw [] b86 (2 : Int32) b18 b19 _ _ _ _ lw hg T87.heap n0 Z87 gL87 gU87 f88 f89 ⟨by decide, by decide⟩ rfl rfl (own_nn hlh hj5)) hZ (wd28 hw) (wd13 hw) (by decide) (by decide)) q90a q90c (g := (mkF m 202 #[.val (.int x0), .val (.int x1), .val (.int x2), .val (.int x3), .val (.int (2 : Int32)), .val (.int mm), .val (.double (9218868437227405312 : UInt64)), .second, .val (.int lo), .val (.int hi), .val (.double lw), .second, .val (.double hg), .second, .val (.double (FP.i2d hi)), .second, .val (.ref b18), .val (.ref b19), .val (.ref b86), .unset, .unset] [(.int (2 : Int32)), (.ref b86)])) rfl (by rw [hml]; rfl) (Steps.refl _) (argsL := [(.int (2 : Int32))]) (rest := []) (lenOf pd__I_D rfl) rfl (by show 2 * 0 + _ ≤ _; exact Nat.le_of_eq rfl) (hb hby at_202) (fun _ _ => ⟨rfl, rfl, (by decide : 3 + 0 ≤ _), (by decide : 8 + 0 ≤ _)⟩)
    dsimp only [Pt.U, Pt.locs, Pt.cells, Pt.slots] at X90 l90 y90 z90 st90 hQ90
    subst l90 y90 z90
    obtain ⟨rfl, Nq90, eq90⟩ := hQ90
    have N90 := Fr.app N87 Nq90
    have k91 : ∀ t, Steps p.tables e below (T90.setTop (mkF m 210 #[.val (.int x0), .val (.int x1), .val (.int x2), .val (.int x3), .val (.int (2 : Int32)), .val (.int mm), .val (.double (9218868437227405312 : UInt64)), .second, .val (.int lo), .val (.int hi), .val (.double lw), .second, .val (.double hg), .second, .val (.double (FP.i2d hi)), .second, .val (.ref b18), .val (.ref b19), .val (.ref b86), .val (.double (own_val lw hg)), .second] [(.int (1 : Int32)), (.int mm)])) t → Steps p.tables e below (s₁.setTop (entryFrame m #[(.int x0), (.int x1), (.int x2), (.int x3)] maxLocals)) t := by
      intro t kt
      refine k38 t ?_
      show Steps p.tables e below (T37.setTop (mkF m 171 #[.val (.int x0), .val (.int x1), .val (.int x2), .val (.int x3), .val (.int (2 : Int32)), .val (.int mm), .val (.double (9218868437227405312 : UInt64)), .second, .val (.int lo), .val (.int hi), .val (.double lw), .second, .val (.double hg), .second, .val (.double (FP.i2d hi)), .second, .val (.ref b18), .val (.ref b19), .unset, .unset, .unset] [])) _
      refine XS.aload X37.here hx rfl (hb hby at_171) rfl rfl ?_
      show Steps p.tables e below (T37.setTop (mkF m 173 #[.val (.int x0), .val (.int x1), .val (.int x2), .val (.int x3), .val (.int (2 : Int32)), .val (.int mm), .val (.double (9218868437227405312 : UInt64)), .second, .val (.int lo), .val (.int hi), .val (.double lw), .second, .val (.double hg), .second, .val (.double (FP.i2d hi)), .second, .val (.ref b18), .val (.ref b19), .unset, .unset, .unset] [(.ref b18)])) _
      refine XS.iload X37.here hx rfl (hb hby at_173) rfl ?_
      show Steps p.tables e below (T37.setTop (mkF m 175 #[.val (.int x0), .val (.int x1), .val (.int x2), .val (.int x3), .val (.int (2 : Int32)), .val (.int mm), .val (.double (9218868437227405312 : UInt64)), .second, .val (.int lo), .val (.int hi), .val (.double lw), .second, .val (.double hg), .second, .val (.double (FP.i2d hi)), .second, .val (.ref b18), .val (.ref b19), .unset, .unset, .unset] [(.int (2 : Int32)), (.ref b18)])) _
      refine XS.dload X37.here hx rfl (hb hby at_175) rfl ?_
      show Steps p.tables e below (T37.setTop (mkF m 177 #[.val (.int x0), .val (.int x1), .val (.int x2), .val (.int x3), .val (.int (2 : Int32)), .val (.int mm), .val (.double (9218868437227405312 : UInt64)), .second, .val (.int lo), .val (.int hi), .val (.double lw), .second, .val (.double hg), .second, .val (.double (FP.i2d hi)), .second, .val (.ref b18), .val (.ref b19), .unset, .unset, .unset] [(.double lw), (.int (2 : Int32)), (.ref b18)])) _
      refine st81 _ ?_
      show Steps p.tables e below (T81.setTop (mkF m 178 #[.val (.int x0), .val (.int x1), .val (.int x2), .val (.int x3), .val (.int (2 : Int32)), .val (.int mm), .val (.double (9218868437227405312 : UInt64)), .second, .val (.int lo), .val (.int hi), .val (.double lw), .second, .val (.double hg), .second, .val (.double (FP.i2d hi)), .second, .val (.ref b18), .val (.ref b19), .unset, .unset, .unset] [])) _
      refine XS.aload X81.here hx rfl (hb hby at_178) rfl rfl ?_
      show Steps p.tables e below (T81.setTop (mkF m 180 #[.val (.int x0), .val (.int x1), .val (.int x2), .val (.int x3), .val (.int (2 : Int32)), .val (.int mm), .val (.double (9218868437227405312 : UInt64)), .second, .val (.int lo), .val (.int hi), .val (.double lw), .second, .val (.double hg), .second, .val (.double (FP.i2d hi)), .second, .val (.ref b18), .val (.ref b19), .unset, .unset, .unset] [(.ref b19)])) _
      refine XS.iload X81.here hx rfl (hb hby at_180) rfl ?_
      show Steps p.tables e below (T81.setTop (mkF m 182 #[.val (.int x0), .val (.int x1), .val (.int x2), .val (.int x3), .val (.int (2 : Int32)), .val (.int mm), .val (.double (9218868437227405312 : UInt64)), .second, .val (.int lo), .val (.int hi), .val (.double lw), .second, .val (.double hg), .second, .val (.double (FP.i2d hi)), .second, .val (.ref b18), .val (.ref b19), .unset, .unset, .unset] [(.int (2 : Int32)), (.ref b19)])) _
      refine XS.dload X81.here hx rfl (hb hby at_182) rfl ?_
      show Steps p.tables e below (T81.setTop (mkF m 184 #[.val (.int x0), .val (.int x1), .val (.int x2), .val (.int x3), .val (.int (2 : Int32)), .val (.int mm), .val (.double (9218868437227405312 : UInt64)), .second, .val (.int lo), .val (.int hi), .val (.double lw), .second, .val (.double hg), .second, .val (.double (FP.i2d hi)), .second, .val (.ref b18), .val (.ref b19), .unset, .unset, .unset] [(.double hg), (.int (2 : Int32)), (.ref b19)])) _
      refine st84 _ ?_
      show Steps p.tables e below (T84.setTop (mkF m 185 #[.val (.int x0), .val (.int x1), .val (.int x2), .val (.int x3), .val (.int (2 : Int32)), .val (.int mm), .val (.double (9218868437227405312 : UInt64)), .second, .val (.int lo), .val (.int hi), .val (.double lw), .second, .val (.double hg), .second, .val (.double (FP.i2d hi)), .second, .val (.ref b18), .val (.ref b19), .unset, .unset, .unset] [])) _
      refine st86 _ ?_
      show Steps p.tables e below (T86.setTop (mkF m 188 #[.val (.int x0), .val (.int x1), .val (.int x2), .val (.int x3), .val (.int (2 : Int32)), .val (.int mm), .val (.double (9218868437227405312 : UInt64)), .second, .val (.int lo), .val (.int hi), .val (.double lw), .second, .val (.double hg), .second, .val (.double (FP.i2d hi)), .second, .val (.ref b18), .val (.ref b19), .unset, .unset, .unset] [(.ref b86)])) _
      refine XS.dup X86.here hx rfl (hb hby at_188) rfl rfl ?_
      show Steps p.tables e below (T86.setTop (mkF m 189 #[.val (.int x0), .val (.int x1), .val (.int x2), .val (.int x3), .val (.int (2 : Int32)), .val (.int mm), .val (.double (9218868437227405312 : UInt64)), .second, .val (.int lo), .val (.int hi), .val (.double lw), .second, .val (.double hg), .second, .val (.double (FP.i2d hi)), .second, .val (.ref b18), .val (.ref b19), .unset, .unset, .unset] [(.ref b86), (.ref b86)])) _
      refine XS.aload X86.here hx rfl (hb hby at_189) rfl rfl ?_
      show Steps p.tables e below (T86.setTop (mkF m 191 #[.val (.int x0), .val (.int x1), .val (.int x2), .val (.int x3), .val (.int (2 : Int32)), .val (.int mm), .val (.double (9218868437227405312 : UInt64)), .second, .val (.int lo), .val (.int hi), .val (.double lw), .second, .val (.double hg), .second, .val (.double (FP.i2d hi)), .second, .val (.ref b18), .val (.ref b19), .unset, .unset, .unset] [(.ref b18), (.ref b86), (.ref b86)])) _
      refine XS.aload X86.here hx rfl (hb hby at_191) rfl rfl ?_
      show Steps p.tables e below (T86.setTop (mkF m 193 #[.val (.int x0), .val (.int x1), .val (.int x2), .val (.int x3), .val (.int (2 : Int32)), .val (.int mm), .val (.double (9218868437227405312 : UInt64)), .second, .val (.int lo), .val (.int hi), .val (.double lw), .second, .val (.double hg), .second, .val (.double (FP.i2d hi)), .second, .val (.ref b18), .val (.ref b19), .unset, .unset, .unset] [(.ref b19), (.ref b18), (.ref b86), (.ref b86)])) _
      refine st87.trans ?_
      show Steps p.tables e below (T87.setTop (mkF m 196 #[.val (.int x0), .val (.int x1), .val (.int x2), .val (.int x3), .val (.int (2 : Int32)), .val (.int mm), .val (.double (9218868437227405312 : UInt64)), .second, .val (.int lo), .val (.int hi), .val (.double lw), .second, .val (.double hg), .second, .val (.double (FP.i2d hi)), .second, .val (.ref b18), .val (.ref b19), .unset, .unset, .unset] [(.ref b86)])) _
      refine XS.astore X87.here hx rfl (hb hby at_196) rfl rfl (l' := #[.val (.int x0), .val (.int x1), .val (.int x2), .val (.int x3), .val (.int (2 : Int32)), .val (.int mm), .val (.double (9218868437227405312 : UInt64)), .second, .val (.int lo), .val (.int hi), .val (.double lw), .second, .val (.double hg), .second, .val (.double (FP.i2d hi)), .second, .val (.ref b18), .val (.ref b19), .val (.ref b86), .unset, .unset]) rfl ?_
      show Steps p.tables e below (T87.setTop (mkF m 198 #[.val (.int x0), .val (.int x1), .val (.int x2), .val (.int x3), .val (.int (2 : Int32)), .val (.int mm), .val (.double (9218868437227405312 : UInt64)), .second, .val (.int lo), .val (.int hi), .val (.double lw), .second, .val (.double hg), .second, .val (.double (FP.i2d hi)), .second, .val (.ref b18), .val (.ref b19), .val (.ref b86), .unset, .unset] [])) _
      refine XS.aload X87.here hx rfl (hb hby at_198) rfl rfl ?_
      show Steps p.tables e below (T87.setTop (mkF m 200 #[.val (.int x0), .val (.int x1), .val (.int x2), .val (.int x3), .val (.int (2 : Int32)), .val (.int mm), .val (.double (9218868437227405312 : UInt64)), .second, .val (.int lo), .val (.int hi), .val (.double lw), .second, .val (.double hg), .second, .val (.double (FP.i2d hi)), .second, .val (.ref b18), .val (.ref b19), .val (.ref b86), .unset, .unset] [(.ref b86)])) _
      refine XS.iload X87.here hx rfl (hb hby at_200) rfl ?_
      show Steps p.tables e below (T87.setTop (mkF m 202 #[.val (.int x0), .val (.int x1), .val (.int x2), .val (.int x3), .val (.int (2 : Int32)), .val (.int mm), .val (.double (9218868437227405312 : UInt64)), .second, .val (.int lo), .val (.int hi), .val (.double lw), .second, .val (.double hg), .second, .val (.double (FP.i2d hi)), .second, .val (.ref b18), .val (.ref b19), .val (.ref b86), .unset, .unset] [(.int (2 : Int32)), (.ref b86)])) _
      refine st90.trans ?_
      show Steps p.tables e below (T90.setTop (mkF m 205 #[.val (.int x0), .val (.int x1), .val (.int x2), .val (.int x3), .val (.int (2 : Int32)), .val (.int mm), .val (.double (9218868437227405312 : UInt64)), .second, .val (.int lo), .val (.int hi), .val (.double lw), .second, .val (.double hg), .second, .val (.double (FP.i2d hi)), .second, .val (.ref b18), .val (.ref b19), .val (.ref b86), .unset, .unset] [(.double (own_val lw hg))])) _
      refine XS.dstore X90.here hx rfl (hb hby at_205) rfl (l' := #[.val (.int x0), .val (.int x1), .val (.int x2), .val (.int x3), .val (.int (2 : Int32)), .val (.int mm), .val (.double (9218868437227405312 : UInt64)), .second, .val (.int lo), .val (.int hi), .val (.double lw), .second, .val (.double hg), .second, .val (.double (FP.i2d hi)), .second, .val (.ref b18), .val (.ref b19), .val (.ref b86), .val (.double (own_val lw hg)), .second]) rfl ?_
      show Steps p.tables e below (T90.setTop (mkF m 207 #[.val (.int x0), .val (.int x1), .val (.int x2), .val (.int x3), .val (.int (2 : Int32)), .val (.int mm), .val (.double (9218868437227405312 : UInt64)), .second, .val (.int lo), .val (.int hi), .val (.double lw), .second, .val (.double hg), .second, .val (.double (FP.i2d hi)), .second, .val (.ref b18), .val (.ref b19), .val (.ref b86), .val (.double (own_val lw hg)), .second] [])) _
      refine XS.iload X90.here hx rfl (hb hby at_207) rfl ?_
      show Steps p.tables e below (T90.setTop (mkF m 209 #[.val (.int x0), .val (.int x1), .val (.int x2), .val (.int x3), .val (.int (2 : Int32)), .val (.int mm), .val (.double (9218868437227405312 : UInt64)), .second, .val (.int lo), .val (.int hi), .val (.double lw), .second, .val (.double hg), .second, .val (.double (FP.i2d hi)), .second, .val (.ref b18), .val (.ref b19), .val (.ref b86), .val (.double (own_val lw hg)), .second] [(.int mm)])) _
      refine XS.iconst X90.here hx rfl (hb hby at_209) ?_
      exact kt
    by_cases hc92 : mm = (1 : Int32)
    · skip
      obtain ⟨lfs, lhr, lhrun, lhended, lhW, lhsame⟩ := X90.leave (v := some (.int (1 : Int32))) (fun h => by rw [Bd.returns] at h; cases h)
      refine ⟨_, _, k91 _ ?_, lhrun, lhended, _, _, rfl, ?_, ⟨_, rfl⟩, lhW, lhsame.mono (by decide) (by decide)⟩
      · skip
        show Steps p.tables e below (T90.setTop (mkF m 210 #[.val (.int x0), .val (.int x1), .val (.int x2), .val (.int x3), .val (.int (2 : Int32)), .val (.int mm), .val (.double (9218868437227405312 : UInt64)), .second, .val (.int lo), .val (.int hi), .val (.double lw), .second, .val (.double hg), .second, .val (.double (FP.i2d hi)), .second, .val (.ref b18), .val (.ref b19), .val (.ref b86), .val (.double (own_val lw hg)), .second] [(.int (1 : Int32)), (.int mm)])) _
        refine XS.icmpNo X90.here hx rfl (hb hby at_210) rfl (teq hc92).2 ?_
        show Steps p.tables e below (T90.setTop (mkF m 213 #[.val (.int x0), .val (.int x1), .val (.int x2), .val (.int x3), .val (.int (2 : Int32)), .val (.int mm), .val (.double (9218868437227405312 : UInt64)), .second, .val (.int lo), .val (.int hi), .val (.double lw), .second, .val (.double hg), .second, .val (.double (FP.i2d hi)), .second, .val (.ref b18), .val (.ref b19), .val (.ref b86), .val (.double (own_val lw hg)), .second] [])) _
        refine XS.dload X90.here hx rfl (hb hby at_213) rfl ?_
        show Steps p.tables e below (T90.setTop (mkF m 215 #[.val (.int x0), .val (.int x1), .val (.int x2), .val (.int x3), .val (.int (2 : Int32)), .val (.int mm), .val (.double (9218868437227405312 : UInt64)), .second, .val (.int lo), .val (.int hi), .val (.double lw), .second, .val (.double hg), .second, .val (.double (FP.i2d hi)), .second, .val (.ref b18), .val (.ref b19), .val (.ref b86), .val (.double (own_val lw hg)), .second] [(.double (own_val lw hg))])) _
        refine XS.dload X90.here hx rfl (hb hby at_215) rfl ?_
        show Steps p.tables e below (T90.setTop (mkF m 217 #[.val (.int x0), .val (.int x1), .val (.int x2), .val (.int x3), .val (.int (2 : Int32)), .val (.int mm), .val (.double (9218868437227405312 : UInt64)), .second, .val (.int lo), .val (.int hi), .val (.double lw), .second, .val (.double hg), .second, .val (.double (FP.i2d hi)), .second, .val (.ref b18), .val (.ref b19), .val (.ref b86), .val (.double (own_val lw hg)), .second] [(.double lw), (.double (own_val lw hg))])) _
        refine XS.dcmpS X90.here hx rfl (hb hby at_217) rfl (own_t1 hj5 hc92) ?_
        show Steps p.tables e below (T90.setTop (mkF m 218 #[.val (.int x0), .val (.int x1), .val (.int x2), .val (.int x3), .val (.int (2 : Int32)), .val (.int mm), .val (.double (9218868437227405312 : UInt64)), .second, .val (.int lo), .val (.int hi), .val (.double lw), .second, .val (.double hg), .second, .val (.double (FP.i2d hi)), .second, .val (.ref b18), .val (.ref b19), .val (.ref b86), .val (.double (own_val lw hg)), .second] [(.int (0 : Int32))])) _
        refine XS.ifNo X90.here hx rfl (hb hby at_218) rfl ((if0 _ _).trans (teq (by decide : (0 : Int32) = (0 : Int32))).2) ?_
        show Steps p.tables e below (T90.setTop (mkF m 221 #[.val (.int x0), .val (.int x1), .val (.int x2), .val (.int x3), .val (.int (2 : Int32)), .val (.int mm), .val (.double (9218868437227405312 : UInt64)), .second, .val (.int lo), .val (.int hi), .val (.double lw), .second, .val (.double hg), .second, .val (.double (FP.i2d hi)), .second, .val (.ref b18), .val (.ref b19), .val (.ref b86), .val (.double (own_val lw hg)), .second] [])) _
        refine XS.iconst X90.here hx rfl (hb hby at_221) ?_
        show Steps p.tables e below (T90.setTop (mkF m 222 #[.val (.int x0), .val (.int x1), .val (.int x2), .val (.int x3), .val (.int (2 : Int32)), .val (.int mm), .val (.double (9218868437227405312 : UInt64)), .second, .val (.int lo), .val (.int hi), .val (.double lw), .second, .val (.double hg), .second, .val (.double (FP.i2d hi)), .second, .val (.ref b18), .val (.ref b19), .val (.ref b86), .val (.double (own_val lw hg)), .second] [(.int (1 : Int32))])) _
        refine XS.goto X90.here hx rfl (pc0 := 222) (pc' := 226) rfl (hb hby at_222) (by decide) (by decide) ?_
        show Steps p.tables e below (T90.setTop (mkF m 226 #[.val (.int x0), .val (.int x1), .val (.int x2), .val (.int x3), .val (.int (2 : Int32)), .val (.int mm), .val (.double (9218868437227405312 : UInt64)), .second, .val (.int lo), .val (.int hi), .val (.double lw), .second, .val (.double hg), .second, .val (.double (FP.i2d hi)), .second, .val (.ref b18), .val (.ref b19), .val (.ref b86), .val (.double (own_val lw hg)), .second] [(.int (1 : Int32))])) _
        exact retN X90 hx (t := .boolean) Bd.returns (by simp) (hb hby at_226) lhr
      · skip
        show Q0 Z x0 x1 x2 x3 h0 n0 _ T90.heap _
        rw [eq90]
        exact ⟨rfl, N90⟩
    · skip
      have k93 : ∀ t, Steps p.tables e below (T90.setTop (mkF m 230 #[.val (.int x0), .val (.int x1), .val (.int x2), .val (.int x3), .val (.int (2 : Int32)), .val (.int mm), .val (.double (9218868437227405312 : UInt64)), .second, .val (.int lo), .val (.int hi), .val (.double lw), .second, .val (.double hg), .second, .val (.double (FP.i2d hi)), .second, .val (.ref b18), .val (.ref b19), .val (.ref b86), .val (.double (own_val lw hg)), .second] [(.int (2 : Int32)), (.int mm)])) t → Steps p.tables e below (s₁.setTop (entryFrame m #[(.int x0), (.int x1), (.int x2), (.int x3)] maxLocals)) t := by
        intro t kt
        refine k91 t ?_
        show Steps p.tables e below (T90.setTop (mkF m 210 #[.val (.int x0), .val (.int x1), .val (.int x2), .val (.int x3), .val (.int (2 : Int32)), .val (.int mm), .val (.double (9218868437227405312 : UInt64)), .second, .val (.int lo), .val (.int hi), .val (.double lw), .second, .val (.double hg), .second, .val (.double (FP.i2d hi)), .second, .val (.ref b18), .val (.ref b19), .val (.ref b86), .val (.double (own_val lw hg)), .second] [(.int (1 : Int32)), (.int mm)])) _
        refine XS.icmpYes X90.here hx rfl (pc0 := 210) (pc' := 227) rfl (hb hby at_210) rfl (feq hc92).2 (by decide) (by decide) ?_
        show Steps p.tables e below (T90.setTop (mkF m 227 #[.val (.int x0), .val (.int x1), .val (.int x2), .val (.int x3), .val (.int (2 : Int32)), .val (.int mm), .val (.double (9218868437227405312 : UInt64)), .second, .val (.int lo), .val (.int hi), .val (.double lw), .second, .val (.double hg), .second, .val (.double (FP.i2d hi)), .second, .val (.ref b18), .val (.ref b19), .val (.ref b86), .val (.double (own_val lw hg)), .second] [])) _
        refine XS.iload X90.here hx rfl (hb hby at_227) rfl ?_
        show Steps p.tables e below (T90.setTop (mkF m 229 #[.val (.int x0), .val (.int x1), .val (.int x2), .val (.int x3), .val (.int (2 : Int32)), .val (.int mm), .val (.double (9218868437227405312 : UInt64)), .second, .val (.int lo), .val (.int hi), .val (.double lw), .second, .val (.double hg), .second, .val (.double (FP.i2d hi)), .second, .val (.ref b18), .val (.ref b19), .val (.ref b86), .val (.double (own_val lw hg)), .second] [(.int mm)])) _
        refine XS.iconst X90.here hx rfl (hb hby at_229) ?_
        exact kt
      by_cases hc94 : mm = (2 : Int32)
      · skip
        obtain ⟨lfs, lhr, lhrun, lhended, lhW, lhsame⟩ := X90.leave (v := some (.int (1 : Int32))) (fun h => by rw [Bd.returns] at h; cases h)
        refine ⟨_, _, k93 _ ?_, lhrun, lhended, _, _, rfl, ?_, ⟨_, rfl⟩, lhW, lhsame.mono (by decide) (by decide)⟩
        · skip
          show Steps p.tables e below (T90.setTop (mkF m 230 #[.val (.int x0), .val (.int x1), .val (.int x2), .val (.int x3), .val (.int (2 : Int32)), .val (.int mm), .val (.double (9218868437227405312 : UInt64)), .second, .val (.int lo), .val (.int hi), .val (.double lw), .second, .val (.double hg), .second, .val (.double (FP.i2d hi)), .second, .val (.ref b18), .val (.ref b19), .val (.ref b86), .val (.double (own_val lw hg)), .second] [(.int (2 : Int32)), (.int mm)])) _
          refine XS.icmpYes X90.here hx rfl (pc0 := 230) (pc' := 239) rfl (hb hby at_230) rfl (teq hc94).1 (by decide) (by decide) ?_
          show Steps p.tables e below (T90.setTop (mkF m 239 #[.val (.int x0), .val (.int x1), .val (.int x2), .val (.int x3), .val (.int (2 : Int32)), .val (.int mm), .val (.double (9218868437227405312 : UInt64)), .second, .val (.int lo), .val (.int hi), .val (.double lw), .second, .val (.double hg), .second, .val (.double (FP.i2d hi)), .second, .val (.ref b18), .val (.ref b19), .val (.ref b86), .val (.double (own_val lw hg)), .second] [])) _
          refine XS.dload X90.here hx rfl (hb hby at_239) rfl ?_
          show Steps p.tables e below (T90.setTop (mkF m 241 #[.val (.int x0), .val (.int x1), .val (.int x2), .val (.int x3), .val (.int (2 : Int32)), .val (.int mm), .val (.double (9218868437227405312 : UInt64)), .second, .val (.int lo), .val (.int hi), .val (.double lw), .second, .val (.double hg), .second, .val (.double (FP.i2d hi)), .second, .val (.ref b18), .val (.ref b19), .val (.ref b86), .val (.double (own_val lw hg)), .second] [(.double (own_val lw hg))])) _
          refine XS.dload X90.here hx rfl (hb hby at_241) rfl ?_
          show Steps p.tables e below (T90.setTop (mkF m 243 #[.val (.int x0), .val (.int x1), .val (.int x2), .val (.int x3), .val (.int (2 : Int32)), .val (.int mm), .val (.double (9218868437227405312 : UInt64)), .second, .val (.int lo), .val (.int hi), .val (.double lw), .second, .val (.double hg), .second, .val (.double (FP.i2d hi)), .second, .val (.ref b18), .val (.ref b19), .val (.ref b86), .val (.double (own_val lw hg)), .second] [(.double (9218868437227405312 : UInt64)), (.double (own_val lw hg))])) _
          refine XS.dcmpS X90.here hx rfl (hb hby at_243) rfl (own_t2 hj5 hc94) ?_
          show Steps p.tables e below (T90.setTop (mkF m 244 #[.val (.int x0), .val (.int x1), .val (.int x2), .val (.int x3), .val (.int (2 : Int32)), .val (.int mm), .val (.double (9218868437227405312 : UInt64)), .second, .val (.int lo), .val (.int hi), .val (.double lw), .second, .val (.double hg), .second, .val (.double (FP.i2d hi)), .second, .val (.ref b18), .val (.ref b19), .val (.ref b86), .val (.double (own_val lw hg)), .second] [(.int (0 : Int32))])) _
          refine XS.ifNo X90.here hx rfl (hb hby at_244) rfl ((if0 _ _).trans (teq (by decide : (0 : Int32) = (0 : Int32))).2) ?_
          show Steps p.tables e below (T90.setTop (mkF m 247 #[.val (.int x0), .val (.int x1), .val (.int x2), .val (.int x3), .val (.int (2 : Int32)), .val (.int mm), .val (.double (9218868437227405312 : UInt64)), .second, .val (.int lo), .val (.int hi), .val (.double lw), .second, .val (.double hg), .second, .val (.double (FP.i2d hi)), .second, .val (.ref b18), .val (.ref b19), .val (.ref b86), .val (.double (own_val lw hg)), .second] [])) _
          refine XS.iconst X90.here hx rfl (hb hby at_247) ?_
          show Steps p.tables e below (T90.setTop (mkF m 248 #[.val (.int x0), .val (.int x1), .val (.int x2), .val (.int x3), .val (.int (2 : Int32)), .val (.int mm), .val (.double (9218868437227405312 : UInt64)), .second, .val (.int lo), .val (.int hi), .val (.double lw), .second, .val (.double hg), .second, .val (.double (FP.i2d hi)), .second, .val (.ref b18), .val (.ref b19), .val (.ref b86), .val (.double (own_val lw hg)), .second] [(.int (1 : Int32))])) _
          refine XS.goto X90.here hx rfl (pc0 := 248) (pc' := 252) rfl (hb hby at_248) (by decide) (by decide) ?_
          show Steps p.tables e below (T90.setTop (mkF m 252 #[.val (.int x0), .val (.int x1), .val (.int x2), .val (.int x3), .val (.int (2 : Int32)), .val (.int mm), .val (.double (9218868437227405312 : UInt64)), .second, .val (.int lo), .val (.int hi), .val (.double lw), .second, .val (.double hg), .second, .val (.double (FP.i2d hi)), .second, .val (.ref b18), .val (.ref b19), .val (.ref b86), .val (.double (own_val lw hg)), .second] [(.int (1 : Int32))])) _
          exact retN X90 hx (t := .boolean) Bd.returns (by simp) (hb hby at_252) lhr
        · skip
          show Q0 Z x0 x1 x2 x3 h0 n0 _ T90.heap _
          rw [eq90]
          exact ⟨rfl, N90⟩
      · skip
        have k95 : ∀ t, Steps p.tables e below (T90.setTop (mkF m 236 #[.val (.int x0), .val (.int x1), .val (.int x2), .val (.int x3), .val (.int (2 : Int32)), .val (.int mm), .val (.double (9218868437227405312 : UInt64)), .second, .val (.int lo), .val (.int hi), .val (.double lw), .second, .val (.double hg), .second, .val (.double (FP.i2d hi)), .second, .val (.ref b18), .val (.ref b19), .val (.ref b86), .val (.double (own_val lw hg)), .second] [(.int (4 : Int32)), (.int mm)])) t → Steps p.tables e below (s₁.setTop (entryFrame m #[(.int x0), (.int x1), (.int x2), (.int x3)] maxLocals)) t := by
          intro t kt
          refine k93 t ?_
          show Steps p.tables e below (T90.setTop (mkF m 230 #[.val (.int x0), .val (.int x1), .val (.int x2), .val (.int x3), .val (.int (2 : Int32)), .val (.int mm), .val (.double (9218868437227405312 : UInt64)), .second, .val (.int lo), .val (.int hi), .val (.double lw), .second, .val (.double hg), .second, .val (.double (FP.i2d hi)), .second, .val (.ref b18), .val (.ref b19), .val (.ref b86), .val (.double (own_val lw hg)), .second] [(.int (2 : Int32)), (.int mm)])) _
          refine XS.icmpNo X90.here hx rfl (hb hby at_230) rfl (feq hc94).1 ?_
          show Steps p.tables e below (T90.setTop (mkF m 233 #[.val (.int x0), .val (.int x1), .val (.int x2), .val (.int x3), .val (.int (2 : Int32)), .val (.int mm), .val (.double (9218868437227405312 : UInt64)), .second, .val (.int lo), .val (.int hi), .val (.double lw), .second, .val (.double hg), .second, .val (.double (FP.i2d hi)), .second, .val (.ref b18), .val (.ref b19), .val (.ref b86), .val (.double (own_val lw hg)), .second] [])) _
          refine XS.iload X90.here hx rfl (hb hby at_233) rfl ?_
          show Steps p.tables e below (T90.setTop (mkF m 235 #[.val (.int x0), .val (.int x1), .val (.int x2), .val (.int x3), .val (.int (2 : Int32)), .val (.int mm), .val (.double (9218868437227405312 : UInt64)), .second, .val (.int lo), .val (.int hi), .val (.double lw), .second, .val (.double hg), .second, .val (.double (FP.i2d hi)), .second, .val (.ref b18), .val (.ref b19), .val (.ref b86), .val (.double (own_val lw hg)), .second] [(.int mm)])) _
          refine XS.iconst X90.here hx rfl (hb hby at_235) ?_
          exact kt
        by_cases hc96 : mm = (4 : Int32)
        · skip
          obtain ⟨lfs, lhr, lhrun, lhended, lhW, lhsame⟩ := X90.leave (v := some (.int (1 : Int32))) (fun h => by rw [Bd.returns] at h; cases h)
          refine ⟨_, _, k95 _ ?_, lhrun, lhended, _, _, rfl, ?_, ⟨_, rfl⟩, lhW, lhsame.mono (by decide) (by decide)⟩
          · skip
            show Steps p.tables e below (T90.setTop (mkF m 236 #[.val (.int x0), .val (.int x1), .val (.int x2), .val (.int x3), .val (.int (2 : Int32)), .val (.int mm), .val (.double (9218868437227405312 : UInt64)), .second, .val (.int lo), .val (.int hi), .val (.double lw), .second, .val (.double hg), .second, .val (.double (FP.i2d hi)), .second, .val (.ref b18), .val (.ref b19), .val (.ref b86), .val (.double (own_val lw hg)), .second] [(.int (4 : Int32)), (.int mm)])) _
            refine XS.icmpNo X90.here hx rfl (hb hby at_236) rfl (teq hc96).2 ?_
            show Steps p.tables e below (T90.setTop (mkF m 239 #[.val (.int x0), .val (.int x1), .val (.int x2), .val (.int x3), .val (.int (2 : Int32)), .val (.int mm), .val (.double (9218868437227405312 : UInt64)), .second, .val (.int lo), .val (.int hi), .val (.double lw), .second, .val (.double hg), .second, .val (.double (FP.i2d hi)), .second, .val (.ref b18), .val (.ref b19), .val (.ref b86), .val (.double (own_val lw hg)), .second] [])) _
            refine XS.dload X90.here hx rfl (hb hby at_239) rfl ?_
            show Steps p.tables e below (T90.setTop (mkF m 241 #[.val (.int x0), .val (.int x1), .val (.int x2), .val (.int x3), .val (.int (2 : Int32)), .val (.int mm), .val (.double (9218868437227405312 : UInt64)), .second, .val (.int lo), .val (.int hi), .val (.double lw), .second, .val (.double hg), .second, .val (.double (FP.i2d hi)), .second, .val (.ref b18), .val (.ref b19), .val (.ref b86), .val (.double (own_val lw hg)), .second] [(.double (own_val lw hg))])) _
            refine XS.dload X90.here hx rfl (hb hby at_241) rfl ?_
            show Steps p.tables e below (T90.setTop (mkF m 243 #[.val (.int x0), .val (.int x1), .val (.int x2), .val (.int x3), .val (.int (2 : Int32)), .val (.int mm), .val (.double (9218868437227405312 : UInt64)), .second, .val (.int lo), .val (.int hi), .val (.double lw), .second, .val (.double hg), .second, .val (.double (FP.i2d hi)), .second, .val (.ref b18), .val (.ref b19), .val (.ref b86), .val (.double (own_val lw hg)), .second] [(.double (9218868437227405312 : UInt64)), (.double (own_val lw hg))])) _
            refine XS.dcmpS X90.here hx rfl (hb hby at_243) rfl (own_t4 hj5 hc96) ?_
            show Steps p.tables e below (T90.setTop (mkF m 244 #[.val (.int x0), .val (.int x1), .val (.int x2), .val (.int x3), .val (.int (2 : Int32)), .val (.int mm), .val (.double (9218868437227405312 : UInt64)), .second, .val (.int lo), .val (.int hi), .val (.double lw), .second, .val (.double hg), .second, .val (.double (FP.i2d hi)), .second, .val (.ref b18), .val (.ref b19), .val (.ref b86), .val (.double (own_val lw hg)), .second] [(.int (0 : Int32))])) _
            refine XS.ifNo X90.here hx rfl (hb hby at_244) rfl ((if0 _ _).trans (teq (by decide : (0 : Int32) = (0 : Int32))).2) ?_
            show Steps p.tables e below (T90.setTop (mkF m 247 #[.val (.int x0), .val (.int x1), .val (.int x2), .val (.int x3), .val (.int (2 : Int32)), .val (.int mm), .val (.double (9218868437227405312 : UInt64)), .second, .val (.int lo), .val (.int hi), .val (.double lw), .second, .val (.double hg), .second, .val (.double (FP.i2d hi)), .second, .val (.ref b18), .val (.ref b19), .val (.ref b86), .val (.double (own_val lw hg)), .second] [])) _
            refine XS.iconst X90.here hx rfl (hb hby at_247) ?_
            show Steps p.tables e below (T90.setTop (mkF m 248 #[.val (.int x0), .val (.int x1), .val (.int x2), .val (.int x3), .val (.int (2 : Int32)), .val (.int mm), .val (.double (9218868437227405312 : UInt64)), .second, .val (.int lo), .val (.int hi), .val (.double lw), .second, .val (.double hg), .second, .val (.double (FP.i2d hi)), .second, .val (.ref b18), .val (.ref b19), .val (.ref b86), .val (.double (own_val lw hg)), .second] [(.int (1 : Int32))])) _
            refine XS.goto X90.here hx rfl (pc0 := 248) (pc' := 252) rfl (hb hby at_248) (by decide) (by decide) ?_
            show Steps p.tables e below (T90.setTop (mkF m 252 #[.val (.int x0), .val (.int x1), .val (.int x2), .val (.int x3), .val (.int (2 : Int32)), .val (.int mm), .val (.double (9218868437227405312 : UInt64)), .second, .val (.int lo), .val (.int hi), .val (.double lw), .second, .val (.double hg), .second, .val (.double (FP.i2d hi)), .second, .val (.ref b18), .val (.ref b19), .val (.ref b86), .val (.double (own_val lw hg)), .second] [(.int (1 : Int32))])) _
            exact retN X90 hx (t := .boolean) Bd.returns (by simp) (hb hby at_252) lhr
          · skip
            show Q0 Z x0 x1 x2 x3 h0 n0 _ T90.heap _
            rw [eq90]
            exact ⟨rfl, N90⟩
        · skip
          have k97 : ∀ t, Steps p.tables e below (T90.setTop (mkF m 256 #[.val (.int x0), .val (.int x1), .val (.int x2), .val (.int x3), .val (.int (2 : Int32)), .val (.int mm), .val (.double (9218868437227405312 : UInt64)), .second, .val (.int lo), .val (.int hi), .val (.double lw), .second, .val (.double hg), .second, .val (.double (FP.i2d hi)), .second, .val (.ref b18), .val (.ref b19), .val (.ref b86), .val (.double (own_val lw hg)), .second] [(.int (5 : Int32)), (.int mm)])) t → Steps p.tables e below (s₁.setTop (entryFrame m #[(.int x0), (.int x1), (.int x2), (.int x3)] maxLocals)) t := by
            intro t kt
            refine k95 t ?_
            show Steps p.tables e below (T90.setTop (mkF m 236 #[.val (.int x0), .val (.int x1), .val (.int x2), .val (.int x3), .val (.int (2 : Int32)), .val (.int mm), .val (.double (9218868437227405312 : UInt64)), .second, .val (.int lo), .val (.int hi), .val (.double lw), .second, .val (.double hg), .second, .val (.double (FP.i2d hi)), .second, .val (.ref b18), .val (.ref b19), .val (.ref b86), .val (.double (own_val lw hg)), .second] [(.int (4 : Int32)), (.int mm)])) _
            refine XS.icmpYes X90.here hx rfl (pc0 := 236) (pc' := 253) rfl (hb hby at_236) rfl (feq hc96).2 (by decide) (by decide) ?_
            show Steps p.tables e below (T90.setTop (mkF m 253 #[.val (.int x0), .val (.int x1), .val (.int x2), .val (.int x3), .val (.int (2 : Int32)), .val (.int mm), .val (.double (9218868437227405312 : UInt64)), .second, .val (.int lo), .val (.int hi), .val (.double lw), .second, .val (.double hg), .second, .val (.double (FP.i2d hi)), .second, .val (.ref b18), .val (.ref b19), .val (.ref b86), .val (.double (own_val lw hg)), .second] [])) _
            refine XS.iload X90.here hx rfl (hb hby at_253) rfl ?_
            show Steps p.tables e below (T90.setTop (mkF m 255 #[.val (.int x0), .val (.int x1), .val (.int x2), .val (.int x3), .val (.int (2 : Int32)), .val (.int mm), .val (.double (9218868437227405312 : UInt64)), .second, .val (.int lo), .val (.int hi), .val (.double lw), .second, .val (.double hg), .second, .val (.double (FP.i2d hi)), .second, .val (.ref b18), .val (.ref b19), .val (.ref b86), .val (.double (own_val lw hg)), .second] [(.int mm)])) _
            refine XS.iconst X90.here hx rfl (hb hby at_255) ?_
            exact kt
          by_cases hc98 : mm = (5 : Int32)
          · skip
            obtain ⟨lfs, lhr, lhrun, lhended, lhW, lhsame⟩ := X90.leave (v := some (.int (1 : Int32))) (fun h => by rw [Bd.returns] at h; cases h)
            refine ⟨_, _, k97 _ ?_, lhrun, lhended, _, _, rfl, ?_, ⟨_, rfl⟩, lhW, lhsame.mono (by decide) (by decide)⟩
            · skip
              show Steps p.tables e below (T90.setTop (mkF m 256 #[.val (.int x0), .val (.int x1), .val (.int x2), .val (.int x3), .val (.int (2 : Int32)), .val (.int mm), .val (.double (9218868437227405312 : UInt64)), .second, .val (.int lo), .val (.int hi), .val (.double lw), .second, .val (.double hg), .second, .val (.double (FP.i2d hi)), .second, .val (.ref b18), .val (.ref b19), .val (.ref b86), .val (.double (own_val lw hg)), .second] [(.int (5 : Int32)), (.int mm)])) _
              refine XS.icmpNo X90.here hx rfl (hb hby at_256) rfl (teq hc98).2 ?_
              show Steps p.tables e below (T90.setTop (mkF m 259 #[.val (.int x0), .val (.int x1), .val (.int x2), .val (.int x3), .val (.int (2 : Int32)), .val (.int mm), .val (.double (9218868437227405312 : UInt64)), .second, .val (.int lo), .val (.int hi), .val (.double lw), .second, .val (.double hg), .second, .val (.double (FP.i2d hi)), .second, .val (.ref b18), .val (.ref b19), .val (.ref b86), .val (.double (own_val lw hg)), .second] [])) _
              refine XS.dload X90.here hx rfl (hb hby at_259) rfl ?_
              show Steps p.tables e below (T90.setTop (mkF m 261 #[.val (.int x0), .val (.int x1), .val (.int x2), .val (.int x3), .val (.int (2 : Int32)), .val (.int mm), .val (.double (9218868437227405312 : UInt64)), .second, .val (.int lo), .val (.int hi), .val (.double lw), .second, .val (.double hg), .second, .val (.double (FP.i2d hi)), .second, .val (.ref b18), .val (.ref b19), .val (.ref b86), .val (.double (own_val lw hg)), .second] [(.double (own_val lw hg))])) _
              refine XS.dload X90.here hx rfl (hb hby at_261) rfl ?_
              show Steps p.tables e below (T90.setTop (mkF m 263 #[.val (.int x0), .val (.int x1), .val (.int x2), .val (.int x3), .val (.int (2 : Int32)), .val (.int mm), .val (.double (9218868437227405312 : UInt64)), .second, .val (.int lo), .val (.int hi), .val (.double lw), .second, .val (.double hg), .second, .val (.double (FP.i2d hi)), .second, .val (.ref b18), .val (.ref b19), .val (.ref b86), .val (.double (own_val lw hg)), .second] [(.double (9218868437227405312 : UInt64)), (.double (own_val lw hg))])) _
              refine XS.dnegS X90.here hx rfl (hb hby at_263) rfl rfl ?_
              show Steps p.tables e below (T90.setTop (mkF m 264 #[.val (.int x0), .val (.int x1), .val (.int x2), .val (.int x3), .val (.int (2 : Int32)), .val (.int mm), .val (.double (9218868437227405312 : UInt64)), .second, .val (.int lo), .val (.int hi), .val (.double lw), .second, .val (.double hg), .second, .val (.double (FP.i2d hi)), .second, .val (.ref b18), .val (.ref b19), .val (.ref b86), .val (.double (own_val lw hg)), .second] [(.double (FP.dneg (9218868437227405312 : UInt64))), (.double (own_val lw hg))])) _
              refine XS.dcmpS X90.here hx rfl (hb hby at_264) rfl (own_t5 hj5 hc98) ?_
              show Steps p.tables e below (T90.setTop (mkF m 265 #[.val (.int x0), .val (.int x1), .val (.int x2), .val (.int x3), .val (.int (2 : Int32)), .val (.int mm), .val (.double (9218868437227405312 : UInt64)), .second, .val (.int lo), .val (.int hi), .val (.double lw), .second, .val (.double hg), .second, .val (.double (FP.i2d hi)), .second, .val (.ref b18), .val (.ref b19), .val (.ref b86), .val (.double (own_val lw hg)), .second] [(.int (0 : Int32))])) _
              refine XS.ifNo X90.here hx rfl (hb hby at_265) rfl ((if0 _ _).trans (teq (by decide : (0 : Int32) = (0 : Int32))).2) ?_
              show Steps p.tables e below (T90.setTop (mkF m 268 #[.val (.int x0), .val (.int x1), .val (.int x2), .val (.int x3), .val (.int (2 : Int32)), .val (.int mm), .val (.double (9218868437227405312 : UInt64)), .second, .val (.int lo), .val (.int hi), .val (.double lw), .second, .val (.double hg), .second, .val (.double (FP.i2d hi)), .second, .val (.ref b18), .val (.ref b19), .val (.ref b86), .val (.double (own_val lw hg)), .second] [])) _
              refine XS.iconst X90.here hx rfl (hb hby at_268) ?_
              show Steps p.tables e below (T90.setTop (mkF m 269 #[.val (.int x0), .val (.int x1), .val (.int x2), .val (.int x3), .val (.int (2 : Int32)), .val (.int mm), .val (.double (9218868437227405312 : UInt64)), .second, .val (.int lo), .val (.int hi), .val (.double lw), .second, .val (.double hg), .second, .val (.double (FP.i2d hi)), .second, .val (.ref b18), .val (.ref b19), .val (.ref b86), .val (.double (own_val lw hg)), .second] [(.int (1 : Int32))])) _
              refine XS.goto X90.here hx rfl (pc0 := 269) (pc' := 273) rfl (hb hby at_269) (by decide) (by decide) ?_
              show Steps p.tables e below (T90.setTop (mkF m 273 #[.val (.int x0), .val (.int x1), .val (.int x2), .val (.int x3), .val (.int (2 : Int32)), .val (.int mm), .val (.double (9218868437227405312 : UInt64)), .second, .val (.int lo), .val (.int hi), .val (.double lw), .second, .val (.double hg), .second, .val (.double (FP.i2d hi)), .second, .val (.ref b18), .val (.ref b19), .val (.ref b86), .val (.double (own_val lw hg)), .second] [(.int (1 : Int32))])) _
              exact retN X90 hx (t := .boolean) Bd.returns (by simp) (hb hby at_273) lhr
            · skip
              show Q0 Z x0 x1 x2 x3 h0 n0 _ T90.heap _
              rw [eq90]
              exact ⟨rfl, N90⟩
          · skip
            obtain ⟨lfs, lhr, lhrun, lhended, lhW, lhsame⟩ := X90.leave (v := some (.int (1 : Int32))) (fun h => by rw [Bd.returns] at h; cases h)
            refine ⟨_, _, k97 _ ?_, lhrun, lhended, _, _, rfl, ?_, ⟨_, rfl⟩, lhW, lhsame.mono (by decide) (by decide)⟩
            · skip
              show Steps p.tables e below (T90.setTop (mkF m 256 #[.val (.int x0), .val (.int x1), .val (.int x2), .val (.int x3), .val (.int (2 : Int32)), .val (.int mm), .val (.double (9218868437227405312 : UInt64)), .second, .val (.int lo), .val (.int hi), .val (.double lw), .second, .val (.double hg), .second, .val (.double (FP.i2d hi)), .second, .val (.ref b18), .val (.ref b19), .val (.ref b86), .val (.double (own_val lw hg)), .second] [(.int (5 : Int32)), (.int mm)])) _
              refine XS.icmpYes X90.here hx rfl (pc0 := 256) (pc' := 274) rfl (hb hby at_256) rfl (feq hc98).2 (by decide) (by decide) ?_
              show Steps p.tables e below (T90.setTop (mkF m 274 #[.val (.int x0), .val (.int x1), .val (.int x2), .val (.int x3), .val (.int (2 : Int32)), .val (.int mm), .val (.double (9218868437227405312 : UInt64)), .second, .val (.int lo), .val (.int hi), .val (.double lw), .second, .val (.double hg), .second, .val (.double (FP.i2d hi)), .second, .val (.ref b18), .val (.ref b19), .val (.ref b86), .val (.double (own_val lw hg)), .second] [])) _
              refine XS.dload X90.here hx rfl (hb hby at_274) rfl ?_
              show Steps p.tables e below (T90.setTop (mkF m 276 #[.val (.int x0), .val (.int x1), .val (.int x2), .val (.int x3), .val (.int (2 : Int32)), .val (.int mm), .val (.double (9218868437227405312 : UInt64)), .second, .val (.int lo), .val (.int hi), .val (.double lw), .second, .val (.double hg), .second, .val (.double (FP.i2d hi)), .second, .val (.ref b18), .val (.ref b19), .val (.ref b86), .val (.double (own_val lw hg)), .second] [(.double (own_val lw hg))])) _
              refine X90.ldc2DoubleC hx hown (mvT hZ (wd30 hw)) (g := (mkF m 276 #[.val (.int x0), .val (.int x1), .val (.int x2), .val (.int x3), .val (.int (2 : Int32)), .val (.int mm), .val (.double (9218868437227405312 : UInt64)), .second, .val (.int lo), .val (.int hi), .val (.double lw), .second, .val (.double hg), .second, .val (.double (FP.i2d hi)), .second, .val (.ref b18), .val (.ref b19), .val (.ref b86), .val (.double (own_val lw hg)), .second] [(.double (own_val lw hg))])) rfl (hb hby at_276) _ ?_
              show Steps p.tables e below (T90.setTop (mkF m 279 #[.val (.int x0), .val (.int x1), .val (.int x2), .val (.int x3), .val (.int (2 : Int32)), .val (.int mm), .val (.double (9218868437227405312 : UInt64)), .second, .val (.int lo), .val (.int hi), .val (.double lw), .second, .val (.double hg), .second, .val (.double (FP.i2d hi)), .second, .val (.ref b18), .val (.ref b19), .val (.ref b86), .val (.double (own_val lw hg)), .second] [(.double (4611686018427387904 : UInt64)), (.double (own_val lw hg))])) _
              refine XS.dmulS X90.here hx rfl (hb hby at_279) rfl (own_t0 hlh hj5 hc92 hc94 hc96 hc98).1 rfl ?_
              show Steps p.tables e below (T90.setTop (mkF m 280 #[.val (.int x0), .val (.int x1), .val (.int x2), .val (.int x3), .val (.int (2 : Int32)), .val (.int mm), .val (.double (9218868437227405312 : UInt64)), .second, .val (.int lo), .val (.int hi), .val (.double lw), .second, .val (.double hg), .second, .val (.double (FP.i2d hi)), .second, .val (.ref b18), .val (.ref b19), .val (.ref b86), .val (.double (own_val lw hg)), .second] [(.double (FP.dmul (own_val lw hg) (4611686018427387904 : UInt64)))])) _
              refine XS.iload X90.here hx rfl (hb hby at_280) rfl ?_
              show Steps p.tables e below (T90.setTop (mkF m 282 #[.val (.int x0), .val (.int x1), .val (.int x2), .val (.int x3), .val (.int (2 : Int32)), .val (.int mm), .val (.double (9218868437227405312 : UInt64)), .second, .val (.int lo), .val (.int hi), .val (.double lw), .second, .val (.double hg), .second, .val (.double (FP.i2d hi)), .second, .val (.ref b18), .val (.ref b19), .val (.ref b86), .val (.double (own_val lw hg)), .second] [(.int lo), (.double (FP.dmul (own_val lw hg) (4611686018427387904 : UInt64)))])) _
              refine XS.i2l X90.here hx rfl (hb hby at_282) rfl ?_
              show Steps p.tables e below (T90.setTop (mkF m 283 #[.val (.int x0), .val (.int x1), .val (.int x2), .val (.int x3), .val (.int (2 : Int32)), .val (.int mm), .val (.double (9218868437227405312 : UInt64)), .second, .val (.int lo), .val (.int hi), .val (.double lw), .second, .val (.double hg), .second, .val (.double (FP.i2d hi)), .second, .val (.ref b18), .val (.ref b19), .val (.ref b86), .val (.double (own_val lw hg)), .second] [(.long (lo.toInt64)), (.double (FP.dmul (own_val lw hg) (4611686018427387904 : UInt64)))])) _
              refine XS.iload X90.here hx rfl (hb hby at_283) rfl ?_
              show Steps p.tables e below (T90.setTop (mkF m 285 #[.val (.int x0), .val (.int x1), .val (.int x2), .val (.int x3), .val (.int (2 : Int32)), .val (.int mm), .val (.double (9218868437227405312 : UInt64)), .second, .val (.int lo), .val (.int hi), .val (.double lw), .second, .val (.double hg), .second, .val (.double (FP.i2d hi)), .second, .val (.ref b18), .val (.ref b19), .val (.ref b86), .val (.double (own_val lw hg)), .second] [(.int hi), (.long (lo.toInt64)), (.double (FP.dmul (own_val lw hg) (4611686018427387904 : UInt64)))])) _
              refine XS.i2l X90.here hx rfl (hb hby at_285) rfl ?_
              show Steps p.tables e below (T90.setTop (mkF m 286 #[.val (.int x0), .val (.int x1), .val (.int x2), .val (.int x3), .val (.int (2 : Int32)), .val (.int mm), .val (.double (9218868437227405312 : UInt64)), .second, .val (.int lo), .val (.int hi), .val (.double lw), .second, .val (.double hg), .second, .val (.double (FP.i2d hi)), .second, .val (.ref b18), .val (.ref b19), .val (.ref b86), .val (.double (own_val lw hg)), .second] [(.long (hi.toInt64)), (.long (lo.toInt64)), (.double (FP.dmul (own_val lw hg) (4611686018427387904 : UInt64)))])) _
              refine XS.ladd X90.here hx rfl (hb hby at_286) rfl ?_
              show Steps p.tables e below (T90.setTop (mkF m 287 #[.val (.int x0), .val (.int x1), .val (.int x2), .val (.int x3), .val (.int (2 : Int32)), .val (.int mm), .val (.double (9218868437227405312 : UInt64)), .second, .val (.int lo), .val (.int hi), .val (.double lw), .second, .val (.double hg), .second, .val (.double (FP.i2d hi)), .second, .val (.ref b18), .val (.ref b19), .val (.ref b86), .val (.double (own_val lw hg)), .second] [(.long ((lo.toInt64) + (hi.toInt64))), (.double (FP.dmul (own_val lw hg) (4611686018427387904 : UInt64)))])) _
              refine XS.l2dS X90.here hx rfl (hb hby at_287) rfl rfl ?_
              show Steps p.tables e below (T90.setTop (mkF m 288 #[.val (.int x0), .val (.int x1), .val (.int x2), .val (.int x3), .val (.int (2 : Int32)), .val (.int mm), .val (.double (9218868437227405312 : UInt64)), .second, .val (.int lo), .val (.int hi), .val (.double lw), .second, .val (.double hg), .second, .val (.double (FP.i2d hi)), .second, .val (.ref b18), .val (.ref b19), .val (.ref b86), .val (.double (own_val lw hg)), .second] [(.double (FP.l2d ((lo.toInt64) + (hi.toInt64)))), (.double (FP.dmul (own_val lw hg) (4611686018427387904 : UInt64)))])) _
              refine XS.dcmpS X90.here hx rfl (hb hby at_288) rfl (own_t0 hlh hj5 hc92 hc94 hc96 hc98).2 ?_
              show Steps p.tables e below (T90.setTop (mkF m 289 #[.val (.int x0), .val (.int x1), .val (.int x2), .val (.int x3), .val (.int (2 : Int32)), .val (.int mm), .val (.double (9218868437227405312 : UInt64)), .second, .val (.int lo), .val (.int hi), .val (.double lw), .second, .val (.double hg), .second, .val (.double (FP.i2d hi)), .second, .val (.ref b18), .val (.ref b19), .val (.ref b86), .val (.double (own_val lw hg)), .second] [(.int (0 : Int32))])) _
              refine XS.ifNo X90.here hx rfl (hb hby at_289) rfl ((if0 _ _).trans (teq (by decide : (0 : Int32) = (0 : Int32))).2) ?_
              show Steps p.tables e below (T90.setTop (mkF m 292 #[.val (.int x0), .val (.int x1), .val (.int x2), .val (.int x3), .val (.int (2 : Int32)), .val (.int mm), .val (.double (9218868437227405312 : UInt64)), .second, .val (.int lo), .val (.int hi), .val (.double lw), .second, .val (.double hg), .second, .val (.double (FP.i2d hi)), .second, .val (.ref b18), .val (.ref b19), .val (.ref b86), .val (.double (own_val lw hg)), .second] [])) _
              refine XS.iconst X90.here hx rfl (hb hby at_292) ?_
              show Steps p.tables e below (T90.setTop (mkF m 293 #[.val (.int x0), .val (.int x1), .val (.int x2), .val (.int x3), .val (.int (2 : Int32)), .val (.int mm), .val (.double (9218868437227405312 : UInt64)), .second, .val (.int lo), .val (.int hi), .val (.double lw), .second, .val (.double hg), .second, .val (.double (FP.i2d hi)), .second, .val (.ref b18), .val (.ref b19), .val (.ref b86), .val (.double (own_val lw hg)), .second] [(.int (1 : Int32))])) _
              refine XS.goto X90.here hx rfl (pc0 := 293) (pc' := 297) rfl (hb hby at_293) (by decide) (by decide) ?_
              show Steps p.tables e below (T90.setTop (mkF m 297 #[.val (.int x0), .val (.int x1), .val (.int x2), .val (.int x3), .val (.int (2 : Int32)), .val (.int mm), .val (.double (9218868437227405312 : UInt64)), .second, .val (.int lo), .val (.int hi), .val (.double lw), .second, .val (.double hg), .second, .val (.double (FP.i2d hi)), .second, .val (.ref b18), .val (.ref b19), .val (.ref b86), .val (.double (own_val lw hg)), .second] [(.int (1 : Int32))])) _
              exact retN X90 hx (t := .boolean) Bd.returns (by simp) (hb hby at_297) lhr
            · skip
              show Q0 Z x0 x1 x2 x3 h0 n0 _ T90.heap _
              rw [eq90]
              exact ⟨rfl, N90⟩
set_option maxRecDepth 65536 in
set_option maxHeartbeats 40000000 in
theorem comes_1 {Post : Tables → Env → Array Value → State → Outcome → State → Prop} (hpost : ∀ tb e args s v u, (limb_1_1.after args s (.returned v) u = true ∧ limb_1_2.after args s (.returned v) u = true ∧ True) → FrameEnd s (.returned v) u (Jvm.fieldLocs frame_1_writes args s ++ Jvm.arrayLocs frame_1_arrays args s ++ Jvm.staticLocs frame_1_statics s) 16 128 → Post tb e args s (.returned v) u) :
    ArmFor flags0 classFile x code maxLocals ret World_1 tables_1 room_1 Calls_1 rest_1 Pre_1 Post := by
  intro l hfl _ _ p e ha hc hk s m args below hf hA hF happ hP
  obtain ⟨hcalls, hrest, hpre⟩ := hP
  obtain ⟨-, -, -, hnamed, -, -, -, hat⟩ := (Spec.applies_iff hf).mp happ
  obtain ⟨hg, hn⟩ := and_e (Cond.before_iff.mp (show (Jvm.Cond.and given_1 narrow_1).before args s = true from hpre))
  obtain ⟨g1a, g1b⟩ := and_e hg
  obtain ⟨g2a, g2b⟩ := and_e g1b
  obtain ⟨g3a, g3b⟩ := and_e g2b
  obtain ⟨g4a, g4b⟩ := and_e g3b
  obtain ⟨w0, w1, w2, w3, rfl⟩ : ∃ w0 w1 w2 w3 : Value, args = #[w0, w1, w2, w3] := by
    have hs : args.size = 4 := by simpa [Cond.value, given_1] using g1a
    obtain ⟨L⟩ := args
    match L, hs with
    | [w0, w1, w2, w3], _ => exact ⟨w0, w1, w2, w3, rfl⟩
  have hw := fun d (hd : d ∈ tables_1) => atoms_spec (ws := Jvm.Cond.code x code maxLocals ret :: tables_1) hat d (List.mem_cons_of_mem _ hd)
  have hfit : Fit s := fun {y c} hc i hi => by
    obtain ⟨ha, rfl⟩ := Array.getElem?_eq_some_iff.mp hc
    have q := List.all_eq_true.mp ((Array.all_eq_true_iff_forall_mem.mp hF) _ (Array.getElem_mem ha)) i (List.mem_range.mpr hi)
    simpa [Array.getElem?_eq_getElem hi] using q
  obtain ⟨i0, ei0⟩ := is_v g2a
  obtain rfl : w0 = (.int i0) := Option.some.inj ei0
  obtain ⟨i1, ei1⟩ := is_v g3a
  obtain rfl : w1 = (.int i1) := Option.some.inj ei1
  obtain ⟨i2, ei2⟩ := is_v g4a
  obtain rfl : w2 = (.int i2) := Option.some.inj ei2
  obtain ⟨i3, ei3⟩ := is_v g4b
  obtain rfl : w3 = (.int i3) := Option.some.inj ei3
  obtain ⟨n, o, h1, h2, h3, _, L, rfl, ⟨rfl, N⟩, hq⟩ := rm0 l s _ hw tables_1 i0 i1 i2 i3 s.heap s.heap.size (Nat.le_refl _) p e ha hc hk s m _ below hf ((Spec.applies_iff_loose hf).mp happ).1 ⟨rfl, State.Warmed39.refl s, rfl⟩ trivial
  refine ⟨n, _, h1, h2, h3, hpost _ _ _ _ _ _ ⟨Cond.after_iff.mpr rfl, Cond.after_iff.mpr (eq_i res_at (Term.int_eval (1)) rfl), trivial⟩ ⟨hq.1, hq.2.1, (hq.2.2.sift fun y hy => Or.inr (N y hy)).mono (by decide) (by decide)⟩⟩
theorem main_1_1 : Claimed_1_1 := comes_1 fun _ _ _ _ _ _ h hF => ⟨h.1, hF⟩
theorem main_1_2 : Claimed_1_2 := comes_1 fun _ _ _ _ _ _ h hF => ⟨h.2.1, hF⟩
end Jvm.Pilot.@@N@@
namespace Jvm.Pilot.@@N@@
open Jvm Jvm.ClassFile Sem Op Lib Jvm.Free Jvm.Stand Jvm.Pilot.@@N@@.Jvm.D
/-! MADE BY PROGRAM (witnessworld.py) out of the Statement's table words and the real class files: 12 classes; the members and pool entries that the words name. The judged class is class 1, her method 1. -/
namespace start1
open Jvm.ClassFile
def u (s : String) : CpInfo := .utf8 (stringToUtf16 s)
/-- a pool by its gaps: so many unusable entries, then the entry; so many at the end -/
def gap : Nat → List CpInfo → List CpInfo
  | 0, r => r
  | n + 1, r => .unusable :: gap n r
def poolList (es : List (Nat × CpInfo)) (last : Nat) : List CpInfo := es.foldr (fun e r => gap e.1 (e.2 :: r)) (gap last [])
def pool (es : List (Nat × CpInfo)) (last : Nat) : Array CpInfo := ⟨poolList es last⟩
def fileOf (pool : Array CpInfo) (this : Nat) (attrs : Array Attribute := #[]) (ms : Array MethodInfo := #[]) (fl : Nat := 33) (sup : Nat := 0) (ifs : Array Nat := #[]) (fds : Array FieldInfo := #[]) : ClassFile where
  minorVersion := 0
  majorVersion := 65
  constantPool := pool
  accessFlags := fl
  thisClass := this
  superClass := sup
  interfaces := ifs
  fields := fds
  methods := ms
  attributes := attrs
def plain (name : String) (sup : Option ClassId) : Class where
  name := name
  kind := .ordinary
  loader := none
  accessFlags := 33
  super := sup
  interfaces := #[]
  cf := none
  fields := #[]
  methods := #[]
  instanceTypes := #[]
  staticTypes := #[]
  resolved := #[]
  callSites := []
  init := .initialized
  statics := none
  mirror := none

def pool0 : Array CpInfo := pool [(5, u "<init>"), (0, u "()V"), (1, .class_ 10), (1, u "java/lang/Object")] 113

def k0c0 : Code := { maxStack := 0, maxLocals := 1, code := object_method_1_code, exceptionTable := #[], attributes := #[] }
def k0m0 : Method := { name := "<init>", desc := "()V", sig := { parameters := [], returnType := none }, accessFlags := 1, code := some k0c0 }
/-- java/lang/Object -/
def k0 : Class := { plain "java/lang/Object" none with
  accessFlags := 33
  interfaces := #[]
  cf := some (fileOf pool0 8 #[] #[{ accessFlags := 1, nameIndex := 5, descriptorIndex := 6, attributes := #[] }] 33 0 #[] #[])
  fields := #[]
  methods := #[k0m0]
  instanceTypes := #[]
  staticTypes := #[]
  resolved := Array.replicate 124 none
  statics := none }

def pool1 : Array CpInfo := pool [(2, .class_ 4), (1, u "java/lang/Object"), (0, u "<init>"), (0, u "()V"), (0, .integer 2147483647), (0, .double 9218868437227405312), (1, .methodref 11 12), (0, .class_ 13), (0, .nameAndType 14 15), (0, u "java/lang/Math"), (0, u "min"), (0, u "(II)I"), (0, .methodref 11 17), (0, .nameAndType 18 15), (0, u "max"), (0, .double 4613937818241073152), (1, .class_ 22), (0, u "com/example/formula_to_strategy/formulatostrategy/engine/ValueBounds"), (0, .methodref 21 24), (0, .nameAndType 5 25), (0, u "([D[D)V"), (0, .methodref 21 27), (0, .nameAndType 28 29), (0, u "value"), (0, u "(I)D"), (0, .double 4611686018427387904), (1, .class_ 33), (0, u "com/example/formula_to_strategy/formulatostrategy/engine/ValueBoundsValuePinLaw"), (2, u "law"), (0, u "(IIII)Z")] 5

def k1m0 : Method := { name := "<init>", desc := "()V", sig := { parameters := [], returnType := none }, accessFlags := 1, code := none }
def k1c1 : Code := { maxStack := 6, maxLocals := 21, code := code, exceptionTable := #[], attributes := #[] }
def k1m1 : Method := { name := "law", desc := "(IIII)Z", sig := { parameters := [.int, .int, .int, .int], returnType := some .boolean }, accessFlags := 9, code := some k1c1 }
/-- com/example/formula_to_strategy/formulatostrategy/engine/ValueBoundsValuePinLaw -/
def k1 : Class := { plain "com/example/formula_to_strategy/formulatostrategy/engine/ValueBoundsValuePinLaw" (some 0) with
  accessFlags := 49
  interfaces := #[]
  cf := some (fileOf pool1 32 #[] #[{ accessFlags := 1, nameIndex := 5, descriptorIndex := 6, attributes := #[] }, { accessFlags := 9, nameIndex := 36, descriptorIndex := 37, attributes := #[] }] 49 2 #[] #[])
  fields := #[]
  methods := #[k1m0, k1m1]
  instanceTypes := #[]
  staticTypes := #[]
  resolved := Array.replicate 43 none
  statics := none }

def pool2 : Array CpInfo := pool [(1, .class_ 2), (0, u "java/lang/Math"), (1, .class_ 6), (1, u "java/lang/Object"), (0, u "<init>"), (0, u "()V"), (89, .class_ 100), (1, u "java/lang/Math$RandomNumberGeneratorHolder"), (71, u "negativeZeroFloatBits"), (0, u "J"), (2, u "negativeZeroDoubleBits"), (21, u "max"), (2, u "min"), (43, u "$assertionsDisabled"), (0, u "Z"), (88, u "(II)I"), (2, u "twoToTheDoubleScaleDown"), (0, u "D"), (4, u "twoToTheDoubleScaleUp"), (9, u "E"), (3, u "PI"), (2, u "TAU"), (2, u "DEGREES_TO_RADIANS"), (0, u "RADIANS_TO_DEGREES")] 94

def k2m0 : Method := { name := "<init>", desc := "()V", sig := { parameters := [], returnType := none }, accessFlags := 2, code := none }
def k2c1 : Code := { maxStack := 2, maxLocals := 2, code := jdk_29_method_65_code, exceptionTable := #[], attributes := #[] }
def k2m1 : Method := { name := "max", desc := "(II)I", sig := { parameters := [.int, .int], returnType := some .int }, accessFlags := 9, code := some k2c1 }
def k2c2 : Code := { maxStack := 2, maxLocals := 2, code := jdk_29_method_69_code, exceptionTable := #[], attributes := #[] }
def k2m2 : Method := { name := "min", desc := "(II)I", sig := { parameters := [.int, .int], returnType := some .int }, accessFlags := 9, code := some k2c2 }
/-- java/lang/Math -/
def k2 : Class := { plain "java/lang/Math" (some 0) with
  accessFlags := 49
  interfaces := #[]
  cf := some (fileOf pool2 1 #[.nestMembers #[98]] #[{ accessFlags := 2, nameIndex := 7, descriptorIndex := 8, attributes := #[] }, { accessFlags := 9, nameIndex := 198, descriptorIndex := 335, attributes := #[] }, { accessFlags := 9, nameIndex := 201, descriptorIndex := 335, attributes := #[] }] 49 4 #[] #[{ accessFlags := 25, nameIndex := 354, descriptorIndex := 339, attributes := #[] }, { accessFlags := 25, nameIndex := 358, descriptorIndex := 339, attributes := #[] }, { accessFlags := 25, nameIndex := 361, descriptorIndex := 339, attributes := #[] }, { accessFlags := 26, nameIndex := 364, descriptorIndex := 339, attributes := #[] }, { accessFlags := 26, nameIndex := 365, descriptorIndex := 339, attributes := #[] }, { accessFlags := 26, nameIndex := 172, descriptorIndex := 173, attributes := #[] }, { accessFlags := 26, nameIndex := 176, descriptorIndex := 173, attributes := #[] }, { accessFlags := 8, nameIndex := 344, descriptorIndex := 339, attributes := #[] }, { accessFlags := 8, nameIndex := 338, descriptorIndex := 339, attributes := #[] }, { accessFlags := 4120, nameIndex := 245, descriptorIndex := 246, attributes := #[] }])
  fields := #[{ name := "E", type := .double, accessFlags := 25, slot := 0, constantValue := 0 }, { name := "PI", type := .double, accessFlags := 25, slot := 1, constantValue := 0 }, { name := "TAU", type := .double, accessFlags := 25, slot := 2, constantValue := 0 }, { name := "DEGREES_TO_RADIANS", type := .double, accessFlags := 26, slot := 3, constantValue := 0 }, { name := "RADIANS_TO_DEGREES", type := .double, accessFlags := 26, slot := 4, constantValue := 0 }, { name := "negativeZeroFloatBits", type := .long, accessFlags := 26, slot := 5, constantValue := 0 }, { name := "negativeZeroDoubleBits", type := .long, accessFlags := 26, slot := 6, constantValue := 0 }, { name := "twoToTheDoubleScaleUp", type := .double, accessFlags := 8, slot := 7, constantValue := 0 }, { name := "twoToTheDoubleScaleDown", type := .double, accessFlags := 8, slot := 8, constantValue := 0 }, { name := "$assertionsDisabled", type := .boolean, accessFlags := 4120, slot := 9, constantValue := 0 }]
  methods := #[k2m0, k2m1, k2m2]
  instanceTypes := #[]
  staticTypes := #[.double, .double, .double, .double, .double, .long, .long, .double, .double, .boolean]
  resolved := Array.replicate 460 none
  statics := none }

def pool3 : Array CpInfo := pool [(1, .methodref 2 3), (0, .class_ 4), (0, .nameAndType 5 6), (0, u "java/lang/Object"), (0, u "<init>"), (0, u "()V"), (0, .fieldref 8 9), (0, .class_ 10), (0, .nameAndType 11 12), (0, u "com/example/formula_to_strategy/formulatostrategy/engine/ValueBounds"), (0, u "lower"), (0, u "[D"), (0, .fieldref 8 14), (0, .nameAndType 15 12), (0, u "upper"), (0, .double 4611686018427387904), (1, u "([D[D)V"), (2, u "(I)D"), (0, u "value")] 6

def k3c0 : Code := { maxStack := 2, maxLocals := 3, code := prog_24_method_1_code, exceptionTable := #[], attributes := #[] }
def k3m0 : Method := { name := "<init>", desc := "([D[D)V", sig := { parameters := [(.array .double), (.array .double)], returnType := none }, accessFlags := 0, code := some k3c0 }
def k3c1 : Code := { maxStack := 6, maxLocals := 6, code := prog_24_method_4_code, exceptionTable := #[], attributes := #[] }
def k3m1 : Method := { name := "value", desc := "(I)D", sig := { parameters := [.int], returnType := some .double }, accessFlags := 1, code := some k3c1 }
/-- com/example/formula_to_strategy/formulatostrategy/engine/ValueBounds -/
def k3 : Class := { plain "com/example/formula_to_strategy/formulatostrategy/engine/ValueBounds" (some 0) with
  accessFlags := 49
  interfaces := #[]
  cf := some (fileOf pool3 8 #[] #[{ accessFlags := 0, nameIndex := 5, descriptorIndex := 18, attributes := #[] }, { accessFlags := 1, nameIndex := 22, descriptorIndex := 21, attributes := #[] }] 49 2 #[] #[{ accessFlags := 18, nameIndex := 11, descriptorIndex := 12, attributes := #[] }, { accessFlags := 18, nameIndex := 15, descriptorIndex := 12, attributes := #[] }])
  fields := #[{ name := "lower", type := (.array .double), accessFlags := 18, slot := 0, constantValue := 0 }, { name := "upper", type := (.array .double), accessFlags := 18, slot := 1, constantValue := 0 }]
  methods := #[k3m0, k3m1]
  instanceTypes := #[(.array .double), (.array .double)]
  staticTypes := #[]
  resolved := Array.replicate 29 none
  statics := none }

def pool4 : Array CpInfo := pool [(1, u "java/lang/Cloneable"), (0, .class_ 1), (0, u "java/lang/Object"), (0, .class_ 3)] 3

/-- java/lang/Cloneable -/
def k4 : Class := { plain "java/lang/Cloneable" (some 0) with
  accessFlags := 1537
  interfaces := #[]
  cf := some (fileOf pool4 2 #[] #[] 1537 4 #[] #[])
  fields := #[]
  methods := #[]
  instanceTypes := #[]
  staticTypes := #[]
  resolved := Array.replicate 8 none
  statics := none }

def pool5 : Array CpInfo := pool [(1, u "java/io/Serializable"), (0, .class_ 1), (0, u "java/lang/Object"), (0, .class_ 3)] 3

/-- java/io/Serializable -/
def k5 : Class := { plain "java/io/Serializable" (some 0) with
  accessFlags := 1537
  interfaces := #[]
  cf := some (fileOf pool5 2 #[] #[] 1537 4 #[] #[])
  fields := #[]
  methods := #[]
  instanceTypes := #[]
  staticTypes := #[]
  resolved := Array.replicate 8 none
  statics := none }

/-- the primitive byte -/
def k6 : Class := { plain "byte" none with kind := .primitive 'B', accessFlags := 0x411 }
/-- [B -/
def k7 : Class := { plain "[B" (some 0) with kind := .array 6 .byte, interfaces := #[4, 5], accessFlags := 1041 }

/-- the primitive double -/
def k8 : Class := { plain "double" none with kind := .primitive 'D', accessFlags := 0x411 }
/-- [D -/
def k9 : Class := { plain "[D" (some 0) with kind := .array 8 .double, interfaces := #[4, 5], accessFlags := 1041 }

/-- the primitive int -/
def k10 : Class := { plain "int" none with kind := .primitive 'I', accessFlags := 0x411 }
/-- [I -/
def k11 : Class := { plain "[I" (some 0) with kind := .array 10 .int, interfaces := #[4, 5], accessFlags := 1041 }

def heap : Heap := #[]
def classes : Array Class := #[k0, k1, k2, k3, k4, k5, k6, k7, k8, k9, k10, k11]
def interned : List (Array UInt16 × Addr) := []
def slotsUsed : Nat := 0
def theMethod : MethodId := ⟨1, 1⟩
def args0 : Array Value := #[.int 5, .int 7, .int 9, .int 3]
def aboutOver (below : List Frame) : State where
  vm := { classes := classes, interned := interned.toArray }
  heap := heap
  slotsUsed := slotsUsed
  threads := #[{ frames := .invoking theMethod args0 :: below }]
def below0 : List Frame := [.native { method := ⟨0, 0⟩, args := #[] }]
def about1 : State := aboutOver below0
def p0 : Program := .bare "" "" ""
def e0 : Env := launch0.env 0 0 0
theorem w_frames : about1.frames = Frame.invoking theMethod args0 :: below0 := rfl
set_option maxRecDepth 65536 in
theorem w_args : argsFit about1.vm theMethod args0 = true := by decide +kernel
set_option maxRecDepth 65536 in
theorem w_heap : heapFits about1 = true := by decide +kernel
set_option maxRecDepth 65536 in
theorem w_runnable : about1.curStatus? = some .runnable := by decide +kernel
set_option maxRecDepth 65536 in
theorem w_alone : about1.alone = true := by decide +kernel
set_option maxRecDepth 65536 in
theorem w_named : about1.methodNamed? x = some theMethod := by decide +kernel
set_option maxRecDepth 65536 in
theorem w_hears : about1.hears theMethod below0 = true := by decide +kernel
set_option maxRecDepth 65536 in
theorem w_ripe : about1.ripe theMethod args0 below0 = true := by decide +kernel
theorem w_running : about1.status = .running := rfl
set_option maxRecDepth 65536 in
theorem w_room : about1.hasRoom e0.platform room_1 = true :=
  launch0.hasRoom_least _ room_1 (by decide +kernel) (by decide +kernel) (by decide +kernel) (by decide +kernel) (by decide +kernel) (by decide +kernel)
theorem allAtoms_all (ts : List Jvm.Cond) (a : Array Jvm.Value) (st : Jvm.State) : (allAtoms ts).before a st = ts.all (fun c => c.before a st) := by
  induction ts with
  | nil => rfl
  | cons c t ih =>
    show (Jvm.Cond.and c (allAtoms t)).before a st = _
    rw [Jvm.Cond.before_and, ih, List.all_cons]
def words1 : List Jvm.Cond := Jvm.Cond.code x code maxLocals ret :: tables_1
/-- a 'code' word, met by the world's own term for the bytes: nothing is compared byte by byte -/
theorem code_word {y : MethodName} {bytes : ByteArray} {mx : Nat} {rt : Option FieldType} {a : Array Value} {s : State} {m : MethodId} {meth : Method} {c : Code} (h1 : s.methodNamed? y = some m) (h2 : s.vm.method? m = some meth) (h3 : meth.code = some c) (h4 : c.code = bytes)
    (h5 : (c.maxLocals == mx && c.exceptionTable.isEmpty && decide (c.maxStack ≤ mostOperands) && decide (meth.sig.returnType = rt) && !meth.locks && decide (parseMethodDescriptor y.desc = some meth.sig)) = true) : (Jvm.Cond.code y bytes mx rt).before a s = true := by
  simp only [Bool.and_eq_true, beq_iff_eq, Bool.not_eq_true', decide_eq_true_eq] at h5
  obtain ⟨⟨⟨⟨⟨g1, g2⟩, g3⟩, g4⟩, g5⟩, g6⟩ := h5
  simp [Cond.before, Cond.holds, Cond.value, h1, h2, h3, h4, g1, g2, g3, g4, g5, g6]
def isCode : Jvm.Cond → Bool
  | .code _ _ _ _ => true
  | _ => false
theorem all_split {L : List Jvm.Cond} {P : Jvm.Cond → Bool} (h1 : L.all (fun c => isCode c || P c) = true) (h2 : ∀ c ∈ L.filter isCode, P c = true) : L.all P = true := by
  refine List.all_eq_true.mpr fun c hc => ?_
  have h := List.all_eq_true.mp h1 c hc
  rcases Bool.eq_false_or_eq_true (isCode c) with hi | hi
  · exact h2 c (List.mem_filter.mpr ⟨hc, hi⟩)
  · simpa [hi] using h
set_option maxRecDepth 65536 in
theorem w_c0 : (Jvm.Cond.code x code maxLocals ret).before args0 about1 = true := code_word (m := ⟨1, 1⟩) (meth := k1m1) (c := k1c1) (by decide +kernel) rfl rfl rfl (by decide +kernel)
set_option maxRecDepth 65536 in
theorem w_c1 : (Jvm.Cond.code ({ cls := "java/lang/Math", name := "min", desc := "(II)I" } : Jvm.MethodName) jdk_29_method_69_code (2 : Nat) (Option.some Jvm.ClassFile.FieldType.int)).before args0 about1 = true := code_word (m := ⟨2, 2⟩) (meth := k2m2) (c := k2c2) (by decide +kernel) rfl rfl rfl (by decide +kernel)
set_option maxRecDepth 65536 in
theorem w_c2 : (Jvm.Cond.code ({ cls := "java/lang/Math", name := "max", desc := "(II)I" } : Jvm.MethodName) jdk_29_method_65_code (2 : Nat) (Option.some Jvm.ClassFile.FieldType.int)).before args0 about1 = true := code_word (m := ⟨2, 1⟩) (meth := k2m1) (c := k2c1) (by decide +kernel) rfl rfl rfl (by decide +kernel)
set_option maxRecDepth 65536 in
theorem w_c3 : (Jvm.Cond.code ({ cls := "com/example/formula_to_strategy/formulatostrategy/engine/ValueBounds", name := "<init>", desc := "([D[D)V" } : Jvm.MethodName) prog_24_method_1_code (3 : Nat) (Option.none : Option Jvm.ClassFile.FieldType)).before args0 about1 = true := code_word (m := ⟨3, 0⟩) (meth := k3m0) (c := k3c0) (by decide +kernel) rfl rfl rfl (by decide +kernel)
set_option maxRecDepth 65536 in
theorem w_c4 : (Jvm.Cond.code ({ cls := "java/lang/Object", name := "<init>", desc := "()V" } : Jvm.MethodName) object_method_1_code (1 : Nat) (Option.none : Option Jvm.ClassFile.FieldType)).before args0 about1 = true := code_word (m := ⟨0, 0⟩) (meth := k0m0) (c := k0c0) (by decide +kernel) rfl rfl rfl (by decide +kernel)
set_option maxRecDepth 65536 in
theorem w_c5 : (Jvm.Cond.code ({ cls := "com/example/formula_to_strategy/formulatostrategy/engine/ValueBounds", name := "value", desc := "(I)D" } : Jvm.MethodName) prog_24_method_4_code (6 : Nat) (Option.some Jvm.ClassFile.FieldType.double)).before args0 about1 = true := code_word (m := ⟨3, 1⟩) (meth := k3m1) (c := k3c1) (by decide +kernel) rfl rfl rfl (by decide +kernel)
def codes1 : List Jvm.Cond := [Jvm.Cond.code x code maxLocals ret, Jvm.Cond.code ({ cls := "java/lang/Math", name := "min", desc := "(II)I" } : Jvm.MethodName) jdk_29_method_69_code (2 : Nat) (Option.some Jvm.ClassFile.FieldType.int), Jvm.Cond.code ({ cls := "java/lang/Math", name := "max", desc := "(II)I" } : Jvm.MethodName) jdk_29_method_65_code (2 : Nat) (Option.some Jvm.ClassFile.FieldType.int), Jvm.Cond.code ({ cls := "com/example/formula_to_strategy/formulatostrategy/engine/ValueBounds", name := "<init>", desc := "([D[D)V" } : Jvm.MethodName) prog_24_method_1_code (3 : Nat) (Option.none : Option Jvm.ClassFile.FieldType), Jvm.Cond.code ({ cls := "java/lang/Object", name := "<init>", desc := "()V" } : Jvm.MethodName) object_method_1_code (1 : Nat) (Option.none : Option Jvm.ClassFile.FieldType), Jvm.Cond.code ({ cls := "com/example/formula_to_strategy/formulatostrategy/engine/ValueBounds", name := "value", desc := "(I)D" } : Jvm.MethodName) prog_24_method_4_code (6 : Nat) (Option.some Jvm.ClassFile.FieldType.double)]
set_option maxRecDepth 65536 in
theorem codes_eq : words1.filter isCode = codes1 := rfl
theorem w_codes : ∀ c ∈ words1.filter isCode, c.before args0 about1 = true := by
  rw [codes_eq]
  intro c hc
  simp only [codes1, List.mem_cons, List.not_mem_nil, or_false] at hc
  rcases hc with rfl | rfl | rfl | rfl | rfl | rfl
  · exact w_c0
  · exact w_c1
  · exact w_c2
  · exact w_c3
  · exact w_c4
  · exact w_c5
set_option maxRecDepth 65536 in
theorem w_t1 : (words1.take 24).all (fun c => isCode c || c.before args0 about1) = true := by decide +kernel
set_option maxRecDepth 65536 in
theorem w_t2 : (words1.drop 24).all (fun c => isCode c || c.before args0 about1) = true := by decide +kernel
theorem w_tables : (allAtoms (Jvm.Cond.code x code maxLocals ret :: tables_1)).before args0 about1 = true := by
  rw [allAtoms_all]
  show words1.all (fun c => c.before args0 about1) = true
  refine all_split ?_ w_codes
  rw [← List.take_append_drop 24 words1, List.all_append, w_t1, w_t2]
  rfl
set_option maxRecDepth 65536 in
theorem w_case : (Jvm.Cond.and given_1 narrow_1).before args0 about1 = true := by decide +kernel
theorem w_applies : (headSpec (Jvm.Cond.code x code maxLocals ret :: tables_1) room_1).applies x e0.platform about1 = true :=
  (Spec.applies_iff w_frames).mpr ⟨w_running, w_runnable, w_alone, w_named, w_hears, w_ripe, w_room, w_tables⟩
theorem atStart : AtStart classFile x code maxLocals ret World_1 tables_1 room_1 Calls_1 rest_1 Pre_1 launch0 p0 e0 about1 theMethod args0 below0 :=
  ⟨lists_1, trivial, launch0.admits_env _ _ _, launch0.least_env, fairChoices_fair.cas, fairChoices_fair.clock, w_frames, w_args, w_heap, w_applies, trivial, trivial, w_case⟩
end start1
theorem witness_1 : WitnessClaimed_1 := ⟨start1.p0, start1.e0, start1.about1, start1.theMethod, start1.args0, start1.below0, start1.atStart⟩
end Jvm.Pilot.@@N@@
